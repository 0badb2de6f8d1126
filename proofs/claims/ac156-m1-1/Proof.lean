import JvmDerived
import JvmDerived.Pilot.@@N@@Statement
import JvmDerived.Pilot.@@N@@Code
set_option linter.unusedVariables false
set_option linter.unusedSimpArgs false
@@BLOCK:NumsL.lean.txt@@
namespace Jvm.Pilot.@@N@@
open Jvm Jvm.ClassFile Sem Op Lib Jvm.Free Jvm.Stand Jvm.LawKit Jvm.RoadKit Bundle Jvm.Pilot.@@N@@.Jvm.D
/-! own layer: the run from here ends, and Q holds of what it returned, of the heap and of the places written -/
def own_End (p : Program) (e : Env) (below : List Frame) (P : State → Outcome → Prop) (T : State) (f : JFrame) : Prop := ∃ s₂ o, Steps p.tables e below (T.setTop f) s₂ ∧ P s₂ o
def own_P (below : List Frame) (s : State) (Q : Option Value → Heap → List Loc → Prop) (kc ns : Nat) : State → Outcome → Prop := fun s₂ o => s₂.status = .running ∧ Ended s₂ below o ∧ ∃ v L, o = .returned v ∧ Q v s₂.heap L ∧ FrameEnd s o s₂ L kc ns
def own_Met (l : Launch) (Z : State) (y : MethodName) (bytes : ByteArray) (maxL : Nat) (ret : Option FieldType) (ws : List Jvm.Cond) (rm : Room) (as' : Array Value) (h : Heap) (Q : Option Value → Heap → List Loc → Prop) : Prop :=
  MetFree l y (head1 (Jvm.Cond.code y bytes maxL ret :: ws) rm) (fun a U => a = as' ∧ Z.Warmed39 U.vm ∧ U.heap = h) (fun _ _ _ _ _ => True) (fun _ U o U' => ∃ v L, o = .returned v ∧ Q v U'.heap L ∧ FrameEnd U o U' L rm.cells rm.slots)
section OwnSteps
variable {p : Program} {l : Launch} {e : Env} {R : Room} {s : State} {m : MethodId} {args : Array Value} {below : List Frame} {meth : Method} {c : Code} {T : State} {locs : List Loc} {cells slots : Nat} {P : State → Outcome → Prop} {Q : Option Value → Heap → List Loc → Prop} {kc ns : Nat} {Z : State} {a0 : Array Value} {h : Heap} {f : JFrame}
theorem own_go {T' : State} {f' : JFrame} (st : ∀ t, Steps p.tables e below (T'.setTop f') t → Steps p.tables e below (T.setTop f) t) (k : own_End p e below P T' f') : own_End p e below P T f := by
  obtain ⟨s₂, o, h1, h2⟩ := k
  exact ⟨s₂, o, st _ h1, h2⟩
theorem own_via {T' : State} {f' : JFrame} (st : Steps p.tables e below (T.setTop f) (T'.setTop f')) (k : own_End p e below P T' f') : own_End p e below P T f := own_go (fun _ h => st.trans h) k
theorem own_exf (h : False) : own_End p e below P T f := h.elim
theorem own_body {y : MethodName} {bytes : ByteArray} {maxL : Nat} {ret : Option FieldType} {ws : List Jvm.Cond} {rm : Room} {as' : Array Value} (hpl : plainFor y = true)
    (body : ∀ (p : Program) (e : Env) (s : State) (m : MethodId) (below : List Frame) (meth : Method) (c : Code) (s₁ : State), p.tables.exec = Jvm.exec → Z.Warmed39 s.vm → c.code = bytes → c.maxLocals = maxL → s.vm.findClass y.cls = some m.cls → meth.name = y.name → meth.sig.returnType = ret → meth.locks = false →
      Stand p l e rm s m as' below meth c s₁ [] 0 0 → s₁.heap = h → own_End p e below (own_P below s Q rm.cells rm.slots) s₁ (entryFrame m as' maxL)) : own_Met l Z y bytes maxL ret ws rm as' h Q := by
  refine MetFree.of_bodySF hpl hisR ?_
  intro p e s m args below meth c s₁ Bd hml0 hP hK
  obtain ⟨rfl, hZ, hh⟩ := hP
  exact body p e s m below meth c s₁ Bd.exec hZ Bd.bytes hml0 (findClass_of_methodNamed Bd.named) (name_of_methodNamed Bd.named Bd.method).1 Bd.returns Bd.notSynchronized (Stand.of_body Bd) (by rw [← hh, Bd.state]; rfl)
theorem own_cast {g g' : JFrame} (q : g = g') (k : own_End p e below P T g') : own_End p e below P T g := q ▸ k
theorem own_ret (X : Stand p l e R s m args below meth c T locs cells slots) (hP : P = own_P below s Q kc ns) (hlk : meth.locks = false) (eT : T.heap = h) {v : Option Value} (hv : meth.sig.returnType = none → v = none) (hk : cells ≤ kc) (hn : slots ≤ ns) (hQ : Q v h locs)
    (st : ∀ fs, (∀ (f : JFrame) (acts : List Action), f.method = m → f.locked = none → f.entered = [] → (doReturn e (T.setTop f) acts v).1 = T.setFrames fs) → Steps p.tables e below (T.setTop f) (T.setFrames fs)) : own_End p e below P T f := by
  obtain ⟨fs, hr, hrun, hended, hW, hsame⟩ := X.leave hv hlk
  subst hP
  exact ⟨_, _, st fs hr, hrun, hended, _, _, rfl, (eT ▸ hQ : Q v T.heap locs), ⟨_, rfl⟩, hW, hsame.mono hk hn⟩
theorem own_retV (X : Stand p l e R s m args below meth c T locs cells slots) (hP : P = own_P below s Q kc ns) (hx : p.tables.exec = Jvm.exec) (hlk : meth.locks = false) (eT : T.heap = h) {pc : Nat} {Ls : Array Slot} (hret : meth.sig.returnType = none) (hd : decode c.code pc = .ok (.return_, 1)) (hk : cells ≤ kc) (hn : slots ≤ ns) (hQ : Q none h locs) :
    own_End p e below P T (mkF m pc Ls []) := own_ret X hP hlk eT (fun _ => rfl) hk hn hQ fun _ hr => X.returnOut hx hret hd hr
theorem own_retI (X : Stand p l e R s m args below meth c T locs cells slots) (hP : P = own_P below s Q kc ns) (hx : p.tables.exec = Jvm.exec) (hlk : meth.locks = false) (eT : T.heap = h) {pc : Nat} {Ls : Array Slot} {z : Int32} {rest : List Value} (hret : meth.sig.returnType = some .int) (hd : decode c.code pc = .ok (.ireturn, 1)) (hk : cells ≤ kc) (hn : slots ≤ ns) (hQ : Q (some (.int z)) h locs) :
    own_End p e below P T (mkF m pc Ls (.int z :: rest)) := own_ret X hP hlk eT (fun h => by rw [hret] at h; cases h) hk hn hQ fun fs hr => retOut X hx hret rfl (Or.inl ⟨rfl, Or.inl rfl, z, rfl⟩) hd hr
theorem own_retN (X : Stand p l e R s m args below meth c T locs cells slots) (hP : P = own_P below s Q kc ns) (hx : p.tables.exec = Jvm.exec) (hlk : meth.locks = false) (eT : T.heap = h) {pc : Nat} {Ls : Array Slot} {z : Int32} {rest : List Value} {t : FieldType} (hret : meth.sig.returnType = some t) (ht : t = .boolean ∨ t = .byte ∨ t = .char ∨ t = .short) (hd : decode c.code pc = .ok (.ireturn, 1)) (hk : cells ≤ kc) (hn : slots ≤ ns) {z' : Int32} (hz : nar t z = z') (hQ : Q (some (.int z')) h locs) :
    own_End p e below P T (mkF m pc Ls (.int z :: rest)) := by
  subst hz
  exact own_ret X hP hlk eT (fun h => by rw [hret] at h; cases h) hk hn hQ fun fs hr => retN X hx hret ht hd hr
theorem own_retJ (X : Stand p l e R s m args below meth c T locs cells slots) (hP : P = own_P below s Q kc ns) (hx : p.tables.exec = Jvm.exec) (hlk : meth.locks = false) (eT : T.heap = h) {pc : Nat} {Ls : Array Slot} {z : Int64} {rest : List Value} (hret : meth.sig.returnType = some .long) (hd : decode c.code pc = .ok (.lreturn, 1)) (hk : cells ≤ kc) (hn : slots ≤ ns) (hQ : Q (some (.long z)) h locs) :
    own_End p e below P T (mkF m pc Ls (.long z :: rest)) := own_ret X hP hlk eT (fun h => by rw [hret] at h; cases h) hk hn hQ fun fs hr => retOut X hx hret rfl (Or.inr (Or.inl ⟨rfl, rfl, z, rfl⟩)) hd hr
theorem own_retA (X : Stand p l e R s m args below meth c T locs cells slots) (hP : P = own_P below s Q kc ns) (hx : p.tables.exec = Jvm.exec) (hlk : meth.locks = false) (eT : T.heap = h) {pc : Nat} {Ls : Array Slot} {w : Value} {rest : List Value} {t : FieldType} (hret : meth.sig.returnType = some t) (ht : t.isReference = true) (hw : w.isRef = true) (hnr : narrow t w = w) (hd : decode c.code pc = .ok (.areturn, 1)) (hk : cells ≤ kc) (hn : slots ≤ ns) (hQ : Q (some w) h locs) :
    own_End p e below P T (mkF m pc Ls (w :: rest)) := own_ret X hP hlk eT (fun h => by rw [hret] at h; cases h) hk hn hQ fun fs hr => retOut X hx hret hnr (Or.inr (Or.inr (Or.inr (Or.inr ⟨rfl, ht, hw⟩)))) hd hr
theorem own_callS (X : Stand p l e R s m args below meth c T locs cells slots) (hx : p.tables.exec = Jvm.exec) (hZ : Z.Warmed39 s.vm) {own : String} (hown : s.vm.findClass own = some m.cls) (eT : T.heap = h) {index : Nat} {y : MethodName} {bytes : ByteArray} {maxL : Nat} {ret : Option FieldType} {rm : Room} {as' : Array Value} {Q' : Option Value → Heap → List Loc → Prop}
    (w1 : (Cond.methodLink own index y).before a0 Z = true) (w2 : (Cond.static y).before a0 Z = true) (w3 : (Cond.initialized y.cls).before a0 Z = true) (w4 : (Cond.code y bytes maxL ret).before a0 Z = true) (hy : y.cls ≠ "java/lang/invoke/MethodHandle" ∧ y.cls ≠ "java/lang/invoke/VarHandle")
    (hM : own_Met l Z y bytes maxL ret [] rm as' h Q') {g : JFrame} (hg : g.method = m) (hsize : g.locals.size = c.maxLocals) {argsL rest : List Value} (hlen : ∀ sig, parseMethodDescriptor y.desc = some sig → argsL.length = sig.parameters.length) (hstack : g.stack = argsL.reverse ++ rest) (has : argsL.toArray = as') {W : Nat} (hW : 2 * g.monitorRoom + (rest.map fun v => v.category).sum ≤ W) (hdg : decode c.code g.pc = .ok (.invokestatic index, 3))
    (hf : rm.frames + 1 ≤ R.frames) (hl : W + (maxL + 11) + rm.locals ≤ R.locals) (hc : cells + rm.cells ≤ R.cells) (hs : slots + rm.slots ≤ R.slots)
    (k : ∀ v T' L, Stand p l e R s m args below meth c T' (locs ++ L) (cells + rm.cells) (slots + rm.slots) → Q' v T'.heap L → own_End p e below P T' { g with pc := g.pc + 3, stack := v.toList ++ rest }) : own_End p e below P T g := by
  obtain ⟨v, vm1, ⟨T', L1, k1, n1⟩, -, X', ⟨L, hQ, l1, y1, z1⟩, st⟩ := Jvm.LawKit.callS X hx (y := y) hown (mvT hZ w1) (mvT hZ w2) (mvT hZ w3) (mvT hZ w4) hy (backOf (W := W) hM hZ w4 w3 hf hl) hg hsize hlen hstack hW hdg (fun _ _ => ⟨has, eT, hc, hs⟩)
  dsimp only [Pt.U, Pt.locs, Pt.cells, Pt.slots] at X' l1 y1 z1 st hQ
  subst l1 y1 z1
  exact own_go st (k v T' L X' hQ)
theorem own_callC (X : Stand p l e R s m args below meth c T locs cells slots) (hx : p.tables.exec = Jvm.exec) (hZ : Z.Warmed39 s.vm) {own : String} (hown : s.vm.findClass own = some m.cls) (eT : T.heap = h) {index : Nat} {y : MethodName} {bytes : ByteArray} {maxL : Nat} {rm : Room} {as' : Array Value} {Q' : Option Value → Heap → List Loc → Prop}
    (hyi : y.name = "<init>") (w1 : (Cond.methodLink own index y).before a0 Z = true) (w2 : (Cond.instanceMethod y).before a0 Z = true) (w3 : (Cond.initialized y.cls).before a0 Z = true) (w4 : (Cond.code y bytes maxL none).before a0 Z = true) (hy : y.cls ≠ "java/lang/invoke/MethodHandle" ∧ y.cls ≠ "java/lang/invoke/VarHandle")
    (hM : own_Met l Z y bytes maxL none [] rm as' h Q') {g : JFrame} (hg : g.method = m) (hsize : g.locals.size = c.maxLocals) {a : Addr} {argsL rest : List Value} (hlen : ∀ sig, parseMethodDescriptor y.desc = some sig → argsL.length = sig.parameters.length) (hstack : g.stack = argsL.reverse ++ .ref a :: rest) (has : (.ref a :: argsL).toArray = as') {W : Nat} (hW : 2 * g.monitorRoom + (rest.map fun v => v.category).sum ≤ W) (hdg : decode c.code g.pc = .ok (.invokespecial index, 3))
    (hf : rm.frames + 1 ≤ R.frames) (hl : W + (maxL + 11) + rm.locals ≤ R.locals) (hc : cells + rm.cells ≤ R.cells) (hs : slots + rm.slots ≤ R.slots)
    (k : ∀ v T' L, Stand p l e R s m args below meth c T' (locs ++ L) (cells + rm.cells) (slots + rm.slots) → Q' v T'.heap L → own_End p e below P T' { g with pc := g.pc + 3, stack := v.toList ++ rest }) : own_End p e below P T g := by
  obtain ⟨v, vm1, ⟨T', L1, k1, n1⟩, -, X', ⟨L, hQ, l1, y1, z1⟩, st⟩ := X.specialBack hx (y := y) hyi hown (mvT hZ w1) (mvT hZ w2) (mvT hZ w4) hy (backOf (W := W) hM hZ w4 w3 hf hl) hg hsize (Steps.refl _) (a := a) hlen hstack hW hdg (fun _ _ => ⟨has, eT, hc, hs⟩)
  dsimp only [Pt.U, Pt.locs, Pt.cells, Pt.slots] at X' l1 y1 z1 st hQ
  subst l1 y1 z1
  exact own_via st (k v T' L X' hQ)
theorem own_callV (X : Stand p l e R s m args below meth c T locs cells slots) (hx : p.tables.exec = Jvm.exec) (hZ : Z.Warmed39 s.vm) {own : String} (hown : s.vm.findClass own = some m.cls) (eT : T.heap = h) {index : Nat} {C : String} {y z : MethodName} {bytes : ByteArray} {maxL : Nat} {ret : Option FieldType} {rm : Room} {as' : Array Value} {Q' : Option Value → Heap → List Loc → Prop}
    (w1 : (Cond.methodLink own index y).before a0 Z = true) (wd : (Cond.declares y).before a0 Z = true) (hnf : NotFace s y) (wsel : (Cond.selects C y z).before a0 Z = true) (w2 : (Cond.instanceMethod z).before a0 Z = true) (w3 : (Cond.initialized z.cls).before a0 Z = true) (w4 : (Cond.code z bytes maxL ret).before a0 Z = true) (hy : y.cls ≠ "java/lang/invoke/MethodHandle" ∧ y.cls ≠ "java/lang/invoke/VarHandle")
    (hM : own_Met l Z z bytes maxL ret [] rm as' h Q') {a : Addr} (E : Exa Z h a C) {g : JFrame} (hg : g.method = m) (hsize : g.locals.size = c.maxLocals) {argsL rest : List Value} (hlen : ∀ sig, parseMethodDescriptor y.desc = some sig → argsL.length = sig.parameters.length) (hstack : g.stack = argsL.reverse ++ .ref a :: rest) (has : (.ref a :: argsL).toArray = as') {W : Nat} (hW : 2 * g.monitorRoom + (rest.map fun v => v.category).sum ≤ W) (hdg : decode c.code g.pc = .ok (.invokevirtual index, 3))
    (hf : rm.frames + 1 ≤ R.frames) (hl : W + (maxL + 11) + rm.locals ≤ R.locals) (hc : cells + rm.cells ≤ R.cells) (hs : slots + rm.slots ≤ R.slots)
    (k : ∀ v T' L, Stand p l e R s m args below meth c T' (locs ++ L) (cells + rm.cells) (slots + rm.slots) → Q' v T'.heap L → own_End p e below P T' { g with pc := g.pc + 3, stack := v.toList ++ rest }) : own_End p e below P T g := by
  obtain ⟨cB, kB, q1, q2, q3⟩ := isOf (T := T) hZ eT E
  obtain ⟨v, vm1, ⟨T', L1, k1, n1⟩, -, X', ⟨L, hQ, l1, y1, z1⟩, st⟩ := X.virtualBack hx (y := y) (z := z) hown (mvT hZ w1) (mvT hZ wd) hnf (mvT hZ wsel) (mvT hZ w2) hy (backOf (W := W) hM hZ w4 w3 hf hl) q1 q3 hg hsize (Steps.refl _) hlen hstack hW hdg (fun _ _ => ⟨has, eT, hc, hs⟩)
  dsimp only [Pt.U, Pt.locs, Pt.cells, Pt.slots] at X' l1 y1 z1 st hQ
  subst l1 y1 z1
  exact own_via st (k v T' L X' hQ)
theorem own_selP {C : String} {x' y y' : MethodName} (wz : (Cond.selects C x' y').before args s = true) (hc : y'.cls = y.cls) (hpriv : s.PrivateAt y) (hinst : (Cond.instanceMethod y).before args s = true) (hy : y.cls ≠ "java/lang/invoke/MethodHandle" ∧ y.cls ≠ "java/lang/invoke/VarHandle") : (Cond.selects y.cls y y).before args s = true := by
  obtain ⟨_, _, m2, -, -, q3, -, kP, hkP, hkPi⟩ := Cond.selects_spec wz
  exact selects_self_of_private (by rw [← hc]; exact findClass_of_methodNamed q3) hkP hkPi hpriv hinst hy
theorem own_callP (X : Stand p l e R s m args below meth c T locs cells slots) (hx : p.tables.exec = Jvm.exec) (hZ : Z.Warmed39 s.vm) {own : String} (hown : s.vm.findClass own = some m.cls) (eT : T.heap = h) {index : Nat} {y : MethodName} {bytes : ByteArray} {maxL : Nat} {ret : Option FieldType} {rm : Room} {as' : Array Value} {Q' : Option Value → Heap → List Loc → Prop}
    (w1 : (Cond.methodLink own index y).before a0 Z = true) (w2 : (Cond.instanceMethod y).before a0 Z = true) (wsel : (Cond.selects y.cls y y).before args s = true) (wp : (Cond.privateMethod y).before a0 Z = true) (w3 : (Cond.initialized y.cls).before a0 Z = true) (w4 : (Cond.code y bytes maxL ret).before a0 Z = true) (hy : y.cls ≠ "java/lang/invoke/MethodHandle" ∧ y.cls ≠ "java/lang/invoke/VarHandle")
    (hM : own_Met l Z y bytes maxL ret [] rm as' h Q') {C : String} {a : Addr} (E : Exa Z h a C) {g : JFrame} (hg : g.method = m) (hsize : g.locals.size = c.maxLocals) {argsL rest : List Value} (hlen : ∀ sig, parseMethodDescriptor y.desc = some sig → argsL.length = sig.parameters.length) (hstack : g.stack = argsL.reverse ++ .ref a :: rest) (has : (.ref a :: argsL).toArray = as') {W : Nat} (hW : 2 * g.monitorRoom + (rest.map fun v => v.category).sum ≤ W) (hdg : decode c.code g.pc = .ok (.invokevirtual index, 3))
    (hf : rm.frames + 1 ≤ R.frames) (hl : W + (maxL + 11) + rm.locals ≤ R.locals) (hc : cells + rm.cells ≤ R.cells) (hs : slots + rm.slots ≤ R.slots)
    (k : ∀ v T' L, Stand p l e R s m args below meth c T' (locs ++ L) (cells + rm.cells) (slots + rm.slots) → Q' v T'.heap L → own_End p e below P T' { g with pc := g.pc + 3, stack := v.toList ++ rest }) : own_End p e below P T g := by
  obtain ⟨cq, q1, q2⟩ := E.cell
  obtain ⟨v, vm1, ⟨T', L1, k1, n1⟩, -, X', ⟨L, hQ, l1, y1, z1⟩, st⟩ := X.privateBack hx (y := y) hown (mvT hZ w1) (mvT hZ w2) wsel (Cond.privateMethod_at (mvP hZ wp (args := #[]))) (mvT hZ w4) hy (backOf (W := W) hM hZ w4 w3 hf hl) hg hsize (Steps.refl _) (a := a) (by rw [eT]; exact q1) q2 hlen hstack hW hdg (fun _ _ => ⟨has, eT, hc, hs⟩)
  dsimp only [Pt.U, Pt.locs, Pt.cells, Pt.slots] at X' l1 y1 z1 st hQ
  subst l1 y1 z1
  exact own_via st (k v T' L X' hQ)
end OwnSteps
/-! own: a truth as an int; comparisons of longs -/
def own_z (P : Prop) [Decidable P] : Int32 := if P then 1 else 0
section OwnTruth
variable {P : Prop} [Decidable P] {x y : Int64}
theorem own_z_t (h : P) : own_z P = 1 := if_pos h
theorem own_z_f (h : ¬ P) : own_z P = 0 := if_neg h
theorem own_z_nar : nar .boolean (own_z P) = own_z P := by unfold own_z; split <;> decide
theorem own_z_congr {P' : Prop} [Decidable P'] (h : P ↔ P') : own_z P = own_z P' := by unfold own_z; by_cases q : P <;> simp [q, h.symm, h.mp] <;> simp_all
theorem own_z_inj {P' : Prop} [Decidable P'] (h : own_z P = own_z P') : P ↔ P' := by
  unfold own_z at h; by_cases q : P <;> by_cases q' : P' <;> simp_all
theorem own_zY_eq (h : ¬ P) : ifCond.holds .eq (own_z P) = true := by rw [own_z_f h]; rfl
theorem own_zN_eq (h : P) : ifCond.holds .eq (own_z P) = false := by rw [own_z_t h]; rfl
theorem own_zY_ne (h : P) : ifCond.holds .ne (own_z P) = true := by rw [own_z_t h]; rfl
theorem own_zN_ne (h : ¬ P) : ifCond.holds .ne (own_z P) = false := by rw [own_z_f h]; rfl
theorem own_lY_lt (h : x < y) : ifCond.holds .lt (lcmpW x y) = true := (if0 _ _).trans (tlt ((lw_lt x y).mpr h)).1
theorem own_lN_lt (h : ¬ x < y) : ifCond.holds .lt (lcmpW x y) = false := (if0 _ _).trans (flt (mt (lw_lt x y).mp h)).1
theorem own_lY_ge (h : ¬ x < y) : ifCond.holds .ge (lcmpW x y) = true := (if0 _ _).trans (flt (mt (lw_lt x y).mp h)).2.1
theorem own_lN_ge (h : x < y) : ifCond.holds .ge (lcmpW x y) = false := (if0 _ _).trans (tlt ((lw_lt x y).mpr h)).2.1
theorem own_lY_gt (h : y < x) : ifCond.holds .gt (lcmpW x y) = true := (if0 _ _).trans (tlt ((lw_gt x y).mpr h)).2.2.1
theorem own_lN_gt (h : ¬ y < x) : ifCond.holds .gt (lcmpW x y) = false := (if0 _ _).trans (flt (mt (lw_gt x y).mp h)).2.2.1
theorem own_lY_le (h : ¬ y < x) : ifCond.holds .le (lcmpW x y) = true := (if0 _ _).trans (flt (mt (lw_gt x y).mp h)).2.2.2
theorem own_lN_le (h : y < x) : ifCond.holds .le (lcmpW x y) = false := (if0 _ _).trans (tlt ((lw_gt x y).mpr h)).2.2.2
theorem own_lY_eq (h : x = y) : ifCond.holds .eq (lcmpW x y) = true := (if0 _ _).trans (teq ((lw_eq x y).mpr h)).1
theorem own_lN_eq (h : ¬ x = y) : ifCond.holds .eq (lcmpW x y) = false := (if0 _ _).trans (feq (mt (lw_eq x y).mp h)).1
theorem own_lY_ne (h : ¬ x = y) : ifCond.holds .ne (lcmpW x y) = true := (if0 _ _).trans (feq (mt (lw_eq x y).mp h)).2
theorem own_lN_ne (h : x = y) : ifCond.holds .ne (lcmpW x y) = false := (if0 _ _).trans (teq ((lw_eq x y).mpr h)).2
end OwnTruth
/-! own: a callee that writes nothing -/
def own_Pq (val : Option Value) (h : Heap) : Option Value → Heap → List Loc → Prop := fun v h' L => v = val ∧ L = [] ∧ h' = h
section OwnPure
variable {p : Program} {l : Launch} {e : Env} {R : Room} {s : State} {m : MethodId} {args : Array Value} {below : List Frame} {meth : Method} {c : Code} {T : State} {locs : List Loc} {cells slots : Nat} {P : State → Outcome → Prop} {Q : Option Value → Heap → List Loc → Prop} {kc ns : Nat} {Z : State} {a0 : Array Value} {h : Heap} {f : JFrame}
theorem own_callSp (X : Stand p l e R s m args below meth c T locs cells slots) (hx : p.tables.exec = Jvm.exec) (hZ : Z.Warmed39 s.vm) {own : String} (hown : s.vm.findClass own = some m.cls) (eT : T.heap = h) {index : Nat} {y : MethodName} {bytes : ByteArray} {maxL : Nat} {ret : Option FieldType} {fr lo : Nat} {as' : Array Value} {val : Option Value}
    (w1 : (Cond.methodLink own index y).before a0 Z = true) (w2 : (Cond.static y).before a0 Z = true) (w3 : (Cond.initialized y.cls).before a0 Z = true) (w4 : (Cond.code y bytes maxL ret).before a0 Z = true) (hy : y.cls ≠ "java/lang/invoke/MethodHandle" ∧ y.cls ≠ "java/lang/invoke/VarHandle")
    (hM : own_Met l Z y bytes maxL ret [] { frames := fr, cells := 0, slots := 0, locals := lo } as' h (own_Pq val h)) {g : JFrame} (hg : g.method = m) (hsize : g.locals.size = c.maxLocals) {argsL rest : List Value} (hlen : ∀ sig, parseMethodDescriptor y.desc = some sig → argsL.length = sig.parameters.length) (hstack : g.stack = argsL.reverse ++ rest) (has : argsL.toArray = as') {W : Nat} (hW : 2 * g.monitorRoom + (rest.map fun v => v.category).sum ≤ W) (hdg : decode c.code g.pc = .ok (.invokestatic index, 3))
    (hf : fr + 1 ≤ R.frames) (hl : W + (maxL + 11) + lo ≤ R.locals) (hc : cells ≤ R.cells) (hs : slots ≤ R.slots)
    (k : ∀ T', Stand p l e R s m args below meth c T' locs cells slots → T'.heap = h → own_End p e below P T' { g with pc := g.pc + 3, stack := val.toList ++ rest }) : own_End p e below P T g :=
  own_callS X hx hZ hown eT w1 w2 w3 w4 hy hM hg hsize hlen hstack has hW hdg hf hl hc hs fun v T' L X' ⟨q1, q2, q3⟩ => by
    subst q1 q2
    rw [List.append_nil] at X'
    exact k T' X' q3
theorem own_callCp (X : Stand p l e R s m args below meth c T locs cells slots) (hx : p.tables.exec = Jvm.exec) (hZ : Z.Warmed39 s.vm) {own : String} (hown : s.vm.findClass own = some m.cls) (eT : T.heap = h) {index : Nat} {y : MethodName} {bytes : ByteArray} {maxL : Nat} {fr lo : Nat} {as' : Array Value} {val : Option Value}
    (hyi : y.name = "<init>") (w1 : (Cond.methodLink own index y).before a0 Z = true) (w2 : (Cond.instanceMethod y).before a0 Z = true) (w3 : (Cond.initialized y.cls).before a0 Z = true) (w4 : (Cond.code y bytes maxL none).before a0 Z = true) (hy : y.cls ≠ "java/lang/invoke/MethodHandle" ∧ y.cls ≠ "java/lang/invoke/VarHandle")
    (hM : own_Met l Z y bytes maxL none [] { frames := fr, cells := 0, slots := 0, locals := lo } as' h (own_Pq val h)) {g : JFrame} (hg : g.method = m) (hsize : g.locals.size = c.maxLocals) {a : Addr} {argsL rest : List Value} (hlen : ∀ sig, parseMethodDescriptor y.desc = some sig → argsL.length = sig.parameters.length) (hstack : g.stack = argsL.reverse ++ .ref a :: rest) (has : (.ref a :: argsL).toArray = as') {W : Nat} (hW : 2 * g.monitorRoom + (rest.map fun v => v.category).sum ≤ W) (hdg : decode c.code g.pc = .ok (.invokespecial index, 3))
    (hf : fr + 1 ≤ R.frames) (hl : W + (maxL + 11) + lo ≤ R.locals) (hc : cells ≤ R.cells) (hs : slots ≤ R.slots)
    (k : ∀ T', Stand p l e R s m args below meth c T' locs cells slots → T'.heap = h → own_End p e below P T' { g with pc := g.pc + 3, stack := val.toList ++ rest }) : own_End p e below P T g :=
  own_callC X hx hZ hown eT hyi w1 w2 w3 w4 hy hM hg hsize hlen hstack has hW hdg hf hl hc hs fun v T' L X' ⟨q1, q2, q3⟩ => by
    subst q1 q2
    rw [List.append_nil] at X'
    exact k T' X' q3
theorem own_callVp (X : Stand p l e R s m args below meth c T locs cells slots) (hx : p.tables.exec = Jvm.exec) (hZ : Z.Warmed39 s.vm) {own : String} (hown : s.vm.findClass own = some m.cls) (eT : T.heap = h) {index : Nat} {C : String} {y z : MethodName} {bytes : ByteArray} {maxL : Nat} {ret : Option FieldType} {fr lo : Nat} {as' : Array Value} {val : Option Value}
    (w1 : (Cond.methodLink own index y).before a0 Z = true) (wd : (Cond.declares y).before a0 Z = true) (hnf : NotFace s y) (wsel : (Cond.selects C y z).before a0 Z = true) (w2 : (Cond.instanceMethod z).before a0 Z = true) (w3 : (Cond.initialized z.cls).before a0 Z = true) (w4 : (Cond.code z bytes maxL ret).before a0 Z = true) (hy : y.cls ≠ "java/lang/invoke/MethodHandle" ∧ y.cls ≠ "java/lang/invoke/VarHandle")
    (hM : own_Met l Z z bytes maxL ret [] { frames := fr, cells := 0, slots := 0, locals := lo } as' h (own_Pq val h)) {a : Addr} (E : Exa Z h a C) {g : JFrame} (hg : g.method = m) (hsize : g.locals.size = c.maxLocals) {argsL rest : List Value} (hlen : ∀ sig, parseMethodDescriptor y.desc = some sig → argsL.length = sig.parameters.length) (hstack : g.stack = argsL.reverse ++ .ref a :: rest) (has : (.ref a :: argsL).toArray = as') {W : Nat} (hW : 2 * g.monitorRoom + (rest.map fun v => v.category).sum ≤ W) (hdg : decode c.code g.pc = .ok (.invokevirtual index, 3))
    (hf : fr + 1 ≤ R.frames) (hl : W + (maxL + 11) + lo ≤ R.locals) (hc : cells ≤ R.cells) (hs : slots ≤ R.slots)
    (k : ∀ T', Stand p l e R s m args below meth c T' locs cells slots → T'.heap = h → own_End p e below P T' { g with pc := g.pc + 3, stack := val.toList ++ rest }) : own_End p e below P T g :=
  own_callV X hx hZ hown eT w1 wd hnf wsel w2 w3 w4 hy hM E hg hsize hlen hstack has hW hdg hf hl hc hs fun v T' L X' ⟨q1, q2, q3⟩ => by
    subst q1 q2
    rw [List.append_nil] at X'
    exact k T' X' q3
theorem own_callPp (X : Stand p l e R s m args below meth c T locs cells slots) (hx : p.tables.exec = Jvm.exec) (hZ : Z.Warmed39 s.vm) {own : String} (hown : s.vm.findClass own = some m.cls) (eT : T.heap = h) {index : Nat} {y : MethodName} {bytes : ByteArray} {maxL : Nat} {ret : Option FieldType} {fr lo : Nat} {as' : Array Value} {val : Option Value}
    (w1 : (Cond.methodLink own index y).before a0 Z = true) (w2 : (Cond.instanceMethod y).before a0 Z = true) (wsel : (Cond.selects y.cls y y).before args s = true) (wp : (Cond.privateMethod y).before a0 Z = true) (w3 : (Cond.initialized y.cls).before a0 Z = true) (w4 : (Cond.code y bytes maxL ret).before a0 Z = true) (hy : y.cls ≠ "java/lang/invoke/MethodHandle" ∧ y.cls ≠ "java/lang/invoke/VarHandle")
    (hM : own_Met l Z y bytes maxL ret [] { frames := fr, cells := 0, slots := 0, locals := lo } as' h (own_Pq val h)) {C : String} {a : Addr} (E : Exa Z h a C) {g : JFrame} (hg : g.method = m) (hsize : g.locals.size = c.maxLocals) {argsL rest : List Value} (hlen : ∀ sig, parseMethodDescriptor y.desc = some sig → argsL.length = sig.parameters.length) (hstack : g.stack = argsL.reverse ++ .ref a :: rest) (has : (.ref a :: argsL).toArray = as') {W : Nat} (hW : 2 * g.monitorRoom + (rest.map fun v => v.category).sum ≤ W) (hdg : decode c.code g.pc = .ok (.invokevirtual index, 3))
    (hf : fr + 1 ≤ R.frames) (hl : W + (maxL + 11) + lo ≤ R.locals) (hc : cells ≤ R.cells) (hs : slots ≤ R.slots)
    (k : ∀ T', Stand p l e R s m args below meth c T' locs cells slots → T'.heap = h → own_End p e below P T' { g with pc := g.pc + 3, stack := val.toList ++ rest }) : own_End p e below P T g :=
  own_callP X hx hZ hown eT w1 w2 wsel wp w3 w4 hy hM E hg hsize hlen hstack has hW hdg hf hl hc hs fun v T' L X' ⟨q1, q2, q3⟩ => by
    subst q1 q2
    rw [List.append_nil] at X'
    exact k T' X' q3
end OwnPure
/-! own: a cell that is known -/
def own_K (h : Heap) (a : Addr) : Prop := ∃ cell : Cell, h[a]? = some cell ∧ cell.vm ≠ .unknown
theorem own_K_ext {h h' : Heap} {a : Addr} (K : own_K h a) (E : Ext h h') : own_K h' a := by obtain ⟨c, h1, h2⟩ := K; exact ⟨c, E.2 _ _ h1, h2⟩
theorem own_K_wr {h h' : Heap} {a b : Addr} {sl : Nat} {v : Value} (K : own_K h b) (W : Wr h h' a sl v) : own_K h' b := by
  obtain ⟨c, h1, h2⟩ := K
  obtain ⟨c', e1, -, e3, -⟩ := wr_at W h1
  exact ⟨c', e1, by rw [e3]; exact h2⟩
theorem own_K_keep {h h' : Heap} {a : Addr} {ws : List Addr} (K : own_K h a) (E : Keep h h' ws) : own_K h' a := by
  obtain ⟨c, h1, h2⟩ := K
  obtain ⟨c', e1, -, e3, -⟩ := E.2.2 _ _ h1
  exact ⟨c', e1, by rw [e3]; exact h2⟩
theorem own_K_new {h : Heap} {a : Addr} (U : ∃ cell : Cell, h[a]? = some cell ∧ cell.vm = .none ∧ cell.monitor = {}) : own_K h a := by
  obtain ⟨c, h1, h2, -⟩ := U
  exact ⟨c, h1, by rw [h2]; simp⟩
/-! own: the wide end: String constants may have been interned meanwhile -/
def own_PW (below : List Frame) (s : State) (Q : Option Value → Heap → List Loc → Prop) (kc ns : Nat) : State → Outcome → Prop := fun s₂ o => s₂.status = .running ∧ Ended s₂ below o ∧ ∃ v L, o = .returned v ∧ Q v s₂.heap L ∧ ReturnedEndW s o s₂ L kc ns
def own_MetW (l : Launch) (Z : State) (y : MethodName) (bytes : ByteArray) (maxL : Nat) (ret : Option FieldType) (ws : List Jvm.Cond) (rm : Room) (as' : Array Value) (h : Heap) (Q : Option Value → Heap → List Loc → Prop) : Prop :=
  MetFree l y (head1 (Jvm.Cond.code y bytes maxL ret :: ws) rm) (fun a U => a = as' ∧ Z.Warmed39 U.vm ∧ U.heap = h) (fun _ _ _ _ _ => True) (fun _ U o U' => ∃ v L, o = .returned v ∧ Q v U'.heap L ∧ ReturnedEndW U o U' L rm.cells rm.slots)
section OwnWide
variable {p : Program} {l : Launch} {e : Env} {R : Room} {s : State} {vm0 : Vm} {m : MethodId} {args : Array Value} {below : List Frame} {meth : Method} {c : Code} {T : State} {locs : List Loc} {cells slots : Nat} {P : State → Outcome → Prop} {Q : Option Value → Heap → List Loc → Prop} {kc ns k0 : Nat} {Z : State} {a0 : Array Value} {h : Heap} {f : JFrame}
theorem own_bodyW {y : MethodName} {bytes : ByteArray} {maxL : Nat} {ret : Option FieldType} {ws : List Jvm.Cond} {rm : Room} {as' : Array Value} (hpl : plainFor y = true)
    (body : ∀ (p : Program) (e : Env) (s : State) (m : MethodId) (below : List Frame) (meth : Method) (c : Code) (s₁ : State), p.tables.exec = Jvm.exec → Z.Warmed39 (s.setVm s.vm).vm → c.code = bytes → c.maxLocals = maxL → (s.setVm s.vm).vm.findClass y.cls = some m.cls → meth.name = y.name → meth.sig.returnType = ret → meth.locks = false →
      Stand p l e rm (s.setVm s.vm) m as' below meth c s₁ [] 0 0 → s₁.heap = h → s.Since s.vm 0 → own_End p e below (own_PW below s Q rm.cells rm.slots) s₁ (entryFrame m as' maxL)) : own_MetW l Z y bytes maxL ret ws rm as' h Q := by
  refine MetFree.of_bodySF hpl hisR ?_
  intro p e s m args below meth c s₁ Bd hml0 hP hK
  obtain ⟨rfl, hZ, hh⟩ := hP
  exact body p e s m below meth c s₁ Bd.exec hZ Bd.bytes hml0 (findClass_of_methodNamed Bd.named) (name_of_methodNamed Bd.named Bd.method).1 Bd.returns Bd.notSynchronized (Stand.of_body Bd) (by rw [← hh, Bd.state]; rfl) ((State.WarmedH.refl s).since 0)
theorem own_retW (X : Stand p l e R (s.setVm vm0) m args below meth c T locs cells slots) (hP : P = own_PW below s Q kc ns) (hlk : meth.locks = false) (eT : T.heap = h) (hS : s.Since vm0 k0) (hk0 : k0 ≤ h.size) {v : Option Value} (hv : meth.sig.returnType = none → v = none) (hk : cells ≤ kc) (hn : slots ≤ ns) (hQ : Q v h locs)
    (st : ∀ fs, (∀ (f : JFrame) (acts : List Action), f.method = m → f.locked = none → f.entered = [] → (doReturn e (T.setTop f) acts v).1 = T.setFrames fs) → Steps p.tables e below (T.setTop f) (T.setFrames fs)) : own_End p e below P T f := by
  obtain ⟨fs, hr, hrun, hended, hE⟩ := X.leaveW hS (by rw [eT]; exact hk0) hv hlk
  subst hP
  exact ⟨_, _, st fs hr, hrun, hended, _, _, rfl, (eT ▸ hQ : Q v T.heap locs), hE.1, hE.2.1, hE.2.2.1, hE.2.2.2.mono hk hn⟩
theorem own_retVW (X : Stand p l e R (s.setVm vm0) m args below meth c T locs cells slots) (hP : P = own_PW below s Q kc ns) (hx : p.tables.exec = Jvm.exec) (hlk : meth.locks = false) (eT : T.heap = h) (hS : s.Since vm0 k0) (hk0 : k0 ≤ h.size) {pc : Nat} {Ls : Array Slot} (hret : meth.sig.returnType = none) (hd : decode c.code pc = .ok (.return_, 1)) (hk : cells ≤ kc) (hn : slots ≤ ns) (hQ : Q none h locs) :
    own_End p e below P T (mkF m pc Ls []) := own_retW X hP hlk eT hS hk0 (fun _ => rfl) hk hn hQ fun _ hr => X.returnOut hx hret hd hr
theorem own_retNW (X : Stand p l e R (s.setVm vm0) m args below meth c T locs cells slots) (hP : P = own_PW below s Q kc ns) (hx : p.tables.exec = Jvm.exec) (hlk : meth.locks = false) (eT : T.heap = h) (hS : s.Since vm0 k0) (hk0 : k0 ≤ h.size) {pc : Nat} {Ls : Array Slot} {z : Int32} {rest : List Value} {t : FieldType} (hret : meth.sig.returnType = some t) (ht : t = .boolean ∨ t = .byte ∨ t = .char ∨ t = .short) (hd : decode c.code pc = .ok (.ireturn, 1)) (hk : cells ≤ kc) (hn : slots ≤ ns) {z' : Int32} (hz : nar t z = z') (hQ : Q (some (.int z')) h locs) :
    own_End p e below P T (mkF m pc Ls (.int z :: rest)) := by
  subst hz
  exact own_retW X hP hlk eT hS hk0 (fun h => by rw [hret] at h; cases h) hk hn hQ fun fs hr => retN X hx hret ht hd hr
/-- a constructor that may intern -/
theorem own_callCW (X : Stand p l e R (s.setVm vm0) m args below meth c T locs cells slots) (hx : p.tables.exec = Jvm.exec) (hZ : Z.Warmed39 (s.setVm vm0).vm) {own : String} (hown : (s.setVm vm0).vm.findClass own = some m.cls) (eT : T.heap = h) (hS : s.Since vm0 k0) (hk0 : k0 ≤ h.size) {index : Nat} {y : MethodName} {bytes : ByteArray} {maxL : Nat} {rm : Room} {as' : Array Value} {Q' : Option Value → Heap → List Loc → Prop}
    (hyi : y.name = "<init>") (w1 : (Cond.methodLink own index y).before a0 Z = true) (w2 : (Cond.instanceMethod y).before a0 Z = true) (w3 : (Cond.initialized y.cls).before a0 Z = true) (w4 : (Cond.code y bytes maxL none).before a0 Z = true) (hy : y.cls ≠ "java/lang/invoke/MethodHandle" ∧ y.cls ≠ "java/lang/invoke/VarHandle")
    (hM : own_MetW l Z y bytes maxL none [] rm as' h Q') {g : JFrame} (hg : g.method = m) (hsize : g.locals.size = c.maxLocals) {a : Addr} {argsL rest : List Value} (hlen : ∀ sig, parseMethodDescriptor y.desc = some sig → argsL.length = sig.parameters.length) (hstack : g.stack = argsL.reverse ++ .ref a :: rest) (has : (.ref a :: argsL).toArray = as') {W : Nat} (hW : 2 * g.monitorRoom + (rest.map fun v => v.category).sum ≤ W) (hdg : decode c.code g.pc = .ok (.invokespecial index, 3))
    (hf : rm.frames + 1 ≤ R.frames) (hl : W + (maxL + 11) + rm.locals ≤ R.locals) (hc : cells + rm.cells ≤ R.cells) (hs : slots + rm.slots ≤ R.slots)
    (k : ∀ v T' L, Stand p l e R (s.setVm T'.vm) m args below meth c T' (locs ++ L) (cells + rm.cells) (slots + rm.slots) → Z.Warmed39 (s.setVm T'.vm).vm → (s.setVm T'.vm).vm.findClass own = some m.cls → s.Since T'.vm T'.heap.size → Q' v T'.heap L → own_End p e below P T' { g with pc := g.pc + 3, stack := v.toList ++ rest }) : own_End p e below P T g := by
  obtain ⟨v, vm1, ⟨T', L1, k1, n1⟩, -, X', hS2, hg2, ⟨L, hQ, l1, y1, z1⟩, st⟩ := X.specialBackS hx (y := y) hyi hown (mvT hZ w1) (mvT hZ w2) (mvT hZ w4) hy (backOfS (W := W) hM hZ w4 w3 hf hl) hg hsize (Steps.refl _) (a := a) hlen hstack hW hdg (fun _ _ => ⟨has, eT, hc, hs⟩)
  dsimp only [Pt.U, Pt.locs, Pt.cells, Pt.slots] at X' l1 y1 z1 st hQ hS2 hg2
  subst l1 y1 z1
  obtain ⟨X3, hS3, hZ3, hown3⟩ := rebS hS (by rw [eT]; exact hk0) X' hS2 hg2 hZ hown
  exact own_via st (k v T' L X3 hZ3 hown3 hS3 hQ)
end OwnWide
/-! own: an array of n places, place i holds f i -/
def own_A (Z : State) (h : Heap) (a : Addr) (ty : FieldType) (n : Nat) (f : Nat → Value) : Prop := ∃ c : Cell, Arr Z h a c ty ∧ c.slots.size = n ∧ n < 2147483648 ∧ ∀ i, i < n → c.slots[i]? = some (f i)
abbrev own_AJ (Z : State) (h : Heap) (a : Addr) (n : Nat) (f : Nat → Int64) : Prop := own_A Z h a .long n (fun i => .long (f i))
abbrev own_AI (Z : State) (h : Heap) (a : Addr) (n : Nat) (f : Nat → Int32) : Prop := own_A Z h a .int n (fun i => .int (f i))
abbrev own_AB (Z : State) (h : Heap) (a : Addr) (n : Nat) (f : Nat → Int32) : Prop := own_A Z h a .byte n (fun i => .int (f i))
def own_set {α : Type} (f : Nat → α) (i : Nat) (x : α) : Nat → α := fun k => if k = i then x else f k
theorem own_set_eq {α : Type} {f : Nat → α} {i k : Nat} {x : α} (h : k = i) : own_set f i x k = x := if_pos h
theorem own_set_ne {α : Type} {f : Nat → α} {i k : Nat} {x : α} (h : k ≠ i) : own_set f i x k = f k := if_neg h
section OwnArr
variable {Z : State} {h h' : Heap} {a b : Addr} {ty : FieldType} {n : Nat} {f f' : Nat → Value}
theorem own_A.lt (A : own_A Z h a ty n f) : a < h.size := by obtain ⟨c, A, -⟩ := A; exact A.lt
theorem own_A.ext (A : own_A Z h a ty n f) (E : Ext h h') : own_A Z h' a ty n f := by obtain ⟨c, A, r⟩ := A; exact ⟨c, A.ext E, r⟩
theorem own_A.other {sl : Nat} {v : Value} (A : own_A Z h b ty n f) (W : Wr h h' a sl v) (q : b ≠ a) : own_A Z h' b ty n f := by obtain ⟨c, A, r⟩ := A; exact ⟨c, A.other W q, r⟩
theorem own_A.keep {ws : List Addr} (A : own_A Z h a ty n f) (K : Keep h h' ws) (q : a ∉ ws) : own_A Z h' a ty n f := by obtain ⟨c, A, r⟩ := A; exact ⟨c, ⟨K.2.1 a c A.1 q, A.2⟩, r⟩
theorem own_A.congr (A : own_A Z h a ty n f) (q : ∀ i, i < n → f i = f' i) : own_A Z h a ty n f' := by obtain ⟨c, A, r1, r2, r3⟩ := A; exact ⟨c, A, r1, r2, fun i hi => by rw [← q i hi]; exact r3 i hi⟩
theorem own_nat {j : Int32} {i : Nat} (hj : j.toInt = (i : Int)) : j.toNatClampNeg = i := by
  show j.toInt.toNat = i
  rw [hj]; rfl
theorem own_negn {z : Int32} {k : Nat} (h : z.toInt = (k : Int)) : ¬ z < (0 : Int32) := by rw [Int32.lt_iff_toInt_lt, h, show (0 : Int32).toInt = 0 from rfl]; omega
theorem own_capn {z : Int32} {k cap : Nat} (h : z.toInt = (k : Int)) (hk : k ≤ cap) : z.toNatClampNeg ≤ cap := by rw [own_nat h]; exact hk
theorem own_in {c : Cell} {j : Int32} {i : Nat} (S : c.slots.size = n) (hj : j.toInt = (i : Int)) (hi : i < n) : ¬ (j < 0 ∨ c.slots.size ≤ j.toNatClampNeg) := by
  rw [own_nat hj, S, Int32.lt_iff_toInt_lt, hj, show (0 : Int32).toInt = 0 from rfl]; omega
theorem own_A_new {cA : ClassId} {z : Int32} (A : Arr Z h a (newA cA ty z) ty) (hz : z.toInt = (n : Int)) : own_A Z h a ty n (fun _ => defaultValue ty) := by
  have hn : z.toNatClampNeg = n := own_nat hz
  have hl := z.toInt_lt
  refine ⟨_, A, by rw [sz_new]; exact hn, by omega, fun i hi => ?_⟩
  simp [newA, hn, hi]
theorem own_A_set {j : Int32} {i : Nat} {v : Value} (A : own_A Z h a ty n f) (W : Wr h h' a j.toNatClampNeg v) (hj : j.toInt = (i : Int)) (hi : i < n) : own_A Z h' a ty n (own_set f i v) := by
  obtain ⟨c, A, r1, r2, r3⟩ := A
  rw [own_nat hj] at W
  refine ⟨_, A.same W, by rw [sz_set]; exact r1, r2, fun k hk => ?_⟩
  show (c.slots.setIfInBounds i v)[k]? = some (if k = i then v else f k)
  by_cases q : k = i
  · subst q; rw [if_pos rfl]; simp [r1, hi]
  · rw [if_neg q, Array.getElem?_setIfInBounds_ne (Ne.symm q)]; exact r3 k hk
end OwnArr
section OwnArrSteps
variable {p : Program} {l : Launch} {e : Env} {R : Room} {s : State} {m : MethodId} {args : Array Value} {below : List Frame} {meth : Method} {c : Code} {T : State} {locs : List Loc} {cells slots : Nat} {Z : State} {a0 : Array Value} {h : Heap} {a : Addr} {n i : Nat} {j : Int32} {g : JFrame} {rest : List Value}
theorem own_laload (X : Stand p l e R s m args below meth c T locs cells slots) (hx : p.tables.exec = Jvm.exec) (hZ : Z.Warmed39 s.vm) (eT : T.heap = h) {f : Nat → Int64} (A : own_AJ Z h a n f) (hj : j.toInt = (i : Int)) (hi : i < n) (hg : g.method = m) (hs : g.stack = .int j :: .ref a :: rest) (hd : decode c.code g.pc = .ok (.laload, 1)) :
    ∀ target, Steps p.tables e below (T.setTop { g with pc := g.pc + 1, stack := .long (f i) :: rest }) target → Steps p.tables e below (T.setTop g) target := by
  obtain ⟨cl, A, r1, r2, r3⟩ := A
  exact X.laload hx (j := j) (v := .long (f i)) (by rw [eT]; exact A.1) (State.isArrayOf_alike hZ.alike A.2.1) A.2.2 (own_in r1 hj hi) (by rw [own_nat hj]; exact r3 i hi) hg hs hd
theorem own_iaload (X : Stand p l e R s m args below meth c T locs cells slots) (hx : p.tables.exec = Jvm.exec) (hZ : Z.Warmed39 s.vm) (eT : T.heap = h) {f : Nat → Int32} (A : own_AI Z h a n f) (hj : j.toInt = (i : Int)) (hi : i < n) (hg : g.method = m) (hs : g.stack = .int j :: .ref a :: rest) (hd : decode c.code g.pc = .ok (.iaload, 1)) :
    ∀ target, Steps p.tables e below (T.setTop { g with pc := g.pc + 1, stack := .int (f i) :: rest }) target → Steps p.tables e below (T.setTop g) target := by
  obtain ⟨cl, A, r1, r2, r3⟩ := A
  exact X.iaload hx (j := j) (v := .int (f i)) (by rw [eT]; exact A.1) (State.isArrayOf_alike hZ.alike A.2.1) A.2.2 (own_in r1 hj hi) (by rw [own_nat hj]; exact r3 i hi) hg hs hd
theorem own_baload (X : Stand p l e R s m args below meth c T locs cells slots) (hx : p.tables.exec = Jvm.exec) (hZ : Z.Warmed39 s.vm) (eT : T.heap = h) {f : Nat → Int32} (A : own_AB Z h a n f) (hj : j.toInt = (i : Int)) (hi : i < n) (hg : g.method = m) (hs : g.stack = .int j :: .ref a :: rest) (hd : decode c.code g.pc = .ok (.baload, 1)) :
    ∀ target, Steps p.tables e below (T.setTop { g with pc := g.pc + 1, stack := .int (f i) :: rest }) target → Steps p.tables e below (T.setTop g) target := by
  obtain ⟨cl, A, r1, r2, r3⟩ := A
  exact X.baloadBytes hx (j := j) (v := .int (f i)) (by rw [eT]; exact A.1) (State.isArrayOf_alike hZ.alike A.2.1) A.2.2 (own_in r1 hj hi) (by rw [own_nat hj]; exact r3 i hi) hg hs hd
theorem own_length (X : Stand p l e R s m args below meth c T locs cells slots) (hx : p.tables.exec = Jvm.exec) (hZ : Z.Warmed39 s.vm) (eT : T.heap = h) {ty : FieldType} {f : Nat → Value} (A : own_A Z h a ty n f) {z : Int32} (hz : z.toInt = (n : Int)) (hg : g.method = m) (hs : g.stack = .ref a :: rest) (hd : decode c.code g.pc = .ok (.arraylength, 1)) :
    ∀ target, Steps p.tables e below (T.setTop { g with pc := g.pc + 1, stack := .int z :: rest }) target → Steps p.tables e below (T.setTop g) target := by
  obtain ⟨cl, A, r1, r2, -⟩ := A
  intro target k
  refine X.arraylength hx (by rw [eT]; exact A.1) (State.isArrayOf_alike hZ.alike A.2.1) hg hs hd _ ?_
  have q : cl.slots.size.toInt32 = z := Int32.toInt_inj.mp (by rw [r1, hz]; exact Int32.toInt_ofNat_of_lt (by omega))
  rw [q]; exact k
theorem own_lastore (X : Stand p l e R s m args below meth c T locs cells slots) (hx : p.tables.exec = Jvm.exec) (hZ : Z.Warmed39 s.vm) (eT : T.heap = h) {f : Nat → Int64} {x : Int64} (A : own_AJ Z h a n f) (hj : j.toInt = (i : Int)) (hi : i < n) (hg : g.method = m) (hs : g.stack = .long x :: .int j :: .ref a :: rest) (hd : decode c.code g.pc = .ok (.lastore, 1)) :
    ∃ T' h', Stand p l e R s m args below meth c T' (locs ++ [⟨a, j.toNatClampNeg⟩]) cells slots ∧ T'.heap = h' ∧ Wr h h' a j.toNatClampNeg (.long x) ∧ own_AJ Z h' a n (own_set f i x) ∧ ∀ target, Steps p.tables e below (T'.setTop { g with pc := g.pc + 1, stack := rest }) target → Steps p.tables e below (T.setTop g) target := by
  obtain ⟨cl, B, r1, r2, r3⟩ := A
  obtain ⟨T', h', X', e', W, st⟩ := stJ X hx hZ eT B (own_in r1 hj hi) hg hs hd
  exact ⟨T', h', X', e', W, (own_A_set ⟨cl, B, r1, r2, r3⟩ W hj hi).congr fun k _ => by unfold own_set; split <;> rfl, st⟩
theorem own_iastore (X : Stand p l e R s m args below meth c T locs cells slots) (hx : p.tables.exec = Jvm.exec) (hZ : Z.Warmed39 s.vm) (eT : T.heap = h) {f : Nat → Int32} {x : Int32} (A : own_AI Z h a n f) (hj : j.toInt = (i : Int)) (hi : i < n) (hg : g.method = m) (hs : g.stack = .int x :: .int j :: .ref a :: rest) (hd : decode c.code g.pc = .ok (.iastore, 1)) :
    ∃ T' h', Stand p l e R s m args below meth c T' (locs ++ [⟨a, j.toNatClampNeg⟩]) cells slots ∧ T'.heap = h' ∧ Wr h h' a j.toNatClampNeg (.int x) ∧ own_AI Z h' a n (own_set f i x) ∧ ∀ target, Steps p.tables e below (T'.setTop { g with pc := g.pc + 1, stack := rest }) target → Steps p.tables e below (T.setTop g) target := by
  obtain ⟨cl, B, r1, r2, r3⟩ := A
  obtain ⟨T', h', X', e', W, st⟩ := stI X hx hZ eT B (own_in r1 hj hi) hg hs hd
  exact ⟨T', h', X', e', W, (own_A_set ⟨cl, B, r1, r2, r3⟩ W hj hi).congr fun k _ => by unfold own_set; split <;> rfl, st⟩
theorem own_bastore (X : Stand p l e R s m args below meth c T locs cells slots) (hx : p.tables.exec = Jvm.exec) (hZ : Z.Warmed39 s.vm) (eT : T.heap = h) {f : Nat → Int32} {x : Int32} (A : own_AB Z h a n f) (hj : j.toInt = (i : Int)) (hi : i < n) (hg : g.method = m) (hs : g.stack = .int x :: .int j :: .ref a :: rest) (hd : decode c.code g.pc = .ok (.bastore, 1)) :
    ∃ T' h', Stand p l e R s m args below meth c T' (locs ++ [⟨a, j.toNatClampNeg⟩]) cells slots ∧ T'.heap = h' ∧ Wr h h' a j.toNatClampNeg (.int (nar .byte x)) ∧ own_AB Z h' a n (own_set f i (x.toInt8.toInt32)) ∧ ∀ target, Steps p.tables e below (T'.setTop { g with pc := g.pc + 1, stack := rest }) target → Steps p.tables e below (T.setTop g) target := by
  obtain ⟨cl, B, r1, r2, r3⟩ := A
  obtain ⟨T', h', X', e', W, st⟩ := stB X hx hZ eT B (own_in r1 hj hi) hg hs hd
  exact ⟨T', h', X', e', W, (own_A_set ⟨cl, B, r1, r2, r3⟩ W hj hi).congr fun k _ => by unfold own_set; split <;> rfl, st⟩
end OwnArrSteps
section OwnClone
variable {p : Program} {l : Launch} {e : Env} {R : Room} {s : State} {m : MethodId} {args : Array Value} {below : List Frame} {meth : Method} {c : Code} {T : State} {locs : List Loc} {cells slots : Nat} {Z : State} {a0 : Array Value} {h : Heap} {a : Addr} {n : Nat} {g : JFrame} {rest : List Value}
theorem own_clone (X : Stand p l e R s m args below meth c T locs cells slots) (hx : p.tables.exec = Jvm.exec) (hZ : Z.Warmed39 s.vm) {own : String} {index : Nat} (hown : s.vm.findClass own = some m.cls)
    (w1 : (Cond.methodLink own index ⟨"[J", "clone", "()Ljava/lang/Object;"⟩).before a0 Z = true) (w2 : (Cond.sameMethod "[J" "java/lang/Object" "clone" "()Ljava/lang/Object;").before a0 Z = true) (w3 : (Cond.native ⟨"java/lang/Object", "clone", "()Ljava/lang/Object;"⟩).before a0 Z = true)
    (w4 : (Cond.instanceMethod ⟨"java/lang/Object", "clone", "()Ljava/lang/Object;"⟩).before a0 Z = true) (w5 : (Cond.selects "[J" ⟨"[J", "clone", "()Ljava/lang/Object;"⟩ ⟨"java/lang/Object", "clone", "()Ljava/lang/Object;"⟩).before a0 Z = true) (w6 : (Cond.castable "[J" "java/lang/Cloneable").before a0 Z = true)
    (eT : T.heap = h) {f : Nat → Int64} (A : own_AJ Z h a n f) (E : Exa Z h a "[J") (hg : g.method = m) (hsize : g.locals.size = c.maxLocals) (hst : g.stack = .ref a :: rest) (hd : decode c.code g.pc = .ok (.invokevirtual index, 3))
    (hf : 1 ≤ R.frames) {W cap : Nat} (hW : 2 * g.monitorRoom + (rest.map fun v => v.category).sum ≤ W) (hl : W + 14 ≤ R.locals) (hcap : n ≤ cap) (hc : cells + 1 ≤ R.cells) (hsl : slots + cap ≤ R.slots) :
    ∃ T' h', Stand p l e R s m args below meth c T' locs (cells + 1) (slots + cap) ∧ T'.heap = h' ∧ Ext h h' ∧ own_AJ Z h' h.size n f ∧ Exa Z h' h.size "[J" ∧
      ∀ target, Steps p.tables e below (T'.setTop { g with pc := g.pc + 3, stack := .ref h.size :: rest }) target → Steps p.tables e below (T.setTop g) target := by
  obtain ⟨cl, B, r1, r2, r3⟩ := A
  have FC : FitC Z cl := fitC_of B fun i hi v hv => by rw [r3 i (r1 ▸ hi)] at hv; cases hv; rfl
  obtain ⟨T', h', X', e', ex, A', E', st⟩ := cloneA X hx hZ hown w1 w2 w3 w4 w5 w6 eT B E FC hg hsize hst hd hf hW hl (by rw [r1]; exact hcap) hc hsl
  exact ⟨T', h', X', e', ex, ⟨cloneOf cl, A', r1, r2, r3⟩, E', st⟩
end OwnClone

def own_sorted (n : Nat) (f : Nat → Int64) : Prop := ∀ i j, i ≤ j → j < n → ¬ f j < f i
def own_pick (i : Int32) (a b c d : Int64) : Int64 := if i = (0 : Int32) then a else if i = (1 : Int32) then b else if i = (2 : Int32) then c else d
theorem own_neg {z : Int32} (h : 0 ≤ z.toInt) : ¬ z < (0 : Int32) := by rw [Int32.lt_iff_toInt_lt, show (0 : Int32).toInt = 0 from rfl]; omega
theorem own_up1 {a l0 : Int64} (h : l0 = ((1 : Int64) + (a &&& (1152921504606846975 : Int64)))) : 1 ≤ l0.toInt ∧ l0.toInt ≤ 1152921504606846976 := by
  have e := Jvm.Kit.i64_mask a 1152921504606846975 (k := 60) (by decide) (by decide)
  have o : (1 : Int64).toInt = 1 := rfl
  have e2 : ((1 : Int64) + (a &&& 1152921504606846975)).toInt = 1 + (a &&& 1152921504606846975).toInt := by rw [Jvm.Kit.i64_add] <;> rw [o] <;> omega
  rw [← h] at e2; omega
theorem own_up2 {l b l' : Int64} {M : Int} (hl : 1 ≤ l.toInt ∧ l.toInt ≤ M) (hM : M ≤ 4611686018427387904) (h : l' = ((l + (1 : Int64)) + (b &&& (1152921504606846975 : Int64)))) : l.toInt < l'.toInt ∧ l'.toInt ≤ M + 1152921504606846976 := by
  have e := Jvm.Kit.i64_mask b 1152921504606846975 (k := 60) (by decide) (by decide)
  have o : (1 : Int64).toInt = 1 := rfl
  have e1 : (l + 1).toInt = l.toInt + 1 := by rw [Jvm.Kit.i64_add] <;> rw [o] <;> omega
  have e2 : ((l + 1) + (b &&& 1152921504606846975)).toInt = l.toInt + 1 + (b &&& 1152921504606846975).toInt := by rw [Jvm.Kit.i64_add] <;> rw [e1] <;> omega
  rw [← h] at e2; omega
theorem own_asc {a b c d l0 l1 l2 l3 : Int64} (h0 : l0 = ((1 : Int64) + (a &&& (1152921504606846975 : Int64)))) (h1 : l1 = ((l0 + (1 : Int64)) + (b &&& (1152921504606846975 : Int64)))) (h2 : l2 = ((l1 + (1 : Int64)) + (c &&& (1152921504606846975 : Int64)))) (h3 : l3 = ((l2 + (1 : Int64)) + (d &&& (1152921504606846975 : Int64)))) : l0.toInt < l1.toInt ∧ l1.toInt < l2.toInt ∧ l2.toInt < l3.toInt := by
  have a0 := own_up1 h0
  have a1 := own_up2 a0 (by decide) h1
  have a2 := own_up2 (l := l1) (M := 2305843009213693952) (by omega) (by decide) h2
  have a3 := own_up2 (l := l2) (M := 3458764513820540928) (by omega) (by decide) h3
  omega
theorem own_p0 {f : Nat → Int64} : own_sorted 0 f := fun i j _ hj => by omega
theorem own_q1 {a b c d l0 l1 l2 l3 : Int64} {f1 : Nat → Int64} (h0 : l0 = ((1 : Int64) + (a &&& (1152921504606846975 : Int64)))) (h1 : l1 = ((l0 + (1 : Int64)) + (b &&& (1152921504606846975 : Int64)))) (h2 : l2 = ((l1 + (1 : Int64)) + (c &&& (1152921504606846975 : Int64)))) (h3 : l3 = ((l2 + (1 : Int64)) + (d &&& (1152921504606846975 : Int64)))) (e1 : f1 = own_set (fun _ => (0 : Int64)) 0 l0) : own_sorted 1 f1 := by
  have q := own_asc h0 h1 h2 h3
  intro i j hij hj
  rw [Int64.lt_iff_toInt_lt]
  subst e1
  have qj : j = 0 := by omega
  have qi : i = 0 := by omega
  rcases qj with rfl <;> rcases qi with rfl <;> simp [own_set] <;> omega
theorem own_q2 {a b c d l0 l1 l2 l3 : Int64} {f1 f2 : Nat → Int64} (h0 : l0 = ((1 : Int64) + (a &&& (1152921504606846975 : Int64)))) (h1 : l1 = ((l0 + (1 : Int64)) + (b &&& (1152921504606846975 : Int64)))) (h2 : l2 = ((l1 + (1 : Int64)) + (c &&& (1152921504606846975 : Int64)))) (h3 : l3 = ((l2 + (1 : Int64)) + (d &&& (1152921504606846975 : Int64)))) (e1 : f1 = own_set (fun _ => (0 : Int64)) 0 l0) (e2 : f2 = own_set f1 1 l1) : own_sorted 2 f2 := by
  have q := own_asc h0 h1 h2 h3
  intro i j hij hj
  rw [Int64.lt_iff_toInt_lt]
  subst e2 e1
  have qj : j = 0 ∨ j = 1 := by omega
  have qi : i = 0 ∨ i = 1 := by omega
  rcases qj with rfl | rfl <;> rcases qi with rfl | rfl <;> simp [own_set] <;> omega
theorem own_q3 {a b c d l0 l1 l2 l3 : Int64} {f1 f2 f3 : Nat → Int64} (h0 : l0 = ((1 : Int64) + (a &&& (1152921504606846975 : Int64)))) (h1 : l1 = ((l0 + (1 : Int64)) + (b &&& (1152921504606846975 : Int64)))) (h2 : l2 = ((l1 + (1 : Int64)) + (c &&& (1152921504606846975 : Int64)))) (h3 : l3 = ((l2 + (1 : Int64)) + (d &&& (1152921504606846975 : Int64)))) (e1 : f1 = own_set (fun _ => (0 : Int64)) 0 l0) (e2 : f2 = own_set f1 1 l1) (e3 : f3 = own_set f2 2 l2) : own_sorted 3 f3 := by
  have q := own_asc h0 h1 h2 h3
  intro i j hij hj
  rw [Int64.lt_iff_toInt_lt]
  subst e3 e2 e1
  have qj : j = 0 ∨ j = 1 ∨ j = 2 := by omega
  have qi : i = 0 ∨ i = 1 ∨ i = 2 := by omega
  rcases qj with rfl | rfl | rfl <;> rcases qi with rfl | rfl | rfl <;> simp [own_set] <;> omega
theorem own_q4 {a b c d l0 l1 l2 l3 : Int64} {f1 f2 f3 f4 : Nat → Int64} (h0 : l0 = ((1 : Int64) + (a &&& (1152921504606846975 : Int64)))) (h1 : l1 = ((l0 + (1 : Int64)) + (b &&& (1152921504606846975 : Int64)))) (h2 : l2 = ((l1 + (1 : Int64)) + (c &&& (1152921504606846975 : Int64)))) (h3 : l3 = ((l2 + (1 : Int64)) + (d &&& (1152921504606846975 : Int64)))) (e1 : f1 = own_set (fun _ => (0 : Int64)) 0 l0) (e2 : f2 = own_set f1 1 l1) (e3 : f3 = own_set f2 2 l2) (e4 : f4 = own_set f3 3 l3) : own_sorted 4 f4 := by
  have q := own_asc h0 h1 h2 h3
  intro i j hij hj
  rw [Int64.lt_iff_toInt_lt]
  subst e4 e3 e2 e1
  have qj : j = 0 ∨ j = 1 ∨ j = 2 ∨ j = 3 := by omega
  have qi : i = 0 ∨ i = 1 ∨ i = 2 ∨ i = 3 := by omega
  rcases qj with rfl | rfl | rfl | rfl <;> rcases qi with rfl | rfl | rfl | rfl <;> simp [own_set] <;> omega
theorem own_n5 (x : Int32) : ((x &&& (7 : Int32)) % (5 : Int32)) = (0 : Int32) ∨ ((x &&& (7 : Int32)) % (5 : Int32)) = (1 : Int32) ∨ ((x &&& (7 : Int32)) % (5 : Int32)) = (2 : Int32) ∨ ((x &&& (7 : Int32)) % (5 : Int32)) = (3 : Int32) ∨ ((x &&& (7 : Int32)) % (5 : Int32)) = (4 : Int32) := by
  have e := Jvm.Kit.i32_mask x 7 (k := 3) (by decide) (by decide)
  have e2 : ((x &&& 7) % 5).toInt = (x &&& 7).toInt % 5 := Jvm.Kit.i32_rem_nonneg (by omega)
  simp only [← Int32.toInt_inj, e2, show (0 : Int32).toInt = 0 from rfl, show (1 : Int32).toInt = 1 from rfl, show (2 : Int32).toInt = 2 from rfl, show (3 : Int32).toInt = 3 from rfl, show (4 : Int32).toInt = 4 from rfl]
  omega
def own_cl : Nat → (Nat → Int64) → Int64 → Nat
  | 0, _, _ => 0
  | n + 1, f, v => own_cl n f v + (if v < f n then 0 else 1)
theorem own_cl_le (n : Nat) (f : Nat → Int64) (v : Int64) (r : Nat) (h1 : ∀ i, i < r → ¬ v < f i) (h2 : ∀ i, r ≤ i → i < n → v < f i) : own_cl n f v = min r n := by
  induction n with
  | zero => simp [own_cl]
  | succ n ih =>
    rw [own_cl, ih fun i a b => h2 i a (by omega)]
    by_cases q : r ≤ n
    · rw [if_pos (h2 n q (by omega))]; omega
    · rw [if_neg (h1 n (by omega))]; omega
def own_inw (n : Nat) (f : Nat → Int64) (v : Int64) (lo hi : Int32) : Prop := -1 ≤ lo.toInt ∧ lo.toInt ≤ hi.toInt ∧ hi.toInt < n ∧ (∀ i : Nat, (i : Int) ≤ lo.toInt → ¬ v < f i) ∧ ∀ i : Nat, hi.toInt < (i : Int) → i < n → v < f i
theorem own_w0 {n : Nat} {f : Nat → Int64} {v : Int64} {z : Int32} (hz : z.toInt = (n : Int)) (hn : n ≤ 4) : own_inw n f v (-1 : Int32) (z - (1 : Int32)) := by
  have o : (-1 : Int32).toInt = -1 := rfl
  have o1 : (1 : Int32).toInt = 1 := rfl
  have e : (z - 1).toInt = z.toInt - 1 := by rw [Jvm.Kit.i32_sub] <;> rw [o1] <;> omega
  exact ⟨by omega, by omega, by omega, fun i h => by omega, fun i h => by omega⟩
theorem own_w1 {n : Nat} {f : Nat → Int64} {v : Int64} {lo hi mid : Int32} (I : own_inw n f v lo hi) (hn : n ≤ 4) (h : lo < hi) (hm : mid = ((((lo + hi) + (1 : Int32)).toUInt32 >>> ((1 : Int32) &&& 31).toUInt32).toInt32)) : mid.toInt = ((mid.toInt.toNat : Nat) : Int) ∧ mid.toInt.toNat < n ∧ lo.toInt < mid.toInt ∧ mid.toInt ≤ hi.toInt := by
  obtain ⟨a, b, c, -, -⟩ := I
  rw [Int32.lt_iff_toInt_lt] at h
  have o1 : (1 : Int32).toInt = 1 := rfl
  have e1 : (lo + hi).toInt = lo.toInt + hi.toInt := Jvm.Kit.i32_add (by omega) (by omega)
  have e2 : ((lo + hi) + 1).toInt = lo.toInt + hi.toInt + 1 := by rw [Jvm.Kit.i32_add] <;> rw [e1, o1] <;> omega
  have e3 : mid.toInt = (lo.toInt + hi.toInt + 1) / 2 := by
    rw [hm, Jvm.Kit.i32_iushr (k := 1) (by rw [Int32.le_iff_toInt_le, e2, show (0 : Int32).toInt = 0 from rfl]; omega) (by decide) (by decide), e2]; rfl
  omega
theorem own_w2 {n : Nat} {f : Nat → Int64} {v : Int64} {lo hi mid : Int32} (I : own_inw n f v lo hi) (hn : n ≤ 4) (hs : own_sorted n f) (h : lo < hi) (hm : mid = ((((lo + hi) + (1 : Int32)).toUInt32 >>> ((1 : Int32) &&& 31).toUInt32).toInt32)) (q : v < f mid.toInt.toNat) :
    own_inw n f v lo (mid - (1 : Int32)) ∧ ((mid - (1 : Int32)).toInt - lo.toInt).toNat < (hi.toInt - lo.toInt).toNat := by
  obtain ⟨b1, b2, b3, b4⟩ := own_w1 I hn h hm
  obtain ⟨a, b, c, d, e⟩ := I
  have o1 : (1 : Int32).toInt = 1 := rfl
  have e1 : (mid - 1).toInt = mid.toInt - 1 := by rw [Jvm.Kit.i32_sub] <;> rw [o1] <;> omega
  refine ⟨⟨a, by omega, by omega, d, fun i h1 h2 => ?_⟩, by omega⟩
  have s := hs mid.toInt.toNat i (by omega) h2
  rw [Int64.lt_iff_toInt_lt] at *; omega
theorem own_w3 {n : Nat} {f : Nat → Int64} {v : Int64} {lo hi mid : Int32} (I : own_inw n f v lo hi) (hn : n ≤ 4) (hs : own_sorted n f) (h : lo < hi) (hm : mid = ((((lo + hi) + (1 : Int32)).toUInt32 >>> ((1 : Int32) &&& 31).toUInt32).toInt32)) (q : ¬ v < f mid.toInt.toNat) :
    own_inw n f v mid hi ∧ (hi.toInt - mid.toInt).toNat < (hi.toInt - lo.toInt).toNat := by
  obtain ⟨b1, b2, b3, b4⟩ := own_w1 I hn h hm
  obtain ⟨a, b, c, d, e⟩ := I
  refine ⟨⟨by omega, by omega, c, fun i h1 => ?_, e⟩, by omega⟩
  have s := hs i mid.toInt.toNat (by omega) (by omega)
  rw [Int64.lt_iff_toInt_lt] at *; omega
theorem own_w4 {n : Nat} {f : Nat → Int64} {v : Int64} {lo hi : Int32} (I : own_inw n f v lo hi) (hn : n ≤ 4) (h : ¬ lo < hi) : lo = ((Int32.ofNat (own_cl n f v)) - (1 : Int32)) := by
  obtain ⟨a, b, c, d, e⟩ := I
  rw [Int32.lt_iff_toInt_lt] at h
  have o1 : (1 : Int32).toInt = 1 := rfl
  have q := own_cl_le n f v (lo.toInt + 1).toNat (fun i hi => d i (by omega)) (fun i hi => e i (by omega))
  rw [q]
  have q2 : (Int32.ofNat (min (lo.toInt + 1).toNat n)).toInt = ((min (lo.toInt + 1).toNat n : Nat) : Int) := Int32.toInt_ofNat_of_lt (by omega)
  apply Int32.toInt_inj.mp
  rw [Jvm.Kit.i32_sub] <;> rw [q2, o1] <;> omega
theorem own_lv {n : Nat} {f : Nat → Int64} {v : Int64} {r : Int32} {k : Nat} (hk : own_cl n f v = k) (hr : (Int32.ofNat k - (1 : Int32)) = r) : ((Int32.ofNat (own_cl n f v)) - (1 : Int32)) = r := by rw [hk]; exact hr
theorem own_v0 {f : Nat → Int64} {v : Int64} : ((Int32.ofNat (own_cl 0 f v)) - (1 : Int32)) = (-1 : Int32) := by rw [own_cl]; decide
theorem own_v1 {a b c d l0 l1 l2 l3 v : Int64} {f1 : Nat → Int64} (h0 : l0 = ((1 : Int64) + (a &&& (1152921504606846975 : Int64)))) (h1 : l1 = ((l0 + (1 : Int64)) + (b &&& (1152921504606846975 : Int64)))) (h2 : l2 = ((l1 + (1 : Int64)) + (c &&& (1152921504606846975 : Int64)))) (h3 : l3 = ((l2 + (1 : Int64)) + (d &&& (1152921504606846975 : Int64)))) (e1 : f1 = own_set (fun _ => (0 : Int64)) 0 l0) : ((Int32.ofNat (own_cl 1 f1 v)) - (1 : Int32)) = (if v < l0 then (-1 : Int32) else (0 : Int32)) := by
  have q := own_asc h0 h1 h2 h3
  clear h0 h1 h2 h3
  subst e1
  simp only [own_cl, own_set, Int64.lt_iff_toInt_lt]
  simp
  by_cases c0 : v.toInt < l0.toInt <;> simp [c0] <;> first | decide | omega
theorem own_v2 {a b c d l0 l1 l2 l3 v : Int64} {f1 f2 : Nat → Int64} (h0 : l0 = ((1 : Int64) + (a &&& (1152921504606846975 : Int64)))) (h1 : l1 = ((l0 + (1 : Int64)) + (b &&& (1152921504606846975 : Int64)))) (h2 : l2 = ((l1 + (1 : Int64)) + (c &&& (1152921504606846975 : Int64)))) (h3 : l3 = ((l2 + (1 : Int64)) + (d &&& (1152921504606846975 : Int64)))) (e1 : f1 = own_set (fun _ => (0 : Int64)) 0 l0) (e2 : f2 = own_set f1 1 l1) : ((Int32.ofNat (own_cl 2 f2 v)) - (1 : Int32)) = (if v < l1 then (if v < l0 then (-1 : Int32) else (0 : Int32)) else (1 : Int32)) := by
  have q := own_asc h0 h1 h2 h3
  clear h0 h1 h2 h3
  subst e2 e1
  simp only [own_cl, own_set, Int64.lt_iff_toInt_lt]
  simp
  by_cases c0 : v.toInt < l0.toInt <;> by_cases c1 : v.toInt < l1.toInt <;> simp [c0, c1] <;> first | decide | omega
theorem own_v3 {a b c d l0 l1 l2 l3 v : Int64} {f1 f2 f3 : Nat → Int64} (h0 : l0 = ((1 : Int64) + (a &&& (1152921504606846975 : Int64)))) (h1 : l1 = ((l0 + (1 : Int64)) + (b &&& (1152921504606846975 : Int64)))) (h2 : l2 = ((l1 + (1 : Int64)) + (c &&& (1152921504606846975 : Int64)))) (h3 : l3 = ((l2 + (1 : Int64)) + (d &&& (1152921504606846975 : Int64)))) (e1 : f1 = own_set (fun _ => (0 : Int64)) 0 l0) (e2 : f2 = own_set f1 1 l1) (e3 : f3 = own_set f2 2 l2) : ((Int32.ofNat (own_cl 3 f3 v)) - (1 : Int32)) = (if v < l2 then (if v < l1 then (if v < l0 then (-1 : Int32) else (0 : Int32)) else (1 : Int32)) else (2 : Int32)) := by
  have q := own_asc h0 h1 h2 h3
  clear h0 h1 h2 h3
  subst e3 e2 e1
  simp only [own_cl, own_set, Int64.lt_iff_toInt_lt]
  simp
  by_cases c0 : v.toInt < l0.toInt <;> by_cases c1 : v.toInt < l1.toInt <;> by_cases c2 : v.toInt < l2.toInt <;> simp [c0, c1, c2] <;> first | decide | omega
theorem own_v4 {a b c d l0 l1 l2 l3 v : Int64} {f1 f2 f3 f4 : Nat → Int64} (h0 : l0 = ((1 : Int64) + (a &&& (1152921504606846975 : Int64)))) (h1 : l1 = ((l0 + (1 : Int64)) + (b &&& (1152921504606846975 : Int64)))) (h2 : l2 = ((l1 + (1 : Int64)) + (c &&& (1152921504606846975 : Int64)))) (h3 : l3 = ((l2 + (1 : Int64)) + (d &&& (1152921504606846975 : Int64)))) (e1 : f1 = own_set (fun _ => (0 : Int64)) 0 l0) (e2 : f2 = own_set f1 1 l1) (e3 : f3 = own_set f2 2 l2) (e4 : f4 = own_set f3 3 l3) : ((Int32.ofNat (own_cl 4 f4 v)) - (1 : Int32)) = (if v < l3 then (if v < l2 then (if v < l1 then (if v < l0 then (-1 : Int32) else (0 : Int32)) else (1 : Int32)) else (2 : Int32)) else (3 : Int32)) := by
  have q := own_asc h0 h1 h2 h3
  clear h0 h1 h2 h3
  subst e4 e3 e2 e1
  simp only [own_cl, own_set, Int64.lt_iff_toInt_lt]
  simp
  by_cases c0 : v.toInt < l0.toInt <;> by_cases c1 : v.toInt < l1.toInt <;> by_cases c2 : v.toInt < l2.toInt <;> by_cases c3 : v.toInt < l3.toInt <;> simp [c0, c1, c2, c3] <;> first | decide | omega

theorem pn_0 : plainName "com/example/ridgeline/ridgeline/cumulative/Resource" = true := by first | (simp [plainName, overriddenIn]; done) | decide +kernel
theorem d3_0 : decode prog_39_method_3_code 0 = .ok (.lload_n 1, 1) := by decide +kernel
theorem d3_1 : decode prog_39_method_3_code 1 = .ok (.lload_n 3, 1) := by decide +kernel
theorem d3_2 : decode prog_39_method_3_code 2 = .ok (.lcmp, 1) := by decide +kernel
theorem d3_3 : decode prog_39_method_3_code 3 = .ok (.ifCond .lt 11, 3) := by decide +kernel
theorem d3_6 : decode prog_39_method_3_code 6 = .ok (.lload_n 1, 1) := by decide +kernel
theorem d3_7 : decode prog_39_method_3_code 7 = .ok (.ldc2_w 60, 3) := by decide +kernel
theorem d3_10 : decode prog_39_method_3_code 10 = .ok (.lcmp, 1) := by decide +kernel
theorem d3_11 : decode prog_39_method_3_code 11 = .ok (.ifCond .le 19, 3) := by decide +kernel
theorem d3_30 : decode prog_39_method_3_code 30 = .ok (.return_, 1) := by decide +kernel
set_option maxRecDepth 65536 in
set_option maxHeartbeats 4000000 in
theorem ef_3 (m : MethodId) (a0 : Addr) (q1 : Int64) (q2 : Int64) : entryFrame m #[(.ref a0), (.long q1), (.long q2)] 5 = mkF m 0 #[.val (.ref a0), .val (.long q1), .second, .val (.long q2), .second] [] := by first | (simp [entryFrame, mkF, argsToLocals, Value.category]; done) | rfl
set_option maxRecDepth 65536 in
set_option maxHeartbeats 40000000 in
theorem rm3 (l : Launch) (Z : State) (aw : Array Value) (hw : ∀ d ∈ tables_1, d.before aw Z = true) {ws : List Jvm.Cond} (a0 : Addr) (q1 : Int64) (q2 : Int64)  (h0 : Heap) (n0 : Nat) (Z0 : n0 ≤ h0.size) (h1 : ¬ (q1 < q2)) (h2 : ¬ ((2147483647 : Int64) < q1)) :
    own_Met l Z (⟨"com/example/ridgeline/ridgeline/cumulative/Resource", "requireRange", "(Ljava/lang/String;JJ)V"⟩ : MethodName) prog_39_method_3_code 5 none ws ({ frames := 0, cells := 0, slots := 0, locals := 0 } : Room) #[(.ref a0), (.long q1), (.long q2)] h0 (own_Pq none h0) := by
  refine own_body (plainFor_of_name pn_0) ?_
  intro p e s m below meth c s₁ hx hZ hby hml hown hnm hret hlk X0 e0
  replace hown : s.vm.findClass "com/example/ridgeline/ridgeline/cumulative/Resource" = some m.cls := hown
  replace hml : c.maxLocals = 5 := hml
  obtain ⟨P, hP⟩ : ∃ P, P = own_P below s (own_Pq none h0) ({ frames := 0, cells := 0, slots := 0, locals := 0 } : Room).cells ({ frames := 0, cells := 0, slots := 0, locals := 0 } : Room).slots := ⟨_, rfl⟩
  rw [← hP]
  refine own_cast (ef_3 m a0 q1 q2) ?_
  refine own_go (T' := s₁) (f' := (mkF m 30 #[.val (.ref a0), .val (.long q1), .second, .val (.long q2), .second] [])) (fun t kt => ?_) ?_
  · show Steps p.tables e below (s₁.setTop (mkF m 0 #[.val (.ref a0), .val (.long q1), .second, .val (.long q2), .second] [])) t
    refine XS.lloadN X0.here hx rfl (hb hby d3_0) rfl ?_
    show Steps p.tables e below (s₁.setTop (mkF m 1 #[.val (.ref a0), .val (.long q1), .second, .val (.long q2), .second] [(.long q1)])) t
    refine XS.lloadN X0.here hx rfl (hb hby d3_1) rfl ?_
    show Steps p.tables e below (s₁.setTop (mkF m 2 #[.val (.ref a0), .val (.long q1), .second, .val (.long q2), .second] [(.long q2), (.long q1)])) t
    refine XS.lcmp X0.here hx rfl (hb hby d3_2) rfl ?_
    show Steps p.tables e below (s₁.setTop (mkF m 3 #[.val (.ref a0), .val (.long q1), .second, .val (.long q2), .second] [(.int (lcmpW q1 q2))])) t
    refine XS.ifNo X0.here hx rfl (hb hby d3_3) rfl (own_lN_lt (show ¬ (q1 < q2) from h1)) ?_
    show Steps p.tables e below (s₁.setTop (mkF m 6 #[.val (.ref a0), .val (.long q1), .second, .val (.long q2), .second] [])) t
    refine XS.lloadN X0.here hx rfl (hb hby d3_6) rfl ?_
    show Steps p.tables e below (s₁.setTop (mkF m 7 #[.val (.ref a0), .val (.long q1), .second, .val (.long q2), .second] [(.long q1)])) t
    refine X0.ldc2Long hx hown (mvT hZ (hw _ (List.mem_of_getElem? (i := 22) rfl))) (g := (mkF m 7 #[.val (.ref a0), .val (.long q1), .second, .val (.long q2), .second] [(.long q1)])) rfl (hb hby d3_7) _ ?_
    show Steps p.tables e below (s₁.setTop (mkF m 10 #[.val (.ref a0), .val (.long q1), .second, .val (.long q2), .second] [(.long (2147483647 : Int64)), (.long q1)])) t
    refine XS.lcmp X0.here hx rfl (hb hby d3_10) rfl ?_
    show Steps p.tables e below (s₁.setTop (mkF m 11 #[.val (.ref a0), .val (.long q1), .second, .val (.long q2), .second] [(.int (lcmpW q1 (2147483647 : Int64)))])) t
    refine XS.ifYes X0.here hx rfl (pc0 := 11) (pc' := 30) rfl (hb hby d3_11) rfl (own_lY_le (show ¬ ((2147483647 : Int64) < q1) from h2)) (by decide) (by decide) ?_
    show Steps p.tables e below (s₁.setTop (mkF m 30 #[.val (.ref a0), .val (.long q1), .second, .val (.long q2), .second] [])) t
    exact kt
  exact own_retV X0 hP hx hlk e0 hret (hb hby d3_30) (by decide) (by decide) ⟨rfl, rfl, rfl⟩
theorem own_wS {a0 : Array Value} {Z : State} (hw : ∀ d ∈ tables_1, d.before a0 Z = true) : ∀ a ∈ Bundle.stringAtoms, a.before a0 Z = true := by
  intro a ha
  simp only [Bundle.stringAtoms, List.mem_cons, List.not_mem_nil, or_false] at ha
  rcases ha with rfl | rfl | rfl | rfl | rfl | rfl | rfl
  · exact (hw _ (List.mem_of_getElem? (i := 12) rfl))
  · exact (hw _ (List.mem_of_getElem? (i := 13) rfl))
  · exact (hw _ (List.mem_of_getElem? (i := 14) rfl))
  · exact (hw _ (List.mem_of_getElem? (i := 15) rfl))
  · exact (hw _ (List.mem_of_getElem? (i := 16) rfl))
  · exact (hw _ (List.mem_of_getElem? (i := 17) rfl))
  · exact (hw _ (List.mem_of_getElem? (i := 18) rfl))
theorem pd_0 : parseMethodDescriptor "(Ljava/lang/String;JJ)V" = some ⟨[(.object "java/lang/String"), .long, .long], none⟩ := by decide +kernel
theorem d1_0 : decode prog_39_method_1_code 0 = .ok (.aload_n 0, 1) := by decide +kernel
theorem d1_1 : decode prog_39_method_1_code 1 = .ok (.invokespecial 1, 3) := by decide +kernel
theorem d1_4 : decode prog_39_method_1_code 4 = .ok (.aload_n 3, 1) := by decide +kernel
theorem d1_5 : decode prog_39_method_1_code 5 = .ok (.arraylength, 1) := by decide +kernel
theorem d1_6 : decode prog_39_method_1_code 6 = .ok (.istore 7, 2) := by decide +kernel
theorem d1_8 : decode prog_39_method_1_code 8 = .ok (.aload 4, 2) := by decide +kernel
theorem d1_10 : decode prog_39_method_1_code 10 = .ok (.arraylength, 1) := by decide +kernel
theorem d1_11 : decode prog_39_method_1_code 11 = .ok (.iload 7, 2) := by decide +kernel
theorem d1_13 : decode prog_39_method_1_code 13 = .ok (.if_icmp .ne 19, 3) := by decide +kernel
theorem d1_16 : decode prog_39_method_1_code 16 = .ok (.aload 5, 2) := by decide +kernel
theorem d1_18 : decode prog_39_method_1_code 18 = .ok (.arraylength, 1) := by decide +kernel
theorem d1_19 : decode prog_39_method_1_code 19 = .ok (.iload 7, 2) := by decide +kernel
theorem d1_21 : decode prog_39_method_1_code 21 = .ok (.if_icmp .ne 11, 3) := by decide +kernel
theorem d1_24 : decode prog_39_method_1_code 24 = .ok (.aload 6, 2) := by decide +kernel
theorem d1_26 : decode prog_39_method_1_code 26 = .ok (.arraylength, 1) := by decide +kernel
theorem d1_27 : decode prog_39_method_1_code 27 = .ok (.iload 7, 2) := by decide +kernel
theorem d1_29 : decode prog_39_method_1_code 29 = .ok (.if_icmp .eq 13, 3) := by decide +kernel
theorem d1_42 : decode prog_39_method_1_code 42 = .ok (.ldc 14, 2) := by decide +kernel
theorem d1_44 : decode prog_39_method_1_code 44 = .ok (.lload_n 1, 1) := by decide +kernel
theorem d1_45 : decode prog_39_method_1_code 45 = .ok (.lconst 0, 1) := by decide +kernel
theorem d1_46 : decode prog_39_method_1_code 46 = .ok (.invokestatic 16, 3) := by decide +kernel
theorem d1_49 : decode prog_39_method_1_code 49 = .ok (.iconst 0, 1) := by decide +kernel
theorem d1_50 : decode prog_39_method_1_code 50 = .ok (.istore 8, 2) := by decide +kernel
theorem d1_52 : decode prog_39_method_1_code 52 = .ok (.iload 8, 2) := by decide +kernel
theorem d1_54 : decode prog_39_method_1_code 54 = .ok (.iload 7, 2) := by decide +kernel
theorem d1_56 : decode prog_39_method_1_code 56 = .ok (.if_icmp .ge 56, 3) := by decide +kernel
theorem d1_112 : decode prog_39_method_1_code 112 = .ok (.aload_n 0, 1) := by decide +kernel
theorem d1_113 : decode prog_39_method_1_code 113 = .ok (.lload_n 1, 1) := by decide +kernel
theorem d1_114 : decode prog_39_method_1_code 114 = .ok (.putfield 34, 3) := by decide +kernel
theorem d1_117 : decode prog_39_method_1_code 117 = .ok (.aload_n 0, 1) := by decide +kernel
theorem d1_118 : decode prog_39_method_1_code 118 = .ok (.aload_n 3, 1) := by decide +kernel
theorem d1_119 : decode prog_39_method_1_code 119 = .ok (.invokevirtual 38, 3) := by decide +kernel
theorem d1_122 : decode prog_39_method_1_code 122 = .ok (.checkcast 39, 3) := by decide +kernel
theorem d1_125 : decode prog_39_method_1_code 125 = .ok (.putfield 44, 3) := by decide +kernel
theorem d1_128 : decode prog_39_method_1_code 128 = .ok (.aload_n 0, 1) := by decide +kernel
theorem d1_129 : decode prog_39_method_1_code 129 = .ok (.aload 4, 2) := by decide +kernel
theorem d1_131 : decode prog_39_method_1_code 131 = .ok (.invokevirtual 38, 3) := by decide +kernel
theorem d1_134 : decode prog_39_method_1_code 134 = .ok (.checkcast 39, 3) := by decide +kernel
theorem d1_137 : decode prog_39_method_1_code 137 = .ok (.putfield 47, 3) := by decide +kernel
theorem d1_140 : decode prog_39_method_1_code 140 = .ok (.aload_n 0, 1) := by decide +kernel
theorem d1_141 : decode prog_39_method_1_code 141 = .ok (.aload 5, 2) := by decide +kernel
theorem d1_143 : decode prog_39_method_1_code 143 = .ok (.invokevirtual 38, 3) := by decide +kernel
theorem d1_146 : decode prog_39_method_1_code 146 = .ok (.checkcast 39, 3) := by decide +kernel
theorem d1_149 : decode prog_39_method_1_code 149 = .ok (.putfield 50, 3) := by decide +kernel
theorem d1_152 : decode prog_39_method_1_code 152 = .ok (.aload_n 0, 1) := by decide +kernel
theorem d1_153 : decode prog_39_method_1_code 153 = .ok (.aload 6, 2) := by decide +kernel
theorem d1_155 : decode prog_39_method_1_code 155 = .ok (.invokevirtual 38, 3) := by decide +kernel
theorem d1_158 : decode prog_39_method_1_code 158 = .ok (.checkcast 39, 3) := by decide +kernel
theorem d1_161 : decode prog_39_method_1_code 161 = .ok (.putfield 53, 3) := by decide +kernel
theorem d1_164 : decode prog_39_method_1_code 164 = .ok (.return_, 1) := by decide +kernel
set_option maxRecDepth 65536 in
set_option maxHeartbeats 4000000 in
theorem ef_1 (m : MethodId) (a0 : Addr) (q1 : Int64) (a2 : Addr) (a3 : Addr) (a4 : Addr) (a5 : Addr) : entryFrame m #[(.ref a0), (.long q1), (.ref a2), (.ref a3), (.ref a4), (.ref a5)] 9 = mkF m 0 #[.val (.ref a0), .val (.long q1), .second, .val (.ref a2), .val (.ref a3), .val (.ref a4), .val (.ref a5), .unset, .unset] [] := by first | (simp [entryFrame, mkF, argsToLocals, Value.category]; done) | rfl
set_option maxRecDepth 65536 in
set_option maxHeartbeats 40000000 in
theorem rm1 (l : Launch) (Z : State) (aw : Array Value) (hw : ∀ d ∈ tables_1, d.before aw Z = true) {ws : List Jvm.Cond} (a0 : Addr) (q1 : Int64) (a2 : Addr) (a3 : Addr) (a4 : Addr) (a5 : Addr)  (h0 : Heap) (n0 : Nat) (Z0 : n0 ≤ h0.size) (E_a0 : Exa Z h0 a0 "com/example/ridgeline/ridgeline/cumulative/Resource") (K_a0 : own_K h0 a0) (g_a0 : n0 ≤ a0) (Ar_a2 : own_AJ Z h0 a2 0 (fun _ => (0 : Int64))) (E_a2 : Exa Z h0 a2 "[J") (ne_a2_a0 : a2 ≠ a0) (Ar_a3 : own_AJ Z h0 a3 0 (fun _ => (0 : Int64))) (E_a3 : Exa Z h0 a3 "[J") (ne_a3_a0 : a3 ≠ a0) (Ar_a4 : own_AJ Z h0 a4 0 (fun _ => (0 : Int64))) (E_a4 : Exa Z h0 a4 "[J") (ne_a4_a0 : a4 ≠ a0) (Ar_a5 : own_AJ Z h0 a5 0 (fun _ => (0 : Int64))) (E_a5 : Exa Z h0 a5 "[J") (ne_a5_a0 : a5 ≠ a0) (hq0 : ¬ (q1 < (0 : Int64))) (hq1 : ¬ ((2147483647 : Int64) < q1)) :
    own_MetW l Z (⟨"com/example/ridgeline/ridgeline/cumulative/Resource", "<init>", "(J[J[J[J[J)V"⟩ : MethodName) prog_39_method_1_code 9 none ws ({ frames := 1, cells := 6, slots := 36, locals := 16 } : Room) #[(.ref a0), (.long q1), (.ref a2), (.ref a3), (.ref a4), (.ref a5)] h0 (fun v h L => v = none ∧ Fr n0 L ∧ Keep h0 h [a0] ∧ Exa Z h a0 "com/example/ridgeline/ridgeline/cumulative/Resource" ∧ ∃ r, n0 ≤ r ∧ h0.size ≤ r ∧ Fld Z h a0 "com/example/ridgeline/ridgeline/cumulative/Resource" "m_est" "[J" (.ref r) ∧ own_AJ Z h r 0 (fun _ => (0 : Int64))) := by
  refine own_bodyW (plainFor_of_name pn_0) ?_
  intro p e s m below meth c s₁ hx hZ hby hml hown hnm hret hlk X0 e0 hS
  replace hown : (s.setVm s.vm).vm.findClass "com/example/ridgeline/ridgeline/cumulative/Resource" = some m.cls := hown
  replace hml : c.maxLocals = 9 := hml
  have N0 := Fr.nil n0
  have K0 := Keep.refl h0 [a0]
  obtain ⟨P, hP⟩ : ∃ P, P = own_PW below s (fun v h L => v = none ∧ Fr n0 L ∧ Keep h0 h [a0] ∧ Exa Z h a0 "com/example/ridgeline/ridgeline/cumulative/Resource" ∧ ∃ r, n0 ≤ r ∧ h0.size ≤ r ∧ Fld Z h a0 "com/example/ridgeline/ridgeline/cumulative/Resource" "m_est" "[J" (.ref r) ∧ own_AJ Z h r 0 (fun _ => (0 : Int64))) ({ frames := 1, cells := 6, slots := 36, locals := 16 } : Room).cells ({ frames := 1, cells := 6, slots := 36, locals := 16 } : Room).slots := ⟨_, rfl⟩
  rw [← hP]
  refine own_cast (ef_1 m a0 q1 a2 a3 a4 a5) ?_
  refine own_go (T' := s₁) (f' := (mkF m 1 #[.val (.ref a0), .val (.long q1), .second, .val (.ref a2), .val (.ref a3), .val (.ref a4), .val (.ref a5), .unset, .unset] [(.ref a0)])) (fun t kt => ?_) ?_
  · show Steps p.tables e below (s₁.setTop (mkF m 0 #[.val (.ref a0), .val (.long q1), .second, .val (.ref a2), .val (.ref a3), .val (.ref a4), .val (.ref a5), .unset, .unset] [])) t
    refine XS.aloadN X0.here hx rfl (hb hby d1_0) rfl rfl ?_
    show Steps p.tables e below (s₁.setTop (mkF m 1 #[.val (.ref a0), .val (.long q1), .second, .val (.ref a2), .val (.ref a3), .val (.ref a4), .val (.ref a5), .unset, .unset] [(.ref a0)])) t
    exact kt
  obtain ⟨T1, X1, e1, st1⟩ := initO X0 hx hZ hown (hw _ (List.mem_of_getElem? (i := 8) rfl)) (hw _ (List.mem_of_getElem? (i := 9) rfl)) (hw _ (List.mem_of_getElem? (i := 10) rfl)) e0 (g := (mkF m 1 #[.val (.ref a0), .val (.long q1), .second, .val (.ref a2), .val (.ref a3), .val (.ref a4), .val (.ref a5), .unset, .unset] [(.ref a0)])) rfl (by rw [hml]; rfl) rfl (hb hby d1_1) (by decide) (W := 0) (by show 2 * 0 + _ ≤ _; exact Nat.le_of_eq rfl) (by decide)
  refine own_go st1 ?_
  refine own_go (T' := T1) (f' := (mkF m 5 #[.val (.ref a0), .val (.long q1), .second, .val (.ref a2), .val (.ref a3), .val (.ref a4), .val (.ref a5), .unset, .unset] [(.ref a2)])) (fun t kt => ?_) ?_
  · show Steps p.tables e below (T1.setTop (mkF m 4 #[.val (.ref a0), .val (.long q1), .second, .val (.ref a2), .val (.ref a3), .val (.ref a4), .val (.ref a5), .unset, .unset] [])) t
    refine XS.aloadN X1.here hx rfl (hb hby d1_4) rfl rfl ?_
    show Steps p.tables e below (T1.setTop (mkF m 5 #[.val (.ref a0), .val (.long q1), .second, .val (.ref a2), .val (.ref a3), .val (.ref a4), .val (.ref a5), .unset, .unset] [(.ref a2)])) t
    exact kt
  have st2 := own_length X1 hx hZ e1 Ar_a2 (z := (0 : Int32)) (by decide) (g := (mkF m 5 #[.val (.ref a0), .val (.long q1), .second, .val (.ref a2), .val (.ref a3), .val (.ref a4), .val (.ref a5), .unset, .unset] [(.ref a2)])) rfl rfl (hb hby d1_5)
  refine own_go st2 ?_
  refine own_go (T' := T1) (f' := (mkF m 10 #[.val (.ref a0), .val (.long q1), .second, .val (.ref a2), .val (.ref a3), .val (.ref a4), .val (.ref a5), .val (.int (0 : Int32)), .unset] [(.ref a3)])) (fun t kt => ?_) ?_
  · show Steps p.tables e below (T1.setTop (mkF m 6 #[.val (.ref a0), .val (.long q1), .second, .val (.ref a2), .val (.ref a3), .val (.ref a4), .val (.ref a5), .unset, .unset] [(.int (0 : Int32))])) t
    refine XS.istore X1.here hx rfl (hb hby d1_6) rfl (l' := #[.val (.ref a0), .val (.long q1), .second, .val (.ref a2), .val (.ref a3), .val (.ref a4), .val (.ref a5), .val (.int (0 : Int32)), .unset]) rfl ?_
    show Steps p.tables e below (T1.setTop (mkF m 8 #[.val (.ref a0), .val (.long q1), .second, .val (.ref a2), .val (.ref a3), .val (.ref a4), .val (.ref a5), .val (.int (0 : Int32)), .unset] [])) t
    refine XS.aload X1.here hx rfl (hb hby d1_8) rfl rfl ?_
    show Steps p.tables e below (T1.setTop (mkF m 10 #[.val (.ref a0), .val (.long q1), .second, .val (.ref a2), .val (.ref a3), .val (.ref a4), .val (.ref a5), .val (.int (0 : Int32)), .unset] [(.ref a3)])) t
    exact kt
  have st3 := own_length X1 hx hZ e1 Ar_a3 (z := (0 : Int32)) (by decide) (g := (mkF m 10 #[.val (.ref a0), .val (.long q1), .second, .val (.ref a2), .val (.ref a3), .val (.ref a4), .val (.ref a5), .val (.int (0 : Int32)), .unset] [(.ref a3)])) rfl rfl (hb hby d1_10)
  refine own_go st3 ?_
  refine own_go (T' := T1) (f' := (mkF m 18 #[.val (.ref a0), .val (.long q1), .second, .val (.ref a2), .val (.ref a3), .val (.ref a4), .val (.ref a5), .val (.int (0 : Int32)), .unset] [(.ref a4)])) (fun t kt => ?_) ?_
  · show Steps p.tables e below (T1.setTop (mkF m 11 #[.val (.ref a0), .val (.long q1), .second, .val (.ref a2), .val (.ref a3), .val (.ref a4), .val (.ref a5), .val (.int (0 : Int32)), .unset] [(.int (0 : Int32))])) t
    refine XS.iload X1.here hx rfl (hb hby d1_11) rfl ?_
    show Steps p.tables e below (T1.setTop (mkF m 13 #[.val (.ref a0), .val (.long q1), .second, .val (.ref a2), .val (.ref a3), .val (.ref a4), .val (.ref a5), .val (.int (0 : Int32)), .unset] [(.int (0 : Int32)), (.int (0 : Int32))])) t
    refine XS.icmpNo X1.here hx rfl (hb hby d1_13) rfl (by decide) ?_
    show Steps p.tables e below (T1.setTop (mkF m 16 #[.val (.ref a0), .val (.long q1), .second, .val (.ref a2), .val (.ref a3), .val (.ref a4), .val (.ref a5), .val (.int (0 : Int32)), .unset] [])) t
    refine XS.aload X1.here hx rfl (hb hby d1_16) rfl rfl ?_
    show Steps p.tables e below (T1.setTop (mkF m 18 #[.val (.ref a0), .val (.long q1), .second, .val (.ref a2), .val (.ref a3), .val (.ref a4), .val (.ref a5), .val (.int (0 : Int32)), .unset] [(.ref a4)])) t
    exact kt
  have st4 := own_length X1 hx hZ e1 Ar_a4 (z := (0 : Int32)) (by decide) (g := (mkF m 18 #[.val (.ref a0), .val (.long q1), .second, .val (.ref a2), .val (.ref a3), .val (.ref a4), .val (.ref a5), .val (.int (0 : Int32)), .unset] [(.ref a4)])) rfl rfl (hb hby d1_18)
  refine own_go st4 ?_
  refine own_go (T' := T1) (f' := (mkF m 26 #[.val (.ref a0), .val (.long q1), .second, .val (.ref a2), .val (.ref a3), .val (.ref a4), .val (.ref a5), .val (.int (0 : Int32)), .unset] [(.ref a5)])) (fun t kt => ?_) ?_
  · show Steps p.tables e below (T1.setTop (mkF m 19 #[.val (.ref a0), .val (.long q1), .second, .val (.ref a2), .val (.ref a3), .val (.ref a4), .val (.ref a5), .val (.int (0 : Int32)), .unset] [(.int (0 : Int32))])) t
    refine XS.iload X1.here hx rfl (hb hby d1_19) rfl ?_
    show Steps p.tables e below (T1.setTop (mkF m 21 #[.val (.ref a0), .val (.long q1), .second, .val (.ref a2), .val (.ref a3), .val (.ref a4), .val (.ref a5), .val (.int (0 : Int32)), .unset] [(.int (0 : Int32)), (.int (0 : Int32))])) t
    refine XS.icmpNo X1.here hx rfl (hb hby d1_21) rfl (by decide) ?_
    show Steps p.tables e below (T1.setTop (mkF m 24 #[.val (.ref a0), .val (.long q1), .second, .val (.ref a2), .val (.ref a3), .val (.ref a4), .val (.ref a5), .val (.int (0 : Int32)), .unset] [])) t
    refine XS.aload X1.here hx rfl (hb hby d1_24) rfl rfl ?_
    show Steps p.tables e below (T1.setTop (mkF m 26 #[.val (.ref a0), .val (.long q1), .second, .val (.ref a2), .val (.ref a3), .val (.ref a4), .val (.ref a5), .val (.int (0 : Int32)), .unset] [(.ref a5)])) t
    exact kt
  have st5 := own_length X1 hx hZ e1 Ar_a5 (z := (0 : Int32)) (by decide) (g := (mkF m 26 #[.val (.ref a0), .val (.long q1), .second, .val (.ref a2), .val (.ref a3), .val (.ref a4), .val (.ref a5), .val (.int (0 : Int32)), .unset] [(.ref a5)])) rfl rfl (hb hby d1_26)
  refine own_go st5 ?_
  refine own_go (T' := T1) (f' := (mkF m 42 #[.val (.ref a0), .val (.long q1), .second, .val (.ref a2), .val (.ref a3), .val (.ref a4), .val (.ref a5), .val (.int (0 : Int32)), .unset] [])) (fun t kt => ?_) ?_
  · show Steps p.tables e below (T1.setTop (mkF m 27 #[.val (.ref a0), .val (.long q1), .second, .val (.ref a2), .val (.ref a3), .val (.ref a4), .val (.ref a5), .val (.int (0 : Int32)), .unset] [(.int (0 : Int32))])) t
    refine XS.iload X1.here hx rfl (hb hby d1_27) rfl ?_
    show Steps p.tables e below (T1.setTop (mkF m 29 #[.val (.ref a0), .val (.long q1), .second, .val (.ref a2), .val (.ref a3), .val (.ref a4), .val (.ref a5), .val (.int (0 : Int32)), .unset] [(.int (0 : Int32)), (.int (0 : Int32))])) t
    refine XS.icmpYes X1.here hx rfl (pc0 := 29) (pc' := 42) rfl (hb hby d1_29) rfl (by decide) (by decide) (by decide) ?_
    show Steps p.tables e below (T1.setTop (mkF m 42 #[.val (.ref a0), .val (.long q1), .second, .val (.ref a2), .val (.ref a3), .val (.ref a4), .val (.ref a5), .val (.int (0 : Int32)), .unset] [])) t
    exact kt
  obtain ⟨sa6, T6, h6, k6, X6, e6, E6, hS, kz6, hZ, hown, st6⟩ := ldcS (s := s) X1 hx hZ hown (hw _ (List.mem_of_getElem? (i := 11) rfl)) (own_wS hw) e1 hS (Nat.zero_le _) (g := (mkF m 42 #[.val (.ref a0), .val (.long q1), .second, .val (.ref a2), .val (.ref a3), .val (.ref a4), .val (.ref a5), .val (.int (0 : Int32)), .unset] [])) rfl (hb hby d1_42) (n := 32) (by decide) (by decide) (by decide) (by decide)
  refine own_go st6 ?_
  replace E_a0 := (E_a0.ext E6)
  replace Ar_a2 := (Ar_a2.ext E6)
  replace E_a2 := (E_a2.ext E6)
  replace Ar_a3 := (Ar_a3.ext E6)
  replace E_a3 := (E_a3.ext E6)
  replace Ar_a4 := (Ar_a4.ext E6)
  replace E_a4 := (E_a4.ext E6)
  replace Ar_a5 := (Ar_a5.ext E6)
  replace E_a5 := (E_a5.ext E6)
  replace K_a0 := own_K_ext K_a0 E6
  have ZE6 : n0 ≤ h6.size := Nat.le_trans Z0 E6.1
  have KKE6 := K0.ext E6
  have kzE6 := Nat.le_trans (Nat.zero_le _) E6.1
  refine own_go (T' := T6) (f' := (mkF m 46 #[.val (.ref a0), .val (.long q1), .second, .val (.ref a2), .val (.ref a3), .val (.ref a4), .val (.ref a5), .val (.int (0 : Int32)), .unset] [(.long (0 : Int64)), (.long q1), (.ref sa6)])) (fun t kt => ?_) ?_
  · show Steps p.tables e below (T6.setTop (mkF m 44 #[.val (.ref a0), .val (.long q1), .second, .val (.ref a2), .val (.ref a3), .val (.ref a4), .val (.ref a5), .val (.int (0 : Int32)), .unset] [(.ref sa6)])) t
    refine XS.lloadN X6.here hx rfl (hb hby d1_44) rfl ?_
    show Steps p.tables e below (T6.setTop (mkF m 45 #[.val (.ref a0), .val (.long q1), .second, .val (.ref a2), .val (.ref a3), .val (.ref a4), .val (.ref a5), .val (.int (0 : Int32)), .unset] [(.long q1), (.ref sa6)])) t
    refine XS.lconst X6.here hx rfl (hb hby d1_45) ?_
    show Steps p.tables e below (T6.setTop (mkF m 46 #[.val (.ref a0), .val (.long q1), .second, .val (.ref a2), .val (.ref a3), .val (.ref a4), .val (.ref a5), .val (.int (0 : Int32)), .unset] [(.long (0 : Int64)), (.long q1), (.ref sa6)])) t
    exact kt
  refine own_callSp X6 hx hZ hown e6 (hw _ (List.mem_of_getElem? (i := 19) rfl)) (hw _ (List.mem_of_getElem? (i := 20) rfl)) (hw _ (List.mem_of_getElem? (i := 3) rfl)) (hw _ (List.mem_of_getElem? (i := 21) rfl)) (by decide) (rm3 l Z aw hw sa6 q1 (0 : Int64) h6 n0 ZE6 hq0 hq1) (g := (mkF m 46 #[.val (.ref a0), .val (.long q1), .second, .val (.ref a2), .val (.ref a3), .val (.ref a4), .val (.ref a5), .val (.int (0 : Int32)), .unset] [(.long (0 : Int64)), (.long q1), (.ref sa6)])) rfl (by rw [hml]; rfl) (argsL := [(.ref sa6), (.long q1), (.long (0 : Int64))]) (rest := []) (lenOf pd_0 rfl) rfl rfl (W := 0) (by show 2 * 0 + _ ≤ _; exact Nat.le_of_eq rfl) (hb hby d1_46) (by decide) (by decide) (by decide) (by decide) ?_
  intro T7 X7 e7
  refine own_go (T' := T7) (f' := (mkF m 114 #[.val (.ref a0), .val (.long q1), .second, .val (.ref a2), .val (.ref a3), .val (.ref a4), .val (.ref a5), .val (.int (0 : Int32)), .val (.int (0 : Int32))] [(.long q1), (.ref a0)])) (fun t kt => ?_) ?_
  · show Steps p.tables e below (T7.setTop (mkF m 49 #[.val (.ref a0), .val (.long q1), .second, .val (.ref a2), .val (.ref a3), .val (.ref a4), .val (.ref a5), .val (.int (0 : Int32)), .unset] [])) t
    refine XS.iconst X7.here hx rfl (hb hby d1_49) ?_
    show Steps p.tables e below (T7.setTop (mkF m 50 #[.val (.ref a0), .val (.long q1), .second, .val (.ref a2), .val (.ref a3), .val (.ref a4), .val (.ref a5), .val (.int (0 : Int32)), .unset] [(.int (0 : Int32))])) t
    refine XS.istore X7.here hx rfl (hb hby d1_50) rfl (l' := #[.val (.ref a0), .val (.long q1), .second, .val (.ref a2), .val (.ref a3), .val (.ref a4), .val (.ref a5), .val (.int (0 : Int32)), .val (.int (0 : Int32))]) rfl ?_
    show Steps p.tables e below (T7.setTop (mkF m 52 #[.val (.ref a0), .val (.long q1), .second, .val (.ref a2), .val (.ref a3), .val (.ref a4), .val (.ref a5), .val (.int (0 : Int32)), .val (.int (0 : Int32))] [])) t
    refine XS.iload X7.here hx rfl (hb hby d1_52) rfl ?_
    show Steps p.tables e below (T7.setTop (mkF m 54 #[.val (.ref a0), .val (.long q1), .second, .val (.ref a2), .val (.ref a3), .val (.ref a4), .val (.ref a5), .val (.int (0 : Int32)), .val (.int (0 : Int32))] [(.int (0 : Int32))])) t
    refine XS.iload X7.here hx rfl (hb hby d1_54) rfl ?_
    show Steps p.tables e below (T7.setTop (mkF m 56 #[.val (.ref a0), .val (.long q1), .second, .val (.ref a2), .val (.ref a3), .val (.ref a4), .val (.ref a5), .val (.int (0 : Int32)), .val (.int (0 : Int32))] [(.int (0 : Int32)), (.int (0 : Int32))])) t
    refine XS.icmpYes X7.here hx rfl (pc0 := 56) (pc' := 112) rfl (hb hby d1_56) rfl (by decide) (by decide) (by decide) ?_
    show Steps p.tables e below (T7.setTop (mkF m 112 #[.val (.ref a0), .val (.long q1), .second, .val (.ref a2), .val (.ref a3), .val (.ref a4), .val (.ref a5), .val (.int (0 : Int32)), .val (.int (0 : Int32))] [])) t
    refine XS.aloadN X7.here hx rfl (hb hby d1_112) rfl rfl ?_
    show Steps p.tables e below (T7.setTop (mkF m 113 #[.val (.ref a0), .val (.long q1), .second, .val (.ref a2), .val (.ref a3), .val (.ref a4), .val (.ref a5), .val (.int (0 : Int32)), .val (.int (0 : Int32))] [(.ref a0)])) t
    refine XS.lloadN X7.here hx rfl (hb hby d1_113) rfl ?_
    show Steps p.tables e below (T7.setTop (mkF m 114 #[.val (.ref a0), .val (.long q1), .second, .val (.ref a2), .val (.ref a3), .val (.ref a4), .val (.ref a5), .val (.int (0 : Int32)), .val (.int (0 : Int32))] [(.long q1), (.ref a0)])) t
    exact kt
  obtain ⟨uv8, F8_m_capacity⟩ := fld_laid E_a0 K_a0 (hw _ (List.mem_of_getElem? (i := 2) rfl)) (Or.inr (hw _ (List.mem_of_getElem? (i := 24) rfl)))
  obtain ⟨T8, h8, X8, e8, W8, st8⟩ := putF X7 hx hZ hown (host := "") (Or.inl (hw _ (List.mem_of_getElem? (i := 23) rfl))) Via.refl e7 F8_m_capacity E_a0 (Or.inr ⟨(hw _ (List.mem_of_getElem? (i := 24) rfl)), rfl, hnm⟩) (hw _ (List.mem_of_getElem? (i := 2) rfl)) (ty := .long) (by decide) rfl rfl (g := (mkF m 114 #[.val (.ref a0), .val (.long q1), .second, .val (.ref a2), .val (.ref a3), .val (.ref a4), .val (.ref a5), .val (.int (0 : Int32)), .val (.int (0 : Int32))] [(.long q1), (.ref a0)])) rfl rfl (hb hby d1_114)
  refine own_go st8 ?_
  replace E_a0 := (E_a0.wr W8)
  replace Ar_a2 := (Ar_a2.other W8 (ne_a2_a0))
  replace E_a2 := (E_a2.wr W8)
  replace Ar_a3 := (Ar_a3.other W8 (ne_a3_a0))
  replace E_a3 := (E_a3.wr W8)
  replace Ar_a4 := (Ar_a4.other W8 (ne_a4_a0))
  replace E_a4 := (E_a4.wr W8)
  replace Ar_a5 := (Ar_a5.other W8 (ne_a5_a0))
  replace E_a5 := (E_a5.wr W8)
  replace F8_m_capacity := (F8_m_capacity.same W8)
  replace K_a0 := own_K_wr K_a0 W8
  have N8 := Fr.snoc X8 N0 g_a0
  have Z8 : n0 ≤ h8.size := Nat.le_trans ZE6 (Keep.of_wr W8).1
  have KK8 := KKE6.wr W8 (Or.inl (by simp))
  have kz8 := Nat.le_trans kz6 (Keep.of_wr W8).1
  refine own_go (T' := T8) (f' := (mkF m 119 #[.val (.ref a0), .val (.long q1), .second, .val (.ref a2), .val (.ref a3), .val (.ref a4), .val (.ref a5), .val (.int (0 : Int32)), .val (.int (0 : Int32))] [(.ref a2), (.ref a0)])) (fun t kt => ?_) ?_
  · show Steps p.tables e below (T8.setTop (mkF m 117 #[.val (.ref a0), .val (.long q1), .second, .val (.ref a2), .val (.ref a3), .val (.ref a4), .val (.ref a5), .val (.int (0 : Int32)), .val (.int (0 : Int32))] [])) t
    refine XS.aloadN X8.here hx rfl (hb hby d1_117) rfl rfl ?_
    show Steps p.tables e below (T8.setTop (mkF m 118 #[.val (.ref a0), .val (.long q1), .second, .val (.ref a2), .val (.ref a3), .val (.ref a4), .val (.ref a5), .val (.int (0 : Int32)), .val (.int (0 : Int32))] [(.ref a0)])) t
    refine XS.aloadN X8.here hx rfl (hb hby d1_118) rfl rfl ?_
    show Steps p.tables e below (T8.setTop (mkF m 119 #[.val (.ref a0), .val (.long q1), .second, .val (.ref a2), .val (.ref a3), .val (.ref a4), .val (.ref a5), .val (.int (0 : Int32)), .val (.int (0 : Int32))] [(.ref a2), (.ref a0)])) t
    exact kt
  obtain ⟨T9, h9, X9, e9, E9, A9, C9, st9⟩ := own_clone X8 hx hZ hown (hw _ (List.mem_of_getElem? (i := 25) rfl)) (hw _ (List.mem_of_getElem? (i := 26) rfl)) (hw _ (List.mem_of_getElem? (i := 30) rfl)) (hw _ (List.mem_of_getElem? (i := 28) rfl)) (hw _ (List.mem_of_getElem? (i := 29) rfl)) (hw _ (List.mem_of_getElem? (i := 31) rfl)) e8 Ar_a2 E_a2 (g := (mkF m 119 #[.val (.ref a0), .val (.long q1), .second, .val (.ref a2), .val (.ref a3), .val (.ref a4), .val (.ref a5), .val (.int (0 : Int32)), .val (.int (0 : Int32))] [(.ref a2), (.ref a0)])) rfl (by rw [hml]; rfl) rfl (hb hby d1_119) (by decide) (W := 1) (cap := 0) (by show 2 * 0 + _ ≤ _; exact Nat.le_of_eq rfl) (by decide) (by decide) (by decide) (by decide)
  obtain ⟨b9, y9⟩ : ∃ z, z = h8.size := ⟨_, rfl⟩
  rw [← y9] at A9 C9 st9
  have ne_a0_b9 : a0 ≠ b9 := Nat.ne_of_lt (Nat.lt_of_lt_of_le E_a0.lt (Nat.le_of_eq y9.symm))
  have ne_b9_a0 := ne_a0_b9.symm
  have ne_a2_b9 : a2 ≠ b9 := Nat.ne_of_lt (Nat.lt_of_lt_of_le Ar_a2.lt (Nat.le_of_eq y9.symm))
  have ne_b9_a2 := ne_a2_b9.symm
  have ne_a3_b9 : a3 ≠ b9 := Nat.ne_of_lt (Nat.lt_of_lt_of_le Ar_a3.lt (Nat.le_of_eq y9.symm))
  have ne_b9_a3 := ne_a3_b9.symm
  have ne_a4_b9 : a4 ≠ b9 := Nat.ne_of_lt (Nat.lt_of_lt_of_le Ar_a4.lt (Nat.le_of_eq y9.symm))
  have ne_b9_a4 := ne_a4_b9.symm
  have ne_a5_b9 : a5 ≠ b9 := Nat.ne_of_lt (Nat.lt_of_lt_of_le Ar_a5.lt (Nat.le_of_eq y9.symm))
  have ne_b9_a5 := ne_a5_b9.symm
  have g_b9 : n0 ≤ b9 := Nat.le_trans Z8 (Nat.le_of_eq y9.symm)
  have sz_b9 : h0.size ≤ b9 := Nat.le_trans KK8.1 (Nat.le_of_eq y9.symm)
  replace E_a0 := (E_a0.ext E9)
  replace Ar_a2 := (Ar_a2.ext E9)
  replace E_a2 := (E_a2.ext E9)
  replace Ar_a3 := (Ar_a3.ext E9)
  replace E_a3 := (E_a3.ext E9)
  replace Ar_a4 := (Ar_a4.ext E9)
  replace E_a4 := (E_a4.ext E9)
  replace Ar_a5 := (Ar_a5.ext E9)
  replace E_a5 := (E_a5.ext E9)
  replace F8_m_capacity := (F8_m_capacity.ext E9)
  replace K_a0 := own_K_ext K_a0 E9
  have ZE9 : n0 ≤ h9.size := Nat.le_trans Z8 E9.1
  have KKE9 := KK8.ext E9
  have kzE9 := Nat.le_trans kz8 E9.1
  refine own_go st9 ?_
  obtain ⟨T10, X10, e10, st10⟩ := castY X9 hx hZ hown (hw _ (List.mem_of_getElem? (i := 32) rfl)) e9 (Ins.self C9) (g := (mkF m 122 #[.val (.ref a0), .val (.long q1), .second, .val (.ref a2), .val (.ref a3), .val (.ref a4), .val (.ref a5), .val (.int (0 : Int32)), .val (.int (0 : Int32))] [(.ref b9), (.ref a0)])) rfl rfl (hb hby d1_122)
  refine own_go st10 ?_
  obtain ⟨uv11, F11_m_est⟩ := fld_laid E_a0 K_a0 (hw _ (List.mem_of_getElem? (i := 2) rfl)) (Or.inr (hw _ (List.mem_of_getElem? (i := 35) rfl)))
  obtain ⟨T11, h11, X11, e11, W11, st11⟩ := putF X10 hx hZ hown (host := "") (Or.inl (hw _ (List.mem_of_getElem? (i := 34) rfl))) Via.refl e10 F11_m_est E_a0 (Or.inr ⟨(hw _ (List.mem_of_getElem? (i := 35) rfl)), rfl, hnm⟩) (hw _ (List.mem_of_getElem? (i := 2) rfl)) (ty := (.array .long)) (by decide) rfl rfl (g := (mkF m 125 #[.val (.ref a0), .val (.long q1), .second, .val (.ref a2), .val (.ref a3), .val (.ref a4), .val (.ref a5), .val (.int (0 : Int32)), .val (.int (0 : Int32))] [(.ref b9), (.ref a0)])) rfl rfl (hb hby d1_125)
  refine own_go st11 ?_
  replace E_a0 := (E_a0.wr W11)
  replace Ar_a2 := (Ar_a2.other W11 (ne_a2_a0))
  replace E_a2 := (E_a2.wr W11)
  replace Ar_a3 := (Ar_a3.other W11 (ne_a3_a0))
  replace E_a3 := (E_a3.wr W11)
  replace Ar_a4 := (Ar_a4.other W11 (ne_a4_a0))
  replace E_a4 := (E_a4.wr W11)
  replace Ar_a5 := (Ar_a5.other W11 (ne_a5_a0))
  replace E_a5 := (E_a5.wr W11)
  replace F8_m_capacity := (F8_m_capacity.other W11 (Or.inr (slot_ne (Or.inr (hw _ (List.mem_of_getElem? (i := 24) rfl))) (Or.inr (hw _ (List.mem_of_getElem? (i := 35) rfl))) (by decide) (t := .long) (t' := (.array .long)) (by decide) (by decide))))
  replace A9 := (A9.other W11 (ne_b9_a0))
  replace C9 := (C9.wr W11)
  replace F11_m_est := (F11_m_est.same W11)
  replace K_a0 := own_K_wr K_a0 W11
  have N11 := Fr.snoc X11 N8 g_a0
  have Z11 : n0 ≤ h11.size := Nat.le_trans ZE9 (Keep.of_wr W11).1
  have KK11 := KKE9.wr W11 (Or.inl (by simp))
  have kz11 := Nat.le_trans kzE9 (Keep.of_wr W11).1
  refine own_go (T' := T11) (f' := (mkF m 131 #[.val (.ref a0), .val (.long q1), .second, .val (.ref a2), .val (.ref a3), .val (.ref a4), .val (.ref a5), .val (.int (0 : Int32)), .val (.int (0 : Int32))] [(.ref a3), (.ref a0)])) (fun t kt => ?_) ?_
  · show Steps p.tables e below (T11.setTop (mkF m 128 #[.val (.ref a0), .val (.long q1), .second, .val (.ref a2), .val (.ref a3), .val (.ref a4), .val (.ref a5), .val (.int (0 : Int32)), .val (.int (0 : Int32))] [])) t
    refine XS.aloadN X11.here hx rfl (hb hby d1_128) rfl rfl ?_
    show Steps p.tables e below (T11.setTop (mkF m 129 #[.val (.ref a0), .val (.long q1), .second, .val (.ref a2), .val (.ref a3), .val (.ref a4), .val (.ref a5), .val (.int (0 : Int32)), .val (.int (0 : Int32))] [(.ref a0)])) t
    refine XS.aload X11.here hx rfl (hb hby d1_129) rfl rfl ?_
    show Steps p.tables e below (T11.setTop (mkF m 131 #[.val (.ref a0), .val (.long q1), .second, .val (.ref a2), .val (.ref a3), .val (.ref a4), .val (.ref a5), .val (.int (0 : Int32)), .val (.int (0 : Int32))] [(.ref a3), (.ref a0)])) t
    exact kt
  obtain ⟨T12, h12, X12, e12, E12, A12, C12, st12⟩ := own_clone X11 hx hZ hown (hw _ (List.mem_of_getElem? (i := 25) rfl)) (hw _ (List.mem_of_getElem? (i := 26) rfl)) (hw _ (List.mem_of_getElem? (i := 30) rfl)) (hw _ (List.mem_of_getElem? (i := 28) rfl)) (hw _ (List.mem_of_getElem? (i := 29) rfl)) (hw _ (List.mem_of_getElem? (i := 31) rfl)) e11 Ar_a3 E_a3 (g := (mkF m 131 #[.val (.ref a0), .val (.long q1), .second, .val (.ref a2), .val (.ref a3), .val (.ref a4), .val (.ref a5), .val (.int (0 : Int32)), .val (.int (0 : Int32))] [(.ref a3), (.ref a0)])) rfl (by rw [hml]; rfl) rfl (hb hby d1_131) (by decide) (W := 1) (cap := 0) (by show 2 * 0 + _ ≤ _; exact Nat.le_of_eq rfl) (by decide) (by decide) (by decide) (by decide)
  obtain ⟨b12, y12⟩ : ∃ z, z = h11.size := ⟨_, rfl⟩
  rw [← y12] at A12 C12 st12
  have ne_a0_b12 : a0 ≠ b12 := Nat.ne_of_lt (Nat.lt_of_lt_of_le E_a0.lt (Nat.le_of_eq y12.symm))
  have ne_b12_a0 := ne_a0_b12.symm
  have ne_a2_b12 : a2 ≠ b12 := Nat.ne_of_lt (Nat.lt_of_lt_of_le Ar_a2.lt (Nat.le_of_eq y12.symm))
  have ne_b12_a2 := ne_a2_b12.symm
  have ne_a3_b12 : a3 ≠ b12 := Nat.ne_of_lt (Nat.lt_of_lt_of_le Ar_a3.lt (Nat.le_of_eq y12.symm))
  have ne_b12_a3 := ne_a3_b12.symm
  have ne_a4_b12 : a4 ≠ b12 := Nat.ne_of_lt (Nat.lt_of_lt_of_le Ar_a4.lt (Nat.le_of_eq y12.symm))
  have ne_b12_a4 := ne_a4_b12.symm
  have ne_a5_b12 : a5 ≠ b12 := Nat.ne_of_lt (Nat.lt_of_lt_of_le Ar_a5.lt (Nat.le_of_eq y12.symm))
  have ne_b12_a5 := ne_a5_b12.symm
  have ne_b9_b12 : b9 ≠ b12 := Nat.ne_of_lt (Nat.lt_of_lt_of_le A9.lt (Nat.le_of_eq y12.symm))
  have ne_b12_b9 := ne_b9_b12.symm
  have g_b12 : n0 ≤ b12 := Nat.le_trans Z11 (Nat.le_of_eq y12.symm)
  have sz_b12 : h0.size ≤ b12 := Nat.le_trans KK11.1 (Nat.le_of_eq y12.symm)
  replace E_a0 := (E_a0.ext E12)
  replace Ar_a2 := (Ar_a2.ext E12)
  replace E_a2 := (E_a2.ext E12)
  replace Ar_a3 := (Ar_a3.ext E12)
  replace E_a3 := (E_a3.ext E12)
  replace Ar_a4 := (Ar_a4.ext E12)
  replace E_a4 := (E_a4.ext E12)
  replace Ar_a5 := (Ar_a5.ext E12)
  replace E_a5 := (E_a5.ext E12)
  replace F8_m_capacity := (F8_m_capacity.ext E12)
  replace A9 := (A9.ext E12)
  replace C9 := (C9.ext E12)
  replace F11_m_est := (F11_m_est.ext E12)
  replace K_a0 := own_K_ext K_a0 E12
  have ZE12 : n0 ≤ h12.size := Nat.le_trans Z11 E12.1
  have KKE12 := KK11.ext E12
  have kzE12 := Nat.le_trans kz11 E12.1
  refine own_go st12 ?_
  obtain ⟨T13, X13, e13, st13⟩ := castY X12 hx hZ hown (hw _ (List.mem_of_getElem? (i := 32) rfl)) e12 (Ins.self C12) (g := (mkF m 134 #[.val (.ref a0), .val (.long q1), .second, .val (.ref a2), .val (.ref a3), .val (.ref a4), .val (.ref a5), .val (.int (0 : Int32)), .val (.int (0 : Int32))] [(.ref b12), (.ref a0)])) rfl rfl (hb hby d1_134)
  refine own_go st13 ?_
  obtain ⟨uv14, F14_m_lct⟩ := fld_laid E_a0 K_a0 (hw _ (List.mem_of_getElem? (i := 2) rfl)) (Or.inr (hw _ (List.mem_of_getElem? (i := 37) rfl)))
  obtain ⟨T14, h14, X14, e14, W14, st14⟩ := putF X13 hx hZ hown (host := "") (Or.inl (hw _ (List.mem_of_getElem? (i := 36) rfl))) Via.refl e13 F14_m_lct E_a0 (Or.inr ⟨(hw _ (List.mem_of_getElem? (i := 37) rfl)), rfl, hnm⟩) (hw _ (List.mem_of_getElem? (i := 2) rfl)) (ty := (.array .long)) (by decide) rfl rfl (g := (mkF m 137 #[.val (.ref a0), .val (.long q1), .second, .val (.ref a2), .val (.ref a3), .val (.ref a4), .val (.ref a5), .val (.int (0 : Int32)), .val (.int (0 : Int32))] [(.ref b12), (.ref a0)])) rfl rfl (hb hby d1_137)
  refine own_go st14 ?_
  replace E_a0 := (E_a0.wr W14)
  replace Ar_a2 := (Ar_a2.other W14 (ne_a2_a0))
  replace E_a2 := (E_a2.wr W14)
  replace Ar_a3 := (Ar_a3.other W14 (ne_a3_a0))
  replace E_a3 := (E_a3.wr W14)
  replace Ar_a4 := (Ar_a4.other W14 (ne_a4_a0))
  replace E_a4 := (E_a4.wr W14)
  replace Ar_a5 := (Ar_a5.other W14 (ne_a5_a0))
  replace E_a5 := (E_a5.wr W14)
  replace F8_m_capacity := (F8_m_capacity.other W14 (Or.inr (slot_ne (Or.inr (hw _ (List.mem_of_getElem? (i := 24) rfl))) (Or.inr (hw _ (List.mem_of_getElem? (i := 37) rfl))) (by decide) (t := .long) (t' := (.array .long)) (by decide) (by decide))))
  replace A9 := (A9.other W14 (ne_b9_a0))
  replace C9 := (C9.wr W14)
  replace F11_m_est := (F11_m_est.other W14 (Or.inr (slot_ne (Or.inr (hw _ (List.mem_of_getElem? (i := 35) rfl))) (Or.inr (hw _ (List.mem_of_getElem? (i := 37) rfl))) (by decide) (t := (.array .long)) (t' := (.array .long)) (by decide) (by decide))))
  replace A12 := (A12.other W14 (ne_b12_a0))
  replace C12 := (C12.wr W14)
  replace F14_m_lct := (F14_m_lct.same W14)
  replace K_a0 := own_K_wr K_a0 W14
  have N14 := Fr.snoc X14 N11 g_a0
  have Z14 : n0 ≤ h14.size := Nat.le_trans ZE12 (Keep.of_wr W14).1
  have KK14 := KKE12.wr W14 (Or.inl (by simp))
  have kz14 := Nat.le_trans kzE12 (Keep.of_wr W14).1
  refine own_go (T' := T14) (f' := (mkF m 143 #[.val (.ref a0), .val (.long q1), .second, .val (.ref a2), .val (.ref a3), .val (.ref a4), .val (.ref a5), .val (.int (0 : Int32)), .val (.int (0 : Int32))] [(.ref a4), (.ref a0)])) (fun t kt => ?_) ?_
  · show Steps p.tables e below (T14.setTop (mkF m 140 #[.val (.ref a0), .val (.long q1), .second, .val (.ref a2), .val (.ref a3), .val (.ref a4), .val (.ref a5), .val (.int (0 : Int32)), .val (.int (0 : Int32))] [])) t
    refine XS.aloadN X14.here hx rfl (hb hby d1_140) rfl rfl ?_
    show Steps p.tables e below (T14.setTop (mkF m 141 #[.val (.ref a0), .val (.long q1), .second, .val (.ref a2), .val (.ref a3), .val (.ref a4), .val (.ref a5), .val (.int (0 : Int32)), .val (.int (0 : Int32))] [(.ref a0)])) t
    refine XS.aload X14.here hx rfl (hb hby d1_141) rfl rfl ?_
    show Steps p.tables e below (T14.setTop (mkF m 143 #[.val (.ref a0), .val (.long q1), .second, .val (.ref a2), .val (.ref a3), .val (.ref a4), .val (.ref a5), .val (.int (0 : Int32)), .val (.int (0 : Int32))] [(.ref a4), (.ref a0)])) t
    exact kt
  obtain ⟨T15, h15, X15, e15, E15, A15, C15, st15⟩ := own_clone X14 hx hZ hown (hw _ (List.mem_of_getElem? (i := 25) rfl)) (hw _ (List.mem_of_getElem? (i := 26) rfl)) (hw _ (List.mem_of_getElem? (i := 30) rfl)) (hw _ (List.mem_of_getElem? (i := 28) rfl)) (hw _ (List.mem_of_getElem? (i := 29) rfl)) (hw _ (List.mem_of_getElem? (i := 31) rfl)) e14 Ar_a4 E_a4 (g := (mkF m 143 #[.val (.ref a0), .val (.long q1), .second, .val (.ref a2), .val (.ref a3), .val (.ref a4), .val (.ref a5), .val (.int (0 : Int32)), .val (.int (0 : Int32))] [(.ref a4), (.ref a0)])) rfl (by rw [hml]; rfl) rfl (hb hby d1_143) (by decide) (W := 1) (cap := 0) (by show 2 * 0 + _ ≤ _; exact Nat.le_of_eq rfl) (by decide) (by decide) (by decide) (by decide)
  obtain ⟨b15, y15⟩ : ∃ z, z = h14.size := ⟨_, rfl⟩
  rw [← y15] at A15 C15 st15
  have ne_a0_b15 : a0 ≠ b15 := Nat.ne_of_lt (Nat.lt_of_lt_of_le E_a0.lt (Nat.le_of_eq y15.symm))
  have ne_b15_a0 := ne_a0_b15.symm
  have ne_a2_b15 : a2 ≠ b15 := Nat.ne_of_lt (Nat.lt_of_lt_of_le Ar_a2.lt (Nat.le_of_eq y15.symm))
  have ne_b15_a2 := ne_a2_b15.symm
  have ne_a3_b15 : a3 ≠ b15 := Nat.ne_of_lt (Nat.lt_of_lt_of_le Ar_a3.lt (Nat.le_of_eq y15.symm))
  have ne_b15_a3 := ne_a3_b15.symm
  have ne_a4_b15 : a4 ≠ b15 := Nat.ne_of_lt (Nat.lt_of_lt_of_le Ar_a4.lt (Nat.le_of_eq y15.symm))
  have ne_b15_a4 := ne_a4_b15.symm
  have ne_a5_b15 : a5 ≠ b15 := Nat.ne_of_lt (Nat.lt_of_lt_of_le Ar_a5.lt (Nat.le_of_eq y15.symm))
  have ne_b15_a5 := ne_a5_b15.symm
  have ne_b9_b15 : b9 ≠ b15 := Nat.ne_of_lt (Nat.lt_of_lt_of_le A9.lt (Nat.le_of_eq y15.symm))
  have ne_b15_b9 := ne_b9_b15.symm
  have ne_b12_b15 : b12 ≠ b15 := Nat.ne_of_lt (Nat.lt_of_lt_of_le A12.lt (Nat.le_of_eq y15.symm))
  have ne_b15_b12 := ne_b12_b15.symm
  have g_b15 : n0 ≤ b15 := Nat.le_trans Z14 (Nat.le_of_eq y15.symm)
  have sz_b15 : h0.size ≤ b15 := Nat.le_trans KK14.1 (Nat.le_of_eq y15.symm)
  replace E_a0 := (E_a0.ext E15)
  replace Ar_a2 := (Ar_a2.ext E15)
  replace E_a2 := (E_a2.ext E15)
  replace Ar_a3 := (Ar_a3.ext E15)
  replace E_a3 := (E_a3.ext E15)
  replace Ar_a4 := (Ar_a4.ext E15)
  replace E_a4 := (E_a4.ext E15)
  replace Ar_a5 := (Ar_a5.ext E15)
  replace E_a5 := (E_a5.ext E15)
  replace F8_m_capacity := (F8_m_capacity.ext E15)
  replace A9 := (A9.ext E15)
  replace C9 := (C9.ext E15)
  replace F11_m_est := (F11_m_est.ext E15)
  replace A12 := (A12.ext E15)
  replace C12 := (C12.ext E15)
  replace F14_m_lct := (F14_m_lct.ext E15)
  replace K_a0 := own_K_ext K_a0 E15
  have ZE15 : n0 ≤ h15.size := Nat.le_trans Z14 E15.1
  have KKE15 := KK14.ext E15
  have kzE15 := Nat.le_trans kz14 E15.1
  refine own_go st15 ?_
  obtain ⟨T16, X16, e16, st16⟩ := castY X15 hx hZ hown (hw _ (List.mem_of_getElem? (i := 32) rfl)) e15 (Ins.self C15) (g := (mkF m 146 #[.val (.ref a0), .val (.long q1), .second, .val (.ref a2), .val (.ref a3), .val (.ref a4), .val (.ref a5), .val (.int (0 : Int32)), .val (.int (0 : Int32))] [(.ref b15), (.ref a0)])) rfl rfl (hb hby d1_146)
  refine own_go st16 ?_
  obtain ⟨uv17, F17_m_duration⟩ := fld_laid E_a0 K_a0 (hw _ (List.mem_of_getElem? (i := 2) rfl)) (Or.inr (hw _ (List.mem_of_getElem? (i := 39) rfl)))
  obtain ⟨T17, h17, X17, e17, W17, st17⟩ := putF X16 hx hZ hown (host := "") (Or.inl (hw _ (List.mem_of_getElem? (i := 38) rfl))) Via.refl e16 F17_m_duration E_a0 (Or.inr ⟨(hw _ (List.mem_of_getElem? (i := 39) rfl)), rfl, hnm⟩) (hw _ (List.mem_of_getElem? (i := 2) rfl)) (ty := (.array .long)) (by decide) rfl rfl (g := (mkF m 149 #[.val (.ref a0), .val (.long q1), .second, .val (.ref a2), .val (.ref a3), .val (.ref a4), .val (.ref a5), .val (.int (0 : Int32)), .val (.int (0 : Int32))] [(.ref b15), (.ref a0)])) rfl rfl (hb hby d1_149)
  refine own_go st17 ?_
  replace E_a0 := (E_a0.wr W17)
  replace Ar_a2 := (Ar_a2.other W17 (ne_a2_a0))
  replace E_a2 := (E_a2.wr W17)
  replace Ar_a3 := (Ar_a3.other W17 (ne_a3_a0))
  replace E_a3 := (E_a3.wr W17)
  replace Ar_a4 := (Ar_a4.other W17 (ne_a4_a0))
  replace E_a4 := (E_a4.wr W17)
  replace Ar_a5 := (Ar_a5.other W17 (ne_a5_a0))
  replace E_a5 := (E_a5.wr W17)
  replace F8_m_capacity := (F8_m_capacity.other W17 (Or.inr (slot_ne (Or.inr (hw _ (List.mem_of_getElem? (i := 24) rfl))) (Or.inr (hw _ (List.mem_of_getElem? (i := 39) rfl))) (by decide) (t := .long) (t' := (.array .long)) (by decide) (by decide))))
  replace A9 := (A9.other W17 (ne_b9_a0))
  replace C9 := (C9.wr W17)
  replace F11_m_est := (F11_m_est.other W17 (Or.inr (slot_ne (Or.inr (hw _ (List.mem_of_getElem? (i := 35) rfl))) (Or.inr (hw _ (List.mem_of_getElem? (i := 39) rfl))) (by decide) (t := (.array .long)) (t' := (.array .long)) (by decide) (by decide))))
  replace A12 := (A12.other W17 (ne_b12_a0))
  replace C12 := (C12.wr W17)
  replace F14_m_lct := (F14_m_lct.other W17 (Or.inr (slot_ne (Or.inr (hw _ (List.mem_of_getElem? (i := 37) rfl))) (Or.inr (hw _ (List.mem_of_getElem? (i := 39) rfl))) (by decide) (t := (.array .long)) (t' := (.array .long)) (by decide) (by decide))))
  replace A15 := (A15.other W17 (ne_b15_a0))
  replace C15 := (C15.wr W17)
  replace F17_m_duration := (F17_m_duration.same W17)
  replace K_a0 := own_K_wr K_a0 W17
  have N17 := Fr.snoc X17 N14 g_a0
  have Z17 : n0 ≤ h17.size := Nat.le_trans ZE15 (Keep.of_wr W17).1
  have KK17 := KKE15.wr W17 (Or.inl (by simp))
  have kz17 := Nat.le_trans kzE15 (Keep.of_wr W17).1
  refine own_go (T' := T17) (f' := (mkF m 155 #[.val (.ref a0), .val (.long q1), .second, .val (.ref a2), .val (.ref a3), .val (.ref a4), .val (.ref a5), .val (.int (0 : Int32)), .val (.int (0 : Int32))] [(.ref a5), (.ref a0)])) (fun t kt => ?_) ?_
  · show Steps p.tables e below (T17.setTop (mkF m 152 #[.val (.ref a0), .val (.long q1), .second, .val (.ref a2), .val (.ref a3), .val (.ref a4), .val (.ref a5), .val (.int (0 : Int32)), .val (.int (0 : Int32))] [])) t
    refine XS.aloadN X17.here hx rfl (hb hby d1_152) rfl rfl ?_
    show Steps p.tables e below (T17.setTop (mkF m 153 #[.val (.ref a0), .val (.long q1), .second, .val (.ref a2), .val (.ref a3), .val (.ref a4), .val (.ref a5), .val (.int (0 : Int32)), .val (.int (0 : Int32))] [(.ref a0)])) t
    refine XS.aload X17.here hx rfl (hb hby d1_153) rfl rfl ?_
    show Steps p.tables e below (T17.setTop (mkF m 155 #[.val (.ref a0), .val (.long q1), .second, .val (.ref a2), .val (.ref a3), .val (.ref a4), .val (.ref a5), .val (.int (0 : Int32)), .val (.int (0 : Int32))] [(.ref a5), (.ref a0)])) t
    exact kt
  obtain ⟨T18, h18, X18, e18, E18, A18, C18, st18⟩ := own_clone X17 hx hZ hown (hw _ (List.mem_of_getElem? (i := 25) rfl)) (hw _ (List.mem_of_getElem? (i := 26) rfl)) (hw _ (List.mem_of_getElem? (i := 30) rfl)) (hw _ (List.mem_of_getElem? (i := 28) rfl)) (hw _ (List.mem_of_getElem? (i := 29) rfl)) (hw _ (List.mem_of_getElem? (i := 31) rfl)) e17 Ar_a5 E_a5 (g := (mkF m 155 #[.val (.ref a0), .val (.long q1), .second, .val (.ref a2), .val (.ref a3), .val (.ref a4), .val (.ref a5), .val (.int (0 : Int32)), .val (.int (0 : Int32))] [(.ref a5), (.ref a0)])) rfl (by rw [hml]; rfl) rfl (hb hby d1_155) (by decide) (W := 1) (cap := 0) (by show 2 * 0 + _ ≤ _; exact Nat.le_of_eq rfl) (by decide) (by decide) (by decide) (by decide)
  obtain ⟨b18, y18⟩ : ∃ z, z = h17.size := ⟨_, rfl⟩
  rw [← y18] at A18 C18 st18
  have ne_a0_b18 : a0 ≠ b18 := Nat.ne_of_lt (Nat.lt_of_lt_of_le E_a0.lt (Nat.le_of_eq y18.symm))
  have ne_b18_a0 := ne_a0_b18.symm
  have ne_a2_b18 : a2 ≠ b18 := Nat.ne_of_lt (Nat.lt_of_lt_of_le Ar_a2.lt (Nat.le_of_eq y18.symm))
  have ne_b18_a2 := ne_a2_b18.symm
  have ne_a3_b18 : a3 ≠ b18 := Nat.ne_of_lt (Nat.lt_of_lt_of_le Ar_a3.lt (Nat.le_of_eq y18.symm))
  have ne_b18_a3 := ne_a3_b18.symm
  have ne_a4_b18 : a4 ≠ b18 := Nat.ne_of_lt (Nat.lt_of_lt_of_le Ar_a4.lt (Nat.le_of_eq y18.symm))
  have ne_b18_a4 := ne_a4_b18.symm
  have ne_a5_b18 : a5 ≠ b18 := Nat.ne_of_lt (Nat.lt_of_lt_of_le Ar_a5.lt (Nat.le_of_eq y18.symm))
  have ne_b18_a5 := ne_a5_b18.symm
  have ne_b9_b18 : b9 ≠ b18 := Nat.ne_of_lt (Nat.lt_of_lt_of_le A9.lt (Nat.le_of_eq y18.symm))
  have ne_b18_b9 := ne_b9_b18.symm
  have ne_b12_b18 : b12 ≠ b18 := Nat.ne_of_lt (Nat.lt_of_lt_of_le A12.lt (Nat.le_of_eq y18.symm))
  have ne_b18_b12 := ne_b12_b18.symm
  have ne_b15_b18 : b15 ≠ b18 := Nat.ne_of_lt (Nat.lt_of_lt_of_le A15.lt (Nat.le_of_eq y18.symm))
  have ne_b18_b15 := ne_b15_b18.symm
  have g_b18 : n0 ≤ b18 := Nat.le_trans Z17 (Nat.le_of_eq y18.symm)
  have sz_b18 : h0.size ≤ b18 := Nat.le_trans KK17.1 (Nat.le_of_eq y18.symm)
  replace E_a0 := (E_a0.ext E18)
  replace Ar_a2 := (Ar_a2.ext E18)
  replace E_a2 := (E_a2.ext E18)
  replace Ar_a3 := (Ar_a3.ext E18)
  replace E_a3 := (E_a3.ext E18)
  replace Ar_a4 := (Ar_a4.ext E18)
  replace E_a4 := (E_a4.ext E18)
  replace Ar_a5 := (Ar_a5.ext E18)
  replace E_a5 := (E_a5.ext E18)
  replace F8_m_capacity := (F8_m_capacity.ext E18)
  replace A9 := (A9.ext E18)
  replace C9 := (C9.ext E18)
  replace F11_m_est := (F11_m_est.ext E18)
  replace A12 := (A12.ext E18)
  replace C12 := (C12.ext E18)
  replace F14_m_lct := (F14_m_lct.ext E18)
  replace A15 := (A15.ext E18)
  replace C15 := (C15.ext E18)
  replace F17_m_duration := (F17_m_duration.ext E18)
  replace K_a0 := own_K_ext K_a0 E18
  have ZE18 : n0 ≤ h18.size := Nat.le_trans Z17 E18.1
  have KKE18 := KK17.ext E18
  have kzE18 := Nat.le_trans kz17 E18.1
  refine own_go st18 ?_
  obtain ⟨T19, X19, e19, st19⟩ := castY X18 hx hZ hown (hw _ (List.mem_of_getElem? (i := 32) rfl)) e18 (Ins.self C18) (g := (mkF m 158 #[.val (.ref a0), .val (.long q1), .second, .val (.ref a2), .val (.ref a3), .val (.ref a4), .val (.ref a5), .val (.int (0 : Int32)), .val (.int (0 : Int32))] [(.ref b18), (.ref a0)])) rfl rfl (hb hby d1_158)
  refine own_go st19 ?_
  obtain ⟨uv20, F20_m_height⟩ := fld_laid E_a0 K_a0 (hw _ (List.mem_of_getElem? (i := 2) rfl)) (Or.inr (hw _ (List.mem_of_getElem? (i := 41) rfl)))
  obtain ⟨T20, h20, X20, e20, W20, st20⟩ := putF X19 hx hZ hown (host := "") (Or.inl (hw _ (List.mem_of_getElem? (i := 40) rfl))) Via.refl e19 F20_m_height E_a0 (Or.inr ⟨(hw _ (List.mem_of_getElem? (i := 41) rfl)), rfl, hnm⟩) (hw _ (List.mem_of_getElem? (i := 2) rfl)) (ty := (.array .long)) (by decide) rfl rfl (g := (mkF m 161 #[.val (.ref a0), .val (.long q1), .second, .val (.ref a2), .val (.ref a3), .val (.ref a4), .val (.ref a5), .val (.int (0 : Int32)), .val (.int (0 : Int32))] [(.ref b18), (.ref a0)])) rfl rfl (hb hby d1_161)
  refine own_go st20 ?_
  replace E_a0 := (E_a0.wr W20)
  replace Ar_a2 := (Ar_a2.other W20 (ne_a2_a0))
  replace E_a2 := (E_a2.wr W20)
  replace Ar_a3 := (Ar_a3.other W20 (ne_a3_a0))
  replace E_a3 := (E_a3.wr W20)
  replace Ar_a4 := (Ar_a4.other W20 (ne_a4_a0))
  replace E_a4 := (E_a4.wr W20)
  replace Ar_a5 := (Ar_a5.other W20 (ne_a5_a0))
  replace E_a5 := (E_a5.wr W20)
  replace F8_m_capacity := (F8_m_capacity.other W20 (Or.inr (slot_ne (Or.inr (hw _ (List.mem_of_getElem? (i := 24) rfl))) (Or.inr (hw _ (List.mem_of_getElem? (i := 41) rfl))) (by decide) (t := .long) (t' := (.array .long)) (by decide) (by decide))))
  replace A9 := (A9.other W20 (ne_b9_a0))
  replace C9 := (C9.wr W20)
  replace F11_m_est := (F11_m_est.other W20 (Or.inr (slot_ne (Or.inr (hw _ (List.mem_of_getElem? (i := 35) rfl))) (Or.inr (hw _ (List.mem_of_getElem? (i := 41) rfl))) (by decide) (t := (.array .long)) (t' := (.array .long)) (by decide) (by decide))))
  replace A12 := (A12.other W20 (ne_b12_a0))
  replace C12 := (C12.wr W20)
  replace F14_m_lct := (F14_m_lct.other W20 (Or.inr (slot_ne (Or.inr (hw _ (List.mem_of_getElem? (i := 37) rfl))) (Or.inr (hw _ (List.mem_of_getElem? (i := 41) rfl))) (by decide) (t := (.array .long)) (t' := (.array .long)) (by decide) (by decide))))
  replace A15 := (A15.other W20 (ne_b15_a0))
  replace C15 := (C15.wr W20)
  replace F17_m_duration := (F17_m_duration.other W20 (Or.inr (slot_ne (Or.inr (hw _ (List.mem_of_getElem? (i := 39) rfl))) (Or.inr (hw _ (List.mem_of_getElem? (i := 41) rfl))) (by decide) (t := (.array .long)) (t' := (.array .long)) (by decide) (by decide))))
  replace A18 := (A18.other W20 (ne_b18_a0))
  replace C18 := (C18.wr W20)
  replace F20_m_height := (F20_m_height.same W20)
  replace K_a0 := own_K_wr K_a0 W20
  have N20 := Fr.snoc X20 N17 g_a0
  have Z20 : n0 ≤ h20.size := Nat.le_trans ZE18 (Keep.of_wr W20).1
  have KK20 := KKE18.wr W20 (Or.inl (by simp))
  have kz20 := Nat.le_trans kzE18 (Keep.of_wr W20).1
  exact own_retVW X20 hP hx hlk e20 hS kz20 hret (hb hby d1_164) (by decide) (by decide) ⟨rfl, N20, KK20, E_a0, ⟨_, g_b9, sz_b9, F11_m_est, A9⟩⟩
theorem d5_0 : decode prog_39_method_4_code 0 = .ok (.aload_n 0, 1) := by decide +kernel
theorem d5_1 : decode prog_39_method_4_code 1 = .ok (.getfield 44, 3) := by decide +kernel
theorem d5_4 : decode prog_39_method_4_code 4 = .ok (.arraylength, 1) := by decide +kernel
theorem d5_5 : decode prog_39_method_4_code 5 = .ok (.ireturn, 1) := by decide +kernel
set_option maxRecDepth 65536 in
set_option maxHeartbeats 4000000 in
theorem ef_5 (m : MethodId) (a0 : Addr) : entryFrame m #[(.ref a0)] 1 = mkF m 0 #[.val (.ref a0)] [] := by first | (simp [entryFrame, mkF, argsToLocals, Value.category]; done) | rfl
set_option maxRecDepth 65536 in
set_option maxHeartbeats 40000000 in
theorem rm5 (l : Launch) (Z : State) (aw : Array Value) (hw : ∀ d ∈ tables_1, d.before aw Z = true) {ws : List Jvm.Cond} (a0 : Addr) (w0 : Addr) (h0 : Heap) (n0 : Nat) (Z0 : n0 ≤ h0.size) (F_a0_m_est : Fld Z h0 a0 "com/example/ridgeline/ridgeline/cumulative/Resource" "m_est" "[J" (.ref w0)) (Ar_w0 : own_AJ Z h0 w0 0 (fun _ => (0 : Int64))) :
    own_Met l Z (⟨"com/example/ridgeline/ridgeline/cumulative/Resource", "size", "()I"⟩ : MethodName) prog_39_method_4_code 1 (some .int) ws ({ frames := 0, cells := 0, slots := 0, locals := 0 } : Room) #[(.ref a0)] h0 (own_Pq (some (.int (0 : Int32))) h0) := by
  refine own_body (plainFor_of_name pn_0) ?_
  intro p e s m below meth c s₁ hx hZ hby hml hown hnm hret hlk X0 e0
  replace hown : s.vm.findClass "com/example/ridgeline/ridgeline/cumulative/Resource" = some m.cls := hown
  replace hml : c.maxLocals = 1 := hml
  obtain ⟨P, hP⟩ : ∃ P, P = own_P below s (own_Pq (some (.int (0 : Int32))) h0) ({ frames := 0, cells := 0, slots := 0, locals := 0 } : Room).cells ({ frames := 0, cells := 0, slots := 0, locals := 0 } : Room).slots := ⟨_, rfl⟩
  rw [← hP]
  refine own_cast (ef_5 m a0) ?_
  refine own_go (T' := s₁) (f' := (mkF m 1 #[.val (.ref a0)] [(.ref a0)])) (fun t kt => ?_) ?_
  · show Steps p.tables e below (s₁.setTop (mkF m 0 #[.val (.ref a0)] [])) t
    refine XS.aloadN X0.here hx rfl (hb hby d5_0) rfl rfl ?_
    show Steps p.tables e below (s₁.setTop (mkF m 1 #[.val (.ref a0)] [(.ref a0)])) t
    exact kt
  obtain ⟨T1, X1, e1, st1⟩ := getF X0 hx hZ hown (host := "") (Or.inl (hw _ (List.mem_of_getElem? (i := 34) rfl))) Via.refl e0 F_a0_m_est (g := (mkF m 1 #[.val (.ref a0)] [(.ref a0)])) rfl rfl (hb hby d5_1)
  refine own_go st1 ?_
  have st2 := own_length X1 hx hZ e1 Ar_w0 (z := (0 : Int32)) (by decide) (g := (mkF m 4 #[.val (.ref a0)] [(.ref w0)])) rfl rfl (hb hby d5_4)
  refine own_go st2 ?_
  exact own_retI X1 hP hx hlk e1 hret (hb hby d5_5) (by decide) (by decide) ⟨rfl, rfl, rfl⟩
theorem pd_1 : parseMethodDescriptor "()I" = some ⟨[], some .int⟩ := by decide +kernel
theorem pn_1 : plainName "com/example/ridgeline/ridgeline/cumulative/IntervalLine" = true := by first | (simp [plainName, overriddenIn]; done) | decide +kernel
theorem d4_0 : decode prog_28_method_1_code 0 = .ok (.aload_n 0, 1) := by decide +kernel
theorem d4_1 : decode prog_28_method_1_code 1 = .ok (.invokespecial 1, 3) := by decide +kernel
theorem d4_4 : decode prog_28_method_1_code 4 = .ok (.aload_n 0, 1) := by decide +kernel
theorem d4_5 : decode prog_28_method_1_code 5 = .ok (.aload_n 1, 1) := by decide +kernel
theorem d4_6 : decode prog_28_method_1_code 6 = .ok (.putfield 7, 3) := by decide +kernel
theorem d4_9 : decode prog_28_method_1_code 9 = .ok (.aload_n 0, 1) := by decide +kernel
theorem d4_10 : decode prog_28_method_1_code 10 = .ok (.iload_n 2, 1) := by decide +kernel
theorem d4_11 : decode prog_28_method_1_code 11 = .ok (.newarray .long, 2) := by decide +kernel
theorem d4_13 : decode prog_28_method_1_code 13 = .ok (.putfield 13, 3) := by decide +kernel
theorem d4_16 : decode prog_28_method_1_code 16 = .ok (.aload_n 0, 1) := by decide +kernel
theorem d4_17 : decode prog_28_method_1_code 17 = .ok (.iload_n 2, 1) := by decide +kernel
theorem d4_18 : decode prog_28_method_1_code 18 = .ok (.newarray .long, 2) := by decide +kernel
theorem d4_20 : decode prog_28_method_1_code 20 = .ok (.putfield 17, 3) := by decide +kernel
theorem d4_23 : decode prog_28_method_1_code 23 = .ok (.aload_n 0, 1) := by decide +kernel
theorem d4_24 : decode prog_28_method_1_code 24 = .ok (.iconst 0, 1) := by decide +kernel
theorem d4_25 : decode prog_28_method_1_code 25 = .ok (.newarray .int, 2) := by decide +kernel
theorem d4_27 : decode prog_28_method_1_code 27 = .ok (.putfield 20, 3) := by decide +kernel
theorem d4_30 : decode prog_28_method_1_code 30 = .ok (.aload_n 0, 1) := by decide +kernel
theorem d4_31 : decode prog_28_method_1_code 31 = .ok (.aload_n 1, 1) := by decide +kernel
theorem d4_32 : decode prog_28_method_1_code 32 = .ok (.invokevirtual 24, 3) := by decide +kernel
theorem d4_35 : decode prog_28_method_1_code 35 = .ok (.newarray .long, 2) := by decide +kernel
theorem d4_37 : decode prog_28_method_1_code 37 = .ok (.putfield 30, 3) := by decide +kernel
theorem d4_40 : decode prog_28_method_1_code 40 = .ok (.aload_n 0, 1) := by decide +kernel
theorem d4_41 : decode prog_28_method_1_code 41 = .ok (.aload_n 1, 1) := by decide +kernel
theorem d4_42 : decode prog_28_method_1_code 42 = .ok (.invokevirtual 24, 3) := by decide +kernel
theorem d4_45 : decode prog_28_method_1_code 45 = .ok (.newarray .long, 2) := by decide +kernel
theorem d4_47 : decode prog_28_method_1_code 47 = .ok (.putfield 33, 3) := by decide +kernel
theorem d4_50 : decode prog_28_method_1_code 50 = .ok (.return_, 1) := by decide +kernel
set_option maxRecDepth 65536 in
set_option maxHeartbeats 4000000 in
theorem ef_4 (m : MethodId) (a0 : Addr) (a1 : Addr) (p2 : Int32) : entryFrame m #[(.ref a0), (.ref a1), (.int p2)] 3 = mkF m 0 #[.val (.ref a0), .val (.ref a1), .val (.int p2)] [] := by first | (simp [entryFrame, mkF, argsToLocals, Value.category]; done) | rfl
set_option maxRecDepth 65536 in
set_option maxHeartbeats 40000000 in
theorem rm4 (l : Launch) (Z : State) (aw : Array Value) (hw : ∀ d ∈ tables_1, d.before aw Z = true) {ws : List Jvm.Cond} (a0 : Addr) (a1 : Addr) (p2 : Int32) (n : Nat) (w0 : Addr) (sv : Value) (rv : Value) (ev : Value) (h0 : Heap) (n0 : Nat) (Z0 : n0 ≤ h0.size) (E_a0 : Exa Z h0 a0 "com/example/ridgeline/ridgeline/cumulative/IntervalLine") (K_a0 : own_K h0 a0) (g_a0 : n0 ≤ a0) (F_a0_m_size : Fld Z h0 a0 "com/example/ridgeline/ridgeline/cumulative/IntervalLine" "m_size" "I" sv) (F_a0_m_row : Fld Z h0 a0 "com/example/ridgeline/ridgeline/cumulative/IntervalLine" "m_row" "Z" rv) (F_a0_m_end : Fld Z h0 a0 "com/example/ridgeline/ridgeline/cumulative/IntervalLine" "m_end" "J" ev) (E_a1 : Exa Z h0 a1 "com/example/ridgeline/ridgeline/cumulative/Resource") (F_a1_m_est : Fld Z h0 a1 "com/example/ridgeline/ridgeline/cumulative/Resource" "m_est" "[J" (.ref w0)) (Ar_w0 : own_AJ Z h0 w0 0 (fun _ => (0 : Int64))) (ne_a1_a0 : a1 ≠ a0) (ne_w0_a0 : w0 ≠ a0) (hz : p2.toInt = (n : Int)) (hn : n ≤ 4) :
    own_Met l Z (⟨"com/example/ridgeline/ridgeline/cumulative/IntervalLine", "<init>", "(Lcom/example/ridgeline/ridgeline/cumulative/Resource;I)V"⟩ : MethodName) prog_28_method_1_code 3 none ws ({ frames := 1, cells := 5, slots := 8, locals := 13 } : Room) #[(.ref a0), (.ref a1), (.int p2)] h0 (fun v h L => v = none ∧ Fr n0 L ∧ Keep h0 h [a0] ∧ Exa Z h a0 "com/example/ridgeline/ridgeline/cumulative/IntervalLine" ∧ Fld Z h a0 "com/example/ridgeline/ridgeline/cumulative/IntervalLine" "m_size" "I" sv ∧ Fld Z h a0 "com/example/ridgeline/ridgeline/cumulative/IntervalLine" "m_row" "Z" rv ∧ Fld Z h a0 "com/example/ridgeline/ridgeline/cumulative/IntervalLine" "m_end" "J" ev ∧ ∃ r, n0 ≤ r ∧ h0.size ≤ r ∧ Fld Z h a0 "com/example/ridgeline/ridgeline/cumulative/IntervalLine" "m_length" "[J" (.ref r) ∧ own_AJ Z h r n (fun _ => (0 : Int64))) := by
  refine own_body (plainFor_of_name pn_1) ?_
  intro p e s m below meth c s₁ hx hZ hby hml hown hnm hret hlk X0 e0
  replace hown : s.vm.findClass "com/example/ridgeline/ridgeline/cumulative/IntervalLine" = some m.cls := hown
  replace hml : c.maxLocals = 3 := hml
  have N0 := Fr.nil n0
  have K0 := Keep.refl h0 [a0]
  obtain ⟨P, hP⟩ : ∃ P, P = own_P below s (fun v h L => v = none ∧ Fr n0 L ∧ Keep h0 h [a0] ∧ Exa Z h a0 "com/example/ridgeline/ridgeline/cumulative/IntervalLine" ∧ Fld Z h a0 "com/example/ridgeline/ridgeline/cumulative/IntervalLine" "m_size" "I" sv ∧ Fld Z h a0 "com/example/ridgeline/ridgeline/cumulative/IntervalLine" "m_row" "Z" rv ∧ Fld Z h a0 "com/example/ridgeline/ridgeline/cumulative/IntervalLine" "m_end" "J" ev ∧ ∃ r, n0 ≤ r ∧ h0.size ≤ r ∧ Fld Z h a0 "com/example/ridgeline/ridgeline/cumulative/IntervalLine" "m_length" "[J" (.ref r) ∧ own_AJ Z h r n (fun _ => (0 : Int64))) ({ frames := 1, cells := 5, slots := 8, locals := 13 } : Room).cells ({ frames := 1, cells := 5, slots := 8, locals := 13 } : Room).slots := ⟨_, rfl⟩
  rw [← hP]
  refine own_cast (ef_4 m a0 a1 p2) ?_
  refine own_go (T' := s₁) (f' := (mkF m 1 #[.val (.ref a0), .val (.ref a1), .val (.int p2)] [(.ref a0)])) (fun t kt => ?_) ?_
  · show Steps p.tables e below (s₁.setTop (mkF m 0 #[.val (.ref a0), .val (.ref a1), .val (.int p2)] [])) t
    refine XS.aloadN X0.here hx rfl (hb hby d4_0) rfl rfl ?_
    show Steps p.tables e below (s₁.setTop (mkF m 1 #[.val (.ref a0), .val (.ref a1), .val (.int p2)] [(.ref a0)])) t
    exact kt
  obtain ⟨T1, X1, e1, st1⟩ := initO X0 hx hZ hown (hw _ (List.mem_of_getElem? (i := 48) rfl)) (hw _ (List.mem_of_getElem? (i := 9) rfl)) (hw _ (List.mem_of_getElem? (i := 10) rfl)) e0 (g := (mkF m 1 #[.val (.ref a0), .val (.ref a1), .val (.int p2)] [(.ref a0)])) rfl (by rw [hml]; rfl) rfl (hb hby d4_1) (by decide) (W := 0) (by show 2 * 0 + _ ≤ _; exact Nat.le_of_eq rfl) (by decide)
  refine own_go st1 ?_
  refine own_go (T' := T1) (f' := (mkF m 6 #[.val (.ref a0), .val (.ref a1), .val (.int p2)] [(.ref a1), (.ref a0)])) (fun t kt => ?_) ?_
  · show Steps p.tables e below (T1.setTop (mkF m 4 #[.val (.ref a0), .val (.ref a1), .val (.int p2)] [])) t
    refine XS.aloadN X1.here hx rfl (hb hby d4_4) rfl rfl ?_
    show Steps p.tables e below (T1.setTop (mkF m 5 #[.val (.ref a0), .val (.ref a1), .val (.int p2)] [(.ref a0)])) t
    refine XS.aloadN X1.here hx rfl (hb hby d4_5) rfl rfl ?_
    show Steps p.tables e below (T1.setTop (mkF m 6 #[.val (.ref a0), .val (.ref a1), .val (.int p2)] [(.ref a1), (.ref a0)])) t
    exact kt
  obtain ⟨uv2, F2_m_resource⟩ := fld_laid E_a0 K_a0 (hw _ (List.mem_of_getElem? (i := 43) rfl)) (Or.inr (hw _ (List.mem_of_getElem? (i := 50) rfl)))
  obtain ⟨T2, h2, X2, e2, W2, st2⟩ := putF X1 hx hZ hown (host := "") (Or.inl (hw _ (List.mem_of_getElem? (i := 49) rfl))) Via.refl e1 F2_m_resource E_a0 (Or.inr ⟨(hw _ (List.mem_of_getElem? (i := 50) rfl)), rfl, hnm⟩) (hw _ (List.mem_of_getElem? (i := 43) rfl)) (ty := (.object "com/example/ridgeline/ridgeline/cumulative/Resource")) (by decide) rfl rfl (g := (mkF m 6 #[.val (.ref a0), .val (.ref a1), .val (.int p2)] [(.ref a1), (.ref a0)])) rfl rfl (hb hby d4_6)
  refine own_go st2 ?_
  replace E_a0 := (E_a0.wr W2)
  replace F_a0_m_size := (F_a0_m_size.other W2 (Or.inr (slot_ne (Or.inl (hw _ (List.mem_of_getElem? (i := 77) rfl))) (Or.inr (hw _ (List.mem_of_getElem? (i := 50) rfl))) (by decide) (t := .int) (t' := (.object "com/example/ridgeline/ridgeline/cumulative/Resource")) (by decide) (by decide))))
  replace F_a0_m_row := (F_a0_m_row.other W2 (Or.inr (slot_ne (Or.inl (hw _ (List.mem_of_getElem? (i := 73) rfl))) (Or.inr (hw _ (List.mem_of_getElem? (i := 50) rfl))) (by decide) (t := .boolean) (t' := (.object "com/example/ridgeline/ridgeline/cumulative/Resource")) (by decide) (by decide))))
  replace F_a0_m_end := (F_a0_m_end.other W2 (Or.inr (slot_ne (Or.inl (hw _ (List.mem_of_getElem? (i := 75) rfl))) (Or.inr (hw _ (List.mem_of_getElem? (i := 50) rfl))) (by decide) (t := .long) (t' := (.object "com/example/ridgeline/ridgeline/cumulative/Resource")) (by decide) (by decide))))
  replace E_a1 := (E_a1.wr W2)
  replace F_a1_m_est := (F_a1_m_est.other W2 (Or.inl (ne_a1_a0)))
  replace Ar_w0 := (Ar_w0.other W2 (ne_w0_a0))
  replace F2_m_resource := (F2_m_resource.same W2)
  replace K_a0 := own_K_wr K_a0 W2
  have N2 := Fr.snoc X2 N0 g_a0
  have Z2 : n0 ≤ h2.size := Nat.le_trans Z0 (Keep.of_wr W2).1
  have KK2 := K0.wr W2 (Or.inl (by simp))
  refine own_go (T' := T2) (f' := (mkF m 11 #[.val (.ref a0), .val (.ref a1), .val (.int p2)] [(.int p2), (.ref a0)])) (fun t kt => ?_) ?_
  · show Steps p.tables e below (T2.setTop (mkF m 9 #[.val (.ref a0), .val (.ref a1), .val (.int p2)] [])) t
    refine XS.aloadN X2.here hx rfl (hb hby d4_9) rfl rfl ?_
    show Steps p.tables e below (T2.setTop (mkF m 10 #[.val (.ref a0), .val (.ref a1), .val (.int p2)] [(.ref a0)])) t
    refine XS.iloadN X2.here hx rfl (hb hby d4_10) rfl ?_
    show Steps p.tables e below (T2.setTop (mkF m 11 #[.val (.ref a0), .val (.ref a1), .val (.int p2)] [(.int p2), (.ref a0)])) t
    exact kt
  obtain ⟨T3, h3, k3, X3, e3, E3, A3, st3⟩ := newP X2 hx hZ (hw _ (List.mem_of_getElem? (i := 4) rfl)) e2 (g := (mkF m 11 #[.val (.ref a0), .val (.ref a1), .val (.int p2)] [(.int p2), (.ref a0)])) rfl (hb hby d4_11) rfl (own_neg (by omega)) (cap := 4) (by rw [own_nat hz]; exact hn) (by decide) (by decide) (by decide)
  obtain ⟨b3, y3⟩ : ∃ z, z = h2.size := ⟨_, rfl⟩
  rw [← y3] at A3 st3
  have ne_a0_b3 : a0 ≠ b3 := Nat.ne_of_lt (Nat.lt_of_lt_of_le E_a0.lt (Nat.le_of_eq y3.symm))
  have ne_b3_a0 := ne_a0_b3.symm
  have ne_a1_b3 : a1 ≠ b3 := Nat.ne_of_lt (Nat.lt_of_lt_of_le E_a1.lt (Nat.le_of_eq y3.symm))
  have ne_b3_a1 := ne_a1_b3.symm
  have ne_w0_b3 : w0 ≠ b3 := Nat.ne_of_lt (Nat.lt_of_lt_of_le Ar_w0.lt (Nat.le_of_eq y3.symm))
  have ne_b3_w0 := ne_w0_b3.symm
  have g_b3 : n0 ≤ b3 := Nat.le_trans Z2 (Nat.le_of_eq y3.symm)
  have sz_b3 : h0.size ≤ b3 := Nat.le_trans KK2.1 (Nat.le_of_eq y3.symm)
  replace E_a0 := (E_a0.ext E3)
  replace F_a0_m_size := (F_a0_m_size.ext E3)
  replace F_a0_m_row := (F_a0_m_row.ext E3)
  replace F_a0_m_end := (F_a0_m_end.ext E3)
  replace E_a1 := (E_a1.ext E3)
  replace F_a1_m_est := (F_a1_m_est.ext E3)
  replace Ar_w0 := (Ar_w0.ext E3)
  replace F2_m_resource := (F2_m_resource.ext E3)
  replace K_a0 := own_K_ext K_a0 E3
  have ZE3 : n0 ≤ h3.size := Nat.le_trans Z2 E3.1
  have KKE3 := KK2.ext E3
  refine own_go st3 ?_
  have Ar_b3 : own_AJ Z h3 b3 n (fun _ => (0 : Int64)) := own_A_new A3 hz
  obtain ⟨uv4, F4_m_length⟩ := fld_laid E_a0 K_a0 (hw _ (List.mem_of_getElem? (i := 43) rfl)) (Or.inr (hw _ (List.mem_of_getElem? (i := 52) rfl)))
  obtain ⟨T4, h4, X4, e4, W4, st4⟩ := putF X3 hx hZ hown (host := "") (Or.inl (hw _ (List.mem_of_getElem? (i := 51) rfl))) Via.refl e3 F4_m_length E_a0 (Or.inr ⟨(hw _ (List.mem_of_getElem? (i := 52) rfl)), rfl, hnm⟩) (hw _ (List.mem_of_getElem? (i := 43) rfl)) (ty := (.array .long)) (by decide) rfl rfl (g := (mkF m 13 #[.val (.ref a0), .val (.ref a1), .val (.int p2)] [(.ref b3), (.ref a0)])) rfl rfl (hb hby d4_13)
  refine own_go st4 ?_
  replace E_a0 := (E_a0.wr W4)
  replace F_a0_m_size := (F_a0_m_size.other W4 (Or.inr (slot_ne (Or.inl (hw _ (List.mem_of_getElem? (i := 77) rfl))) (Or.inr (hw _ (List.mem_of_getElem? (i := 52) rfl))) (by decide) (t := .int) (t' := (.array .long)) (by decide) (by decide))))
  replace F_a0_m_row := (F_a0_m_row.other W4 (Or.inr (slot_ne (Or.inl (hw _ (List.mem_of_getElem? (i := 73) rfl))) (Or.inr (hw _ (List.mem_of_getElem? (i := 52) rfl))) (by decide) (t := .boolean) (t' := (.array .long)) (by decide) (by decide))))
  replace F_a0_m_end := (F_a0_m_end.other W4 (Or.inr (slot_ne (Or.inl (hw _ (List.mem_of_getElem? (i := 75) rfl))) (Or.inr (hw _ (List.mem_of_getElem? (i := 52) rfl))) (by decide) (t := .long) (t' := (.array .long)) (by decide) (by decide))))
  replace E_a1 := (E_a1.wr W4)
  replace F_a1_m_est := (F_a1_m_est.other W4 (Or.inl (ne_a1_a0)))
  replace Ar_w0 := (Ar_w0.other W4 (ne_w0_a0))
  replace F2_m_resource := (F2_m_resource.other W4 (Or.inr (slot_ne (Or.inr (hw _ (List.mem_of_getElem? (i := 50) rfl))) (Or.inr (hw _ (List.mem_of_getElem? (i := 52) rfl))) (by decide) (t := (.object "com/example/ridgeline/ridgeline/cumulative/Resource")) (t' := (.array .long)) (by decide) (by decide))))
  replace Ar_b3 := (Ar_b3.other W4 (ne_b3_a0))
  replace F4_m_length := (F4_m_length.same W4)
  replace K_a0 := own_K_wr K_a0 W4
  have N4 := Fr.snoc X4 N2 g_a0
  have Z4 : n0 ≤ h4.size := Nat.le_trans ZE3 (Keep.of_wr W4).1
  have KK4 := KKE3.wr W4 (Or.inl (by simp))
  refine own_go (T' := T4) (f' := (mkF m 18 #[.val (.ref a0), .val (.ref a1), .val (.int p2)] [(.int p2), (.ref a0)])) (fun t kt => ?_) ?_
  · show Steps p.tables e below (T4.setTop (mkF m 16 #[.val (.ref a0), .val (.ref a1), .val (.int p2)] [])) t
    refine XS.aloadN X4.here hx rfl (hb hby d4_16) rfl rfl ?_
    show Steps p.tables e below (T4.setTop (mkF m 17 #[.val (.ref a0), .val (.ref a1), .val (.int p2)] [(.ref a0)])) t
    refine XS.iloadN X4.here hx rfl (hb hby d4_17) rfl ?_
    show Steps p.tables e below (T4.setTop (mkF m 18 #[.val (.ref a0), .val (.ref a1), .val (.int p2)] [(.int p2), (.ref a0)])) t
    exact kt
  obtain ⟨T5, h5, k5, X5, e5, E5, A5, st5⟩ := newP X4 hx hZ (hw _ (List.mem_of_getElem? (i := 4) rfl)) e4 (g := (mkF m 18 #[.val (.ref a0), .val (.ref a1), .val (.int p2)] [(.int p2), (.ref a0)])) rfl (hb hby d4_18) rfl (own_neg (by omega)) (cap := 4) (by rw [own_nat hz]; exact hn) (by decide) (by decide) (by decide)
  obtain ⟨b5, y5⟩ : ∃ z, z = h4.size := ⟨_, rfl⟩
  rw [← y5] at A5 st5
  have ne_a0_b5 : a0 ≠ b5 := Nat.ne_of_lt (Nat.lt_of_lt_of_le E_a0.lt (Nat.le_of_eq y5.symm))
  have ne_b5_a0 := ne_a0_b5.symm
  have ne_a1_b5 : a1 ≠ b5 := Nat.ne_of_lt (Nat.lt_of_lt_of_le E_a1.lt (Nat.le_of_eq y5.symm))
  have ne_b5_a1 := ne_a1_b5.symm
  have ne_w0_b5 : w0 ≠ b5 := Nat.ne_of_lt (Nat.lt_of_lt_of_le Ar_w0.lt (Nat.le_of_eq y5.symm))
  have ne_b5_w0 := ne_w0_b5.symm
  have ne_b3_b5 : b3 ≠ b5 := Nat.ne_of_lt (Nat.lt_of_lt_of_le Ar_b3.lt (Nat.le_of_eq y5.symm))
  have ne_b5_b3 := ne_b3_b5.symm
  have g_b5 : n0 ≤ b5 := Nat.le_trans Z4 (Nat.le_of_eq y5.symm)
  have sz_b5 : h0.size ≤ b5 := Nat.le_trans KK4.1 (Nat.le_of_eq y5.symm)
  replace E_a0 := (E_a0.ext E5)
  replace F_a0_m_size := (F_a0_m_size.ext E5)
  replace F_a0_m_row := (F_a0_m_row.ext E5)
  replace F_a0_m_end := (F_a0_m_end.ext E5)
  replace E_a1 := (E_a1.ext E5)
  replace F_a1_m_est := (F_a1_m_est.ext E5)
  replace Ar_w0 := (Ar_w0.ext E5)
  replace F2_m_resource := (F2_m_resource.ext E5)
  replace Ar_b3 := (Ar_b3.ext E5)
  replace F4_m_length := (F4_m_length.ext E5)
  replace K_a0 := own_K_ext K_a0 E5
  have ZE5 : n0 ≤ h5.size := Nat.le_trans Z4 E5.1
  have KKE5 := KK4.ext E5
  refine own_go st5 ?_
  have Ar_b5 : own_AJ Z h5 b5 n (fun _ => (0 : Int64)) := own_A_new A5 hz
  obtain ⟨uv6, F6_m_overload⟩ := fld_laid E_a0 K_a0 (hw _ (List.mem_of_getElem? (i := 43) rfl)) (Or.inr (hw _ (List.mem_of_getElem? (i := 54) rfl)))
  obtain ⟨T6, h6, X6, e6, W6, st6⟩ := putF X5 hx hZ hown (host := "") (Or.inl (hw _ (List.mem_of_getElem? (i := 53) rfl))) Via.refl e5 F6_m_overload E_a0 (Or.inr ⟨(hw _ (List.mem_of_getElem? (i := 54) rfl)), rfl, hnm⟩) (hw _ (List.mem_of_getElem? (i := 43) rfl)) (ty := (.array .long)) (by decide) rfl rfl (g := (mkF m 20 #[.val (.ref a0), .val (.ref a1), .val (.int p2)] [(.ref b5), (.ref a0)])) rfl rfl (hb hby d4_20)
  refine own_go st6 ?_
  replace E_a0 := (E_a0.wr W6)
  replace F_a0_m_size := (F_a0_m_size.other W6 (Or.inr (slot_ne (Or.inl (hw _ (List.mem_of_getElem? (i := 77) rfl))) (Or.inr (hw _ (List.mem_of_getElem? (i := 54) rfl))) (by decide) (t := .int) (t' := (.array .long)) (by decide) (by decide))))
  replace F_a0_m_row := (F_a0_m_row.other W6 (Or.inr (slot_ne (Or.inl (hw _ (List.mem_of_getElem? (i := 73) rfl))) (Or.inr (hw _ (List.mem_of_getElem? (i := 54) rfl))) (by decide) (t := .boolean) (t' := (.array .long)) (by decide) (by decide))))
  replace F_a0_m_end := (F_a0_m_end.other W6 (Or.inr (slot_ne (Or.inl (hw _ (List.mem_of_getElem? (i := 75) rfl))) (Or.inr (hw _ (List.mem_of_getElem? (i := 54) rfl))) (by decide) (t := .long) (t' := (.array .long)) (by decide) (by decide))))
  replace E_a1 := (E_a1.wr W6)
  replace F_a1_m_est := (F_a1_m_est.other W6 (Or.inl (ne_a1_a0)))
  replace Ar_w0 := (Ar_w0.other W6 (ne_w0_a0))
  replace F2_m_resource := (F2_m_resource.other W6 (Or.inr (slot_ne (Or.inr (hw _ (List.mem_of_getElem? (i := 50) rfl))) (Or.inr (hw _ (List.mem_of_getElem? (i := 54) rfl))) (by decide) (t := (.object "com/example/ridgeline/ridgeline/cumulative/Resource")) (t' := (.array .long)) (by decide) (by decide))))
  replace Ar_b3 := (Ar_b3.other W6 (ne_b3_a0))
  replace F4_m_length := (F4_m_length.other W6 (Or.inr (slot_ne (Or.inr (hw _ (List.mem_of_getElem? (i := 52) rfl))) (Or.inr (hw _ (List.mem_of_getElem? (i := 54) rfl))) (by decide) (t := (.array .long)) (t' := (.array .long)) (by decide) (by decide))))
  replace Ar_b5 := (Ar_b5.other W6 (ne_b5_a0))
  replace F6_m_overload := (F6_m_overload.same W6)
  replace K_a0 := own_K_wr K_a0 W6
  have N6 := Fr.snoc X6 N4 g_a0
  have Z6 : n0 ≤ h6.size := Nat.le_trans ZE5 (Keep.of_wr W6).1
  have KK6 := KKE5.wr W6 (Or.inl (by simp))
  refine own_go (T' := T6) (f' := (mkF m 25 #[.val (.ref a0), .val (.ref a1), .val (.int p2)] [(.int (0 : Int32)), (.ref a0)])) (fun t kt => ?_) ?_
  · show Steps p.tables e below (T6.setTop (mkF m 23 #[.val (.ref a0), .val (.ref a1), .val (.int p2)] [])) t
    refine XS.aloadN X6.here hx rfl (hb hby d4_23) rfl rfl ?_
    show Steps p.tables e below (T6.setTop (mkF m 24 #[.val (.ref a0), .val (.ref a1), .val (.int p2)] [(.ref a0)])) t
    refine XS.iconst X6.here hx rfl (hb hby d4_24) ?_
    show Steps p.tables e below (T6.setTop (mkF m 25 #[.val (.ref a0), .val (.ref a1), .val (.int p2)] [(.int (0 : Int32)), (.ref a0)])) t
    exact kt
  obtain ⟨T7, h7, k7, X7, e7, E7, A7, st7⟩ := newP X6 hx hZ (hw _ (List.mem_of_getElem? (i := 55) rfl)) e6 (g := (mkF m 25 #[.val (.ref a0), .val (.ref a1), .val (.int p2)] [(.int (0 : Int32)), (.ref a0)])) rfl (hb hby d4_25) rfl (by decide) (cap := 0) (by decide) (by decide) (by decide) (by decide)
  obtain ⟨b7, y7⟩ : ∃ z, z = h6.size := ⟨_, rfl⟩
  rw [← y7] at A7 st7
  have ne_a0_b7 : a0 ≠ b7 := Nat.ne_of_lt (Nat.lt_of_lt_of_le E_a0.lt (Nat.le_of_eq y7.symm))
  have ne_b7_a0 := ne_a0_b7.symm
  have ne_a1_b7 : a1 ≠ b7 := Nat.ne_of_lt (Nat.lt_of_lt_of_le E_a1.lt (Nat.le_of_eq y7.symm))
  have ne_b7_a1 := ne_a1_b7.symm
  have ne_w0_b7 : w0 ≠ b7 := Nat.ne_of_lt (Nat.lt_of_lt_of_le Ar_w0.lt (Nat.le_of_eq y7.symm))
  have ne_b7_w0 := ne_w0_b7.symm
  have ne_b3_b7 : b3 ≠ b7 := Nat.ne_of_lt (Nat.lt_of_lt_of_le Ar_b3.lt (Nat.le_of_eq y7.symm))
  have ne_b7_b3 := ne_b3_b7.symm
  have ne_b5_b7 : b5 ≠ b7 := Nat.ne_of_lt (Nat.lt_of_lt_of_le Ar_b5.lt (Nat.le_of_eq y7.symm))
  have ne_b7_b5 := ne_b5_b7.symm
  have g_b7 : n0 ≤ b7 := Nat.le_trans Z6 (Nat.le_of_eq y7.symm)
  have sz_b7 : h0.size ≤ b7 := Nat.le_trans KK6.1 (Nat.le_of_eq y7.symm)
  replace E_a0 := (E_a0.ext E7)
  replace F_a0_m_size := (F_a0_m_size.ext E7)
  replace F_a0_m_row := (F_a0_m_row.ext E7)
  replace F_a0_m_end := (F_a0_m_end.ext E7)
  replace E_a1 := (E_a1.ext E7)
  replace F_a1_m_est := (F_a1_m_est.ext E7)
  replace Ar_w0 := (Ar_w0.ext E7)
  replace F2_m_resource := (F2_m_resource.ext E7)
  replace Ar_b3 := (Ar_b3.ext E7)
  replace F4_m_length := (F4_m_length.ext E7)
  replace Ar_b5 := (Ar_b5.ext E7)
  replace F6_m_overload := (F6_m_overload.ext E7)
  replace K_a0 := own_K_ext K_a0 E7
  have ZE7 : n0 ≤ h7.size := Nat.le_trans Z6 E7.1
  have KKE7 := KK6.ext E7
  refine own_go st7 ?_
  have Ar_b7 : own_AI Z h7 b7 0 (fun _ => (0 : Int32)) := own_A_new A7 (by decide)
  obtain ⟨uv8, F8_m_users⟩ := fld_laid E_a0 K_a0 (hw _ (List.mem_of_getElem? (i := 43) rfl)) (Or.inl (hw _ (List.mem_of_getElem? (i := 57) rfl)))
  obtain ⟨T8, h8, X8, e8, W8, st8⟩ := putF X7 hx hZ hown (host := "") (Or.inl (hw _ (List.mem_of_getElem? (i := 56) rfl))) Via.refl e7 F8_m_users E_a0 (Or.inl (hw _ (List.mem_of_getElem? (i := 57) rfl))) (hw _ (List.mem_of_getElem? (i := 43) rfl)) (ty := (.array .int)) (by decide) rfl rfl (g := (mkF m 27 #[.val (.ref a0), .val (.ref a1), .val (.int p2)] [(.ref b7), (.ref a0)])) rfl rfl (hb hby d4_27)
  refine own_go st8 ?_
  replace E_a0 := (E_a0.wr W8)
  replace F_a0_m_size := (F_a0_m_size.other W8 (Or.inr (slot_ne (Or.inl (hw _ (List.mem_of_getElem? (i := 77) rfl))) (Or.inl (hw _ (List.mem_of_getElem? (i := 57) rfl))) (by decide) (t := .int) (t' := (.array .int)) (by decide) (by decide))))
  replace F_a0_m_row := (F_a0_m_row.other W8 (Or.inr (slot_ne (Or.inl (hw _ (List.mem_of_getElem? (i := 73) rfl))) (Or.inl (hw _ (List.mem_of_getElem? (i := 57) rfl))) (by decide) (t := .boolean) (t' := (.array .int)) (by decide) (by decide))))
  replace F_a0_m_end := (F_a0_m_end.other W8 (Or.inr (slot_ne (Or.inl (hw _ (List.mem_of_getElem? (i := 75) rfl))) (Or.inl (hw _ (List.mem_of_getElem? (i := 57) rfl))) (by decide) (t := .long) (t' := (.array .int)) (by decide) (by decide))))
  replace E_a1 := (E_a1.wr W8)
  replace F_a1_m_est := (F_a1_m_est.other W8 (Or.inl (ne_a1_a0)))
  replace Ar_w0 := (Ar_w0.other W8 (ne_w0_a0))
  replace F2_m_resource := (F2_m_resource.other W8 (Or.inr (slot_ne (Or.inr (hw _ (List.mem_of_getElem? (i := 50) rfl))) (Or.inl (hw _ (List.mem_of_getElem? (i := 57) rfl))) (by decide) (t := (.object "com/example/ridgeline/ridgeline/cumulative/Resource")) (t' := (.array .int)) (by decide) (by decide))))
  replace Ar_b3 := (Ar_b3.other W8 (ne_b3_a0))
  replace F4_m_length := (F4_m_length.other W8 (Or.inr (slot_ne (Or.inr (hw _ (List.mem_of_getElem? (i := 52) rfl))) (Or.inl (hw _ (List.mem_of_getElem? (i := 57) rfl))) (by decide) (t := (.array .long)) (t' := (.array .int)) (by decide) (by decide))))
  replace Ar_b5 := (Ar_b5.other W8 (ne_b5_a0))
  replace F6_m_overload := (F6_m_overload.other W8 (Or.inr (slot_ne (Or.inr (hw _ (List.mem_of_getElem? (i := 54) rfl))) (Or.inl (hw _ (List.mem_of_getElem? (i := 57) rfl))) (by decide) (t := (.array .long)) (t' := (.array .int)) (by decide) (by decide))))
  replace Ar_b7 := (Ar_b7.other W8 (ne_b7_a0))
  replace F8_m_users := (F8_m_users.same W8)
  replace K_a0 := own_K_wr K_a0 W8
  have N8 := Fr.snoc X8 N6 g_a0
  have Z8 : n0 ≤ h8.size := Nat.le_trans ZE7 (Keep.of_wr W8).1
  have KK8 := KKE7.wr W8 (Or.inl (by simp))
  refine own_go (T' := T8) (f' := (mkF m 32 #[.val (.ref a0), .val (.ref a1), .val (.int p2)] [(.ref a1), (.ref a0)])) (fun t kt => ?_) ?_
  · show Steps p.tables e below (T8.setTop (mkF m 30 #[.val (.ref a0), .val (.ref a1), .val (.int p2)] [])) t
    refine XS.aloadN X8.here hx rfl (hb hby d4_30) rfl rfl ?_
    show Steps p.tables e below (T8.setTop (mkF m 31 #[.val (.ref a0), .val (.ref a1), .val (.int p2)] [(.ref a0)])) t
    refine XS.aloadN X8.here hx rfl (hb hby d4_31) rfl rfl ?_
    show Steps p.tables e below (T8.setTop (mkF m 32 #[.val (.ref a0), .val (.ref a1), .val (.int p2)] [(.ref a1), (.ref a0)])) t
    exact kt
  refine own_callVp X8 hx hZ hown e8 (hw _ (List.mem_of_getElem? (i := 58) rfl)) (hw _ (List.mem_of_getElem? (i := 59) rfl)) (notFace_of_selects (args := #[]) (mvT hZ (hw _ (List.mem_of_getElem? (i := 61) rfl)))) (hw _ (List.mem_of_getElem? (i := 61) rfl)) (hw _ (List.mem_of_getElem? (i := 60) rfl)) (hw _ (List.mem_of_getElem? (i := 3) rfl)) (hw _ (List.mem_of_getElem? (i := 62) rfl)) (by decide) (rm5 l Z aw hw a1 w0 h8 n0 Z8 F_a1_m_est Ar_w0) E_a1 (g := (mkF m 32 #[.val (.ref a0), .val (.ref a1), .val (.int p2)] [(.ref a1), (.ref a0)])) rfl (by rw [hml]; rfl) (argsL := []) (rest := [(.ref a0)]) (lenOf pd_1 rfl) rfl rfl (W := 1) (by show 2 * 0 + _ ≤ _; exact Nat.le_of_eq rfl) (hb hby d4_32) (by decide) (by decide) (by decide) (by decide) ?_
  intro T9 X9 e9
  obtain ⟨T10, h10, k10, X10, e10, E10, A10, st10⟩ := newP X9 hx hZ (hw _ (List.mem_of_getElem? (i := 4) rfl)) e9 (g := (mkF m 35 #[.val (.ref a0), .val (.ref a1), .val (.int p2)] [(.int (0 : Int32)), (.ref a0)])) rfl (hb hby d4_35) rfl (by decide) (cap := 0) (by decide) (by decide) (by decide) (by decide)
  obtain ⟨b10, y10⟩ : ∃ z, z = h8.size := ⟨_, rfl⟩
  rw [← y10] at A10 st10
  have ne_a0_b10 : a0 ≠ b10 := Nat.ne_of_lt (Nat.lt_of_lt_of_le E_a0.lt (Nat.le_of_eq y10.symm))
  have ne_b10_a0 := ne_a0_b10.symm
  have ne_a1_b10 : a1 ≠ b10 := Nat.ne_of_lt (Nat.lt_of_lt_of_le E_a1.lt (Nat.le_of_eq y10.symm))
  have ne_b10_a1 := ne_a1_b10.symm
  have ne_w0_b10 : w0 ≠ b10 := Nat.ne_of_lt (Nat.lt_of_lt_of_le Ar_w0.lt (Nat.le_of_eq y10.symm))
  have ne_b10_w0 := ne_w0_b10.symm
  have ne_b3_b10 : b3 ≠ b10 := Nat.ne_of_lt (Nat.lt_of_lt_of_le Ar_b3.lt (Nat.le_of_eq y10.symm))
  have ne_b10_b3 := ne_b3_b10.symm
  have ne_b5_b10 : b5 ≠ b10 := Nat.ne_of_lt (Nat.lt_of_lt_of_le Ar_b5.lt (Nat.le_of_eq y10.symm))
  have ne_b10_b5 := ne_b5_b10.symm
  have ne_b7_b10 : b7 ≠ b10 := Nat.ne_of_lt (Nat.lt_of_lt_of_le Ar_b7.lt (Nat.le_of_eq y10.symm))
  have ne_b10_b7 := ne_b7_b10.symm
  have g_b10 : n0 ≤ b10 := Nat.le_trans Z8 (Nat.le_of_eq y10.symm)
  have sz_b10 : h0.size ≤ b10 := Nat.le_trans KK8.1 (Nat.le_of_eq y10.symm)
  replace E_a0 := (E_a0.ext E10)
  replace F_a0_m_size := (F_a0_m_size.ext E10)
  replace F_a0_m_row := (F_a0_m_row.ext E10)
  replace F_a0_m_end := (F_a0_m_end.ext E10)
  replace E_a1 := (E_a1.ext E10)
  replace F_a1_m_est := (F_a1_m_est.ext E10)
  replace Ar_w0 := (Ar_w0.ext E10)
  replace F2_m_resource := (F2_m_resource.ext E10)
  replace Ar_b3 := (Ar_b3.ext E10)
  replace F4_m_length := (F4_m_length.ext E10)
  replace Ar_b5 := (Ar_b5.ext E10)
  replace F6_m_overload := (F6_m_overload.ext E10)
  replace Ar_b7 := (Ar_b7.ext E10)
  replace F8_m_users := (F8_m_users.ext E10)
  replace K_a0 := own_K_ext K_a0 E10
  have ZE10 : n0 ≤ h10.size := Nat.le_trans Z8 E10.1
  have KKE10 := KK8.ext E10
  refine own_go st10 ?_
  have Ar_b10 : own_AJ Z h10 b10 0 (fun _ => (0 : Int64)) := own_A_new A10 (by decide)
  obtain ⟨uv11, F11_m_delay⟩ := fld_laid E_a0 K_a0 (hw _ (List.mem_of_getElem? (i := 43) rfl)) (Or.inr (hw _ (List.mem_of_getElem? (i := 64) rfl)))
  obtain ⟨T11, h11, X11, e11, W11, st11⟩ := putF X10 hx hZ hown (host := "") (Or.inl (hw _ (List.mem_of_getElem? (i := 63) rfl))) Via.refl e10 F11_m_delay E_a0 (Or.inr ⟨(hw _ (List.mem_of_getElem? (i := 64) rfl)), rfl, hnm⟩) (hw _ (List.mem_of_getElem? (i := 43) rfl)) (ty := (.array .long)) (by decide) rfl rfl (g := (mkF m 37 #[.val (.ref a0), .val (.ref a1), .val (.int p2)] [(.ref b10), (.ref a0)])) rfl rfl (hb hby d4_37)
  refine own_go st11 ?_
  replace E_a0 := (E_a0.wr W11)
  replace F_a0_m_size := (F_a0_m_size.other W11 (Or.inr (slot_ne (Or.inl (hw _ (List.mem_of_getElem? (i := 77) rfl))) (Or.inr (hw _ (List.mem_of_getElem? (i := 64) rfl))) (by decide) (t := .int) (t' := (.array .long)) (by decide) (by decide))))
  replace F_a0_m_row := (F_a0_m_row.other W11 (Or.inr (slot_ne (Or.inl (hw _ (List.mem_of_getElem? (i := 73) rfl))) (Or.inr (hw _ (List.mem_of_getElem? (i := 64) rfl))) (by decide) (t := .boolean) (t' := (.array .long)) (by decide) (by decide))))
  replace F_a0_m_end := (F_a0_m_end.other W11 (Or.inr (slot_ne (Or.inl (hw _ (List.mem_of_getElem? (i := 75) rfl))) (Or.inr (hw _ (List.mem_of_getElem? (i := 64) rfl))) (by decide) (t := .long) (t' := (.array .long)) (by decide) (by decide))))
  replace E_a1 := (E_a1.wr W11)
  replace F_a1_m_est := (F_a1_m_est.other W11 (Or.inl (ne_a1_a0)))
  replace Ar_w0 := (Ar_w0.other W11 (ne_w0_a0))
  replace F2_m_resource := (F2_m_resource.other W11 (Or.inr (slot_ne (Or.inr (hw _ (List.mem_of_getElem? (i := 50) rfl))) (Or.inr (hw _ (List.mem_of_getElem? (i := 64) rfl))) (by decide) (t := (.object "com/example/ridgeline/ridgeline/cumulative/Resource")) (t' := (.array .long)) (by decide) (by decide))))
  replace Ar_b3 := (Ar_b3.other W11 (ne_b3_a0))
  replace F4_m_length := (F4_m_length.other W11 (Or.inr (slot_ne (Or.inr (hw _ (List.mem_of_getElem? (i := 52) rfl))) (Or.inr (hw _ (List.mem_of_getElem? (i := 64) rfl))) (by decide) (t := (.array .long)) (t' := (.array .long)) (by decide) (by decide))))
  replace Ar_b5 := (Ar_b5.other W11 (ne_b5_a0))
  replace F6_m_overload := (F6_m_overload.other W11 (Or.inr (slot_ne (Or.inr (hw _ (List.mem_of_getElem? (i := 54) rfl))) (Or.inr (hw _ (List.mem_of_getElem? (i := 64) rfl))) (by decide) (t := (.array .long)) (t' := (.array .long)) (by decide) (by decide))))
  replace Ar_b7 := (Ar_b7.other W11 (ne_b7_a0))
  replace F8_m_users := (F8_m_users.other W11 (Or.inr (slot_ne (Or.inl (hw _ (List.mem_of_getElem? (i := 57) rfl))) (Or.inr (hw _ (List.mem_of_getElem? (i := 64) rfl))) (by decide) (t := (.array .int)) (t' := (.array .long)) (by decide) (by decide))))
  replace Ar_b10 := (Ar_b10.other W11 (ne_b10_a0))
  replace F11_m_delay := (F11_m_delay.same W11)
  replace K_a0 := own_K_wr K_a0 W11
  have N11 := Fr.snoc X11 N8 g_a0
  have Z11 : n0 ≤ h11.size := Nat.le_trans ZE10 (Keep.of_wr W11).1
  have KK11 := KKE10.wr W11 (Or.inl (by simp))
  refine own_go (T' := T11) (f' := (mkF m 42 #[.val (.ref a0), .val (.ref a1), .val (.int p2)] [(.ref a1), (.ref a0)])) (fun t kt => ?_) ?_
  · show Steps p.tables e below (T11.setTop (mkF m 40 #[.val (.ref a0), .val (.ref a1), .val (.int p2)] [])) t
    refine XS.aloadN X11.here hx rfl (hb hby d4_40) rfl rfl ?_
    show Steps p.tables e below (T11.setTop (mkF m 41 #[.val (.ref a0), .val (.ref a1), .val (.int p2)] [(.ref a0)])) t
    refine XS.aloadN X11.here hx rfl (hb hby d4_41) rfl rfl ?_
    show Steps p.tables e below (T11.setTop (mkF m 42 #[.val (.ref a0), .val (.ref a1), .val (.int p2)] [(.ref a1), (.ref a0)])) t
    exact kt
  refine own_callVp X11 hx hZ hown e11 (hw _ (List.mem_of_getElem? (i := 58) rfl)) (hw _ (List.mem_of_getElem? (i := 59) rfl)) (notFace_of_selects (args := #[]) (mvT hZ (hw _ (List.mem_of_getElem? (i := 61) rfl)))) (hw _ (List.mem_of_getElem? (i := 61) rfl)) (hw _ (List.mem_of_getElem? (i := 60) rfl)) (hw _ (List.mem_of_getElem? (i := 3) rfl)) (hw _ (List.mem_of_getElem? (i := 62) rfl)) (by decide) (rm5 l Z aw hw a1 w0 h11 n0 Z11 F_a1_m_est Ar_w0) E_a1 (g := (mkF m 42 #[.val (.ref a0), .val (.ref a1), .val (.int p2)] [(.ref a1), (.ref a0)])) rfl (by rw [hml]; rfl) (argsL := []) (rest := [(.ref a0)]) (lenOf pd_1 rfl) rfl rfl (W := 1) (by show 2 * 0 + _ ≤ _; exact Nat.le_of_eq rfl) (hb hby d4_42) (by decide) (by decide) (by decide) (by decide) ?_
  intro T12 X12 e12
  obtain ⟨T13, h13, k13, X13, e13, E13, A13, st13⟩ := newP X12 hx hZ (hw _ (List.mem_of_getElem? (i := 4) rfl)) e12 (g := (mkF m 45 #[.val (.ref a0), .val (.ref a1), .val (.int p2)] [(.int (0 : Int32)), (.ref a0)])) rfl (hb hby d4_45) rfl (by decide) (cap := 0) (by decide) (by decide) (by decide) (by decide)
  obtain ⟨b13, y13⟩ : ∃ z, z = h11.size := ⟨_, rfl⟩
  rw [← y13] at A13 st13
  have ne_a0_b13 : a0 ≠ b13 := Nat.ne_of_lt (Nat.lt_of_lt_of_le E_a0.lt (Nat.le_of_eq y13.symm))
  have ne_b13_a0 := ne_a0_b13.symm
  have ne_a1_b13 : a1 ≠ b13 := Nat.ne_of_lt (Nat.lt_of_lt_of_le E_a1.lt (Nat.le_of_eq y13.symm))
  have ne_b13_a1 := ne_a1_b13.symm
  have ne_w0_b13 : w0 ≠ b13 := Nat.ne_of_lt (Nat.lt_of_lt_of_le Ar_w0.lt (Nat.le_of_eq y13.symm))
  have ne_b13_w0 := ne_w0_b13.symm
  have ne_b3_b13 : b3 ≠ b13 := Nat.ne_of_lt (Nat.lt_of_lt_of_le Ar_b3.lt (Nat.le_of_eq y13.symm))
  have ne_b13_b3 := ne_b3_b13.symm
  have ne_b5_b13 : b5 ≠ b13 := Nat.ne_of_lt (Nat.lt_of_lt_of_le Ar_b5.lt (Nat.le_of_eq y13.symm))
  have ne_b13_b5 := ne_b5_b13.symm
  have ne_b7_b13 : b7 ≠ b13 := Nat.ne_of_lt (Nat.lt_of_lt_of_le Ar_b7.lt (Nat.le_of_eq y13.symm))
  have ne_b13_b7 := ne_b7_b13.symm
  have ne_b10_b13 : b10 ≠ b13 := Nat.ne_of_lt (Nat.lt_of_lt_of_le Ar_b10.lt (Nat.le_of_eq y13.symm))
  have ne_b13_b10 := ne_b10_b13.symm
  have g_b13 : n0 ≤ b13 := Nat.le_trans Z11 (Nat.le_of_eq y13.symm)
  have sz_b13 : h0.size ≤ b13 := Nat.le_trans KK11.1 (Nat.le_of_eq y13.symm)
  replace E_a0 := (E_a0.ext E13)
  replace F_a0_m_size := (F_a0_m_size.ext E13)
  replace F_a0_m_row := (F_a0_m_row.ext E13)
  replace F_a0_m_end := (F_a0_m_end.ext E13)
  replace E_a1 := (E_a1.ext E13)
  replace F_a1_m_est := (F_a1_m_est.ext E13)
  replace Ar_w0 := (Ar_w0.ext E13)
  replace F2_m_resource := (F2_m_resource.ext E13)
  replace Ar_b3 := (Ar_b3.ext E13)
  replace F4_m_length := (F4_m_length.ext E13)
  replace Ar_b5 := (Ar_b5.ext E13)
  replace F6_m_overload := (F6_m_overload.ext E13)
  replace Ar_b7 := (Ar_b7.ext E13)
  replace F8_m_users := (F8_m_users.ext E13)
  replace Ar_b10 := (Ar_b10.ext E13)
  replace F11_m_delay := (F11_m_delay.ext E13)
  replace K_a0 := own_K_ext K_a0 E13
  have ZE13 : n0 ≤ h13.size := Nat.le_trans Z11 E13.1
  have KKE13 := KK11.ext E13
  refine own_go st13 ?_
  have Ar_b13 : own_AJ Z h13 b13 0 (fun _ => (0 : Int64)) := own_A_new A13 (by decide)
  obtain ⟨uv14, F14_m_most⟩ := fld_laid E_a0 K_a0 (hw _ (List.mem_of_getElem? (i := 43) rfl)) (Or.inr (hw _ (List.mem_of_getElem? (i := 66) rfl)))
  obtain ⟨T14, h14, X14, e14, W14, st14⟩ := putF X13 hx hZ hown (host := "") (Or.inl (hw _ (List.mem_of_getElem? (i := 65) rfl))) Via.refl e13 F14_m_most E_a0 (Or.inr ⟨(hw _ (List.mem_of_getElem? (i := 66) rfl)), rfl, hnm⟩) (hw _ (List.mem_of_getElem? (i := 43) rfl)) (ty := (.array .long)) (by decide) rfl rfl (g := (mkF m 47 #[.val (.ref a0), .val (.ref a1), .val (.int p2)] [(.ref b13), (.ref a0)])) rfl rfl (hb hby d4_47)
  refine own_go st14 ?_
  replace E_a0 := (E_a0.wr W14)
  replace F_a0_m_size := (F_a0_m_size.other W14 (Or.inr (slot_ne (Or.inl (hw _ (List.mem_of_getElem? (i := 77) rfl))) (Or.inr (hw _ (List.mem_of_getElem? (i := 66) rfl))) (by decide) (t := .int) (t' := (.array .long)) (by decide) (by decide))))
  replace F_a0_m_row := (F_a0_m_row.other W14 (Or.inr (slot_ne (Or.inl (hw _ (List.mem_of_getElem? (i := 73) rfl))) (Or.inr (hw _ (List.mem_of_getElem? (i := 66) rfl))) (by decide) (t := .boolean) (t' := (.array .long)) (by decide) (by decide))))
  replace F_a0_m_end := (F_a0_m_end.other W14 (Or.inr (slot_ne (Or.inl (hw _ (List.mem_of_getElem? (i := 75) rfl))) (Or.inr (hw _ (List.mem_of_getElem? (i := 66) rfl))) (by decide) (t := .long) (t' := (.array .long)) (by decide) (by decide))))
  replace E_a1 := (E_a1.wr W14)
  replace F_a1_m_est := (F_a1_m_est.other W14 (Or.inl (ne_a1_a0)))
  replace Ar_w0 := (Ar_w0.other W14 (ne_w0_a0))
  replace F2_m_resource := (F2_m_resource.other W14 (Or.inr (slot_ne (Or.inr (hw _ (List.mem_of_getElem? (i := 50) rfl))) (Or.inr (hw _ (List.mem_of_getElem? (i := 66) rfl))) (by decide) (t := (.object "com/example/ridgeline/ridgeline/cumulative/Resource")) (t' := (.array .long)) (by decide) (by decide))))
  replace Ar_b3 := (Ar_b3.other W14 (ne_b3_a0))
  replace F4_m_length := (F4_m_length.other W14 (Or.inr (slot_ne (Or.inr (hw _ (List.mem_of_getElem? (i := 52) rfl))) (Or.inr (hw _ (List.mem_of_getElem? (i := 66) rfl))) (by decide) (t := (.array .long)) (t' := (.array .long)) (by decide) (by decide))))
  replace Ar_b5 := (Ar_b5.other W14 (ne_b5_a0))
  replace F6_m_overload := (F6_m_overload.other W14 (Or.inr (slot_ne (Or.inr (hw _ (List.mem_of_getElem? (i := 54) rfl))) (Or.inr (hw _ (List.mem_of_getElem? (i := 66) rfl))) (by decide) (t := (.array .long)) (t' := (.array .long)) (by decide) (by decide))))
  replace Ar_b7 := (Ar_b7.other W14 (ne_b7_a0))
  replace F8_m_users := (F8_m_users.other W14 (Or.inr (slot_ne (Or.inl (hw _ (List.mem_of_getElem? (i := 57) rfl))) (Or.inr (hw _ (List.mem_of_getElem? (i := 66) rfl))) (by decide) (t := (.array .int)) (t' := (.array .long)) (by decide) (by decide))))
  replace Ar_b10 := (Ar_b10.other W14 (ne_b10_a0))
  replace F11_m_delay := (F11_m_delay.other W14 (Or.inr (slot_ne (Or.inr (hw _ (List.mem_of_getElem? (i := 64) rfl))) (Or.inr (hw _ (List.mem_of_getElem? (i := 66) rfl))) (by decide) (t := (.array .long)) (t' := (.array .long)) (by decide) (by decide))))
  replace Ar_b13 := (Ar_b13.other W14 (ne_b13_a0))
  replace F14_m_most := (F14_m_most.same W14)
  replace K_a0 := own_K_wr K_a0 W14
  have N14 := Fr.snoc X14 N11 g_a0
  have Z14 : n0 ≤ h14.size := Nat.le_trans ZE13 (Keep.of_wr W14).1
  have KK14 := KKE13.wr W14 (Or.inl (by simp))
  exact own_retV X14 hP hx hlk e14 hret (hb hby d4_50) (by decide) (by decide) ⟨rfl, N14, KK14, E_a0, F_a0_m_size, F_a0_m_row, F_a0_m_end, ⟨_, g_b3, sz_b3, F4_m_length, Ar_b3⟩⟩
theorem d6_0 : decode prog_28_method_2_code 0 = .ok (.aload_n 0, 1) := by decide +kernel
theorem d6_1 : decode prog_28_method_2_code 1 = .ok (.iload_n 1, 1) := by decide +kernel
theorem d6_2 : decode prog_28_method_2_code 2 = .ok (.putfield 36, 3) := by decide +kernel
theorem d6_5 : decode prog_28_method_2_code 5 = .ok (.aload_n 0, 1) := by decide +kernel
theorem d6_6 : decode prog_28_method_2_code 6 = .ok (.lload_n 2, 1) := by decide +kernel
theorem d6_7 : decode prog_28_method_2_code 7 = .ok (.putfield 40, 3) := by decide +kernel
theorem d6_10 : decode prog_28_method_2_code 10 = .ok (.aload_n 0, 1) := by decide +kernel
theorem d6_11 : decode prog_28_method_2_code 11 = .ok (.iconst 0, 1) := by decide +kernel
theorem d6_12 : decode prog_28_method_2_code 12 = .ok (.putfield 44, 3) := by decide +kernel
theorem d6_15 : decode prog_28_method_2_code 15 = .ok (.return_, 1) := by decide +kernel
set_option maxRecDepth 65536 in
set_option maxHeartbeats 4000000 in
theorem ef_6 (m : MethodId) (a0 : Addr) (p1 : Int32) (q2 : Int64) : entryFrame m #[(.ref a0), (.int p1), (.long q2)] 4 = mkF m 0 #[.val (.ref a0), .val (.int p1), .val (.long q2), .second] [] := by first | (simp [entryFrame, mkF, argsToLocals, Value.category]; done) | rfl
set_option maxRecDepth 65536 in
set_option maxHeartbeats 40000000 in
theorem rm6 (l : Launch) (Z : State) (aw : Array Value) (hw : ∀ d ∈ tables_1, d.before aw Z = true) {ws : List Jvm.Cond} (a0 : Addr) (p1 : Int32) (q2 : Int64) (w0 : Addr) (sv : Value) (rv : Value) (ev : Value) (h0 : Heap) (n0 : Nat) (Z0 : n0 ≤ h0.size) (E_a0 : Exa Z h0 a0 "com/example/ridgeline/ridgeline/cumulative/IntervalLine") (g_a0 : n0 ≤ a0) (F_a0_m_length : Fld Z h0 a0 "com/example/ridgeline/ridgeline/cumulative/IntervalLine" "m_length" "[J" (.ref w0)) (F_a0_m_size : Fld Z h0 a0 "com/example/ridgeline/ridgeline/cumulative/IntervalLine" "m_size" "I" sv) (F_a0_m_row : Fld Z h0 a0 "com/example/ridgeline/ridgeline/cumulative/IntervalLine" "m_row" "Z" rv) (F_a0_m_end : Fld Z h0 a0 "com/example/ridgeline/ridgeline/cumulative/IntervalLine" "m_end" "J" ev) :
    own_Met l Z (⟨"com/example/ridgeline/ridgeline/cumulative/IntervalLine", "begin", "(ZJ)V"⟩ : MethodName) prog_28_method_2_code 4 none ws ({ frames := 0, cells := 0, slots := 0, locals := 0 } : Room) #[(.ref a0), (.int p1), (.long q2)] h0 (fun v h L => v = none ∧ Fr n0 L ∧ Keep h0 h [a0] ∧ Exa Z h a0 "com/example/ridgeline/ridgeline/cumulative/IntervalLine" ∧ Fld Z h a0 "com/example/ridgeline/ridgeline/cumulative/IntervalLine" "m_length" "[J" (.ref w0) ∧ Fld Z h a0 "com/example/ridgeline/ridgeline/cumulative/IntervalLine" "m_row" "Z" (.int (p1 &&& (1 : Int32))) ∧ Fld Z h a0 "com/example/ridgeline/ridgeline/cumulative/IntervalLine" "m_end" "J" (.long q2) ∧ Fld Z h a0 "com/example/ridgeline/ridgeline/cumulative/IntervalLine" "m_size" "I" (.int (0 : Int32))) := by
  refine own_body (plainFor_of_name pn_1) ?_
  intro p e s m below meth c s₁ hx hZ hby hml hown hnm hret hlk X0 e0
  replace hown : s.vm.findClass "com/example/ridgeline/ridgeline/cumulative/IntervalLine" = some m.cls := hown
  replace hml : c.maxLocals = 4 := hml
  have N0 := Fr.nil n0
  have K0 := Keep.refl h0 [a0]
  obtain ⟨P, hP⟩ : ∃ P, P = own_P below s (fun v h L => v = none ∧ Fr n0 L ∧ Keep h0 h [a0] ∧ Exa Z h a0 "com/example/ridgeline/ridgeline/cumulative/IntervalLine" ∧ Fld Z h a0 "com/example/ridgeline/ridgeline/cumulative/IntervalLine" "m_length" "[J" (.ref w0) ∧ Fld Z h a0 "com/example/ridgeline/ridgeline/cumulative/IntervalLine" "m_row" "Z" (.int (p1 &&& (1 : Int32))) ∧ Fld Z h a0 "com/example/ridgeline/ridgeline/cumulative/IntervalLine" "m_end" "J" (.long q2) ∧ Fld Z h a0 "com/example/ridgeline/ridgeline/cumulative/IntervalLine" "m_size" "I" (.int (0 : Int32))) ({ frames := 0, cells := 0, slots := 0, locals := 0 } : Room).cells ({ frames := 0, cells := 0, slots := 0, locals := 0 } : Room).slots := ⟨_, rfl⟩
  rw [← hP]
  refine own_cast (ef_6 m a0 p1 q2) ?_
  refine own_go (T' := s₁) (f' := (mkF m 2 #[.val (.ref a0), .val (.int p1), .val (.long q2), .second] [(.int p1), (.ref a0)])) (fun t kt => ?_) ?_
  · show Steps p.tables e below (s₁.setTop (mkF m 0 #[.val (.ref a0), .val (.int p1), .val (.long q2), .second] [])) t
    refine XS.aloadN X0.here hx rfl (hb hby d6_0) rfl rfl ?_
    show Steps p.tables e below (s₁.setTop (mkF m 1 #[.val (.ref a0), .val (.int p1), .val (.long q2), .second] [(.ref a0)])) t
    refine XS.iloadN X0.here hx rfl (hb hby d6_1) rfl ?_
    show Steps p.tables e below (s₁.setTop (mkF m 2 #[.val (.ref a0), .val (.int p1), .val (.long q2), .second] [(.int p1), (.ref a0)])) t
    exact kt
  obtain ⟨T1, h1, X1, e1, W1, st1⟩ := putFN X0 hx hZ hown (hw _ (List.mem_of_getElem? (i := 72) rfl)) Via.refl e0 F_a0_m_row E_a0 (Or.inl (hw _ (List.mem_of_getElem? (i := 73) rfl))) (hw _ (List.mem_of_getElem? (i := 43) rfl)) (ty := .boolean) (v' := (.int (p1 &&& (1 : Int32)))) (by decide) rfl (fits_nar_bool _) (g := (mkF m 2 #[.val (.ref a0), .val (.int p1), .val (.long q2), .second] [(.int p1), (.ref a0)])) rfl rfl (hb hby d6_2)
  refine own_go st1 ?_
  replace E_a0 := (E_a0.wr W1)
  replace F_a0_m_length := (F_a0_m_length.other W1 (Or.inr (slot_ne (Or.inr (hw _ (List.mem_of_getElem? (i := 52) rfl))) (Or.inl (hw _ (List.mem_of_getElem? (i := 73) rfl))) (by decide) (t := (.array .long)) (t' := .boolean) (by decide) (by decide))))
  replace F_a0_m_size := (F_a0_m_size.other W1 (Or.inr (slot_ne (Or.inl (hw _ (List.mem_of_getElem? (i := 77) rfl))) (Or.inl (hw _ (List.mem_of_getElem? (i := 73) rfl))) (by decide) (t := .int) (t' := .boolean) (by decide) (by decide))))
  replace F_a0_m_row := (F_a0_m_row.same W1)
  replace F_a0_m_end := (F_a0_m_end.other W1 (Or.inr (slot_ne (Or.inl (hw _ (List.mem_of_getElem? (i := 75) rfl))) (Or.inl (hw _ (List.mem_of_getElem? (i := 73) rfl))) (by decide) (t := .long) (t' := .boolean) (by decide) (by decide))))
  have N1 := Fr.snoc X1 N0 g_a0
  have Z1 : n0 ≤ h1.size := Nat.le_trans Z0 (Keep.of_wr W1).1
  have KK1 := K0.wr W1 (Or.inl (by simp))
  refine own_go (T' := T1) (f' := (mkF m 7 #[.val (.ref a0), .val (.int p1), .val (.long q2), .second] [(.long q2), (.ref a0)])) (fun t kt => ?_) ?_
  · show Steps p.tables e below (T1.setTop (mkF m 5 #[.val (.ref a0), .val (.int p1), .val (.long q2), .second] [])) t
    refine XS.aloadN X1.here hx rfl (hb hby d6_5) rfl rfl ?_
    show Steps p.tables e below (T1.setTop (mkF m 6 #[.val (.ref a0), .val (.int p1), .val (.long q2), .second] [(.ref a0)])) t
    refine XS.lloadN X1.here hx rfl (hb hby d6_6) rfl ?_
    show Steps p.tables e below (T1.setTop (mkF m 7 #[.val (.ref a0), .val (.int p1), .val (.long q2), .second] [(.long q2), (.ref a0)])) t
    exact kt
  obtain ⟨T2, h2, X2, e2, W2, st2⟩ := putF X1 hx hZ hown (host := "") (Or.inl (hw _ (List.mem_of_getElem? (i := 74) rfl))) Via.refl e1 F_a0_m_end E_a0 (Or.inl (hw _ (List.mem_of_getElem? (i := 75) rfl))) (hw _ (List.mem_of_getElem? (i := 43) rfl)) (ty := .long) (by decide) rfl rfl (g := (mkF m 7 #[.val (.ref a0), .val (.int p1), .val (.long q2), .second] [(.long q2), (.ref a0)])) rfl rfl (hb hby d6_7)
  refine own_go st2 ?_
  replace E_a0 := (E_a0.wr W2)
  replace F_a0_m_length := (F_a0_m_length.other W2 (Or.inr (slot_ne (Or.inr (hw _ (List.mem_of_getElem? (i := 52) rfl))) (Or.inl (hw _ (List.mem_of_getElem? (i := 75) rfl))) (by decide) (t := (.array .long)) (t' := .long) (by decide) (by decide))))
  replace F_a0_m_size := (F_a0_m_size.other W2 (Or.inr (slot_ne (Or.inl (hw _ (List.mem_of_getElem? (i := 77) rfl))) (Or.inl (hw _ (List.mem_of_getElem? (i := 75) rfl))) (by decide) (t := .int) (t' := .long) (by decide) (by decide))))
  replace F_a0_m_row := (F_a0_m_row.other W2 (Or.inr (slot_ne (Or.inl (hw _ (List.mem_of_getElem? (i := 73) rfl))) (Or.inl (hw _ (List.mem_of_getElem? (i := 75) rfl))) (by decide) (t := .boolean) (t' := .long) (by decide) (by decide))))
  replace F_a0_m_end := (F_a0_m_end.same W2)
  have N2 := Fr.snoc X2 N1 g_a0
  have Z2 : n0 ≤ h2.size := Nat.le_trans Z1 (Keep.of_wr W2).1
  have KK2 := KK1.wr W2 (Or.inl (by simp))
  refine own_go (T' := T2) (f' := (mkF m 12 #[.val (.ref a0), .val (.int p1), .val (.long q2), .second] [(.int (0 : Int32)), (.ref a0)])) (fun t kt => ?_) ?_
  · show Steps p.tables e below (T2.setTop (mkF m 10 #[.val (.ref a0), .val (.int p1), .val (.long q2), .second] [])) t
    refine XS.aloadN X2.here hx rfl (hb hby d6_10) rfl rfl ?_
    show Steps p.tables e below (T2.setTop (mkF m 11 #[.val (.ref a0), .val (.int p1), .val (.long q2), .second] [(.ref a0)])) t
    refine XS.iconst X2.here hx rfl (hb hby d6_11) ?_
    show Steps p.tables e below (T2.setTop (mkF m 12 #[.val (.ref a0), .val (.int p1), .val (.long q2), .second] [(.int (0 : Int32)), (.ref a0)])) t
    exact kt
  obtain ⟨T3, h3, X3, e3, W3, st3⟩ := putF X2 hx hZ hown (host := "") (Or.inl (hw _ (List.mem_of_getElem? (i := 76) rfl))) Via.refl e2 F_a0_m_size E_a0 (Or.inl (hw _ (List.mem_of_getElem? (i := 77) rfl))) (hw _ (List.mem_of_getElem? (i := 43) rfl)) (ty := .int) (by decide) rfl rfl (g := (mkF m 12 #[.val (.ref a0), .val (.int p1), .val (.long q2), .second] [(.int (0 : Int32)), (.ref a0)])) rfl rfl (hb hby d6_12)
  refine own_go st3 ?_
  replace E_a0 := (E_a0.wr W3)
  replace F_a0_m_length := (F_a0_m_length.other W3 (Or.inr (slot_ne (Or.inr (hw _ (List.mem_of_getElem? (i := 52) rfl))) (Or.inl (hw _ (List.mem_of_getElem? (i := 77) rfl))) (by decide) (t := (.array .long)) (t' := .int) (by decide) (by decide))))
  replace F_a0_m_size := (F_a0_m_size.same W3)
  replace F_a0_m_row := (F_a0_m_row.other W3 (Or.inr (slot_ne (Or.inl (hw _ (List.mem_of_getElem? (i := 73) rfl))) (Or.inl (hw _ (List.mem_of_getElem? (i := 77) rfl))) (by decide) (t := .boolean) (t' := .int) (by decide) (by decide))))
  replace F_a0_m_end := (F_a0_m_end.other W3 (Or.inr (slot_ne (Or.inl (hw _ (List.mem_of_getElem? (i := 75) rfl))) (Or.inl (hw _ (List.mem_of_getElem? (i := 77) rfl))) (by decide) (t := .long) (t' := .int) (by decide) (by decide))))
  have N3 := Fr.snoc X3 N2 g_a0
  have Z3 : n0 ≤ h3.size := Nat.le_trans Z2 (Keep.of_wr W3).1
  have KK3 := KK2.wr W3 (Or.inl (by simp))
  exact own_retV X3 hP hx hlk e3 hret (hb hby d6_15) (by decide) (by decide) ⟨rfl, N3, KK3, E_a0, F_a0_m_length, F_a0_m_row, F_a0_m_end, F_a0_m_size⟩
theorem d8_0 : decode prog_28_method_3_code 0 = .ok (.aload_n 0, 1) := by decide +kernel
theorem d8_1 : decode prog_28_method_3_code 1 = .ok (.getfield 13, 3) := by decide +kernel
theorem d8_4 : decode prog_28_method_3_code 4 = .ok (.aload_n 0, 1) := by decide +kernel
theorem d8_5 : decode prog_28_method_3_code 5 = .ok (.dup, 1) := by decide +kernel
theorem d8_6 : decode prog_28_method_3_code 6 = .ok (.getfield 44, 3) := by decide +kernel
theorem d8_9 : decode prog_28_method_3_code 9 = .ok (.dup_x1, 1) := by decide +kernel
theorem d8_10 : decode prog_28_method_3_code 10 = .ok (.iconst 1, 1) := by decide +kernel
theorem d8_11 : decode prog_28_method_3_code 11 = .ok (.iadd, 1) := by decide +kernel
theorem d8_12 : decode prog_28_method_3_code 12 = .ok (.putfield 44, 3) := by decide +kernel
theorem d8_15 : decode prog_28_method_3_code 15 = .ok (.lload_n 1, 1) := by decide +kernel
theorem d8_16 : decode prog_28_method_3_code 16 = .ok (.lastore, 1) := by decide +kernel
theorem d8_17 : decode prog_28_method_3_code 17 = .ok (.return_, 1) := by decide +kernel
set_option maxRecDepth 65536 in
set_option maxHeartbeats 4000000 in
theorem ef_8 (m : MethodId) (a0 : Addr) (q1 : Int64) : entryFrame m #[(.ref a0), (.long q1)] 3 = mkF m 0 #[.val (.ref a0), .val (.long q1), .second] [] := by first | (simp [entryFrame, mkF, argsToLocals, Value.category]; done) | rfl
set_option maxRecDepth 65536 in
set_option maxHeartbeats 40000000 in
theorem rm8 (l : Launch) (Z : State) (aw : Array Value) (hw : ∀ d ∈ tables_1, d.before aw Z = true) {ws : List Jvm.Cond} (a0 : Addr) (q1 : Int64) (w0 : Addr) (n : Nat) (f : Nat → Int64) (sz : Int32) (i : Nat) (rv : Value) (ev : Value) (h0 : Heap) (n0 : Nat) (Z0 : n0 ≤ h0.size) (E_a0 : Exa Z h0 a0 "com/example/ridgeline/ridgeline/cumulative/IntervalLine") (g_a0 : n0 ≤ a0) (g_w0 : n0 ≤ w0) (ne_a0_w0 : a0 ≠ w0) (ne_w0_a0 : w0 ≠ a0) (F_a0_m_length : Fld Z h0 a0 "com/example/ridgeline/ridgeline/cumulative/IntervalLine" "m_length" "[J" (.ref w0)) (F_a0_m_size : Fld Z h0 a0 "com/example/ridgeline/ridgeline/cumulative/IntervalLine" "m_size" "I" (.int sz)) (F_a0_m_row : Fld Z h0 a0 "com/example/ridgeline/ridgeline/cumulative/IntervalLine" "m_row" "Z" rv) (F_a0_m_end : Fld Z h0 a0 "com/example/ridgeline/ridgeline/cumulative/IntervalLine" "m_end" "J" ev) (Ar_w0 : own_AJ Z h0 w0 n f) (hi : sz.toInt = (i : Int)) (hin : i < n) :
    own_Met l Z (⟨"com/example/ridgeline/ridgeline/cumulative/IntervalLine", "add", "(J)V"⟩ : MethodName) prog_28_method_3_code 3 none ws ({ frames := 0, cells := 0, slots := 0, locals := 0 } : Room) #[(.ref a0), (.long q1)] h0 (fun v h L => v = none ∧ Fr n0 L ∧ Keep h0 h [a0, w0] ∧ Exa Z h a0 "com/example/ridgeline/ridgeline/cumulative/IntervalLine" ∧ Fld Z h a0 "com/example/ridgeline/ridgeline/cumulative/IntervalLine" "m_length" "[J" (.ref w0) ∧ Fld Z h a0 "com/example/ridgeline/ridgeline/cumulative/IntervalLine" "m_size" "I" (.int (sz + (1 : Int32))) ∧ Fld Z h a0 "com/example/ridgeline/ridgeline/cumulative/IntervalLine" "m_row" "Z" rv ∧ Fld Z h a0 "com/example/ridgeline/ridgeline/cumulative/IntervalLine" "m_end" "J" ev ∧ own_AJ Z h w0 n (own_set f i q1)) := by
  refine own_body (plainFor_of_name pn_1) ?_
  intro p e s m below meth c s₁ hx hZ hby hml hown hnm hret hlk X0 e0
  replace hown : s.vm.findClass "com/example/ridgeline/ridgeline/cumulative/IntervalLine" = some m.cls := hown
  replace hml : c.maxLocals = 3 := hml
  have N0 := Fr.nil n0
  have K0 := Keep.refl h0 [a0, w0]
  obtain ⟨P, hP⟩ : ∃ P, P = own_P below s (fun v h L => v = none ∧ Fr n0 L ∧ Keep h0 h [a0, w0] ∧ Exa Z h a0 "com/example/ridgeline/ridgeline/cumulative/IntervalLine" ∧ Fld Z h a0 "com/example/ridgeline/ridgeline/cumulative/IntervalLine" "m_length" "[J" (.ref w0) ∧ Fld Z h a0 "com/example/ridgeline/ridgeline/cumulative/IntervalLine" "m_size" "I" (.int (sz + (1 : Int32))) ∧ Fld Z h a0 "com/example/ridgeline/ridgeline/cumulative/IntervalLine" "m_row" "Z" rv ∧ Fld Z h a0 "com/example/ridgeline/ridgeline/cumulative/IntervalLine" "m_end" "J" ev ∧ own_AJ Z h w0 n (own_set f i q1)) ({ frames := 0, cells := 0, slots := 0, locals := 0 } : Room).cells ({ frames := 0, cells := 0, slots := 0, locals := 0 } : Room).slots := ⟨_, rfl⟩
  rw [← hP]
  refine own_cast (ef_8 m a0 q1) ?_
  refine own_go (T' := s₁) (f' := (mkF m 1 #[.val (.ref a0), .val (.long q1), .second] [(.ref a0)])) (fun t kt => ?_) ?_
  · show Steps p.tables e below (s₁.setTop (mkF m 0 #[.val (.ref a0), .val (.long q1), .second] [])) t
    refine XS.aloadN X0.here hx rfl (hb hby d8_0) rfl rfl ?_
    show Steps p.tables e below (s₁.setTop (mkF m 1 #[.val (.ref a0), .val (.long q1), .second] [(.ref a0)])) t
    exact kt
  obtain ⟨T1, X1, e1, st1⟩ := getF X0 hx hZ hown (host := "") (Or.inl (hw _ (List.mem_of_getElem? (i := 51) rfl))) Via.refl e0 F_a0_m_length (g := (mkF m 1 #[.val (.ref a0), .val (.long q1), .second] [(.ref a0)])) rfl rfl (hb hby d8_1)
  refine own_go st1 ?_
  refine own_go (T' := T1) (f' := (mkF m 6 #[.val (.ref a0), .val (.long q1), .second] [(.ref a0), (.ref a0), (.ref w0)])) (fun t kt => ?_) ?_
  · show Steps p.tables e below (T1.setTop (mkF m 4 #[.val (.ref a0), .val (.long q1), .second] [(.ref w0)])) t
    refine XS.aloadN X1.here hx rfl (hb hby d8_4) rfl rfl ?_
    show Steps p.tables e below (T1.setTop (mkF m 5 #[.val (.ref a0), .val (.long q1), .second] [(.ref a0), (.ref w0)])) t
    refine XS.dup X1.here hx rfl (hb hby d8_5) rfl rfl ?_
    show Steps p.tables e below (T1.setTop (mkF m 6 #[.val (.ref a0), .val (.long q1), .second] [(.ref a0), (.ref a0), (.ref w0)])) t
    exact kt
  obtain ⟨T2, X2, e2, st2⟩ := getF X1 hx hZ hown (host := "") (Or.inl (hw _ (List.mem_of_getElem? (i := 76) rfl))) Via.refl e1 F_a0_m_size (g := (mkF m 6 #[.val (.ref a0), .val (.long q1), .second] [(.ref a0), (.ref a0), (.ref w0)])) rfl rfl (hb hby d8_6)
  refine own_go st2 ?_
  refine own_go (T' := T2) (f' := (mkF m 12 #[.val (.ref a0), .val (.long q1), .second] [(.int (sz + (1 : Int32))), (.ref a0), (.int sz), (.ref w0)])) (fun t kt => ?_) ?_
  · show Steps p.tables e below (T2.setTop (mkF m 9 #[.val (.ref a0), .val (.long q1), .second] [(.int sz), (.ref a0), (.ref w0)])) t
    refine XS.dupX1 X2.here hx rfl (hb hby d8_9) rfl rfl rfl ?_
    show Steps p.tables e below (T2.setTop (mkF m 10 #[.val (.ref a0), .val (.long q1), .second] [(.int sz), (.ref a0), (.int sz), (.ref w0)])) t
    refine XS.iconst X2.here hx rfl (hb hby d8_10) ?_
    show Steps p.tables e below (T2.setTop (mkF m 11 #[.val (.ref a0), .val (.long q1), .second] [(.int (1 : Int32)), (.int sz), (.ref a0), (.int sz), (.ref w0)])) t
    refine XS.iadd X2.here hx rfl (hb hby d8_11) rfl ?_
    show Steps p.tables e below (T2.setTop (mkF m 12 #[.val (.ref a0), .val (.long q1), .second] [(.int (sz + (1 : Int32))), (.ref a0), (.int sz), (.ref w0)])) t
    exact kt
  obtain ⟨T3, h3, X3, e3, W3, st3⟩ := putF X2 hx hZ hown (host := "") (Or.inl (hw _ (List.mem_of_getElem? (i := 76) rfl))) Via.refl e2 F_a0_m_size E_a0 (Or.inl (hw _ (List.mem_of_getElem? (i := 77) rfl))) (hw _ (List.mem_of_getElem? (i := 43) rfl)) (ty := .int) (by decide) rfl rfl (g := (mkF m 12 #[.val (.ref a0), .val (.long q1), .second] [(.int (sz + (1 : Int32))), (.ref a0), (.int sz), (.ref w0)])) rfl rfl (hb hby d8_12)
  refine own_go st3 ?_
  replace E_a0 := (E_a0.wr W3)
  replace F_a0_m_length := (F_a0_m_length.other W3 (Or.inr (slot_ne (Or.inr (hw _ (List.mem_of_getElem? (i := 52) rfl))) (Or.inl (hw _ (List.mem_of_getElem? (i := 77) rfl))) (by decide) (t := (.array .long)) (t' := .int) (by decide) (by decide))))
  replace F_a0_m_size := (F_a0_m_size.same W3)
  replace F_a0_m_row := (F_a0_m_row.other W3 (Or.inr (slot_ne (Or.inl (hw _ (List.mem_of_getElem? (i := 73) rfl))) (Or.inl (hw _ (List.mem_of_getElem? (i := 77) rfl))) (by decide) (t := .boolean) (t' := .int) (by decide) (by decide))))
  replace F_a0_m_end := (F_a0_m_end.other W3 (Or.inr (slot_ne (Or.inl (hw _ (List.mem_of_getElem? (i := 75) rfl))) (Or.inl (hw _ (List.mem_of_getElem? (i := 77) rfl))) (by decide) (t := .long) (t' := .int) (by decide) (by decide))))
  replace Ar_w0 := (Ar_w0.other W3 (ne_w0_a0))
  have N3 := Fr.snoc X3 N0 g_a0
  have Z3 : n0 ≤ h3.size := Nat.le_trans Z0 (Keep.of_wr W3).1
  have KK3 := K0.wr W3 (Or.inl (by simp))
  refine own_go (T' := T3) (f' := (mkF m 16 #[.val (.ref a0), .val (.long q1), .second] [(.long q1), (.int sz), (.ref w0)])) (fun t kt => ?_) ?_
  · show Steps p.tables e below (T3.setTop (mkF m 15 #[.val (.ref a0), .val (.long q1), .second] [(.int sz), (.ref w0)])) t
    refine XS.lloadN X3.here hx rfl (hb hby d8_15) rfl ?_
    show Steps p.tables e below (T3.setTop (mkF m 16 #[.val (.ref a0), .val (.long q1), .second] [(.long q1), (.int sz), (.ref w0)])) t
    exact kt
  obtain ⟨T4, h4, X4, e4, W4, B4, st4⟩ := own_lastore X3 hx hZ e3 Ar_w0 (i := i) hi hin (g := (mkF m 16 #[.val (.ref a0), .val (.long q1), .second] [(.long q1), (.int sz), (.ref w0)])) rfl rfl (hb hby d8_16)
  refine own_go st4 ?_
  replace E_a0 := (E_a0.wr W4)
  replace F_a0_m_length := (F_a0_m_length.other W4 (Or.inl (ne_a0_w0)))
  replace F_a0_m_size := (F_a0_m_size.other W4 (Or.inl (ne_a0_w0)))
  replace F_a0_m_row := (F_a0_m_row.other W4 (Or.inl (ne_a0_w0)))
  replace F_a0_m_end := (F_a0_m_end.other W4 (Or.inl (ne_a0_w0)))
  have N4 := Fr.snoc X4 N3 g_w0
  have Z4 : n0 ≤ h4.size := Nat.le_trans Z3 (Keep.of_wr W4).1
  have KK4 := KK3.wr W4 (Or.inl (by simp))
  exact own_retV X4 hP hx hlk e4 hret (hb hby d8_17) (by decide) (by decide) ⟨rfl, N4, KK4, E_a0, F_a0_m_length, F_a0_m_size, F_a0_m_row, F_a0_m_end, B4⟩
theorem d7_0 : decode prog_28_method_20_code 0 = .ok (.iconst (-1), 1) := by decide +kernel
theorem d7_1 : decode prog_28_method_20_code 1 = .ok (.istore_n 3, 1) := by decide +kernel
theorem d7_2 : decode prog_28_method_20_code 2 = .ok (.aload_n 0, 1) := by decide +kernel
theorem d7_3 : decode prog_28_method_20_code 3 = .ok (.getfield 44, 3) := by decide +kernel
theorem d7_6 : decode prog_28_method_20_code 6 = .ok (.iconst 1, 1) := by decide +kernel
theorem d7_7 : decode prog_28_method_20_code 7 = .ok (.isub, 1) := by decide +kernel
theorem d7_8 : decode prog_28_method_20_code 8 = .ok (.istore 4, 2) := by decide +kernel
theorem d7_10 : decode prog_28_method_20_code 10 = .ok (.iload_n 3, 1) := by decide +kernel
theorem d7_11 : decode prog_28_method_20_code 11 = .ok (.iload 4, 2) := by decide +kernel
theorem d7_13 : decode prog_28_method_20_code 13 = .ok (.if_icmp .ge 40, 3) := by decide +kernel
theorem d7_16 : decode prog_28_method_20_code 16 = .ok (.iload_n 3, 1) := by decide +kernel
theorem d7_17 : decode prog_28_method_20_code 17 = .ok (.iload 4, 2) := by decide +kernel
theorem d7_19 : decode prog_28_method_20_code 19 = .ok (.iadd, 1) := by decide +kernel
theorem d7_20 : decode prog_28_method_20_code 20 = .ok (.iconst 1, 1) := by decide +kernel
theorem d7_21 : decode prog_28_method_20_code 21 = .ok (.iadd, 1) := by decide +kernel
theorem d7_22 : decode prog_28_method_20_code 22 = .ok (.iconst 1, 1) := by decide +kernel
theorem d7_23 : decode prog_28_method_20_code 23 = .ok (.iushr, 1) := by decide +kernel
theorem d7_24 : decode prog_28_method_20_code 24 = .ok (.istore 5, 2) := by decide +kernel
theorem d7_26 : decode prog_28_method_20_code 26 = .ok (.aload_n 0, 1) := by decide +kernel
theorem d7_27 : decode prog_28_method_20_code 27 = .ok (.getfield 13, 3) := by decide +kernel
theorem d7_30 : decode prog_28_method_20_code 30 = .ok (.iload 5, 2) := by decide +kernel
theorem d7_32 : decode prog_28_method_20_code 32 = .ok (.laload, 1) := by decide +kernel
theorem d7_33 : decode prog_28_method_20_code 33 = .ok (.lload_n 1, 1) := by decide +kernel
theorem d7_34 : decode prog_28_method_20_code 34 = .ok (.lcmp, 1) := by decide +kernel
theorem d7_35 : decode prog_28_method_20_code 35 = .ok (.ifCond .gt 9, 3) := by decide +kernel
theorem d7_38 : decode prog_28_method_20_code 38 = .ok (.iload 5, 2) := by decide +kernel
theorem d7_40 : decode prog_28_method_20_code 40 = .ok (.istore_n 3, 1) := by decide +kernel
theorem d7_41 : decode prog_28_method_20_code 41 = .ok (.goto 9, 3) := by decide +kernel
theorem d7_44 : decode prog_28_method_20_code 44 = .ok (.iload 5, 2) := by decide +kernel
theorem d7_46 : decode prog_28_method_20_code 46 = .ok (.iconst 1, 1) := by decide +kernel
theorem d7_47 : decode prog_28_method_20_code 47 = .ok (.isub, 1) := by decide +kernel
theorem d7_48 : decode prog_28_method_20_code 48 = .ok (.istore 4, 2) := by decide +kernel
theorem d7_50 : decode prog_28_method_20_code 50 = .ok (.goto (-40), 3) := by decide +kernel
theorem d7_53 : decode prog_28_method_20_code 53 = .ok (.iload_n 3, 1) := by decide +kernel
theorem d7_54 : decode prog_28_method_20_code 54 = .ok (.ireturn, 1) := by decide +kernel
set_option maxRecDepth 65536 in
set_option maxHeartbeats 4000000 in
theorem ef_7 (m : MethodId) (a0 : Addr) (q1 : Int64) : entryFrame m #[(.ref a0), (.long q1)] 6 = mkF m 0 #[.val (.ref a0), .val (.long q1), .second, .unset, .unset, .unset] [] := by first | (simp [entryFrame, mkF, argsToLocals, Value.category]; done) | rfl
set_option maxRecDepth 65536 in
set_option maxHeartbeats 40000000 in
theorem rm7 (l : Launch) (Z : State) (aw : Array Value) (hw : ∀ d ∈ tables_1, d.before aw Z = true) {ws : List Jvm.Cond} (a0 : Addr) (q1 : Int64) (w0 : Addr) (f : Nat → Int64) (sz : Int32) (n : Nat) (h0 : Heap) (n0 : Nat) (Z0 : n0 ≤ h0.size) (F_a0_m_length : Fld Z h0 a0 "com/example/ridgeline/ridgeline/cumulative/IntervalLine" "m_length" "[J" (.ref w0)) (F_a0_m_size : Fld Z h0 a0 "com/example/ridgeline/ridgeline/cumulative/IntervalLine" "m_size" "I" (.int sz)) (Ar_w0 : own_AJ Z h0 w0 4 f) (hz : sz.toInt = (n : Int)) (hn4 : n ≤ 4) (hs : own_sorted n f) :
    own_Met l Z (⟨"com/example/ridgeline/ridgeline/cumulative/IntervalLine", "lastUpTo", "(J)I"⟩ : MethodName) prog_28_method_20_code 6 (some .int) ws ({ frames := 0, cells := 0, slots := 0, locals := 0 } : Room) #[(.ref a0), (.long q1)] h0 (own_Pq (some (.int ((Int32.ofNat (own_cl n f q1)) - (1 : Int32)))) h0) := by
  refine own_body (plainFor_of_name pn_1) ?_
  intro p e s m below meth c s₁ hx hZ hby hml hown hnm hret hlk X0 e0
  replace hown : s.vm.findClass "com/example/ridgeline/ridgeline/cumulative/IntervalLine" = some m.cls := hown
  replace hml : c.maxLocals = 6 := hml
  obtain ⟨P, hP⟩ : ∃ P, P = own_P below s (own_Pq (some (.int ((Int32.ofNat (own_cl n f q1)) - (1 : Int32)))) h0) ({ frames := 0, cells := 0, slots := 0, locals := 0 } : Room).cells ({ frames := 0, cells := 0, slots := 0, locals := 0 } : Room).slots := ⟨_, rfl⟩
  rw [← hP]
  refine own_cast (ef_7 m a0 q1) ?_
  refine own_go (T' := s₁) (f' := (mkF m 3 #[.val (.ref a0), .val (.long q1), .second, .val (.int (-1 : Int32)), .unset, .unset] [(.ref a0)])) (fun t kt => ?_) ?_
  · show Steps p.tables e below (s₁.setTop (mkF m 0 #[.val (.ref a0), .val (.long q1), .second, .unset, .unset, .unset] [])) t
    refine XS.iconst X0.here hx rfl (hb hby d7_0) ?_
    show Steps p.tables e below (s₁.setTop (mkF m 1 #[.val (.ref a0), .val (.long q1), .second, .unset, .unset, .unset] [(.int (-1 : Int32))])) t
    refine XS.istoreN X0.here hx rfl (hb hby d7_1) rfl (l' := #[.val (.ref a0), .val (.long q1), .second, .val (.int (-1 : Int32)), .unset, .unset]) rfl ?_
    show Steps p.tables e below (s₁.setTop (mkF m 2 #[.val (.ref a0), .val (.long q1), .second, .val (.int (-1 : Int32)), .unset, .unset] [])) t
    refine XS.aloadN X0.here hx rfl (hb hby d7_2) rfl rfl ?_
    show Steps p.tables e below (s₁.setTop (mkF m 3 #[.val (.ref a0), .val (.long q1), .second, .val (.int (-1 : Int32)), .unset, .unset] [(.ref a0)])) t
    exact kt
  obtain ⟨T1, X1, e1, st1⟩ := getF X0 hx hZ hown (host := "") (Or.inl (hw _ (List.mem_of_getElem? (i := 76) rfl))) Via.refl e0 F_a0_m_size (g := (mkF m 3 #[.val (.ref a0), .val (.long q1), .second, .val (.int (-1 : Int32)), .unset, .unset] [(.ref a0)])) rfl rfl (hb hby d7_3)
  refine own_go st1 ?_
  refine own_go (T' := T1) (f' := (mkF m 10 #[.val (.ref a0), .val (.long q1), .second, .val (.int (-1 : Int32)), .val (.int (sz - (1 : Int32))), .unset] [])) (fun t kt => ?_) ?_
  · show Steps p.tables e below (T1.setTop (mkF m 6 #[.val (.ref a0), .val (.long q1), .second, .val (.int (-1 : Int32)), .unset, .unset] [(.int sz)])) t
    refine XS.iconst X1.here hx rfl (hb hby d7_6) ?_
    show Steps p.tables e below (T1.setTop (mkF m 7 #[.val (.ref a0), .val (.long q1), .second, .val (.int (-1 : Int32)), .unset, .unset] [(.int (1 : Int32)), (.int sz)])) t
    refine XS.isub X1.here hx rfl (hb hby d7_7) rfl ?_
    show Steps p.tables e below (T1.setTop (mkF m 8 #[.val (.ref a0), .val (.long q1), .second, .val (.int (-1 : Int32)), .unset, .unset] [(.int (sz - (1 : Int32)))])) t
    refine XS.istore X1.here hx rfl (hb hby d7_8) rfl (l' := #[.val (.ref a0), .val (.long q1), .second, .val (.int (-1 : Int32)), .val (.int (sz - (1 : Int32))), .unset]) rfl ?_
    show Steps p.tables e below (T1.setTop (mkF m 10 #[.val (.ref a0), .val (.long q1), .second, .val (.int (-1 : Int32)), .val (.int (sz - (1 : Int32))), .unset] [])) t
    exact kt
  have J10 : ∀ (k : Nat) (Tj2 : State) (lj2 : List Loc) (lo : Int32) (hi : Int32) (sj : Slot) (Xj2 : Stand p l e ({ frames := 0, cells := 0, slots := 0, locals := 0 } : Room) s m #[(.ref a0), (.long q1)] below meth c Tj2 lj2 0 0) (Nj2 : lj2 = []) (ej2 : Tj2.heap = h0) (hI : own_inw n f q1 lo hi) (hk : k = (hi.toInt - lo.toInt).toNat) (hsj : One sj), own_End p e below P Tj2 (mkF m 10 #[.val (.ref a0), .val (.long q1), .second, .val (.int lo), .val (.int hi), sj] []) := by
    intro k
    induction k using Nat.strongRecOn with
    | _ k IHJ10 =>
    intro Tj2 lj2 lo hi sj Xj2 Nj2 ej2 hI hk hsj
    subst Nj2
    refine own_go (T' := Tj2) (f' := (mkF m 13 #[.val (.ref a0), .val (.long q1), .second, .val (.int lo), .val (.int hi), sj] [(.int hi), (.int lo)])) (fun t kt => ?_) ?_
    · show Steps p.tables e below (Tj2.setTop (mkF m 10 #[.val (.ref a0), .val (.long q1), .second, .val (.int lo), .val (.int hi), sj] [])) t
      refine XS.iloadN Xj2.here hx rfl (hb hby d7_10) rfl ?_
      show Steps p.tables e below (Tj2.setTop (mkF m 11 #[.val (.ref a0), .val (.long q1), .second, .val (.int lo), .val (.int hi), sj] [(.int lo)])) t
      refine XS.iload Xj2.here hx rfl (hb hby d7_11) rfl ?_
      show Steps p.tables e below (Tj2.setTop (mkF m 13 #[.val (.ref a0), .val (.long q1), .second, .val (.int lo), .val (.int hi), sj] [(.int hi), (.int lo)])) t
      exact kt
    by_cases hc13_3 : lo < hi
    · refine own_go (T' := Tj2) (f' := (mkF m 24 #[.val (.ref a0), .val (.long q1), .second, .val (.int lo), .val (.int hi), sj] [(.int ((((lo + hi) + (1 : Int32)).toUInt32 >>> ((1 : Int32) &&& 31).toUInt32).toInt32))])) (fun t kt => ?_) ?_
      · show Steps p.tables e below (Tj2.setTop (mkF m 13 #[.val (.ref a0), .val (.long q1), .second, .val (.int lo), .val (.int hi), sj] [(.int hi), (.int lo)])) t
        refine XS.icmpNo Xj2.here hx rfl (hb hby d7_13) rfl (tlt hc13_3).2.1 ?_
        show Steps p.tables e below (Tj2.setTop (mkF m 16 #[.val (.ref a0), .val (.long q1), .second, .val (.int lo), .val (.int hi), sj] [])) t
        refine XS.iloadN Xj2.here hx rfl (hb hby d7_16) rfl ?_
        show Steps p.tables e below (Tj2.setTop (mkF m 17 #[.val (.ref a0), .val (.long q1), .second, .val (.int lo), .val (.int hi), sj] [(.int lo)])) t
        refine XS.iload Xj2.here hx rfl (hb hby d7_17) rfl ?_
        show Steps p.tables e below (Tj2.setTop (mkF m 19 #[.val (.ref a0), .val (.long q1), .second, .val (.int lo), .val (.int hi), sj] [(.int hi), (.int lo)])) t
        refine XS.iadd Xj2.here hx rfl (hb hby d7_19) rfl ?_
        show Steps p.tables e below (Tj2.setTop (mkF m 20 #[.val (.ref a0), .val (.long q1), .second, .val (.int lo), .val (.int hi), sj] [(.int (lo + hi))])) t
        refine XS.iconst Xj2.here hx rfl (hb hby d7_20) ?_
        show Steps p.tables e below (Tj2.setTop (mkF m 21 #[.val (.ref a0), .val (.long q1), .second, .val (.int lo), .val (.int hi), sj] [(.int (1 : Int32)), (.int (lo + hi))])) t
        refine XS.iadd Xj2.here hx rfl (hb hby d7_21) rfl ?_
        show Steps p.tables e below (Tj2.setTop (mkF m 22 #[.val (.ref a0), .val (.long q1), .second, .val (.int lo), .val (.int hi), sj] [(.int ((lo + hi) + (1 : Int32)))])) t
        refine XS.iconst Xj2.here hx rfl (hb hby d7_22) ?_
        show Steps p.tables e below (Tj2.setTop (mkF m 23 #[.val (.ref a0), .val (.long q1), .second, .val (.int lo), .val (.int hi), sj] [(.int (1 : Int32)), (.int ((lo + hi) + (1 : Int32)))])) t
        refine XS.iushr Xj2.here hx rfl (hb hby d7_23) rfl ?_
        show Steps p.tables e below (Tj2.setTop (mkF m 24 #[.val (.ref a0), .val (.long q1), .second, .val (.int lo), .val (.int hi), sj] [(.int ((((lo + hi) + (1 : Int32)).toUInt32 >>> ((1 : Int32) &&& 31).toUInt32).toInt32))])) t
        exact kt
      obtain ⟨mid, hmid⟩ : ∃ z, z = ((((lo + hi) + (1 : Int32)).toUInt32 >>> ((1 : Int32) &&& 31).toUInt32).toInt32) := ⟨_, rfl⟩
      rw [← hmid]
      refine own_go (T' := Tj2) (f' := (mkF m 27 #[.val (.ref a0), .val (.long q1), .second, .val (.int lo), .val (.int hi), .val (.int mid)] [(.ref a0)])) (fun t kt => ?_) ?_
      · show Steps p.tables e below (Tj2.setTop (mkF m 24 #[.val (.ref a0), .val (.long q1), .second, .val (.int lo), .val (.int hi), sj] [(.int mid)])) t
        refine XS.istoreS Xj2.here hx rfl (hb hby d7_24) rfl rfl hsj ?_
        show Steps p.tables e below (Tj2.setTop (mkF m 26 #[.val (.ref a0), .val (.long q1), .second, .val (.int lo), .val (.int hi), .val (.int mid)] [])) t
        refine XS.aloadN Xj2.here hx rfl (hb hby d7_26) rfl rfl ?_
        show Steps p.tables e below (Tj2.setTop (mkF m 27 #[.val (.ref a0), .val (.long q1), .second, .val (.int lo), .val (.int hi), .val (.int mid)] [(.ref a0)])) t
        exact kt
      obtain ⟨T4, X4, e4, st4⟩ := getF Xj2 hx hZ hown (host := "") (Or.inl (hw _ (List.mem_of_getElem? (i := 51) rfl))) Via.refl ej2 F_a0_m_length (g := (mkF m 27 #[.val (.ref a0), .val (.long q1), .second, .val (.int lo), .val (.int hi), .val (.int mid)] [(.ref a0)])) rfl rfl (hb hby d7_27)
      refine own_go st4 ?_
      refine own_go (T' := T4) (f' := (mkF m 35 #[.val (.ref a0), .val (.long q1), .second, .val (.int lo), .val (.int hi), .val (.int mid)] [(.int (lcmpW (f mid.toInt.toNat) q1))])) (fun t kt => ?_) ?_
      · show Steps p.tables e below (T4.setTop (mkF m 30 #[.val (.ref a0), .val (.long q1), .second, .val (.int lo), .val (.int hi), .val (.int mid)] [(.ref w0)])) t
        refine XS.iload X4.here hx rfl (hb hby d7_30) rfl ?_
        show Steps p.tables e below (T4.setTop (mkF m 32 #[.val (.ref a0), .val (.long q1), .second, .val (.int lo), .val (.int hi), .val (.int mid)] [(.int mid), (.ref w0)])) t
        refine own_laload X4 hx hZ e4 Ar_w0 (i := mid.toInt.toNat) (own_w1 hI hn4 hc13_3 hmid).1 (Nat.lt_of_lt_of_le (own_w1 hI hn4 hc13_3 hmid).2.1 hn4) (g := (mkF m 32 #[.val (.ref a0), .val (.long q1), .second, .val (.int lo), .val (.int hi), .val (.int mid)] [(.int mid), (.ref w0)])) rfl rfl (hb hby d7_32) _ ?_
        show Steps p.tables e below (T4.setTop (mkF m 33 #[.val (.ref a0), .val (.long q1), .second, .val (.int lo), .val (.int hi), .val (.int mid)] [(.long (f mid.toInt.toNat))])) t
        refine XS.lloadN X4.here hx rfl (hb hby d7_33) rfl ?_
        show Steps p.tables e below (T4.setTop (mkF m 34 #[.val (.ref a0), .val (.long q1), .second, .val (.int lo), .val (.int hi), .val (.int mid)] [(.long q1), (.long (f mid.toInt.toNat))])) t
        refine XS.lcmp X4.here hx rfl (hb hby d7_34) rfl ?_
        show Steps p.tables e below (T4.setTop (mkF m 35 #[.val (.ref a0), .val (.long q1), .second, .val (.int lo), .val (.int hi), .val (.int mid)] [(.int (lcmpW (f mid.toInt.toNat) q1))])) t
        exact kt
      by_cases hc35_5 : q1 < (f mid.toInt.toNat)
      · refine own_go (T' := T4) (f' := (mkF m 10 #[.val (.ref a0), .val (.long q1), .second, .val (.int lo), .val (.int (mid - (1 : Int32))), .val (.int mid)] [])) (fun t kt => ?_) ?_
        · show Steps p.tables e below (T4.setTop (mkF m 35 #[.val (.ref a0), .val (.long q1), .second, .val (.int lo), .val (.int hi), .val (.int mid)] [(.int (lcmpW (f mid.toInt.toNat) q1))])) t
          refine XS.ifYes X4.here hx rfl (pc0 := 35) (pc' := 44) rfl (hb hby d7_35) rfl (own_lY_gt hc35_5) (by decide) (by decide) ?_
          show Steps p.tables e below (T4.setTop (mkF m 44 #[.val (.ref a0), .val (.long q1), .second, .val (.int lo), .val (.int hi), .val (.int mid)] [])) t
          refine XS.iload X4.here hx rfl (hb hby d7_44) rfl ?_
          show Steps p.tables e below (T4.setTop (mkF m 46 #[.val (.ref a0), .val (.long q1), .second, .val (.int lo), .val (.int hi), .val (.int mid)] [(.int mid)])) t
          refine XS.iconst X4.here hx rfl (hb hby d7_46) ?_
          show Steps p.tables e below (T4.setTop (mkF m 47 #[.val (.ref a0), .val (.long q1), .second, .val (.int lo), .val (.int hi), .val (.int mid)] [(.int (1 : Int32)), (.int mid)])) t
          refine XS.isub X4.here hx rfl (hb hby d7_47) rfl ?_
          show Steps p.tables e below (T4.setTop (mkF m 48 #[.val (.ref a0), .val (.long q1), .second, .val (.int lo), .val (.int hi), .val (.int mid)] [(.int (mid - (1 : Int32)))])) t
          refine XS.istore X4.here hx rfl (hb hby d7_48) rfl (l' := #[.val (.ref a0), .val (.long q1), .second, .val (.int lo), .val (.int (mid - (1 : Int32))), .val (.int mid)]) rfl ?_
          show Steps p.tables e below (T4.setTop (mkF m 50 #[.val (.ref a0), .val (.long q1), .second, .val (.int lo), .val (.int (mid - (1 : Int32))), .val (.int mid)] [])) t
          refine XS.goto X4.here hx rfl (pc0 := 50) (pc' := 10) rfl (hb hby d7_50) (by decide) (by decide) ?_
          show Steps p.tables e below (T4.setTop (mkF m 10 #[.val (.ref a0), .val (.long q1), .second, .val (.int lo), .val (.int (mid - (1 : Int32))), .val (.int mid)] [])) t
          exact kt
        exact IHJ10 ((mid - (1 : Int32)).toInt - lo.toInt).toNat (by rw [hk]; exact (own_w2 hI hn4 hs hc13_3 hmid hc35_5).2) T4 _ lo (mid - (1 : Int32)) (.val (.int mid)) X4 rfl e4 (own_w2 hI hn4 hs hc13_3 hmid hc35_5).1 rfl (One.val rfl)
      · refine own_go (T' := T4) (f' := (mkF m 10 #[.val (.ref a0), .val (.long q1), .second, .val (.int mid), .val (.int hi), .val (.int mid)] [])) (fun t kt => ?_) ?_
        · show Steps p.tables e below (T4.setTop (mkF m 35 #[.val (.ref a0), .val (.long q1), .second, .val (.int lo), .val (.int hi), .val (.int mid)] [(.int (lcmpW (f mid.toInt.toNat) q1))])) t
          refine XS.ifNo X4.here hx rfl (hb hby d7_35) rfl (own_lN_gt hc35_5) ?_
          show Steps p.tables e below (T4.setTop (mkF m 38 #[.val (.ref a0), .val (.long q1), .second, .val (.int lo), .val (.int hi), .val (.int mid)] [])) t
          refine XS.iload X4.here hx rfl (hb hby d7_38) rfl ?_
          show Steps p.tables e below (T4.setTop (mkF m 40 #[.val (.ref a0), .val (.long q1), .second, .val (.int lo), .val (.int hi), .val (.int mid)] [(.int mid)])) t
          refine XS.istoreN X4.here hx rfl (hb hby d7_40) rfl (l' := #[.val (.ref a0), .val (.long q1), .second, .val (.int mid), .val (.int hi), .val (.int mid)]) rfl ?_
          show Steps p.tables e below (T4.setTop (mkF m 41 #[.val (.ref a0), .val (.long q1), .second, .val (.int mid), .val (.int hi), .val (.int mid)] [])) t
          refine XS.goto X4.here hx rfl (pc0 := 41) (pc' := 50) rfl (hb hby d7_41) (by decide) (by decide) ?_
          show Steps p.tables e below (T4.setTop (mkF m 50 #[.val (.ref a0), .val (.long q1), .second, .val (.int mid), .val (.int hi), .val (.int mid)] [])) t
          refine XS.goto X4.here hx rfl (pc0 := 50) (pc' := 10) rfl (hb hby d7_50) (by decide) (by decide) ?_
          show Steps p.tables e below (T4.setTop (mkF m 10 #[.val (.ref a0), .val (.long q1), .second, .val (.int mid), .val (.int hi), .val (.int mid)] [])) t
          exact kt
        exact IHJ10 (hi.toInt - mid.toInt).toNat (by rw [hk]; exact (own_w3 hI hn4 hs hc13_3 hmid hc35_5).2) T4 _ mid hi (.val (.int mid)) X4 rfl e4 (own_w3 hI hn4 hs hc13_3 hmid hc35_5).1 rfl (One.val rfl)
    · refine own_go (T' := Tj2) (f' := (mkF m 54 #[.val (.ref a0), .val (.long q1), .second, .val (.int lo), .val (.int hi), sj] [(.int lo)])) (fun t kt => ?_) ?_
      · show Steps p.tables e below (Tj2.setTop (mkF m 13 #[.val (.ref a0), .val (.long q1), .second, .val (.int lo), .val (.int hi), sj] [(.int hi), (.int lo)])) t
        refine XS.icmpYes Xj2.here hx rfl (pc0 := 13) (pc' := 53) rfl (hb hby d7_13) rfl (flt hc13_3).2.1 (by decide) (by decide) ?_
        show Steps p.tables e below (Tj2.setTop (mkF m 53 #[.val (.ref a0), .val (.long q1), .second, .val (.int lo), .val (.int hi), sj] [])) t
        refine XS.iloadN Xj2.here hx rfl (hb hby d7_53) rfl ?_
        show Steps p.tables e below (Tj2.setTop (mkF m 54 #[.val (.ref a0), .val (.long q1), .second, .val (.int lo), .val (.int hi), sj] [(.int lo)])) t
        exact kt
      exact own_retI Xj2 hP hx hlk ej2 hret (hb hby d7_54) (by decide) (by decide) ⟨(congrArg (fun w => some (Value.int w)) (own_w4 hI hn4 hc13_3)), rfl, rfl⟩
  exact J10 ((sz - (1 : Int32)).toInt - (-1 : Int32).toInt).toNat T1 _ (-1 : Int32) (sz - (1 : Int32)) (.unset) X1 rfl e1 (own_w0 hz hn4) rfl One.u
theorem pd_2 : parseMethodDescriptor "(J[J[J[J[J)V" = some ⟨[.long, (.array .long), (.array .long), (.array .long), (.array .long)], none⟩ := by decide +kernel
theorem pd_3 : parseMethodDescriptor "(Lcom/example/ridgeline/ridgeline/cumulative/Resource;I)V" = some ⟨[(.object "com/example/ridgeline/ridgeline/cumulative/Resource"), .int], none⟩ := by decide +kernel
theorem pd_4 : parseMethodDescriptor "(ZJ)V" = some ⟨[.boolean, .long], none⟩ := by decide +kernel
theorem pd_5 : parseMethodDescriptor "(J)I" = some ⟨[.long], some .int⟩ := by decide +kernel
theorem pd_6 : parseMethodDescriptor "(J)V" = some ⟨[.long], none⟩ := by decide +kernel
theorem pn_2 : plainName "com/example/ridgeline/ridgeline/cumulative/IntervalLineLastUpToPinLaw" = true := by first | (simp [plainName, overriddenIn]; done) | decide +kernel
set_option maxRecDepth 65536 in
set_option maxHeartbeats 4000000 in
theorem ef_0 (m : MethodId) (p0 : Int32) (q1 : Int64) (q2 : Int64) (q3 : Int64) (q4 : Int64) (q5 : Int64) : entryFrame m #[(.int p0), (.long q1), (.long q2), (.long q3), (.long q4), (.long q5)] maxLocals = mkF m 0 #[.val (.int p0), .val (.long q1), .second, .val (.long q2), .second, .val (.long q3), .second, .val (.long q4), .second, .val (.long q5), .second, .unset, .unset, .unset, .unset, .unset, .unset, .unset, .unset, .unset, .unset, .unset, .unset, .unset, .unset, .unset, .unset, .unset] [] := by first | (simp [entryFrame, mkF, argsToLocals, Value.category, maxLocals]; done) | rfl
set_option maxRecDepth 65536 in
set_option maxHeartbeats 40000000 in
theorem rm0 (l : Launch) (Z : State) (aw : Array Value) (hw : ∀ d ∈ tables_1, d.before aw Z = true) {ws : List Jvm.Cond} (p0 : Int32) (q1 : Int64) (q2 : Int64) (q3 : Int64) (q4 : Int64) (q5 : Int64)  (h0 : Heap) (n0 : Nat) (Z0 : n0 ≤ h0.size)  :
    own_MetW l Z x code maxLocals ret ws room_1 #[(.int p0), (.long q1), (.long q2), (.long q3), (.long q4), (.long q5)] h0 (fun v h L => v = some (.int 1) ∧ Fr n0 L) := by
  refine own_bodyW (plainFor_of_name pn_2) ?_
  intro p e s m below meth c s₁ hx hZ hby hml hown hnm hret hlk X0 e0 hS
  replace hown : (s.setVm s.vm).vm.findClass "com/example/ridgeline/ridgeline/cumulative/IntervalLineLastUpToPinLaw" = some m.cls := hown
  replace hml : c.maxLocals = 28 := hml
  have N0 := Fr.nil n0
  have K0 := Keep.refl h0 []
  obtain ⟨P, hP⟩ : ∃ P, P = own_PW below s (fun v h L => v = some (.int 1) ∧ Fr n0 L) room_1.cells room_1.slots := ⟨_, rfl⟩
  rw [← hP]
  refine own_cast (ef_0 m p0 q1 q2 q3 q4 q5) ?_
  refine own_go (T' := s₁) (f' := (mkF m 11 #[.val (.int p0), .val (.long q1), .second, .val (.long q2), .second, .val (.long q3), .second, .val (.long q4), .second, .val (.long q5), .second, .val (.long (1152921504606846975 : Int64)), .second, .unset, .unset, .unset, .unset, .unset, .unset, .unset, .unset, .unset, .unset, .unset, .unset, .unset, .unset, .unset] [(.long ((1 : Int64) + (q1 &&& (1152921504606846975 : Int64))))])) (fun t kt => ?_) ?_
  · show Steps p.tables e below (s₁.setTop (mkF m 0 #[.val (.int p0), .val (.long q1), .second, .val (.long q2), .second, .val (.long q3), .second, .val (.long q4), .second, .val (.long q5), .second, .unset, .unset, .unset, .unset, .unset, .unset, .unset, .unset, .unset, .unset, .unset, .unset, .unset, .unset, .unset, .unset, .unset] [])) t
    refine X0.ldc2Long hx hown (mvT hZ (hw _ (List.mem_of_getElem? (i := 0) rfl))) (g := (mkF m 0 #[.val (.int p0), .val (.long q1), .second, .val (.long q2), .second, .val (.long q3), .second, .val (.long q4), .second, .val (.long q5), .second, .unset, .unset, .unset, .unset, .unset, .unset, .unset, .unset, .unset, .unset, .unset, .unset, .unset, .unset, .unset, .unset, .unset] [])) rfl (hb hby at_0) _ ?_
    show Steps p.tables e below (s₁.setTop (mkF m 3 #[.val (.int p0), .val (.long q1), .second, .val (.long q2), .second, .val (.long q3), .second, .val (.long q4), .second, .val (.long q5), .second, .unset, .unset, .unset, .unset, .unset, .unset, .unset, .unset, .unset, .unset, .unset, .unset, .unset, .unset, .unset, .unset, .unset] [(.long (1152921504606846975 : Int64))])) t
    refine XS.lstore X0.here hx rfl (hb hby at_3) rfl (l' := #[.val (.int p0), .val (.long q1), .second, .val (.long q2), .second, .val (.long q3), .second, .val (.long q4), .second, .val (.long q5), .second, .val (.long (1152921504606846975 : Int64)), .second, .unset, .unset, .unset, .unset, .unset, .unset, .unset, .unset, .unset, .unset, .unset, .unset, .unset, .unset, .unset]) rfl ?_
    show Steps p.tables e below (s₁.setTop (mkF m 5 #[.val (.int p0), .val (.long q1), .second, .val (.long q2), .second, .val (.long q3), .second, .val (.long q4), .second, .val (.long q5), .second, .val (.long (1152921504606846975 : Int64)), .second, .unset, .unset, .unset, .unset, .unset, .unset, .unset, .unset, .unset, .unset, .unset, .unset, .unset, .unset, .unset] [])) t
    refine XS.lconst X0.here hx rfl (hb hby at_5) ?_
    show Steps p.tables e below (s₁.setTop (mkF m 6 #[.val (.int p0), .val (.long q1), .second, .val (.long q2), .second, .val (.long q3), .second, .val (.long q4), .second, .val (.long q5), .second, .val (.long (1152921504606846975 : Int64)), .second, .unset, .unset, .unset, .unset, .unset, .unset, .unset, .unset, .unset, .unset, .unset, .unset, .unset, .unset, .unset] [(.long (1 : Int64))])) t
    refine XS.lloadN X0.here hx rfl (hb hby at_6) rfl ?_
    show Steps p.tables e below (s₁.setTop (mkF m 7 #[.val (.int p0), .val (.long q1), .second, .val (.long q2), .second, .val (.long q3), .second, .val (.long q4), .second, .val (.long q5), .second, .val (.long (1152921504606846975 : Int64)), .second, .unset, .unset, .unset, .unset, .unset, .unset, .unset, .unset, .unset, .unset, .unset, .unset, .unset, .unset, .unset] [(.long q1), (.long (1 : Int64))])) t
    refine XS.lload X0.here hx rfl (hb hby at_7) rfl ?_
    show Steps p.tables e below (s₁.setTop (mkF m 9 #[.val (.int p0), .val (.long q1), .second, .val (.long q2), .second, .val (.long q3), .second, .val (.long q4), .second, .val (.long q5), .second, .val (.long (1152921504606846975 : Int64)), .second, .unset, .unset, .unset, .unset, .unset, .unset, .unset, .unset, .unset, .unset, .unset, .unset, .unset, .unset, .unset] [(.long (1152921504606846975 : Int64)), (.long q1), (.long (1 : Int64))])) t
    refine XS.land X0.here hx rfl (hb hby at_9) rfl ?_
    show Steps p.tables e below (s₁.setTop (mkF m 10 #[.val (.int p0), .val (.long q1), .second, .val (.long q2), .second, .val (.long q3), .second, .val (.long q4), .second, .val (.long q5), .second, .val (.long (1152921504606846975 : Int64)), .second, .unset, .unset, .unset, .unset, .unset, .unset, .unset, .unset, .unset, .unset, .unset, .unset, .unset, .unset, .unset] [(.long (q1 &&& (1152921504606846975 : Int64))), (.long (1 : Int64))])) t
    refine XS.ladd X0.here hx rfl (hb hby at_10) rfl ?_
    show Steps p.tables e below (s₁.setTop (mkF m 11 #[.val (.int p0), .val (.long q1), .second, .val (.long q2), .second, .val (.long q3), .second, .val (.long q4), .second, .val (.long q5), .second, .val (.long (1152921504606846975 : Int64)), .second, .unset, .unset, .unset, .unset, .unset, .unset, .unset, .unset, .unset, .unset, .unset, .unset, .unset, .unset, .unset] [(.long ((1 : Int64) + (q1 &&& (1152921504606846975 : Int64))))])) t
    exact kt
  obtain ⟨l0, hl0⟩ : ∃ z, z = ((1 : Int64) + (q1 &&& (1152921504606846975 : Int64))) := ⟨_, rfl⟩
  rw [← hl0]
  refine own_go (T' := s₁) (f' := (mkF m 22 #[.val (.int p0), .val (.long q1), .second, .val (.long q2), .second, .val (.long q3), .second, .val (.long q4), .second, .val (.long q5), .second, .val (.long (1152921504606846975 : Int64)), .second, .val (.long l0), .second, .unset, .unset, .unset, .unset, .unset, .unset, .unset, .unset, .unset, .unset, .unset, .unset, .unset] [(.long ((l0 + (1 : Int64)) + (q2 &&& (1152921504606846975 : Int64))))])) (fun t kt => ?_) ?_
  · show Steps p.tables e below (s₁.setTop (mkF m 11 #[.val (.int p0), .val (.long q1), .second, .val (.long q2), .second, .val (.long q3), .second, .val (.long q4), .second, .val (.long q5), .second, .val (.long (1152921504606846975 : Int64)), .second, .unset, .unset, .unset, .unset, .unset, .unset, .unset, .unset, .unset, .unset, .unset, .unset, .unset, .unset, .unset] [(.long l0)])) t
    refine XS.lstore X0.here hx rfl (hb hby at_11) rfl (l' := #[.val (.int p0), .val (.long q1), .second, .val (.long q2), .second, .val (.long q3), .second, .val (.long q4), .second, .val (.long q5), .second, .val (.long (1152921504606846975 : Int64)), .second, .val (.long l0), .second, .unset, .unset, .unset, .unset, .unset, .unset, .unset, .unset, .unset, .unset, .unset, .unset, .unset]) rfl ?_
    show Steps p.tables e below (s₁.setTop (mkF m 13 #[.val (.int p0), .val (.long q1), .second, .val (.long q2), .second, .val (.long q3), .second, .val (.long q4), .second, .val (.long q5), .second, .val (.long (1152921504606846975 : Int64)), .second, .val (.long l0), .second, .unset, .unset, .unset, .unset, .unset, .unset, .unset, .unset, .unset, .unset, .unset, .unset, .unset] [])) t
    refine XS.lload X0.here hx rfl (hb hby at_13) rfl ?_
    show Steps p.tables e below (s₁.setTop (mkF m 15 #[.val (.int p0), .val (.long q1), .second, .val (.long q2), .second, .val (.long q3), .second, .val (.long q4), .second, .val (.long q5), .second, .val (.long (1152921504606846975 : Int64)), .second, .val (.long l0), .second, .unset, .unset, .unset, .unset, .unset, .unset, .unset, .unset, .unset, .unset, .unset, .unset, .unset] [(.long l0)])) t
    refine XS.lconst X0.here hx rfl (hb hby at_15) ?_
    show Steps p.tables e below (s₁.setTop (mkF m 16 #[.val (.int p0), .val (.long q1), .second, .val (.long q2), .second, .val (.long q3), .second, .val (.long q4), .second, .val (.long q5), .second, .val (.long (1152921504606846975 : Int64)), .second, .val (.long l0), .second, .unset, .unset, .unset, .unset, .unset, .unset, .unset, .unset, .unset, .unset, .unset, .unset, .unset] [(.long (1 : Int64)), (.long l0)])) t
    refine XS.ladd X0.here hx rfl (hb hby at_16) rfl ?_
    show Steps p.tables e below (s₁.setTop (mkF m 17 #[.val (.int p0), .val (.long q1), .second, .val (.long q2), .second, .val (.long q3), .second, .val (.long q4), .second, .val (.long q5), .second, .val (.long (1152921504606846975 : Int64)), .second, .val (.long l0), .second, .unset, .unset, .unset, .unset, .unset, .unset, .unset, .unset, .unset, .unset, .unset, .unset, .unset] [(.long (l0 + (1 : Int64)))])) t
    refine XS.lloadN X0.here hx rfl (hb hby at_17) rfl ?_
    show Steps p.tables e below (s₁.setTop (mkF m 18 #[.val (.int p0), .val (.long q1), .second, .val (.long q2), .second, .val (.long q3), .second, .val (.long q4), .second, .val (.long q5), .second, .val (.long (1152921504606846975 : Int64)), .second, .val (.long l0), .second, .unset, .unset, .unset, .unset, .unset, .unset, .unset, .unset, .unset, .unset, .unset, .unset, .unset] [(.long q2), (.long (l0 + (1 : Int64)))])) t
    refine XS.lload X0.here hx rfl (hb hby at_18) rfl ?_
    show Steps p.tables e below (s₁.setTop (mkF m 20 #[.val (.int p0), .val (.long q1), .second, .val (.long q2), .second, .val (.long q3), .second, .val (.long q4), .second, .val (.long q5), .second, .val (.long (1152921504606846975 : Int64)), .second, .val (.long l0), .second, .unset, .unset, .unset, .unset, .unset, .unset, .unset, .unset, .unset, .unset, .unset, .unset, .unset] [(.long (1152921504606846975 : Int64)), (.long q2), (.long (l0 + (1 : Int64)))])) t
    refine XS.land X0.here hx rfl (hb hby at_20) rfl ?_
    show Steps p.tables e below (s₁.setTop (mkF m 21 #[.val (.int p0), .val (.long q1), .second, .val (.long q2), .second, .val (.long q3), .second, .val (.long q4), .second, .val (.long q5), .second, .val (.long (1152921504606846975 : Int64)), .second, .val (.long l0), .second, .unset, .unset, .unset, .unset, .unset, .unset, .unset, .unset, .unset, .unset, .unset, .unset, .unset] [(.long (q2 &&& (1152921504606846975 : Int64))), (.long (l0 + (1 : Int64)))])) t
    refine XS.ladd X0.here hx rfl (hb hby at_21) rfl ?_
    show Steps p.tables e below (s₁.setTop (mkF m 22 #[.val (.int p0), .val (.long q1), .second, .val (.long q2), .second, .val (.long q3), .second, .val (.long q4), .second, .val (.long q5), .second, .val (.long (1152921504606846975 : Int64)), .second, .val (.long l0), .second, .unset, .unset, .unset, .unset, .unset, .unset, .unset, .unset, .unset, .unset, .unset, .unset, .unset] [(.long ((l0 + (1 : Int64)) + (q2 &&& (1152921504606846975 : Int64))))])) t
    exact kt
  obtain ⟨l1, hl1⟩ : ∃ z, z = ((l0 + (1 : Int64)) + (q2 &&& (1152921504606846975 : Int64))) := ⟨_, rfl⟩
  rw [← hl1]
  refine own_go (T' := s₁) (f' := (mkF m 34 #[.val (.int p0), .val (.long q1), .second, .val (.long q2), .second, .val (.long q3), .second, .val (.long q4), .second, .val (.long q5), .second, .val (.long (1152921504606846975 : Int64)), .second, .val (.long l0), .second, .val (.long l1), .second, .unset, .unset, .unset, .unset, .unset, .unset, .unset, .unset, .unset, .unset, .unset] [(.long ((l1 + (1 : Int64)) + (q3 &&& (1152921504606846975 : Int64))))])) (fun t kt => ?_) ?_
  · show Steps p.tables e below (s₁.setTop (mkF m 22 #[.val (.int p0), .val (.long q1), .second, .val (.long q2), .second, .val (.long q3), .second, .val (.long q4), .second, .val (.long q5), .second, .val (.long (1152921504606846975 : Int64)), .second, .val (.long l0), .second, .unset, .unset, .unset, .unset, .unset, .unset, .unset, .unset, .unset, .unset, .unset, .unset, .unset] [(.long l1)])) t
    refine XS.lstore X0.here hx rfl (hb hby at_22) rfl (l' := #[.val (.int p0), .val (.long q1), .second, .val (.long q2), .second, .val (.long q3), .second, .val (.long q4), .second, .val (.long q5), .second, .val (.long (1152921504606846975 : Int64)), .second, .val (.long l0), .second, .val (.long l1), .second, .unset, .unset, .unset, .unset, .unset, .unset, .unset, .unset, .unset, .unset, .unset]) rfl ?_
    show Steps p.tables e below (s₁.setTop (mkF m 24 #[.val (.int p0), .val (.long q1), .second, .val (.long q2), .second, .val (.long q3), .second, .val (.long q4), .second, .val (.long q5), .second, .val (.long (1152921504606846975 : Int64)), .second, .val (.long l0), .second, .val (.long l1), .second, .unset, .unset, .unset, .unset, .unset, .unset, .unset, .unset, .unset, .unset, .unset] [])) t
    refine XS.lload X0.here hx rfl (hb hby at_24) rfl ?_
    show Steps p.tables e below (s₁.setTop (mkF m 26 #[.val (.int p0), .val (.long q1), .second, .val (.long q2), .second, .val (.long q3), .second, .val (.long q4), .second, .val (.long q5), .second, .val (.long (1152921504606846975 : Int64)), .second, .val (.long l0), .second, .val (.long l1), .second, .unset, .unset, .unset, .unset, .unset, .unset, .unset, .unset, .unset, .unset, .unset] [(.long l1)])) t
    refine XS.lconst X0.here hx rfl (hb hby at_26) ?_
    show Steps p.tables e below (s₁.setTop (mkF m 27 #[.val (.int p0), .val (.long q1), .second, .val (.long q2), .second, .val (.long q3), .second, .val (.long q4), .second, .val (.long q5), .second, .val (.long (1152921504606846975 : Int64)), .second, .val (.long l0), .second, .val (.long l1), .second, .unset, .unset, .unset, .unset, .unset, .unset, .unset, .unset, .unset, .unset, .unset] [(.long (1 : Int64)), (.long l1)])) t
    refine XS.ladd X0.here hx rfl (hb hby at_27) rfl ?_
    show Steps p.tables e below (s₁.setTop (mkF m 28 #[.val (.int p0), .val (.long q1), .second, .val (.long q2), .second, .val (.long q3), .second, .val (.long q4), .second, .val (.long q5), .second, .val (.long (1152921504606846975 : Int64)), .second, .val (.long l0), .second, .val (.long l1), .second, .unset, .unset, .unset, .unset, .unset, .unset, .unset, .unset, .unset, .unset, .unset] [(.long (l1 + (1 : Int64)))])) t
    refine XS.lload X0.here hx rfl (hb hby at_28) rfl ?_
    show Steps p.tables e below (s₁.setTop (mkF m 30 #[.val (.int p0), .val (.long q1), .second, .val (.long q2), .second, .val (.long q3), .second, .val (.long q4), .second, .val (.long q5), .second, .val (.long (1152921504606846975 : Int64)), .second, .val (.long l0), .second, .val (.long l1), .second, .unset, .unset, .unset, .unset, .unset, .unset, .unset, .unset, .unset, .unset, .unset] [(.long q3), (.long (l1 + (1 : Int64)))])) t
    refine XS.lload X0.here hx rfl (hb hby at_30) rfl ?_
    show Steps p.tables e below (s₁.setTop (mkF m 32 #[.val (.int p0), .val (.long q1), .second, .val (.long q2), .second, .val (.long q3), .second, .val (.long q4), .second, .val (.long q5), .second, .val (.long (1152921504606846975 : Int64)), .second, .val (.long l0), .second, .val (.long l1), .second, .unset, .unset, .unset, .unset, .unset, .unset, .unset, .unset, .unset, .unset, .unset] [(.long (1152921504606846975 : Int64)), (.long q3), (.long (l1 + (1 : Int64)))])) t
    refine XS.land X0.here hx rfl (hb hby at_32) rfl ?_
    show Steps p.tables e below (s₁.setTop (mkF m 33 #[.val (.int p0), .val (.long q1), .second, .val (.long q2), .second, .val (.long q3), .second, .val (.long q4), .second, .val (.long q5), .second, .val (.long (1152921504606846975 : Int64)), .second, .val (.long l0), .second, .val (.long l1), .second, .unset, .unset, .unset, .unset, .unset, .unset, .unset, .unset, .unset, .unset, .unset] [(.long (q3 &&& (1152921504606846975 : Int64))), (.long (l1 + (1 : Int64)))])) t
    refine XS.ladd X0.here hx rfl (hb hby at_33) rfl ?_
    show Steps p.tables e below (s₁.setTop (mkF m 34 #[.val (.int p0), .val (.long q1), .second, .val (.long q2), .second, .val (.long q3), .second, .val (.long q4), .second, .val (.long q5), .second, .val (.long (1152921504606846975 : Int64)), .second, .val (.long l0), .second, .val (.long l1), .second, .unset, .unset, .unset, .unset, .unset, .unset, .unset, .unset, .unset, .unset, .unset] [(.long ((l1 + (1 : Int64)) + (q3 &&& (1152921504606846975 : Int64))))])) t
    exact kt
  obtain ⟨l2, hl2⟩ : ∃ z, z = ((l1 + (1 : Int64)) + (q3 &&& (1152921504606846975 : Int64))) := ⟨_, rfl⟩
  rw [← hl2]
  refine own_go (T' := s₁) (f' := (mkF m 46 #[.val (.int p0), .val (.long q1), .second, .val (.long q2), .second, .val (.long q3), .second, .val (.long q4), .second, .val (.long q5), .second, .val (.long (1152921504606846975 : Int64)), .second, .val (.long l0), .second, .val (.long l1), .second, .val (.long l2), .second, .unset, .unset, .unset, .unset, .unset, .unset, .unset, .unset, .unset] [(.long ((l2 + (1 : Int64)) + (q4 &&& (1152921504606846975 : Int64))))])) (fun t kt => ?_) ?_
  · show Steps p.tables e below (s₁.setTop (mkF m 34 #[.val (.int p0), .val (.long q1), .second, .val (.long q2), .second, .val (.long q3), .second, .val (.long q4), .second, .val (.long q5), .second, .val (.long (1152921504606846975 : Int64)), .second, .val (.long l0), .second, .val (.long l1), .second, .unset, .unset, .unset, .unset, .unset, .unset, .unset, .unset, .unset, .unset, .unset] [(.long l2)])) t
    refine XS.lstore X0.here hx rfl (hb hby at_34) rfl (l' := #[.val (.int p0), .val (.long q1), .second, .val (.long q2), .second, .val (.long q3), .second, .val (.long q4), .second, .val (.long q5), .second, .val (.long (1152921504606846975 : Int64)), .second, .val (.long l0), .second, .val (.long l1), .second, .val (.long l2), .second, .unset, .unset, .unset, .unset, .unset, .unset, .unset, .unset, .unset]) rfl ?_
    show Steps p.tables e below (s₁.setTop (mkF m 36 #[.val (.int p0), .val (.long q1), .second, .val (.long q2), .second, .val (.long q3), .second, .val (.long q4), .second, .val (.long q5), .second, .val (.long (1152921504606846975 : Int64)), .second, .val (.long l0), .second, .val (.long l1), .second, .val (.long l2), .second, .unset, .unset, .unset, .unset, .unset, .unset, .unset, .unset, .unset] [])) t
    refine XS.lload X0.here hx rfl (hb hby at_36) rfl ?_
    show Steps p.tables e below (s₁.setTop (mkF m 38 #[.val (.int p0), .val (.long q1), .second, .val (.long q2), .second, .val (.long q3), .second, .val (.long q4), .second, .val (.long q5), .second, .val (.long (1152921504606846975 : Int64)), .second, .val (.long l0), .second, .val (.long l1), .second, .val (.long l2), .second, .unset, .unset, .unset, .unset, .unset, .unset, .unset, .unset, .unset] [(.long l2)])) t
    refine XS.lconst X0.here hx rfl (hb hby at_38) ?_
    show Steps p.tables e below (s₁.setTop (mkF m 39 #[.val (.int p0), .val (.long q1), .second, .val (.long q2), .second, .val (.long q3), .second, .val (.long q4), .second, .val (.long q5), .second, .val (.long (1152921504606846975 : Int64)), .second, .val (.long l0), .second, .val (.long l1), .second, .val (.long l2), .second, .unset, .unset, .unset, .unset, .unset, .unset, .unset, .unset, .unset] [(.long (1 : Int64)), (.long l2)])) t
    refine XS.ladd X0.here hx rfl (hb hby at_39) rfl ?_
    show Steps p.tables e below (s₁.setTop (mkF m 40 #[.val (.int p0), .val (.long q1), .second, .val (.long q2), .second, .val (.long q3), .second, .val (.long q4), .second, .val (.long q5), .second, .val (.long (1152921504606846975 : Int64)), .second, .val (.long l0), .second, .val (.long l1), .second, .val (.long l2), .second, .unset, .unset, .unset, .unset, .unset, .unset, .unset, .unset, .unset] [(.long (l2 + (1 : Int64)))])) t
    refine XS.lload X0.here hx rfl (hb hby at_40) rfl ?_
    show Steps p.tables e below (s₁.setTop (mkF m 42 #[.val (.int p0), .val (.long q1), .second, .val (.long q2), .second, .val (.long q3), .second, .val (.long q4), .second, .val (.long q5), .second, .val (.long (1152921504606846975 : Int64)), .second, .val (.long l0), .second, .val (.long l1), .second, .val (.long l2), .second, .unset, .unset, .unset, .unset, .unset, .unset, .unset, .unset, .unset] [(.long q4), (.long (l2 + (1 : Int64)))])) t
    refine XS.lload X0.here hx rfl (hb hby at_42) rfl ?_
    show Steps p.tables e below (s₁.setTop (mkF m 44 #[.val (.int p0), .val (.long q1), .second, .val (.long q2), .second, .val (.long q3), .second, .val (.long q4), .second, .val (.long q5), .second, .val (.long (1152921504606846975 : Int64)), .second, .val (.long l0), .second, .val (.long l1), .second, .val (.long l2), .second, .unset, .unset, .unset, .unset, .unset, .unset, .unset, .unset, .unset] [(.long (1152921504606846975 : Int64)), (.long q4), (.long (l2 + (1 : Int64)))])) t
    refine XS.land X0.here hx rfl (hb hby at_44) rfl ?_
    show Steps p.tables e below (s₁.setTop (mkF m 45 #[.val (.int p0), .val (.long q1), .second, .val (.long q2), .second, .val (.long q3), .second, .val (.long q4), .second, .val (.long q5), .second, .val (.long (1152921504606846975 : Int64)), .second, .val (.long l0), .second, .val (.long l1), .second, .val (.long l2), .second, .unset, .unset, .unset, .unset, .unset, .unset, .unset, .unset, .unset] [(.long (q4 &&& (1152921504606846975 : Int64))), (.long (l2 + (1 : Int64)))])) t
    refine XS.ladd X0.here hx rfl (hb hby at_45) rfl ?_
    show Steps p.tables e below (s₁.setTop (mkF m 46 #[.val (.int p0), .val (.long q1), .second, .val (.long q2), .second, .val (.long q3), .second, .val (.long q4), .second, .val (.long q5), .second, .val (.long (1152921504606846975 : Int64)), .second, .val (.long l0), .second, .val (.long l1), .second, .val (.long l2), .second, .unset, .unset, .unset, .unset, .unset, .unset, .unset, .unset, .unset] [(.long ((l2 + (1 : Int64)) + (q4 &&& (1152921504606846975 : Int64))))])) t
    exact kt
  obtain ⟨l3, hl3⟩ : ∃ z, z = ((l2 + (1 : Int64)) + (q4 &&& (1152921504606846975 : Int64))) := ⟨_, rfl⟩
  rw [← hl3]
  refine own_go (T' := s₁) (f' := (mkF m 62 #[.val (.int p0), .val (.long q1), .second, .val (.long q2), .second, .val (.long q3), .second, .val (.long q4), .second, .val (.long q5), .second, .val (.long (1152921504606846975 : Int64)), .second, .val (.long l0), .second, .val (.long l1), .second, .val (.long l2), .second, .val (.long l3), .second, .val (.int ((p0 &&& (7 : Int32)) % (5 : Int32))), .unset, .unset, .unset, .unset, .unset, .unset] [(.int (((p0.toUInt32 >>> ((4 : Int32) &&& 31).toUInt32).toInt32) &&& (15 : Int32)))])) (fun t kt => ?_) ?_
  · show Steps p.tables e below (s₁.setTop (mkF m 46 #[.val (.int p0), .val (.long q1), .second, .val (.long q2), .second, .val (.long q3), .second, .val (.long q4), .second, .val (.long q5), .second, .val (.long (1152921504606846975 : Int64)), .second, .val (.long l0), .second, .val (.long l1), .second, .val (.long l2), .second, .unset, .unset, .unset, .unset, .unset, .unset, .unset, .unset, .unset] [(.long l3)])) t
    refine XS.lstore X0.here hx rfl (hb hby at_46) rfl (l' := #[.val (.int p0), .val (.long q1), .second, .val (.long q2), .second, .val (.long q3), .second, .val (.long q4), .second, .val (.long q5), .second, .val (.long (1152921504606846975 : Int64)), .second, .val (.long l0), .second, .val (.long l1), .second, .val (.long l2), .second, .val (.long l3), .second, .unset, .unset, .unset, .unset, .unset, .unset, .unset]) rfl ?_
    show Steps p.tables e below (s₁.setTop (mkF m 48 #[.val (.int p0), .val (.long q1), .second, .val (.long q2), .second, .val (.long q3), .second, .val (.long q4), .second, .val (.long q5), .second, .val (.long (1152921504606846975 : Int64)), .second, .val (.long l0), .second, .val (.long l1), .second, .val (.long l2), .second, .val (.long l3), .second, .unset, .unset, .unset, .unset, .unset, .unset, .unset] [])) t
    refine XS.iloadN X0.here hx rfl (hb hby at_48) rfl ?_
    show Steps p.tables e below (s₁.setTop (mkF m 49 #[.val (.int p0), .val (.long q1), .second, .val (.long q2), .second, .val (.long q3), .second, .val (.long q4), .second, .val (.long q5), .second, .val (.long (1152921504606846975 : Int64)), .second, .val (.long l0), .second, .val (.long l1), .second, .val (.long l2), .second, .val (.long l3), .second, .unset, .unset, .unset, .unset, .unset, .unset, .unset] [(.int p0)])) t
    refine XS.bipush X0.here hx rfl (hb hby at_49) ?_
    show Steps p.tables e below (s₁.setTop (mkF m 51 #[.val (.int p0), .val (.long q1), .second, .val (.long q2), .second, .val (.long q3), .second, .val (.long q4), .second, .val (.long q5), .second, .val (.long (1152921504606846975 : Int64)), .second, .val (.long l0), .second, .val (.long l1), .second, .val (.long l2), .second, .val (.long l3), .second, .unset, .unset, .unset, .unset, .unset, .unset, .unset] [(.int (7 : Int32)), (.int p0)])) t
    refine XS.iand X0.here hx rfl (hb hby at_51) rfl ?_
    show Steps p.tables e below (s₁.setTop (mkF m 52 #[.val (.int p0), .val (.long q1), .second, .val (.long q2), .second, .val (.long q3), .second, .val (.long q4), .second, .val (.long q5), .second, .val (.long (1152921504606846975 : Int64)), .second, .val (.long l0), .second, .val (.long l1), .second, .val (.long l2), .second, .val (.long l3), .second, .unset, .unset, .unset, .unset, .unset, .unset, .unset] [(.int (p0 &&& (7 : Int32)))])) t
    refine XS.iconst X0.here hx rfl (hb hby at_52) ?_
    show Steps p.tables e below (s₁.setTop (mkF m 53 #[.val (.int p0), .val (.long q1), .second, .val (.long q2), .second, .val (.long q3), .second, .val (.long q4), .second, .val (.long q5), .second, .val (.long (1152921504606846975 : Int64)), .second, .val (.long l0), .second, .val (.long l1), .second, .val (.long l2), .second, .val (.long l3), .second, .unset, .unset, .unset, .unset, .unset, .unset, .unset] [(.int (5 : Int32)), (.int (p0 &&& (7 : Int32)))])) t
    refine iremM X0 hx rfl (hb hby at_53) rfl (by decide) ?_
    show Steps p.tables e below (s₁.setTop (mkF m 54 #[.val (.int p0), .val (.long q1), .second, .val (.long q2), .second, .val (.long q3), .second, .val (.long q4), .second, .val (.long q5), .second, .val (.long (1152921504606846975 : Int64)), .second, .val (.long l0), .second, .val (.long l1), .second, .val (.long l2), .second, .val (.long l3), .second, .unset, .unset, .unset, .unset, .unset, .unset, .unset] [(.int ((p0 &&& (7 : Int32)) % (5 : Int32)))])) t
    refine XS.istore X0.here hx rfl (hb hby at_54) rfl (l' := #[.val (.int p0), .val (.long q1), .second, .val (.long q2), .second, .val (.long q3), .second, .val (.long q4), .second, .val (.long q5), .second, .val (.long (1152921504606846975 : Int64)), .second, .val (.long l0), .second, .val (.long l1), .second, .val (.long l2), .second, .val (.long l3), .second, .val (.int ((p0 &&& (7 : Int32)) % (5 : Int32))), .unset, .unset, .unset, .unset, .unset, .unset]) rfl ?_
    show Steps p.tables e below (s₁.setTop (mkF m 56 #[.val (.int p0), .val (.long q1), .second, .val (.long q2), .second, .val (.long q3), .second, .val (.long q4), .second, .val (.long q5), .second, .val (.long (1152921504606846975 : Int64)), .second, .val (.long l0), .second, .val (.long l1), .second, .val (.long l2), .second, .val (.long l3), .second, .val (.int ((p0 &&& (7 : Int32)) % (5 : Int32))), .unset, .unset, .unset, .unset, .unset, .unset] [])) t
    refine XS.iloadN X0.here hx rfl (hb hby at_56) rfl ?_
    show Steps p.tables e below (s₁.setTop (mkF m 57 #[.val (.int p0), .val (.long q1), .second, .val (.long q2), .second, .val (.long q3), .second, .val (.long q4), .second, .val (.long q5), .second, .val (.long (1152921504606846975 : Int64)), .second, .val (.long l0), .second, .val (.long l1), .second, .val (.long l2), .second, .val (.long l3), .second, .val (.int ((p0 &&& (7 : Int32)) % (5 : Int32))), .unset, .unset, .unset, .unset, .unset, .unset] [(.int p0)])) t
    refine XS.iconst X0.here hx rfl (hb hby at_57) ?_
    show Steps p.tables e below (s₁.setTop (mkF m 58 #[.val (.int p0), .val (.long q1), .second, .val (.long q2), .second, .val (.long q3), .second, .val (.long q4), .second, .val (.long q5), .second, .val (.long (1152921504606846975 : Int64)), .second, .val (.long l0), .second, .val (.long l1), .second, .val (.long l2), .second, .val (.long l3), .second, .val (.int ((p0 &&& (7 : Int32)) % (5 : Int32))), .unset, .unset, .unset, .unset, .unset, .unset] [(.int (4 : Int32)), (.int p0)])) t
    refine XS.iushr X0.here hx rfl (hb hby at_58) rfl ?_
    show Steps p.tables e below (s₁.setTop (mkF m 59 #[.val (.int p0), .val (.long q1), .second, .val (.long q2), .second, .val (.long q3), .second, .val (.long q4), .second, .val (.long q5), .second, .val (.long (1152921504606846975 : Int64)), .second, .val (.long l0), .second, .val (.long l1), .second, .val (.long l2), .second, .val (.long l3), .second, .val (.int ((p0 &&& (7 : Int32)) % (5 : Int32))), .unset, .unset, .unset, .unset, .unset, .unset] [(.int ((p0.toUInt32 >>> ((4 : Int32) &&& 31).toUInt32).toInt32))])) t
    refine XS.bipush X0.here hx rfl (hb hby at_59) ?_
    show Steps p.tables e below (s₁.setTop (mkF m 61 #[.val (.int p0), .val (.long q1), .second, .val (.long q2), .second, .val (.long q3), .second, .val (.long q4), .second, .val (.long q5), .second, .val (.long (1152921504606846975 : Int64)), .second, .val (.long l0), .second, .val (.long l1), .second, .val (.long l2), .second, .val (.long l3), .second, .val (.int ((p0 &&& (7 : Int32)) % (5 : Int32))), .unset, .unset, .unset, .unset, .unset, .unset] [(.int (15 : Int32)), (.int ((p0.toUInt32 >>> ((4 : Int32) &&& 31).toUInt32).toInt32))])) t
    refine XS.iand X0.here hx rfl (hb hby at_61) rfl ?_
    show Steps p.tables e below (s₁.setTop (mkF m 62 #[.val (.int p0), .val (.long q1), .second, .val (.long q2), .second, .val (.long q3), .second, .val (.long q4), .second, .val (.long q5), .second, .val (.long (1152921504606846975 : Int64)), .second, .val (.long l0), .second, .val (.long l1), .second, .val (.long l2), .second, .val (.long l3), .second, .val (.int ((p0 &&& (7 : Int32)) % (5 : Int32))), .unset, .unset, .unset, .unset, .unset, .unset] [(.int (((p0.toUInt32 >>> ((4 : Int32) &&& 31).toUInt32).toInt32) &&& (15 : Int32)))])) t
    exact kt
  obtain ⟨mode, hmode⟩ : ∃ z, z = (((p0.toUInt32 >>> ((4 : Int32) &&& 31).toUInt32).toInt32) &&& (15 : Int32)) := ⟨_, rfl⟩
  rw [← hmode]
  refine own_go (T' := s₁) (f' := (mkF m 72 #[.val (.int p0), .val (.long q1), .second, .val (.long q2), .second, .val (.long q3), .second, .val (.long q4), .second, .val (.long q5), .second, .val (.long (1152921504606846975 : Int64)), .second, .val (.long l0), .second, .val (.long l1), .second, .val (.long l2), .second, .val (.long l3), .second, .val (.int ((p0 &&& (7 : Int32)) % (5 : Int32))), .val (.int mode), .val (.long q5), .second, .unset, .unset, .unset] [(.int (12 : Int32)), (.int mode)])) (fun t kt => ?_) ?_
  · show Steps p.tables e below (s₁.setTop (mkF m 62 #[.val (.int p0), .val (.long q1), .second, .val (.long q2), .second, .val (.long q3), .second, .val (.long q4), .second, .val (.long q5), .second, .val (.long (1152921504606846975 : Int64)), .second, .val (.long l0), .second, .val (.long l1), .second, .val (.long l2), .second, .val (.long l3), .second, .val (.int ((p0 &&& (7 : Int32)) % (5 : Int32))), .unset, .unset, .unset, .unset, .unset, .unset] [(.int mode)])) t
    refine XS.istore X0.here hx rfl (hb hby at_62) rfl (l' := #[.val (.int p0), .val (.long q1), .second, .val (.long q2), .second, .val (.long q3), .second, .val (.long q4), .second, .val (.long q5), .second, .val (.long (1152921504606846975 : Int64)), .second, .val (.long l0), .second, .val (.long l1), .second, .val (.long l2), .second, .val (.long l3), .second, .val (.int ((p0 &&& (7 : Int32)) % (5 : Int32))), .val (.int mode), .unset, .unset, .unset, .unset, .unset]) rfl ?_
    show Steps p.tables e below (s₁.setTop (mkF m 64 #[.val (.int p0), .val (.long q1), .second, .val (.long q2), .second, .val (.long q3), .second, .val (.long q4), .second, .val (.long q5), .second, .val (.long (1152921504606846975 : Int64)), .second, .val (.long l0), .second, .val (.long l1), .second, .val (.long l2), .second, .val (.long l3), .second, .val (.int ((p0 &&& (7 : Int32)) % (5 : Int32))), .val (.int mode), .unset, .unset, .unset, .unset, .unset] [])) t
    refine XS.lload X0.here hx rfl (hb hby at_64) rfl ?_
    show Steps p.tables e below (s₁.setTop (mkF m 66 #[.val (.int p0), .val (.long q1), .second, .val (.long q2), .second, .val (.long q3), .second, .val (.long q4), .second, .val (.long q5), .second, .val (.long (1152921504606846975 : Int64)), .second, .val (.long l0), .second, .val (.long l1), .second, .val (.long l2), .second, .val (.long l3), .second, .val (.int ((p0 &&& (7 : Int32)) % (5 : Int32))), .val (.int mode), .unset, .unset, .unset, .unset, .unset] [(.long q5)])) t
    refine XS.lstore X0.here hx rfl (hb hby at_66) rfl (l' := #[.val (.int p0), .val (.long q1), .second, .val (.long q2), .second, .val (.long q3), .second, .val (.long q4), .second, .val (.long q5), .second, .val (.long (1152921504606846975 : Int64)), .second, .val (.long l0), .second, .val (.long l1), .second, .val (.long l2), .second, .val (.long l3), .second, .val (.int ((p0 &&& (7 : Int32)) % (5 : Int32))), .val (.int mode), .val (.long q5), .second, .unset, .unset, .unset]) rfl ?_
    show Steps p.tables e below (s₁.setTop (mkF m 68 #[.val (.int p0), .val (.long q1), .second, .val (.long q2), .second, .val (.long q3), .second, .val (.long q4), .second, .val (.long q5), .second, .val (.long (1152921504606846975 : Int64)), .second, .val (.long l0), .second, .val (.long l1), .second, .val (.long l2), .second, .val (.long l3), .second, .val (.int ((p0 &&& (7 : Int32)) % (5 : Int32))), .val (.int mode), .val (.long q5), .second, .unset, .unset, .unset] [])) t
    refine XS.iload X0.here hx rfl (hb hby at_68) rfl ?_
    show Steps p.tables e below (s₁.setTop (mkF m 70 #[.val (.int p0), .val (.long q1), .second, .val (.long q2), .second, .val (.long q3), .second, .val (.long q4), .second, .val (.long q5), .second, .val (.long (1152921504606846975 : Int64)), .second, .val (.long l0), .second, .val (.long l1), .second, .val (.long l2), .second, .val (.long l3), .second, .val (.int ((p0 &&& (7 : Int32)) % (5 : Int32))), .val (.int mode), .val (.long q5), .second, .unset, .unset, .unset] [(.int mode)])) t
    refine XS.bipush X0.here hx rfl (hb hby at_70) ?_
    show Steps p.tables e below (s₁.setTop (mkF m 72 #[.val (.int p0), .val (.long q1), .second, .val (.long q2), .second, .val (.long q3), .second, .val (.long q4), .second, .val (.long q5), .second, .val (.long (1152921504606846975 : Int64)), .second, .val (.long l0), .second, .val (.long l1), .second, .val (.long l2), .second, .val (.long l3), .second, .val (.int ((p0 &&& (7 : Int32)) % (5 : Int32))), .val (.int mode), .val (.long q5), .second, .unset, .unset, .unset] [(.int (12 : Int32)), (.int mode)])) t
    exact kt
  by_cases hc72_1 : mode < (12 : Int32)
  · refine own_go (T' := s₁) (f' := (mkF m 79 #[.val (.int p0), .val (.long q1), .second, .val (.long q2), .second, .val (.long q3), .second, .val (.long q4), .second, .val (.long q5), .second, .val (.long (1152921504606846975 : Int64)), .second, .val (.long l0), .second, .val (.long l1), .second, .val (.long l2), .second, .val (.long l3), .second, .val (.int ((p0 &&& (7 : Int32)) % (5 : Int32))), .val (.int mode), .val (.long q5), .second, .unset, .unset, .unset] [(.int (mode / (3 : Int32)))])) (fun t kt => ?_) ?_
    · show Steps p.tables e below (s₁.setTop (mkF m 72 #[.val (.int p0), .val (.long q1), .second, .val (.long q2), .second, .val (.long q3), .second, .val (.long q4), .second, .val (.long q5), .second, .val (.long (1152921504606846975 : Int64)), .second, .val (.long l0), .second, .val (.long l1), .second, .val (.long l2), .second, .val (.long l3), .second, .val (.int ((p0 &&& (7 : Int32)) % (5 : Int32))), .val (.int mode), .val (.long q5), .second, .unset, .unset, .unset] [(.int (12 : Int32)), (.int mode)])) t
      refine XS.icmpNo X0.here hx rfl (hb hby at_72) rfl (tlt hc72_1).2.1 ?_
      show Steps p.tables e below (s₁.setTop (mkF m 75 #[.val (.int p0), .val (.long q1), .second, .val (.long q2), .second, .val (.long q3), .second, .val (.long q4), .second, .val (.long q5), .second, .val (.long (1152921504606846975 : Int64)), .second, .val (.long l0), .second, .val (.long l1), .second, .val (.long l2), .second, .val (.long l3), .second, .val (.int ((p0 &&& (7 : Int32)) % (5 : Int32))), .val (.int mode), .val (.long q5), .second, .unset, .unset, .unset] [])) t
      refine XS.iload X0.here hx rfl (hb hby at_75) rfl ?_
      show Steps p.tables e below (s₁.setTop (mkF m 77 #[.val (.int p0), .val (.long q1), .second, .val (.long q2), .second, .val (.long q3), .second, .val (.long q4), .second, .val (.long q5), .second, .val (.long (1152921504606846975 : Int64)), .second, .val (.long l0), .second, .val (.long l1), .second, .val (.long l2), .second, .val (.long l3), .second, .val (.int ((p0 &&& (7 : Int32)) % (5 : Int32))), .val (.int mode), .val (.long q5), .second, .unset, .unset, .unset] [(.int mode)])) t
      refine XS.iconst X0.here hx rfl (hb hby at_77) ?_
      show Steps p.tables e below (s₁.setTop (mkF m 78 #[.val (.int p0), .val (.long q1), .second, .val (.long q2), .second, .val (.long q3), .second, .val (.long q4), .second, .val (.long q5), .second, .val (.long (1152921504606846975 : Int64)), .second, .val (.long l0), .second, .val (.long l1), .second, .val (.long l2), .second, .val (.long l3), .second, .val (.int ((p0 &&& (7 : Int32)) % (5 : Int32))), .val (.int mode), .val (.long q5), .second, .unset, .unset, .unset] [(.int (3 : Int32)), (.int mode)])) t
      refine XS.idiv X0.here hx rfl (hb hby at_78) rfl (by decide) ?_
      show Steps p.tables e below (s₁.setTop (mkF m 79 #[.val (.int p0), .val (.long q1), .second, .val (.long q2), .second, .val (.long q3), .second, .val (.long q4), .second, .val (.long q5), .second, .val (.long (1152921504606846975 : Int64)), .second, .val (.long l0), .second, .val (.long l1), .second, .val (.long l2), .second, .val (.long l3), .second, .val (.int ((p0 &&& (7 : Int32)) % (5 : Int32))), .val (.int mode), .val (.long q5), .second, .unset, .unset, .unset] [(.int (mode / (3 : Int32)))])) t
      exact kt
    obtain ⟨sel, hsel⟩ : ∃ z, z = (mode / (3 : Int32)) := ⟨_, rfl⟩
    rw [← hsel]
    refine own_go (T' := s₁) (f' := (mkF m 83 #[.val (.int p0), .val (.long q1), .second, .val (.long q2), .second, .val (.long q3), .second, .val (.long q4), .second, .val (.long q5), .second, .val (.long (1152921504606846975 : Int64)), .second, .val (.long l0), .second, .val (.long l1), .second, .val (.long l2), .second, .val (.long l3), .second, .val (.int ((p0 &&& (7 : Int32)) % (5 : Int32))), .val (.int mode), .val (.long q5), .second, .val (.int sel), .unset, .unset] [(.int sel)])) (fun t kt => ?_) ?_
    · show Steps p.tables e below (s₁.setTop (mkF m 79 #[.val (.int p0), .val (.long q1), .second, .val (.long q2), .second, .val (.long q3), .second, .val (.long q4), .second, .val (.long q5), .second, .val (.long (1152921504606846975 : Int64)), .second, .val (.long l0), .second, .val (.long l1), .second, .val (.long l2), .second, .val (.long l3), .second, .val (.int ((p0 &&& (7 : Int32)) % (5 : Int32))), .val (.int mode), .val (.long q5), .second, .unset, .unset, .unset] [(.int sel)])) t
      refine XS.istore X0.here hx rfl (hb hby at_79) rfl (l' := #[.val (.int p0), .val (.long q1), .second, .val (.long q2), .second, .val (.long q3), .second, .val (.long q4), .second, .val (.long q5), .second, .val (.long (1152921504606846975 : Int64)), .second, .val (.long l0), .second, .val (.long l1), .second, .val (.long l2), .second, .val (.long l3), .second, .val (.int ((p0 &&& (7 : Int32)) % (5 : Int32))), .val (.int mode), .val (.long q5), .second, .val (.int sel), .unset, .unset]) rfl ?_
      show Steps p.tables e below (s₁.setTop (mkF m 81 #[.val (.int p0), .val (.long q1), .second, .val (.long q2), .second, .val (.long q3), .second, .val (.long q4), .second, .val (.long q5), .second, .val (.long (1152921504606846975 : Int64)), .second, .val (.long l0), .second, .val (.long l1), .second, .val (.long l2), .second, .val (.long l3), .second, .val (.int ((p0 &&& (7 : Int32)) % (5 : Int32))), .val (.int mode), .val (.long q5), .second, .val (.int sel), .unset, .unset] [])) t
      refine XS.iload X0.here hx rfl (hb hby at_81) rfl ?_
      show Steps p.tables e below (s₁.setTop (mkF m 83 #[.val (.int p0), .val (.long q1), .second, .val (.long q2), .second, .val (.long q3), .second, .val (.long q4), .second, .val (.long q5), .second, .val (.long (1152921504606846975 : Int64)), .second, .val (.long l0), .second, .val (.long l1), .second, .val (.long l2), .second, .val (.long l3), .second, .val (.int ((p0 &&& (7 : Int32)) % (5 : Int32))), .val (.int mode), .val (.long q5), .second, .val (.int sel), .unset, .unset] [(.int sel)])) t
      exact kt
    refine own_go (T' := s₁) (f' := (mkF m 115 #[.val (.int p0), .val (.long q1), .second, .val (.long q2), .second, .val (.long q3), .second, .val (.long q4), .second, .val (.long q5), .second, .val (.long (1152921504606846975 : Int64)), .second, .val (.long l0), .second, .val (.long l1), .second, .val (.long l2), .second, .val (.long l3), .second, .val (.int ((p0 &&& (7 : Int32)) % (5 : Int32))), .val (.int mode), .val (.long q5), .second, .val (.int sel), .unset, .unset] [(.long (own_pick sel l0 l1 l2 l3))])) (fun t kt => ?_) ?_
    · by_cases hc83_2 : sel = (0 : Int32)
      · show Steps p.tables e below (s₁.setTop (mkF m 83 #[.val (.int p0), .val (.long q1), .second, .val (.long q2), .second, .val (.long q3), .second, .val (.long q4), .second, .val (.long q5), .second, .val (.long (1152921504606846975 : Int64)), .second, .val (.long l0), .second, .val (.long l1), .second, .val (.long l2), .second, .val (.long l3), .second, .val (.int ((p0 &&& (7 : Int32)) % (5 : Int32))), .val (.int mode), .val (.long q5), .second, .val (.int sel), .unset, .unset] [(.int sel)])) t
        refine XS.ifNo X0.here hx rfl (hb hby at_83) rfl ((if0 _ _).trans (teq hc83_2).2) ?_
        show Steps p.tables e below (s₁.setTop (mkF m 86 #[.val (.int p0), .val (.long q1), .second, .val (.long q2), .second, .val (.long q3), .second, .val (.long q4), .second, .val (.long q5), .second, .val (.long (1152921504606846975 : Int64)), .second, .val (.long l0), .second, .val (.long l1), .second, .val (.long l2), .second, .val (.long l3), .second, .val (.int ((p0 &&& (7 : Int32)) % (5 : Int32))), .val (.int mode), .val (.long q5), .second, .val (.int sel), .unset, .unset] [])) t
        refine XS.lload X0.here hx rfl (hb hby at_86) rfl ?_
        show Steps p.tables e below (s₁.setTop (mkF m 88 #[.val (.int p0), .val (.long q1), .second, .val (.long q2), .second, .val (.long q3), .second, .val (.long q4), .second, .val (.long q5), .second, .val (.long (1152921504606846975 : Int64)), .second, .val (.long l0), .second, .val (.long l1), .second, .val (.long l2), .second, .val (.long l3), .second, .val (.int ((p0 &&& (7 : Int32)) % (5 : Int32))), .val (.int mode), .val (.long q5), .second, .val (.int sel), .unset, .unset] [(.long l0)])) t
        refine XS.goto X0.here hx rfl (pc0 := 88) (pc' := 115) rfl (hb hby at_88) (by decide) (by decide) ?_
        show Steps p.tables e below (s₁.setTop (mkF m 115 #[.val (.int p0), .val (.long q1), .second, .val (.long q2), .second, .val (.long q3), .second, .val (.long q4), .second, .val (.long q5), .second, .val (.long (1152921504606846975 : Int64)), .second, .val (.long l0), .second, .val (.long l1), .second, .val (.long l2), .second, .val (.long l3), .second, .val (.int ((p0 &&& (7 : Int32)) % (5 : Int32))), .val (.int mode), .val (.long q5), .second, .val (.int sel), .unset, .unset] [(.long l0)])) t
        rw [own_pick, if_pos hc83_2] at kt
        exact kt
      · show Steps p.tables e below (s₁.setTop (mkF m 83 #[.val (.int p0), .val (.long q1), .second, .val (.long q2), .second, .val (.long q3), .second, .val (.long q4), .second, .val (.long q5), .second, .val (.long (1152921504606846975 : Int64)), .second, .val (.long l0), .second, .val (.long l1), .second, .val (.long l2), .second, .val (.long l3), .second, .val (.int ((p0 &&& (7 : Int32)) % (5 : Int32))), .val (.int mode), .val (.long q5), .second, .val (.int sel), .unset, .unset] [(.int sel)])) t
        refine XS.ifYes X0.here hx rfl (pc0 := 83) (pc' := 91) rfl (hb hby at_83) rfl ((if0 _ _).trans (feq hc83_2).2) (by decide) (by decide) ?_
        show Steps p.tables e below (s₁.setTop (mkF m 91 #[.val (.int p0), .val (.long q1), .second, .val (.long q2), .second, .val (.long q3), .second, .val (.long q4), .second, .val (.long q5), .second, .val (.long (1152921504606846975 : Int64)), .second, .val (.long l0), .second, .val (.long l1), .second, .val (.long l2), .second, .val (.long l3), .second, .val (.int ((p0 &&& (7 : Int32)) % (5 : Int32))), .val (.int mode), .val (.long q5), .second, .val (.int sel), .unset, .unset] [])) t
        refine XS.iload X0.here hx rfl (hb hby at_91) rfl ?_
        show Steps p.tables e below (s₁.setTop (mkF m 93 #[.val (.int p0), .val (.long q1), .second, .val (.long q2), .second, .val (.long q3), .second, .val (.long q4), .second, .val (.long q5), .second, .val (.long (1152921504606846975 : Int64)), .second, .val (.long l0), .second, .val (.long l1), .second, .val (.long l2), .second, .val (.long l3), .second, .val (.int ((p0 &&& (7 : Int32)) % (5 : Int32))), .val (.int mode), .val (.long q5), .second, .val (.int sel), .unset, .unset] [(.int sel)])) t
        refine XS.iconst X0.here hx rfl (hb hby at_93) ?_
        show Steps p.tables e below (s₁.setTop (mkF m 94 #[.val (.int p0), .val (.long q1), .second, .val (.long q2), .second, .val (.long q3), .second, .val (.long q4), .second, .val (.long q5), .second, .val (.long (1152921504606846975 : Int64)), .second, .val (.long l0), .second, .val (.long l1), .second, .val (.long l2), .second, .val (.long l3), .second, .val (.int ((p0 &&& (7 : Int32)) % (5 : Int32))), .val (.int mode), .val (.long q5), .second, .val (.int sel), .unset, .unset] [(.int (1 : Int32)), (.int sel)])) t
        by_cases hc94_3 : sel = (1 : Int32)
        · show Steps p.tables e below (s₁.setTop (mkF m 94 #[.val (.int p0), .val (.long q1), .second, .val (.long q2), .second, .val (.long q3), .second, .val (.long q4), .second, .val (.long q5), .second, .val (.long (1152921504606846975 : Int64)), .second, .val (.long l0), .second, .val (.long l1), .second, .val (.long l2), .second, .val (.long l3), .second, .val (.int ((p0 &&& (7 : Int32)) % (5 : Int32))), .val (.int mode), .val (.long q5), .second, .val (.int sel), .unset, .unset] [(.int (1 : Int32)), (.int sel)])) t
          refine XS.icmpNo X0.here hx rfl (hb hby at_94) rfl (teq hc94_3).2 ?_
          show Steps p.tables e below (s₁.setTop (mkF m 97 #[.val (.int p0), .val (.long q1), .second, .val (.long q2), .second, .val (.long q3), .second, .val (.long q4), .second, .val (.long q5), .second, .val (.long (1152921504606846975 : Int64)), .second, .val (.long l0), .second, .val (.long l1), .second, .val (.long l2), .second, .val (.long l3), .second, .val (.int ((p0 &&& (7 : Int32)) % (5 : Int32))), .val (.int mode), .val (.long q5), .second, .val (.int sel), .unset, .unset] [])) t
          refine XS.lload X0.here hx rfl (hb hby at_97) rfl ?_
          show Steps p.tables e below (s₁.setTop (mkF m 99 #[.val (.int p0), .val (.long q1), .second, .val (.long q2), .second, .val (.long q3), .second, .val (.long q4), .second, .val (.long q5), .second, .val (.long (1152921504606846975 : Int64)), .second, .val (.long l0), .second, .val (.long l1), .second, .val (.long l2), .second, .val (.long l3), .second, .val (.int ((p0 &&& (7 : Int32)) % (5 : Int32))), .val (.int mode), .val (.long q5), .second, .val (.int sel), .unset, .unset] [(.long l1)])) t
          refine XS.goto X0.here hx rfl (pc0 := 99) (pc' := 115) rfl (hb hby at_99) (by decide) (by decide) ?_
          show Steps p.tables e below (s₁.setTop (mkF m 115 #[.val (.int p0), .val (.long q1), .second, .val (.long q2), .second, .val (.long q3), .second, .val (.long q4), .second, .val (.long q5), .second, .val (.long (1152921504606846975 : Int64)), .second, .val (.long l0), .second, .val (.long l1), .second, .val (.long l2), .second, .val (.long l3), .second, .val (.int ((p0 &&& (7 : Int32)) % (5 : Int32))), .val (.int mode), .val (.long q5), .second, .val (.int sel), .unset, .unset] [(.long l1)])) t
          rw [own_pick, if_neg hc83_2, if_pos hc94_3] at kt
          exact kt
        · show Steps p.tables e below (s₁.setTop (mkF m 94 #[.val (.int p0), .val (.long q1), .second, .val (.long q2), .second, .val (.long q3), .second, .val (.long q4), .second, .val (.long q5), .second, .val (.long (1152921504606846975 : Int64)), .second, .val (.long l0), .second, .val (.long l1), .second, .val (.long l2), .second, .val (.long l3), .second, .val (.int ((p0 &&& (7 : Int32)) % (5 : Int32))), .val (.int mode), .val (.long q5), .second, .val (.int sel), .unset, .unset] [(.int (1 : Int32)), (.int sel)])) t
          refine XS.icmpYes X0.here hx rfl (pc0 := 94) (pc' := 102) rfl (hb hby at_94) rfl (feq hc94_3).2 (by decide) (by decide) ?_
          show Steps p.tables e below (s₁.setTop (mkF m 102 #[.val (.int p0), .val (.long q1), .second, .val (.long q2), .second, .val (.long q3), .second, .val (.long q4), .second, .val (.long q5), .second, .val (.long (1152921504606846975 : Int64)), .second, .val (.long l0), .second, .val (.long l1), .second, .val (.long l2), .second, .val (.long l3), .second, .val (.int ((p0 &&& (7 : Int32)) % (5 : Int32))), .val (.int mode), .val (.long q5), .second, .val (.int sel), .unset, .unset] [])) t
          refine XS.iload X0.here hx rfl (hb hby at_102) rfl ?_
          show Steps p.tables e below (s₁.setTop (mkF m 104 #[.val (.int p0), .val (.long q1), .second, .val (.long q2), .second, .val (.long q3), .second, .val (.long q4), .second, .val (.long q5), .second, .val (.long (1152921504606846975 : Int64)), .second, .val (.long l0), .second, .val (.long l1), .second, .val (.long l2), .second, .val (.long l3), .second, .val (.int ((p0 &&& (7 : Int32)) % (5 : Int32))), .val (.int mode), .val (.long q5), .second, .val (.int sel), .unset, .unset] [(.int sel)])) t
          refine XS.iconst X0.here hx rfl (hb hby at_104) ?_
          show Steps p.tables e below (s₁.setTop (mkF m 105 #[.val (.int p0), .val (.long q1), .second, .val (.long q2), .second, .val (.long q3), .second, .val (.long q4), .second, .val (.long q5), .second, .val (.long (1152921504606846975 : Int64)), .second, .val (.long l0), .second, .val (.long l1), .second, .val (.long l2), .second, .val (.long l3), .second, .val (.int ((p0 &&& (7 : Int32)) % (5 : Int32))), .val (.int mode), .val (.long q5), .second, .val (.int sel), .unset, .unset] [(.int (2 : Int32)), (.int sel)])) t
          by_cases hc105_4 : sel = (2 : Int32)
          · show Steps p.tables e below (s₁.setTop (mkF m 105 #[.val (.int p0), .val (.long q1), .second, .val (.long q2), .second, .val (.long q3), .second, .val (.long q4), .second, .val (.long q5), .second, .val (.long (1152921504606846975 : Int64)), .second, .val (.long l0), .second, .val (.long l1), .second, .val (.long l2), .second, .val (.long l3), .second, .val (.int ((p0 &&& (7 : Int32)) % (5 : Int32))), .val (.int mode), .val (.long q5), .second, .val (.int sel), .unset, .unset] [(.int (2 : Int32)), (.int sel)])) t
            refine XS.icmpNo X0.here hx rfl (hb hby at_105) rfl (teq hc105_4).2 ?_
            show Steps p.tables e below (s₁.setTop (mkF m 108 #[.val (.int p0), .val (.long q1), .second, .val (.long q2), .second, .val (.long q3), .second, .val (.long q4), .second, .val (.long q5), .second, .val (.long (1152921504606846975 : Int64)), .second, .val (.long l0), .second, .val (.long l1), .second, .val (.long l2), .second, .val (.long l3), .second, .val (.int ((p0 &&& (7 : Int32)) % (5 : Int32))), .val (.int mode), .val (.long q5), .second, .val (.int sel), .unset, .unset] [])) t
            refine XS.lload X0.here hx rfl (hb hby at_108) rfl ?_
            show Steps p.tables e below (s₁.setTop (mkF m 110 #[.val (.int p0), .val (.long q1), .second, .val (.long q2), .second, .val (.long q3), .second, .val (.long q4), .second, .val (.long q5), .second, .val (.long (1152921504606846975 : Int64)), .second, .val (.long l0), .second, .val (.long l1), .second, .val (.long l2), .second, .val (.long l3), .second, .val (.int ((p0 &&& (7 : Int32)) % (5 : Int32))), .val (.int mode), .val (.long q5), .second, .val (.int sel), .unset, .unset] [(.long l2)])) t
            refine XS.goto X0.here hx rfl (pc0 := 110) (pc' := 115) rfl (hb hby at_110) (by decide) (by decide) ?_
            show Steps p.tables e below (s₁.setTop (mkF m 115 #[.val (.int p0), .val (.long q1), .second, .val (.long q2), .second, .val (.long q3), .second, .val (.long q4), .second, .val (.long q5), .second, .val (.long (1152921504606846975 : Int64)), .second, .val (.long l0), .second, .val (.long l1), .second, .val (.long l2), .second, .val (.long l3), .second, .val (.int ((p0 &&& (7 : Int32)) % (5 : Int32))), .val (.int mode), .val (.long q5), .second, .val (.int sel), .unset, .unset] [(.long l2)])) t
            rw [own_pick, if_neg hc83_2, if_neg hc94_3, if_pos hc105_4] at kt
            exact kt
          · show Steps p.tables e below (s₁.setTop (mkF m 105 #[.val (.int p0), .val (.long q1), .second, .val (.long q2), .second, .val (.long q3), .second, .val (.long q4), .second, .val (.long q5), .second, .val (.long (1152921504606846975 : Int64)), .second, .val (.long l0), .second, .val (.long l1), .second, .val (.long l2), .second, .val (.long l3), .second, .val (.int ((p0 &&& (7 : Int32)) % (5 : Int32))), .val (.int mode), .val (.long q5), .second, .val (.int sel), .unset, .unset] [(.int (2 : Int32)), (.int sel)])) t
            refine XS.icmpYes X0.here hx rfl (pc0 := 105) (pc' := 113) rfl (hb hby at_105) rfl (feq hc105_4).2 (by decide) (by decide) ?_
            show Steps p.tables e below (s₁.setTop (mkF m 113 #[.val (.int p0), .val (.long q1), .second, .val (.long q2), .second, .val (.long q3), .second, .val (.long q4), .second, .val (.long q5), .second, .val (.long (1152921504606846975 : Int64)), .second, .val (.long l0), .second, .val (.long l1), .second, .val (.long l2), .second, .val (.long l3), .second, .val (.int ((p0 &&& (7 : Int32)) % (5 : Int32))), .val (.int mode), .val (.long q5), .second, .val (.int sel), .unset, .unset] [])) t
            refine XS.lload X0.here hx rfl (hb hby at_113) rfl ?_
            show Steps p.tables e below (s₁.setTop (mkF m 115 #[.val (.int p0), .val (.long q1), .second, .val (.long q2), .second, .val (.long q3), .second, .val (.long q4), .second, .val (.long q5), .second, .val (.long (1152921504606846975 : Int64)), .second, .val (.long l0), .second, .val (.long l1), .second, .val (.long l2), .second, .val (.long l3), .second, .val (.int ((p0 &&& (7 : Int32)) % (5 : Int32))), .val (.int mode), .val (.long q5), .second, .val (.int sel), .unset, .unset] [(.long l3)])) t
            rw [own_pick, if_neg hc83_2, if_neg hc94_3, if_neg hc105_4] at kt
            exact kt
    obtain ⟨pk, hpk⟩ : ∃ z, z = (own_pick sel l0 l1 l2 l3) := ⟨_, rfl⟩
    rw [← hpk]
    refine own_go (T' := s₁) (f' := (mkF m 127 #[.val (.int p0), .val (.long q1), .second, .val (.long q2), .second, .val (.long q3), .second, .val (.long q4), .second, .val (.long q5), .second, .val (.long (1152921504606846975 : Int64)), .second, .val (.long l0), .second, .val (.long l1), .second, .val (.long l2), .second, .val (.long l3), .second, .val (.int ((p0 &&& (7 : Int32)) % (5 : Int32))), .val (.int mode), .val (.long q5), .second, .val (.int sel), .val (.long pk), .second] [(.long ((pk + ((mode % (3 : Int32)).toInt64)) - (1 : Int64)))])) (fun t kt => ?_) ?_
    · show Steps p.tables e below (s₁.setTop (mkF m 115 #[.val (.int p0), .val (.long q1), .second, .val (.long q2), .second, .val (.long q3), .second, .val (.long q4), .second, .val (.long q5), .second, .val (.long (1152921504606846975 : Int64)), .second, .val (.long l0), .second, .val (.long l1), .second, .val (.long l2), .second, .val (.long l3), .second, .val (.int ((p0 &&& (7 : Int32)) % (5 : Int32))), .val (.int mode), .val (.long q5), .second, .val (.int sel), .unset, .unset] [(.long pk)])) t
      refine XS.lstore X0.here hx rfl (hb hby at_115) rfl (l' := #[.val (.int p0), .val (.long q1), .second, .val (.long q2), .second, .val (.long q3), .second, .val (.long q4), .second, .val (.long q5), .second, .val (.long (1152921504606846975 : Int64)), .second, .val (.long l0), .second, .val (.long l1), .second, .val (.long l2), .second, .val (.long l3), .second, .val (.int ((p0 &&& (7 : Int32)) % (5 : Int32))), .val (.int mode), .val (.long q5), .second, .val (.int sel), .val (.long pk), .second]) rfl ?_
      show Steps p.tables e below (s₁.setTop (mkF m 117 #[.val (.int p0), .val (.long q1), .second, .val (.long q2), .second, .val (.long q3), .second, .val (.long q4), .second, .val (.long q5), .second, .val (.long (1152921504606846975 : Int64)), .second, .val (.long l0), .second, .val (.long l1), .second, .val (.long l2), .second, .val (.long l3), .second, .val (.int ((p0 &&& (7 : Int32)) % (5 : Int32))), .val (.int mode), .val (.long q5), .second, .val (.int sel), .val (.long pk), .second] [])) t
      refine XS.lload X0.here hx rfl (hb hby at_117) rfl ?_
      show Steps p.tables e below (s₁.setTop (mkF m 119 #[.val (.int p0), .val (.long q1), .second, .val (.long q2), .second, .val (.long q3), .second, .val (.long q4), .second, .val (.long q5), .second, .val (.long (1152921504606846975 : Int64)), .second, .val (.long l0), .second, .val (.long l1), .second, .val (.long l2), .second, .val (.long l3), .second, .val (.int ((p0 &&& (7 : Int32)) % (5 : Int32))), .val (.int mode), .val (.long q5), .second, .val (.int sel), .val (.long pk), .second] [(.long pk)])) t
      refine XS.iload X0.here hx rfl (hb hby at_119) rfl ?_
      show Steps p.tables e below (s₁.setTop (mkF m 121 #[.val (.int p0), .val (.long q1), .second, .val (.long q2), .second, .val (.long q3), .second, .val (.long q4), .second, .val (.long q5), .second, .val (.long (1152921504606846975 : Int64)), .second, .val (.long l0), .second, .val (.long l1), .second, .val (.long l2), .second, .val (.long l3), .second, .val (.int ((p0 &&& (7 : Int32)) % (5 : Int32))), .val (.int mode), .val (.long q5), .second, .val (.int sel), .val (.long pk), .second] [(.int mode), (.long pk)])) t
      refine XS.iconst X0.here hx rfl (hb hby at_121) ?_
      show Steps p.tables e below (s₁.setTop (mkF m 122 #[.val (.int p0), .val (.long q1), .second, .val (.long q2), .second, .val (.long q3), .second, .val (.long q4), .second, .val (.long q5), .second, .val (.long (1152921504606846975 : Int64)), .second, .val (.long l0), .second, .val (.long l1), .second, .val (.long l2), .second, .val (.long l3), .second, .val (.int ((p0 &&& (7 : Int32)) % (5 : Int32))), .val (.int mode), .val (.long q5), .second, .val (.int sel), .val (.long pk), .second] [(.int (3 : Int32)), (.int mode), (.long pk)])) t
      refine iremM X0 hx rfl (hb hby at_122) rfl (by decide) ?_
      show Steps p.tables e below (s₁.setTop (mkF m 123 #[.val (.int p0), .val (.long q1), .second, .val (.long q2), .second, .val (.long q3), .second, .val (.long q4), .second, .val (.long q5), .second, .val (.long (1152921504606846975 : Int64)), .second, .val (.long l0), .second, .val (.long l1), .second, .val (.long l2), .second, .val (.long l3), .second, .val (.int ((p0 &&& (7 : Int32)) % (5 : Int32))), .val (.int mode), .val (.long q5), .second, .val (.int sel), .val (.long pk), .second] [(.int (mode % (3 : Int32))), (.long pk)])) t
      refine XS.i2l X0.here hx rfl (hb hby at_123) rfl ?_
      show Steps p.tables e below (s₁.setTop (mkF m 124 #[.val (.int p0), .val (.long q1), .second, .val (.long q2), .second, .val (.long q3), .second, .val (.long q4), .second, .val (.long q5), .second, .val (.long (1152921504606846975 : Int64)), .second, .val (.long l0), .second, .val (.long l1), .second, .val (.long l2), .second, .val (.long l3), .second, .val (.int ((p0 &&& (7 : Int32)) % (5 : Int32))), .val (.int mode), .val (.long q5), .second, .val (.int sel), .val (.long pk), .second] [(.long ((mode % (3 : Int32)).toInt64)), (.long pk)])) t
      refine XS.ladd X0.here hx rfl (hb hby at_124) rfl ?_
      show Steps p.tables e below (s₁.setTop (mkF m 125 #[.val (.int p0), .val (.long q1), .second, .val (.long q2), .second, .val (.long q3), .second, .val (.long q4), .second, .val (.long q5), .second, .val (.long (1152921504606846975 : Int64)), .second, .val (.long l0), .second, .val (.long l1), .second, .val (.long l2), .second, .val (.long l3), .second, .val (.int ((p0 &&& (7 : Int32)) % (5 : Int32))), .val (.int mode), .val (.long q5), .second, .val (.int sel), .val (.long pk), .second] [(.long (pk + ((mode % (3 : Int32)).toInt64)))])) t
      refine XS.lconst X0.here hx rfl (hb hby at_125) ?_
      show Steps p.tables e below (s₁.setTop (mkF m 126 #[.val (.int p0), .val (.long q1), .second, .val (.long q2), .second, .val (.long q3), .second, .val (.long q4), .second, .val (.long q5), .second, .val (.long (1152921504606846975 : Int64)), .second, .val (.long l0), .second, .val (.long l1), .second, .val (.long l2), .second, .val (.long l3), .second, .val (.int ((p0 &&& (7 : Int32)) % (5 : Int32))), .val (.int mode), .val (.long q5), .second, .val (.int sel), .val (.long pk), .second] [(.long (1 : Int64)), (.long (pk + ((mode % (3 : Int32)).toInt64)))])) t
      refine XS.lsub X0.here hx rfl (hb hby at_126) rfl ?_
      show Steps p.tables e below (s₁.setTop (mkF m 127 #[.val (.int p0), .val (.long q1), .second, .val (.long q2), .second, .val (.long q3), .second, .val (.long q4), .second, .val (.long q5), .second, .val (.long (1152921504606846975 : Int64)), .second, .val (.long l0), .second, .val (.long l1), .second, .val (.long l2), .second, .val (.long l3), .second, .val (.int ((p0 &&& (7 : Int32)) % (5 : Int32))), .val (.int mode), .val (.long q5), .second, .val (.int sel), .val (.long pk), .second] [(.long ((pk + ((mode % (3 : Int32)).toInt64)) - (1 : Int64)))])) t
      exact kt
    obtain ⟨vv, hvv⟩ : ∃ z, z = ((pk + ((mode % (3 : Int32)).toInt64)) - (1 : Int64)) := ⟨_, rfl⟩
    rw [← hvv]
    refine own_go (T' := s₁) (f' := (mkF m 129 #[.val (.int p0), .val (.long q1), .second, .val (.long q2), .second, .val (.long q3), .second, .val (.long q4), .second, .val (.long q5), .second, .val (.long (1152921504606846975 : Int64)), .second, .val (.long l0), .second, .val (.long l1), .second, .val (.long l2), .second, .val (.long l3), .second, .val (.int ((p0 &&& (7 : Int32)) % (5 : Int32))), .val (.int mode), .val (.long vv), .second, .val (.int sel), .val (.long pk), .second] [])) (fun t kt => ?_) ?_
    · show Steps p.tables e below (s₁.setTop (mkF m 127 #[.val (.int p0), .val (.long q1), .second, .val (.long q2), .second, .val (.long q3), .second, .val (.long q4), .second, .val (.long q5), .second, .val (.long (1152921504606846975 : Int64)), .second, .val (.long l0), .second, .val (.long l1), .second, .val (.long l2), .second, .val (.long l3), .second, .val (.int ((p0 &&& (7 : Int32)) % (5 : Int32))), .val (.int mode), .val (.long q5), .second, .val (.int sel), .val (.long pk), .second] [(.long vv)])) t
      refine XS.lstore X0.here hx rfl (hb hby at_127) rfl (l' := #[.val (.int p0), .val (.long q1), .second, .val (.long q2), .second, .val (.long q3), .second, .val (.long q4), .second, .val (.long q5), .second, .val (.long (1152921504606846975 : Int64)), .second, .val (.long l0), .second, .val (.long l1), .second, .val (.long l2), .second, .val (.long l3), .second, .val (.int ((p0 &&& (7 : Int32)) % (5 : Int32))), .val (.int mode), .val (.long vv), .second, .val (.int sel), .val (.long pk), .second]) rfl ?_
      show Steps p.tables e below (s₁.setTop (mkF m 129 #[.val (.int p0), .val (.long q1), .second, .val (.long q2), .second, .val (.long q3), .second, .val (.long q4), .second, .val (.long q5), .second, .val (.long (1152921504606846975 : Int64)), .second, .val (.long l0), .second, .val (.long l1), .second, .val (.long l2), .second, .val (.long l3), .second, .val (.int ((p0 &&& (7 : Int32)) % (5 : Int32))), .val (.int mode), .val (.long vv), .second, .val (.int sel), .val (.long pk), .second] [])) t
      exact kt
    obtain ⟨T5, h5, X5, e5, E5, A5, D5, U5, st5⟩ := newO X0 hx hZ hown (hw _ (List.mem_of_getElem? (i := 1) rfl)) (hw _ (List.mem_of_getElem? (i := 2) rfl)) (hw _ (List.mem_of_getElem? (i := 3) rfl)) e0 (g := (mkF m 129 #[.val (.int p0), .val (.long q1), .second, .val (.long q2), .second, .val (.long q3), .second, .val (.long q4), .second, .val (.long q5), .second, .val (.long (1152921504606846975 : Int64)), .second, .val (.long l0), .second, .val (.long l1), .second, .val (.long l2), .second, .val (.long l3), .second, .val (.int ((p0 &&& (7 : Int32)) % (5 : Int32))), .val (.int mode), .val (.long vv), .second, .val (.int sel), .val (.long pk), .second] [])) rfl (hb hby at_129) (by decide) (by decide)
    obtain ⟨b5, y5⟩ : ∃ z, z = h0.size := ⟨_, rfl⟩
    rw [← y5] at A5 D5 U5 st5
    have g_b5 : n0 ≤ b5 := Nat.le_trans Z0 (Nat.le_of_eq y5.symm)
    have sz_b5 : h0.size ≤ b5 := Nat.le_trans K0.1 (Nat.le_of_eq y5.symm)
    have ZE5 : n0 ≤ h5.size := Nat.le_trans Z0 E5.1
    have KKE5 := K0.ext E5
    have kzE5 := Nat.le_trans (Nat.zero_le _) E5.1
    refine own_go st5 ?_
    have K_b5 := own_K_new U5
    refine own_go (T' := T5) (f' := (mkF m 135 #[.val (.int p0), .val (.long q1), .second, .val (.long q2), .second, .val (.long q3), .second, .val (.long q4), .second, .val (.long q5), .second, .val (.long (1152921504606846975 : Int64)), .second, .val (.long l0), .second, .val (.long l1), .second, .val (.long l2), .second, .val (.long l3), .second, .val (.int ((p0 &&& (7 : Int32)) % (5 : Int32))), .val (.int mode), .val (.long vv), .second, .val (.int sel), .val (.long pk), .second] [(.int (0 : Int32)), (.long (0 : Int64)), (.ref b5), (.ref b5)])) (fun t kt => ?_) ?_
    · show Steps p.tables e below (T5.setTop (mkF m 132 #[.val (.int p0), .val (.long q1), .second, .val (.long q2), .second, .val (.long q3), .second, .val (.long q4), .second, .val (.long q5), .second, .val (.long (1152921504606846975 : Int64)), .second, .val (.long l0), .second, .val (.long l1), .second, .val (.long l2), .second, .val (.long l3), .second, .val (.int ((p0 &&& (7 : Int32)) % (5 : Int32))), .val (.int mode), .val (.long vv), .second, .val (.int sel), .val (.long pk), .second] [(.ref b5)])) t
      refine XS.dup X5.here hx rfl (hb hby at_132) rfl rfl ?_
      show Steps p.tables e below (T5.setTop (mkF m 133 #[.val (.int p0), .val (.long q1), .second, .val (.long q2), .second, .val (.long q3), .second, .val (.long q4), .second, .val (.long q5), .second, .val (.long (1152921504606846975 : Int64)), .second, .val (.long l0), .second, .val (.long l1), .second, .val (.long l2), .second, .val (.long l3), .second, .val (.int ((p0 &&& (7 : Int32)) % (5 : Int32))), .val (.int mode), .val (.long vv), .second, .val (.int sel), .val (.long pk), .second] [(.ref b5), (.ref b5)])) t
      refine XS.lconst X5.here hx rfl (hb hby at_133) ?_
      show Steps p.tables e below (T5.setTop (mkF m 134 #[.val (.int p0), .val (.long q1), .second, .val (.long q2), .second, .val (.long q3), .second, .val (.long q4), .second, .val (.long q5), .second, .val (.long (1152921504606846975 : Int64)), .second, .val (.long l0), .second, .val (.long l1), .second, .val (.long l2), .second, .val (.long l3), .second, .val (.int ((p0 &&& (7 : Int32)) % (5 : Int32))), .val (.int mode), .val (.long vv), .second, .val (.int sel), .val (.long pk), .second] [(.long (0 : Int64)), (.ref b5), (.ref b5)])) t
      refine XS.iconst X5.here hx rfl (hb hby at_134) ?_
      show Steps p.tables e below (T5.setTop (mkF m 135 #[.val (.int p0), .val (.long q1), .second, .val (.long q2), .second, .val (.long q3), .second, .val (.long q4), .second, .val (.long q5), .second, .val (.long (1152921504606846975 : Int64)), .second, .val (.long l0), .second, .val (.long l1), .second, .val (.long l2), .second, .val (.long l3), .second, .val (.int ((p0 &&& (7 : Int32)) % (5 : Int32))), .val (.int mode), .val (.long vv), .second, .val (.int sel), .val (.long pk), .second] [(.int (0 : Int32)), (.long (0 : Int64)), (.ref b5), (.ref b5)])) t
      exact kt
    obtain ⟨T6, h6, k6, X6, e6, E6, A6, C6, st6⟩ := newPE X5 hx hZ (hw _ (List.mem_of_getElem? (i := 4) rfl)) e5 (g := (mkF m 135 #[.val (.int p0), .val (.long q1), .second, .val (.long q2), .second, .val (.long q3), .second, .val (.long q4), .second, .val (.long q5), .second, .val (.long (1152921504606846975 : Int64)), .second, .val (.long l0), .second, .val (.long l1), .second, .val (.long l2), .second, .val (.long l3), .second, .val (.int ((p0 &&& (7 : Int32)) % (5 : Int32))), .val (.int mode), .val (.long vv), .second, .val (.int sel), .val (.long pk), .second] [(.int (0 : Int32)), (.long (0 : Int64)), (.ref b5), (.ref b5)])) rfl (hb hby at_135) rfl (by decide) (cap := 0) (by decide) (by decide) (by decide) (by decide) (ad := "[J") (by decide)
    obtain ⟨b6, y6⟩ : ∃ z, z = h5.size := ⟨_, rfl⟩
    rw [← y6] at A6 C6 st6
    have ne_b5_b6 : b5 ≠ b6 := Nat.ne_of_lt (Nat.lt_of_lt_of_le A5.lt (Nat.le_of_eq y6.symm))
    have ne_b6_b5 := ne_b5_b6.symm
    have g_b6 : n0 ≤ b6 := Nat.le_trans ZE5 (Nat.le_of_eq y6.symm)
    have sz_b6 : h0.size ≤ b6 := Nat.le_trans KKE5.1 (Nat.le_of_eq y6.symm)
    replace A5 := (A5.ext E6)
    replace K_b5 := own_K_ext K_b5 E6
    have ZE6 : n0 ≤ h6.size := Nat.le_trans ZE5 E6.1
    have KKE6 := KKE5.ext E6
    have kzE6 := Nat.le_trans kzE5 E6.1
    refine own_go st6 ?_
    have Ar_b6 : own_AJ Z h6 b6 0 (fun _ => (0 : Int64)) := own_A_new A6 (by decide)
    refine own_go (T' := T6) (f' := (mkF m 138 #[.val (.int p0), .val (.long q1), .second, .val (.long q2), .second, .val (.long q3), .second, .val (.long q4), .second, .val (.long q5), .second, .val (.long (1152921504606846975 : Int64)), .second, .val (.long l0), .second, .val (.long l1), .second, .val (.long l2), .second, .val (.long l3), .second, .val (.int ((p0 &&& (7 : Int32)) % (5 : Int32))), .val (.int mode), .val (.long vv), .second, .val (.int sel), .val (.long pk), .second] [(.int (0 : Int32)), (.ref b6), (.long (0 : Int64)), (.ref b5), (.ref b5)])) (fun t kt => ?_) ?_
    · show Steps p.tables e below (T6.setTop (mkF m 137 #[.val (.int p0), .val (.long q1), .second, .val (.long q2), .second, .val (.long q3), .second, .val (.long q4), .second, .val (.long q5), .second, .val (.long (1152921504606846975 : Int64)), .second, .val (.long l0), .second, .val (.long l1), .second, .val (.long l2), .second, .val (.long l3), .second, .val (.int ((p0 &&& (7 : Int32)) % (5 : Int32))), .val (.int mode), .val (.long vv), .second, .val (.int sel), .val (.long pk), .second] [(.ref b6), (.long (0 : Int64)), (.ref b5), (.ref b5)])) t
      refine XS.iconst X6.here hx rfl (hb hby at_137) ?_
      show Steps p.tables e below (T6.setTop (mkF m 138 #[.val (.int p0), .val (.long q1), .second, .val (.long q2), .second, .val (.long q3), .second, .val (.long q4), .second, .val (.long q5), .second, .val (.long (1152921504606846975 : Int64)), .second, .val (.long l0), .second, .val (.long l1), .second, .val (.long l2), .second, .val (.long l3), .second, .val (.int ((p0 &&& (7 : Int32)) % (5 : Int32))), .val (.int mode), .val (.long vv), .second, .val (.int sel), .val (.long pk), .second] [(.int (0 : Int32)), (.ref b6), (.long (0 : Int64)), (.ref b5), (.ref b5)])) t
      exact kt
    obtain ⟨T7, h7, k7, X7, e7, E7, A7, C7, st7⟩ := newPE X6 hx hZ (hw _ (List.mem_of_getElem? (i := 4) rfl)) e6 (g := (mkF m 138 #[.val (.int p0), .val (.long q1), .second, .val (.long q2), .second, .val (.long q3), .second, .val (.long q4), .second, .val (.long q5), .second, .val (.long (1152921504606846975 : Int64)), .second, .val (.long l0), .second, .val (.long l1), .second, .val (.long l2), .second, .val (.long l3), .second, .val (.int ((p0 &&& (7 : Int32)) % (5 : Int32))), .val (.int mode), .val (.long vv), .second, .val (.int sel), .val (.long pk), .second] [(.int (0 : Int32)), (.ref b6), (.long (0 : Int64)), (.ref b5), (.ref b5)])) rfl (hb hby at_138) rfl (by decide) (cap := 0) (by decide) (by decide) (by decide) (by decide) (ad := "[J") (by decide)
    obtain ⟨b7, y7⟩ : ∃ z, z = h6.size := ⟨_, rfl⟩
    rw [← y7] at A7 C7 st7
    have ne_b5_b7 : b5 ≠ b7 := Nat.ne_of_lt (Nat.lt_of_lt_of_le A5.lt (Nat.le_of_eq y7.symm))
    have ne_b7_b5 := ne_b5_b7.symm
    have ne_b6_b7 : b6 ≠ b7 := Nat.ne_of_lt (Nat.lt_of_lt_of_le C6.lt (Nat.le_of_eq y7.symm))
    have ne_b7_b6 := ne_b6_b7.symm
    have g_b7 : n0 ≤ b7 := Nat.le_trans ZE6 (Nat.le_of_eq y7.symm)
    have sz_b7 : h0.size ≤ b7 := Nat.le_trans KKE6.1 (Nat.le_of_eq y7.symm)
    replace A5 := (A5.ext E7)
    replace C6 := (C6.ext E7)
    replace Ar_b6 := (Ar_b6.ext E7)
    replace K_b5 := own_K_ext K_b5 E7
    have ZE7 : n0 ≤ h7.size := Nat.le_trans ZE6 E7.1
    have KKE7 := KKE6.ext E7
    have kzE7 := Nat.le_trans kzE6 E7.1
    refine own_go st7 ?_
    have Ar_b7 : own_AJ Z h7 b7 0 (fun _ => (0 : Int64)) := own_A_new A7 (by decide)
    refine own_go (T' := T7) (f' := (mkF m 141 #[.val (.int p0), .val (.long q1), .second, .val (.long q2), .second, .val (.long q3), .second, .val (.long q4), .second, .val (.long q5), .second, .val (.long (1152921504606846975 : Int64)), .second, .val (.long l0), .second, .val (.long l1), .second, .val (.long l2), .second, .val (.long l3), .second, .val (.int ((p0 &&& (7 : Int32)) % (5 : Int32))), .val (.int mode), .val (.long vv), .second, .val (.int sel), .val (.long pk), .second] [(.int (0 : Int32)), (.ref b7), (.ref b6), (.long (0 : Int64)), (.ref b5), (.ref b5)])) (fun t kt => ?_) ?_
    · show Steps p.tables e below (T7.setTop (mkF m 140 #[.val (.int p0), .val (.long q1), .second, .val (.long q2), .second, .val (.long q3), .second, .val (.long q4), .second, .val (.long q5), .second, .val (.long (1152921504606846975 : Int64)), .second, .val (.long l0), .second, .val (.long l1), .second, .val (.long l2), .second, .val (.long l3), .second, .val (.int ((p0 &&& (7 : Int32)) % (5 : Int32))), .val (.int mode), .val (.long vv), .second, .val (.int sel), .val (.long pk), .second] [(.ref b7), (.ref b6), (.long (0 : Int64)), (.ref b5), (.ref b5)])) t
      refine XS.iconst X7.here hx rfl (hb hby at_140) ?_
      show Steps p.tables e below (T7.setTop (mkF m 141 #[.val (.int p0), .val (.long q1), .second, .val (.long q2), .second, .val (.long q3), .second, .val (.long q4), .second, .val (.long q5), .second, .val (.long (1152921504606846975 : Int64)), .second, .val (.long l0), .second, .val (.long l1), .second, .val (.long l2), .second, .val (.long l3), .second, .val (.int ((p0 &&& (7 : Int32)) % (5 : Int32))), .val (.int mode), .val (.long vv), .second, .val (.int sel), .val (.long pk), .second] [(.int (0 : Int32)), (.ref b7), (.ref b6), (.long (0 : Int64)), (.ref b5), (.ref b5)])) t
      exact kt
    obtain ⟨T8, h8, k8, X8, e8, E8, A8, C8, st8⟩ := newPE X7 hx hZ (hw _ (List.mem_of_getElem? (i := 4) rfl)) e7 (g := (mkF m 141 #[.val (.int p0), .val (.long q1), .second, .val (.long q2), .second, .val (.long q3), .second, .val (.long q4), .second, .val (.long q5), .second, .val (.long (1152921504606846975 : Int64)), .second, .val (.long l0), .second, .val (.long l1), .second, .val (.long l2), .second, .val (.long l3), .second, .val (.int ((p0 &&& (7 : Int32)) % (5 : Int32))), .val (.int mode), .val (.long vv), .second, .val (.int sel), .val (.long pk), .second] [(.int (0 : Int32)), (.ref b7), (.ref b6), (.long (0 : Int64)), (.ref b5), (.ref b5)])) rfl (hb hby at_141) rfl (by decide) (cap := 0) (by decide) (by decide) (by decide) (by decide) (ad := "[J") (by decide)
    obtain ⟨b8, y8⟩ : ∃ z, z = h7.size := ⟨_, rfl⟩
    rw [← y8] at A8 C8 st8
    have ne_b5_b8 : b5 ≠ b8 := Nat.ne_of_lt (Nat.lt_of_lt_of_le A5.lt (Nat.le_of_eq y8.symm))
    have ne_b8_b5 := ne_b5_b8.symm
    have ne_b6_b8 : b6 ≠ b8 := Nat.ne_of_lt (Nat.lt_of_lt_of_le C6.lt (Nat.le_of_eq y8.symm))
    have ne_b8_b6 := ne_b6_b8.symm
    have ne_b7_b8 : b7 ≠ b8 := Nat.ne_of_lt (Nat.lt_of_lt_of_le C7.lt (Nat.le_of_eq y8.symm))
    have ne_b8_b7 := ne_b7_b8.symm
    have g_b8 : n0 ≤ b8 := Nat.le_trans ZE7 (Nat.le_of_eq y8.symm)
    have sz_b8 : h0.size ≤ b8 := Nat.le_trans KKE7.1 (Nat.le_of_eq y8.symm)
    replace A5 := (A5.ext E8)
    replace C6 := (C6.ext E8)
    replace Ar_b6 := (Ar_b6.ext E8)
    replace C7 := (C7.ext E8)
    replace Ar_b7 := (Ar_b7.ext E8)
    replace K_b5 := own_K_ext K_b5 E8
    have ZE8 : n0 ≤ h8.size := Nat.le_trans ZE7 E8.1
    have KKE8 := KKE7.ext E8
    have kzE8 := Nat.le_trans kzE7 E8.1
    refine own_go st8 ?_
    have Ar_b8 : own_AJ Z h8 b8 0 (fun _ => (0 : Int64)) := own_A_new A8 (by decide)
    refine own_go (T' := T8) (f' := (mkF m 144 #[.val (.int p0), .val (.long q1), .second, .val (.long q2), .second, .val (.long q3), .second, .val (.long q4), .second, .val (.long q5), .second, .val (.long (1152921504606846975 : Int64)), .second, .val (.long l0), .second, .val (.long l1), .second, .val (.long l2), .second, .val (.long l3), .second, .val (.int ((p0 &&& (7 : Int32)) % (5 : Int32))), .val (.int mode), .val (.long vv), .second, .val (.int sel), .val (.long pk), .second] [(.int (0 : Int32)), (.ref b8), (.ref b7), (.ref b6), (.long (0 : Int64)), (.ref b5), (.ref b5)])) (fun t kt => ?_) ?_
    · show Steps p.tables e below (T8.setTop (mkF m 143 #[.val (.int p0), .val (.long q1), .second, .val (.long q2), .second, .val (.long q3), .second, .val (.long q4), .second, .val (.long q5), .second, .val (.long (1152921504606846975 : Int64)), .second, .val (.long l0), .second, .val (.long l1), .second, .val (.long l2), .second, .val (.long l3), .second, .val (.int ((p0 &&& (7 : Int32)) % (5 : Int32))), .val (.int mode), .val (.long vv), .second, .val (.int sel), .val (.long pk), .second] [(.ref b8), (.ref b7), (.ref b6), (.long (0 : Int64)), (.ref b5), (.ref b5)])) t
      refine XS.iconst X8.here hx rfl (hb hby at_143) ?_
      show Steps p.tables e below (T8.setTop (mkF m 144 #[.val (.int p0), .val (.long q1), .second, .val (.long q2), .second, .val (.long q3), .second, .val (.long q4), .second, .val (.long q5), .second, .val (.long (1152921504606846975 : Int64)), .second, .val (.long l0), .second, .val (.long l1), .second, .val (.long l2), .second, .val (.long l3), .second, .val (.int ((p0 &&& (7 : Int32)) % (5 : Int32))), .val (.int mode), .val (.long vv), .second, .val (.int sel), .val (.long pk), .second] [(.int (0 : Int32)), (.ref b8), (.ref b7), (.ref b6), (.long (0 : Int64)), (.ref b5), (.ref b5)])) t
      exact kt
    obtain ⟨T9, h9, k9, X9, e9, E9, A9, C9, st9⟩ := newPE X8 hx hZ (hw _ (List.mem_of_getElem? (i := 4) rfl)) e8 (g := (mkF m 144 #[.val (.int p0), .val (.long q1), .second, .val (.long q2), .second, .val (.long q3), .second, .val (.long q4), .second, .val (.long q5), .second, .val (.long (1152921504606846975 : Int64)), .second, .val (.long l0), .second, .val (.long l1), .second, .val (.long l2), .second, .val (.long l3), .second, .val (.int ((p0 &&& (7 : Int32)) % (5 : Int32))), .val (.int mode), .val (.long vv), .second, .val (.int sel), .val (.long pk), .second] [(.int (0 : Int32)), (.ref b8), (.ref b7), (.ref b6), (.long (0 : Int64)), (.ref b5), (.ref b5)])) rfl (hb hby at_144) rfl (by decide) (cap := 0) (by decide) (by decide) (by decide) (by decide) (ad := "[J") (by decide)
    obtain ⟨b9, y9⟩ : ∃ z, z = h8.size := ⟨_, rfl⟩
    rw [← y9] at A9 C9 st9
    have ne_b5_b9 : b5 ≠ b9 := Nat.ne_of_lt (Nat.lt_of_lt_of_le A5.lt (Nat.le_of_eq y9.symm))
    have ne_b9_b5 := ne_b5_b9.symm
    have ne_b6_b9 : b6 ≠ b9 := Nat.ne_of_lt (Nat.lt_of_lt_of_le C6.lt (Nat.le_of_eq y9.symm))
    have ne_b9_b6 := ne_b6_b9.symm
    have ne_b7_b9 : b7 ≠ b9 := Nat.ne_of_lt (Nat.lt_of_lt_of_le C7.lt (Nat.le_of_eq y9.symm))
    have ne_b9_b7 := ne_b7_b9.symm
    have ne_b8_b9 : b8 ≠ b9 := Nat.ne_of_lt (Nat.lt_of_lt_of_le C8.lt (Nat.le_of_eq y9.symm))
    have ne_b9_b8 := ne_b8_b9.symm
    have g_b9 : n0 ≤ b9 := Nat.le_trans ZE8 (Nat.le_of_eq y9.symm)
    have sz_b9 : h0.size ≤ b9 := Nat.le_trans KKE8.1 (Nat.le_of_eq y9.symm)
    replace A5 := (A5.ext E9)
    replace C6 := (C6.ext E9)
    replace Ar_b6 := (Ar_b6.ext E9)
    replace C7 := (C7.ext E9)
    replace Ar_b7 := (Ar_b7.ext E9)
    replace C8 := (C8.ext E9)
    replace Ar_b8 := (Ar_b8.ext E9)
    replace K_b5 := own_K_ext K_b5 E9
    have ZE9 : n0 ≤ h9.size := Nat.le_trans ZE8 E9.1
    have KKE9 := KKE8.ext E9
    have kzE9 := Nat.le_trans kzE8 E9.1
    refine own_go st9 ?_
    have Ar_b9 : own_AJ Z h9 b9 0 (fun _ => (0 : Int64)) := own_A_new A9 (by decide)
    have lt10_b5 := A5.lt
    have lt10_b6 := C6.lt
    have lt10_b7 := C7.lt
    have lt10_b8 := C8.lt
    have lt10_b9 := C9.lt
    refine own_callCW X9 hx hZ hown e9 hS kzE9 rfl (hw _ (List.mem_of_getElem? (i := 5) rfl)) (hw _ (List.mem_of_getElem? (i := 6) rfl)) (hw _ (List.mem_of_getElem? (i := 3) rfl)) (hw _ (List.mem_of_getElem? (i := 7) rfl)) (by decide) (rm1 l Z aw hw b5 (0 : Int64) b6 b7 b8 b9 h9 n0 ZE9 A5 K_b5 g_b5 Ar_b6 C6 (ne_b6_b5) Ar_b7 C7 (ne_b7_b5) Ar_b8 C8 (ne_b8_b5) Ar_b9 C9 (ne_b9_b5) (by decide) (by decide)) (g := (mkF m 146 #[.val (.int p0), .val (.long q1), .second, .val (.long q2), .second, .val (.long q3), .second, .val (.long q4), .second, .val (.long q5), .second, .val (.long (1152921504606846975 : Int64)), .second, .val (.long l0), .second, .val (.long l1), .second, .val (.long l2), .second, .val (.long l3), .second, .val (.int ((p0 &&& (7 : Int32)) % (5 : Int32))), .val (.int mode), .val (.long vv), .second, .val (.int sel), .val (.long pk), .second] [(.ref b9), (.ref b8), (.ref b7), (.ref b6), (.long (0 : Int64)), (.ref b5), (.ref b5)])) rfl (by rw [hml]; rfl) (argsL := [(.long (0 : Int64)), (.ref b6), (.ref b7), (.ref b8), (.ref b9)]) (rest := [(.ref b5)]) (lenOf pd_2 rfl) rfl rfl (W := 1) (by show 2 * 0 + _ ≤ _; exact Nat.le_of_eq rfl) (hb hby at_146) (by decide) (by decide) (by decide) (by decide) ?_
    rintro _ T10 L10 X10 hZ hown hS ⟨rfl, Nq10, Kq10, Pq10_0, Pq10_1⟩
    have N10 := Fr.app N0 Nq10
    replace A5 := (A5.keep Kq10)
    replace C6 := (C6.keep Kq10)
    replace Ar_b6 := (Ar_b6.keep Kq10 (ninS (ne_b6_b5) nin0))
    replace C7 := (C7.keep Kq10)
    replace Ar_b7 := (Ar_b7.keep Kq10 (ninS (ne_b7_b5) nin0))
    replace C8 := (C8.keep Kq10)
    replace Ar_b8 := (Ar_b8.keep Kq10 (ninS (ne_b8_b5) nin0))
    replace C9 := (C9.keep Kq10)
    replace Ar_b9 := (Ar_b9.keep Kq10 (ninS (ne_b9_b5) nin0))
    replace K_b5 := own_K_keep K_b5 Kq10
    have ZKq10 : n0 ≤ T10.heap.size := Nat.le_trans ZE9 Kq10.1
    have KKKq10 := KKE9.trans Kq10 ((allS (Or.inr sz_b5) all0))
    have kzKq10 := Nat.le_trans kzE9 Kq10.1
    obtain ⟨r10, g_r10, z_r10, F_r10, Ar_r10⟩ := Pq10_1
    have ne_b5_r10 : b5 ≠ r10 := Nat.ne_of_lt (Nat.lt_of_lt_of_le lt10_b5 z_r10)
    have ne_r10_b5 := ne_b5_r10.symm
    have ne_b6_r10 : b6 ≠ r10 := Nat.ne_of_lt (Nat.lt_of_lt_of_le lt10_b6 z_r10)
    have ne_r10_b6 := ne_b6_r10.symm
    have ne_b7_r10 : b7 ≠ r10 := Nat.ne_of_lt (Nat.lt_of_lt_of_le lt10_b7 z_r10)
    have ne_r10_b7 := ne_b7_r10.symm
    have ne_b8_r10 : b8 ≠ r10 := Nat.ne_of_lt (Nat.lt_of_lt_of_le lt10_b8 z_r10)
    have ne_r10_b8 := ne_b8_r10.symm
    have ne_b9_r10 : b9 ≠ r10 := Nat.ne_of_lt (Nat.lt_of_lt_of_le lt10_b9 z_r10)
    have ne_r10_b9 := ne_b9_r10.symm
    have sz_r10 : h0.size ≤ r10 := Nat.le_trans KKE9.1 z_r10
    refine own_go (T' := T10) (f' := (mkF m 151 #[.val (.int p0), .val (.long q1), .second, .val (.long q2), .second, .val (.long q3), .second, .val (.long q4), .second, .val (.long q5), .second, .val (.long (1152921504606846975 : Int64)), .second, .val (.long l0), .second, .val (.long l1), .second, .val (.long l2), .second, .val (.long l3), .second, .val (.int ((p0 &&& (7 : Int32)) % (5 : Int32))), .val (.int mode), .val (.long vv), .second, .val (.ref b5), .val (.long pk), .second] [])) (fun t kt => ?_) ?_
    · show Steps p.tables e below (T10.setTop (mkF m 149 #[.val (.int p0), .val (.long q1), .second, .val (.long q2), .second, .val (.long q3), .second, .val (.long q4), .second, .val (.long q5), .second, .val (.long (1152921504606846975 : Int64)), .second, .val (.long l0), .second, .val (.long l1), .second, .val (.long l2), .second, .val (.long l3), .second, .val (.int ((p0 &&& (7 : Int32)) % (5 : Int32))), .val (.int mode), .val (.long vv), .second, .val (.int sel), .val (.long pk), .second] [(.ref b5)])) t
      refine XS.astore X10.here hx rfl (hb hby at_149) rfl rfl (l' := #[.val (.int p0), .val (.long q1), .second, .val (.long q2), .second, .val (.long q3), .second, .val (.long q4), .second, .val (.long q5), .second, .val (.long (1152921504606846975 : Int64)), .second, .val (.long l0), .second, .val (.long l1), .second, .val (.long l2), .second, .val (.long l3), .second, .val (.int ((p0 &&& (7 : Int32)) % (5 : Int32))), .val (.int mode), .val (.long vv), .second, .val (.ref b5), .val (.long pk), .second]) rfl ?_
      show Steps p.tables e below (T10.setTop (mkF m 151 #[.val (.int p0), .val (.long q1), .second, .val (.long q2), .second, .val (.long q3), .second, .val (.long q4), .second, .val (.long q5), .second, .val (.long (1152921504606846975 : Int64)), .second, .val (.long l0), .second, .val (.long l1), .second, .val (.long l2), .second, .val (.long l3), .second, .val (.int ((p0 &&& (7 : Int32)) % (5 : Int32))), .val (.int mode), .val (.long vv), .second, .val (.ref b5), .val (.long pk), .second] [])) t
      exact kt
    obtain ⟨T11, h11, X11, e11, E11, A11, D11, U11, st11⟩ := newO X10 hx hZ hown (hw _ (List.mem_of_getElem? (i := 42) rfl)) (hw _ (List.mem_of_getElem? (i := 43) rfl)) (hw _ (List.mem_of_getElem? (i := 44) rfl)) rfl (g := (mkF m 151 #[.val (.int p0), .val (.long q1), .second, .val (.long q2), .second, .val (.long q3), .second, .val (.long q4), .second, .val (.long q5), .second, .val (.long (1152921504606846975 : Int64)), .second, .val (.long l0), .second, .val (.long l1), .second, .val (.long l2), .second, .val (.long l3), .second, .val (.int ((p0 &&& (7 : Int32)) % (5 : Int32))), .val (.int mode), .val (.long vv), .second, .val (.ref b5), .val (.long pk), .second] [])) rfl (hb hby at_151) (by decide) (by decide)
    obtain ⟨b11, y11⟩ : ∃ z, z = T10.heap.size := ⟨_, rfl⟩
    rw [← y11] at A11 D11 U11 st11
    have ne_b5_b11 : b5 ≠ b11 := Nat.ne_of_lt (Nat.lt_of_lt_of_le Pq10_0.lt (Nat.le_of_eq y11.symm))
    have ne_b11_b5 := ne_b5_b11.symm
    have ne_r10_b11 : r10 ≠ b11 := Nat.ne_of_lt (Nat.lt_of_lt_of_le Ar_r10.lt (Nat.le_of_eq y11.symm))
    have ne_b11_r10 := ne_r10_b11.symm
    have g_b11 : n0 ≤ b11 := Nat.le_trans ZKq10 (Nat.le_of_eq y11.symm)
    have sz_b11 : h0.size ≤ b11 := Nat.le_trans KKKq10.1 (Nat.le_of_eq y11.symm)
    replace Pq10_0 := (Pq10_0.ext E11)
    replace F_r10 := (F_r10.ext E11)
    replace Ar_r10 := (Ar_r10.ext E11)
    have ZE11 : n0 ≤ h11.size := Nat.le_trans ZKq10 E11.1
    have KKE11 := KKKq10.ext E11
    have kzE11 := Nat.le_trans (Nat.le_refl _) E11.1
    refine own_go st11 ?_
    have K_b11 := own_K_new U11
    have F11_m_row : Fld Z h11 b11 "com/example/ridgeline/ridgeline/cumulative/IntervalLine" "m_row" "Z" (.int (0 : Int32)) := D11 (Or.inl (hw _ (List.mem_of_getElem? (i := 73) rfl))) (ty := .boolean) (by decide)
    have F11_m_end : Fld Z h11 b11 "com/example/ridgeline/ridgeline/cumulative/IntervalLine" "m_end" "J" (.long (0 : Int64)) := D11 (Or.inl (hw _ (List.mem_of_getElem? (i := 75) rfl))) (ty := .long) (by decide)
    have F11_m_size : Fld Z h11 b11 "com/example/ridgeline/ridgeline/cumulative/IntervalLine" "m_size" "I" (.int (0 : Int32)) := D11 (Or.inl (hw _ (List.mem_of_getElem? (i := 77) rfl))) (ty := .int) (by decide)
    refine own_go (T' := T11) (f' := (mkF m 158 #[.val (.int p0), .val (.long q1), .second, .val (.long q2), .second, .val (.long q3), .second, .val (.long q4), .second, .val (.long q5), .second, .val (.long (1152921504606846975 : Int64)), .second, .val (.long l0), .second, .val (.long l1), .second, .val (.long l2), .second, .val (.long l3), .second, .val (.int ((p0 &&& (7 : Int32)) % (5 : Int32))), .val (.int mode), .val (.long vv), .second, .val (.ref b5), .val (.long pk), .second] [(.int (4 : Int32)), (.ref b5), (.ref b11), (.ref b11)])) (fun t kt => ?_) ?_
    · show Steps p.tables e below (T11.setTop (mkF m 154 #[.val (.int p0), .val (.long q1), .second, .val (.long q2), .second, .val (.long q3), .second, .val (.long q4), .second, .val (.long q5), .second, .val (.long (1152921504606846975 : Int64)), .second, .val (.long l0), .second, .val (.long l1), .second, .val (.long l2), .second, .val (.long l3), .second, .val (.int ((p0 &&& (7 : Int32)) % (5 : Int32))), .val (.int mode), .val (.long vv), .second, .val (.ref b5), .val (.long pk), .second] [(.ref b11)])) t
      refine XS.dup X11.here hx rfl (hb hby at_154) rfl rfl ?_
      show Steps p.tables e below (T11.setTop (mkF m 155 #[.val (.int p0), .val (.long q1), .second, .val (.long q2), .second, .val (.long q3), .second, .val (.long q4), .second, .val (.long q5), .second, .val (.long (1152921504606846975 : Int64)), .second, .val (.long l0), .second, .val (.long l1), .second, .val (.long l2), .second, .val (.long l3), .second, .val (.int ((p0 &&& (7 : Int32)) % (5 : Int32))), .val (.int mode), .val (.long vv), .second, .val (.ref b5), .val (.long pk), .second] [(.ref b11), (.ref b11)])) t
      refine XS.aload X11.here hx rfl (hb hby at_155) rfl rfl ?_
      show Steps p.tables e below (T11.setTop (mkF m 157 #[.val (.int p0), .val (.long q1), .second, .val (.long q2), .second, .val (.long q3), .second, .val (.long q4), .second, .val (.long q5), .second, .val (.long (1152921504606846975 : Int64)), .second, .val (.long l0), .second, .val (.long l1), .second, .val (.long l2), .second, .val (.long l3), .second, .val (.int ((p0 &&& (7 : Int32)) % (5 : Int32))), .val (.int mode), .val (.long vv), .second, .val (.ref b5), .val (.long pk), .second] [(.ref b5), (.ref b11), (.ref b11)])) t
      refine XS.iconst X11.here hx rfl (hb hby at_157) ?_
      show Steps p.tables e below (T11.setTop (mkF m 158 #[.val (.int p0), .val (.long q1), .second, .val (.long q2), .second, .val (.long q3), .second, .val (.long q4), .second, .val (.long q5), .second, .val (.long (1152921504606846975 : Int64)), .second, .val (.long l0), .second, .val (.long l1), .second, .val (.long l2), .second, .val (.long l3), .second, .val (.int ((p0 &&& (7 : Int32)) % (5 : Int32))), .val (.int mode), .val (.long vv), .second, .val (.ref b5), .val (.long pk), .second] [(.int (4 : Int32)), (.ref b5), (.ref b11), (.ref b11)])) t
      exact kt
    have lt12_b5 := Pq10_0.lt
    have lt12_r10 := Ar_r10.lt
    have lt12_b11 := A11.lt
    refine own_callC X11 hx hZ hown e11 rfl (hw _ (List.mem_of_getElem? (i := 45) rfl)) (hw _ (List.mem_of_getElem? (i := 46) rfl)) (hw _ (List.mem_of_getElem? (i := 44) rfl)) (hw _ (List.mem_of_getElem? (i := 47) rfl)) (by decide) (rm4 l Z aw hw b11 b5 (4 : Int32) 4 r10 (.int (0 : Int32)) (.int (0 : Int32)) (.long (0 : Int64)) h11 n0 ZE11 A11 K_b11 g_b11 F11_m_size F11_m_row F11_m_end Pq10_0 F_r10 Ar_r10 (ne_b5_b11) (ne_r10_b11) (by decide) (by decide)) (g := (mkF m 158 #[.val (.int p0), .val (.long q1), .second, .val (.long q2), .second, .val (.long q3), .second, .val (.long q4), .second, .val (.long q5), .second, .val (.long (1152921504606846975 : Int64)), .second, .val (.long l0), .second, .val (.long l1), .second, .val (.long l2), .second, .val (.long l3), .second, .val (.int ((p0 &&& (7 : Int32)) % (5 : Int32))), .val (.int mode), .val (.long vv), .second, .val (.ref b5), .val (.long pk), .second] [(.int (4 : Int32)), (.ref b5), (.ref b11), (.ref b11)])) rfl (by rw [hml]; rfl) (argsL := [(.ref b5), (.int (4 : Int32))]) (rest := [(.ref b11)]) (lenOf pd_3 rfl) rfl rfl (W := 1) (by show 2 * 0 + _ ≤ _; exact Nat.le_of_eq rfl) (hb hby at_158) (by decide) (by decide) (by decide) (by decide) ?_
    rintro _ T12 L12 X12 ⟨rfl, Nq12, Kq12, Pq12_0, Pq12_1, Pq12_2, Pq12_3, Pq12_4⟩
    have N12 := Fr.app N10 Nq12
    replace Pq10_0 := (Pq10_0.keep Kq12)
    replace F_r10 := (F_r10.keep Kq12 (ninS (ne_b5_b11) nin0))
    replace Ar_r10 := (Ar_r10.keep Kq12 (ninS (ne_r10_b11) nin0))
    replace A11 := (A11.keep Kq12)
    replace K_b11 := own_K_keep K_b11 Kq12
    have ZKq12 : n0 ≤ T12.heap.size := Nat.le_trans ZE11 Kq12.1
    have KKKq12 := KKE11.trans Kq12 ((allS (Or.inr sz_b11) all0))
    have kzKq12 := Nat.le_trans kzE11 Kq12.1
    obtain ⟨r12, g_r12, z_r12, F_r12, Ar_r12⟩ := Pq12_4
    have ne_b5_r12 : b5 ≠ r12 := Nat.ne_of_lt (Nat.lt_of_lt_of_le lt12_b5 z_r12)
    have ne_r12_b5 := ne_b5_r12.symm
    have ne_r10_r12 : r10 ≠ r12 := Nat.ne_of_lt (Nat.lt_of_lt_of_le lt12_r10 z_r12)
    have ne_r12_r10 := ne_r10_r12.symm
    have ne_b11_r12 : b11 ≠ r12 := Nat.ne_of_lt (Nat.lt_of_lt_of_le lt12_b11 z_r12)
    have ne_r12_b11 := ne_b11_r12.symm
    have sz_r12 : h0.size ≤ r12 := Nat.le_trans KKE11.1 z_r12
    refine own_go (T' := T12) (f' := (mkF m 170 #[.val (.int p0), .val (.long q1), .second, .val (.long q2), .second, .val (.long q3), .second, .val (.long q4), .second, .val (.long q5), .second, .val (.long (1152921504606846975 : Int64)), .second, .val (.long l0), .second, .val (.long l1), .second, .val (.long l2), .second, .val (.long l3), .second, .val (.int ((p0 &&& (7 : Int32)) % (5 : Int32))), .val (.int mode), .val (.long vv), .second, .val (.ref b5), .val (.ref b11), .unset] [(.int (p0 &&& (256 : Int32))), (.ref b11)])) (fun t kt => ?_) ?_
    · show Steps p.tables e below (T12.setTop (mkF m 161 #[.val (.int p0), .val (.long q1), .second, .val (.long q2), .second, .val (.long q3), .second, .val (.long q4), .second, .val (.long q5), .second, .val (.long (1152921504606846975 : Int64)), .second, .val (.long l0), .second, .val (.long l1), .second, .val (.long l2), .second, .val (.long l3), .second, .val (.int ((p0 &&& (7 : Int32)) % (5 : Int32))), .val (.int mode), .val (.long vv), .second, .val (.ref b5), .val (.long pk), .second] [(.ref b11)])) t
      refine XS.astore X12.here hx rfl (hb hby at_161) rfl rfl (l' := #[.val (.int p0), .val (.long q1), .second, .val (.long q2), .second, .val (.long q3), .second, .val (.long q4), .second, .val (.long q5), .second, .val (.long (1152921504606846975 : Int64)), .second, .val (.long l0), .second, .val (.long l1), .second, .val (.long l2), .second, .val (.long l3), .second, .val (.int ((p0 &&& (7 : Int32)) % (5 : Int32))), .val (.int mode), .val (.long vv), .second, .val (.ref b5), .val (.ref b11), .unset]) rfl ?_
      show Steps p.tables e below (T12.setTop (mkF m 163 #[.val (.int p0), .val (.long q1), .second, .val (.long q2), .second, .val (.long q3), .second, .val (.long q4), .second, .val (.long q5), .second, .val (.long (1152921504606846975 : Int64)), .second, .val (.long l0), .second, .val (.long l1), .second, .val (.long l2), .second, .val (.long l3), .second, .val (.int ((p0 &&& (7 : Int32)) % (5 : Int32))), .val (.int mode), .val (.long vv), .second, .val (.ref b5), .val (.ref b11), .unset] [])) t
      refine XS.aload X12.here hx rfl (hb hby at_163) rfl rfl ?_
      show Steps p.tables e below (T12.setTop (mkF m 165 #[.val (.int p0), .val (.long q1), .second, .val (.long q2), .second, .val (.long q3), .second, .val (.long q4), .second, .val (.long q5), .second, .val (.long (1152921504606846975 : Int64)), .second, .val (.long l0), .second, .val (.long l1), .second, .val (.long l2), .second, .val (.long l3), .second, .val (.int ((p0 &&& (7 : Int32)) % (5 : Int32))), .val (.int mode), .val (.long vv), .second, .val (.ref b5), .val (.ref b11), .unset] [(.ref b11)])) t
      refine XS.iloadN X12.here hx rfl (hb hby at_165) rfl ?_
      show Steps p.tables e below (T12.setTop (mkF m 166 #[.val (.int p0), .val (.long q1), .second, .val (.long q2), .second, .val (.long q3), .second, .val (.long q4), .second, .val (.long q5), .second, .val (.long (1152921504606846975 : Int64)), .second, .val (.long l0), .second, .val (.long l1), .second, .val (.long l2), .second, .val (.long l3), .second, .val (.int ((p0 &&& (7 : Int32)) % (5 : Int32))), .val (.int mode), .val (.long vv), .second, .val (.ref b5), .val (.ref b11), .unset] [(.int p0), (.ref b11)])) t
      refine XS.sipush X12.here hx rfl (hb hby at_166) ?_
      show Steps p.tables e below (T12.setTop (mkF m 169 #[.val (.int p0), .val (.long q1), .second, .val (.long q2), .second, .val (.long q3), .second, .val (.long q4), .second, .val (.long q5), .second, .val (.long (1152921504606846975 : Int64)), .second, .val (.long l0), .second, .val (.long l1), .second, .val (.long l2), .second, .val (.long l3), .second, .val (.int ((p0 &&& (7 : Int32)) % (5 : Int32))), .val (.int mode), .val (.long vv), .second, .val (.ref b5), .val (.ref b11), .unset] [(.int (256 : Int32)), (.int p0), (.ref b11)])) t
      refine XS.iand X12.here hx rfl (hb hby at_169) rfl ?_
      show Steps p.tables e below (T12.setTop (mkF m 170 #[.val (.int p0), .val (.long q1), .second, .val (.long q2), .second, .val (.long q3), .second, .val (.long q4), .second, .val (.long q5), .second, .val (.long (1152921504606846975 : Int64)), .second, .val (.long l0), .second, .val (.long l1), .second, .val (.long l2), .second, .val (.long l3), .second, .val (.int ((p0 &&& (7 : Int32)) % (5 : Int32))), .val (.int mode), .val (.long vv), .second, .val (.ref b5), .val (.ref b11), .unset] [(.int (p0 &&& (256 : Int32))), (.ref b11)])) t
      exact kt
    refine own_go (T' := T12) (f' := (mkF m 178 #[.val (.int p0), .val (.long q1), .second, .val (.long q2), .second, .val (.long q3), .second, .val (.long q4), .second, .val (.long q5), .second, .val (.long (1152921504606846975 : Int64)), .second, .val (.long l0), .second, .val (.long l1), .second, .val (.long l2), .second, .val (.long l3), .second, .val (.int ((p0 &&& (7 : Int32)) % (5 : Int32))), .val (.int mode), .val (.long vv), .second, .val (.ref b5), .val (.ref b11), .unset] [(.int (own_z (¬ ((p0 &&& (256 : Int32)) = (0 : Int32))))), (.ref b11)])) (fun t kt => ?_) ?_
    · by_cases hc170_13 : (p0 &&& (256 : Int32)) = (0 : Int32)
      · show Steps p.tables e below (T12.setTop (mkF m 170 #[.val (.int p0), .val (.long q1), .second, .val (.long q2), .second, .val (.long q3), .second, .val (.long q4), .second, .val (.long q5), .second, .val (.long (1152921504606846975 : Int64)), .second, .val (.long l0), .second, .val (.long l1), .second, .val (.long l2), .second, .val (.long l3), .second, .val (.int ((p0 &&& (7 : Int32)) % (5 : Int32))), .val (.int mode), .val (.long vv), .second, .val (.ref b5), .val (.ref b11), .unset] [(.int (p0 &&& (256 : Int32))), (.ref b11)])) t
        refine XS.ifYes X12.here hx rfl (pc0 := 170) (pc' := 177) rfl (hb hby at_170) rfl ((if0 _ _).trans (teq hc170_13).1) (by decide) (by decide) ?_
        show Steps p.tables e below (T12.setTop (mkF m 177 #[.val (.int p0), .val (.long q1), .second, .val (.long q2), .second, .val (.long q3), .second, .val (.long q4), .second, .val (.long q5), .second, .val (.long (1152921504606846975 : Int64)), .second, .val (.long l0), .second, .val (.long l1), .second, .val (.long l2), .second, .val (.long l3), .second, .val (.int ((p0 &&& (7 : Int32)) % (5 : Int32))), .val (.int mode), .val (.long vv), .second, .val (.ref b5), .val (.ref b11), .unset] [(.ref b11)])) t
        refine XS.iconst X12.here hx rfl (hb hby at_177) ?_
        show Steps p.tables e below (T12.setTop (mkF m 178 #[.val (.int p0), .val (.long q1), .second, .val (.long q2), .second, .val (.long q3), .second, .val (.long q4), .second, .val (.long q5), .second, .val (.long (1152921504606846975 : Int64)), .second, .val (.long l0), .second, .val (.long l1), .second, .val (.long l2), .second, .val (.long l3), .second, .val (.int ((p0 &&& (7 : Int32)) % (5 : Int32))), .val (.int mode), .val (.long vv), .second, .val (.ref b5), .val (.ref b11), .unset] [(.int (0 : Int32)), (.ref b11)])) t
        rw [own_z_f (P := ¬ ((p0 &&& (256 : Int32)) = (0 : Int32))) (fun n => n hc170_13)] at kt
        exact kt
      · show Steps p.tables e below (T12.setTop (mkF m 170 #[.val (.int p0), .val (.long q1), .second, .val (.long q2), .second, .val (.long q3), .second, .val (.long q4), .second, .val (.long q5), .second, .val (.long (1152921504606846975 : Int64)), .second, .val (.long l0), .second, .val (.long l1), .second, .val (.long l2), .second, .val (.long l3), .second, .val (.int ((p0 &&& (7 : Int32)) % (5 : Int32))), .val (.int mode), .val (.long vv), .second, .val (.ref b5), .val (.ref b11), .unset] [(.int (p0 &&& (256 : Int32))), (.ref b11)])) t
        refine XS.ifNo X12.here hx rfl (hb hby at_170) rfl ((if0 _ _).trans (feq hc170_13).1) ?_
        show Steps p.tables e below (T12.setTop (mkF m 173 #[.val (.int p0), .val (.long q1), .second, .val (.long q2), .second, .val (.long q3), .second, .val (.long q4), .second, .val (.long q5), .second, .val (.long (1152921504606846975 : Int64)), .second, .val (.long l0), .second, .val (.long l1), .second, .val (.long l2), .second, .val (.long l3), .second, .val (.int ((p0 &&& (7 : Int32)) % (5 : Int32))), .val (.int mode), .val (.long vv), .second, .val (.ref b5), .val (.ref b11), .unset] [(.ref b11)])) t
        refine XS.iconst X12.here hx rfl (hb hby at_173) ?_
        show Steps p.tables e below (T12.setTop (mkF m 174 #[.val (.int p0), .val (.long q1), .second, .val (.long q2), .second, .val (.long q3), .second, .val (.long q4), .second, .val (.long q5), .second, .val (.long (1152921504606846975 : Int64)), .second, .val (.long l0), .second, .val (.long l1), .second, .val (.long l2), .second, .val (.long l3), .second, .val (.int ((p0 &&& (7 : Int32)) % (5 : Int32))), .val (.int mode), .val (.long vv), .second, .val (.ref b5), .val (.ref b11), .unset] [(.int (1 : Int32)), (.ref b11)])) t
        refine XS.goto X12.here hx rfl (pc0 := 174) (pc' := 178) rfl (hb hby at_174) (by decide) (by decide) ?_
        show Steps p.tables e below (T12.setTop (mkF m 178 #[.val (.int p0), .val (.long q1), .second, .val (.long q2), .second, .val (.long q3), .second, .val (.long q4), .second, .val (.long q5), .second, .val (.long (1152921504606846975 : Int64)), .second, .val (.long l0), .second, .val (.long l1), .second, .val (.long l2), .second, .val (.long l3), .second, .val (.int ((p0 &&& (7 : Int32)) % (5 : Int32))), .val (.int mode), .val (.long vv), .second, .val (.ref b5), .val (.ref b11), .unset] [(.int (1 : Int32)), (.ref b11)])) t
        rw [own_z_t (P := ¬ ((p0 &&& (256 : Int32)) = (0 : Int32))) hc170_13] at kt
        exact kt
    refine own_go (T' := T12) (f' := (mkF m 179 #[.val (.int p0), .val (.long q1), .second, .val (.long q2), .second, .val (.long q3), .second, .val (.long q4), .second, .val (.long q5), .second, .val (.long (1152921504606846975 : Int64)), .second, .val (.long l0), .second, .val (.long l1), .second, .val (.long l2), .second, .val (.long l3), .second, .val (.int ((p0 &&& (7 : Int32)) % (5 : Int32))), .val (.int mode), .val (.long vv), .second, .val (.ref b5), .val (.ref b11), .unset] [(.long (0 : Int64)), (.int (own_z (¬ ((p0 &&& (256 : Int32)) = (0 : Int32))))), (.ref b11)])) (fun t kt => ?_) ?_
    · show Steps p.tables e below (T12.setTop (mkF m 178 #[.val (.int p0), .val (.long q1), .second, .val (.long q2), .second, .val (.long q3), .second, .val (.long q4), .second, .val (.long q5), .second, .val (.long (1152921504606846975 : Int64)), .second, .val (.long l0), .second, .val (.long l1), .second, .val (.long l2), .second, .val (.long l3), .second, .val (.int ((p0 &&& (7 : Int32)) % (5 : Int32))), .val (.int mode), .val (.long vv), .second, .val (.ref b5), .val (.ref b11), .unset] [(.int (own_z (¬ ((p0 &&& (256 : Int32)) = (0 : Int32))))), (.ref b11)])) t
      refine XS.lconst X12.here hx rfl (hb hby at_178) ?_
      show Steps p.tables e below (T12.setTop (mkF m 179 #[.val (.int p0), .val (.long q1), .second, .val (.long q2), .second, .val (.long q3), .second, .val (.long q4), .second, .val (.long q5), .second, .val (.long (1152921504606846975 : Int64)), .second, .val (.long l0), .second, .val (.long l1), .second, .val (.long l2), .second, .val (.long l3), .second, .val (.int ((p0 &&& (7 : Int32)) % (5 : Int32))), .val (.int mode), .val (.long vv), .second, .val (.ref b5), .val (.ref b11), .unset] [(.long (0 : Int64)), (.int (own_z (¬ ((p0 &&& (256 : Int32)) = (0 : Int32))))), (.ref b11)])) t
      exact kt
    refine own_callV X12 hx hZ hown rfl (hw _ (List.mem_of_getElem? (i := 67) rfl)) (hw _ (List.mem_of_getElem? (i := 68) rfl)) (notFace_of_selects (args := #[]) (mvT hZ (hw _ (List.mem_of_getElem? (i := 70) rfl)))) (hw _ (List.mem_of_getElem? (i := 70) rfl)) (hw _ (List.mem_of_getElem? (i := 69) rfl)) (hw _ (List.mem_of_getElem? (i := 44) rfl)) (hw _ (List.mem_of_getElem? (i := 71) rfl)) (by decide) (rm6 l Z aw hw b11 (own_z (¬ ((p0 &&& (256 : Int32)) = (0 : Int32)))) (0 : Int64) r12 (.int (0 : Int32)) (.int (0 : Int32)) (.long (0 : Int64)) T12.heap n0 ZKq12 Pq12_0 g_b11 F_r12 Pq12_1 Pq12_2 Pq12_3) Pq12_0 (g := (mkF m 179 #[.val (.int p0), .val (.long q1), .second, .val (.long q2), .second, .val (.long q3), .second, .val (.long q4), .second, .val (.long q5), .second, .val (.long (1152921504606846975 : Int64)), .second, .val (.long l0), .second, .val (.long l1), .second, .val (.long l2), .second, .val (.long l3), .second, .val (.int ((p0 &&& (7 : Int32)) % (5 : Int32))), .val (.int mode), .val (.long vv), .second, .val (.ref b5), .val (.ref b11), .unset] [(.long (0 : Int64)), (.int (own_z (¬ ((p0 &&& (256 : Int32)) = (0 : Int32))))), (.ref b11)])) rfl (by rw [hml]; rfl) (argsL := [(.int (own_z (¬ ((p0 &&& (256 : Int32)) = (0 : Int32))))), (.long (0 : Int64))]) (rest := []) (lenOf pd_4 rfl) rfl rfl (W := 0) (by show 2 * 0 + _ ≤ _; exact Nat.le_of_eq rfl) (hb hby at_179) (by decide) (by decide) (by decide) (by decide) ?_
    rintro _ T14 L14 X14 ⟨rfl, Nq14, Kq14, Pq14_0, Pq14_1, Pq14_2, Pq14_3, Pq14_4⟩
    have N14 := Fr.app N12 Nq14
    replace Pq10_0 := (Pq10_0.keep Kq14)
    replace F_r10 := (F_r10.keep Kq14 (ninS (ne_b5_b11) nin0))
    replace Ar_r10 := (Ar_r10.keep Kq14 (ninS (ne_r10_b11) nin0))
    replace Pq12_0 := (Pq12_0.keep Kq14)
    replace Ar_r12 := (Ar_r12.keep Kq14 (ninS (ne_r12_b11) nin0))
    have ZKq14 : n0 ≤ T14.heap.size := Nat.le_trans ZKq12 Kq14.1
    have KKKq14 := KKKq12.trans Kq14 ((allS (Or.inr sz_b11) all0))
    have kzKq14 := Nat.le_trans kzKq12 Kq14.1
    rcases own_n5 p0 with hn5 | hn5 | hn5 | hn5 | hn5
    · rw [hn5]
      refine own_go (T' := T14) (f' := (mkF m 307 #[.val (.int p0), .val (.long q1), .second, .val (.long q2), .second, .val (.long q3), .second, .val (.long q4), .second, .val (.long q5), .second, .val (.long (1152921504606846975 : Int64)), .second, .val (.long l0), .second, .val (.long l1), .second, .val (.long l2), .second, .val (.long l3), .second, .val (.int (0 : Int32)), .val (.int mode), .val (.long vv), .second, .val (.ref b5), .val (.ref b11), .val (.int (-1 : Int32))] [(.long vv), (.ref b11)])) (fun t kt => ?_) ?_
      · show Steps p.tables e below (T14.setTop (mkF m 182 #[.val (.int p0), .val (.long q1), .second, .val (.long q2), .second, .val (.long q3), .second, .val (.long q4), .second, .val (.long q5), .second, .val (.long (1152921504606846975 : Int64)), .second, .val (.long l0), .second, .val (.long l1), .second, .val (.long l2), .second, .val (.long l3), .second, .val (.int (0 : Int32)), .val (.int mode), .val (.long vv), .second, .val (.ref b5), .val (.ref b11), .unset] [])) t
        refine XS.iload X14.here hx rfl (hb hby at_182) rfl ?_
        show Steps p.tables e below (T14.setTop (mkF m 184 #[.val (.int p0), .val (.long q1), .second, .val (.long q2), .second, .val (.long q3), .second, .val (.long q4), .second, .val (.long q5), .second, .val (.long (1152921504606846975 : Int64)), .second, .val (.long l0), .second, .val (.long l1), .second, .val (.long l2), .second, .val (.long l3), .second, .val (.int (0 : Int32)), .val (.int mode), .val (.long vv), .second, .val (.ref b5), .val (.ref b11), .unset] [(.int (0 : Int32))])) t
        refine XS.ifYes X14.here hx rfl (pc0 := 184) (pc' := 194) rfl (hb hby at_184) rfl (by decide) (by decide) (by decide) ?_
        show Steps p.tables e below (T14.setTop (mkF m 194 #[.val (.int p0), .val (.long q1), .second, .val (.long q2), .second, .val (.long q3), .second, .val (.long q4), .second, .val (.long q5), .second, .val (.long (1152921504606846975 : Int64)), .second, .val (.long l0), .second, .val (.long l1), .second, .val (.long l2), .second, .val (.long l3), .second, .val (.int (0 : Int32)), .val (.int mode), .val (.long vv), .second, .val (.ref b5), .val (.ref b11), .unset] [])) t
        refine XS.iload X14.here hx rfl (hb hby at_194) rfl ?_
        show Steps p.tables e below (T14.setTop (mkF m 196 #[.val (.int p0), .val (.long q1), .second, .val (.long q2), .second, .val (.long q3), .second, .val (.long q4), .second, .val (.long q5), .second, .val (.long (1152921504606846975 : Int64)), .second, .val (.long l0), .second, .val (.long l1), .second, .val (.long l2), .second, .val (.long l3), .second, .val (.int (0 : Int32)), .val (.int mode), .val (.long vv), .second, .val (.ref b5), .val (.ref b11), .unset] [(.int (0 : Int32))])) t
        refine XS.iconst X14.here hx rfl (hb hby at_196) ?_
        show Steps p.tables e below (T14.setTop (mkF m 197 #[.val (.int p0), .val (.long q1), .second, .val (.long q2), .second, .val (.long q3), .second, .val (.long q4), .second, .val (.long q5), .second, .val (.long (1152921504606846975 : Int64)), .second, .val (.long l0), .second, .val (.long l1), .second, .val (.long l2), .second, .val (.long l3), .second, .val (.int (0 : Int32)), .val (.int mode), .val (.long vv), .second, .val (.ref b5), .val (.ref b11), .unset] [(.int (1 : Int32)), (.int (0 : Int32))])) t
        refine XS.icmpYes X14.here hx rfl (pc0 := 197) (pc' := 207) rfl (hb hby at_197) rfl (by decide) (by decide) (by decide) ?_
        show Steps p.tables e below (T14.setTop (mkF m 207 #[.val (.int p0), .val (.long q1), .second, .val (.long q2), .second, .val (.long q3), .second, .val (.long q4), .second, .val (.long q5), .second, .val (.long (1152921504606846975 : Int64)), .second, .val (.long l0), .second, .val (.long l1), .second, .val (.long l2), .second, .val (.long l3), .second, .val (.int (0 : Int32)), .val (.int mode), .val (.long vv), .second, .val (.ref b5), .val (.ref b11), .unset] [])) t
        refine XS.iload X14.here hx rfl (hb hby at_207) rfl ?_
        show Steps p.tables e below (T14.setTop (mkF m 209 #[.val (.int p0), .val (.long q1), .second, .val (.long q2), .second, .val (.long q3), .second, .val (.long q4), .second, .val (.long q5), .second, .val (.long (1152921504606846975 : Int64)), .second, .val (.long l0), .second, .val (.long l1), .second, .val (.long l2), .second, .val (.long l3), .second, .val (.int (0 : Int32)), .val (.int mode), .val (.long vv), .second, .val (.ref b5), .val (.ref b11), .unset] [(.int (0 : Int32))])) t
        refine XS.iconst X14.here hx rfl (hb hby at_209) ?_
        show Steps p.tables e below (T14.setTop (mkF m 210 #[.val (.int p0), .val (.long q1), .second, .val (.long q2), .second, .val (.long q3), .second, .val (.long q4), .second, .val (.long q5), .second, .val (.long (1152921504606846975 : Int64)), .second, .val (.long l0), .second, .val (.long l1), .second, .val (.long l2), .second, .val (.long l3), .second, .val (.int (0 : Int32)), .val (.int mode), .val (.long vv), .second, .val (.ref b5), .val (.ref b11), .unset] [(.int (2 : Int32)), (.int (0 : Int32))])) t
        refine XS.icmpYes X14.here hx rfl (pc0 := 210) (pc' := 220) rfl (hb hby at_210) rfl (by decide) (by decide) (by decide) ?_
        show Steps p.tables e below (T14.setTop (mkF m 220 #[.val (.int p0), .val (.long q1), .second, .val (.long q2), .second, .val (.long q3), .second, .val (.long q4), .second, .val (.long q5), .second, .val (.long (1152921504606846975 : Int64)), .second, .val (.long l0), .second, .val (.long l1), .second, .val (.long l2), .second, .val (.long l3), .second, .val (.int (0 : Int32)), .val (.int mode), .val (.long vv), .second, .val (.ref b5), .val (.ref b11), .unset] [])) t
        refine XS.iload X14.here hx rfl (hb hby at_220) rfl ?_
        show Steps p.tables e below (T14.setTop (mkF m 222 #[.val (.int p0), .val (.long q1), .second, .val (.long q2), .second, .val (.long q3), .second, .val (.long q4), .second, .val (.long q5), .second, .val (.long (1152921504606846975 : Int64)), .second, .val (.long l0), .second, .val (.long l1), .second, .val (.long l2), .second, .val (.long l3), .second, .val (.int (0 : Int32)), .val (.int mode), .val (.long vv), .second, .val (.ref b5), .val (.ref b11), .unset] [(.int (0 : Int32))])) t
        refine XS.iconst X14.here hx rfl (hb hby at_222) ?_
        show Steps p.tables e below (T14.setTop (mkF m 223 #[.val (.int p0), .val (.long q1), .second, .val (.long q2), .second, .val (.long q3), .second, .val (.long q4), .second, .val (.long q5), .second, .val (.long (1152921504606846975 : Int64)), .second, .val (.long l0), .second, .val (.long l1), .second, .val (.long l2), .second, .val (.long l3), .second, .val (.int (0 : Int32)), .val (.int mode), .val (.long vv), .second, .val (.ref b5), .val (.ref b11), .unset] [(.int (3 : Int32)), (.int (0 : Int32))])) t
        refine XS.icmpYes X14.here hx rfl (pc0 := 223) (pc' := 233) rfl (hb hby at_223) rfl (by decide) (by decide) (by decide) ?_
        show Steps p.tables e below (T14.setTop (mkF m 233 #[.val (.int p0), .val (.long q1), .second, .val (.long q2), .second, .val (.long q3), .second, .val (.long q4), .second, .val (.long q5), .second, .val (.long (1152921504606846975 : Int64)), .second, .val (.long l0), .second, .val (.long l1), .second, .val (.long l2), .second, .val (.long l3), .second, .val (.int (0 : Int32)), .val (.int mode), .val (.long vv), .second, .val (.ref b5), .val (.ref b11), .unset] [])) t
        refine XS.iconst X14.here hx rfl (hb hby at_233) ?_
        show Steps p.tables e below (T14.setTop (mkF m 234 #[.val (.int p0), .val (.long q1), .second, .val (.long q2), .second, .val (.long q3), .second, .val (.long q4), .second, .val (.long q5), .second, .val (.long (1152921504606846975 : Int64)), .second, .val (.long l0), .second, .val (.long l1), .second, .val (.long l2), .second, .val (.long l3), .second, .val (.int (0 : Int32)), .val (.int mode), .val (.long vv), .second, .val (.ref b5), .val (.ref b11), .unset] [(.int (-1 : Int32))])) t
        refine XS.istore X14.here hx rfl (hb hby at_234) rfl (l' := #[.val (.int p0), .val (.long q1), .second, .val (.long q2), .second, .val (.long q3), .second, .val (.long q4), .second, .val (.long q5), .second, .val (.long (1152921504606846975 : Int64)), .second, .val (.long l0), .second, .val (.long l1), .second, .val (.long l2), .second, .val (.long l3), .second, .val (.int (0 : Int32)), .val (.int mode), .val (.long vv), .second, .val (.ref b5), .val (.ref b11), .val (.int (-1 : Int32))]) rfl ?_
        show Steps p.tables e below (T14.setTop (mkF m 236 #[.val (.int p0), .val (.long q1), .second, .val (.long q2), .second, .val (.long q3), .second, .val (.long q4), .second, .val (.long q5), .second, .val (.long (1152921504606846975 : Int64)), .second, .val (.long l0), .second, .val (.long l1), .second, .val (.long l2), .second, .val (.long l3), .second, .val (.int (0 : Int32)), .val (.int mode), .val (.long vv), .second, .val (.ref b5), .val (.ref b11), .val (.int (-1 : Int32))] [])) t
        refine XS.iload X14.here hx rfl (hb hby at_236) rfl ?_
        show Steps p.tables e below (T14.setTop (mkF m 238 #[.val (.int p0), .val (.long q1), .second, .val (.long q2), .second, .val (.long q3), .second, .val (.long q4), .second, .val (.long q5), .second, .val (.long (1152921504606846975 : Int64)), .second, .val (.long l0), .second, .val (.long l1), .second, .val (.long l2), .second, .val (.long l3), .second, .val (.int (0 : Int32)), .val (.int mode), .val (.long vv), .second, .val (.ref b5), .val (.ref b11), .val (.int (-1 : Int32))] [(.int (0 : Int32))])) t
        refine XS.ifYes X14.here hx rfl (pc0 := 238) (pc' := 252) rfl (hb hby at_238) rfl (by decide) (by decide) (by decide) ?_
        show Steps p.tables e below (T14.setTop (mkF m 252 #[.val (.int p0), .val (.long q1), .second, .val (.long q2), .second, .val (.long q3), .second, .val (.long q4), .second, .val (.long q5), .second, .val (.long (1152921504606846975 : Int64)), .second, .val (.long l0), .second, .val (.long l1), .second, .val (.long l2), .second, .val (.long l3), .second, .val (.int (0 : Int32)), .val (.int mode), .val (.long vv), .second, .val (.ref b5), .val (.ref b11), .val (.int (-1 : Int32))] [])) t
        refine XS.iload X14.here hx rfl (hb hby at_252) rfl ?_
        show Steps p.tables e below (T14.setTop (mkF m 254 #[.val (.int p0), .val (.long q1), .second, .val (.long q2), .second, .val (.long q3), .second, .val (.long q4), .second, .val (.long q5), .second, .val (.long (1152921504606846975 : Int64)), .second, .val (.long l0), .second, .val (.long l1), .second, .val (.long l2), .second, .val (.long l3), .second, .val (.int (0 : Int32)), .val (.int mode), .val (.long vv), .second, .val (.ref b5), .val (.ref b11), .val (.int (-1 : Int32))] [(.int (0 : Int32))])) t
        refine XS.iconst X14.here hx rfl (hb hby at_254) ?_
        show Steps p.tables e below (T14.setTop (mkF m 255 #[.val (.int p0), .val (.long q1), .second, .val (.long q2), .second, .val (.long q3), .second, .val (.long q4), .second, .val (.long q5), .second, .val (.long (1152921504606846975 : Int64)), .second, .val (.long l0), .second, .val (.long l1), .second, .val (.long l2), .second, .val (.long l3), .second, .val (.int (0 : Int32)), .val (.int mode), .val (.long vv), .second, .val (.ref b5), .val (.ref b11), .val (.int (-1 : Int32))] [(.int (1 : Int32)), (.int (0 : Int32))])) t
        refine XS.icmpYes X14.here hx rfl (pc0 := 255) (pc' := 269) rfl (hb hby at_255) rfl (by decide) (by decide) (by decide) ?_
        show Steps p.tables e below (T14.setTop (mkF m 269 #[.val (.int p0), .val (.long q1), .second, .val (.long q2), .second, .val (.long q3), .second, .val (.long q4), .second, .val (.long q5), .second, .val (.long (1152921504606846975 : Int64)), .second, .val (.long l0), .second, .val (.long l1), .second, .val (.long l2), .second, .val (.long l3), .second, .val (.int (0 : Int32)), .val (.int mode), .val (.long vv), .second, .val (.ref b5), .val (.ref b11), .val (.int (-1 : Int32))] [])) t
        refine XS.iload X14.here hx rfl (hb hby at_269) rfl ?_
        show Steps p.tables e below (T14.setTop (mkF m 271 #[.val (.int p0), .val (.long q1), .second, .val (.long q2), .second, .val (.long q3), .second, .val (.long q4), .second, .val (.long q5), .second, .val (.long (1152921504606846975 : Int64)), .second, .val (.long l0), .second, .val (.long l1), .second, .val (.long l2), .second, .val (.long l3), .second, .val (.int (0 : Int32)), .val (.int mode), .val (.long vv), .second, .val (.ref b5), .val (.ref b11), .val (.int (-1 : Int32))] [(.int (0 : Int32))])) t
        refine XS.iconst X14.here hx rfl (hb hby at_271) ?_
        show Steps p.tables e below (T14.setTop (mkF m 272 #[.val (.int p0), .val (.long q1), .second, .val (.long q2), .second, .val (.long q3), .second, .val (.long q4), .second, .val (.long q5), .second, .val (.long (1152921504606846975 : Int64)), .second, .val (.long l0), .second, .val (.long l1), .second, .val (.long l2), .second, .val (.long l3), .second, .val (.int (0 : Int32)), .val (.int mode), .val (.long vv), .second, .val (.ref b5), .val (.ref b11), .val (.int (-1 : Int32))] [(.int (2 : Int32)), (.int (0 : Int32))])) t
        refine XS.icmpYes X14.here hx rfl (pc0 := 272) (pc' := 286) rfl (hb hby at_272) rfl (by decide) (by decide) (by decide) ?_
        show Steps p.tables e below (T14.setTop (mkF m 286 #[.val (.int p0), .val (.long q1), .second, .val (.long q2), .second, .val (.long q3), .second, .val (.long q4), .second, .val (.long q5), .second, .val (.long (1152921504606846975 : Int64)), .second, .val (.long l0), .second, .val (.long l1), .second, .val (.long l2), .second, .val (.long l3), .second, .val (.int (0 : Int32)), .val (.int mode), .val (.long vv), .second, .val (.ref b5), .val (.ref b11), .val (.int (-1 : Int32))] [])) t
        refine XS.iload X14.here hx rfl (hb hby at_286) rfl ?_
        show Steps p.tables e below (T14.setTop (mkF m 288 #[.val (.int p0), .val (.long q1), .second, .val (.long q2), .second, .val (.long q3), .second, .val (.long q4), .second, .val (.long q5), .second, .val (.long (1152921504606846975 : Int64)), .second, .val (.long l0), .second, .val (.long l1), .second, .val (.long l2), .second, .val (.long l3), .second, .val (.int (0 : Int32)), .val (.int mode), .val (.long vv), .second, .val (.ref b5), .val (.ref b11), .val (.int (-1 : Int32))] [(.int (0 : Int32))])) t
        refine XS.iconst X14.here hx rfl (hb hby at_288) ?_
        show Steps p.tables e below (T14.setTop (mkF m 289 #[.val (.int p0), .val (.long q1), .second, .val (.long q2), .second, .val (.long q3), .second, .val (.long q4), .second, .val (.long q5), .second, .val (.long (1152921504606846975 : Int64)), .second, .val (.long l0), .second, .val (.long l1), .second, .val (.long l2), .second, .val (.long l3), .second, .val (.int (0 : Int32)), .val (.int mode), .val (.long vv), .second, .val (.ref b5), .val (.ref b11), .val (.int (-1 : Int32))] [(.int (3 : Int32)), (.int (0 : Int32))])) t
        refine XS.icmpYes X14.here hx rfl (pc0 := 289) (pc' := 303) rfl (hb hby at_289) rfl (by decide) (by decide) (by decide) ?_
        show Steps p.tables e below (T14.setTop (mkF m 303 #[.val (.int p0), .val (.long q1), .second, .val (.long q2), .second, .val (.long q3), .second, .val (.long q4), .second, .val (.long q5), .second, .val (.long (1152921504606846975 : Int64)), .second, .val (.long l0), .second, .val (.long l1), .second, .val (.long l2), .second, .val (.long l3), .second, .val (.int (0 : Int32)), .val (.int mode), .val (.long vv), .second, .val (.ref b5), .val (.ref b11), .val (.int (-1 : Int32))] [])) t
        refine XS.aload X14.here hx rfl (hb hby at_303) rfl rfl ?_
        show Steps p.tables e below (T14.setTop (mkF m 305 #[.val (.int p0), .val (.long q1), .second, .val (.long q2), .second, .val (.long q3), .second, .val (.long q4), .second, .val (.long q5), .second, .val (.long (1152921504606846975 : Int64)), .second, .val (.long l0), .second, .val (.long l1), .second, .val (.long l2), .second, .val (.long l3), .second, .val (.int (0 : Int32)), .val (.int mode), .val (.long vv), .second, .val (.ref b5), .val (.ref b11), .val (.int (-1 : Int32))] [(.ref b11)])) t
        refine XS.lload X14.here hx rfl (hb hby at_305) rfl ?_
        show Steps p.tables e below (T14.setTop (mkF m 307 #[.val (.int p0), .val (.long q1), .second, .val (.long q2), .second, .val (.long q3), .second, .val (.long q4), .second, .val (.long q5), .second, .val (.long (1152921504606846975 : Int64)), .second, .val (.long l0), .second, .val (.long l1), .second, .val (.long l2), .second, .val (.long l3), .second, .val (.int (0 : Int32)), .val (.int mode), .val (.long vv), .second, .val (.ref b5), .val (.ref b11), .val (.int (-1 : Int32))] [(.long vv), (.ref b11)])) t
        exact kt
      refine own_callVp X14 hx hZ hown rfl (hw _ (List.mem_of_getElem? (i := 78) rfl)) (hw _ (List.mem_of_getElem? (i := 79) rfl)) (notFace_of_selects (args := #[]) (mvT hZ (hw _ (List.mem_of_getElem? (i := 81) rfl)))) (hw _ (List.mem_of_getElem? (i := 81) rfl)) (hw _ (List.mem_of_getElem? (i := 80) rfl)) (hw _ (List.mem_of_getElem? (i := 44) rfl)) (hw _ (List.mem_of_getElem? (i := 82) rfl)) (by decide) (rm7 l Z aw hw b11 vv r12 (fun _ => (0 : Int64)) (0 : Int32) 0 T14.heap n0 ZKq14 Pq14_1 Pq14_4 Ar_r12 (by decide) (by decide) own_p0) Pq14_0 (g := (mkF m 307 #[.val (.int p0), .val (.long q1), .second, .val (.long q2), .second, .val (.long q3), .second, .val (.long q4), .second, .val (.long q5), .second, .val (.long (1152921504606846975 : Int64)), .second, .val (.long l0), .second, .val (.long l1), .second, .val (.long l2), .second, .val (.long l3), .second, .val (.int (0 : Int32)), .val (.int mode), .val (.long vv), .second, .val (.ref b5), .val (.ref b11), .val (.int (-1 : Int32))] [(.long vv), (.ref b11)])) rfl (by rw [hml]; rfl) (argsL := [(.long vv)]) (rest := []) (lenOf pd_5 rfl) rfl rfl (W := 0) (by show 2 * 0 + _ ≤ _; exact Nat.le_of_eq rfl) (hb hby at_307) (by decide) (by decide) (by decide) (by decide) ?_
      intro T15 X15 e15
      refine own_go (T' := T15) (f' := (mkF m 320 #[.val (.int p0), .val (.long q1), .second, .val (.long q2), .second, .val (.long q3), .second, .val (.long q4), .second, .val (.long q5), .second, .val (.long (1152921504606846975 : Int64)), .second, .val (.long l0), .second, .val (.long l1), .second, .val (.long l2), .second, .val (.long l3), .second, .val (.int (0 : Int32)), .val (.int mode), .val (.long vv), .second, .val (.ref b5), .val (.ref b11), .val (.int (-1 : Int32))] [(.int (1 : Int32))])) (fun t kt => ?_) ?_
      · show Steps p.tables e below (T15.setTop (mkF m 310 #[.val (.int p0), .val (.long q1), .second, .val (.long q2), .second, .val (.long q3), .second, .val (.long q4), .second, .val (.long q5), .second, .val (.long (1152921504606846975 : Int64)), .second, .val (.long l0), .second, .val (.long l1), .second, .val (.long l2), .second, .val (.long l3), .second, .val (.int (0 : Int32)), .val (.int mode), .val (.long vv), .second, .val (.ref b5), .val (.ref b11), .val (.int (-1 : Int32))] [(.int ((Int32.ofNat (own_cl 0 (fun _ => (0 : Int64)) vv)) - (1 : Int32)))])) t
        refine XS.iload X15.here hx rfl (hb hby at_310) rfl ?_
        show Steps p.tables e below (T15.setTop (mkF m 312 #[.val (.int p0), .val (.long q1), .second, .val (.long q2), .second, .val (.long q3), .second, .val (.long q4), .second, .val (.long q5), .second, .val (.long (1152921504606846975 : Int64)), .second, .val (.long l0), .second, .val (.long l1), .second, .val (.long l2), .second, .val (.long l3), .second, .val (.int (0 : Int32)), .val (.int mode), .val (.long vv), .second, .val (.ref b5), .val (.ref b11), .val (.int (-1 : Int32))] [(.int (-1 : Int32)), (.int ((Int32.ofNat (own_cl 0 (fun _ => (0 : Int64)) vv)) - (1 : Int32)))])) t
        refine XS.icmpNo X15.here hx rfl (hb hby at_312) rfl (teq (show ((Int32.ofNat (own_cl 0 (fun _ => (0 : Int64)) vv)) - (1 : Int32)) = (-1 : Int32) from own_v0)).2 ?_
        show Steps p.tables e below (T15.setTop (mkF m 315 #[.val (.int p0), .val (.long q1), .second, .val (.long q2), .second, .val (.long q3), .second, .val (.long q4), .second, .val (.long q5), .second, .val (.long (1152921504606846975 : Int64)), .second, .val (.long l0), .second, .val (.long l1), .second, .val (.long l2), .second, .val (.long l3), .second, .val (.int (0 : Int32)), .val (.int mode), .val (.long vv), .second, .val (.ref b5), .val (.ref b11), .val (.int (-1 : Int32))] [])) t
        refine XS.iconst X15.here hx rfl (hb hby at_315) ?_
        show Steps p.tables e below (T15.setTop (mkF m 316 #[.val (.int p0), .val (.long q1), .second, .val (.long q2), .second, .val (.long q3), .second, .val (.long q4), .second, .val (.long q5), .second, .val (.long (1152921504606846975 : Int64)), .second, .val (.long l0), .second, .val (.long l1), .second, .val (.long l2), .second, .val (.long l3), .second, .val (.int (0 : Int32)), .val (.int mode), .val (.long vv), .second, .val (.ref b5), .val (.ref b11), .val (.int (-1 : Int32))] [(.int (1 : Int32))])) t
        refine XS.goto X15.here hx rfl (pc0 := 316) (pc' := 320) rfl (hb hby at_316) (by decide) (by decide) ?_
        show Steps p.tables e below (T15.setTop (mkF m 320 #[.val (.int p0), .val (.long q1), .second, .val (.long q2), .second, .val (.long q3), .second, .val (.long q4), .second, .val (.long q5), .second, .val (.long (1152921504606846975 : Int64)), .second, .val (.long l0), .second, .val (.long l1), .second, .val (.long l2), .second, .val (.long l3), .second, .val (.int (0 : Int32)), .val (.int mode), .val (.long vv), .second, .val (.ref b5), .val (.ref b11), .val (.int (-1 : Int32))] [(.int (1 : Int32))])) t
        exact kt
      exact own_retNW X15 hP hx hlk e15 hS kzKq14 (t := .boolean) hret (by simp) (hb hby at_320) (by decide) (by decide) (z' := (1 : Int32)) rfl ⟨rfl, N14⟩
    · rw [hn5]
      refine own_go (T' := T14) (f' := (mkF m 191 #[.val (.int p0), .val (.long q1), .second, .val (.long q2), .second, .val (.long q3), .second, .val (.long q4), .second, .val (.long q5), .second, .val (.long (1152921504606846975 : Int64)), .second, .val (.long l0), .second, .val (.long l1), .second, .val (.long l2), .second, .val (.long l3), .second, .val (.int (1 : Int32)), .val (.int mode), .val (.long vv), .second, .val (.ref b5), .val (.ref b11), .unset] [(.long l0), (.ref b11)])) (fun t kt => ?_) ?_
      · show Steps p.tables e below (T14.setTop (mkF m 182 #[.val (.int p0), .val (.long q1), .second, .val (.long q2), .second, .val (.long q3), .second, .val (.long q4), .second, .val (.long q5), .second, .val (.long (1152921504606846975 : Int64)), .second, .val (.long l0), .second, .val (.long l1), .second, .val (.long l2), .second, .val (.long l3), .second, .val (.int (1 : Int32)), .val (.int mode), .val (.long vv), .second, .val (.ref b5), .val (.ref b11), .unset] [])) t
        refine XS.iload X14.here hx rfl (hb hby at_182) rfl ?_
        show Steps p.tables e below (T14.setTop (mkF m 184 #[.val (.int p0), .val (.long q1), .second, .val (.long q2), .second, .val (.long q3), .second, .val (.long q4), .second, .val (.long q5), .second, .val (.long (1152921504606846975 : Int64)), .second, .val (.long l0), .second, .val (.long l1), .second, .val (.long l2), .second, .val (.long l3), .second, .val (.int (1 : Int32)), .val (.int mode), .val (.long vv), .second, .val (.ref b5), .val (.ref b11), .unset] [(.int (1 : Int32))])) t
        refine XS.ifNo X14.here hx rfl (hb hby at_184) rfl (by decide) ?_
        show Steps p.tables e below (T14.setTop (mkF m 187 #[.val (.int p0), .val (.long q1), .second, .val (.long q2), .second, .val (.long q3), .second, .val (.long q4), .second, .val (.long q5), .second, .val (.long (1152921504606846975 : Int64)), .second, .val (.long l0), .second, .val (.long l1), .second, .val (.long l2), .second, .val (.long l3), .second, .val (.int (1 : Int32)), .val (.int mode), .val (.long vv), .second, .val (.ref b5), .val (.ref b11), .unset] [])) t
        refine XS.aload X14.here hx rfl (hb hby at_187) rfl rfl ?_
        show Steps p.tables e below (T14.setTop (mkF m 189 #[.val (.int p0), .val (.long q1), .second, .val (.long q2), .second, .val (.long q3), .second, .val (.long q4), .second, .val (.long q5), .second, .val (.long (1152921504606846975 : Int64)), .second, .val (.long l0), .second, .val (.long l1), .second, .val (.long l2), .second, .val (.long l3), .second, .val (.int (1 : Int32)), .val (.int mode), .val (.long vv), .second, .val (.ref b5), .val (.ref b11), .unset] [(.ref b11)])) t
        refine XS.lload X14.here hx rfl (hb hby at_189) rfl ?_
        show Steps p.tables e below (T14.setTop (mkF m 191 #[.val (.int p0), .val (.long q1), .second, .val (.long q2), .second, .val (.long q3), .second, .val (.long q4), .second, .val (.long q5), .second, .val (.long (1152921504606846975 : Int64)), .second, .val (.long l0), .second, .val (.long l1), .second, .val (.long l2), .second, .val (.long l3), .second, .val (.int (1 : Int32)), .val (.int mode), .val (.long vv), .second, .val (.ref b5), .val (.ref b11), .unset] [(.long l0), (.ref b11)])) t
        exact kt
      refine own_callV X14 hx hZ hown rfl (hw _ (List.mem_of_getElem? (i := 83) rfl)) (hw _ (List.mem_of_getElem? (i := 84) rfl)) (notFace_of_selects (args := #[]) (mvT hZ (hw _ (List.mem_of_getElem? (i := 86) rfl)))) (hw _ (List.mem_of_getElem? (i := 86) rfl)) (hw _ (List.mem_of_getElem? (i := 85) rfl)) (hw _ (List.mem_of_getElem? (i := 44) rfl)) (hw _ (List.mem_of_getElem? (i := 87) rfl)) (by decide) (rm8 l Z aw hw b11 l0 r12 4 (fun _ => (0 : Int64)) (0 : Int32) 0 (.int ((own_z (¬ ((p0 &&& (256 : Int32)) = (0 : Int32)))) &&& (1 : Int32))) (.long (0 : Int64)) T14.heap n0 ZKq14 Pq14_0 g_b11 g_r12 (ne_b11_r12) (ne_r12_b11) Pq14_1 Pq14_4 Pq14_2 Pq14_3 Ar_r12 (by decide) (by decide)) Pq14_0 (g := (mkF m 191 #[.val (.int p0), .val (.long q1), .second, .val (.long q2), .second, .val (.long q3), .second, .val (.long q4), .second, .val (.long q5), .second, .val (.long (1152921504606846975 : Int64)), .second, .val (.long l0), .second, .val (.long l1), .second, .val (.long l2), .second, .val (.long l3), .second, .val (.int (1 : Int32)), .val (.int mode), .val (.long vv), .second, .val (.ref b5), .val (.ref b11), .unset] [(.long l0), (.ref b11)])) rfl (by rw [hml]; rfl) (argsL := [(.long l0)]) (rest := []) (lenOf pd_6 rfl) rfl rfl (W := 0) (by show 2 * 0 + _ ≤ _; exact Nat.le_of_eq rfl) (hb hby at_191) (by decide) (by decide) (by decide) (by decide) ?_
      rintro _ T16 L16 X16 ⟨rfl, Nq16, Kq16, Pq16_0, Pq16_1, Pq16_2, Pq16_3, Pq16_4, Pq16_5⟩
      have N16 := Fr.app N14 Nq16
      replace Pq10_0 := (Pq10_0.keep Kq16)
      replace F_r10 := (F_r10.keep Kq16 (ninS (ne_b5_b11) (ninS (ne_b5_r12) nin0)))
      replace Ar_r10 := (Ar_r10.keep Kq16 (ninS (ne_r10_b11) (ninS (ne_r10_r12) nin0)))
      replace Pq14_0 := (Pq14_0.keep Kq16)
      have ZKq16 : n0 ≤ T16.heap.size := Nat.le_trans ZKq14 Kq16.1
      have KKKq16 := KKKq14.trans Kq16 ((allS (Or.inr sz_b11) (allS (Or.inr sz_r12) all0)))
      have kzKq16 := Nat.le_trans kzKq14 Kq16.1
      obtain ⟨f1, hf1⟩ : ∃ z, z = (own_set (fun _ => (0 : Int64)) 0 l0) := ⟨_, rfl⟩
      rw [← hf1] at Pq16_5
      refine own_go (T' := T16) (f' := (mkF m 246 #[.val (.int p0), .val (.long q1), .second, .val (.long q2), .second, .val (.long q3), .second, .val (.long q4), .second, .val (.long q5), .second, .val (.long (1152921504606846975 : Int64)), .second, .val (.long l0), .second, .val (.long l1), .second, .val (.long l2), .second, .val (.long l3), .second, .val (.int (1 : Int32)), .val (.int mode), .val (.long vv), .second, .val (.ref b5), .val (.ref b11), .val (.int (-1 : Int32))] [(.int (lcmpW l0 vv))])) (fun t kt => ?_) ?_
      · show Steps p.tables e below (T16.setTop (mkF m 194 #[.val (.int p0), .val (.long q1), .second, .val (.long q2), .second, .val (.long q3), .second, .val (.long q4), .second, .val (.long q5), .second, .val (.long (1152921504606846975 : Int64)), .second, .val (.long l0), .second, .val (.long l1), .second, .val (.long l2), .second, .val (.long l3), .second, .val (.int (1 : Int32)), .val (.int mode), .val (.long vv), .second, .val (.ref b5), .val (.ref b11), .unset] [])) t
        refine XS.iload X16.here hx rfl (hb hby at_194) rfl ?_
        show Steps p.tables e below (T16.setTop (mkF m 196 #[.val (.int p0), .val (.long q1), .second, .val (.long q2), .second, .val (.long q3), .second, .val (.long q4), .second, .val (.long q5), .second, .val (.long (1152921504606846975 : Int64)), .second, .val (.long l0), .second, .val (.long l1), .second, .val (.long l2), .second, .val (.long l3), .second, .val (.int (1 : Int32)), .val (.int mode), .val (.long vv), .second, .val (.ref b5), .val (.ref b11), .unset] [(.int (1 : Int32))])) t
        refine XS.iconst X16.here hx rfl (hb hby at_196) ?_
        show Steps p.tables e below (T16.setTop (mkF m 197 #[.val (.int p0), .val (.long q1), .second, .val (.long q2), .second, .val (.long q3), .second, .val (.long q4), .second, .val (.long q5), .second, .val (.long (1152921504606846975 : Int64)), .second, .val (.long l0), .second, .val (.long l1), .second, .val (.long l2), .second, .val (.long l3), .second, .val (.int (1 : Int32)), .val (.int mode), .val (.long vv), .second, .val (.ref b5), .val (.ref b11), .unset] [(.int (1 : Int32)), (.int (1 : Int32))])) t
        refine XS.icmpYes X16.here hx rfl (pc0 := 197) (pc' := 207) rfl (hb hby at_197) rfl (by decide) (by decide) (by decide) ?_
        show Steps p.tables e below (T16.setTop (mkF m 207 #[.val (.int p0), .val (.long q1), .second, .val (.long q2), .second, .val (.long q3), .second, .val (.long q4), .second, .val (.long q5), .second, .val (.long (1152921504606846975 : Int64)), .second, .val (.long l0), .second, .val (.long l1), .second, .val (.long l2), .second, .val (.long l3), .second, .val (.int (1 : Int32)), .val (.int mode), .val (.long vv), .second, .val (.ref b5), .val (.ref b11), .unset] [])) t
        refine XS.iload X16.here hx rfl (hb hby at_207) rfl ?_
        show Steps p.tables e below (T16.setTop (mkF m 209 #[.val (.int p0), .val (.long q1), .second, .val (.long q2), .second, .val (.long q3), .second, .val (.long q4), .second, .val (.long q5), .second, .val (.long (1152921504606846975 : Int64)), .second, .val (.long l0), .second, .val (.long l1), .second, .val (.long l2), .second, .val (.long l3), .second, .val (.int (1 : Int32)), .val (.int mode), .val (.long vv), .second, .val (.ref b5), .val (.ref b11), .unset] [(.int (1 : Int32))])) t
        refine XS.iconst X16.here hx rfl (hb hby at_209) ?_
        show Steps p.tables e below (T16.setTop (mkF m 210 #[.val (.int p0), .val (.long q1), .second, .val (.long q2), .second, .val (.long q3), .second, .val (.long q4), .second, .val (.long q5), .second, .val (.long (1152921504606846975 : Int64)), .second, .val (.long l0), .second, .val (.long l1), .second, .val (.long l2), .second, .val (.long l3), .second, .val (.int (1 : Int32)), .val (.int mode), .val (.long vv), .second, .val (.ref b5), .val (.ref b11), .unset] [(.int (2 : Int32)), (.int (1 : Int32))])) t
        refine XS.icmpYes X16.here hx rfl (pc0 := 210) (pc' := 220) rfl (hb hby at_210) rfl (by decide) (by decide) (by decide) ?_
        show Steps p.tables e below (T16.setTop (mkF m 220 #[.val (.int p0), .val (.long q1), .second, .val (.long q2), .second, .val (.long q3), .second, .val (.long q4), .second, .val (.long q5), .second, .val (.long (1152921504606846975 : Int64)), .second, .val (.long l0), .second, .val (.long l1), .second, .val (.long l2), .second, .val (.long l3), .second, .val (.int (1 : Int32)), .val (.int mode), .val (.long vv), .second, .val (.ref b5), .val (.ref b11), .unset] [])) t
        refine XS.iload X16.here hx rfl (hb hby at_220) rfl ?_
        show Steps p.tables e below (T16.setTop (mkF m 222 #[.val (.int p0), .val (.long q1), .second, .val (.long q2), .second, .val (.long q3), .second, .val (.long q4), .second, .val (.long q5), .second, .val (.long (1152921504606846975 : Int64)), .second, .val (.long l0), .second, .val (.long l1), .second, .val (.long l2), .second, .val (.long l3), .second, .val (.int (1 : Int32)), .val (.int mode), .val (.long vv), .second, .val (.ref b5), .val (.ref b11), .unset] [(.int (1 : Int32))])) t
        refine XS.iconst X16.here hx rfl (hb hby at_222) ?_
        show Steps p.tables e below (T16.setTop (mkF m 223 #[.val (.int p0), .val (.long q1), .second, .val (.long q2), .second, .val (.long q3), .second, .val (.long q4), .second, .val (.long q5), .second, .val (.long (1152921504606846975 : Int64)), .second, .val (.long l0), .second, .val (.long l1), .second, .val (.long l2), .second, .val (.long l3), .second, .val (.int (1 : Int32)), .val (.int mode), .val (.long vv), .second, .val (.ref b5), .val (.ref b11), .unset] [(.int (3 : Int32)), (.int (1 : Int32))])) t
        refine XS.icmpYes X16.here hx rfl (pc0 := 223) (pc' := 233) rfl (hb hby at_223) rfl (by decide) (by decide) (by decide) ?_
        show Steps p.tables e below (T16.setTop (mkF m 233 #[.val (.int p0), .val (.long q1), .second, .val (.long q2), .second, .val (.long q3), .second, .val (.long q4), .second, .val (.long q5), .second, .val (.long (1152921504606846975 : Int64)), .second, .val (.long l0), .second, .val (.long l1), .second, .val (.long l2), .second, .val (.long l3), .second, .val (.int (1 : Int32)), .val (.int mode), .val (.long vv), .second, .val (.ref b5), .val (.ref b11), .unset] [])) t
        refine XS.iconst X16.here hx rfl (hb hby at_233) ?_
        show Steps p.tables e below (T16.setTop (mkF m 234 #[.val (.int p0), .val (.long q1), .second, .val (.long q2), .second, .val (.long q3), .second, .val (.long q4), .second, .val (.long q5), .second, .val (.long (1152921504606846975 : Int64)), .second, .val (.long l0), .second, .val (.long l1), .second, .val (.long l2), .second, .val (.long l3), .second, .val (.int (1 : Int32)), .val (.int mode), .val (.long vv), .second, .val (.ref b5), .val (.ref b11), .unset] [(.int (-1 : Int32))])) t
        refine XS.istore X16.here hx rfl (hb hby at_234) rfl (l' := #[.val (.int p0), .val (.long q1), .second, .val (.long q2), .second, .val (.long q3), .second, .val (.long q4), .second, .val (.long q5), .second, .val (.long (1152921504606846975 : Int64)), .second, .val (.long l0), .second, .val (.long l1), .second, .val (.long l2), .second, .val (.long l3), .second, .val (.int (1 : Int32)), .val (.int mode), .val (.long vv), .second, .val (.ref b5), .val (.ref b11), .val (.int (-1 : Int32))]) rfl ?_
        show Steps p.tables e below (T16.setTop (mkF m 236 #[.val (.int p0), .val (.long q1), .second, .val (.long q2), .second, .val (.long q3), .second, .val (.long q4), .second, .val (.long q5), .second, .val (.long (1152921504606846975 : Int64)), .second, .val (.long l0), .second, .val (.long l1), .second, .val (.long l2), .second, .val (.long l3), .second, .val (.int (1 : Int32)), .val (.int mode), .val (.long vv), .second, .val (.ref b5), .val (.ref b11), .val (.int (-1 : Int32))] [])) t
        refine XS.iload X16.here hx rfl (hb hby at_236) rfl ?_
        show Steps p.tables e below (T16.setTop (mkF m 238 #[.val (.int p0), .val (.long q1), .second, .val (.long q2), .second, .val (.long q3), .second, .val (.long q4), .second, .val (.long q5), .second, .val (.long (1152921504606846975 : Int64)), .second, .val (.long l0), .second, .val (.long l1), .second, .val (.long l2), .second, .val (.long l3), .second, .val (.int (1 : Int32)), .val (.int mode), .val (.long vv), .second, .val (.ref b5), .val (.ref b11), .val (.int (-1 : Int32))] [(.int (1 : Int32))])) t
        refine XS.ifNo X16.here hx rfl (hb hby at_238) rfl (by decide) ?_
        show Steps p.tables e below (T16.setTop (mkF m 241 #[.val (.int p0), .val (.long q1), .second, .val (.long q2), .second, .val (.long q3), .second, .val (.long q4), .second, .val (.long q5), .second, .val (.long (1152921504606846975 : Int64)), .second, .val (.long l0), .second, .val (.long l1), .second, .val (.long l2), .second, .val (.long l3), .second, .val (.int (1 : Int32)), .val (.int mode), .val (.long vv), .second, .val (.ref b5), .val (.ref b11), .val (.int (-1 : Int32))] [])) t
        refine XS.lload X16.here hx rfl (hb hby at_241) rfl ?_
        show Steps p.tables e below (T16.setTop (mkF m 243 #[.val (.int p0), .val (.long q1), .second, .val (.long q2), .second, .val (.long q3), .second, .val (.long q4), .second, .val (.long q5), .second, .val (.long (1152921504606846975 : Int64)), .second, .val (.long l0), .second, .val (.long l1), .second, .val (.long l2), .second, .val (.long l3), .second, .val (.int (1 : Int32)), .val (.int mode), .val (.long vv), .second, .val (.ref b5), .val (.ref b11), .val (.int (-1 : Int32))] [(.long l0)])) t
        refine XS.lload X16.here hx rfl (hb hby at_243) rfl ?_
        show Steps p.tables e below (T16.setTop (mkF m 245 #[.val (.int p0), .val (.long q1), .second, .val (.long q2), .second, .val (.long q3), .second, .val (.long q4), .second, .val (.long q5), .second, .val (.long (1152921504606846975 : Int64)), .second, .val (.long l0), .second, .val (.long l1), .second, .val (.long l2), .second, .val (.long l3), .second, .val (.int (1 : Int32)), .val (.int mode), .val (.long vv), .second, .val (.ref b5), .val (.ref b11), .val (.int (-1 : Int32))] [(.long vv), (.long l0)])) t
        refine XS.lcmp X16.here hx rfl (hb hby at_245) rfl ?_
        show Steps p.tables e below (T16.setTop (mkF m 246 #[.val (.int p0), .val (.long q1), .second, .val (.long q2), .second, .val (.long q3), .second, .val (.long q4), .second, .val (.long q5), .second, .val (.long (1152921504606846975 : Int64)), .second, .val (.long l0), .second, .val (.long l1), .second, .val (.long l2), .second, .val (.long l3), .second, .val (.int (1 : Int32)), .val (.int mode), .val (.long vv), .second, .val (.ref b5), .val (.ref b11), .val (.int (-1 : Int32))] [(.int (lcmpW l0 vv))])) t
        exact kt
      refine own_go (T' := T16) (f' := (mkF m 252 #[.val (.int p0), .val (.long q1), .second, .val (.long q2), .second, .val (.long q3), .second, .val (.long q4), .second, .val (.long q5), .second, .val (.long (1152921504606846975 : Int64)), .second, .val (.long l0), .second, .val (.long l1), .second, .val (.long l2), .second, .val (.long l3), .second, .val (.int (1 : Int32)), .val (.int mode), .val (.long vv), .second, .val (.ref b5), .val (.ref b11), .val (.int (if vv < l0 then (-1 : Int32) else (0 : Int32)))] [])) (fun t kt => ?_) ?_
      · by_cases hc246_17 : vv < l0
        · show Steps p.tables e below (T16.setTop (mkF m 246 #[.val (.int p0), .val (.long q1), .second, .val (.long q2), .second, .val (.long q3), .second, .val (.long q4), .second, .val (.long q5), .second, .val (.long (1152921504606846975 : Int64)), .second, .val (.long l0), .second, .val (.long l1), .second, .val (.long l2), .second, .val (.long l3), .second, .val (.int (1 : Int32)), .val (.int mode), .val (.long vv), .second, .val (.ref b5), .val (.ref b11), .val (.int (-1 : Int32))] [(.int (lcmpW l0 vv))])) t
          refine XS.ifYes X16.here hx rfl (pc0 := 246) (pc' := 252) rfl (hb hby at_246) rfl (own_lY_gt hc246_17) (by decide) (by decide) ?_
          show Steps p.tables e below (T16.setTop (mkF m 252 #[.val (.int p0), .val (.long q1), .second, .val (.long q2), .second, .val (.long q3), .second, .val (.long q4), .second, .val (.long q5), .second, .val (.long (1152921504606846975 : Int64)), .second, .val (.long l0), .second, .val (.long l1), .second, .val (.long l2), .second, .val (.long l3), .second, .val (.int (1 : Int32)), .val (.int mode), .val (.long vv), .second, .val (.ref b5), .val (.ref b11), .val (.int (-1 : Int32))] [])) t
          rw [if_pos hc246_17] at kt
          exact kt
        · show Steps p.tables e below (T16.setTop (mkF m 246 #[.val (.int p0), .val (.long q1), .second, .val (.long q2), .second, .val (.long q3), .second, .val (.long q4), .second, .val (.long q5), .second, .val (.long (1152921504606846975 : Int64)), .second, .val (.long l0), .second, .val (.long l1), .second, .val (.long l2), .second, .val (.long l3), .second, .val (.int (1 : Int32)), .val (.int mode), .val (.long vv), .second, .val (.ref b5), .val (.ref b11), .val (.int (-1 : Int32))] [(.int (lcmpW l0 vv))])) t
          refine XS.ifNo X16.here hx rfl (hb hby at_246) rfl (own_lN_gt hc246_17) ?_
          show Steps p.tables e below (T16.setTop (mkF m 249 #[.val (.int p0), .val (.long q1), .second, .val (.long q2), .second, .val (.long q3), .second, .val (.long q4), .second, .val (.long q5), .second, .val (.long (1152921504606846975 : Int64)), .second, .val (.long l0), .second, .val (.long l1), .second, .val (.long l2), .second, .val (.long l3), .second, .val (.int (1 : Int32)), .val (.int mode), .val (.long vv), .second, .val (.ref b5), .val (.ref b11), .val (.int (-1 : Int32))] [])) t
          refine XS.iconst X16.here hx rfl (hb hby at_249) ?_
          show Steps p.tables e below (T16.setTop (mkF m 250 #[.val (.int p0), .val (.long q1), .second, .val (.long q2), .second, .val (.long q3), .second, .val (.long q4), .second, .val (.long q5), .second, .val (.long (1152921504606846975 : Int64)), .second, .val (.long l0), .second, .val (.long l1), .second, .val (.long l2), .second, .val (.long l3), .second, .val (.int (1 : Int32)), .val (.int mode), .val (.long vv), .second, .val (.ref b5), .val (.ref b11), .val (.int (-1 : Int32))] [(.int (0 : Int32))])) t
          refine XS.istore X16.here hx rfl (hb hby at_250) rfl (l' := #[.val (.int p0), .val (.long q1), .second, .val (.long q2), .second, .val (.long q3), .second, .val (.long q4), .second, .val (.long q5), .second, .val (.long (1152921504606846975 : Int64)), .second, .val (.long l0), .second, .val (.long l1), .second, .val (.long l2), .second, .val (.long l3), .second, .val (.int (1 : Int32)), .val (.int mode), .val (.long vv), .second, .val (.ref b5), .val (.ref b11), .val (.int (0 : Int32))]) rfl ?_
          show Steps p.tables e below (T16.setTop (mkF m 252 #[.val (.int p0), .val (.long q1), .second, .val (.long q2), .second, .val (.long q3), .second, .val (.long q4), .second, .val (.long q5), .second, .val (.long (1152921504606846975 : Int64)), .second, .val (.long l0), .second, .val (.long l1), .second, .val (.long l2), .second, .val (.long l3), .second, .val (.int (1 : Int32)), .val (.int mode), .val (.long vv), .second, .val (.ref b5), .val (.ref b11), .val (.int (0 : Int32))] [])) t
          rw [if_neg hc246_17] at kt
          exact kt
      refine own_go (T' := T16) (f' := (mkF m 307 #[.val (.int p0), .val (.long q1), .second, .val (.long q2), .second, .val (.long q3), .second, .val (.long q4), .second, .val (.long q5), .second, .val (.long (1152921504606846975 : Int64)), .second, .val (.long l0), .second, .val (.long l1), .second, .val (.long l2), .second, .val (.long l3), .second, .val (.int (1 : Int32)), .val (.int mode), .val (.long vv), .second, .val (.ref b5), .val (.ref b11), .val (.int (if vv < l0 then (-1 : Int32) else (0 : Int32)))] [(.long vv), (.ref b11)])) (fun t kt => ?_) ?_
      · show Steps p.tables e below (T16.setTop (mkF m 252 #[.val (.int p0), .val (.long q1), .second, .val (.long q2), .second, .val (.long q3), .second, .val (.long q4), .second, .val (.long q5), .second, .val (.long (1152921504606846975 : Int64)), .second, .val (.long l0), .second, .val (.long l1), .second, .val (.long l2), .second, .val (.long l3), .second, .val (.int (1 : Int32)), .val (.int mode), .val (.long vv), .second, .val (.ref b5), .val (.ref b11), .val (.int (if vv < l0 then (-1 : Int32) else (0 : Int32)))] [])) t
        refine XS.iload X16.here hx rfl (hb hby at_252) rfl ?_
        show Steps p.tables e below (T16.setTop (mkF m 254 #[.val (.int p0), .val (.long q1), .second, .val (.long q2), .second, .val (.long q3), .second, .val (.long q4), .second, .val (.long q5), .second, .val (.long (1152921504606846975 : Int64)), .second, .val (.long l0), .second, .val (.long l1), .second, .val (.long l2), .second, .val (.long l3), .second, .val (.int (1 : Int32)), .val (.int mode), .val (.long vv), .second, .val (.ref b5), .val (.ref b11), .val (.int (if vv < l0 then (-1 : Int32) else (0 : Int32)))] [(.int (1 : Int32))])) t
        refine XS.iconst X16.here hx rfl (hb hby at_254) ?_
        show Steps p.tables e below (T16.setTop (mkF m 255 #[.val (.int p0), .val (.long q1), .second, .val (.long q2), .second, .val (.long q3), .second, .val (.long q4), .second, .val (.long q5), .second, .val (.long (1152921504606846975 : Int64)), .second, .val (.long l0), .second, .val (.long l1), .second, .val (.long l2), .second, .val (.long l3), .second, .val (.int (1 : Int32)), .val (.int mode), .val (.long vv), .second, .val (.ref b5), .val (.ref b11), .val (.int (if vv < l0 then (-1 : Int32) else (0 : Int32)))] [(.int (1 : Int32)), (.int (1 : Int32))])) t
        refine XS.icmpYes X16.here hx rfl (pc0 := 255) (pc' := 269) rfl (hb hby at_255) rfl (by decide) (by decide) (by decide) ?_
        show Steps p.tables e below (T16.setTop (mkF m 269 #[.val (.int p0), .val (.long q1), .second, .val (.long q2), .second, .val (.long q3), .second, .val (.long q4), .second, .val (.long q5), .second, .val (.long (1152921504606846975 : Int64)), .second, .val (.long l0), .second, .val (.long l1), .second, .val (.long l2), .second, .val (.long l3), .second, .val (.int (1 : Int32)), .val (.int mode), .val (.long vv), .second, .val (.ref b5), .val (.ref b11), .val (.int (if vv < l0 then (-1 : Int32) else (0 : Int32)))] [])) t
        refine XS.iload X16.here hx rfl (hb hby at_269) rfl ?_
        show Steps p.tables e below (T16.setTop (mkF m 271 #[.val (.int p0), .val (.long q1), .second, .val (.long q2), .second, .val (.long q3), .second, .val (.long q4), .second, .val (.long q5), .second, .val (.long (1152921504606846975 : Int64)), .second, .val (.long l0), .second, .val (.long l1), .second, .val (.long l2), .second, .val (.long l3), .second, .val (.int (1 : Int32)), .val (.int mode), .val (.long vv), .second, .val (.ref b5), .val (.ref b11), .val (.int (if vv < l0 then (-1 : Int32) else (0 : Int32)))] [(.int (1 : Int32))])) t
        refine XS.iconst X16.here hx rfl (hb hby at_271) ?_
        show Steps p.tables e below (T16.setTop (mkF m 272 #[.val (.int p0), .val (.long q1), .second, .val (.long q2), .second, .val (.long q3), .second, .val (.long q4), .second, .val (.long q5), .second, .val (.long (1152921504606846975 : Int64)), .second, .val (.long l0), .second, .val (.long l1), .second, .val (.long l2), .second, .val (.long l3), .second, .val (.int (1 : Int32)), .val (.int mode), .val (.long vv), .second, .val (.ref b5), .val (.ref b11), .val (.int (if vv < l0 then (-1 : Int32) else (0 : Int32)))] [(.int (2 : Int32)), (.int (1 : Int32))])) t
        refine XS.icmpYes X16.here hx rfl (pc0 := 272) (pc' := 286) rfl (hb hby at_272) rfl (by decide) (by decide) (by decide) ?_
        show Steps p.tables e below (T16.setTop (mkF m 286 #[.val (.int p0), .val (.long q1), .second, .val (.long q2), .second, .val (.long q3), .second, .val (.long q4), .second, .val (.long q5), .second, .val (.long (1152921504606846975 : Int64)), .second, .val (.long l0), .second, .val (.long l1), .second, .val (.long l2), .second, .val (.long l3), .second, .val (.int (1 : Int32)), .val (.int mode), .val (.long vv), .second, .val (.ref b5), .val (.ref b11), .val (.int (if vv < l0 then (-1 : Int32) else (0 : Int32)))] [])) t
        refine XS.iload X16.here hx rfl (hb hby at_286) rfl ?_
        show Steps p.tables e below (T16.setTop (mkF m 288 #[.val (.int p0), .val (.long q1), .second, .val (.long q2), .second, .val (.long q3), .second, .val (.long q4), .second, .val (.long q5), .second, .val (.long (1152921504606846975 : Int64)), .second, .val (.long l0), .second, .val (.long l1), .second, .val (.long l2), .second, .val (.long l3), .second, .val (.int (1 : Int32)), .val (.int mode), .val (.long vv), .second, .val (.ref b5), .val (.ref b11), .val (.int (if vv < l0 then (-1 : Int32) else (0 : Int32)))] [(.int (1 : Int32))])) t
        refine XS.iconst X16.here hx rfl (hb hby at_288) ?_
        show Steps p.tables e below (T16.setTop (mkF m 289 #[.val (.int p0), .val (.long q1), .second, .val (.long q2), .second, .val (.long q3), .second, .val (.long q4), .second, .val (.long q5), .second, .val (.long (1152921504606846975 : Int64)), .second, .val (.long l0), .second, .val (.long l1), .second, .val (.long l2), .second, .val (.long l3), .second, .val (.int (1 : Int32)), .val (.int mode), .val (.long vv), .second, .val (.ref b5), .val (.ref b11), .val (.int (if vv < l0 then (-1 : Int32) else (0 : Int32)))] [(.int (3 : Int32)), (.int (1 : Int32))])) t
        refine XS.icmpYes X16.here hx rfl (pc0 := 289) (pc' := 303) rfl (hb hby at_289) rfl (by decide) (by decide) (by decide) ?_
        show Steps p.tables e below (T16.setTop (mkF m 303 #[.val (.int p0), .val (.long q1), .second, .val (.long q2), .second, .val (.long q3), .second, .val (.long q4), .second, .val (.long q5), .second, .val (.long (1152921504606846975 : Int64)), .second, .val (.long l0), .second, .val (.long l1), .second, .val (.long l2), .second, .val (.long l3), .second, .val (.int (1 : Int32)), .val (.int mode), .val (.long vv), .second, .val (.ref b5), .val (.ref b11), .val (.int (if vv < l0 then (-1 : Int32) else (0 : Int32)))] [])) t
        refine XS.aload X16.here hx rfl (hb hby at_303) rfl rfl ?_
        show Steps p.tables e below (T16.setTop (mkF m 305 #[.val (.int p0), .val (.long q1), .second, .val (.long q2), .second, .val (.long q3), .second, .val (.long q4), .second, .val (.long q5), .second, .val (.long (1152921504606846975 : Int64)), .second, .val (.long l0), .second, .val (.long l1), .second, .val (.long l2), .second, .val (.long l3), .second, .val (.int (1 : Int32)), .val (.int mode), .val (.long vv), .second, .val (.ref b5), .val (.ref b11), .val (.int (if vv < l0 then (-1 : Int32) else (0 : Int32)))] [(.ref b11)])) t
        refine XS.lload X16.here hx rfl (hb hby at_305) rfl ?_
        show Steps p.tables e below (T16.setTop (mkF m 307 #[.val (.int p0), .val (.long q1), .second, .val (.long q2), .second, .val (.long q3), .second, .val (.long q4), .second, .val (.long q5), .second, .val (.long (1152921504606846975 : Int64)), .second, .val (.long l0), .second, .val (.long l1), .second, .val (.long l2), .second, .val (.long l3), .second, .val (.int (1 : Int32)), .val (.int mode), .val (.long vv), .second, .val (.ref b5), .val (.ref b11), .val (.int (if vv < l0 then (-1 : Int32) else (0 : Int32)))] [(.long vv), (.ref b11)])) t
        exact kt
      refine own_callVp X16 hx hZ hown rfl (hw _ (List.mem_of_getElem? (i := 78) rfl)) (hw _ (List.mem_of_getElem? (i := 79) rfl)) (notFace_of_selects (args := #[]) (mvT hZ (hw _ (List.mem_of_getElem? (i := 81) rfl)))) (hw _ (List.mem_of_getElem? (i := 81) rfl)) (hw _ (List.mem_of_getElem? (i := 80) rfl)) (hw _ (List.mem_of_getElem? (i := 44) rfl)) (hw _ (List.mem_of_getElem? (i := 82) rfl)) (by decide) (rm7 l Z aw hw b11 vv r12 f1 ((0 : Int32) + (1 : Int32)) 1 T16.heap n0 ZKq16 Pq16_1 Pq16_2 Pq16_5 (by decide) (by decide) (own_q1 hl0 hl1 hl2 hl3 hf1)) Pq16_0 (g := (mkF m 307 #[.val (.int p0), .val (.long q1), .second, .val (.long q2), .second, .val (.long q3), .second, .val (.long q4), .second, .val (.long q5), .second, .val (.long (1152921504606846975 : Int64)), .second, .val (.long l0), .second, .val (.long l1), .second, .val (.long l2), .second, .val (.long l3), .second, .val (.int (1 : Int32)), .val (.int mode), .val (.long vv), .second, .val (.ref b5), .val (.ref b11), .val (.int (if vv < l0 then (-1 : Int32) else (0 : Int32)))] [(.long vv), (.ref b11)])) rfl (by rw [hml]; rfl) (argsL := [(.long vv)]) (rest := []) (lenOf pd_5 rfl) rfl rfl (W := 0) (by show 2 * 0 + _ ≤ _; exact Nat.le_of_eq rfl) (hb hby at_307) (by decide) (by decide) (by decide) (by decide) ?_
      intro T18 X18 e18
      refine own_go (T' := T18) (f' := (mkF m 320 #[.val (.int p0), .val (.long q1), .second, .val (.long q2), .second, .val (.long q3), .second, .val (.long q4), .second, .val (.long q5), .second, .val (.long (1152921504606846975 : Int64)), .second, .val (.long l0), .second, .val (.long l1), .second, .val (.long l2), .second, .val (.long l3), .second, .val (.int (1 : Int32)), .val (.int mode), .val (.long vv), .second, .val (.ref b5), .val (.ref b11), .val (.int (if vv < l0 then (-1 : Int32) else (0 : Int32)))] [(.int (1 : Int32))])) (fun t kt => ?_) ?_
      · show Steps p.tables e below (T18.setTop (mkF m 310 #[.val (.int p0), .val (.long q1), .second, .val (.long q2), .second, .val (.long q3), .second, .val (.long q4), .second, .val (.long q5), .second, .val (.long (1152921504606846975 : Int64)), .second, .val (.long l0), .second, .val (.long l1), .second, .val (.long l2), .second, .val (.long l3), .second, .val (.int (1 : Int32)), .val (.int mode), .val (.long vv), .second, .val (.ref b5), .val (.ref b11), .val (.int (if vv < l0 then (-1 : Int32) else (0 : Int32)))] [(.int ((Int32.ofNat (own_cl 1 f1 vv)) - (1 : Int32)))])) t
        refine XS.iload X18.here hx rfl (hb hby at_310) rfl ?_
        show Steps p.tables e below (T18.setTop (mkF m 312 #[.val (.int p0), .val (.long q1), .second, .val (.long q2), .second, .val (.long q3), .second, .val (.long q4), .second, .val (.long q5), .second, .val (.long (1152921504606846975 : Int64)), .second, .val (.long l0), .second, .val (.long l1), .second, .val (.long l2), .second, .val (.long l3), .second, .val (.int (1 : Int32)), .val (.int mode), .val (.long vv), .second, .val (.ref b5), .val (.ref b11), .val (.int (if vv < l0 then (-1 : Int32) else (0 : Int32)))] [(.int (if vv < l0 then (-1 : Int32) else (0 : Int32))), (.int ((Int32.ofNat (own_cl 1 f1 vv)) - (1 : Int32)))])) t
        refine XS.icmpNo X18.here hx rfl (hb hby at_312) rfl (teq (show ((Int32.ofNat (own_cl 1 f1 vv)) - (1 : Int32)) = (if vv < l0 then (-1 : Int32) else (0 : Int32)) from own_v1 hl0 hl1 hl2 hl3 hf1)).2 ?_
        show Steps p.tables e below (T18.setTop (mkF m 315 #[.val (.int p0), .val (.long q1), .second, .val (.long q2), .second, .val (.long q3), .second, .val (.long q4), .second, .val (.long q5), .second, .val (.long (1152921504606846975 : Int64)), .second, .val (.long l0), .second, .val (.long l1), .second, .val (.long l2), .second, .val (.long l3), .second, .val (.int (1 : Int32)), .val (.int mode), .val (.long vv), .second, .val (.ref b5), .val (.ref b11), .val (.int (if vv < l0 then (-1 : Int32) else (0 : Int32)))] [])) t
        refine XS.iconst X18.here hx rfl (hb hby at_315) ?_
        show Steps p.tables e below (T18.setTop (mkF m 316 #[.val (.int p0), .val (.long q1), .second, .val (.long q2), .second, .val (.long q3), .second, .val (.long q4), .second, .val (.long q5), .second, .val (.long (1152921504606846975 : Int64)), .second, .val (.long l0), .second, .val (.long l1), .second, .val (.long l2), .second, .val (.long l3), .second, .val (.int (1 : Int32)), .val (.int mode), .val (.long vv), .second, .val (.ref b5), .val (.ref b11), .val (.int (if vv < l0 then (-1 : Int32) else (0 : Int32)))] [(.int (1 : Int32))])) t
        refine XS.goto X18.here hx rfl (pc0 := 316) (pc' := 320) rfl (hb hby at_316) (by decide) (by decide) ?_
        show Steps p.tables e below (T18.setTop (mkF m 320 #[.val (.int p0), .val (.long q1), .second, .val (.long q2), .second, .val (.long q3), .second, .val (.long q4), .second, .val (.long q5), .second, .val (.long (1152921504606846975 : Int64)), .second, .val (.long l0), .second, .val (.long l1), .second, .val (.long l2), .second, .val (.long l3), .second, .val (.int (1 : Int32)), .val (.int mode), .val (.long vv), .second, .val (.ref b5), .val (.ref b11), .val (.int (if vv < l0 then (-1 : Int32) else (0 : Int32)))] [(.int (1 : Int32))])) t
        exact kt
      exact own_retNW X18 hP hx hlk e18 hS kzKq16 (t := .boolean) hret (by simp) (hb hby at_320) (by decide) (by decide) (z' := (1 : Int32)) rfl ⟨rfl, N16⟩
    · rw [hn5]
      refine own_go (T' := T14) (f' := (mkF m 191 #[.val (.int p0), .val (.long q1), .second, .val (.long q2), .second, .val (.long q3), .second, .val (.long q4), .second, .val (.long q5), .second, .val (.long (1152921504606846975 : Int64)), .second, .val (.long l0), .second, .val (.long l1), .second, .val (.long l2), .second, .val (.long l3), .second, .val (.int (2 : Int32)), .val (.int mode), .val (.long vv), .second, .val (.ref b5), .val (.ref b11), .unset] [(.long l0), (.ref b11)])) (fun t kt => ?_) ?_
      · show Steps p.tables e below (T14.setTop (mkF m 182 #[.val (.int p0), .val (.long q1), .second, .val (.long q2), .second, .val (.long q3), .second, .val (.long q4), .second, .val (.long q5), .second, .val (.long (1152921504606846975 : Int64)), .second, .val (.long l0), .second, .val (.long l1), .second, .val (.long l2), .second, .val (.long l3), .second, .val (.int (2 : Int32)), .val (.int mode), .val (.long vv), .second, .val (.ref b5), .val (.ref b11), .unset] [])) t
        refine XS.iload X14.here hx rfl (hb hby at_182) rfl ?_
        show Steps p.tables e below (T14.setTop (mkF m 184 #[.val (.int p0), .val (.long q1), .second, .val (.long q2), .second, .val (.long q3), .second, .val (.long q4), .second, .val (.long q5), .second, .val (.long (1152921504606846975 : Int64)), .second, .val (.long l0), .second, .val (.long l1), .second, .val (.long l2), .second, .val (.long l3), .second, .val (.int (2 : Int32)), .val (.int mode), .val (.long vv), .second, .val (.ref b5), .val (.ref b11), .unset] [(.int (2 : Int32))])) t
        refine XS.ifNo X14.here hx rfl (hb hby at_184) rfl (by decide) ?_
        show Steps p.tables e below (T14.setTop (mkF m 187 #[.val (.int p0), .val (.long q1), .second, .val (.long q2), .second, .val (.long q3), .second, .val (.long q4), .second, .val (.long q5), .second, .val (.long (1152921504606846975 : Int64)), .second, .val (.long l0), .second, .val (.long l1), .second, .val (.long l2), .second, .val (.long l3), .second, .val (.int (2 : Int32)), .val (.int mode), .val (.long vv), .second, .val (.ref b5), .val (.ref b11), .unset] [])) t
        refine XS.aload X14.here hx rfl (hb hby at_187) rfl rfl ?_
        show Steps p.tables e below (T14.setTop (mkF m 189 #[.val (.int p0), .val (.long q1), .second, .val (.long q2), .second, .val (.long q3), .second, .val (.long q4), .second, .val (.long q5), .second, .val (.long (1152921504606846975 : Int64)), .second, .val (.long l0), .second, .val (.long l1), .second, .val (.long l2), .second, .val (.long l3), .second, .val (.int (2 : Int32)), .val (.int mode), .val (.long vv), .second, .val (.ref b5), .val (.ref b11), .unset] [(.ref b11)])) t
        refine XS.lload X14.here hx rfl (hb hby at_189) rfl ?_
        show Steps p.tables e below (T14.setTop (mkF m 191 #[.val (.int p0), .val (.long q1), .second, .val (.long q2), .second, .val (.long q3), .second, .val (.long q4), .second, .val (.long q5), .second, .val (.long (1152921504606846975 : Int64)), .second, .val (.long l0), .second, .val (.long l1), .second, .val (.long l2), .second, .val (.long l3), .second, .val (.int (2 : Int32)), .val (.int mode), .val (.long vv), .second, .val (.ref b5), .val (.ref b11), .unset] [(.long l0), (.ref b11)])) t
        exact kt
      refine own_callV X14 hx hZ hown rfl (hw _ (List.mem_of_getElem? (i := 83) rfl)) (hw _ (List.mem_of_getElem? (i := 84) rfl)) (notFace_of_selects (args := #[]) (mvT hZ (hw _ (List.mem_of_getElem? (i := 86) rfl)))) (hw _ (List.mem_of_getElem? (i := 86) rfl)) (hw _ (List.mem_of_getElem? (i := 85) rfl)) (hw _ (List.mem_of_getElem? (i := 44) rfl)) (hw _ (List.mem_of_getElem? (i := 87) rfl)) (by decide) (rm8 l Z aw hw b11 l0 r12 4 (fun _ => (0 : Int64)) (0 : Int32) 0 (.int ((own_z (¬ ((p0 &&& (256 : Int32)) = (0 : Int32)))) &&& (1 : Int32))) (.long (0 : Int64)) T14.heap n0 ZKq14 Pq14_0 g_b11 g_r12 (ne_b11_r12) (ne_r12_b11) Pq14_1 Pq14_4 Pq14_2 Pq14_3 Ar_r12 (by decide) (by decide)) Pq14_0 (g := (mkF m 191 #[.val (.int p0), .val (.long q1), .second, .val (.long q2), .second, .val (.long q3), .second, .val (.long q4), .second, .val (.long q5), .second, .val (.long (1152921504606846975 : Int64)), .second, .val (.long l0), .second, .val (.long l1), .second, .val (.long l2), .second, .val (.long l3), .second, .val (.int (2 : Int32)), .val (.int mode), .val (.long vv), .second, .val (.ref b5), .val (.ref b11), .unset] [(.long l0), (.ref b11)])) rfl (by rw [hml]; rfl) (argsL := [(.long l0)]) (rest := []) (lenOf pd_6 rfl) rfl rfl (W := 0) (by show 2 * 0 + _ ≤ _; exact Nat.le_of_eq rfl) (hb hby at_191) (by decide) (by decide) (by decide) (by decide) ?_
      rintro _ T19 L19 X19 ⟨rfl, Nq19, Kq19, Pq19_0, Pq19_1, Pq19_2, Pq19_3, Pq19_4, Pq19_5⟩
      have N19 := Fr.app N14 Nq19
      replace Pq10_0 := (Pq10_0.keep Kq19)
      replace F_r10 := (F_r10.keep Kq19 (ninS (ne_b5_b11) (ninS (ne_b5_r12) nin0)))
      replace Ar_r10 := (Ar_r10.keep Kq19 (ninS (ne_r10_b11) (ninS (ne_r10_r12) nin0)))
      replace Pq14_0 := (Pq14_0.keep Kq19)
      have ZKq19 : n0 ≤ T19.heap.size := Nat.le_trans ZKq14 Kq19.1
      have KKKq19 := KKKq14.trans Kq19 ((allS (Or.inr sz_b11) (allS (Or.inr sz_r12) all0)))
      have kzKq19 := Nat.le_trans kzKq14 Kq19.1
      obtain ⟨f1, hf1⟩ : ∃ z, z = (own_set (fun _ => (0 : Int64)) 0 l0) := ⟨_, rfl⟩
      rw [← hf1] at Pq19_5
      refine own_go (T' := T19) (f' := (mkF m 204 #[.val (.int p0), .val (.long q1), .second, .val (.long q2), .second, .val (.long q3), .second, .val (.long q4), .second, .val (.long q5), .second, .val (.long (1152921504606846975 : Int64)), .second, .val (.long l0), .second, .val (.long l1), .second, .val (.long l2), .second, .val (.long l3), .second, .val (.int (2 : Int32)), .val (.int mode), .val (.long vv), .second, .val (.ref b5), .val (.ref b11), .unset] [(.long l1), (.ref b11)])) (fun t kt => ?_) ?_
      · show Steps p.tables e below (T19.setTop (mkF m 194 #[.val (.int p0), .val (.long q1), .second, .val (.long q2), .second, .val (.long q3), .second, .val (.long q4), .second, .val (.long q5), .second, .val (.long (1152921504606846975 : Int64)), .second, .val (.long l0), .second, .val (.long l1), .second, .val (.long l2), .second, .val (.long l3), .second, .val (.int (2 : Int32)), .val (.int mode), .val (.long vv), .second, .val (.ref b5), .val (.ref b11), .unset] [])) t
        refine XS.iload X19.here hx rfl (hb hby at_194) rfl ?_
        show Steps p.tables e below (T19.setTop (mkF m 196 #[.val (.int p0), .val (.long q1), .second, .val (.long q2), .second, .val (.long q3), .second, .val (.long q4), .second, .val (.long q5), .second, .val (.long (1152921504606846975 : Int64)), .second, .val (.long l0), .second, .val (.long l1), .second, .val (.long l2), .second, .val (.long l3), .second, .val (.int (2 : Int32)), .val (.int mode), .val (.long vv), .second, .val (.ref b5), .val (.ref b11), .unset] [(.int (2 : Int32))])) t
        refine XS.iconst X19.here hx rfl (hb hby at_196) ?_
        show Steps p.tables e below (T19.setTop (mkF m 197 #[.val (.int p0), .val (.long q1), .second, .val (.long q2), .second, .val (.long q3), .second, .val (.long q4), .second, .val (.long q5), .second, .val (.long (1152921504606846975 : Int64)), .second, .val (.long l0), .second, .val (.long l1), .second, .val (.long l2), .second, .val (.long l3), .second, .val (.int (2 : Int32)), .val (.int mode), .val (.long vv), .second, .val (.ref b5), .val (.ref b11), .unset] [(.int (1 : Int32)), (.int (2 : Int32))])) t
        refine XS.icmpNo X19.here hx rfl (hb hby at_197) rfl (by decide) ?_
        show Steps p.tables e below (T19.setTop (mkF m 200 #[.val (.int p0), .val (.long q1), .second, .val (.long q2), .second, .val (.long q3), .second, .val (.long q4), .second, .val (.long q5), .second, .val (.long (1152921504606846975 : Int64)), .second, .val (.long l0), .second, .val (.long l1), .second, .val (.long l2), .second, .val (.long l3), .second, .val (.int (2 : Int32)), .val (.int mode), .val (.long vv), .second, .val (.ref b5), .val (.ref b11), .unset] [])) t
        refine XS.aload X19.here hx rfl (hb hby at_200) rfl rfl ?_
        show Steps p.tables e below (T19.setTop (mkF m 202 #[.val (.int p0), .val (.long q1), .second, .val (.long q2), .second, .val (.long q3), .second, .val (.long q4), .second, .val (.long q5), .second, .val (.long (1152921504606846975 : Int64)), .second, .val (.long l0), .second, .val (.long l1), .second, .val (.long l2), .second, .val (.long l3), .second, .val (.int (2 : Int32)), .val (.int mode), .val (.long vv), .second, .val (.ref b5), .val (.ref b11), .unset] [(.ref b11)])) t
        refine XS.lload X19.here hx rfl (hb hby at_202) rfl ?_
        show Steps p.tables e below (T19.setTop (mkF m 204 #[.val (.int p0), .val (.long q1), .second, .val (.long q2), .second, .val (.long q3), .second, .val (.long q4), .second, .val (.long q5), .second, .val (.long (1152921504606846975 : Int64)), .second, .val (.long l0), .second, .val (.long l1), .second, .val (.long l2), .second, .val (.long l3), .second, .val (.int (2 : Int32)), .val (.int mode), .val (.long vv), .second, .val (.ref b5), .val (.ref b11), .unset] [(.long l1), (.ref b11)])) t
        exact kt
      refine own_callV X19 hx hZ hown rfl (hw _ (List.mem_of_getElem? (i := 83) rfl)) (hw _ (List.mem_of_getElem? (i := 84) rfl)) (notFace_of_selects (args := #[]) (mvT hZ (hw _ (List.mem_of_getElem? (i := 86) rfl)))) (hw _ (List.mem_of_getElem? (i := 86) rfl)) (hw _ (List.mem_of_getElem? (i := 85) rfl)) (hw _ (List.mem_of_getElem? (i := 44) rfl)) (hw _ (List.mem_of_getElem? (i := 87) rfl)) (by decide) (rm8 l Z aw hw b11 l1 r12 4 f1 ((0 : Int32) + (1 : Int32)) 1 (.int ((own_z (¬ ((p0 &&& (256 : Int32)) = (0 : Int32)))) &&& (1 : Int32))) (.long (0 : Int64)) T19.heap n0 ZKq19 Pq19_0 g_b11 g_r12 (ne_b11_r12) (ne_r12_b11) Pq19_1 Pq19_2 Pq19_3 Pq19_4 Pq19_5 (by decide) (by decide)) Pq19_0 (g := (mkF m 204 #[.val (.int p0), .val (.long q1), .second, .val (.long q2), .second, .val (.long q3), .second, .val (.long q4), .second, .val (.long q5), .second, .val (.long (1152921504606846975 : Int64)), .second, .val (.long l0), .second, .val (.long l1), .second, .val (.long l2), .second, .val (.long l3), .second, .val (.int (2 : Int32)), .val (.int mode), .val (.long vv), .second, .val (.ref b5), .val (.ref b11), .unset] [(.long l1), (.ref b11)])) rfl (by rw [hml]; rfl) (argsL := [(.long l1)]) (rest := []) (lenOf pd_6 rfl) rfl rfl (W := 0) (by show 2 * 0 + _ ≤ _; exact Nat.le_of_eq rfl) (hb hby at_204) (by decide) (by decide) (by decide) (by decide) ?_
      rintro _ T20 L20 X20 ⟨rfl, Nq20, Kq20, Pq20_0, Pq20_1, Pq20_2, Pq20_3, Pq20_4, Pq20_5⟩
      have N20 := Fr.app N19 Nq20
      replace Pq10_0 := (Pq10_0.keep Kq20)
      replace F_r10 := (F_r10.keep Kq20 (ninS (ne_b5_b11) (ninS (ne_b5_r12) nin0)))
      replace Ar_r10 := (Ar_r10.keep Kq20 (ninS (ne_r10_b11) (ninS (ne_r10_r12) nin0)))
      replace Pq19_0 := (Pq19_0.keep Kq20)
      have ZKq20 : n0 ≤ T20.heap.size := Nat.le_trans ZKq19 Kq20.1
      have KKKq20 := KKKq19.trans Kq20 ((allS (Or.inr sz_b11) (allS (Or.inr sz_r12) all0)))
      have kzKq20 := Nat.le_trans kzKq19 Kq20.1
      obtain ⟨f2, hf2⟩ : ∃ z, z = (own_set f1 1 l1) := ⟨_, rfl⟩
      rw [← hf2] at Pq20_5
      refine own_go (T' := T20) (f' := (mkF m 246 #[.val (.int p0), .val (.long q1), .second, .val (.long q2), .second, .val (.long q3), .second, .val (.long q4), .second, .val (.long q5), .second, .val (.long (1152921504606846975 : Int64)), .second, .val (.long l0), .second, .val (.long l1), .second, .val (.long l2), .second, .val (.long l3), .second, .val (.int (2 : Int32)), .val (.int mode), .val (.long vv), .second, .val (.ref b5), .val (.ref b11), .val (.int (-1 : Int32))] [(.int (lcmpW l0 vv))])) (fun t kt => ?_) ?_
      · show Steps p.tables e below (T20.setTop (mkF m 207 #[.val (.int p0), .val (.long q1), .second, .val (.long q2), .second, .val (.long q3), .second, .val (.long q4), .second, .val (.long q5), .second, .val (.long (1152921504606846975 : Int64)), .second, .val (.long l0), .second, .val (.long l1), .second, .val (.long l2), .second, .val (.long l3), .second, .val (.int (2 : Int32)), .val (.int mode), .val (.long vv), .second, .val (.ref b5), .val (.ref b11), .unset] [])) t
        refine XS.iload X20.here hx rfl (hb hby at_207) rfl ?_
        show Steps p.tables e below (T20.setTop (mkF m 209 #[.val (.int p0), .val (.long q1), .second, .val (.long q2), .second, .val (.long q3), .second, .val (.long q4), .second, .val (.long q5), .second, .val (.long (1152921504606846975 : Int64)), .second, .val (.long l0), .second, .val (.long l1), .second, .val (.long l2), .second, .val (.long l3), .second, .val (.int (2 : Int32)), .val (.int mode), .val (.long vv), .second, .val (.ref b5), .val (.ref b11), .unset] [(.int (2 : Int32))])) t
        refine XS.iconst X20.here hx rfl (hb hby at_209) ?_
        show Steps p.tables e below (T20.setTop (mkF m 210 #[.val (.int p0), .val (.long q1), .second, .val (.long q2), .second, .val (.long q3), .second, .val (.long q4), .second, .val (.long q5), .second, .val (.long (1152921504606846975 : Int64)), .second, .val (.long l0), .second, .val (.long l1), .second, .val (.long l2), .second, .val (.long l3), .second, .val (.int (2 : Int32)), .val (.int mode), .val (.long vv), .second, .val (.ref b5), .val (.ref b11), .unset] [(.int (2 : Int32)), (.int (2 : Int32))])) t
        refine XS.icmpYes X20.here hx rfl (pc0 := 210) (pc' := 220) rfl (hb hby at_210) rfl (by decide) (by decide) (by decide) ?_
        show Steps p.tables e below (T20.setTop (mkF m 220 #[.val (.int p0), .val (.long q1), .second, .val (.long q2), .second, .val (.long q3), .second, .val (.long q4), .second, .val (.long q5), .second, .val (.long (1152921504606846975 : Int64)), .second, .val (.long l0), .second, .val (.long l1), .second, .val (.long l2), .second, .val (.long l3), .second, .val (.int (2 : Int32)), .val (.int mode), .val (.long vv), .second, .val (.ref b5), .val (.ref b11), .unset] [])) t
        refine XS.iload X20.here hx rfl (hb hby at_220) rfl ?_
        show Steps p.tables e below (T20.setTop (mkF m 222 #[.val (.int p0), .val (.long q1), .second, .val (.long q2), .second, .val (.long q3), .second, .val (.long q4), .second, .val (.long q5), .second, .val (.long (1152921504606846975 : Int64)), .second, .val (.long l0), .second, .val (.long l1), .second, .val (.long l2), .second, .val (.long l3), .second, .val (.int (2 : Int32)), .val (.int mode), .val (.long vv), .second, .val (.ref b5), .val (.ref b11), .unset] [(.int (2 : Int32))])) t
        refine XS.iconst X20.here hx rfl (hb hby at_222) ?_
        show Steps p.tables e below (T20.setTop (mkF m 223 #[.val (.int p0), .val (.long q1), .second, .val (.long q2), .second, .val (.long q3), .second, .val (.long q4), .second, .val (.long q5), .second, .val (.long (1152921504606846975 : Int64)), .second, .val (.long l0), .second, .val (.long l1), .second, .val (.long l2), .second, .val (.long l3), .second, .val (.int (2 : Int32)), .val (.int mode), .val (.long vv), .second, .val (.ref b5), .val (.ref b11), .unset] [(.int (3 : Int32)), (.int (2 : Int32))])) t
        refine XS.icmpYes X20.here hx rfl (pc0 := 223) (pc' := 233) rfl (hb hby at_223) rfl (by decide) (by decide) (by decide) ?_
        show Steps p.tables e below (T20.setTop (mkF m 233 #[.val (.int p0), .val (.long q1), .second, .val (.long q2), .second, .val (.long q3), .second, .val (.long q4), .second, .val (.long q5), .second, .val (.long (1152921504606846975 : Int64)), .second, .val (.long l0), .second, .val (.long l1), .second, .val (.long l2), .second, .val (.long l3), .second, .val (.int (2 : Int32)), .val (.int mode), .val (.long vv), .second, .val (.ref b5), .val (.ref b11), .unset] [])) t
        refine XS.iconst X20.here hx rfl (hb hby at_233) ?_
        show Steps p.tables e below (T20.setTop (mkF m 234 #[.val (.int p0), .val (.long q1), .second, .val (.long q2), .second, .val (.long q3), .second, .val (.long q4), .second, .val (.long q5), .second, .val (.long (1152921504606846975 : Int64)), .second, .val (.long l0), .second, .val (.long l1), .second, .val (.long l2), .second, .val (.long l3), .second, .val (.int (2 : Int32)), .val (.int mode), .val (.long vv), .second, .val (.ref b5), .val (.ref b11), .unset] [(.int (-1 : Int32))])) t
        refine XS.istore X20.here hx rfl (hb hby at_234) rfl (l' := #[.val (.int p0), .val (.long q1), .second, .val (.long q2), .second, .val (.long q3), .second, .val (.long q4), .second, .val (.long q5), .second, .val (.long (1152921504606846975 : Int64)), .second, .val (.long l0), .second, .val (.long l1), .second, .val (.long l2), .second, .val (.long l3), .second, .val (.int (2 : Int32)), .val (.int mode), .val (.long vv), .second, .val (.ref b5), .val (.ref b11), .val (.int (-1 : Int32))]) rfl ?_
        show Steps p.tables e below (T20.setTop (mkF m 236 #[.val (.int p0), .val (.long q1), .second, .val (.long q2), .second, .val (.long q3), .second, .val (.long q4), .second, .val (.long q5), .second, .val (.long (1152921504606846975 : Int64)), .second, .val (.long l0), .second, .val (.long l1), .second, .val (.long l2), .second, .val (.long l3), .second, .val (.int (2 : Int32)), .val (.int mode), .val (.long vv), .second, .val (.ref b5), .val (.ref b11), .val (.int (-1 : Int32))] [])) t
        refine XS.iload X20.here hx rfl (hb hby at_236) rfl ?_
        show Steps p.tables e below (T20.setTop (mkF m 238 #[.val (.int p0), .val (.long q1), .second, .val (.long q2), .second, .val (.long q3), .second, .val (.long q4), .second, .val (.long q5), .second, .val (.long (1152921504606846975 : Int64)), .second, .val (.long l0), .second, .val (.long l1), .second, .val (.long l2), .second, .val (.long l3), .second, .val (.int (2 : Int32)), .val (.int mode), .val (.long vv), .second, .val (.ref b5), .val (.ref b11), .val (.int (-1 : Int32))] [(.int (2 : Int32))])) t
        refine XS.ifNo X20.here hx rfl (hb hby at_238) rfl (by decide) ?_
        show Steps p.tables e below (T20.setTop (mkF m 241 #[.val (.int p0), .val (.long q1), .second, .val (.long q2), .second, .val (.long q3), .second, .val (.long q4), .second, .val (.long q5), .second, .val (.long (1152921504606846975 : Int64)), .second, .val (.long l0), .second, .val (.long l1), .second, .val (.long l2), .second, .val (.long l3), .second, .val (.int (2 : Int32)), .val (.int mode), .val (.long vv), .second, .val (.ref b5), .val (.ref b11), .val (.int (-1 : Int32))] [])) t
        refine XS.lload X20.here hx rfl (hb hby at_241) rfl ?_
        show Steps p.tables e below (T20.setTop (mkF m 243 #[.val (.int p0), .val (.long q1), .second, .val (.long q2), .second, .val (.long q3), .second, .val (.long q4), .second, .val (.long q5), .second, .val (.long (1152921504606846975 : Int64)), .second, .val (.long l0), .second, .val (.long l1), .second, .val (.long l2), .second, .val (.long l3), .second, .val (.int (2 : Int32)), .val (.int mode), .val (.long vv), .second, .val (.ref b5), .val (.ref b11), .val (.int (-1 : Int32))] [(.long l0)])) t
        refine XS.lload X20.here hx rfl (hb hby at_243) rfl ?_
        show Steps p.tables e below (T20.setTop (mkF m 245 #[.val (.int p0), .val (.long q1), .second, .val (.long q2), .second, .val (.long q3), .second, .val (.long q4), .second, .val (.long q5), .second, .val (.long (1152921504606846975 : Int64)), .second, .val (.long l0), .second, .val (.long l1), .second, .val (.long l2), .second, .val (.long l3), .second, .val (.int (2 : Int32)), .val (.int mode), .val (.long vv), .second, .val (.ref b5), .val (.ref b11), .val (.int (-1 : Int32))] [(.long vv), (.long l0)])) t
        refine XS.lcmp X20.here hx rfl (hb hby at_245) rfl ?_
        show Steps p.tables e below (T20.setTop (mkF m 246 #[.val (.int p0), .val (.long q1), .second, .val (.long q2), .second, .val (.long q3), .second, .val (.long q4), .second, .val (.long q5), .second, .val (.long (1152921504606846975 : Int64)), .second, .val (.long l0), .second, .val (.long l1), .second, .val (.long l2), .second, .val (.long l3), .second, .val (.int (2 : Int32)), .val (.int mode), .val (.long vv), .second, .val (.ref b5), .val (.ref b11), .val (.int (-1 : Int32))] [(.int (lcmpW l0 vv))])) t
        exact kt
      refine own_go (T' := T20) (f' := (mkF m 252 #[.val (.int p0), .val (.long q1), .second, .val (.long q2), .second, .val (.long q3), .second, .val (.long q4), .second, .val (.long q5), .second, .val (.long (1152921504606846975 : Int64)), .second, .val (.long l0), .second, .val (.long l1), .second, .val (.long l2), .second, .val (.long l3), .second, .val (.int (2 : Int32)), .val (.int mode), .val (.long vv), .second, .val (.ref b5), .val (.ref b11), .val (.int (if vv < l0 then (-1 : Int32) else (0 : Int32)))] [])) (fun t kt => ?_) ?_
      · by_cases hc246_21 : vv < l0
        · show Steps p.tables e below (T20.setTop (mkF m 246 #[.val (.int p0), .val (.long q1), .second, .val (.long q2), .second, .val (.long q3), .second, .val (.long q4), .second, .val (.long q5), .second, .val (.long (1152921504606846975 : Int64)), .second, .val (.long l0), .second, .val (.long l1), .second, .val (.long l2), .second, .val (.long l3), .second, .val (.int (2 : Int32)), .val (.int mode), .val (.long vv), .second, .val (.ref b5), .val (.ref b11), .val (.int (-1 : Int32))] [(.int (lcmpW l0 vv))])) t
          refine XS.ifYes X20.here hx rfl (pc0 := 246) (pc' := 252) rfl (hb hby at_246) rfl (own_lY_gt hc246_21) (by decide) (by decide) ?_
          show Steps p.tables e below (T20.setTop (mkF m 252 #[.val (.int p0), .val (.long q1), .second, .val (.long q2), .second, .val (.long q3), .second, .val (.long q4), .second, .val (.long q5), .second, .val (.long (1152921504606846975 : Int64)), .second, .val (.long l0), .second, .val (.long l1), .second, .val (.long l2), .second, .val (.long l3), .second, .val (.int (2 : Int32)), .val (.int mode), .val (.long vv), .second, .val (.ref b5), .val (.ref b11), .val (.int (-1 : Int32))] [])) t
          rw [if_pos hc246_21] at kt
          exact kt
        · show Steps p.tables e below (T20.setTop (mkF m 246 #[.val (.int p0), .val (.long q1), .second, .val (.long q2), .second, .val (.long q3), .second, .val (.long q4), .second, .val (.long q5), .second, .val (.long (1152921504606846975 : Int64)), .second, .val (.long l0), .second, .val (.long l1), .second, .val (.long l2), .second, .val (.long l3), .second, .val (.int (2 : Int32)), .val (.int mode), .val (.long vv), .second, .val (.ref b5), .val (.ref b11), .val (.int (-1 : Int32))] [(.int (lcmpW l0 vv))])) t
          refine XS.ifNo X20.here hx rfl (hb hby at_246) rfl (own_lN_gt hc246_21) ?_
          show Steps p.tables e below (T20.setTop (mkF m 249 #[.val (.int p0), .val (.long q1), .second, .val (.long q2), .second, .val (.long q3), .second, .val (.long q4), .second, .val (.long q5), .second, .val (.long (1152921504606846975 : Int64)), .second, .val (.long l0), .second, .val (.long l1), .second, .val (.long l2), .second, .val (.long l3), .second, .val (.int (2 : Int32)), .val (.int mode), .val (.long vv), .second, .val (.ref b5), .val (.ref b11), .val (.int (-1 : Int32))] [])) t
          refine XS.iconst X20.here hx rfl (hb hby at_249) ?_
          show Steps p.tables e below (T20.setTop (mkF m 250 #[.val (.int p0), .val (.long q1), .second, .val (.long q2), .second, .val (.long q3), .second, .val (.long q4), .second, .val (.long q5), .second, .val (.long (1152921504606846975 : Int64)), .second, .val (.long l0), .second, .val (.long l1), .second, .val (.long l2), .second, .val (.long l3), .second, .val (.int (2 : Int32)), .val (.int mode), .val (.long vv), .second, .val (.ref b5), .val (.ref b11), .val (.int (-1 : Int32))] [(.int (0 : Int32))])) t
          refine XS.istore X20.here hx rfl (hb hby at_250) rfl (l' := #[.val (.int p0), .val (.long q1), .second, .val (.long q2), .second, .val (.long q3), .second, .val (.long q4), .second, .val (.long q5), .second, .val (.long (1152921504606846975 : Int64)), .second, .val (.long l0), .second, .val (.long l1), .second, .val (.long l2), .second, .val (.long l3), .second, .val (.int (2 : Int32)), .val (.int mode), .val (.long vv), .second, .val (.ref b5), .val (.ref b11), .val (.int (0 : Int32))]) rfl ?_
          show Steps p.tables e below (T20.setTop (mkF m 252 #[.val (.int p0), .val (.long q1), .second, .val (.long q2), .second, .val (.long q3), .second, .val (.long q4), .second, .val (.long q5), .second, .val (.long (1152921504606846975 : Int64)), .second, .val (.long l0), .second, .val (.long l1), .second, .val (.long l2), .second, .val (.long l3), .second, .val (.int (2 : Int32)), .val (.int mode), .val (.long vv), .second, .val (.ref b5), .val (.ref b11), .val (.int (0 : Int32))] [])) t
          rw [if_neg hc246_21] at kt
          exact kt
      refine own_go (T' := T20) (f' := (mkF m 263 #[.val (.int p0), .val (.long q1), .second, .val (.long q2), .second, .val (.long q3), .second, .val (.long q4), .second, .val (.long q5), .second, .val (.long (1152921504606846975 : Int64)), .second, .val (.long l0), .second, .val (.long l1), .second, .val (.long l2), .second, .val (.long l3), .second, .val (.int (2 : Int32)), .val (.int mode), .val (.long vv), .second, .val (.ref b5), .val (.ref b11), .val (.int (if vv < l0 then (-1 : Int32) else (0 : Int32)))] [(.int (lcmpW l1 vv))])) (fun t kt => ?_) ?_
      · show Steps p.tables e below (T20.setTop (mkF m 252 #[.val (.int p0), .val (.long q1), .second, .val (.long q2), .second, .val (.long q3), .second, .val (.long q4), .second, .val (.long q5), .second, .val (.long (1152921504606846975 : Int64)), .second, .val (.long l0), .second, .val (.long l1), .second, .val (.long l2), .second, .val (.long l3), .second, .val (.int (2 : Int32)), .val (.int mode), .val (.long vv), .second, .val (.ref b5), .val (.ref b11), .val (.int (if vv < l0 then (-1 : Int32) else (0 : Int32)))] [])) t
        refine XS.iload X20.here hx rfl (hb hby at_252) rfl ?_
        show Steps p.tables e below (T20.setTop (mkF m 254 #[.val (.int p0), .val (.long q1), .second, .val (.long q2), .second, .val (.long q3), .second, .val (.long q4), .second, .val (.long q5), .second, .val (.long (1152921504606846975 : Int64)), .second, .val (.long l0), .second, .val (.long l1), .second, .val (.long l2), .second, .val (.long l3), .second, .val (.int (2 : Int32)), .val (.int mode), .val (.long vv), .second, .val (.ref b5), .val (.ref b11), .val (.int (if vv < l0 then (-1 : Int32) else (0 : Int32)))] [(.int (2 : Int32))])) t
        refine XS.iconst X20.here hx rfl (hb hby at_254) ?_
        show Steps p.tables e below (T20.setTop (mkF m 255 #[.val (.int p0), .val (.long q1), .second, .val (.long q2), .second, .val (.long q3), .second, .val (.long q4), .second, .val (.long q5), .second, .val (.long (1152921504606846975 : Int64)), .second, .val (.long l0), .second, .val (.long l1), .second, .val (.long l2), .second, .val (.long l3), .second, .val (.int (2 : Int32)), .val (.int mode), .val (.long vv), .second, .val (.ref b5), .val (.ref b11), .val (.int (if vv < l0 then (-1 : Int32) else (0 : Int32)))] [(.int (1 : Int32)), (.int (2 : Int32))])) t
        refine XS.icmpNo X20.here hx rfl (hb hby at_255) rfl (by decide) ?_
        show Steps p.tables e below (T20.setTop (mkF m 258 #[.val (.int p0), .val (.long q1), .second, .val (.long q2), .second, .val (.long q3), .second, .val (.long q4), .second, .val (.long q5), .second, .val (.long (1152921504606846975 : Int64)), .second, .val (.long l0), .second, .val (.long l1), .second, .val (.long l2), .second, .val (.long l3), .second, .val (.int (2 : Int32)), .val (.int mode), .val (.long vv), .second, .val (.ref b5), .val (.ref b11), .val (.int (if vv < l0 then (-1 : Int32) else (0 : Int32)))] [])) t
        refine XS.lload X20.here hx rfl (hb hby at_258) rfl ?_
        show Steps p.tables e below (T20.setTop (mkF m 260 #[.val (.int p0), .val (.long q1), .second, .val (.long q2), .second, .val (.long q3), .second, .val (.long q4), .second, .val (.long q5), .second, .val (.long (1152921504606846975 : Int64)), .second, .val (.long l0), .second, .val (.long l1), .second, .val (.long l2), .second, .val (.long l3), .second, .val (.int (2 : Int32)), .val (.int mode), .val (.long vv), .second, .val (.ref b5), .val (.ref b11), .val (.int (if vv < l0 then (-1 : Int32) else (0 : Int32)))] [(.long l1)])) t
        refine XS.lload X20.here hx rfl (hb hby at_260) rfl ?_
        show Steps p.tables e below (T20.setTop (mkF m 262 #[.val (.int p0), .val (.long q1), .second, .val (.long q2), .second, .val (.long q3), .second, .val (.long q4), .second, .val (.long q5), .second, .val (.long (1152921504606846975 : Int64)), .second, .val (.long l0), .second, .val (.long l1), .second, .val (.long l2), .second, .val (.long l3), .second, .val (.int (2 : Int32)), .val (.int mode), .val (.long vv), .second, .val (.ref b5), .val (.ref b11), .val (.int (if vv < l0 then (-1 : Int32) else (0 : Int32)))] [(.long vv), (.long l1)])) t
        refine XS.lcmp X20.here hx rfl (hb hby at_262) rfl ?_
        show Steps p.tables e below (T20.setTop (mkF m 263 #[.val (.int p0), .val (.long q1), .second, .val (.long q2), .second, .val (.long q3), .second, .val (.long q4), .second, .val (.long q5), .second, .val (.long (1152921504606846975 : Int64)), .second, .val (.long l0), .second, .val (.long l1), .second, .val (.long l2), .second, .val (.long l3), .second, .val (.int (2 : Int32)), .val (.int mode), .val (.long vv), .second, .val (.ref b5), .val (.ref b11), .val (.int (if vv < l0 then (-1 : Int32) else (0 : Int32)))] [(.int (lcmpW l1 vv))])) t
        exact kt
      refine own_go (T' := T20) (f' := (mkF m 269 #[.val (.int p0), .val (.long q1), .second, .val (.long q2), .second, .val (.long q3), .second, .val (.long q4), .second, .val (.long q5), .second, .val (.long (1152921504606846975 : Int64)), .second, .val (.long l0), .second, .val (.long l1), .second, .val (.long l2), .second, .val (.long l3), .second, .val (.int (2 : Int32)), .val (.int mode), .val (.long vv), .second, .val (.ref b5), .val (.ref b11), .val (.int (if vv < l1 then (if vv < l0 then (-1 : Int32) else (0 : Int32)) else (1 : Int32)))] [])) (fun t kt => ?_) ?_
      · by_cases hc263_22 : vv < l1
        · show Steps p.tables e below (T20.setTop (mkF m 263 #[.val (.int p0), .val (.long q1), .second, .val (.long q2), .second, .val (.long q3), .second, .val (.long q4), .second, .val (.long q5), .second, .val (.long (1152921504606846975 : Int64)), .second, .val (.long l0), .second, .val (.long l1), .second, .val (.long l2), .second, .val (.long l3), .second, .val (.int (2 : Int32)), .val (.int mode), .val (.long vv), .second, .val (.ref b5), .val (.ref b11), .val (.int (if vv < l0 then (-1 : Int32) else (0 : Int32)))] [(.int (lcmpW l1 vv))])) t
          refine XS.ifYes X20.here hx rfl (pc0 := 263) (pc' := 269) rfl (hb hby at_263) rfl (own_lY_gt hc263_22) (by decide) (by decide) ?_
          show Steps p.tables e below (T20.setTop (mkF m 269 #[.val (.int p0), .val (.long q1), .second, .val (.long q2), .second, .val (.long q3), .second, .val (.long q4), .second, .val (.long q5), .second, .val (.long (1152921504606846975 : Int64)), .second, .val (.long l0), .second, .val (.long l1), .second, .val (.long l2), .second, .val (.long l3), .second, .val (.int (2 : Int32)), .val (.int mode), .val (.long vv), .second, .val (.ref b5), .val (.ref b11), .val (.int (if vv < l0 then (-1 : Int32) else (0 : Int32)))] [])) t
          rw [if_pos hc263_22] at kt
          exact kt
        · show Steps p.tables e below (T20.setTop (mkF m 263 #[.val (.int p0), .val (.long q1), .second, .val (.long q2), .second, .val (.long q3), .second, .val (.long q4), .second, .val (.long q5), .second, .val (.long (1152921504606846975 : Int64)), .second, .val (.long l0), .second, .val (.long l1), .second, .val (.long l2), .second, .val (.long l3), .second, .val (.int (2 : Int32)), .val (.int mode), .val (.long vv), .second, .val (.ref b5), .val (.ref b11), .val (.int (if vv < l0 then (-1 : Int32) else (0 : Int32)))] [(.int (lcmpW l1 vv))])) t
          refine XS.ifNo X20.here hx rfl (hb hby at_263) rfl (own_lN_gt hc263_22) ?_
          show Steps p.tables e below (T20.setTop (mkF m 266 #[.val (.int p0), .val (.long q1), .second, .val (.long q2), .second, .val (.long q3), .second, .val (.long q4), .second, .val (.long q5), .second, .val (.long (1152921504606846975 : Int64)), .second, .val (.long l0), .second, .val (.long l1), .second, .val (.long l2), .second, .val (.long l3), .second, .val (.int (2 : Int32)), .val (.int mode), .val (.long vv), .second, .val (.ref b5), .val (.ref b11), .val (.int (if vv < l0 then (-1 : Int32) else (0 : Int32)))] [])) t
          refine XS.iconst X20.here hx rfl (hb hby at_266) ?_
          show Steps p.tables e below (T20.setTop (mkF m 267 #[.val (.int p0), .val (.long q1), .second, .val (.long q2), .second, .val (.long q3), .second, .val (.long q4), .second, .val (.long q5), .second, .val (.long (1152921504606846975 : Int64)), .second, .val (.long l0), .second, .val (.long l1), .second, .val (.long l2), .second, .val (.long l3), .second, .val (.int (2 : Int32)), .val (.int mode), .val (.long vv), .second, .val (.ref b5), .val (.ref b11), .val (.int (if vv < l0 then (-1 : Int32) else (0 : Int32)))] [(.int (1 : Int32))])) t
          refine XS.istore X20.here hx rfl (hb hby at_267) rfl (l' := #[.val (.int p0), .val (.long q1), .second, .val (.long q2), .second, .val (.long q3), .second, .val (.long q4), .second, .val (.long q5), .second, .val (.long (1152921504606846975 : Int64)), .second, .val (.long l0), .second, .val (.long l1), .second, .val (.long l2), .second, .val (.long l3), .second, .val (.int (2 : Int32)), .val (.int mode), .val (.long vv), .second, .val (.ref b5), .val (.ref b11), .val (.int (1 : Int32))]) rfl ?_
          show Steps p.tables e below (T20.setTop (mkF m 269 #[.val (.int p0), .val (.long q1), .second, .val (.long q2), .second, .val (.long q3), .second, .val (.long q4), .second, .val (.long q5), .second, .val (.long (1152921504606846975 : Int64)), .second, .val (.long l0), .second, .val (.long l1), .second, .val (.long l2), .second, .val (.long l3), .second, .val (.int (2 : Int32)), .val (.int mode), .val (.long vv), .second, .val (.ref b5), .val (.ref b11), .val (.int (1 : Int32))] [])) t
          rw [if_neg hc263_22] at kt
          exact kt
      refine own_go (T' := T20) (f' := (mkF m 307 #[.val (.int p0), .val (.long q1), .second, .val (.long q2), .second, .val (.long q3), .second, .val (.long q4), .second, .val (.long q5), .second, .val (.long (1152921504606846975 : Int64)), .second, .val (.long l0), .second, .val (.long l1), .second, .val (.long l2), .second, .val (.long l3), .second, .val (.int (2 : Int32)), .val (.int mode), .val (.long vv), .second, .val (.ref b5), .val (.ref b11), .val (.int (if vv < l1 then (if vv < l0 then (-1 : Int32) else (0 : Int32)) else (1 : Int32)))] [(.long vv), (.ref b11)])) (fun t kt => ?_) ?_
      · show Steps p.tables e below (T20.setTop (mkF m 269 #[.val (.int p0), .val (.long q1), .second, .val (.long q2), .second, .val (.long q3), .second, .val (.long q4), .second, .val (.long q5), .second, .val (.long (1152921504606846975 : Int64)), .second, .val (.long l0), .second, .val (.long l1), .second, .val (.long l2), .second, .val (.long l3), .second, .val (.int (2 : Int32)), .val (.int mode), .val (.long vv), .second, .val (.ref b5), .val (.ref b11), .val (.int (if vv < l1 then (if vv < l0 then (-1 : Int32) else (0 : Int32)) else (1 : Int32)))] [])) t
        refine XS.iload X20.here hx rfl (hb hby at_269) rfl ?_
        show Steps p.tables e below (T20.setTop (mkF m 271 #[.val (.int p0), .val (.long q1), .second, .val (.long q2), .second, .val (.long q3), .second, .val (.long q4), .second, .val (.long q5), .second, .val (.long (1152921504606846975 : Int64)), .second, .val (.long l0), .second, .val (.long l1), .second, .val (.long l2), .second, .val (.long l3), .second, .val (.int (2 : Int32)), .val (.int mode), .val (.long vv), .second, .val (.ref b5), .val (.ref b11), .val (.int (if vv < l1 then (if vv < l0 then (-1 : Int32) else (0 : Int32)) else (1 : Int32)))] [(.int (2 : Int32))])) t
        refine XS.iconst X20.here hx rfl (hb hby at_271) ?_
        show Steps p.tables e below (T20.setTop (mkF m 272 #[.val (.int p0), .val (.long q1), .second, .val (.long q2), .second, .val (.long q3), .second, .val (.long q4), .second, .val (.long q5), .second, .val (.long (1152921504606846975 : Int64)), .second, .val (.long l0), .second, .val (.long l1), .second, .val (.long l2), .second, .val (.long l3), .second, .val (.int (2 : Int32)), .val (.int mode), .val (.long vv), .second, .val (.ref b5), .val (.ref b11), .val (.int (if vv < l1 then (if vv < l0 then (-1 : Int32) else (0 : Int32)) else (1 : Int32)))] [(.int (2 : Int32)), (.int (2 : Int32))])) t
        refine XS.icmpYes X20.here hx rfl (pc0 := 272) (pc' := 286) rfl (hb hby at_272) rfl (by decide) (by decide) (by decide) ?_
        show Steps p.tables e below (T20.setTop (mkF m 286 #[.val (.int p0), .val (.long q1), .second, .val (.long q2), .second, .val (.long q3), .second, .val (.long q4), .second, .val (.long q5), .second, .val (.long (1152921504606846975 : Int64)), .second, .val (.long l0), .second, .val (.long l1), .second, .val (.long l2), .second, .val (.long l3), .second, .val (.int (2 : Int32)), .val (.int mode), .val (.long vv), .second, .val (.ref b5), .val (.ref b11), .val (.int (if vv < l1 then (if vv < l0 then (-1 : Int32) else (0 : Int32)) else (1 : Int32)))] [])) t
        refine XS.iload X20.here hx rfl (hb hby at_286) rfl ?_
        show Steps p.tables e below (T20.setTop (mkF m 288 #[.val (.int p0), .val (.long q1), .second, .val (.long q2), .second, .val (.long q3), .second, .val (.long q4), .second, .val (.long q5), .second, .val (.long (1152921504606846975 : Int64)), .second, .val (.long l0), .second, .val (.long l1), .second, .val (.long l2), .second, .val (.long l3), .second, .val (.int (2 : Int32)), .val (.int mode), .val (.long vv), .second, .val (.ref b5), .val (.ref b11), .val (.int (if vv < l1 then (if vv < l0 then (-1 : Int32) else (0 : Int32)) else (1 : Int32)))] [(.int (2 : Int32))])) t
        refine XS.iconst X20.here hx rfl (hb hby at_288) ?_
        show Steps p.tables e below (T20.setTop (mkF m 289 #[.val (.int p0), .val (.long q1), .second, .val (.long q2), .second, .val (.long q3), .second, .val (.long q4), .second, .val (.long q5), .second, .val (.long (1152921504606846975 : Int64)), .second, .val (.long l0), .second, .val (.long l1), .second, .val (.long l2), .second, .val (.long l3), .second, .val (.int (2 : Int32)), .val (.int mode), .val (.long vv), .second, .val (.ref b5), .val (.ref b11), .val (.int (if vv < l1 then (if vv < l0 then (-1 : Int32) else (0 : Int32)) else (1 : Int32)))] [(.int (3 : Int32)), (.int (2 : Int32))])) t
        refine XS.icmpYes X20.here hx rfl (pc0 := 289) (pc' := 303) rfl (hb hby at_289) rfl (by decide) (by decide) (by decide) ?_
        show Steps p.tables e below (T20.setTop (mkF m 303 #[.val (.int p0), .val (.long q1), .second, .val (.long q2), .second, .val (.long q3), .second, .val (.long q4), .second, .val (.long q5), .second, .val (.long (1152921504606846975 : Int64)), .second, .val (.long l0), .second, .val (.long l1), .second, .val (.long l2), .second, .val (.long l3), .second, .val (.int (2 : Int32)), .val (.int mode), .val (.long vv), .second, .val (.ref b5), .val (.ref b11), .val (.int (if vv < l1 then (if vv < l0 then (-1 : Int32) else (0 : Int32)) else (1 : Int32)))] [])) t
        refine XS.aload X20.here hx rfl (hb hby at_303) rfl rfl ?_
        show Steps p.tables e below (T20.setTop (mkF m 305 #[.val (.int p0), .val (.long q1), .second, .val (.long q2), .second, .val (.long q3), .second, .val (.long q4), .second, .val (.long q5), .second, .val (.long (1152921504606846975 : Int64)), .second, .val (.long l0), .second, .val (.long l1), .second, .val (.long l2), .second, .val (.long l3), .second, .val (.int (2 : Int32)), .val (.int mode), .val (.long vv), .second, .val (.ref b5), .val (.ref b11), .val (.int (if vv < l1 then (if vv < l0 then (-1 : Int32) else (0 : Int32)) else (1 : Int32)))] [(.ref b11)])) t
        refine XS.lload X20.here hx rfl (hb hby at_305) rfl ?_
        show Steps p.tables e below (T20.setTop (mkF m 307 #[.val (.int p0), .val (.long q1), .second, .val (.long q2), .second, .val (.long q3), .second, .val (.long q4), .second, .val (.long q5), .second, .val (.long (1152921504606846975 : Int64)), .second, .val (.long l0), .second, .val (.long l1), .second, .val (.long l2), .second, .val (.long l3), .second, .val (.int (2 : Int32)), .val (.int mode), .val (.long vv), .second, .val (.ref b5), .val (.ref b11), .val (.int (if vv < l1 then (if vv < l0 then (-1 : Int32) else (0 : Int32)) else (1 : Int32)))] [(.long vv), (.ref b11)])) t
        exact kt
      refine own_callVp X20 hx hZ hown rfl (hw _ (List.mem_of_getElem? (i := 78) rfl)) (hw _ (List.mem_of_getElem? (i := 79) rfl)) (notFace_of_selects (args := #[]) (mvT hZ (hw _ (List.mem_of_getElem? (i := 81) rfl)))) (hw _ (List.mem_of_getElem? (i := 81) rfl)) (hw _ (List.mem_of_getElem? (i := 80) rfl)) (hw _ (List.mem_of_getElem? (i := 44) rfl)) (hw _ (List.mem_of_getElem? (i := 82) rfl)) (by decide) (rm7 l Z aw hw b11 vv r12 f2 (((0 : Int32) + (1 : Int32)) + (1 : Int32)) 2 T20.heap n0 ZKq20 Pq20_1 Pq20_2 Pq20_5 (by decide) (by decide) (own_q2 hl0 hl1 hl2 hl3 hf1 hf2)) Pq20_0 (g := (mkF m 307 #[.val (.int p0), .val (.long q1), .second, .val (.long q2), .second, .val (.long q3), .second, .val (.long q4), .second, .val (.long q5), .second, .val (.long (1152921504606846975 : Int64)), .second, .val (.long l0), .second, .val (.long l1), .second, .val (.long l2), .second, .val (.long l3), .second, .val (.int (2 : Int32)), .val (.int mode), .val (.long vv), .second, .val (.ref b5), .val (.ref b11), .val (.int (if vv < l1 then (if vv < l0 then (-1 : Int32) else (0 : Int32)) else (1 : Int32)))] [(.long vv), (.ref b11)])) rfl (by rw [hml]; rfl) (argsL := [(.long vv)]) (rest := []) (lenOf pd_5 rfl) rfl rfl (W := 0) (by show 2 * 0 + _ ≤ _; exact Nat.le_of_eq rfl) (hb hby at_307) (by decide) (by decide) (by decide) (by decide) ?_
      intro T23 X23 e23
      refine own_go (T' := T23) (f' := (mkF m 320 #[.val (.int p0), .val (.long q1), .second, .val (.long q2), .second, .val (.long q3), .second, .val (.long q4), .second, .val (.long q5), .second, .val (.long (1152921504606846975 : Int64)), .second, .val (.long l0), .second, .val (.long l1), .second, .val (.long l2), .second, .val (.long l3), .second, .val (.int (2 : Int32)), .val (.int mode), .val (.long vv), .second, .val (.ref b5), .val (.ref b11), .val (.int (if vv < l1 then (if vv < l0 then (-1 : Int32) else (0 : Int32)) else (1 : Int32)))] [(.int (1 : Int32))])) (fun t kt => ?_) ?_
      · show Steps p.tables e below (T23.setTop (mkF m 310 #[.val (.int p0), .val (.long q1), .second, .val (.long q2), .second, .val (.long q3), .second, .val (.long q4), .second, .val (.long q5), .second, .val (.long (1152921504606846975 : Int64)), .second, .val (.long l0), .second, .val (.long l1), .second, .val (.long l2), .second, .val (.long l3), .second, .val (.int (2 : Int32)), .val (.int mode), .val (.long vv), .second, .val (.ref b5), .val (.ref b11), .val (.int (if vv < l1 then (if vv < l0 then (-1 : Int32) else (0 : Int32)) else (1 : Int32)))] [(.int ((Int32.ofNat (own_cl 2 f2 vv)) - (1 : Int32)))])) t
        refine XS.iload X23.here hx rfl (hb hby at_310) rfl ?_
        show Steps p.tables e below (T23.setTop (mkF m 312 #[.val (.int p0), .val (.long q1), .second, .val (.long q2), .second, .val (.long q3), .second, .val (.long q4), .second, .val (.long q5), .second, .val (.long (1152921504606846975 : Int64)), .second, .val (.long l0), .second, .val (.long l1), .second, .val (.long l2), .second, .val (.long l3), .second, .val (.int (2 : Int32)), .val (.int mode), .val (.long vv), .second, .val (.ref b5), .val (.ref b11), .val (.int (if vv < l1 then (if vv < l0 then (-1 : Int32) else (0 : Int32)) else (1 : Int32)))] [(.int (if vv < l1 then (if vv < l0 then (-1 : Int32) else (0 : Int32)) else (1 : Int32))), (.int ((Int32.ofNat (own_cl 2 f2 vv)) - (1 : Int32)))])) t
        refine XS.icmpNo X23.here hx rfl (hb hby at_312) rfl (teq (show ((Int32.ofNat (own_cl 2 f2 vv)) - (1 : Int32)) = (if vv < l1 then (if vv < l0 then (-1 : Int32) else (0 : Int32)) else (1 : Int32)) from own_v2 hl0 hl1 hl2 hl3 hf1 hf2)).2 ?_
        show Steps p.tables e below (T23.setTop (mkF m 315 #[.val (.int p0), .val (.long q1), .second, .val (.long q2), .second, .val (.long q3), .second, .val (.long q4), .second, .val (.long q5), .second, .val (.long (1152921504606846975 : Int64)), .second, .val (.long l0), .second, .val (.long l1), .second, .val (.long l2), .second, .val (.long l3), .second, .val (.int (2 : Int32)), .val (.int mode), .val (.long vv), .second, .val (.ref b5), .val (.ref b11), .val (.int (if vv < l1 then (if vv < l0 then (-1 : Int32) else (0 : Int32)) else (1 : Int32)))] [])) t
        refine XS.iconst X23.here hx rfl (hb hby at_315) ?_
        show Steps p.tables e below (T23.setTop (mkF m 316 #[.val (.int p0), .val (.long q1), .second, .val (.long q2), .second, .val (.long q3), .second, .val (.long q4), .second, .val (.long q5), .second, .val (.long (1152921504606846975 : Int64)), .second, .val (.long l0), .second, .val (.long l1), .second, .val (.long l2), .second, .val (.long l3), .second, .val (.int (2 : Int32)), .val (.int mode), .val (.long vv), .second, .val (.ref b5), .val (.ref b11), .val (.int (if vv < l1 then (if vv < l0 then (-1 : Int32) else (0 : Int32)) else (1 : Int32)))] [(.int (1 : Int32))])) t
        refine XS.goto X23.here hx rfl (pc0 := 316) (pc' := 320) rfl (hb hby at_316) (by decide) (by decide) ?_
        show Steps p.tables e below (T23.setTop (mkF m 320 #[.val (.int p0), .val (.long q1), .second, .val (.long q2), .second, .val (.long q3), .second, .val (.long q4), .second, .val (.long q5), .second, .val (.long (1152921504606846975 : Int64)), .second, .val (.long l0), .second, .val (.long l1), .second, .val (.long l2), .second, .val (.long l3), .second, .val (.int (2 : Int32)), .val (.int mode), .val (.long vv), .second, .val (.ref b5), .val (.ref b11), .val (.int (if vv < l1 then (if vv < l0 then (-1 : Int32) else (0 : Int32)) else (1 : Int32)))] [(.int (1 : Int32))])) t
        exact kt
      exact own_retNW X23 hP hx hlk e23 hS kzKq20 (t := .boolean) hret (by simp) (hb hby at_320) (by decide) (by decide) (z' := (1 : Int32)) rfl ⟨rfl, N20⟩
    · rw [hn5]
      refine own_go (T' := T14) (f' := (mkF m 191 #[.val (.int p0), .val (.long q1), .second, .val (.long q2), .second, .val (.long q3), .second, .val (.long q4), .second, .val (.long q5), .second, .val (.long (1152921504606846975 : Int64)), .second, .val (.long l0), .second, .val (.long l1), .second, .val (.long l2), .second, .val (.long l3), .second, .val (.int (3 : Int32)), .val (.int mode), .val (.long vv), .second, .val (.ref b5), .val (.ref b11), .unset] [(.long l0), (.ref b11)])) (fun t kt => ?_) ?_
      · show Steps p.tables e below (T14.setTop (mkF m 182 #[.val (.int p0), .val (.long q1), .second, .val (.long q2), .second, .val (.long q3), .second, .val (.long q4), .second, .val (.long q5), .second, .val (.long (1152921504606846975 : Int64)), .second, .val (.long l0), .second, .val (.long l1), .second, .val (.long l2), .second, .val (.long l3), .second, .val (.int (3 : Int32)), .val (.int mode), .val (.long vv), .second, .val (.ref b5), .val (.ref b11), .unset] [])) t
        refine XS.iload X14.here hx rfl (hb hby at_182) rfl ?_
        show Steps p.tables e below (T14.setTop (mkF m 184 #[.val (.int p0), .val (.long q1), .second, .val (.long q2), .second, .val (.long q3), .second, .val (.long q4), .second, .val (.long q5), .second, .val (.long (1152921504606846975 : Int64)), .second, .val (.long l0), .second, .val (.long l1), .second, .val (.long l2), .second, .val (.long l3), .second, .val (.int (3 : Int32)), .val (.int mode), .val (.long vv), .second, .val (.ref b5), .val (.ref b11), .unset] [(.int (3 : Int32))])) t
        refine XS.ifNo X14.here hx rfl (hb hby at_184) rfl (by decide) ?_
        show Steps p.tables e below (T14.setTop (mkF m 187 #[.val (.int p0), .val (.long q1), .second, .val (.long q2), .second, .val (.long q3), .second, .val (.long q4), .second, .val (.long q5), .second, .val (.long (1152921504606846975 : Int64)), .second, .val (.long l0), .second, .val (.long l1), .second, .val (.long l2), .second, .val (.long l3), .second, .val (.int (3 : Int32)), .val (.int mode), .val (.long vv), .second, .val (.ref b5), .val (.ref b11), .unset] [])) t
        refine XS.aload X14.here hx rfl (hb hby at_187) rfl rfl ?_
        show Steps p.tables e below (T14.setTop (mkF m 189 #[.val (.int p0), .val (.long q1), .second, .val (.long q2), .second, .val (.long q3), .second, .val (.long q4), .second, .val (.long q5), .second, .val (.long (1152921504606846975 : Int64)), .second, .val (.long l0), .second, .val (.long l1), .second, .val (.long l2), .second, .val (.long l3), .second, .val (.int (3 : Int32)), .val (.int mode), .val (.long vv), .second, .val (.ref b5), .val (.ref b11), .unset] [(.ref b11)])) t
        refine XS.lload X14.here hx rfl (hb hby at_189) rfl ?_
        show Steps p.tables e below (T14.setTop (mkF m 191 #[.val (.int p0), .val (.long q1), .second, .val (.long q2), .second, .val (.long q3), .second, .val (.long q4), .second, .val (.long q5), .second, .val (.long (1152921504606846975 : Int64)), .second, .val (.long l0), .second, .val (.long l1), .second, .val (.long l2), .second, .val (.long l3), .second, .val (.int (3 : Int32)), .val (.int mode), .val (.long vv), .second, .val (.ref b5), .val (.ref b11), .unset] [(.long l0), (.ref b11)])) t
        exact kt
      refine own_callV X14 hx hZ hown rfl (hw _ (List.mem_of_getElem? (i := 83) rfl)) (hw _ (List.mem_of_getElem? (i := 84) rfl)) (notFace_of_selects (args := #[]) (mvT hZ (hw _ (List.mem_of_getElem? (i := 86) rfl)))) (hw _ (List.mem_of_getElem? (i := 86) rfl)) (hw _ (List.mem_of_getElem? (i := 85) rfl)) (hw _ (List.mem_of_getElem? (i := 44) rfl)) (hw _ (List.mem_of_getElem? (i := 87) rfl)) (by decide) (rm8 l Z aw hw b11 l0 r12 4 (fun _ => (0 : Int64)) (0 : Int32) 0 (.int ((own_z (¬ ((p0 &&& (256 : Int32)) = (0 : Int32)))) &&& (1 : Int32))) (.long (0 : Int64)) T14.heap n0 ZKq14 Pq14_0 g_b11 g_r12 (ne_b11_r12) (ne_r12_b11) Pq14_1 Pq14_4 Pq14_2 Pq14_3 Ar_r12 (by decide) (by decide)) Pq14_0 (g := (mkF m 191 #[.val (.int p0), .val (.long q1), .second, .val (.long q2), .second, .val (.long q3), .second, .val (.long q4), .second, .val (.long q5), .second, .val (.long (1152921504606846975 : Int64)), .second, .val (.long l0), .second, .val (.long l1), .second, .val (.long l2), .second, .val (.long l3), .second, .val (.int (3 : Int32)), .val (.int mode), .val (.long vv), .second, .val (.ref b5), .val (.ref b11), .unset] [(.long l0), (.ref b11)])) rfl (by rw [hml]; rfl) (argsL := [(.long l0)]) (rest := []) (lenOf pd_6 rfl) rfl rfl (W := 0) (by show 2 * 0 + _ ≤ _; exact Nat.le_of_eq rfl) (hb hby at_191) (by decide) (by decide) (by decide) (by decide) ?_
      rintro _ T24 L24 X24 ⟨rfl, Nq24, Kq24, Pq24_0, Pq24_1, Pq24_2, Pq24_3, Pq24_4, Pq24_5⟩
      have N24 := Fr.app N14 Nq24
      replace Pq10_0 := (Pq10_0.keep Kq24)
      replace F_r10 := (F_r10.keep Kq24 (ninS (ne_b5_b11) (ninS (ne_b5_r12) nin0)))
      replace Ar_r10 := (Ar_r10.keep Kq24 (ninS (ne_r10_b11) (ninS (ne_r10_r12) nin0)))
      replace Pq14_0 := (Pq14_0.keep Kq24)
      have ZKq24 : n0 ≤ T24.heap.size := Nat.le_trans ZKq14 Kq24.1
      have KKKq24 := KKKq14.trans Kq24 ((allS (Or.inr sz_b11) (allS (Or.inr sz_r12) all0)))
      have kzKq24 := Nat.le_trans kzKq14 Kq24.1
      obtain ⟨f1, hf1⟩ : ∃ z, z = (own_set (fun _ => (0 : Int64)) 0 l0) := ⟨_, rfl⟩
      rw [← hf1] at Pq24_5
      refine own_go (T' := T24) (f' := (mkF m 204 #[.val (.int p0), .val (.long q1), .second, .val (.long q2), .second, .val (.long q3), .second, .val (.long q4), .second, .val (.long q5), .second, .val (.long (1152921504606846975 : Int64)), .second, .val (.long l0), .second, .val (.long l1), .second, .val (.long l2), .second, .val (.long l3), .second, .val (.int (3 : Int32)), .val (.int mode), .val (.long vv), .second, .val (.ref b5), .val (.ref b11), .unset] [(.long l1), (.ref b11)])) (fun t kt => ?_) ?_
      · show Steps p.tables e below (T24.setTop (mkF m 194 #[.val (.int p0), .val (.long q1), .second, .val (.long q2), .second, .val (.long q3), .second, .val (.long q4), .second, .val (.long q5), .second, .val (.long (1152921504606846975 : Int64)), .second, .val (.long l0), .second, .val (.long l1), .second, .val (.long l2), .second, .val (.long l3), .second, .val (.int (3 : Int32)), .val (.int mode), .val (.long vv), .second, .val (.ref b5), .val (.ref b11), .unset] [])) t
        refine XS.iload X24.here hx rfl (hb hby at_194) rfl ?_
        show Steps p.tables e below (T24.setTop (mkF m 196 #[.val (.int p0), .val (.long q1), .second, .val (.long q2), .second, .val (.long q3), .second, .val (.long q4), .second, .val (.long q5), .second, .val (.long (1152921504606846975 : Int64)), .second, .val (.long l0), .second, .val (.long l1), .second, .val (.long l2), .second, .val (.long l3), .second, .val (.int (3 : Int32)), .val (.int mode), .val (.long vv), .second, .val (.ref b5), .val (.ref b11), .unset] [(.int (3 : Int32))])) t
        refine XS.iconst X24.here hx rfl (hb hby at_196) ?_
        show Steps p.tables e below (T24.setTop (mkF m 197 #[.val (.int p0), .val (.long q1), .second, .val (.long q2), .second, .val (.long q3), .second, .val (.long q4), .second, .val (.long q5), .second, .val (.long (1152921504606846975 : Int64)), .second, .val (.long l0), .second, .val (.long l1), .second, .val (.long l2), .second, .val (.long l3), .second, .val (.int (3 : Int32)), .val (.int mode), .val (.long vv), .second, .val (.ref b5), .val (.ref b11), .unset] [(.int (1 : Int32)), (.int (3 : Int32))])) t
        refine XS.icmpNo X24.here hx rfl (hb hby at_197) rfl (by decide) ?_
        show Steps p.tables e below (T24.setTop (mkF m 200 #[.val (.int p0), .val (.long q1), .second, .val (.long q2), .second, .val (.long q3), .second, .val (.long q4), .second, .val (.long q5), .second, .val (.long (1152921504606846975 : Int64)), .second, .val (.long l0), .second, .val (.long l1), .second, .val (.long l2), .second, .val (.long l3), .second, .val (.int (3 : Int32)), .val (.int mode), .val (.long vv), .second, .val (.ref b5), .val (.ref b11), .unset] [])) t
        refine XS.aload X24.here hx rfl (hb hby at_200) rfl rfl ?_
        show Steps p.tables e below (T24.setTop (mkF m 202 #[.val (.int p0), .val (.long q1), .second, .val (.long q2), .second, .val (.long q3), .second, .val (.long q4), .second, .val (.long q5), .second, .val (.long (1152921504606846975 : Int64)), .second, .val (.long l0), .second, .val (.long l1), .second, .val (.long l2), .second, .val (.long l3), .second, .val (.int (3 : Int32)), .val (.int mode), .val (.long vv), .second, .val (.ref b5), .val (.ref b11), .unset] [(.ref b11)])) t
        refine XS.lload X24.here hx rfl (hb hby at_202) rfl ?_
        show Steps p.tables e below (T24.setTop (mkF m 204 #[.val (.int p0), .val (.long q1), .second, .val (.long q2), .second, .val (.long q3), .second, .val (.long q4), .second, .val (.long q5), .second, .val (.long (1152921504606846975 : Int64)), .second, .val (.long l0), .second, .val (.long l1), .second, .val (.long l2), .second, .val (.long l3), .second, .val (.int (3 : Int32)), .val (.int mode), .val (.long vv), .second, .val (.ref b5), .val (.ref b11), .unset] [(.long l1), (.ref b11)])) t
        exact kt
      refine own_callV X24 hx hZ hown rfl (hw _ (List.mem_of_getElem? (i := 83) rfl)) (hw _ (List.mem_of_getElem? (i := 84) rfl)) (notFace_of_selects (args := #[]) (mvT hZ (hw _ (List.mem_of_getElem? (i := 86) rfl)))) (hw _ (List.mem_of_getElem? (i := 86) rfl)) (hw _ (List.mem_of_getElem? (i := 85) rfl)) (hw _ (List.mem_of_getElem? (i := 44) rfl)) (hw _ (List.mem_of_getElem? (i := 87) rfl)) (by decide) (rm8 l Z aw hw b11 l1 r12 4 f1 ((0 : Int32) + (1 : Int32)) 1 (.int ((own_z (¬ ((p0 &&& (256 : Int32)) = (0 : Int32)))) &&& (1 : Int32))) (.long (0 : Int64)) T24.heap n0 ZKq24 Pq24_0 g_b11 g_r12 (ne_b11_r12) (ne_r12_b11) Pq24_1 Pq24_2 Pq24_3 Pq24_4 Pq24_5 (by decide) (by decide)) Pq24_0 (g := (mkF m 204 #[.val (.int p0), .val (.long q1), .second, .val (.long q2), .second, .val (.long q3), .second, .val (.long q4), .second, .val (.long q5), .second, .val (.long (1152921504606846975 : Int64)), .second, .val (.long l0), .second, .val (.long l1), .second, .val (.long l2), .second, .val (.long l3), .second, .val (.int (3 : Int32)), .val (.int mode), .val (.long vv), .second, .val (.ref b5), .val (.ref b11), .unset] [(.long l1), (.ref b11)])) rfl (by rw [hml]; rfl) (argsL := [(.long l1)]) (rest := []) (lenOf pd_6 rfl) rfl rfl (W := 0) (by show 2 * 0 + _ ≤ _; exact Nat.le_of_eq rfl) (hb hby at_204) (by decide) (by decide) (by decide) (by decide) ?_
      rintro _ T25 L25 X25 ⟨rfl, Nq25, Kq25, Pq25_0, Pq25_1, Pq25_2, Pq25_3, Pq25_4, Pq25_5⟩
      have N25 := Fr.app N24 Nq25
      replace Pq10_0 := (Pq10_0.keep Kq25)
      replace F_r10 := (F_r10.keep Kq25 (ninS (ne_b5_b11) (ninS (ne_b5_r12) nin0)))
      replace Ar_r10 := (Ar_r10.keep Kq25 (ninS (ne_r10_b11) (ninS (ne_r10_r12) nin0)))
      replace Pq24_0 := (Pq24_0.keep Kq25)
      have ZKq25 : n0 ≤ T25.heap.size := Nat.le_trans ZKq24 Kq25.1
      have KKKq25 := KKKq24.trans Kq25 ((allS (Or.inr sz_b11) (allS (Or.inr sz_r12) all0)))
      have kzKq25 := Nat.le_trans kzKq24 Kq25.1
      obtain ⟨f2, hf2⟩ : ∃ z, z = (own_set f1 1 l1) := ⟨_, rfl⟩
      rw [← hf2] at Pq25_5
      refine own_go (T' := T25) (f' := (mkF m 217 #[.val (.int p0), .val (.long q1), .second, .val (.long q2), .second, .val (.long q3), .second, .val (.long q4), .second, .val (.long q5), .second, .val (.long (1152921504606846975 : Int64)), .second, .val (.long l0), .second, .val (.long l1), .second, .val (.long l2), .second, .val (.long l3), .second, .val (.int (3 : Int32)), .val (.int mode), .val (.long vv), .second, .val (.ref b5), .val (.ref b11), .unset] [(.long l2), (.ref b11)])) (fun t kt => ?_) ?_
      · show Steps p.tables e below (T25.setTop (mkF m 207 #[.val (.int p0), .val (.long q1), .second, .val (.long q2), .second, .val (.long q3), .second, .val (.long q4), .second, .val (.long q5), .second, .val (.long (1152921504606846975 : Int64)), .second, .val (.long l0), .second, .val (.long l1), .second, .val (.long l2), .second, .val (.long l3), .second, .val (.int (3 : Int32)), .val (.int mode), .val (.long vv), .second, .val (.ref b5), .val (.ref b11), .unset] [])) t
        refine XS.iload X25.here hx rfl (hb hby at_207) rfl ?_
        show Steps p.tables e below (T25.setTop (mkF m 209 #[.val (.int p0), .val (.long q1), .second, .val (.long q2), .second, .val (.long q3), .second, .val (.long q4), .second, .val (.long q5), .second, .val (.long (1152921504606846975 : Int64)), .second, .val (.long l0), .second, .val (.long l1), .second, .val (.long l2), .second, .val (.long l3), .second, .val (.int (3 : Int32)), .val (.int mode), .val (.long vv), .second, .val (.ref b5), .val (.ref b11), .unset] [(.int (3 : Int32))])) t
        refine XS.iconst X25.here hx rfl (hb hby at_209) ?_
        show Steps p.tables e below (T25.setTop (mkF m 210 #[.val (.int p0), .val (.long q1), .second, .val (.long q2), .second, .val (.long q3), .second, .val (.long q4), .second, .val (.long q5), .second, .val (.long (1152921504606846975 : Int64)), .second, .val (.long l0), .second, .val (.long l1), .second, .val (.long l2), .second, .val (.long l3), .second, .val (.int (3 : Int32)), .val (.int mode), .val (.long vv), .second, .val (.ref b5), .val (.ref b11), .unset] [(.int (2 : Int32)), (.int (3 : Int32))])) t
        refine XS.icmpNo X25.here hx rfl (hb hby at_210) rfl (by decide) ?_
        show Steps p.tables e below (T25.setTop (mkF m 213 #[.val (.int p0), .val (.long q1), .second, .val (.long q2), .second, .val (.long q3), .second, .val (.long q4), .second, .val (.long q5), .second, .val (.long (1152921504606846975 : Int64)), .second, .val (.long l0), .second, .val (.long l1), .second, .val (.long l2), .second, .val (.long l3), .second, .val (.int (3 : Int32)), .val (.int mode), .val (.long vv), .second, .val (.ref b5), .val (.ref b11), .unset] [])) t
        refine XS.aload X25.here hx rfl (hb hby at_213) rfl rfl ?_
        show Steps p.tables e below (T25.setTop (mkF m 215 #[.val (.int p0), .val (.long q1), .second, .val (.long q2), .second, .val (.long q3), .second, .val (.long q4), .second, .val (.long q5), .second, .val (.long (1152921504606846975 : Int64)), .second, .val (.long l0), .second, .val (.long l1), .second, .val (.long l2), .second, .val (.long l3), .second, .val (.int (3 : Int32)), .val (.int mode), .val (.long vv), .second, .val (.ref b5), .val (.ref b11), .unset] [(.ref b11)])) t
        refine XS.lload X25.here hx rfl (hb hby at_215) rfl ?_
        show Steps p.tables e below (T25.setTop (mkF m 217 #[.val (.int p0), .val (.long q1), .second, .val (.long q2), .second, .val (.long q3), .second, .val (.long q4), .second, .val (.long q5), .second, .val (.long (1152921504606846975 : Int64)), .second, .val (.long l0), .second, .val (.long l1), .second, .val (.long l2), .second, .val (.long l3), .second, .val (.int (3 : Int32)), .val (.int mode), .val (.long vv), .second, .val (.ref b5), .val (.ref b11), .unset] [(.long l2), (.ref b11)])) t
        exact kt
      refine own_callV X25 hx hZ hown rfl (hw _ (List.mem_of_getElem? (i := 83) rfl)) (hw _ (List.mem_of_getElem? (i := 84) rfl)) (notFace_of_selects (args := #[]) (mvT hZ (hw _ (List.mem_of_getElem? (i := 86) rfl)))) (hw _ (List.mem_of_getElem? (i := 86) rfl)) (hw _ (List.mem_of_getElem? (i := 85) rfl)) (hw _ (List.mem_of_getElem? (i := 44) rfl)) (hw _ (List.mem_of_getElem? (i := 87) rfl)) (by decide) (rm8 l Z aw hw b11 l2 r12 4 f2 (((0 : Int32) + (1 : Int32)) + (1 : Int32)) 2 (.int ((own_z (¬ ((p0 &&& (256 : Int32)) = (0 : Int32)))) &&& (1 : Int32))) (.long (0 : Int64)) T25.heap n0 ZKq25 Pq25_0 g_b11 g_r12 (ne_b11_r12) (ne_r12_b11) Pq25_1 Pq25_2 Pq25_3 Pq25_4 Pq25_5 (by decide) (by decide)) Pq25_0 (g := (mkF m 217 #[.val (.int p0), .val (.long q1), .second, .val (.long q2), .second, .val (.long q3), .second, .val (.long q4), .second, .val (.long q5), .second, .val (.long (1152921504606846975 : Int64)), .second, .val (.long l0), .second, .val (.long l1), .second, .val (.long l2), .second, .val (.long l3), .second, .val (.int (3 : Int32)), .val (.int mode), .val (.long vv), .second, .val (.ref b5), .val (.ref b11), .unset] [(.long l2), (.ref b11)])) rfl (by rw [hml]; rfl) (argsL := [(.long l2)]) (rest := []) (lenOf pd_6 rfl) rfl rfl (W := 0) (by show 2 * 0 + _ ≤ _; exact Nat.le_of_eq rfl) (hb hby at_217) (by decide) (by decide) (by decide) (by decide) ?_
      rintro _ T26 L26 X26 ⟨rfl, Nq26, Kq26, Pq26_0, Pq26_1, Pq26_2, Pq26_3, Pq26_4, Pq26_5⟩
      have N26 := Fr.app N25 Nq26
      replace Pq10_0 := (Pq10_0.keep Kq26)
      replace F_r10 := (F_r10.keep Kq26 (ninS (ne_b5_b11) (ninS (ne_b5_r12) nin0)))
      replace Ar_r10 := (Ar_r10.keep Kq26 (ninS (ne_r10_b11) (ninS (ne_r10_r12) nin0)))
      replace Pq25_0 := (Pq25_0.keep Kq26)
      have ZKq26 : n0 ≤ T26.heap.size := Nat.le_trans ZKq25 Kq26.1
      have KKKq26 := KKKq25.trans Kq26 ((allS (Or.inr sz_b11) (allS (Or.inr sz_r12) all0)))
      have kzKq26 := Nat.le_trans kzKq25 Kq26.1
      obtain ⟨f3, hf3⟩ : ∃ z, z = (own_set f2 2 l2) := ⟨_, rfl⟩
      rw [← hf3] at Pq26_5
      refine own_go (T' := T26) (f' := (mkF m 246 #[.val (.int p0), .val (.long q1), .second, .val (.long q2), .second, .val (.long q3), .second, .val (.long q4), .second, .val (.long q5), .second, .val (.long (1152921504606846975 : Int64)), .second, .val (.long l0), .second, .val (.long l1), .second, .val (.long l2), .second, .val (.long l3), .second, .val (.int (3 : Int32)), .val (.int mode), .val (.long vv), .second, .val (.ref b5), .val (.ref b11), .val (.int (-1 : Int32))] [(.int (lcmpW l0 vv))])) (fun t kt => ?_) ?_
      · show Steps p.tables e below (T26.setTop (mkF m 220 #[.val (.int p0), .val (.long q1), .second, .val (.long q2), .second, .val (.long q3), .second, .val (.long q4), .second, .val (.long q5), .second, .val (.long (1152921504606846975 : Int64)), .second, .val (.long l0), .second, .val (.long l1), .second, .val (.long l2), .second, .val (.long l3), .second, .val (.int (3 : Int32)), .val (.int mode), .val (.long vv), .second, .val (.ref b5), .val (.ref b11), .unset] [])) t
        refine XS.iload X26.here hx rfl (hb hby at_220) rfl ?_
        show Steps p.tables e below (T26.setTop (mkF m 222 #[.val (.int p0), .val (.long q1), .second, .val (.long q2), .second, .val (.long q3), .second, .val (.long q4), .second, .val (.long q5), .second, .val (.long (1152921504606846975 : Int64)), .second, .val (.long l0), .second, .val (.long l1), .second, .val (.long l2), .second, .val (.long l3), .second, .val (.int (3 : Int32)), .val (.int mode), .val (.long vv), .second, .val (.ref b5), .val (.ref b11), .unset] [(.int (3 : Int32))])) t
        refine XS.iconst X26.here hx rfl (hb hby at_222) ?_
        show Steps p.tables e below (T26.setTop (mkF m 223 #[.val (.int p0), .val (.long q1), .second, .val (.long q2), .second, .val (.long q3), .second, .val (.long q4), .second, .val (.long q5), .second, .val (.long (1152921504606846975 : Int64)), .second, .val (.long l0), .second, .val (.long l1), .second, .val (.long l2), .second, .val (.long l3), .second, .val (.int (3 : Int32)), .val (.int mode), .val (.long vv), .second, .val (.ref b5), .val (.ref b11), .unset] [(.int (3 : Int32)), (.int (3 : Int32))])) t
        refine XS.icmpYes X26.here hx rfl (pc0 := 223) (pc' := 233) rfl (hb hby at_223) rfl (by decide) (by decide) (by decide) ?_
        show Steps p.tables e below (T26.setTop (mkF m 233 #[.val (.int p0), .val (.long q1), .second, .val (.long q2), .second, .val (.long q3), .second, .val (.long q4), .second, .val (.long q5), .second, .val (.long (1152921504606846975 : Int64)), .second, .val (.long l0), .second, .val (.long l1), .second, .val (.long l2), .second, .val (.long l3), .second, .val (.int (3 : Int32)), .val (.int mode), .val (.long vv), .second, .val (.ref b5), .val (.ref b11), .unset] [])) t
        refine XS.iconst X26.here hx rfl (hb hby at_233) ?_
        show Steps p.tables e below (T26.setTop (mkF m 234 #[.val (.int p0), .val (.long q1), .second, .val (.long q2), .second, .val (.long q3), .second, .val (.long q4), .second, .val (.long q5), .second, .val (.long (1152921504606846975 : Int64)), .second, .val (.long l0), .second, .val (.long l1), .second, .val (.long l2), .second, .val (.long l3), .second, .val (.int (3 : Int32)), .val (.int mode), .val (.long vv), .second, .val (.ref b5), .val (.ref b11), .unset] [(.int (-1 : Int32))])) t
        refine XS.istore X26.here hx rfl (hb hby at_234) rfl (l' := #[.val (.int p0), .val (.long q1), .second, .val (.long q2), .second, .val (.long q3), .second, .val (.long q4), .second, .val (.long q5), .second, .val (.long (1152921504606846975 : Int64)), .second, .val (.long l0), .second, .val (.long l1), .second, .val (.long l2), .second, .val (.long l3), .second, .val (.int (3 : Int32)), .val (.int mode), .val (.long vv), .second, .val (.ref b5), .val (.ref b11), .val (.int (-1 : Int32))]) rfl ?_
        show Steps p.tables e below (T26.setTop (mkF m 236 #[.val (.int p0), .val (.long q1), .second, .val (.long q2), .second, .val (.long q3), .second, .val (.long q4), .second, .val (.long q5), .second, .val (.long (1152921504606846975 : Int64)), .second, .val (.long l0), .second, .val (.long l1), .second, .val (.long l2), .second, .val (.long l3), .second, .val (.int (3 : Int32)), .val (.int mode), .val (.long vv), .second, .val (.ref b5), .val (.ref b11), .val (.int (-1 : Int32))] [])) t
        refine XS.iload X26.here hx rfl (hb hby at_236) rfl ?_
        show Steps p.tables e below (T26.setTop (mkF m 238 #[.val (.int p0), .val (.long q1), .second, .val (.long q2), .second, .val (.long q3), .second, .val (.long q4), .second, .val (.long q5), .second, .val (.long (1152921504606846975 : Int64)), .second, .val (.long l0), .second, .val (.long l1), .second, .val (.long l2), .second, .val (.long l3), .second, .val (.int (3 : Int32)), .val (.int mode), .val (.long vv), .second, .val (.ref b5), .val (.ref b11), .val (.int (-1 : Int32))] [(.int (3 : Int32))])) t
        refine XS.ifNo X26.here hx rfl (hb hby at_238) rfl (by decide) ?_
        show Steps p.tables e below (T26.setTop (mkF m 241 #[.val (.int p0), .val (.long q1), .second, .val (.long q2), .second, .val (.long q3), .second, .val (.long q4), .second, .val (.long q5), .second, .val (.long (1152921504606846975 : Int64)), .second, .val (.long l0), .second, .val (.long l1), .second, .val (.long l2), .second, .val (.long l3), .second, .val (.int (3 : Int32)), .val (.int mode), .val (.long vv), .second, .val (.ref b5), .val (.ref b11), .val (.int (-1 : Int32))] [])) t
        refine XS.lload X26.here hx rfl (hb hby at_241) rfl ?_
        show Steps p.tables e below (T26.setTop (mkF m 243 #[.val (.int p0), .val (.long q1), .second, .val (.long q2), .second, .val (.long q3), .second, .val (.long q4), .second, .val (.long q5), .second, .val (.long (1152921504606846975 : Int64)), .second, .val (.long l0), .second, .val (.long l1), .second, .val (.long l2), .second, .val (.long l3), .second, .val (.int (3 : Int32)), .val (.int mode), .val (.long vv), .second, .val (.ref b5), .val (.ref b11), .val (.int (-1 : Int32))] [(.long l0)])) t
        refine XS.lload X26.here hx rfl (hb hby at_243) rfl ?_
        show Steps p.tables e below (T26.setTop (mkF m 245 #[.val (.int p0), .val (.long q1), .second, .val (.long q2), .second, .val (.long q3), .second, .val (.long q4), .second, .val (.long q5), .second, .val (.long (1152921504606846975 : Int64)), .second, .val (.long l0), .second, .val (.long l1), .second, .val (.long l2), .second, .val (.long l3), .second, .val (.int (3 : Int32)), .val (.int mode), .val (.long vv), .second, .val (.ref b5), .val (.ref b11), .val (.int (-1 : Int32))] [(.long vv), (.long l0)])) t
        refine XS.lcmp X26.here hx rfl (hb hby at_245) rfl ?_
        show Steps p.tables e below (T26.setTop (mkF m 246 #[.val (.int p0), .val (.long q1), .second, .val (.long q2), .second, .val (.long q3), .second, .val (.long q4), .second, .val (.long q5), .second, .val (.long (1152921504606846975 : Int64)), .second, .val (.long l0), .second, .val (.long l1), .second, .val (.long l2), .second, .val (.long l3), .second, .val (.int (3 : Int32)), .val (.int mode), .val (.long vv), .second, .val (.ref b5), .val (.ref b11), .val (.int (-1 : Int32))] [(.int (lcmpW l0 vv))])) t
        exact kt
      refine own_go (T' := T26) (f' := (mkF m 252 #[.val (.int p0), .val (.long q1), .second, .val (.long q2), .second, .val (.long q3), .second, .val (.long q4), .second, .val (.long q5), .second, .val (.long (1152921504606846975 : Int64)), .second, .val (.long l0), .second, .val (.long l1), .second, .val (.long l2), .second, .val (.long l3), .second, .val (.int (3 : Int32)), .val (.int mode), .val (.long vv), .second, .val (.ref b5), .val (.ref b11), .val (.int (if vv < l0 then (-1 : Int32) else (0 : Int32)))] [])) (fun t kt => ?_) ?_
      · by_cases hc246_27 : vv < l0
        · show Steps p.tables e below (T26.setTop (mkF m 246 #[.val (.int p0), .val (.long q1), .second, .val (.long q2), .second, .val (.long q3), .second, .val (.long q4), .second, .val (.long q5), .second, .val (.long (1152921504606846975 : Int64)), .second, .val (.long l0), .second, .val (.long l1), .second, .val (.long l2), .second, .val (.long l3), .second, .val (.int (3 : Int32)), .val (.int mode), .val (.long vv), .second, .val (.ref b5), .val (.ref b11), .val (.int (-1 : Int32))] [(.int (lcmpW l0 vv))])) t
          refine XS.ifYes X26.here hx rfl (pc0 := 246) (pc' := 252) rfl (hb hby at_246) rfl (own_lY_gt hc246_27) (by decide) (by decide) ?_
          show Steps p.tables e below (T26.setTop (mkF m 252 #[.val (.int p0), .val (.long q1), .second, .val (.long q2), .second, .val (.long q3), .second, .val (.long q4), .second, .val (.long q5), .second, .val (.long (1152921504606846975 : Int64)), .second, .val (.long l0), .second, .val (.long l1), .second, .val (.long l2), .second, .val (.long l3), .second, .val (.int (3 : Int32)), .val (.int mode), .val (.long vv), .second, .val (.ref b5), .val (.ref b11), .val (.int (-1 : Int32))] [])) t
          rw [if_pos hc246_27] at kt
          exact kt
        · show Steps p.tables e below (T26.setTop (mkF m 246 #[.val (.int p0), .val (.long q1), .second, .val (.long q2), .second, .val (.long q3), .second, .val (.long q4), .second, .val (.long q5), .second, .val (.long (1152921504606846975 : Int64)), .second, .val (.long l0), .second, .val (.long l1), .second, .val (.long l2), .second, .val (.long l3), .second, .val (.int (3 : Int32)), .val (.int mode), .val (.long vv), .second, .val (.ref b5), .val (.ref b11), .val (.int (-1 : Int32))] [(.int (lcmpW l0 vv))])) t
          refine XS.ifNo X26.here hx rfl (hb hby at_246) rfl (own_lN_gt hc246_27) ?_
          show Steps p.tables e below (T26.setTop (mkF m 249 #[.val (.int p0), .val (.long q1), .second, .val (.long q2), .second, .val (.long q3), .second, .val (.long q4), .second, .val (.long q5), .second, .val (.long (1152921504606846975 : Int64)), .second, .val (.long l0), .second, .val (.long l1), .second, .val (.long l2), .second, .val (.long l3), .second, .val (.int (3 : Int32)), .val (.int mode), .val (.long vv), .second, .val (.ref b5), .val (.ref b11), .val (.int (-1 : Int32))] [])) t
          refine XS.iconst X26.here hx rfl (hb hby at_249) ?_
          show Steps p.tables e below (T26.setTop (mkF m 250 #[.val (.int p0), .val (.long q1), .second, .val (.long q2), .second, .val (.long q3), .second, .val (.long q4), .second, .val (.long q5), .second, .val (.long (1152921504606846975 : Int64)), .second, .val (.long l0), .second, .val (.long l1), .second, .val (.long l2), .second, .val (.long l3), .second, .val (.int (3 : Int32)), .val (.int mode), .val (.long vv), .second, .val (.ref b5), .val (.ref b11), .val (.int (-1 : Int32))] [(.int (0 : Int32))])) t
          refine XS.istore X26.here hx rfl (hb hby at_250) rfl (l' := #[.val (.int p0), .val (.long q1), .second, .val (.long q2), .second, .val (.long q3), .second, .val (.long q4), .second, .val (.long q5), .second, .val (.long (1152921504606846975 : Int64)), .second, .val (.long l0), .second, .val (.long l1), .second, .val (.long l2), .second, .val (.long l3), .second, .val (.int (3 : Int32)), .val (.int mode), .val (.long vv), .second, .val (.ref b5), .val (.ref b11), .val (.int (0 : Int32))]) rfl ?_
          show Steps p.tables e below (T26.setTop (mkF m 252 #[.val (.int p0), .val (.long q1), .second, .val (.long q2), .second, .val (.long q3), .second, .val (.long q4), .second, .val (.long q5), .second, .val (.long (1152921504606846975 : Int64)), .second, .val (.long l0), .second, .val (.long l1), .second, .val (.long l2), .second, .val (.long l3), .second, .val (.int (3 : Int32)), .val (.int mode), .val (.long vv), .second, .val (.ref b5), .val (.ref b11), .val (.int (0 : Int32))] [])) t
          rw [if_neg hc246_27] at kt
          exact kt
      refine own_go (T' := T26) (f' := (mkF m 263 #[.val (.int p0), .val (.long q1), .second, .val (.long q2), .second, .val (.long q3), .second, .val (.long q4), .second, .val (.long q5), .second, .val (.long (1152921504606846975 : Int64)), .second, .val (.long l0), .second, .val (.long l1), .second, .val (.long l2), .second, .val (.long l3), .second, .val (.int (3 : Int32)), .val (.int mode), .val (.long vv), .second, .val (.ref b5), .val (.ref b11), .val (.int (if vv < l0 then (-1 : Int32) else (0 : Int32)))] [(.int (lcmpW l1 vv))])) (fun t kt => ?_) ?_
      · show Steps p.tables e below (T26.setTop (mkF m 252 #[.val (.int p0), .val (.long q1), .second, .val (.long q2), .second, .val (.long q3), .second, .val (.long q4), .second, .val (.long q5), .second, .val (.long (1152921504606846975 : Int64)), .second, .val (.long l0), .second, .val (.long l1), .second, .val (.long l2), .second, .val (.long l3), .second, .val (.int (3 : Int32)), .val (.int mode), .val (.long vv), .second, .val (.ref b5), .val (.ref b11), .val (.int (if vv < l0 then (-1 : Int32) else (0 : Int32)))] [])) t
        refine XS.iload X26.here hx rfl (hb hby at_252) rfl ?_
        show Steps p.tables e below (T26.setTop (mkF m 254 #[.val (.int p0), .val (.long q1), .second, .val (.long q2), .second, .val (.long q3), .second, .val (.long q4), .second, .val (.long q5), .second, .val (.long (1152921504606846975 : Int64)), .second, .val (.long l0), .second, .val (.long l1), .second, .val (.long l2), .second, .val (.long l3), .second, .val (.int (3 : Int32)), .val (.int mode), .val (.long vv), .second, .val (.ref b5), .val (.ref b11), .val (.int (if vv < l0 then (-1 : Int32) else (0 : Int32)))] [(.int (3 : Int32))])) t
        refine XS.iconst X26.here hx rfl (hb hby at_254) ?_
        show Steps p.tables e below (T26.setTop (mkF m 255 #[.val (.int p0), .val (.long q1), .second, .val (.long q2), .second, .val (.long q3), .second, .val (.long q4), .second, .val (.long q5), .second, .val (.long (1152921504606846975 : Int64)), .second, .val (.long l0), .second, .val (.long l1), .second, .val (.long l2), .second, .val (.long l3), .second, .val (.int (3 : Int32)), .val (.int mode), .val (.long vv), .second, .val (.ref b5), .val (.ref b11), .val (.int (if vv < l0 then (-1 : Int32) else (0 : Int32)))] [(.int (1 : Int32)), (.int (3 : Int32))])) t
        refine XS.icmpNo X26.here hx rfl (hb hby at_255) rfl (by decide) ?_
        show Steps p.tables e below (T26.setTop (mkF m 258 #[.val (.int p0), .val (.long q1), .second, .val (.long q2), .second, .val (.long q3), .second, .val (.long q4), .second, .val (.long q5), .second, .val (.long (1152921504606846975 : Int64)), .second, .val (.long l0), .second, .val (.long l1), .second, .val (.long l2), .second, .val (.long l3), .second, .val (.int (3 : Int32)), .val (.int mode), .val (.long vv), .second, .val (.ref b5), .val (.ref b11), .val (.int (if vv < l0 then (-1 : Int32) else (0 : Int32)))] [])) t
        refine XS.lload X26.here hx rfl (hb hby at_258) rfl ?_
        show Steps p.tables e below (T26.setTop (mkF m 260 #[.val (.int p0), .val (.long q1), .second, .val (.long q2), .second, .val (.long q3), .second, .val (.long q4), .second, .val (.long q5), .second, .val (.long (1152921504606846975 : Int64)), .second, .val (.long l0), .second, .val (.long l1), .second, .val (.long l2), .second, .val (.long l3), .second, .val (.int (3 : Int32)), .val (.int mode), .val (.long vv), .second, .val (.ref b5), .val (.ref b11), .val (.int (if vv < l0 then (-1 : Int32) else (0 : Int32)))] [(.long l1)])) t
        refine XS.lload X26.here hx rfl (hb hby at_260) rfl ?_
        show Steps p.tables e below (T26.setTop (mkF m 262 #[.val (.int p0), .val (.long q1), .second, .val (.long q2), .second, .val (.long q3), .second, .val (.long q4), .second, .val (.long q5), .second, .val (.long (1152921504606846975 : Int64)), .second, .val (.long l0), .second, .val (.long l1), .second, .val (.long l2), .second, .val (.long l3), .second, .val (.int (3 : Int32)), .val (.int mode), .val (.long vv), .second, .val (.ref b5), .val (.ref b11), .val (.int (if vv < l0 then (-1 : Int32) else (0 : Int32)))] [(.long vv), (.long l1)])) t
        refine XS.lcmp X26.here hx rfl (hb hby at_262) rfl ?_
        show Steps p.tables e below (T26.setTop (mkF m 263 #[.val (.int p0), .val (.long q1), .second, .val (.long q2), .second, .val (.long q3), .second, .val (.long q4), .second, .val (.long q5), .second, .val (.long (1152921504606846975 : Int64)), .second, .val (.long l0), .second, .val (.long l1), .second, .val (.long l2), .second, .val (.long l3), .second, .val (.int (3 : Int32)), .val (.int mode), .val (.long vv), .second, .val (.ref b5), .val (.ref b11), .val (.int (if vv < l0 then (-1 : Int32) else (0 : Int32)))] [(.int (lcmpW l1 vv))])) t
        exact kt
      refine own_go (T' := T26) (f' := (mkF m 269 #[.val (.int p0), .val (.long q1), .second, .val (.long q2), .second, .val (.long q3), .second, .val (.long q4), .second, .val (.long q5), .second, .val (.long (1152921504606846975 : Int64)), .second, .val (.long l0), .second, .val (.long l1), .second, .val (.long l2), .second, .val (.long l3), .second, .val (.int (3 : Int32)), .val (.int mode), .val (.long vv), .second, .val (.ref b5), .val (.ref b11), .val (.int (if vv < l1 then (if vv < l0 then (-1 : Int32) else (0 : Int32)) else (1 : Int32)))] [])) (fun t kt => ?_) ?_
      · by_cases hc263_28 : vv < l1
        · show Steps p.tables e below (T26.setTop (mkF m 263 #[.val (.int p0), .val (.long q1), .second, .val (.long q2), .second, .val (.long q3), .second, .val (.long q4), .second, .val (.long q5), .second, .val (.long (1152921504606846975 : Int64)), .second, .val (.long l0), .second, .val (.long l1), .second, .val (.long l2), .second, .val (.long l3), .second, .val (.int (3 : Int32)), .val (.int mode), .val (.long vv), .second, .val (.ref b5), .val (.ref b11), .val (.int (if vv < l0 then (-1 : Int32) else (0 : Int32)))] [(.int (lcmpW l1 vv))])) t
          refine XS.ifYes X26.here hx rfl (pc0 := 263) (pc' := 269) rfl (hb hby at_263) rfl (own_lY_gt hc263_28) (by decide) (by decide) ?_
          show Steps p.tables e below (T26.setTop (mkF m 269 #[.val (.int p0), .val (.long q1), .second, .val (.long q2), .second, .val (.long q3), .second, .val (.long q4), .second, .val (.long q5), .second, .val (.long (1152921504606846975 : Int64)), .second, .val (.long l0), .second, .val (.long l1), .second, .val (.long l2), .second, .val (.long l3), .second, .val (.int (3 : Int32)), .val (.int mode), .val (.long vv), .second, .val (.ref b5), .val (.ref b11), .val (.int (if vv < l0 then (-1 : Int32) else (0 : Int32)))] [])) t
          rw [if_pos hc263_28] at kt
          exact kt
        · show Steps p.tables e below (T26.setTop (mkF m 263 #[.val (.int p0), .val (.long q1), .second, .val (.long q2), .second, .val (.long q3), .second, .val (.long q4), .second, .val (.long q5), .second, .val (.long (1152921504606846975 : Int64)), .second, .val (.long l0), .second, .val (.long l1), .second, .val (.long l2), .second, .val (.long l3), .second, .val (.int (3 : Int32)), .val (.int mode), .val (.long vv), .second, .val (.ref b5), .val (.ref b11), .val (.int (if vv < l0 then (-1 : Int32) else (0 : Int32)))] [(.int (lcmpW l1 vv))])) t
          refine XS.ifNo X26.here hx rfl (hb hby at_263) rfl (own_lN_gt hc263_28) ?_
          show Steps p.tables e below (T26.setTop (mkF m 266 #[.val (.int p0), .val (.long q1), .second, .val (.long q2), .second, .val (.long q3), .second, .val (.long q4), .second, .val (.long q5), .second, .val (.long (1152921504606846975 : Int64)), .second, .val (.long l0), .second, .val (.long l1), .second, .val (.long l2), .second, .val (.long l3), .second, .val (.int (3 : Int32)), .val (.int mode), .val (.long vv), .second, .val (.ref b5), .val (.ref b11), .val (.int (if vv < l0 then (-1 : Int32) else (0 : Int32)))] [])) t
          refine XS.iconst X26.here hx rfl (hb hby at_266) ?_
          show Steps p.tables e below (T26.setTop (mkF m 267 #[.val (.int p0), .val (.long q1), .second, .val (.long q2), .second, .val (.long q3), .second, .val (.long q4), .second, .val (.long q5), .second, .val (.long (1152921504606846975 : Int64)), .second, .val (.long l0), .second, .val (.long l1), .second, .val (.long l2), .second, .val (.long l3), .second, .val (.int (3 : Int32)), .val (.int mode), .val (.long vv), .second, .val (.ref b5), .val (.ref b11), .val (.int (if vv < l0 then (-1 : Int32) else (0 : Int32)))] [(.int (1 : Int32))])) t
          refine XS.istore X26.here hx rfl (hb hby at_267) rfl (l' := #[.val (.int p0), .val (.long q1), .second, .val (.long q2), .second, .val (.long q3), .second, .val (.long q4), .second, .val (.long q5), .second, .val (.long (1152921504606846975 : Int64)), .second, .val (.long l0), .second, .val (.long l1), .second, .val (.long l2), .second, .val (.long l3), .second, .val (.int (3 : Int32)), .val (.int mode), .val (.long vv), .second, .val (.ref b5), .val (.ref b11), .val (.int (1 : Int32))]) rfl ?_
          show Steps p.tables e below (T26.setTop (mkF m 269 #[.val (.int p0), .val (.long q1), .second, .val (.long q2), .second, .val (.long q3), .second, .val (.long q4), .second, .val (.long q5), .second, .val (.long (1152921504606846975 : Int64)), .second, .val (.long l0), .second, .val (.long l1), .second, .val (.long l2), .second, .val (.long l3), .second, .val (.int (3 : Int32)), .val (.int mode), .val (.long vv), .second, .val (.ref b5), .val (.ref b11), .val (.int (1 : Int32))] [])) t
          rw [if_neg hc263_28] at kt
          exact kt
      refine own_go (T' := T26) (f' := (mkF m 280 #[.val (.int p0), .val (.long q1), .second, .val (.long q2), .second, .val (.long q3), .second, .val (.long q4), .second, .val (.long q5), .second, .val (.long (1152921504606846975 : Int64)), .second, .val (.long l0), .second, .val (.long l1), .second, .val (.long l2), .second, .val (.long l3), .second, .val (.int (3 : Int32)), .val (.int mode), .val (.long vv), .second, .val (.ref b5), .val (.ref b11), .val (.int (if vv < l1 then (if vv < l0 then (-1 : Int32) else (0 : Int32)) else (1 : Int32)))] [(.int (lcmpW l2 vv))])) (fun t kt => ?_) ?_
      · show Steps p.tables e below (T26.setTop (mkF m 269 #[.val (.int p0), .val (.long q1), .second, .val (.long q2), .second, .val (.long q3), .second, .val (.long q4), .second, .val (.long q5), .second, .val (.long (1152921504606846975 : Int64)), .second, .val (.long l0), .second, .val (.long l1), .second, .val (.long l2), .second, .val (.long l3), .second, .val (.int (3 : Int32)), .val (.int mode), .val (.long vv), .second, .val (.ref b5), .val (.ref b11), .val (.int (if vv < l1 then (if vv < l0 then (-1 : Int32) else (0 : Int32)) else (1 : Int32)))] [])) t
        refine XS.iload X26.here hx rfl (hb hby at_269) rfl ?_
        show Steps p.tables e below (T26.setTop (mkF m 271 #[.val (.int p0), .val (.long q1), .second, .val (.long q2), .second, .val (.long q3), .second, .val (.long q4), .second, .val (.long q5), .second, .val (.long (1152921504606846975 : Int64)), .second, .val (.long l0), .second, .val (.long l1), .second, .val (.long l2), .second, .val (.long l3), .second, .val (.int (3 : Int32)), .val (.int mode), .val (.long vv), .second, .val (.ref b5), .val (.ref b11), .val (.int (if vv < l1 then (if vv < l0 then (-1 : Int32) else (0 : Int32)) else (1 : Int32)))] [(.int (3 : Int32))])) t
        refine XS.iconst X26.here hx rfl (hb hby at_271) ?_
        show Steps p.tables e below (T26.setTop (mkF m 272 #[.val (.int p0), .val (.long q1), .second, .val (.long q2), .second, .val (.long q3), .second, .val (.long q4), .second, .val (.long q5), .second, .val (.long (1152921504606846975 : Int64)), .second, .val (.long l0), .second, .val (.long l1), .second, .val (.long l2), .second, .val (.long l3), .second, .val (.int (3 : Int32)), .val (.int mode), .val (.long vv), .second, .val (.ref b5), .val (.ref b11), .val (.int (if vv < l1 then (if vv < l0 then (-1 : Int32) else (0 : Int32)) else (1 : Int32)))] [(.int (2 : Int32)), (.int (3 : Int32))])) t
        refine XS.icmpNo X26.here hx rfl (hb hby at_272) rfl (by decide) ?_
        show Steps p.tables e below (T26.setTop (mkF m 275 #[.val (.int p0), .val (.long q1), .second, .val (.long q2), .second, .val (.long q3), .second, .val (.long q4), .second, .val (.long q5), .second, .val (.long (1152921504606846975 : Int64)), .second, .val (.long l0), .second, .val (.long l1), .second, .val (.long l2), .second, .val (.long l3), .second, .val (.int (3 : Int32)), .val (.int mode), .val (.long vv), .second, .val (.ref b5), .val (.ref b11), .val (.int (if vv < l1 then (if vv < l0 then (-1 : Int32) else (0 : Int32)) else (1 : Int32)))] [])) t
        refine XS.lload X26.here hx rfl (hb hby at_275) rfl ?_
        show Steps p.tables e below (T26.setTop (mkF m 277 #[.val (.int p0), .val (.long q1), .second, .val (.long q2), .second, .val (.long q3), .second, .val (.long q4), .second, .val (.long q5), .second, .val (.long (1152921504606846975 : Int64)), .second, .val (.long l0), .second, .val (.long l1), .second, .val (.long l2), .second, .val (.long l3), .second, .val (.int (3 : Int32)), .val (.int mode), .val (.long vv), .second, .val (.ref b5), .val (.ref b11), .val (.int (if vv < l1 then (if vv < l0 then (-1 : Int32) else (0 : Int32)) else (1 : Int32)))] [(.long l2)])) t
        refine XS.lload X26.here hx rfl (hb hby at_277) rfl ?_
        show Steps p.tables e below (T26.setTop (mkF m 279 #[.val (.int p0), .val (.long q1), .second, .val (.long q2), .second, .val (.long q3), .second, .val (.long q4), .second, .val (.long q5), .second, .val (.long (1152921504606846975 : Int64)), .second, .val (.long l0), .second, .val (.long l1), .second, .val (.long l2), .second, .val (.long l3), .second, .val (.int (3 : Int32)), .val (.int mode), .val (.long vv), .second, .val (.ref b5), .val (.ref b11), .val (.int (if vv < l1 then (if vv < l0 then (-1 : Int32) else (0 : Int32)) else (1 : Int32)))] [(.long vv), (.long l2)])) t
        refine XS.lcmp X26.here hx rfl (hb hby at_279) rfl ?_
        show Steps p.tables e below (T26.setTop (mkF m 280 #[.val (.int p0), .val (.long q1), .second, .val (.long q2), .second, .val (.long q3), .second, .val (.long q4), .second, .val (.long q5), .second, .val (.long (1152921504606846975 : Int64)), .second, .val (.long l0), .second, .val (.long l1), .second, .val (.long l2), .second, .val (.long l3), .second, .val (.int (3 : Int32)), .val (.int mode), .val (.long vv), .second, .val (.ref b5), .val (.ref b11), .val (.int (if vv < l1 then (if vv < l0 then (-1 : Int32) else (0 : Int32)) else (1 : Int32)))] [(.int (lcmpW l2 vv))])) t
        exact kt
      refine own_go (T' := T26) (f' := (mkF m 286 #[.val (.int p0), .val (.long q1), .second, .val (.long q2), .second, .val (.long q3), .second, .val (.long q4), .second, .val (.long q5), .second, .val (.long (1152921504606846975 : Int64)), .second, .val (.long l0), .second, .val (.long l1), .second, .val (.long l2), .second, .val (.long l3), .second, .val (.int (3 : Int32)), .val (.int mode), .val (.long vv), .second, .val (.ref b5), .val (.ref b11), .val (.int (if vv < l2 then (if vv < l1 then (if vv < l0 then (-1 : Int32) else (0 : Int32)) else (1 : Int32)) else (2 : Int32)))] [])) (fun t kt => ?_) ?_
      · by_cases hc280_29 : vv < l2
        · show Steps p.tables e below (T26.setTop (mkF m 280 #[.val (.int p0), .val (.long q1), .second, .val (.long q2), .second, .val (.long q3), .second, .val (.long q4), .second, .val (.long q5), .second, .val (.long (1152921504606846975 : Int64)), .second, .val (.long l0), .second, .val (.long l1), .second, .val (.long l2), .second, .val (.long l3), .second, .val (.int (3 : Int32)), .val (.int mode), .val (.long vv), .second, .val (.ref b5), .val (.ref b11), .val (.int (if vv < l1 then (if vv < l0 then (-1 : Int32) else (0 : Int32)) else (1 : Int32)))] [(.int (lcmpW l2 vv))])) t
          refine XS.ifYes X26.here hx rfl (pc0 := 280) (pc' := 286) rfl (hb hby at_280) rfl (own_lY_gt hc280_29) (by decide) (by decide) ?_
          show Steps p.tables e below (T26.setTop (mkF m 286 #[.val (.int p0), .val (.long q1), .second, .val (.long q2), .second, .val (.long q3), .second, .val (.long q4), .second, .val (.long q5), .second, .val (.long (1152921504606846975 : Int64)), .second, .val (.long l0), .second, .val (.long l1), .second, .val (.long l2), .second, .val (.long l3), .second, .val (.int (3 : Int32)), .val (.int mode), .val (.long vv), .second, .val (.ref b5), .val (.ref b11), .val (.int (if vv < l1 then (if vv < l0 then (-1 : Int32) else (0 : Int32)) else (1 : Int32)))] [])) t
          rw [if_pos hc280_29] at kt
          exact kt
        · show Steps p.tables e below (T26.setTop (mkF m 280 #[.val (.int p0), .val (.long q1), .second, .val (.long q2), .second, .val (.long q3), .second, .val (.long q4), .second, .val (.long q5), .second, .val (.long (1152921504606846975 : Int64)), .second, .val (.long l0), .second, .val (.long l1), .second, .val (.long l2), .second, .val (.long l3), .second, .val (.int (3 : Int32)), .val (.int mode), .val (.long vv), .second, .val (.ref b5), .val (.ref b11), .val (.int (if vv < l1 then (if vv < l0 then (-1 : Int32) else (0 : Int32)) else (1 : Int32)))] [(.int (lcmpW l2 vv))])) t
          refine XS.ifNo X26.here hx rfl (hb hby at_280) rfl (own_lN_gt hc280_29) ?_
          show Steps p.tables e below (T26.setTop (mkF m 283 #[.val (.int p0), .val (.long q1), .second, .val (.long q2), .second, .val (.long q3), .second, .val (.long q4), .second, .val (.long q5), .second, .val (.long (1152921504606846975 : Int64)), .second, .val (.long l0), .second, .val (.long l1), .second, .val (.long l2), .second, .val (.long l3), .second, .val (.int (3 : Int32)), .val (.int mode), .val (.long vv), .second, .val (.ref b5), .val (.ref b11), .val (.int (if vv < l1 then (if vv < l0 then (-1 : Int32) else (0 : Int32)) else (1 : Int32)))] [])) t
          refine XS.iconst X26.here hx rfl (hb hby at_283) ?_
          show Steps p.tables e below (T26.setTop (mkF m 284 #[.val (.int p0), .val (.long q1), .second, .val (.long q2), .second, .val (.long q3), .second, .val (.long q4), .second, .val (.long q5), .second, .val (.long (1152921504606846975 : Int64)), .second, .val (.long l0), .second, .val (.long l1), .second, .val (.long l2), .second, .val (.long l3), .second, .val (.int (3 : Int32)), .val (.int mode), .val (.long vv), .second, .val (.ref b5), .val (.ref b11), .val (.int (if vv < l1 then (if vv < l0 then (-1 : Int32) else (0 : Int32)) else (1 : Int32)))] [(.int (2 : Int32))])) t
          refine XS.istore X26.here hx rfl (hb hby at_284) rfl (l' := #[.val (.int p0), .val (.long q1), .second, .val (.long q2), .second, .val (.long q3), .second, .val (.long q4), .second, .val (.long q5), .second, .val (.long (1152921504606846975 : Int64)), .second, .val (.long l0), .second, .val (.long l1), .second, .val (.long l2), .second, .val (.long l3), .second, .val (.int (3 : Int32)), .val (.int mode), .val (.long vv), .second, .val (.ref b5), .val (.ref b11), .val (.int (2 : Int32))]) rfl ?_
          show Steps p.tables e below (T26.setTop (mkF m 286 #[.val (.int p0), .val (.long q1), .second, .val (.long q2), .second, .val (.long q3), .second, .val (.long q4), .second, .val (.long q5), .second, .val (.long (1152921504606846975 : Int64)), .second, .val (.long l0), .second, .val (.long l1), .second, .val (.long l2), .second, .val (.long l3), .second, .val (.int (3 : Int32)), .val (.int mode), .val (.long vv), .second, .val (.ref b5), .val (.ref b11), .val (.int (2 : Int32))] [])) t
          rw [if_neg hc280_29] at kt
          exact kt
      refine own_go (T' := T26) (f' := (mkF m 307 #[.val (.int p0), .val (.long q1), .second, .val (.long q2), .second, .val (.long q3), .second, .val (.long q4), .second, .val (.long q5), .second, .val (.long (1152921504606846975 : Int64)), .second, .val (.long l0), .second, .val (.long l1), .second, .val (.long l2), .second, .val (.long l3), .second, .val (.int (3 : Int32)), .val (.int mode), .val (.long vv), .second, .val (.ref b5), .val (.ref b11), .val (.int (if vv < l2 then (if vv < l1 then (if vv < l0 then (-1 : Int32) else (0 : Int32)) else (1 : Int32)) else (2 : Int32)))] [(.long vv), (.ref b11)])) (fun t kt => ?_) ?_
      · show Steps p.tables e below (T26.setTop (mkF m 286 #[.val (.int p0), .val (.long q1), .second, .val (.long q2), .second, .val (.long q3), .second, .val (.long q4), .second, .val (.long q5), .second, .val (.long (1152921504606846975 : Int64)), .second, .val (.long l0), .second, .val (.long l1), .second, .val (.long l2), .second, .val (.long l3), .second, .val (.int (3 : Int32)), .val (.int mode), .val (.long vv), .second, .val (.ref b5), .val (.ref b11), .val (.int (if vv < l2 then (if vv < l1 then (if vv < l0 then (-1 : Int32) else (0 : Int32)) else (1 : Int32)) else (2 : Int32)))] [])) t
        refine XS.iload X26.here hx rfl (hb hby at_286) rfl ?_
        show Steps p.tables e below (T26.setTop (mkF m 288 #[.val (.int p0), .val (.long q1), .second, .val (.long q2), .second, .val (.long q3), .second, .val (.long q4), .second, .val (.long q5), .second, .val (.long (1152921504606846975 : Int64)), .second, .val (.long l0), .second, .val (.long l1), .second, .val (.long l2), .second, .val (.long l3), .second, .val (.int (3 : Int32)), .val (.int mode), .val (.long vv), .second, .val (.ref b5), .val (.ref b11), .val (.int (if vv < l2 then (if vv < l1 then (if vv < l0 then (-1 : Int32) else (0 : Int32)) else (1 : Int32)) else (2 : Int32)))] [(.int (3 : Int32))])) t
        refine XS.iconst X26.here hx rfl (hb hby at_288) ?_
        show Steps p.tables e below (T26.setTop (mkF m 289 #[.val (.int p0), .val (.long q1), .second, .val (.long q2), .second, .val (.long q3), .second, .val (.long q4), .second, .val (.long q5), .second, .val (.long (1152921504606846975 : Int64)), .second, .val (.long l0), .second, .val (.long l1), .second, .val (.long l2), .second, .val (.long l3), .second, .val (.int (3 : Int32)), .val (.int mode), .val (.long vv), .second, .val (.ref b5), .val (.ref b11), .val (.int (if vv < l2 then (if vv < l1 then (if vv < l0 then (-1 : Int32) else (0 : Int32)) else (1 : Int32)) else (2 : Int32)))] [(.int (3 : Int32)), (.int (3 : Int32))])) t
        refine XS.icmpYes X26.here hx rfl (pc0 := 289) (pc' := 303) rfl (hb hby at_289) rfl (by decide) (by decide) (by decide) ?_
        show Steps p.tables e below (T26.setTop (mkF m 303 #[.val (.int p0), .val (.long q1), .second, .val (.long q2), .second, .val (.long q3), .second, .val (.long q4), .second, .val (.long q5), .second, .val (.long (1152921504606846975 : Int64)), .second, .val (.long l0), .second, .val (.long l1), .second, .val (.long l2), .second, .val (.long l3), .second, .val (.int (3 : Int32)), .val (.int mode), .val (.long vv), .second, .val (.ref b5), .val (.ref b11), .val (.int (if vv < l2 then (if vv < l1 then (if vv < l0 then (-1 : Int32) else (0 : Int32)) else (1 : Int32)) else (2 : Int32)))] [])) t
        refine XS.aload X26.here hx rfl (hb hby at_303) rfl rfl ?_
        show Steps p.tables e below (T26.setTop (mkF m 305 #[.val (.int p0), .val (.long q1), .second, .val (.long q2), .second, .val (.long q3), .second, .val (.long q4), .second, .val (.long q5), .second, .val (.long (1152921504606846975 : Int64)), .second, .val (.long l0), .second, .val (.long l1), .second, .val (.long l2), .second, .val (.long l3), .second, .val (.int (3 : Int32)), .val (.int mode), .val (.long vv), .second, .val (.ref b5), .val (.ref b11), .val (.int (if vv < l2 then (if vv < l1 then (if vv < l0 then (-1 : Int32) else (0 : Int32)) else (1 : Int32)) else (2 : Int32)))] [(.ref b11)])) t
        refine XS.lload X26.here hx rfl (hb hby at_305) rfl ?_
        show Steps p.tables e below (T26.setTop (mkF m 307 #[.val (.int p0), .val (.long q1), .second, .val (.long q2), .second, .val (.long q3), .second, .val (.long q4), .second, .val (.long q5), .second, .val (.long (1152921504606846975 : Int64)), .second, .val (.long l0), .second, .val (.long l1), .second, .val (.long l2), .second, .val (.long l3), .second, .val (.int (3 : Int32)), .val (.int mode), .val (.long vv), .second, .val (.ref b5), .val (.ref b11), .val (.int (if vv < l2 then (if vv < l1 then (if vv < l0 then (-1 : Int32) else (0 : Int32)) else (1 : Int32)) else (2 : Int32)))] [(.long vv), (.ref b11)])) t
        exact kt
      refine own_callVp X26 hx hZ hown rfl (hw _ (List.mem_of_getElem? (i := 78) rfl)) (hw _ (List.mem_of_getElem? (i := 79) rfl)) (notFace_of_selects (args := #[]) (mvT hZ (hw _ (List.mem_of_getElem? (i := 81) rfl)))) (hw _ (List.mem_of_getElem? (i := 81) rfl)) (hw _ (List.mem_of_getElem? (i := 80) rfl)) (hw _ (List.mem_of_getElem? (i := 44) rfl)) (hw _ (List.mem_of_getElem? (i := 82) rfl)) (by decide) (rm7 l Z aw hw b11 vv r12 f3 ((((0 : Int32) + (1 : Int32)) + (1 : Int32)) + (1 : Int32)) 3 T26.heap n0 ZKq26 Pq26_1 Pq26_2 Pq26_5 (by decide) (by decide) (own_q3 hl0 hl1 hl2 hl3 hf1 hf2 hf3)) Pq26_0 (g := (mkF m 307 #[.val (.int p0), .val (.long q1), .second, .val (.long q2), .second, .val (.long q3), .second, .val (.long q4), .second, .val (.long q5), .second, .val (.long (1152921504606846975 : Int64)), .second, .val (.long l0), .second, .val (.long l1), .second, .val (.long l2), .second, .val (.long l3), .second, .val (.int (3 : Int32)), .val (.int mode), .val (.long vv), .second, .val (.ref b5), .val (.ref b11), .val (.int (if vv < l2 then (if vv < l1 then (if vv < l0 then (-1 : Int32) else (0 : Int32)) else (1 : Int32)) else (2 : Int32)))] [(.long vv), (.ref b11)])) rfl (by rw [hml]; rfl) (argsL := [(.long vv)]) (rest := []) (lenOf pd_5 rfl) rfl rfl (W := 0) (by show 2 * 0 + _ ≤ _; exact Nat.le_of_eq rfl) (hb hby at_307) (by decide) (by decide) (by decide) (by decide) ?_
      intro T30 X30 e30
      refine own_go (T' := T30) (f' := (mkF m 320 #[.val (.int p0), .val (.long q1), .second, .val (.long q2), .second, .val (.long q3), .second, .val (.long q4), .second, .val (.long q5), .second, .val (.long (1152921504606846975 : Int64)), .second, .val (.long l0), .second, .val (.long l1), .second, .val (.long l2), .second, .val (.long l3), .second, .val (.int (3 : Int32)), .val (.int mode), .val (.long vv), .second, .val (.ref b5), .val (.ref b11), .val (.int (if vv < l2 then (if vv < l1 then (if vv < l0 then (-1 : Int32) else (0 : Int32)) else (1 : Int32)) else (2 : Int32)))] [(.int (1 : Int32))])) (fun t kt => ?_) ?_
      · show Steps p.tables e below (T30.setTop (mkF m 310 #[.val (.int p0), .val (.long q1), .second, .val (.long q2), .second, .val (.long q3), .second, .val (.long q4), .second, .val (.long q5), .second, .val (.long (1152921504606846975 : Int64)), .second, .val (.long l0), .second, .val (.long l1), .second, .val (.long l2), .second, .val (.long l3), .second, .val (.int (3 : Int32)), .val (.int mode), .val (.long vv), .second, .val (.ref b5), .val (.ref b11), .val (.int (if vv < l2 then (if vv < l1 then (if vv < l0 then (-1 : Int32) else (0 : Int32)) else (1 : Int32)) else (2 : Int32)))] [(.int ((Int32.ofNat (own_cl 3 f3 vv)) - (1 : Int32)))])) t
        refine XS.iload X30.here hx rfl (hb hby at_310) rfl ?_
        show Steps p.tables e below (T30.setTop (mkF m 312 #[.val (.int p0), .val (.long q1), .second, .val (.long q2), .second, .val (.long q3), .second, .val (.long q4), .second, .val (.long q5), .second, .val (.long (1152921504606846975 : Int64)), .second, .val (.long l0), .second, .val (.long l1), .second, .val (.long l2), .second, .val (.long l3), .second, .val (.int (3 : Int32)), .val (.int mode), .val (.long vv), .second, .val (.ref b5), .val (.ref b11), .val (.int (if vv < l2 then (if vv < l1 then (if vv < l0 then (-1 : Int32) else (0 : Int32)) else (1 : Int32)) else (2 : Int32)))] [(.int (if vv < l2 then (if vv < l1 then (if vv < l0 then (-1 : Int32) else (0 : Int32)) else (1 : Int32)) else (2 : Int32))), (.int ((Int32.ofNat (own_cl 3 f3 vv)) - (1 : Int32)))])) t
        refine XS.icmpNo X30.here hx rfl (hb hby at_312) rfl (teq (show ((Int32.ofNat (own_cl 3 f3 vv)) - (1 : Int32)) = (if vv < l2 then (if vv < l1 then (if vv < l0 then (-1 : Int32) else (0 : Int32)) else (1 : Int32)) else (2 : Int32)) from own_v3 hl0 hl1 hl2 hl3 hf1 hf2 hf3)).2 ?_
        show Steps p.tables e below (T30.setTop (mkF m 315 #[.val (.int p0), .val (.long q1), .second, .val (.long q2), .second, .val (.long q3), .second, .val (.long q4), .second, .val (.long q5), .second, .val (.long (1152921504606846975 : Int64)), .second, .val (.long l0), .second, .val (.long l1), .second, .val (.long l2), .second, .val (.long l3), .second, .val (.int (3 : Int32)), .val (.int mode), .val (.long vv), .second, .val (.ref b5), .val (.ref b11), .val (.int (if vv < l2 then (if vv < l1 then (if vv < l0 then (-1 : Int32) else (0 : Int32)) else (1 : Int32)) else (2 : Int32)))] [])) t
        refine XS.iconst X30.here hx rfl (hb hby at_315) ?_
        show Steps p.tables e below (T30.setTop (mkF m 316 #[.val (.int p0), .val (.long q1), .second, .val (.long q2), .second, .val (.long q3), .second, .val (.long q4), .second, .val (.long q5), .second, .val (.long (1152921504606846975 : Int64)), .second, .val (.long l0), .second, .val (.long l1), .second, .val (.long l2), .second, .val (.long l3), .second, .val (.int (3 : Int32)), .val (.int mode), .val (.long vv), .second, .val (.ref b5), .val (.ref b11), .val (.int (if vv < l2 then (if vv < l1 then (if vv < l0 then (-1 : Int32) else (0 : Int32)) else (1 : Int32)) else (2 : Int32)))] [(.int (1 : Int32))])) t
        refine XS.goto X30.here hx rfl (pc0 := 316) (pc' := 320) rfl (hb hby at_316) (by decide) (by decide) ?_
        show Steps p.tables e below (T30.setTop (mkF m 320 #[.val (.int p0), .val (.long q1), .second, .val (.long q2), .second, .val (.long q3), .second, .val (.long q4), .second, .val (.long q5), .second, .val (.long (1152921504606846975 : Int64)), .second, .val (.long l0), .second, .val (.long l1), .second, .val (.long l2), .second, .val (.long l3), .second, .val (.int (3 : Int32)), .val (.int mode), .val (.long vv), .second, .val (.ref b5), .val (.ref b11), .val (.int (if vv < l2 then (if vv < l1 then (if vv < l0 then (-1 : Int32) else (0 : Int32)) else (1 : Int32)) else (2 : Int32)))] [(.int (1 : Int32))])) t
        exact kt
      exact own_retNW X30 hP hx hlk e30 hS kzKq26 (t := .boolean) hret (by simp) (hb hby at_320) (by decide) (by decide) (z' := (1 : Int32)) rfl ⟨rfl, N26⟩
    · rw [hn5]
      refine own_go (T' := T14) (f' := (mkF m 191 #[.val (.int p0), .val (.long q1), .second, .val (.long q2), .second, .val (.long q3), .second, .val (.long q4), .second, .val (.long q5), .second, .val (.long (1152921504606846975 : Int64)), .second, .val (.long l0), .second, .val (.long l1), .second, .val (.long l2), .second, .val (.long l3), .second, .val (.int (4 : Int32)), .val (.int mode), .val (.long vv), .second, .val (.ref b5), .val (.ref b11), .unset] [(.long l0), (.ref b11)])) (fun t kt => ?_) ?_
      · show Steps p.tables e below (T14.setTop (mkF m 182 #[.val (.int p0), .val (.long q1), .second, .val (.long q2), .second, .val (.long q3), .second, .val (.long q4), .second, .val (.long q5), .second, .val (.long (1152921504606846975 : Int64)), .second, .val (.long l0), .second, .val (.long l1), .second, .val (.long l2), .second, .val (.long l3), .second, .val (.int (4 : Int32)), .val (.int mode), .val (.long vv), .second, .val (.ref b5), .val (.ref b11), .unset] [])) t
        refine XS.iload X14.here hx rfl (hb hby at_182) rfl ?_
        show Steps p.tables e below (T14.setTop (mkF m 184 #[.val (.int p0), .val (.long q1), .second, .val (.long q2), .second, .val (.long q3), .second, .val (.long q4), .second, .val (.long q5), .second, .val (.long (1152921504606846975 : Int64)), .second, .val (.long l0), .second, .val (.long l1), .second, .val (.long l2), .second, .val (.long l3), .second, .val (.int (4 : Int32)), .val (.int mode), .val (.long vv), .second, .val (.ref b5), .val (.ref b11), .unset] [(.int (4 : Int32))])) t
        refine XS.ifNo X14.here hx rfl (hb hby at_184) rfl (by decide) ?_
        show Steps p.tables e below (T14.setTop (mkF m 187 #[.val (.int p0), .val (.long q1), .second, .val (.long q2), .second, .val (.long q3), .second, .val (.long q4), .second, .val (.long q5), .second, .val (.long (1152921504606846975 : Int64)), .second, .val (.long l0), .second, .val (.long l1), .second, .val (.long l2), .second, .val (.long l3), .second, .val (.int (4 : Int32)), .val (.int mode), .val (.long vv), .second, .val (.ref b5), .val (.ref b11), .unset] [])) t
        refine XS.aload X14.here hx rfl (hb hby at_187) rfl rfl ?_
        show Steps p.tables e below (T14.setTop (mkF m 189 #[.val (.int p0), .val (.long q1), .second, .val (.long q2), .second, .val (.long q3), .second, .val (.long q4), .second, .val (.long q5), .second, .val (.long (1152921504606846975 : Int64)), .second, .val (.long l0), .second, .val (.long l1), .second, .val (.long l2), .second, .val (.long l3), .second, .val (.int (4 : Int32)), .val (.int mode), .val (.long vv), .second, .val (.ref b5), .val (.ref b11), .unset] [(.ref b11)])) t
        refine XS.lload X14.here hx rfl (hb hby at_189) rfl ?_
        show Steps p.tables e below (T14.setTop (mkF m 191 #[.val (.int p0), .val (.long q1), .second, .val (.long q2), .second, .val (.long q3), .second, .val (.long q4), .second, .val (.long q5), .second, .val (.long (1152921504606846975 : Int64)), .second, .val (.long l0), .second, .val (.long l1), .second, .val (.long l2), .second, .val (.long l3), .second, .val (.int (4 : Int32)), .val (.int mode), .val (.long vv), .second, .val (.ref b5), .val (.ref b11), .unset] [(.long l0), (.ref b11)])) t
        exact kt
      refine own_callV X14 hx hZ hown rfl (hw _ (List.mem_of_getElem? (i := 83) rfl)) (hw _ (List.mem_of_getElem? (i := 84) rfl)) (notFace_of_selects (args := #[]) (mvT hZ (hw _ (List.mem_of_getElem? (i := 86) rfl)))) (hw _ (List.mem_of_getElem? (i := 86) rfl)) (hw _ (List.mem_of_getElem? (i := 85) rfl)) (hw _ (List.mem_of_getElem? (i := 44) rfl)) (hw _ (List.mem_of_getElem? (i := 87) rfl)) (by decide) (rm8 l Z aw hw b11 l0 r12 4 (fun _ => (0 : Int64)) (0 : Int32) 0 (.int ((own_z (¬ ((p0 &&& (256 : Int32)) = (0 : Int32)))) &&& (1 : Int32))) (.long (0 : Int64)) T14.heap n0 ZKq14 Pq14_0 g_b11 g_r12 (ne_b11_r12) (ne_r12_b11) Pq14_1 Pq14_4 Pq14_2 Pq14_3 Ar_r12 (by decide) (by decide)) Pq14_0 (g := (mkF m 191 #[.val (.int p0), .val (.long q1), .second, .val (.long q2), .second, .val (.long q3), .second, .val (.long q4), .second, .val (.long q5), .second, .val (.long (1152921504606846975 : Int64)), .second, .val (.long l0), .second, .val (.long l1), .second, .val (.long l2), .second, .val (.long l3), .second, .val (.int (4 : Int32)), .val (.int mode), .val (.long vv), .second, .val (.ref b5), .val (.ref b11), .unset] [(.long l0), (.ref b11)])) rfl (by rw [hml]; rfl) (argsL := [(.long l0)]) (rest := []) (lenOf pd_6 rfl) rfl rfl (W := 0) (by show 2 * 0 + _ ≤ _; exact Nat.le_of_eq rfl) (hb hby at_191) (by decide) (by decide) (by decide) (by decide) ?_
      rintro _ T31 L31 X31 ⟨rfl, Nq31, Kq31, Pq31_0, Pq31_1, Pq31_2, Pq31_3, Pq31_4, Pq31_5⟩
      have N31 := Fr.app N14 Nq31
      replace Pq10_0 := (Pq10_0.keep Kq31)
      replace F_r10 := (F_r10.keep Kq31 (ninS (ne_b5_b11) (ninS (ne_b5_r12) nin0)))
      replace Ar_r10 := (Ar_r10.keep Kq31 (ninS (ne_r10_b11) (ninS (ne_r10_r12) nin0)))
      replace Pq14_0 := (Pq14_0.keep Kq31)
      have ZKq31 : n0 ≤ T31.heap.size := Nat.le_trans ZKq14 Kq31.1
      have KKKq31 := KKKq14.trans Kq31 ((allS (Or.inr sz_b11) (allS (Or.inr sz_r12) all0)))
      have kzKq31 := Nat.le_trans kzKq14 Kq31.1
      obtain ⟨f1, hf1⟩ : ∃ z, z = (own_set (fun _ => (0 : Int64)) 0 l0) := ⟨_, rfl⟩
      rw [← hf1] at Pq31_5
      refine own_go (T' := T31) (f' := (mkF m 204 #[.val (.int p0), .val (.long q1), .second, .val (.long q2), .second, .val (.long q3), .second, .val (.long q4), .second, .val (.long q5), .second, .val (.long (1152921504606846975 : Int64)), .second, .val (.long l0), .second, .val (.long l1), .second, .val (.long l2), .second, .val (.long l3), .second, .val (.int (4 : Int32)), .val (.int mode), .val (.long vv), .second, .val (.ref b5), .val (.ref b11), .unset] [(.long l1), (.ref b11)])) (fun t kt => ?_) ?_
      · show Steps p.tables e below (T31.setTop (mkF m 194 #[.val (.int p0), .val (.long q1), .second, .val (.long q2), .second, .val (.long q3), .second, .val (.long q4), .second, .val (.long q5), .second, .val (.long (1152921504606846975 : Int64)), .second, .val (.long l0), .second, .val (.long l1), .second, .val (.long l2), .second, .val (.long l3), .second, .val (.int (4 : Int32)), .val (.int mode), .val (.long vv), .second, .val (.ref b5), .val (.ref b11), .unset] [])) t
        refine XS.iload X31.here hx rfl (hb hby at_194) rfl ?_
        show Steps p.tables e below (T31.setTop (mkF m 196 #[.val (.int p0), .val (.long q1), .second, .val (.long q2), .second, .val (.long q3), .second, .val (.long q4), .second, .val (.long q5), .second, .val (.long (1152921504606846975 : Int64)), .second, .val (.long l0), .second, .val (.long l1), .second, .val (.long l2), .second, .val (.long l3), .second, .val (.int (4 : Int32)), .val (.int mode), .val (.long vv), .second, .val (.ref b5), .val (.ref b11), .unset] [(.int (4 : Int32))])) t
        refine XS.iconst X31.here hx rfl (hb hby at_196) ?_
        show Steps p.tables e below (T31.setTop (mkF m 197 #[.val (.int p0), .val (.long q1), .second, .val (.long q2), .second, .val (.long q3), .second, .val (.long q4), .second, .val (.long q5), .second, .val (.long (1152921504606846975 : Int64)), .second, .val (.long l0), .second, .val (.long l1), .second, .val (.long l2), .second, .val (.long l3), .second, .val (.int (4 : Int32)), .val (.int mode), .val (.long vv), .second, .val (.ref b5), .val (.ref b11), .unset] [(.int (1 : Int32)), (.int (4 : Int32))])) t
        refine XS.icmpNo X31.here hx rfl (hb hby at_197) rfl (by decide) ?_
        show Steps p.tables e below (T31.setTop (mkF m 200 #[.val (.int p0), .val (.long q1), .second, .val (.long q2), .second, .val (.long q3), .second, .val (.long q4), .second, .val (.long q5), .second, .val (.long (1152921504606846975 : Int64)), .second, .val (.long l0), .second, .val (.long l1), .second, .val (.long l2), .second, .val (.long l3), .second, .val (.int (4 : Int32)), .val (.int mode), .val (.long vv), .second, .val (.ref b5), .val (.ref b11), .unset] [])) t
        refine XS.aload X31.here hx rfl (hb hby at_200) rfl rfl ?_
        show Steps p.tables e below (T31.setTop (mkF m 202 #[.val (.int p0), .val (.long q1), .second, .val (.long q2), .second, .val (.long q3), .second, .val (.long q4), .second, .val (.long q5), .second, .val (.long (1152921504606846975 : Int64)), .second, .val (.long l0), .second, .val (.long l1), .second, .val (.long l2), .second, .val (.long l3), .second, .val (.int (4 : Int32)), .val (.int mode), .val (.long vv), .second, .val (.ref b5), .val (.ref b11), .unset] [(.ref b11)])) t
        refine XS.lload X31.here hx rfl (hb hby at_202) rfl ?_
        show Steps p.tables e below (T31.setTop (mkF m 204 #[.val (.int p0), .val (.long q1), .second, .val (.long q2), .second, .val (.long q3), .second, .val (.long q4), .second, .val (.long q5), .second, .val (.long (1152921504606846975 : Int64)), .second, .val (.long l0), .second, .val (.long l1), .second, .val (.long l2), .second, .val (.long l3), .second, .val (.int (4 : Int32)), .val (.int mode), .val (.long vv), .second, .val (.ref b5), .val (.ref b11), .unset] [(.long l1), (.ref b11)])) t
        exact kt
      refine own_callV X31 hx hZ hown rfl (hw _ (List.mem_of_getElem? (i := 83) rfl)) (hw _ (List.mem_of_getElem? (i := 84) rfl)) (notFace_of_selects (args := #[]) (mvT hZ (hw _ (List.mem_of_getElem? (i := 86) rfl)))) (hw _ (List.mem_of_getElem? (i := 86) rfl)) (hw _ (List.mem_of_getElem? (i := 85) rfl)) (hw _ (List.mem_of_getElem? (i := 44) rfl)) (hw _ (List.mem_of_getElem? (i := 87) rfl)) (by decide) (rm8 l Z aw hw b11 l1 r12 4 f1 ((0 : Int32) + (1 : Int32)) 1 (.int ((own_z (¬ ((p0 &&& (256 : Int32)) = (0 : Int32)))) &&& (1 : Int32))) (.long (0 : Int64)) T31.heap n0 ZKq31 Pq31_0 g_b11 g_r12 (ne_b11_r12) (ne_r12_b11) Pq31_1 Pq31_2 Pq31_3 Pq31_4 Pq31_5 (by decide) (by decide)) Pq31_0 (g := (mkF m 204 #[.val (.int p0), .val (.long q1), .second, .val (.long q2), .second, .val (.long q3), .second, .val (.long q4), .second, .val (.long q5), .second, .val (.long (1152921504606846975 : Int64)), .second, .val (.long l0), .second, .val (.long l1), .second, .val (.long l2), .second, .val (.long l3), .second, .val (.int (4 : Int32)), .val (.int mode), .val (.long vv), .second, .val (.ref b5), .val (.ref b11), .unset] [(.long l1), (.ref b11)])) rfl (by rw [hml]; rfl) (argsL := [(.long l1)]) (rest := []) (lenOf pd_6 rfl) rfl rfl (W := 0) (by show 2 * 0 + _ ≤ _; exact Nat.le_of_eq rfl) (hb hby at_204) (by decide) (by decide) (by decide) (by decide) ?_
      rintro _ T32 L32 X32 ⟨rfl, Nq32, Kq32, Pq32_0, Pq32_1, Pq32_2, Pq32_3, Pq32_4, Pq32_5⟩
      have N32 := Fr.app N31 Nq32
      replace Pq10_0 := (Pq10_0.keep Kq32)
      replace F_r10 := (F_r10.keep Kq32 (ninS (ne_b5_b11) (ninS (ne_b5_r12) nin0)))
      replace Ar_r10 := (Ar_r10.keep Kq32 (ninS (ne_r10_b11) (ninS (ne_r10_r12) nin0)))
      replace Pq31_0 := (Pq31_0.keep Kq32)
      have ZKq32 : n0 ≤ T32.heap.size := Nat.le_trans ZKq31 Kq32.1
      have KKKq32 := KKKq31.trans Kq32 ((allS (Or.inr sz_b11) (allS (Or.inr sz_r12) all0)))
      have kzKq32 := Nat.le_trans kzKq31 Kq32.1
      obtain ⟨f2, hf2⟩ : ∃ z, z = (own_set f1 1 l1) := ⟨_, rfl⟩
      rw [← hf2] at Pq32_5
      refine own_go (T' := T32) (f' := (mkF m 217 #[.val (.int p0), .val (.long q1), .second, .val (.long q2), .second, .val (.long q3), .second, .val (.long q4), .second, .val (.long q5), .second, .val (.long (1152921504606846975 : Int64)), .second, .val (.long l0), .second, .val (.long l1), .second, .val (.long l2), .second, .val (.long l3), .second, .val (.int (4 : Int32)), .val (.int mode), .val (.long vv), .second, .val (.ref b5), .val (.ref b11), .unset] [(.long l2), (.ref b11)])) (fun t kt => ?_) ?_
      · show Steps p.tables e below (T32.setTop (mkF m 207 #[.val (.int p0), .val (.long q1), .second, .val (.long q2), .second, .val (.long q3), .second, .val (.long q4), .second, .val (.long q5), .second, .val (.long (1152921504606846975 : Int64)), .second, .val (.long l0), .second, .val (.long l1), .second, .val (.long l2), .second, .val (.long l3), .second, .val (.int (4 : Int32)), .val (.int mode), .val (.long vv), .second, .val (.ref b5), .val (.ref b11), .unset] [])) t
        refine XS.iload X32.here hx rfl (hb hby at_207) rfl ?_
        show Steps p.tables e below (T32.setTop (mkF m 209 #[.val (.int p0), .val (.long q1), .second, .val (.long q2), .second, .val (.long q3), .second, .val (.long q4), .second, .val (.long q5), .second, .val (.long (1152921504606846975 : Int64)), .second, .val (.long l0), .second, .val (.long l1), .second, .val (.long l2), .second, .val (.long l3), .second, .val (.int (4 : Int32)), .val (.int mode), .val (.long vv), .second, .val (.ref b5), .val (.ref b11), .unset] [(.int (4 : Int32))])) t
        refine XS.iconst X32.here hx rfl (hb hby at_209) ?_
        show Steps p.tables e below (T32.setTop (mkF m 210 #[.val (.int p0), .val (.long q1), .second, .val (.long q2), .second, .val (.long q3), .second, .val (.long q4), .second, .val (.long q5), .second, .val (.long (1152921504606846975 : Int64)), .second, .val (.long l0), .second, .val (.long l1), .second, .val (.long l2), .second, .val (.long l3), .second, .val (.int (4 : Int32)), .val (.int mode), .val (.long vv), .second, .val (.ref b5), .val (.ref b11), .unset] [(.int (2 : Int32)), (.int (4 : Int32))])) t
        refine XS.icmpNo X32.here hx rfl (hb hby at_210) rfl (by decide) ?_
        show Steps p.tables e below (T32.setTop (mkF m 213 #[.val (.int p0), .val (.long q1), .second, .val (.long q2), .second, .val (.long q3), .second, .val (.long q4), .second, .val (.long q5), .second, .val (.long (1152921504606846975 : Int64)), .second, .val (.long l0), .second, .val (.long l1), .second, .val (.long l2), .second, .val (.long l3), .second, .val (.int (4 : Int32)), .val (.int mode), .val (.long vv), .second, .val (.ref b5), .val (.ref b11), .unset] [])) t
        refine XS.aload X32.here hx rfl (hb hby at_213) rfl rfl ?_
        show Steps p.tables e below (T32.setTop (mkF m 215 #[.val (.int p0), .val (.long q1), .second, .val (.long q2), .second, .val (.long q3), .second, .val (.long q4), .second, .val (.long q5), .second, .val (.long (1152921504606846975 : Int64)), .second, .val (.long l0), .second, .val (.long l1), .second, .val (.long l2), .second, .val (.long l3), .second, .val (.int (4 : Int32)), .val (.int mode), .val (.long vv), .second, .val (.ref b5), .val (.ref b11), .unset] [(.ref b11)])) t
        refine XS.lload X32.here hx rfl (hb hby at_215) rfl ?_
        show Steps p.tables e below (T32.setTop (mkF m 217 #[.val (.int p0), .val (.long q1), .second, .val (.long q2), .second, .val (.long q3), .second, .val (.long q4), .second, .val (.long q5), .second, .val (.long (1152921504606846975 : Int64)), .second, .val (.long l0), .second, .val (.long l1), .second, .val (.long l2), .second, .val (.long l3), .second, .val (.int (4 : Int32)), .val (.int mode), .val (.long vv), .second, .val (.ref b5), .val (.ref b11), .unset] [(.long l2), (.ref b11)])) t
        exact kt
      refine own_callV X32 hx hZ hown rfl (hw _ (List.mem_of_getElem? (i := 83) rfl)) (hw _ (List.mem_of_getElem? (i := 84) rfl)) (notFace_of_selects (args := #[]) (mvT hZ (hw _ (List.mem_of_getElem? (i := 86) rfl)))) (hw _ (List.mem_of_getElem? (i := 86) rfl)) (hw _ (List.mem_of_getElem? (i := 85) rfl)) (hw _ (List.mem_of_getElem? (i := 44) rfl)) (hw _ (List.mem_of_getElem? (i := 87) rfl)) (by decide) (rm8 l Z aw hw b11 l2 r12 4 f2 (((0 : Int32) + (1 : Int32)) + (1 : Int32)) 2 (.int ((own_z (¬ ((p0 &&& (256 : Int32)) = (0 : Int32)))) &&& (1 : Int32))) (.long (0 : Int64)) T32.heap n0 ZKq32 Pq32_0 g_b11 g_r12 (ne_b11_r12) (ne_r12_b11) Pq32_1 Pq32_2 Pq32_3 Pq32_4 Pq32_5 (by decide) (by decide)) Pq32_0 (g := (mkF m 217 #[.val (.int p0), .val (.long q1), .second, .val (.long q2), .second, .val (.long q3), .second, .val (.long q4), .second, .val (.long q5), .second, .val (.long (1152921504606846975 : Int64)), .second, .val (.long l0), .second, .val (.long l1), .second, .val (.long l2), .second, .val (.long l3), .second, .val (.int (4 : Int32)), .val (.int mode), .val (.long vv), .second, .val (.ref b5), .val (.ref b11), .unset] [(.long l2), (.ref b11)])) rfl (by rw [hml]; rfl) (argsL := [(.long l2)]) (rest := []) (lenOf pd_6 rfl) rfl rfl (W := 0) (by show 2 * 0 + _ ≤ _; exact Nat.le_of_eq rfl) (hb hby at_217) (by decide) (by decide) (by decide) (by decide) ?_
      rintro _ T33 L33 X33 ⟨rfl, Nq33, Kq33, Pq33_0, Pq33_1, Pq33_2, Pq33_3, Pq33_4, Pq33_5⟩
      have N33 := Fr.app N32 Nq33
      replace Pq10_0 := (Pq10_0.keep Kq33)
      replace F_r10 := (F_r10.keep Kq33 (ninS (ne_b5_b11) (ninS (ne_b5_r12) nin0)))
      replace Ar_r10 := (Ar_r10.keep Kq33 (ninS (ne_r10_b11) (ninS (ne_r10_r12) nin0)))
      replace Pq32_0 := (Pq32_0.keep Kq33)
      have ZKq33 : n0 ≤ T33.heap.size := Nat.le_trans ZKq32 Kq33.1
      have KKKq33 := KKKq32.trans Kq33 ((allS (Or.inr sz_b11) (allS (Or.inr sz_r12) all0)))
      have kzKq33 := Nat.le_trans kzKq32 Kq33.1
      obtain ⟨f3, hf3⟩ : ∃ z, z = (own_set f2 2 l2) := ⟨_, rfl⟩
      rw [← hf3] at Pq33_5
      refine own_go (T' := T33) (f' := (mkF m 230 #[.val (.int p0), .val (.long q1), .second, .val (.long q2), .second, .val (.long q3), .second, .val (.long q4), .second, .val (.long q5), .second, .val (.long (1152921504606846975 : Int64)), .second, .val (.long l0), .second, .val (.long l1), .second, .val (.long l2), .second, .val (.long l3), .second, .val (.int (4 : Int32)), .val (.int mode), .val (.long vv), .second, .val (.ref b5), .val (.ref b11), .unset] [(.long l3), (.ref b11)])) (fun t kt => ?_) ?_
      · show Steps p.tables e below (T33.setTop (mkF m 220 #[.val (.int p0), .val (.long q1), .second, .val (.long q2), .second, .val (.long q3), .second, .val (.long q4), .second, .val (.long q5), .second, .val (.long (1152921504606846975 : Int64)), .second, .val (.long l0), .second, .val (.long l1), .second, .val (.long l2), .second, .val (.long l3), .second, .val (.int (4 : Int32)), .val (.int mode), .val (.long vv), .second, .val (.ref b5), .val (.ref b11), .unset] [])) t
        refine XS.iload X33.here hx rfl (hb hby at_220) rfl ?_
        show Steps p.tables e below (T33.setTop (mkF m 222 #[.val (.int p0), .val (.long q1), .second, .val (.long q2), .second, .val (.long q3), .second, .val (.long q4), .second, .val (.long q5), .second, .val (.long (1152921504606846975 : Int64)), .second, .val (.long l0), .second, .val (.long l1), .second, .val (.long l2), .second, .val (.long l3), .second, .val (.int (4 : Int32)), .val (.int mode), .val (.long vv), .second, .val (.ref b5), .val (.ref b11), .unset] [(.int (4 : Int32))])) t
        refine XS.iconst X33.here hx rfl (hb hby at_222) ?_
        show Steps p.tables e below (T33.setTop (mkF m 223 #[.val (.int p0), .val (.long q1), .second, .val (.long q2), .second, .val (.long q3), .second, .val (.long q4), .second, .val (.long q5), .second, .val (.long (1152921504606846975 : Int64)), .second, .val (.long l0), .second, .val (.long l1), .second, .val (.long l2), .second, .val (.long l3), .second, .val (.int (4 : Int32)), .val (.int mode), .val (.long vv), .second, .val (.ref b5), .val (.ref b11), .unset] [(.int (3 : Int32)), (.int (4 : Int32))])) t
        refine XS.icmpNo X33.here hx rfl (hb hby at_223) rfl (by decide) ?_
        show Steps p.tables e below (T33.setTop (mkF m 226 #[.val (.int p0), .val (.long q1), .second, .val (.long q2), .second, .val (.long q3), .second, .val (.long q4), .second, .val (.long q5), .second, .val (.long (1152921504606846975 : Int64)), .second, .val (.long l0), .second, .val (.long l1), .second, .val (.long l2), .second, .val (.long l3), .second, .val (.int (4 : Int32)), .val (.int mode), .val (.long vv), .second, .val (.ref b5), .val (.ref b11), .unset] [])) t
        refine XS.aload X33.here hx rfl (hb hby at_226) rfl rfl ?_
        show Steps p.tables e below (T33.setTop (mkF m 228 #[.val (.int p0), .val (.long q1), .second, .val (.long q2), .second, .val (.long q3), .second, .val (.long q4), .second, .val (.long q5), .second, .val (.long (1152921504606846975 : Int64)), .second, .val (.long l0), .second, .val (.long l1), .second, .val (.long l2), .second, .val (.long l3), .second, .val (.int (4 : Int32)), .val (.int mode), .val (.long vv), .second, .val (.ref b5), .val (.ref b11), .unset] [(.ref b11)])) t
        refine XS.lload X33.here hx rfl (hb hby at_228) rfl ?_
        show Steps p.tables e below (T33.setTop (mkF m 230 #[.val (.int p0), .val (.long q1), .second, .val (.long q2), .second, .val (.long q3), .second, .val (.long q4), .second, .val (.long q5), .second, .val (.long (1152921504606846975 : Int64)), .second, .val (.long l0), .second, .val (.long l1), .second, .val (.long l2), .second, .val (.long l3), .second, .val (.int (4 : Int32)), .val (.int mode), .val (.long vv), .second, .val (.ref b5), .val (.ref b11), .unset] [(.long l3), (.ref b11)])) t
        exact kt
      refine own_callV X33 hx hZ hown rfl (hw _ (List.mem_of_getElem? (i := 83) rfl)) (hw _ (List.mem_of_getElem? (i := 84) rfl)) (notFace_of_selects (args := #[]) (mvT hZ (hw _ (List.mem_of_getElem? (i := 86) rfl)))) (hw _ (List.mem_of_getElem? (i := 86) rfl)) (hw _ (List.mem_of_getElem? (i := 85) rfl)) (hw _ (List.mem_of_getElem? (i := 44) rfl)) (hw _ (List.mem_of_getElem? (i := 87) rfl)) (by decide) (rm8 l Z aw hw b11 l3 r12 4 f3 ((((0 : Int32) + (1 : Int32)) + (1 : Int32)) + (1 : Int32)) 3 (.int ((own_z (¬ ((p0 &&& (256 : Int32)) = (0 : Int32)))) &&& (1 : Int32))) (.long (0 : Int64)) T33.heap n0 ZKq33 Pq33_0 g_b11 g_r12 (ne_b11_r12) (ne_r12_b11) Pq33_1 Pq33_2 Pq33_3 Pq33_4 Pq33_5 (by decide) (by decide)) Pq33_0 (g := (mkF m 230 #[.val (.int p0), .val (.long q1), .second, .val (.long q2), .second, .val (.long q3), .second, .val (.long q4), .second, .val (.long q5), .second, .val (.long (1152921504606846975 : Int64)), .second, .val (.long l0), .second, .val (.long l1), .second, .val (.long l2), .second, .val (.long l3), .second, .val (.int (4 : Int32)), .val (.int mode), .val (.long vv), .second, .val (.ref b5), .val (.ref b11), .unset] [(.long l3), (.ref b11)])) rfl (by rw [hml]; rfl) (argsL := [(.long l3)]) (rest := []) (lenOf pd_6 rfl) rfl rfl (W := 0) (by show 2 * 0 + _ ≤ _; exact Nat.le_of_eq rfl) (hb hby at_230) (by decide) (by decide) (by decide) (by decide) ?_
      rintro _ T34 L34 X34 ⟨rfl, Nq34, Kq34, Pq34_0, Pq34_1, Pq34_2, Pq34_3, Pq34_4, Pq34_5⟩
      have N34 := Fr.app N33 Nq34
      replace Pq10_0 := (Pq10_0.keep Kq34)
      replace F_r10 := (F_r10.keep Kq34 (ninS (ne_b5_b11) (ninS (ne_b5_r12) nin0)))
      replace Ar_r10 := (Ar_r10.keep Kq34 (ninS (ne_r10_b11) (ninS (ne_r10_r12) nin0)))
      replace Pq33_0 := (Pq33_0.keep Kq34)
      have ZKq34 : n0 ≤ T34.heap.size := Nat.le_trans ZKq33 Kq34.1
      have KKKq34 := KKKq33.trans Kq34 ((allS (Or.inr sz_b11) (allS (Or.inr sz_r12) all0)))
      have kzKq34 := Nat.le_trans kzKq33 Kq34.1
      obtain ⟨f4, hf4⟩ : ∃ z, z = (own_set f3 3 l3) := ⟨_, rfl⟩
      rw [← hf4] at Pq34_5
      refine own_go (T' := T34) (f' := (mkF m 246 #[.val (.int p0), .val (.long q1), .second, .val (.long q2), .second, .val (.long q3), .second, .val (.long q4), .second, .val (.long q5), .second, .val (.long (1152921504606846975 : Int64)), .second, .val (.long l0), .second, .val (.long l1), .second, .val (.long l2), .second, .val (.long l3), .second, .val (.int (4 : Int32)), .val (.int mode), .val (.long vv), .second, .val (.ref b5), .val (.ref b11), .val (.int (-1 : Int32))] [(.int (lcmpW l0 vv))])) (fun t kt => ?_) ?_
      · show Steps p.tables e below (T34.setTop (mkF m 233 #[.val (.int p0), .val (.long q1), .second, .val (.long q2), .second, .val (.long q3), .second, .val (.long q4), .second, .val (.long q5), .second, .val (.long (1152921504606846975 : Int64)), .second, .val (.long l0), .second, .val (.long l1), .second, .val (.long l2), .second, .val (.long l3), .second, .val (.int (4 : Int32)), .val (.int mode), .val (.long vv), .second, .val (.ref b5), .val (.ref b11), .unset] [])) t
        refine XS.iconst X34.here hx rfl (hb hby at_233) ?_
        show Steps p.tables e below (T34.setTop (mkF m 234 #[.val (.int p0), .val (.long q1), .second, .val (.long q2), .second, .val (.long q3), .second, .val (.long q4), .second, .val (.long q5), .second, .val (.long (1152921504606846975 : Int64)), .second, .val (.long l0), .second, .val (.long l1), .second, .val (.long l2), .second, .val (.long l3), .second, .val (.int (4 : Int32)), .val (.int mode), .val (.long vv), .second, .val (.ref b5), .val (.ref b11), .unset] [(.int (-1 : Int32))])) t
        refine XS.istore X34.here hx rfl (hb hby at_234) rfl (l' := #[.val (.int p0), .val (.long q1), .second, .val (.long q2), .second, .val (.long q3), .second, .val (.long q4), .second, .val (.long q5), .second, .val (.long (1152921504606846975 : Int64)), .second, .val (.long l0), .second, .val (.long l1), .second, .val (.long l2), .second, .val (.long l3), .second, .val (.int (4 : Int32)), .val (.int mode), .val (.long vv), .second, .val (.ref b5), .val (.ref b11), .val (.int (-1 : Int32))]) rfl ?_
        show Steps p.tables e below (T34.setTop (mkF m 236 #[.val (.int p0), .val (.long q1), .second, .val (.long q2), .second, .val (.long q3), .second, .val (.long q4), .second, .val (.long q5), .second, .val (.long (1152921504606846975 : Int64)), .second, .val (.long l0), .second, .val (.long l1), .second, .val (.long l2), .second, .val (.long l3), .second, .val (.int (4 : Int32)), .val (.int mode), .val (.long vv), .second, .val (.ref b5), .val (.ref b11), .val (.int (-1 : Int32))] [])) t
        refine XS.iload X34.here hx rfl (hb hby at_236) rfl ?_
        show Steps p.tables e below (T34.setTop (mkF m 238 #[.val (.int p0), .val (.long q1), .second, .val (.long q2), .second, .val (.long q3), .second, .val (.long q4), .second, .val (.long q5), .second, .val (.long (1152921504606846975 : Int64)), .second, .val (.long l0), .second, .val (.long l1), .second, .val (.long l2), .second, .val (.long l3), .second, .val (.int (4 : Int32)), .val (.int mode), .val (.long vv), .second, .val (.ref b5), .val (.ref b11), .val (.int (-1 : Int32))] [(.int (4 : Int32))])) t
        refine XS.ifNo X34.here hx rfl (hb hby at_238) rfl (by decide) ?_
        show Steps p.tables e below (T34.setTop (mkF m 241 #[.val (.int p0), .val (.long q1), .second, .val (.long q2), .second, .val (.long q3), .second, .val (.long q4), .second, .val (.long q5), .second, .val (.long (1152921504606846975 : Int64)), .second, .val (.long l0), .second, .val (.long l1), .second, .val (.long l2), .second, .val (.long l3), .second, .val (.int (4 : Int32)), .val (.int mode), .val (.long vv), .second, .val (.ref b5), .val (.ref b11), .val (.int (-1 : Int32))] [])) t
        refine XS.lload X34.here hx rfl (hb hby at_241) rfl ?_
        show Steps p.tables e below (T34.setTop (mkF m 243 #[.val (.int p0), .val (.long q1), .second, .val (.long q2), .second, .val (.long q3), .second, .val (.long q4), .second, .val (.long q5), .second, .val (.long (1152921504606846975 : Int64)), .second, .val (.long l0), .second, .val (.long l1), .second, .val (.long l2), .second, .val (.long l3), .second, .val (.int (4 : Int32)), .val (.int mode), .val (.long vv), .second, .val (.ref b5), .val (.ref b11), .val (.int (-1 : Int32))] [(.long l0)])) t
        refine XS.lload X34.here hx rfl (hb hby at_243) rfl ?_
        show Steps p.tables e below (T34.setTop (mkF m 245 #[.val (.int p0), .val (.long q1), .second, .val (.long q2), .second, .val (.long q3), .second, .val (.long q4), .second, .val (.long q5), .second, .val (.long (1152921504606846975 : Int64)), .second, .val (.long l0), .second, .val (.long l1), .second, .val (.long l2), .second, .val (.long l3), .second, .val (.int (4 : Int32)), .val (.int mode), .val (.long vv), .second, .val (.ref b5), .val (.ref b11), .val (.int (-1 : Int32))] [(.long vv), (.long l0)])) t
        refine XS.lcmp X34.here hx rfl (hb hby at_245) rfl ?_
        show Steps p.tables e below (T34.setTop (mkF m 246 #[.val (.int p0), .val (.long q1), .second, .val (.long q2), .second, .val (.long q3), .second, .val (.long q4), .second, .val (.long q5), .second, .val (.long (1152921504606846975 : Int64)), .second, .val (.long l0), .second, .val (.long l1), .second, .val (.long l2), .second, .val (.long l3), .second, .val (.int (4 : Int32)), .val (.int mode), .val (.long vv), .second, .val (.ref b5), .val (.ref b11), .val (.int (-1 : Int32))] [(.int (lcmpW l0 vv))])) t
        exact kt
      refine own_go (T' := T34) (f' := (mkF m 252 #[.val (.int p0), .val (.long q1), .second, .val (.long q2), .second, .val (.long q3), .second, .val (.long q4), .second, .val (.long q5), .second, .val (.long (1152921504606846975 : Int64)), .second, .val (.long l0), .second, .val (.long l1), .second, .val (.long l2), .second, .val (.long l3), .second, .val (.int (4 : Int32)), .val (.int mode), .val (.long vv), .second, .val (.ref b5), .val (.ref b11), .val (.int (if vv < l0 then (-1 : Int32) else (0 : Int32)))] [])) (fun t kt => ?_) ?_
      · by_cases hc246_35 : vv < l0
        · show Steps p.tables e below (T34.setTop (mkF m 246 #[.val (.int p0), .val (.long q1), .second, .val (.long q2), .second, .val (.long q3), .second, .val (.long q4), .second, .val (.long q5), .second, .val (.long (1152921504606846975 : Int64)), .second, .val (.long l0), .second, .val (.long l1), .second, .val (.long l2), .second, .val (.long l3), .second, .val (.int (4 : Int32)), .val (.int mode), .val (.long vv), .second, .val (.ref b5), .val (.ref b11), .val (.int (-1 : Int32))] [(.int (lcmpW l0 vv))])) t
          refine XS.ifYes X34.here hx rfl (pc0 := 246) (pc' := 252) rfl (hb hby at_246) rfl (own_lY_gt hc246_35) (by decide) (by decide) ?_
          show Steps p.tables e below (T34.setTop (mkF m 252 #[.val (.int p0), .val (.long q1), .second, .val (.long q2), .second, .val (.long q3), .second, .val (.long q4), .second, .val (.long q5), .second, .val (.long (1152921504606846975 : Int64)), .second, .val (.long l0), .second, .val (.long l1), .second, .val (.long l2), .second, .val (.long l3), .second, .val (.int (4 : Int32)), .val (.int mode), .val (.long vv), .second, .val (.ref b5), .val (.ref b11), .val (.int (-1 : Int32))] [])) t
          rw [if_pos hc246_35] at kt
          exact kt
        · show Steps p.tables e below (T34.setTop (mkF m 246 #[.val (.int p0), .val (.long q1), .second, .val (.long q2), .second, .val (.long q3), .second, .val (.long q4), .second, .val (.long q5), .second, .val (.long (1152921504606846975 : Int64)), .second, .val (.long l0), .second, .val (.long l1), .second, .val (.long l2), .second, .val (.long l3), .second, .val (.int (4 : Int32)), .val (.int mode), .val (.long vv), .second, .val (.ref b5), .val (.ref b11), .val (.int (-1 : Int32))] [(.int (lcmpW l0 vv))])) t
          refine XS.ifNo X34.here hx rfl (hb hby at_246) rfl (own_lN_gt hc246_35) ?_
          show Steps p.tables e below (T34.setTop (mkF m 249 #[.val (.int p0), .val (.long q1), .second, .val (.long q2), .second, .val (.long q3), .second, .val (.long q4), .second, .val (.long q5), .second, .val (.long (1152921504606846975 : Int64)), .second, .val (.long l0), .second, .val (.long l1), .second, .val (.long l2), .second, .val (.long l3), .second, .val (.int (4 : Int32)), .val (.int mode), .val (.long vv), .second, .val (.ref b5), .val (.ref b11), .val (.int (-1 : Int32))] [])) t
          refine XS.iconst X34.here hx rfl (hb hby at_249) ?_
          show Steps p.tables e below (T34.setTop (mkF m 250 #[.val (.int p0), .val (.long q1), .second, .val (.long q2), .second, .val (.long q3), .second, .val (.long q4), .second, .val (.long q5), .second, .val (.long (1152921504606846975 : Int64)), .second, .val (.long l0), .second, .val (.long l1), .second, .val (.long l2), .second, .val (.long l3), .second, .val (.int (4 : Int32)), .val (.int mode), .val (.long vv), .second, .val (.ref b5), .val (.ref b11), .val (.int (-1 : Int32))] [(.int (0 : Int32))])) t
          refine XS.istore X34.here hx rfl (hb hby at_250) rfl (l' := #[.val (.int p0), .val (.long q1), .second, .val (.long q2), .second, .val (.long q3), .second, .val (.long q4), .second, .val (.long q5), .second, .val (.long (1152921504606846975 : Int64)), .second, .val (.long l0), .second, .val (.long l1), .second, .val (.long l2), .second, .val (.long l3), .second, .val (.int (4 : Int32)), .val (.int mode), .val (.long vv), .second, .val (.ref b5), .val (.ref b11), .val (.int (0 : Int32))]) rfl ?_
          show Steps p.tables e below (T34.setTop (mkF m 252 #[.val (.int p0), .val (.long q1), .second, .val (.long q2), .second, .val (.long q3), .second, .val (.long q4), .second, .val (.long q5), .second, .val (.long (1152921504606846975 : Int64)), .second, .val (.long l0), .second, .val (.long l1), .second, .val (.long l2), .second, .val (.long l3), .second, .val (.int (4 : Int32)), .val (.int mode), .val (.long vv), .second, .val (.ref b5), .val (.ref b11), .val (.int (0 : Int32))] [])) t
          rw [if_neg hc246_35] at kt
          exact kt
      refine own_go (T' := T34) (f' := (mkF m 263 #[.val (.int p0), .val (.long q1), .second, .val (.long q2), .second, .val (.long q3), .second, .val (.long q4), .second, .val (.long q5), .second, .val (.long (1152921504606846975 : Int64)), .second, .val (.long l0), .second, .val (.long l1), .second, .val (.long l2), .second, .val (.long l3), .second, .val (.int (4 : Int32)), .val (.int mode), .val (.long vv), .second, .val (.ref b5), .val (.ref b11), .val (.int (if vv < l0 then (-1 : Int32) else (0 : Int32)))] [(.int (lcmpW l1 vv))])) (fun t kt => ?_) ?_
      · show Steps p.tables e below (T34.setTop (mkF m 252 #[.val (.int p0), .val (.long q1), .second, .val (.long q2), .second, .val (.long q3), .second, .val (.long q4), .second, .val (.long q5), .second, .val (.long (1152921504606846975 : Int64)), .second, .val (.long l0), .second, .val (.long l1), .second, .val (.long l2), .second, .val (.long l3), .second, .val (.int (4 : Int32)), .val (.int mode), .val (.long vv), .second, .val (.ref b5), .val (.ref b11), .val (.int (if vv < l0 then (-1 : Int32) else (0 : Int32)))] [])) t
        refine XS.iload X34.here hx rfl (hb hby at_252) rfl ?_
        show Steps p.tables e below (T34.setTop (mkF m 254 #[.val (.int p0), .val (.long q1), .second, .val (.long q2), .second, .val (.long q3), .second, .val (.long q4), .second, .val (.long q5), .second, .val (.long (1152921504606846975 : Int64)), .second, .val (.long l0), .second, .val (.long l1), .second, .val (.long l2), .second, .val (.long l3), .second, .val (.int (4 : Int32)), .val (.int mode), .val (.long vv), .second, .val (.ref b5), .val (.ref b11), .val (.int (if vv < l0 then (-1 : Int32) else (0 : Int32)))] [(.int (4 : Int32))])) t
        refine XS.iconst X34.here hx rfl (hb hby at_254) ?_
        show Steps p.tables e below (T34.setTop (mkF m 255 #[.val (.int p0), .val (.long q1), .second, .val (.long q2), .second, .val (.long q3), .second, .val (.long q4), .second, .val (.long q5), .second, .val (.long (1152921504606846975 : Int64)), .second, .val (.long l0), .second, .val (.long l1), .second, .val (.long l2), .second, .val (.long l3), .second, .val (.int (4 : Int32)), .val (.int mode), .val (.long vv), .second, .val (.ref b5), .val (.ref b11), .val (.int (if vv < l0 then (-1 : Int32) else (0 : Int32)))] [(.int (1 : Int32)), (.int (4 : Int32))])) t
        refine XS.icmpNo X34.here hx rfl (hb hby at_255) rfl (by decide) ?_
        show Steps p.tables e below (T34.setTop (mkF m 258 #[.val (.int p0), .val (.long q1), .second, .val (.long q2), .second, .val (.long q3), .second, .val (.long q4), .second, .val (.long q5), .second, .val (.long (1152921504606846975 : Int64)), .second, .val (.long l0), .second, .val (.long l1), .second, .val (.long l2), .second, .val (.long l3), .second, .val (.int (4 : Int32)), .val (.int mode), .val (.long vv), .second, .val (.ref b5), .val (.ref b11), .val (.int (if vv < l0 then (-1 : Int32) else (0 : Int32)))] [])) t
        refine XS.lload X34.here hx rfl (hb hby at_258) rfl ?_
        show Steps p.tables e below (T34.setTop (mkF m 260 #[.val (.int p0), .val (.long q1), .second, .val (.long q2), .second, .val (.long q3), .second, .val (.long q4), .second, .val (.long q5), .second, .val (.long (1152921504606846975 : Int64)), .second, .val (.long l0), .second, .val (.long l1), .second, .val (.long l2), .second, .val (.long l3), .second, .val (.int (4 : Int32)), .val (.int mode), .val (.long vv), .second, .val (.ref b5), .val (.ref b11), .val (.int (if vv < l0 then (-1 : Int32) else (0 : Int32)))] [(.long l1)])) t
        refine XS.lload X34.here hx rfl (hb hby at_260) rfl ?_
        show Steps p.tables e below (T34.setTop (mkF m 262 #[.val (.int p0), .val (.long q1), .second, .val (.long q2), .second, .val (.long q3), .second, .val (.long q4), .second, .val (.long q5), .second, .val (.long (1152921504606846975 : Int64)), .second, .val (.long l0), .second, .val (.long l1), .second, .val (.long l2), .second, .val (.long l3), .second, .val (.int (4 : Int32)), .val (.int mode), .val (.long vv), .second, .val (.ref b5), .val (.ref b11), .val (.int (if vv < l0 then (-1 : Int32) else (0 : Int32)))] [(.long vv), (.long l1)])) t
        refine XS.lcmp X34.here hx rfl (hb hby at_262) rfl ?_
        show Steps p.tables e below (T34.setTop (mkF m 263 #[.val (.int p0), .val (.long q1), .second, .val (.long q2), .second, .val (.long q3), .second, .val (.long q4), .second, .val (.long q5), .second, .val (.long (1152921504606846975 : Int64)), .second, .val (.long l0), .second, .val (.long l1), .second, .val (.long l2), .second, .val (.long l3), .second, .val (.int (4 : Int32)), .val (.int mode), .val (.long vv), .second, .val (.ref b5), .val (.ref b11), .val (.int (if vv < l0 then (-1 : Int32) else (0 : Int32)))] [(.int (lcmpW l1 vv))])) t
        exact kt
      refine own_go (T' := T34) (f' := (mkF m 269 #[.val (.int p0), .val (.long q1), .second, .val (.long q2), .second, .val (.long q3), .second, .val (.long q4), .second, .val (.long q5), .second, .val (.long (1152921504606846975 : Int64)), .second, .val (.long l0), .second, .val (.long l1), .second, .val (.long l2), .second, .val (.long l3), .second, .val (.int (4 : Int32)), .val (.int mode), .val (.long vv), .second, .val (.ref b5), .val (.ref b11), .val (.int (if vv < l1 then (if vv < l0 then (-1 : Int32) else (0 : Int32)) else (1 : Int32)))] [])) (fun t kt => ?_) ?_
      · by_cases hc263_36 : vv < l1
        · show Steps p.tables e below (T34.setTop (mkF m 263 #[.val (.int p0), .val (.long q1), .second, .val (.long q2), .second, .val (.long q3), .second, .val (.long q4), .second, .val (.long q5), .second, .val (.long (1152921504606846975 : Int64)), .second, .val (.long l0), .second, .val (.long l1), .second, .val (.long l2), .second, .val (.long l3), .second, .val (.int (4 : Int32)), .val (.int mode), .val (.long vv), .second, .val (.ref b5), .val (.ref b11), .val (.int (if vv < l0 then (-1 : Int32) else (0 : Int32)))] [(.int (lcmpW l1 vv))])) t
          refine XS.ifYes X34.here hx rfl (pc0 := 263) (pc' := 269) rfl (hb hby at_263) rfl (own_lY_gt hc263_36) (by decide) (by decide) ?_
          show Steps p.tables e below (T34.setTop (mkF m 269 #[.val (.int p0), .val (.long q1), .second, .val (.long q2), .second, .val (.long q3), .second, .val (.long q4), .second, .val (.long q5), .second, .val (.long (1152921504606846975 : Int64)), .second, .val (.long l0), .second, .val (.long l1), .second, .val (.long l2), .second, .val (.long l3), .second, .val (.int (4 : Int32)), .val (.int mode), .val (.long vv), .second, .val (.ref b5), .val (.ref b11), .val (.int (if vv < l0 then (-1 : Int32) else (0 : Int32)))] [])) t
          rw [if_pos hc263_36] at kt
          exact kt
        · show Steps p.tables e below (T34.setTop (mkF m 263 #[.val (.int p0), .val (.long q1), .second, .val (.long q2), .second, .val (.long q3), .second, .val (.long q4), .second, .val (.long q5), .second, .val (.long (1152921504606846975 : Int64)), .second, .val (.long l0), .second, .val (.long l1), .second, .val (.long l2), .second, .val (.long l3), .second, .val (.int (4 : Int32)), .val (.int mode), .val (.long vv), .second, .val (.ref b5), .val (.ref b11), .val (.int (if vv < l0 then (-1 : Int32) else (0 : Int32)))] [(.int (lcmpW l1 vv))])) t
          refine XS.ifNo X34.here hx rfl (hb hby at_263) rfl (own_lN_gt hc263_36) ?_
          show Steps p.tables e below (T34.setTop (mkF m 266 #[.val (.int p0), .val (.long q1), .second, .val (.long q2), .second, .val (.long q3), .second, .val (.long q4), .second, .val (.long q5), .second, .val (.long (1152921504606846975 : Int64)), .second, .val (.long l0), .second, .val (.long l1), .second, .val (.long l2), .second, .val (.long l3), .second, .val (.int (4 : Int32)), .val (.int mode), .val (.long vv), .second, .val (.ref b5), .val (.ref b11), .val (.int (if vv < l0 then (-1 : Int32) else (0 : Int32)))] [])) t
          refine XS.iconst X34.here hx rfl (hb hby at_266) ?_
          show Steps p.tables e below (T34.setTop (mkF m 267 #[.val (.int p0), .val (.long q1), .second, .val (.long q2), .second, .val (.long q3), .second, .val (.long q4), .second, .val (.long q5), .second, .val (.long (1152921504606846975 : Int64)), .second, .val (.long l0), .second, .val (.long l1), .second, .val (.long l2), .second, .val (.long l3), .second, .val (.int (4 : Int32)), .val (.int mode), .val (.long vv), .second, .val (.ref b5), .val (.ref b11), .val (.int (if vv < l0 then (-1 : Int32) else (0 : Int32)))] [(.int (1 : Int32))])) t
          refine XS.istore X34.here hx rfl (hb hby at_267) rfl (l' := #[.val (.int p0), .val (.long q1), .second, .val (.long q2), .second, .val (.long q3), .second, .val (.long q4), .second, .val (.long q5), .second, .val (.long (1152921504606846975 : Int64)), .second, .val (.long l0), .second, .val (.long l1), .second, .val (.long l2), .second, .val (.long l3), .second, .val (.int (4 : Int32)), .val (.int mode), .val (.long vv), .second, .val (.ref b5), .val (.ref b11), .val (.int (1 : Int32))]) rfl ?_
          show Steps p.tables e below (T34.setTop (mkF m 269 #[.val (.int p0), .val (.long q1), .second, .val (.long q2), .second, .val (.long q3), .second, .val (.long q4), .second, .val (.long q5), .second, .val (.long (1152921504606846975 : Int64)), .second, .val (.long l0), .second, .val (.long l1), .second, .val (.long l2), .second, .val (.long l3), .second, .val (.int (4 : Int32)), .val (.int mode), .val (.long vv), .second, .val (.ref b5), .val (.ref b11), .val (.int (1 : Int32))] [])) t
          rw [if_neg hc263_36] at kt
          exact kt
      refine own_go (T' := T34) (f' := (mkF m 280 #[.val (.int p0), .val (.long q1), .second, .val (.long q2), .second, .val (.long q3), .second, .val (.long q4), .second, .val (.long q5), .second, .val (.long (1152921504606846975 : Int64)), .second, .val (.long l0), .second, .val (.long l1), .second, .val (.long l2), .second, .val (.long l3), .second, .val (.int (4 : Int32)), .val (.int mode), .val (.long vv), .second, .val (.ref b5), .val (.ref b11), .val (.int (if vv < l1 then (if vv < l0 then (-1 : Int32) else (0 : Int32)) else (1 : Int32)))] [(.int (lcmpW l2 vv))])) (fun t kt => ?_) ?_
      · show Steps p.tables e below (T34.setTop (mkF m 269 #[.val (.int p0), .val (.long q1), .second, .val (.long q2), .second, .val (.long q3), .second, .val (.long q4), .second, .val (.long q5), .second, .val (.long (1152921504606846975 : Int64)), .second, .val (.long l0), .second, .val (.long l1), .second, .val (.long l2), .second, .val (.long l3), .second, .val (.int (4 : Int32)), .val (.int mode), .val (.long vv), .second, .val (.ref b5), .val (.ref b11), .val (.int (if vv < l1 then (if vv < l0 then (-1 : Int32) else (0 : Int32)) else (1 : Int32)))] [])) t
        refine XS.iload X34.here hx rfl (hb hby at_269) rfl ?_
        show Steps p.tables e below (T34.setTop (mkF m 271 #[.val (.int p0), .val (.long q1), .second, .val (.long q2), .second, .val (.long q3), .second, .val (.long q4), .second, .val (.long q5), .second, .val (.long (1152921504606846975 : Int64)), .second, .val (.long l0), .second, .val (.long l1), .second, .val (.long l2), .second, .val (.long l3), .second, .val (.int (4 : Int32)), .val (.int mode), .val (.long vv), .second, .val (.ref b5), .val (.ref b11), .val (.int (if vv < l1 then (if vv < l0 then (-1 : Int32) else (0 : Int32)) else (1 : Int32)))] [(.int (4 : Int32))])) t
        refine XS.iconst X34.here hx rfl (hb hby at_271) ?_
        show Steps p.tables e below (T34.setTop (mkF m 272 #[.val (.int p0), .val (.long q1), .second, .val (.long q2), .second, .val (.long q3), .second, .val (.long q4), .second, .val (.long q5), .second, .val (.long (1152921504606846975 : Int64)), .second, .val (.long l0), .second, .val (.long l1), .second, .val (.long l2), .second, .val (.long l3), .second, .val (.int (4 : Int32)), .val (.int mode), .val (.long vv), .second, .val (.ref b5), .val (.ref b11), .val (.int (if vv < l1 then (if vv < l0 then (-1 : Int32) else (0 : Int32)) else (1 : Int32)))] [(.int (2 : Int32)), (.int (4 : Int32))])) t
        refine XS.icmpNo X34.here hx rfl (hb hby at_272) rfl (by decide) ?_
        show Steps p.tables e below (T34.setTop (mkF m 275 #[.val (.int p0), .val (.long q1), .second, .val (.long q2), .second, .val (.long q3), .second, .val (.long q4), .second, .val (.long q5), .second, .val (.long (1152921504606846975 : Int64)), .second, .val (.long l0), .second, .val (.long l1), .second, .val (.long l2), .second, .val (.long l3), .second, .val (.int (4 : Int32)), .val (.int mode), .val (.long vv), .second, .val (.ref b5), .val (.ref b11), .val (.int (if vv < l1 then (if vv < l0 then (-1 : Int32) else (0 : Int32)) else (1 : Int32)))] [])) t
        refine XS.lload X34.here hx rfl (hb hby at_275) rfl ?_
        show Steps p.tables e below (T34.setTop (mkF m 277 #[.val (.int p0), .val (.long q1), .second, .val (.long q2), .second, .val (.long q3), .second, .val (.long q4), .second, .val (.long q5), .second, .val (.long (1152921504606846975 : Int64)), .second, .val (.long l0), .second, .val (.long l1), .second, .val (.long l2), .second, .val (.long l3), .second, .val (.int (4 : Int32)), .val (.int mode), .val (.long vv), .second, .val (.ref b5), .val (.ref b11), .val (.int (if vv < l1 then (if vv < l0 then (-1 : Int32) else (0 : Int32)) else (1 : Int32)))] [(.long l2)])) t
        refine XS.lload X34.here hx rfl (hb hby at_277) rfl ?_
        show Steps p.tables e below (T34.setTop (mkF m 279 #[.val (.int p0), .val (.long q1), .second, .val (.long q2), .second, .val (.long q3), .second, .val (.long q4), .second, .val (.long q5), .second, .val (.long (1152921504606846975 : Int64)), .second, .val (.long l0), .second, .val (.long l1), .second, .val (.long l2), .second, .val (.long l3), .second, .val (.int (4 : Int32)), .val (.int mode), .val (.long vv), .second, .val (.ref b5), .val (.ref b11), .val (.int (if vv < l1 then (if vv < l0 then (-1 : Int32) else (0 : Int32)) else (1 : Int32)))] [(.long vv), (.long l2)])) t
        refine XS.lcmp X34.here hx rfl (hb hby at_279) rfl ?_
        show Steps p.tables e below (T34.setTop (mkF m 280 #[.val (.int p0), .val (.long q1), .second, .val (.long q2), .second, .val (.long q3), .second, .val (.long q4), .second, .val (.long q5), .second, .val (.long (1152921504606846975 : Int64)), .second, .val (.long l0), .second, .val (.long l1), .second, .val (.long l2), .second, .val (.long l3), .second, .val (.int (4 : Int32)), .val (.int mode), .val (.long vv), .second, .val (.ref b5), .val (.ref b11), .val (.int (if vv < l1 then (if vv < l0 then (-1 : Int32) else (0 : Int32)) else (1 : Int32)))] [(.int (lcmpW l2 vv))])) t
        exact kt
      refine own_go (T' := T34) (f' := (mkF m 286 #[.val (.int p0), .val (.long q1), .second, .val (.long q2), .second, .val (.long q3), .second, .val (.long q4), .second, .val (.long q5), .second, .val (.long (1152921504606846975 : Int64)), .second, .val (.long l0), .second, .val (.long l1), .second, .val (.long l2), .second, .val (.long l3), .second, .val (.int (4 : Int32)), .val (.int mode), .val (.long vv), .second, .val (.ref b5), .val (.ref b11), .val (.int (if vv < l2 then (if vv < l1 then (if vv < l0 then (-1 : Int32) else (0 : Int32)) else (1 : Int32)) else (2 : Int32)))] [])) (fun t kt => ?_) ?_
      · by_cases hc280_37 : vv < l2
        · show Steps p.tables e below (T34.setTop (mkF m 280 #[.val (.int p0), .val (.long q1), .second, .val (.long q2), .second, .val (.long q3), .second, .val (.long q4), .second, .val (.long q5), .second, .val (.long (1152921504606846975 : Int64)), .second, .val (.long l0), .second, .val (.long l1), .second, .val (.long l2), .second, .val (.long l3), .second, .val (.int (4 : Int32)), .val (.int mode), .val (.long vv), .second, .val (.ref b5), .val (.ref b11), .val (.int (if vv < l1 then (if vv < l0 then (-1 : Int32) else (0 : Int32)) else (1 : Int32)))] [(.int (lcmpW l2 vv))])) t
          refine XS.ifYes X34.here hx rfl (pc0 := 280) (pc' := 286) rfl (hb hby at_280) rfl (own_lY_gt hc280_37) (by decide) (by decide) ?_
          show Steps p.tables e below (T34.setTop (mkF m 286 #[.val (.int p0), .val (.long q1), .second, .val (.long q2), .second, .val (.long q3), .second, .val (.long q4), .second, .val (.long q5), .second, .val (.long (1152921504606846975 : Int64)), .second, .val (.long l0), .second, .val (.long l1), .second, .val (.long l2), .second, .val (.long l3), .second, .val (.int (4 : Int32)), .val (.int mode), .val (.long vv), .second, .val (.ref b5), .val (.ref b11), .val (.int (if vv < l1 then (if vv < l0 then (-1 : Int32) else (0 : Int32)) else (1 : Int32)))] [])) t
          rw [if_pos hc280_37] at kt
          exact kt
        · show Steps p.tables e below (T34.setTop (mkF m 280 #[.val (.int p0), .val (.long q1), .second, .val (.long q2), .second, .val (.long q3), .second, .val (.long q4), .second, .val (.long q5), .second, .val (.long (1152921504606846975 : Int64)), .second, .val (.long l0), .second, .val (.long l1), .second, .val (.long l2), .second, .val (.long l3), .second, .val (.int (4 : Int32)), .val (.int mode), .val (.long vv), .second, .val (.ref b5), .val (.ref b11), .val (.int (if vv < l1 then (if vv < l0 then (-1 : Int32) else (0 : Int32)) else (1 : Int32)))] [(.int (lcmpW l2 vv))])) t
          refine XS.ifNo X34.here hx rfl (hb hby at_280) rfl (own_lN_gt hc280_37) ?_
          show Steps p.tables e below (T34.setTop (mkF m 283 #[.val (.int p0), .val (.long q1), .second, .val (.long q2), .second, .val (.long q3), .second, .val (.long q4), .second, .val (.long q5), .second, .val (.long (1152921504606846975 : Int64)), .second, .val (.long l0), .second, .val (.long l1), .second, .val (.long l2), .second, .val (.long l3), .second, .val (.int (4 : Int32)), .val (.int mode), .val (.long vv), .second, .val (.ref b5), .val (.ref b11), .val (.int (if vv < l1 then (if vv < l0 then (-1 : Int32) else (0 : Int32)) else (1 : Int32)))] [])) t
          refine XS.iconst X34.here hx rfl (hb hby at_283) ?_
          show Steps p.tables e below (T34.setTop (mkF m 284 #[.val (.int p0), .val (.long q1), .second, .val (.long q2), .second, .val (.long q3), .second, .val (.long q4), .second, .val (.long q5), .second, .val (.long (1152921504606846975 : Int64)), .second, .val (.long l0), .second, .val (.long l1), .second, .val (.long l2), .second, .val (.long l3), .second, .val (.int (4 : Int32)), .val (.int mode), .val (.long vv), .second, .val (.ref b5), .val (.ref b11), .val (.int (if vv < l1 then (if vv < l0 then (-1 : Int32) else (0 : Int32)) else (1 : Int32)))] [(.int (2 : Int32))])) t
          refine XS.istore X34.here hx rfl (hb hby at_284) rfl (l' := #[.val (.int p0), .val (.long q1), .second, .val (.long q2), .second, .val (.long q3), .second, .val (.long q4), .second, .val (.long q5), .second, .val (.long (1152921504606846975 : Int64)), .second, .val (.long l0), .second, .val (.long l1), .second, .val (.long l2), .second, .val (.long l3), .second, .val (.int (4 : Int32)), .val (.int mode), .val (.long vv), .second, .val (.ref b5), .val (.ref b11), .val (.int (2 : Int32))]) rfl ?_
          show Steps p.tables e below (T34.setTop (mkF m 286 #[.val (.int p0), .val (.long q1), .second, .val (.long q2), .second, .val (.long q3), .second, .val (.long q4), .second, .val (.long q5), .second, .val (.long (1152921504606846975 : Int64)), .second, .val (.long l0), .second, .val (.long l1), .second, .val (.long l2), .second, .val (.long l3), .second, .val (.int (4 : Int32)), .val (.int mode), .val (.long vv), .second, .val (.ref b5), .val (.ref b11), .val (.int (2 : Int32))] [])) t
          rw [if_neg hc280_37] at kt
          exact kt
      refine own_go (T' := T34) (f' := (mkF m 297 #[.val (.int p0), .val (.long q1), .second, .val (.long q2), .second, .val (.long q3), .second, .val (.long q4), .second, .val (.long q5), .second, .val (.long (1152921504606846975 : Int64)), .second, .val (.long l0), .second, .val (.long l1), .second, .val (.long l2), .second, .val (.long l3), .second, .val (.int (4 : Int32)), .val (.int mode), .val (.long vv), .second, .val (.ref b5), .val (.ref b11), .val (.int (if vv < l2 then (if vv < l1 then (if vv < l0 then (-1 : Int32) else (0 : Int32)) else (1 : Int32)) else (2 : Int32)))] [(.int (lcmpW l3 vv))])) (fun t kt => ?_) ?_
      · show Steps p.tables e below (T34.setTop (mkF m 286 #[.val (.int p0), .val (.long q1), .second, .val (.long q2), .second, .val (.long q3), .second, .val (.long q4), .second, .val (.long q5), .second, .val (.long (1152921504606846975 : Int64)), .second, .val (.long l0), .second, .val (.long l1), .second, .val (.long l2), .second, .val (.long l3), .second, .val (.int (4 : Int32)), .val (.int mode), .val (.long vv), .second, .val (.ref b5), .val (.ref b11), .val (.int (if vv < l2 then (if vv < l1 then (if vv < l0 then (-1 : Int32) else (0 : Int32)) else (1 : Int32)) else (2 : Int32)))] [])) t
        refine XS.iload X34.here hx rfl (hb hby at_286) rfl ?_
        show Steps p.tables e below (T34.setTop (mkF m 288 #[.val (.int p0), .val (.long q1), .second, .val (.long q2), .second, .val (.long q3), .second, .val (.long q4), .second, .val (.long q5), .second, .val (.long (1152921504606846975 : Int64)), .second, .val (.long l0), .second, .val (.long l1), .second, .val (.long l2), .second, .val (.long l3), .second, .val (.int (4 : Int32)), .val (.int mode), .val (.long vv), .second, .val (.ref b5), .val (.ref b11), .val (.int (if vv < l2 then (if vv < l1 then (if vv < l0 then (-1 : Int32) else (0 : Int32)) else (1 : Int32)) else (2 : Int32)))] [(.int (4 : Int32))])) t
        refine XS.iconst X34.here hx rfl (hb hby at_288) ?_
        show Steps p.tables e below (T34.setTop (mkF m 289 #[.val (.int p0), .val (.long q1), .second, .val (.long q2), .second, .val (.long q3), .second, .val (.long q4), .second, .val (.long q5), .second, .val (.long (1152921504606846975 : Int64)), .second, .val (.long l0), .second, .val (.long l1), .second, .val (.long l2), .second, .val (.long l3), .second, .val (.int (4 : Int32)), .val (.int mode), .val (.long vv), .second, .val (.ref b5), .val (.ref b11), .val (.int (if vv < l2 then (if vv < l1 then (if vv < l0 then (-1 : Int32) else (0 : Int32)) else (1 : Int32)) else (2 : Int32)))] [(.int (3 : Int32)), (.int (4 : Int32))])) t
        refine XS.icmpNo X34.here hx rfl (hb hby at_289) rfl (by decide) ?_
        show Steps p.tables e below (T34.setTop (mkF m 292 #[.val (.int p0), .val (.long q1), .second, .val (.long q2), .second, .val (.long q3), .second, .val (.long q4), .second, .val (.long q5), .second, .val (.long (1152921504606846975 : Int64)), .second, .val (.long l0), .second, .val (.long l1), .second, .val (.long l2), .second, .val (.long l3), .second, .val (.int (4 : Int32)), .val (.int mode), .val (.long vv), .second, .val (.ref b5), .val (.ref b11), .val (.int (if vv < l2 then (if vv < l1 then (if vv < l0 then (-1 : Int32) else (0 : Int32)) else (1 : Int32)) else (2 : Int32)))] [])) t
        refine XS.lload X34.here hx rfl (hb hby at_292) rfl ?_
        show Steps p.tables e below (T34.setTop (mkF m 294 #[.val (.int p0), .val (.long q1), .second, .val (.long q2), .second, .val (.long q3), .second, .val (.long q4), .second, .val (.long q5), .second, .val (.long (1152921504606846975 : Int64)), .second, .val (.long l0), .second, .val (.long l1), .second, .val (.long l2), .second, .val (.long l3), .second, .val (.int (4 : Int32)), .val (.int mode), .val (.long vv), .second, .val (.ref b5), .val (.ref b11), .val (.int (if vv < l2 then (if vv < l1 then (if vv < l0 then (-1 : Int32) else (0 : Int32)) else (1 : Int32)) else (2 : Int32)))] [(.long l3)])) t
        refine XS.lload X34.here hx rfl (hb hby at_294) rfl ?_
        show Steps p.tables e below (T34.setTop (mkF m 296 #[.val (.int p0), .val (.long q1), .second, .val (.long q2), .second, .val (.long q3), .second, .val (.long q4), .second, .val (.long q5), .second, .val (.long (1152921504606846975 : Int64)), .second, .val (.long l0), .second, .val (.long l1), .second, .val (.long l2), .second, .val (.long l3), .second, .val (.int (4 : Int32)), .val (.int mode), .val (.long vv), .second, .val (.ref b5), .val (.ref b11), .val (.int (if vv < l2 then (if vv < l1 then (if vv < l0 then (-1 : Int32) else (0 : Int32)) else (1 : Int32)) else (2 : Int32)))] [(.long vv), (.long l3)])) t
        refine XS.lcmp X34.here hx rfl (hb hby at_296) rfl ?_
        show Steps p.tables e below (T34.setTop (mkF m 297 #[.val (.int p0), .val (.long q1), .second, .val (.long q2), .second, .val (.long q3), .second, .val (.long q4), .second, .val (.long q5), .second, .val (.long (1152921504606846975 : Int64)), .second, .val (.long l0), .second, .val (.long l1), .second, .val (.long l2), .second, .val (.long l3), .second, .val (.int (4 : Int32)), .val (.int mode), .val (.long vv), .second, .val (.ref b5), .val (.ref b11), .val (.int (if vv < l2 then (if vv < l1 then (if vv < l0 then (-1 : Int32) else (0 : Int32)) else (1 : Int32)) else (2 : Int32)))] [(.int (lcmpW l3 vv))])) t
        exact kt
      refine own_go (T' := T34) (f' := (mkF m 303 #[.val (.int p0), .val (.long q1), .second, .val (.long q2), .second, .val (.long q3), .second, .val (.long q4), .second, .val (.long q5), .second, .val (.long (1152921504606846975 : Int64)), .second, .val (.long l0), .second, .val (.long l1), .second, .val (.long l2), .second, .val (.long l3), .second, .val (.int (4 : Int32)), .val (.int mode), .val (.long vv), .second, .val (.ref b5), .val (.ref b11), .val (.int (if vv < l3 then (if vv < l2 then (if vv < l1 then (if vv < l0 then (-1 : Int32) else (0 : Int32)) else (1 : Int32)) else (2 : Int32)) else (3 : Int32)))] [])) (fun t kt => ?_) ?_
      · by_cases hc297_38 : vv < l3
        · show Steps p.tables e below (T34.setTop (mkF m 297 #[.val (.int p0), .val (.long q1), .second, .val (.long q2), .second, .val (.long q3), .second, .val (.long q4), .second, .val (.long q5), .second, .val (.long (1152921504606846975 : Int64)), .second, .val (.long l0), .second, .val (.long l1), .second, .val (.long l2), .second, .val (.long l3), .second, .val (.int (4 : Int32)), .val (.int mode), .val (.long vv), .second, .val (.ref b5), .val (.ref b11), .val (.int (if vv < l2 then (if vv < l1 then (if vv < l0 then (-1 : Int32) else (0 : Int32)) else (1 : Int32)) else (2 : Int32)))] [(.int (lcmpW l3 vv))])) t
          refine XS.ifYes X34.here hx rfl (pc0 := 297) (pc' := 303) rfl (hb hby at_297) rfl (own_lY_gt hc297_38) (by decide) (by decide) ?_
          show Steps p.tables e below (T34.setTop (mkF m 303 #[.val (.int p0), .val (.long q1), .second, .val (.long q2), .second, .val (.long q3), .second, .val (.long q4), .second, .val (.long q5), .second, .val (.long (1152921504606846975 : Int64)), .second, .val (.long l0), .second, .val (.long l1), .second, .val (.long l2), .second, .val (.long l3), .second, .val (.int (4 : Int32)), .val (.int mode), .val (.long vv), .second, .val (.ref b5), .val (.ref b11), .val (.int (if vv < l2 then (if vv < l1 then (if vv < l0 then (-1 : Int32) else (0 : Int32)) else (1 : Int32)) else (2 : Int32)))] [])) t
          rw [if_pos hc297_38] at kt
          exact kt
        · show Steps p.tables e below (T34.setTop (mkF m 297 #[.val (.int p0), .val (.long q1), .second, .val (.long q2), .second, .val (.long q3), .second, .val (.long q4), .second, .val (.long q5), .second, .val (.long (1152921504606846975 : Int64)), .second, .val (.long l0), .second, .val (.long l1), .second, .val (.long l2), .second, .val (.long l3), .second, .val (.int (4 : Int32)), .val (.int mode), .val (.long vv), .second, .val (.ref b5), .val (.ref b11), .val (.int (if vv < l2 then (if vv < l1 then (if vv < l0 then (-1 : Int32) else (0 : Int32)) else (1 : Int32)) else (2 : Int32)))] [(.int (lcmpW l3 vv))])) t
          refine XS.ifNo X34.here hx rfl (hb hby at_297) rfl (own_lN_gt hc297_38) ?_
          show Steps p.tables e below (T34.setTop (mkF m 300 #[.val (.int p0), .val (.long q1), .second, .val (.long q2), .second, .val (.long q3), .second, .val (.long q4), .second, .val (.long q5), .second, .val (.long (1152921504606846975 : Int64)), .second, .val (.long l0), .second, .val (.long l1), .second, .val (.long l2), .second, .val (.long l3), .second, .val (.int (4 : Int32)), .val (.int mode), .val (.long vv), .second, .val (.ref b5), .val (.ref b11), .val (.int (if vv < l2 then (if vv < l1 then (if vv < l0 then (-1 : Int32) else (0 : Int32)) else (1 : Int32)) else (2 : Int32)))] [])) t
          refine XS.iconst X34.here hx rfl (hb hby at_300) ?_
          show Steps p.tables e below (T34.setTop (mkF m 301 #[.val (.int p0), .val (.long q1), .second, .val (.long q2), .second, .val (.long q3), .second, .val (.long q4), .second, .val (.long q5), .second, .val (.long (1152921504606846975 : Int64)), .second, .val (.long l0), .second, .val (.long l1), .second, .val (.long l2), .second, .val (.long l3), .second, .val (.int (4 : Int32)), .val (.int mode), .val (.long vv), .second, .val (.ref b5), .val (.ref b11), .val (.int (if vv < l2 then (if vv < l1 then (if vv < l0 then (-1 : Int32) else (0 : Int32)) else (1 : Int32)) else (2 : Int32)))] [(.int (3 : Int32))])) t
          refine XS.istore X34.here hx rfl (hb hby at_301) rfl (l' := #[.val (.int p0), .val (.long q1), .second, .val (.long q2), .second, .val (.long q3), .second, .val (.long q4), .second, .val (.long q5), .second, .val (.long (1152921504606846975 : Int64)), .second, .val (.long l0), .second, .val (.long l1), .second, .val (.long l2), .second, .val (.long l3), .second, .val (.int (4 : Int32)), .val (.int mode), .val (.long vv), .second, .val (.ref b5), .val (.ref b11), .val (.int (3 : Int32))]) rfl ?_
          show Steps p.tables e below (T34.setTop (mkF m 303 #[.val (.int p0), .val (.long q1), .second, .val (.long q2), .second, .val (.long q3), .second, .val (.long q4), .second, .val (.long q5), .second, .val (.long (1152921504606846975 : Int64)), .second, .val (.long l0), .second, .val (.long l1), .second, .val (.long l2), .second, .val (.long l3), .second, .val (.int (4 : Int32)), .val (.int mode), .val (.long vv), .second, .val (.ref b5), .val (.ref b11), .val (.int (3 : Int32))] [])) t
          rw [if_neg hc297_38] at kt
          exact kt
      refine own_go (T' := T34) (f' := (mkF m 307 #[.val (.int p0), .val (.long q1), .second, .val (.long q2), .second, .val (.long q3), .second, .val (.long q4), .second, .val (.long q5), .second, .val (.long (1152921504606846975 : Int64)), .second, .val (.long l0), .second, .val (.long l1), .second, .val (.long l2), .second, .val (.long l3), .second, .val (.int (4 : Int32)), .val (.int mode), .val (.long vv), .second, .val (.ref b5), .val (.ref b11), .val (.int (if vv < l3 then (if vv < l2 then (if vv < l1 then (if vv < l0 then (-1 : Int32) else (0 : Int32)) else (1 : Int32)) else (2 : Int32)) else (3 : Int32)))] [(.long vv), (.ref b11)])) (fun t kt => ?_) ?_
      · show Steps p.tables e below (T34.setTop (mkF m 303 #[.val (.int p0), .val (.long q1), .second, .val (.long q2), .second, .val (.long q3), .second, .val (.long q4), .second, .val (.long q5), .second, .val (.long (1152921504606846975 : Int64)), .second, .val (.long l0), .second, .val (.long l1), .second, .val (.long l2), .second, .val (.long l3), .second, .val (.int (4 : Int32)), .val (.int mode), .val (.long vv), .second, .val (.ref b5), .val (.ref b11), .val (.int (if vv < l3 then (if vv < l2 then (if vv < l1 then (if vv < l0 then (-1 : Int32) else (0 : Int32)) else (1 : Int32)) else (2 : Int32)) else (3 : Int32)))] [])) t
        refine XS.aload X34.here hx rfl (hb hby at_303) rfl rfl ?_
        show Steps p.tables e below (T34.setTop (mkF m 305 #[.val (.int p0), .val (.long q1), .second, .val (.long q2), .second, .val (.long q3), .second, .val (.long q4), .second, .val (.long q5), .second, .val (.long (1152921504606846975 : Int64)), .second, .val (.long l0), .second, .val (.long l1), .second, .val (.long l2), .second, .val (.long l3), .second, .val (.int (4 : Int32)), .val (.int mode), .val (.long vv), .second, .val (.ref b5), .val (.ref b11), .val (.int (if vv < l3 then (if vv < l2 then (if vv < l1 then (if vv < l0 then (-1 : Int32) else (0 : Int32)) else (1 : Int32)) else (2 : Int32)) else (3 : Int32)))] [(.ref b11)])) t
        refine XS.lload X34.here hx rfl (hb hby at_305) rfl ?_
        show Steps p.tables e below (T34.setTop (mkF m 307 #[.val (.int p0), .val (.long q1), .second, .val (.long q2), .second, .val (.long q3), .second, .val (.long q4), .second, .val (.long q5), .second, .val (.long (1152921504606846975 : Int64)), .second, .val (.long l0), .second, .val (.long l1), .second, .val (.long l2), .second, .val (.long l3), .second, .val (.int (4 : Int32)), .val (.int mode), .val (.long vv), .second, .val (.ref b5), .val (.ref b11), .val (.int (if vv < l3 then (if vv < l2 then (if vv < l1 then (if vv < l0 then (-1 : Int32) else (0 : Int32)) else (1 : Int32)) else (2 : Int32)) else (3 : Int32)))] [(.long vv), (.ref b11)])) t
        exact kt
      refine own_callVp X34 hx hZ hown rfl (hw _ (List.mem_of_getElem? (i := 78) rfl)) (hw _ (List.mem_of_getElem? (i := 79) rfl)) (notFace_of_selects (args := #[]) (mvT hZ (hw _ (List.mem_of_getElem? (i := 81) rfl)))) (hw _ (List.mem_of_getElem? (i := 81) rfl)) (hw _ (List.mem_of_getElem? (i := 80) rfl)) (hw _ (List.mem_of_getElem? (i := 44) rfl)) (hw _ (List.mem_of_getElem? (i := 82) rfl)) (by decide) (rm7 l Z aw hw b11 vv r12 f4 (((((0 : Int32) + (1 : Int32)) + (1 : Int32)) + (1 : Int32)) + (1 : Int32)) 4 T34.heap n0 ZKq34 Pq34_1 Pq34_2 Pq34_5 (by decide) (by decide) (own_q4 hl0 hl1 hl2 hl3 hf1 hf2 hf3 hf4)) Pq34_0 (g := (mkF m 307 #[.val (.int p0), .val (.long q1), .second, .val (.long q2), .second, .val (.long q3), .second, .val (.long q4), .second, .val (.long q5), .second, .val (.long (1152921504606846975 : Int64)), .second, .val (.long l0), .second, .val (.long l1), .second, .val (.long l2), .second, .val (.long l3), .second, .val (.int (4 : Int32)), .val (.int mode), .val (.long vv), .second, .val (.ref b5), .val (.ref b11), .val (.int (if vv < l3 then (if vv < l2 then (if vv < l1 then (if vv < l0 then (-1 : Int32) else (0 : Int32)) else (1 : Int32)) else (2 : Int32)) else (3 : Int32)))] [(.long vv), (.ref b11)])) rfl (by rw [hml]; rfl) (argsL := [(.long vv)]) (rest := []) (lenOf pd_5 rfl) rfl rfl (W := 0) (by show 2 * 0 + _ ≤ _; exact Nat.le_of_eq rfl) (hb hby at_307) (by decide) (by decide) (by decide) (by decide) ?_
      intro T39 X39 e39
      refine own_go (T' := T39) (f' := (mkF m 320 #[.val (.int p0), .val (.long q1), .second, .val (.long q2), .second, .val (.long q3), .second, .val (.long q4), .second, .val (.long q5), .second, .val (.long (1152921504606846975 : Int64)), .second, .val (.long l0), .second, .val (.long l1), .second, .val (.long l2), .second, .val (.long l3), .second, .val (.int (4 : Int32)), .val (.int mode), .val (.long vv), .second, .val (.ref b5), .val (.ref b11), .val (.int (if vv < l3 then (if vv < l2 then (if vv < l1 then (if vv < l0 then (-1 : Int32) else (0 : Int32)) else (1 : Int32)) else (2 : Int32)) else (3 : Int32)))] [(.int (1 : Int32))])) (fun t kt => ?_) ?_
      · show Steps p.tables e below (T39.setTop (mkF m 310 #[.val (.int p0), .val (.long q1), .second, .val (.long q2), .second, .val (.long q3), .second, .val (.long q4), .second, .val (.long q5), .second, .val (.long (1152921504606846975 : Int64)), .second, .val (.long l0), .second, .val (.long l1), .second, .val (.long l2), .second, .val (.long l3), .second, .val (.int (4 : Int32)), .val (.int mode), .val (.long vv), .second, .val (.ref b5), .val (.ref b11), .val (.int (if vv < l3 then (if vv < l2 then (if vv < l1 then (if vv < l0 then (-1 : Int32) else (0 : Int32)) else (1 : Int32)) else (2 : Int32)) else (3 : Int32)))] [(.int ((Int32.ofNat (own_cl 4 f4 vv)) - (1 : Int32)))])) t
        refine XS.iload X39.here hx rfl (hb hby at_310) rfl ?_
        show Steps p.tables e below (T39.setTop (mkF m 312 #[.val (.int p0), .val (.long q1), .second, .val (.long q2), .second, .val (.long q3), .second, .val (.long q4), .second, .val (.long q5), .second, .val (.long (1152921504606846975 : Int64)), .second, .val (.long l0), .second, .val (.long l1), .second, .val (.long l2), .second, .val (.long l3), .second, .val (.int (4 : Int32)), .val (.int mode), .val (.long vv), .second, .val (.ref b5), .val (.ref b11), .val (.int (if vv < l3 then (if vv < l2 then (if vv < l1 then (if vv < l0 then (-1 : Int32) else (0 : Int32)) else (1 : Int32)) else (2 : Int32)) else (3 : Int32)))] [(.int (if vv < l3 then (if vv < l2 then (if vv < l1 then (if vv < l0 then (-1 : Int32) else (0 : Int32)) else (1 : Int32)) else (2 : Int32)) else (3 : Int32))), (.int ((Int32.ofNat (own_cl 4 f4 vv)) - (1 : Int32)))])) t
        refine XS.icmpNo X39.here hx rfl (hb hby at_312) rfl (teq (show ((Int32.ofNat (own_cl 4 f4 vv)) - (1 : Int32)) = (if vv < l3 then (if vv < l2 then (if vv < l1 then (if vv < l0 then (-1 : Int32) else (0 : Int32)) else (1 : Int32)) else (2 : Int32)) else (3 : Int32)) from own_v4 hl0 hl1 hl2 hl3 hf1 hf2 hf3 hf4)).2 ?_
        show Steps p.tables e below (T39.setTop (mkF m 315 #[.val (.int p0), .val (.long q1), .second, .val (.long q2), .second, .val (.long q3), .second, .val (.long q4), .second, .val (.long q5), .second, .val (.long (1152921504606846975 : Int64)), .second, .val (.long l0), .second, .val (.long l1), .second, .val (.long l2), .second, .val (.long l3), .second, .val (.int (4 : Int32)), .val (.int mode), .val (.long vv), .second, .val (.ref b5), .val (.ref b11), .val (.int (if vv < l3 then (if vv < l2 then (if vv < l1 then (if vv < l0 then (-1 : Int32) else (0 : Int32)) else (1 : Int32)) else (2 : Int32)) else (3 : Int32)))] [])) t
        refine XS.iconst X39.here hx rfl (hb hby at_315) ?_
        show Steps p.tables e below (T39.setTop (mkF m 316 #[.val (.int p0), .val (.long q1), .second, .val (.long q2), .second, .val (.long q3), .second, .val (.long q4), .second, .val (.long q5), .second, .val (.long (1152921504606846975 : Int64)), .second, .val (.long l0), .second, .val (.long l1), .second, .val (.long l2), .second, .val (.long l3), .second, .val (.int (4 : Int32)), .val (.int mode), .val (.long vv), .second, .val (.ref b5), .val (.ref b11), .val (.int (if vv < l3 then (if vv < l2 then (if vv < l1 then (if vv < l0 then (-1 : Int32) else (0 : Int32)) else (1 : Int32)) else (2 : Int32)) else (3 : Int32)))] [(.int (1 : Int32))])) t
        refine XS.goto X39.here hx rfl (pc0 := 316) (pc' := 320) rfl (hb hby at_316) (by decide) (by decide) ?_
        show Steps p.tables e below (T39.setTop (mkF m 320 #[.val (.int p0), .val (.long q1), .second, .val (.long q2), .second, .val (.long q3), .second, .val (.long q4), .second, .val (.long q5), .second, .val (.long (1152921504606846975 : Int64)), .second, .val (.long l0), .second, .val (.long l1), .second, .val (.long l2), .second, .val (.long l3), .second, .val (.int (4 : Int32)), .val (.int mode), .val (.long vv), .second, .val (.ref b5), .val (.ref b11), .val (.int (if vv < l3 then (if vv < l2 then (if vv < l1 then (if vv < l0 then (-1 : Int32) else (0 : Int32)) else (1 : Int32)) else (2 : Int32)) else (3 : Int32)))] [(.int (1 : Int32))])) t
        exact kt
      exact own_retNW X39 hP hx hlk e39 hS kzKq34 (t := .boolean) hret (by simp) (hb hby at_320) (by decide) (by decide) (z' := (1 : Int32)) rfl ⟨rfl, N34⟩
  · refine own_go (T' := s₁) (f' := (mkF m 129 #[.val (.int p0), .val (.long q1), .second, .val (.long q2), .second, .val (.long q3), .second, .val (.long q4), .second, .val (.long q5), .second, .val (.long (1152921504606846975 : Int64)), .second, .val (.long l0), .second, .val (.long l1), .second, .val (.long l2), .second, .val (.long l3), .second, .val (.int ((p0 &&& (7 : Int32)) % (5 : Int32))), .val (.int mode), .val (.long q5), .second, .unset, .unset, .unset] [])) (fun t kt => ?_) ?_
    · show Steps p.tables e below (s₁.setTop (mkF m 72 #[.val (.int p0), .val (.long q1), .second, .val (.long q2), .second, .val (.long q3), .second, .val (.long q4), .second, .val (.long q5), .second, .val (.long (1152921504606846975 : Int64)), .second, .val (.long l0), .second, .val (.long l1), .second, .val (.long l2), .second, .val (.long l3), .second, .val (.int ((p0 &&& (7 : Int32)) % (5 : Int32))), .val (.int mode), .val (.long q5), .second, .unset, .unset, .unset] [(.int (12 : Int32)), (.int mode)])) t
      refine XS.icmpYes X0.here hx rfl (pc0 := 72) (pc' := 129) rfl (hb hby at_72) rfl (flt hc72_1).2.1 (by decide) (by decide) ?_
      show Steps p.tables e below (s₁.setTop (mkF m 129 #[.val (.int p0), .val (.long q1), .second, .val (.long q2), .second, .val (.long q3), .second, .val (.long q4), .second, .val (.long q5), .second, .val (.long (1152921504606846975 : Int64)), .second, .val (.long l0), .second, .val (.long l1), .second, .val (.long l2), .second, .val (.long l3), .second, .val (.int ((p0 &&& (7 : Int32)) % (5 : Int32))), .val (.int mode), .val (.long q5), .second, .unset, .unset, .unset] [])) t
      exact kt
    obtain ⟨T40, h40, X40, e40, E40, A40, D40, U40, st40⟩ := newO X0 hx hZ hown (hw _ (List.mem_of_getElem? (i := 1) rfl)) (hw _ (List.mem_of_getElem? (i := 2) rfl)) (hw _ (List.mem_of_getElem? (i := 3) rfl)) e0 (g := (mkF m 129 #[.val (.int p0), .val (.long q1), .second, .val (.long q2), .second, .val (.long q3), .second, .val (.long q4), .second, .val (.long q5), .second, .val (.long (1152921504606846975 : Int64)), .second, .val (.long l0), .second, .val (.long l1), .second, .val (.long l2), .second, .val (.long l3), .second, .val (.int ((p0 &&& (7 : Int32)) % (5 : Int32))), .val (.int mode), .val (.long q5), .second, .unset, .unset, .unset] [])) rfl (hb hby at_129) (by decide) (by decide)
    obtain ⟨b40, y40⟩ : ∃ z, z = h0.size := ⟨_, rfl⟩
    rw [← y40] at A40 D40 U40 st40
    have g_b40 : n0 ≤ b40 := Nat.le_trans Z0 (Nat.le_of_eq y40.symm)
    have sz_b40 : h0.size ≤ b40 := Nat.le_trans K0.1 (Nat.le_of_eq y40.symm)
    have ZE40 : n0 ≤ h40.size := Nat.le_trans Z0 E40.1
    have KKE40 := K0.ext E40
    have kzE40 := Nat.le_trans (Nat.zero_le _) E40.1
    refine own_go st40 ?_
    have K_b40 := own_K_new U40
    refine own_go (T' := T40) (f' := (mkF m 135 #[.val (.int p0), .val (.long q1), .second, .val (.long q2), .second, .val (.long q3), .second, .val (.long q4), .second, .val (.long q5), .second, .val (.long (1152921504606846975 : Int64)), .second, .val (.long l0), .second, .val (.long l1), .second, .val (.long l2), .second, .val (.long l3), .second, .val (.int ((p0 &&& (7 : Int32)) % (5 : Int32))), .val (.int mode), .val (.long q5), .second, .unset, .unset, .unset] [(.int (0 : Int32)), (.long (0 : Int64)), (.ref b40), (.ref b40)])) (fun t kt => ?_) ?_
    · show Steps p.tables e below (T40.setTop (mkF m 132 #[.val (.int p0), .val (.long q1), .second, .val (.long q2), .second, .val (.long q3), .second, .val (.long q4), .second, .val (.long q5), .second, .val (.long (1152921504606846975 : Int64)), .second, .val (.long l0), .second, .val (.long l1), .second, .val (.long l2), .second, .val (.long l3), .second, .val (.int ((p0 &&& (7 : Int32)) % (5 : Int32))), .val (.int mode), .val (.long q5), .second, .unset, .unset, .unset] [(.ref b40)])) t
      refine XS.dup X40.here hx rfl (hb hby at_132) rfl rfl ?_
      show Steps p.tables e below (T40.setTop (mkF m 133 #[.val (.int p0), .val (.long q1), .second, .val (.long q2), .second, .val (.long q3), .second, .val (.long q4), .second, .val (.long q5), .second, .val (.long (1152921504606846975 : Int64)), .second, .val (.long l0), .second, .val (.long l1), .second, .val (.long l2), .second, .val (.long l3), .second, .val (.int ((p0 &&& (7 : Int32)) % (5 : Int32))), .val (.int mode), .val (.long q5), .second, .unset, .unset, .unset] [(.ref b40), (.ref b40)])) t
      refine XS.lconst X40.here hx rfl (hb hby at_133) ?_
      show Steps p.tables e below (T40.setTop (mkF m 134 #[.val (.int p0), .val (.long q1), .second, .val (.long q2), .second, .val (.long q3), .second, .val (.long q4), .second, .val (.long q5), .second, .val (.long (1152921504606846975 : Int64)), .second, .val (.long l0), .second, .val (.long l1), .second, .val (.long l2), .second, .val (.long l3), .second, .val (.int ((p0 &&& (7 : Int32)) % (5 : Int32))), .val (.int mode), .val (.long q5), .second, .unset, .unset, .unset] [(.long (0 : Int64)), (.ref b40), (.ref b40)])) t
      refine XS.iconst X40.here hx rfl (hb hby at_134) ?_
      show Steps p.tables e below (T40.setTop (mkF m 135 #[.val (.int p0), .val (.long q1), .second, .val (.long q2), .second, .val (.long q3), .second, .val (.long q4), .second, .val (.long q5), .second, .val (.long (1152921504606846975 : Int64)), .second, .val (.long l0), .second, .val (.long l1), .second, .val (.long l2), .second, .val (.long l3), .second, .val (.int ((p0 &&& (7 : Int32)) % (5 : Int32))), .val (.int mode), .val (.long q5), .second, .unset, .unset, .unset] [(.int (0 : Int32)), (.long (0 : Int64)), (.ref b40), (.ref b40)])) t
      exact kt
    obtain ⟨T41, h41, k41, X41, e41, E41, A41, C41, st41⟩ := newPE X40 hx hZ (hw _ (List.mem_of_getElem? (i := 4) rfl)) e40 (g := (mkF m 135 #[.val (.int p0), .val (.long q1), .second, .val (.long q2), .second, .val (.long q3), .second, .val (.long q4), .second, .val (.long q5), .second, .val (.long (1152921504606846975 : Int64)), .second, .val (.long l0), .second, .val (.long l1), .second, .val (.long l2), .second, .val (.long l3), .second, .val (.int ((p0 &&& (7 : Int32)) % (5 : Int32))), .val (.int mode), .val (.long q5), .second, .unset, .unset, .unset] [(.int (0 : Int32)), (.long (0 : Int64)), (.ref b40), (.ref b40)])) rfl (hb hby at_135) rfl (by decide) (cap := 0) (by decide) (by decide) (by decide) (by decide) (ad := "[J") (by decide)
    obtain ⟨b41, y41⟩ : ∃ z, z = h40.size := ⟨_, rfl⟩
    rw [← y41] at A41 C41 st41
    have ne_b40_b41 : b40 ≠ b41 := Nat.ne_of_lt (Nat.lt_of_lt_of_le A40.lt (Nat.le_of_eq y41.symm))
    have ne_b41_b40 := ne_b40_b41.symm
    have g_b41 : n0 ≤ b41 := Nat.le_trans ZE40 (Nat.le_of_eq y41.symm)
    have sz_b41 : h0.size ≤ b41 := Nat.le_trans KKE40.1 (Nat.le_of_eq y41.symm)
    replace A40 := (A40.ext E41)
    replace K_b40 := own_K_ext K_b40 E41
    have ZE41 : n0 ≤ h41.size := Nat.le_trans ZE40 E41.1
    have KKE41 := KKE40.ext E41
    have kzE41 := Nat.le_trans kzE40 E41.1
    refine own_go st41 ?_
    have Ar_b41 : own_AJ Z h41 b41 0 (fun _ => (0 : Int64)) := own_A_new A41 (by decide)
    refine own_go (T' := T41) (f' := (mkF m 138 #[.val (.int p0), .val (.long q1), .second, .val (.long q2), .second, .val (.long q3), .second, .val (.long q4), .second, .val (.long q5), .second, .val (.long (1152921504606846975 : Int64)), .second, .val (.long l0), .second, .val (.long l1), .second, .val (.long l2), .second, .val (.long l3), .second, .val (.int ((p0 &&& (7 : Int32)) % (5 : Int32))), .val (.int mode), .val (.long q5), .second, .unset, .unset, .unset] [(.int (0 : Int32)), (.ref b41), (.long (0 : Int64)), (.ref b40), (.ref b40)])) (fun t kt => ?_) ?_
    · show Steps p.tables e below (T41.setTop (mkF m 137 #[.val (.int p0), .val (.long q1), .second, .val (.long q2), .second, .val (.long q3), .second, .val (.long q4), .second, .val (.long q5), .second, .val (.long (1152921504606846975 : Int64)), .second, .val (.long l0), .second, .val (.long l1), .second, .val (.long l2), .second, .val (.long l3), .second, .val (.int ((p0 &&& (7 : Int32)) % (5 : Int32))), .val (.int mode), .val (.long q5), .second, .unset, .unset, .unset] [(.ref b41), (.long (0 : Int64)), (.ref b40), (.ref b40)])) t
      refine XS.iconst X41.here hx rfl (hb hby at_137) ?_
      show Steps p.tables e below (T41.setTop (mkF m 138 #[.val (.int p0), .val (.long q1), .second, .val (.long q2), .second, .val (.long q3), .second, .val (.long q4), .second, .val (.long q5), .second, .val (.long (1152921504606846975 : Int64)), .second, .val (.long l0), .second, .val (.long l1), .second, .val (.long l2), .second, .val (.long l3), .second, .val (.int ((p0 &&& (7 : Int32)) % (5 : Int32))), .val (.int mode), .val (.long q5), .second, .unset, .unset, .unset] [(.int (0 : Int32)), (.ref b41), (.long (0 : Int64)), (.ref b40), (.ref b40)])) t
      exact kt
    obtain ⟨T42, h42, k42, X42, e42, E42, A42, C42, st42⟩ := newPE X41 hx hZ (hw _ (List.mem_of_getElem? (i := 4) rfl)) e41 (g := (mkF m 138 #[.val (.int p0), .val (.long q1), .second, .val (.long q2), .second, .val (.long q3), .second, .val (.long q4), .second, .val (.long q5), .second, .val (.long (1152921504606846975 : Int64)), .second, .val (.long l0), .second, .val (.long l1), .second, .val (.long l2), .second, .val (.long l3), .second, .val (.int ((p0 &&& (7 : Int32)) % (5 : Int32))), .val (.int mode), .val (.long q5), .second, .unset, .unset, .unset] [(.int (0 : Int32)), (.ref b41), (.long (0 : Int64)), (.ref b40), (.ref b40)])) rfl (hb hby at_138) rfl (by decide) (cap := 0) (by decide) (by decide) (by decide) (by decide) (ad := "[J") (by decide)
    obtain ⟨b42, y42⟩ : ∃ z, z = h41.size := ⟨_, rfl⟩
    rw [← y42] at A42 C42 st42
    have ne_b40_b42 : b40 ≠ b42 := Nat.ne_of_lt (Nat.lt_of_lt_of_le A40.lt (Nat.le_of_eq y42.symm))
    have ne_b42_b40 := ne_b40_b42.symm
    have ne_b41_b42 : b41 ≠ b42 := Nat.ne_of_lt (Nat.lt_of_lt_of_le C41.lt (Nat.le_of_eq y42.symm))
    have ne_b42_b41 := ne_b41_b42.symm
    have g_b42 : n0 ≤ b42 := Nat.le_trans ZE41 (Nat.le_of_eq y42.symm)
    have sz_b42 : h0.size ≤ b42 := Nat.le_trans KKE41.1 (Nat.le_of_eq y42.symm)
    replace A40 := (A40.ext E42)
    replace C41 := (C41.ext E42)
    replace Ar_b41 := (Ar_b41.ext E42)
    replace K_b40 := own_K_ext K_b40 E42
    have ZE42 : n0 ≤ h42.size := Nat.le_trans ZE41 E42.1
    have KKE42 := KKE41.ext E42
    have kzE42 := Nat.le_trans kzE41 E42.1
    refine own_go st42 ?_
    have Ar_b42 : own_AJ Z h42 b42 0 (fun _ => (0 : Int64)) := own_A_new A42 (by decide)
    refine own_go (T' := T42) (f' := (mkF m 141 #[.val (.int p0), .val (.long q1), .second, .val (.long q2), .second, .val (.long q3), .second, .val (.long q4), .second, .val (.long q5), .second, .val (.long (1152921504606846975 : Int64)), .second, .val (.long l0), .second, .val (.long l1), .second, .val (.long l2), .second, .val (.long l3), .second, .val (.int ((p0 &&& (7 : Int32)) % (5 : Int32))), .val (.int mode), .val (.long q5), .second, .unset, .unset, .unset] [(.int (0 : Int32)), (.ref b42), (.ref b41), (.long (0 : Int64)), (.ref b40), (.ref b40)])) (fun t kt => ?_) ?_
    · show Steps p.tables e below (T42.setTop (mkF m 140 #[.val (.int p0), .val (.long q1), .second, .val (.long q2), .second, .val (.long q3), .second, .val (.long q4), .second, .val (.long q5), .second, .val (.long (1152921504606846975 : Int64)), .second, .val (.long l0), .second, .val (.long l1), .second, .val (.long l2), .second, .val (.long l3), .second, .val (.int ((p0 &&& (7 : Int32)) % (5 : Int32))), .val (.int mode), .val (.long q5), .second, .unset, .unset, .unset] [(.ref b42), (.ref b41), (.long (0 : Int64)), (.ref b40), (.ref b40)])) t
      refine XS.iconst X42.here hx rfl (hb hby at_140) ?_
      show Steps p.tables e below (T42.setTop (mkF m 141 #[.val (.int p0), .val (.long q1), .second, .val (.long q2), .second, .val (.long q3), .second, .val (.long q4), .second, .val (.long q5), .second, .val (.long (1152921504606846975 : Int64)), .second, .val (.long l0), .second, .val (.long l1), .second, .val (.long l2), .second, .val (.long l3), .second, .val (.int ((p0 &&& (7 : Int32)) % (5 : Int32))), .val (.int mode), .val (.long q5), .second, .unset, .unset, .unset] [(.int (0 : Int32)), (.ref b42), (.ref b41), (.long (0 : Int64)), (.ref b40), (.ref b40)])) t
      exact kt
    obtain ⟨T43, h43, k43, X43, e43, E43, A43, C43, st43⟩ := newPE X42 hx hZ (hw _ (List.mem_of_getElem? (i := 4) rfl)) e42 (g := (mkF m 141 #[.val (.int p0), .val (.long q1), .second, .val (.long q2), .second, .val (.long q3), .second, .val (.long q4), .second, .val (.long q5), .second, .val (.long (1152921504606846975 : Int64)), .second, .val (.long l0), .second, .val (.long l1), .second, .val (.long l2), .second, .val (.long l3), .second, .val (.int ((p0 &&& (7 : Int32)) % (5 : Int32))), .val (.int mode), .val (.long q5), .second, .unset, .unset, .unset] [(.int (0 : Int32)), (.ref b42), (.ref b41), (.long (0 : Int64)), (.ref b40), (.ref b40)])) rfl (hb hby at_141) rfl (by decide) (cap := 0) (by decide) (by decide) (by decide) (by decide) (ad := "[J") (by decide)
    obtain ⟨b43, y43⟩ : ∃ z, z = h42.size := ⟨_, rfl⟩
    rw [← y43] at A43 C43 st43
    have ne_b40_b43 : b40 ≠ b43 := Nat.ne_of_lt (Nat.lt_of_lt_of_le A40.lt (Nat.le_of_eq y43.symm))
    have ne_b43_b40 := ne_b40_b43.symm
    have ne_b41_b43 : b41 ≠ b43 := Nat.ne_of_lt (Nat.lt_of_lt_of_le C41.lt (Nat.le_of_eq y43.symm))
    have ne_b43_b41 := ne_b41_b43.symm
    have ne_b42_b43 : b42 ≠ b43 := Nat.ne_of_lt (Nat.lt_of_lt_of_le C42.lt (Nat.le_of_eq y43.symm))
    have ne_b43_b42 := ne_b42_b43.symm
    have g_b43 : n0 ≤ b43 := Nat.le_trans ZE42 (Nat.le_of_eq y43.symm)
    have sz_b43 : h0.size ≤ b43 := Nat.le_trans KKE42.1 (Nat.le_of_eq y43.symm)
    replace A40 := (A40.ext E43)
    replace C41 := (C41.ext E43)
    replace Ar_b41 := (Ar_b41.ext E43)
    replace C42 := (C42.ext E43)
    replace Ar_b42 := (Ar_b42.ext E43)
    replace K_b40 := own_K_ext K_b40 E43
    have ZE43 : n0 ≤ h43.size := Nat.le_trans ZE42 E43.1
    have KKE43 := KKE42.ext E43
    have kzE43 := Nat.le_trans kzE42 E43.1
    refine own_go st43 ?_
    have Ar_b43 : own_AJ Z h43 b43 0 (fun _ => (0 : Int64)) := own_A_new A43 (by decide)
    refine own_go (T' := T43) (f' := (mkF m 144 #[.val (.int p0), .val (.long q1), .second, .val (.long q2), .second, .val (.long q3), .second, .val (.long q4), .second, .val (.long q5), .second, .val (.long (1152921504606846975 : Int64)), .second, .val (.long l0), .second, .val (.long l1), .second, .val (.long l2), .second, .val (.long l3), .second, .val (.int ((p0 &&& (7 : Int32)) % (5 : Int32))), .val (.int mode), .val (.long q5), .second, .unset, .unset, .unset] [(.int (0 : Int32)), (.ref b43), (.ref b42), (.ref b41), (.long (0 : Int64)), (.ref b40), (.ref b40)])) (fun t kt => ?_) ?_
    · show Steps p.tables e below (T43.setTop (mkF m 143 #[.val (.int p0), .val (.long q1), .second, .val (.long q2), .second, .val (.long q3), .second, .val (.long q4), .second, .val (.long q5), .second, .val (.long (1152921504606846975 : Int64)), .second, .val (.long l0), .second, .val (.long l1), .second, .val (.long l2), .second, .val (.long l3), .second, .val (.int ((p0 &&& (7 : Int32)) % (5 : Int32))), .val (.int mode), .val (.long q5), .second, .unset, .unset, .unset] [(.ref b43), (.ref b42), (.ref b41), (.long (0 : Int64)), (.ref b40), (.ref b40)])) t
      refine XS.iconst X43.here hx rfl (hb hby at_143) ?_
      show Steps p.tables e below (T43.setTop (mkF m 144 #[.val (.int p0), .val (.long q1), .second, .val (.long q2), .second, .val (.long q3), .second, .val (.long q4), .second, .val (.long q5), .second, .val (.long (1152921504606846975 : Int64)), .second, .val (.long l0), .second, .val (.long l1), .second, .val (.long l2), .second, .val (.long l3), .second, .val (.int ((p0 &&& (7 : Int32)) % (5 : Int32))), .val (.int mode), .val (.long q5), .second, .unset, .unset, .unset] [(.int (0 : Int32)), (.ref b43), (.ref b42), (.ref b41), (.long (0 : Int64)), (.ref b40), (.ref b40)])) t
      exact kt
    obtain ⟨T44, h44, k44, X44, e44, E44, A44, C44, st44⟩ := newPE X43 hx hZ (hw _ (List.mem_of_getElem? (i := 4) rfl)) e43 (g := (mkF m 144 #[.val (.int p0), .val (.long q1), .second, .val (.long q2), .second, .val (.long q3), .second, .val (.long q4), .second, .val (.long q5), .second, .val (.long (1152921504606846975 : Int64)), .second, .val (.long l0), .second, .val (.long l1), .second, .val (.long l2), .second, .val (.long l3), .second, .val (.int ((p0 &&& (7 : Int32)) % (5 : Int32))), .val (.int mode), .val (.long q5), .second, .unset, .unset, .unset] [(.int (0 : Int32)), (.ref b43), (.ref b42), (.ref b41), (.long (0 : Int64)), (.ref b40), (.ref b40)])) rfl (hb hby at_144) rfl (by decide) (cap := 0) (by decide) (by decide) (by decide) (by decide) (ad := "[J") (by decide)
    obtain ⟨b44, y44⟩ : ∃ z, z = h43.size := ⟨_, rfl⟩
    rw [← y44] at A44 C44 st44
    have ne_b40_b44 : b40 ≠ b44 := Nat.ne_of_lt (Nat.lt_of_lt_of_le A40.lt (Nat.le_of_eq y44.symm))
    have ne_b44_b40 := ne_b40_b44.symm
    have ne_b41_b44 : b41 ≠ b44 := Nat.ne_of_lt (Nat.lt_of_lt_of_le C41.lt (Nat.le_of_eq y44.symm))
    have ne_b44_b41 := ne_b41_b44.symm
    have ne_b42_b44 : b42 ≠ b44 := Nat.ne_of_lt (Nat.lt_of_lt_of_le C42.lt (Nat.le_of_eq y44.symm))
    have ne_b44_b42 := ne_b42_b44.symm
    have ne_b43_b44 : b43 ≠ b44 := Nat.ne_of_lt (Nat.lt_of_lt_of_le C43.lt (Nat.le_of_eq y44.symm))
    have ne_b44_b43 := ne_b43_b44.symm
    have g_b44 : n0 ≤ b44 := Nat.le_trans ZE43 (Nat.le_of_eq y44.symm)
    have sz_b44 : h0.size ≤ b44 := Nat.le_trans KKE43.1 (Nat.le_of_eq y44.symm)
    replace A40 := (A40.ext E44)
    replace C41 := (C41.ext E44)
    replace Ar_b41 := (Ar_b41.ext E44)
    replace C42 := (C42.ext E44)
    replace Ar_b42 := (Ar_b42.ext E44)
    replace C43 := (C43.ext E44)
    replace Ar_b43 := (Ar_b43.ext E44)
    replace K_b40 := own_K_ext K_b40 E44
    have ZE44 : n0 ≤ h44.size := Nat.le_trans ZE43 E44.1
    have KKE44 := KKE43.ext E44
    have kzE44 := Nat.le_trans kzE43 E44.1
    refine own_go st44 ?_
    have Ar_b44 : own_AJ Z h44 b44 0 (fun _ => (0 : Int64)) := own_A_new A44 (by decide)
    have lt45_b40 := A40.lt
    have lt45_b41 := C41.lt
    have lt45_b42 := C42.lt
    have lt45_b43 := C43.lt
    have lt45_b44 := C44.lt
    refine own_callCW X44 hx hZ hown e44 hS kzE44 rfl (hw _ (List.mem_of_getElem? (i := 5) rfl)) (hw _ (List.mem_of_getElem? (i := 6) rfl)) (hw _ (List.mem_of_getElem? (i := 3) rfl)) (hw _ (List.mem_of_getElem? (i := 7) rfl)) (by decide) (rm1 l Z aw hw b40 (0 : Int64) b41 b42 b43 b44 h44 n0 ZE44 A40 K_b40 g_b40 Ar_b41 C41 (ne_b41_b40) Ar_b42 C42 (ne_b42_b40) Ar_b43 C43 (ne_b43_b40) Ar_b44 C44 (ne_b44_b40) (by decide) (by decide)) (g := (mkF m 146 #[.val (.int p0), .val (.long q1), .second, .val (.long q2), .second, .val (.long q3), .second, .val (.long q4), .second, .val (.long q5), .second, .val (.long (1152921504606846975 : Int64)), .second, .val (.long l0), .second, .val (.long l1), .second, .val (.long l2), .second, .val (.long l3), .second, .val (.int ((p0 &&& (7 : Int32)) % (5 : Int32))), .val (.int mode), .val (.long q5), .second, .unset, .unset, .unset] [(.ref b44), (.ref b43), (.ref b42), (.ref b41), (.long (0 : Int64)), (.ref b40), (.ref b40)])) rfl (by rw [hml]; rfl) (argsL := [(.long (0 : Int64)), (.ref b41), (.ref b42), (.ref b43), (.ref b44)]) (rest := [(.ref b40)]) (lenOf pd_2 rfl) rfl rfl (W := 1) (by show 2 * 0 + _ ≤ _; exact Nat.le_of_eq rfl) (hb hby at_146) (by decide) (by decide) (by decide) (by decide) ?_
    rintro _ T45 L45 X45 hZ hown hS ⟨rfl, Nq45, Kq45, Pq45_0, Pq45_1⟩
    have N45 := Fr.app N0 Nq45
    replace A40 := (A40.keep Kq45)
    replace C41 := (C41.keep Kq45)
    replace Ar_b41 := (Ar_b41.keep Kq45 (ninS (ne_b41_b40) nin0))
    replace C42 := (C42.keep Kq45)
    replace Ar_b42 := (Ar_b42.keep Kq45 (ninS (ne_b42_b40) nin0))
    replace C43 := (C43.keep Kq45)
    replace Ar_b43 := (Ar_b43.keep Kq45 (ninS (ne_b43_b40) nin0))
    replace C44 := (C44.keep Kq45)
    replace Ar_b44 := (Ar_b44.keep Kq45 (ninS (ne_b44_b40) nin0))
    replace K_b40 := own_K_keep K_b40 Kq45
    have ZKq45 : n0 ≤ T45.heap.size := Nat.le_trans ZE44 Kq45.1
    have KKKq45 := KKE44.trans Kq45 ((allS (Or.inr sz_b40) all0))
    have kzKq45 := Nat.le_trans kzE44 Kq45.1
    obtain ⟨r45, g_r45, z_r45, F_r45, Ar_r45⟩ := Pq45_1
    have ne_b40_r45 : b40 ≠ r45 := Nat.ne_of_lt (Nat.lt_of_lt_of_le lt45_b40 z_r45)
    have ne_r45_b40 := ne_b40_r45.symm
    have ne_b41_r45 : b41 ≠ r45 := Nat.ne_of_lt (Nat.lt_of_lt_of_le lt45_b41 z_r45)
    have ne_r45_b41 := ne_b41_r45.symm
    have ne_b42_r45 : b42 ≠ r45 := Nat.ne_of_lt (Nat.lt_of_lt_of_le lt45_b42 z_r45)
    have ne_r45_b42 := ne_b42_r45.symm
    have ne_b43_r45 : b43 ≠ r45 := Nat.ne_of_lt (Nat.lt_of_lt_of_le lt45_b43 z_r45)
    have ne_r45_b43 := ne_b43_r45.symm
    have ne_b44_r45 : b44 ≠ r45 := Nat.ne_of_lt (Nat.lt_of_lt_of_le lt45_b44 z_r45)
    have ne_r45_b44 := ne_b44_r45.symm
    have sz_r45 : h0.size ≤ r45 := Nat.le_trans KKE44.1 z_r45
    refine own_go (T' := T45) (f' := (mkF m 151 #[.val (.int p0), .val (.long q1), .second, .val (.long q2), .second, .val (.long q3), .second, .val (.long q4), .second, .val (.long q5), .second, .val (.long (1152921504606846975 : Int64)), .second, .val (.long l0), .second, .val (.long l1), .second, .val (.long l2), .second, .val (.long l3), .second, .val (.int ((p0 &&& (7 : Int32)) % (5 : Int32))), .val (.int mode), .val (.long q5), .second, .val (.ref b40), .unset, .unset] [])) (fun t kt => ?_) ?_
    · show Steps p.tables e below (T45.setTop (mkF m 149 #[.val (.int p0), .val (.long q1), .second, .val (.long q2), .second, .val (.long q3), .second, .val (.long q4), .second, .val (.long q5), .second, .val (.long (1152921504606846975 : Int64)), .second, .val (.long l0), .second, .val (.long l1), .second, .val (.long l2), .second, .val (.long l3), .second, .val (.int ((p0 &&& (7 : Int32)) % (5 : Int32))), .val (.int mode), .val (.long q5), .second, .unset, .unset, .unset] [(.ref b40)])) t
      refine XS.astore X45.here hx rfl (hb hby at_149) rfl rfl (l' := #[.val (.int p0), .val (.long q1), .second, .val (.long q2), .second, .val (.long q3), .second, .val (.long q4), .second, .val (.long q5), .second, .val (.long (1152921504606846975 : Int64)), .second, .val (.long l0), .second, .val (.long l1), .second, .val (.long l2), .second, .val (.long l3), .second, .val (.int ((p0 &&& (7 : Int32)) % (5 : Int32))), .val (.int mode), .val (.long q5), .second, .val (.ref b40), .unset, .unset]) rfl ?_
      show Steps p.tables e below (T45.setTop (mkF m 151 #[.val (.int p0), .val (.long q1), .second, .val (.long q2), .second, .val (.long q3), .second, .val (.long q4), .second, .val (.long q5), .second, .val (.long (1152921504606846975 : Int64)), .second, .val (.long l0), .second, .val (.long l1), .second, .val (.long l2), .second, .val (.long l3), .second, .val (.int ((p0 &&& (7 : Int32)) % (5 : Int32))), .val (.int mode), .val (.long q5), .second, .val (.ref b40), .unset, .unset] [])) t
      exact kt
    obtain ⟨T46, h46, X46, e46, E46, A46, D46, U46, st46⟩ := newO X45 hx hZ hown (hw _ (List.mem_of_getElem? (i := 42) rfl)) (hw _ (List.mem_of_getElem? (i := 43) rfl)) (hw _ (List.mem_of_getElem? (i := 44) rfl)) rfl (g := (mkF m 151 #[.val (.int p0), .val (.long q1), .second, .val (.long q2), .second, .val (.long q3), .second, .val (.long q4), .second, .val (.long q5), .second, .val (.long (1152921504606846975 : Int64)), .second, .val (.long l0), .second, .val (.long l1), .second, .val (.long l2), .second, .val (.long l3), .second, .val (.int ((p0 &&& (7 : Int32)) % (5 : Int32))), .val (.int mode), .val (.long q5), .second, .val (.ref b40), .unset, .unset] [])) rfl (hb hby at_151) (by decide) (by decide)
    obtain ⟨b46, y46⟩ : ∃ z, z = T45.heap.size := ⟨_, rfl⟩
    rw [← y46] at A46 D46 U46 st46
    have ne_b40_b46 : b40 ≠ b46 := Nat.ne_of_lt (Nat.lt_of_lt_of_le Pq45_0.lt (Nat.le_of_eq y46.symm))
    have ne_b46_b40 := ne_b40_b46.symm
    have ne_r45_b46 : r45 ≠ b46 := Nat.ne_of_lt (Nat.lt_of_lt_of_le Ar_r45.lt (Nat.le_of_eq y46.symm))
    have ne_b46_r45 := ne_r45_b46.symm
    have g_b46 : n0 ≤ b46 := Nat.le_trans ZKq45 (Nat.le_of_eq y46.symm)
    have sz_b46 : h0.size ≤ b46 := Nat.le_trans KKKq45.1 (Nat.le_of_eq y46.symm)
    replace Pq45_0 := (Pq45_0.ext E46)
    replace F_r45 := (F_r45.ext E46)
    replace Ar_r45 := (Ar_r45.ext E46)
    have ZE46 : n0 ≤ h46.size := Nat.le_trans ZKq45 E46.1
    have KKE46 := KKKq45.ext E46
    have kzE46 := Nat.le_trans (Nat.le_refl _) E46.1
    refine own_go st46 ?_
    have K_b46 := own_K_new U46
    have F46_m_row : Fld Z h46 b46 "com/example/ridgeline/ridgeline/cumulative/IntervalLine" "m_row" "Z" (.int (0 : Int32)) := D46 (Or.inl (hw _ (List.mem_of_getElem? (i := 73) rfl))) (ty := .boolean) (by decide)
    have F46_m_end : Fld Z h46 b46 "com/example/ridgeline/ridgeline/cumulative/IntervalLine" "m_end" "J" (.long (0 : Int64)) := D46 (Or.inl (hw _ (List.mem_of_getElem? (i := 75) rfl))) (ty := .long) (by decide)
    have F46_m_size : Fld Z h46 b46 "com/example/ridgeline/ridgeline/cumulative/IntervalLine" "m_size" "I" (.int (0 : Int32)) := D46 (Or.inl (hw _ (List.mem_of_getElem? (i := 77) rfl))) (ty := .int) (by decide)
    refine own_go (T' := T46) (f' := (mkF m 158 #[.val (.int p0), .val (.long q1), .second, .val (.long q2), .second, .val (.long q3), .second, .val (.long q4), .second, .val (.long q5), .second, .val (.long (1152921504606846975 : Int64)), .second, .val (.long l0), .second, .val (.long l1), .second, .val (.long l2), .second, .val (.long l3), .second, .val (.int ((p0 &&& (7 : Int32)) % (5 : Int32))), .val (.int mode), .val (.long q5), .second, .val (.ref b40), .unset, .unset] [(.int (4 : Int32)), (.ref b40), (.ref b46), (.ref b46)])) (fun t kt => ?_) ?_
    · show Steps p.tables e below (T46.setTop (mkF m 154 #[.val (.int p0), .val (.long q1), .second, .val (.long q2), .second, .val (.long q3), .second, .val (.long q4), .second, .val (.long q5), .second, .val (.long (1152921504606846975 : Int64)), .second, .val (.long l0), .second, .val (.long l1), .second, .val (.long l2), .second, .val (.long l3), .second, .val (.int ((p0 &&& (7 : Int32)) % (5 : Int32))), .val (.int mode), .val (.long q5), .second, .val (.ref b40), .unset, .unset] [(.ref b46)])) t
      refine XS.dup X46.here hx rfl (hb hby at_154) rfl rfl ?_
      show Steps p.tables e below (T46.setTop (mkF m 155 #[.val (.int p0), .val (.long q1), .second, .val (.long q2), .second, .val (.long q3), .second, .val (.long q4), .second, .val (.long q5), .second, .val (.long (1152921504606846975 : Int64)), .second, .val (.long l0), .second, .val (.long l1), .second, .val (.long l2), .second, .val (.long l3), .second, .val (.int ((p0 &&& (7 : Int32)) % (5 : Int32))), .val (.int mode), .val (.long q5), .second, .val (.ref b40), .unset, .unset] [(.ref b46), (.ref b46)])) t
      refine XS.aload X46.here hx rfl (hb hby at_155) rfl rfl ?_
      show Steps p.tables e below (T46.setTop (mkF m 157 #[.val (.int p0), .val (.long q1), .second, .val (.long q2), .second, .val (.long q3), .second, .val (.long q4), .second, .val (.long q5), .second, .val (.long (1152921504606846975 : Int64)), .second, .val (.long l0), .second, .val (.long l1), .second, .val (.long l2), .second, .val (.long l3), .second, .val (.int ((p0 &&& (7 : Int32)) % (5 : Int32))), .val (.int mode), .val (.long q5), .second, .val (.ref b40), .unset, .unset] [(.ref b40), (.ref b46), (.ref b46)])) t
      refine XS.iconst X46.here hx rfl (hb hby at_157) ?_
      show Steps p.tables e below (T46.setTop (mkF m 158 #[.val (.int p0), .val (.long q1), .second, .val (.long q2), .second, .val (.long q3), .second, .val (.long q4), .second, .val (.long q5), .second, .val (.long (1152921504606846975 : Int64)), .second, .val (.long l0), .second, .val (.long l1), .second, .val (.long l2), .second, .val (.long l3), .second, .val (.int ((p0 &&& (7 : Int32)) % (5 : Int32))), .val (.int mode), .val (.long q5), .second, .val (.ref b40), .unset, .unset] [(.int (4 : Int32)), (.ref b40), (.ref b46), (.ref b46)])) t
      exact kt
    have lt47_b40 := Pq45_0.lt
    have lt47_r45 := Ar_r45.lt
    have lt47_b46 := A46.lt
    refine own_callC X46 hx hZ hown e46 rfl (hw _ (List.mem_of_getElem? (i := 45) rfl)) (hw _ (List.mem_of_getElem? (i := 46) rfl)) (hw _ (List.mem_of_getElem? (i := 44) rfl)) (hw _ (List.mem_of_getElem? (i := 47) rfl)) (by decide) (rm4 l Z aw hw b46 b40 (4 : Int32) 4 r45 (.int (0 : Int32)) (.int (0 : Int32)) (.long (0 : Int64)) h46 n0 ZE46 A46 K_b46 g_b46 F46_m_size F46_m_row F46_m_end Pq45_0 F_r45 Ar_r45 (ne_b40_b46) (ne_r45_b46) (by decide) (by decide)) (g := (mkF m 158 #[.val (.int p0), .val (.long q1), .second, .val (.long q2), .second, .val (.long q3), .second, .val (.long q4), .second, .val (.long q5), .second, .val (.long (1152921504606846975 : Int64)), .second, .val (.long l0), .second, .val (.long l1), .second, .val (.long l2), .second, .val (.long l3), .second, .val (.int ((p0 &&& (7 : Int32)) % (5 : Int32))), .val (.int mode), .val (.long q5), .second, .val (.ref b40), .unset, .unset] [(.int (4 : Int32)), (.ref b40), (.ref b46), (.ref b46)])) rfl (by rw [hml]; rfl) (argsL := [(.ref b40), (.int (4 : Int32))]) (rest := [(.ref b46)]) (lenOf pd_3 rfl) rfl rfl (W := 1) (by show 2 * 0 + _ ≤ _; exact Nat.le_of_eq rfl) (hb hby at_158) (by decide) (by decide) (by decide) (by decide) ?_
    rintro _ T47 L47 X47 ⟨rfl, Nq47, Kq47, Pq47_0, Pq47_1, Pq47_2, Pq47_3, Pq47_4⟩
    have N47 := Fr.app N45 Nq47
    replace Pq45_0 := (Pq45_0.keep Kq47)
    replace F_r45 := (F_r45.keep Kq47 (ninS (ne_b40_b46) nin0))
    replace Ar_r45 := (Ar_r45.keep Kq47 (ninS (ne_r45_b46) nin0))
    replace A46 := (A46.keep Kq47)
    replace K_b46 := own_K_keep K_b46 Kq47
    have ZKq47 : n0 ≤ T47.heap.size := Nat.le_trans ZE46 Kq47.1
    have KKKq47 := KKE46.trans Kq47 ((allS (Or.inr sz_b46) all0))
    have kzKq47 := Nat.le_trans kzE46 Kq47.1
    obtain ⟨r47, g_r47, z_r47, F_r47, Ar_r47⟩ := Pq47_4
    have ne_b40_r47 : b40 ≠ r47 := Nat.ne_of_lt (Nat.lt_of_lt_of_le lt47_b40 z_r47)
    have ne_r47_b40 := ne_b40_r47.symm
    have ne_r45_r47 : r45 ≠ r47 := Nat.ne_of_lt (Nat.lt_of_lt_of_le lt47_r45 z_r47)
    have ne_r47_r45 := ne_r45_r47.symm
    have ne_b46_r47 : b46 ≠ r47 := Nat.ne_of_lt (Nat.lt_of_lt_of_le lt47_b46 z_r47)
    have ne_r47_b46 := ne_b46_r47.symm
    have sz_r47 : h0.size ≤ r47 := Nat.le_trans KKE46.1 z_r47
    refine own_go (T' := T47) (f' := (mkF m 170 #[.val (.int p0), .val (.long q1), .second, .val (.long q2), .second, .val (.long q3), .second, .val (.long q4), .second, .val (.long q5), .second, .val (.long (1152921504606846975 : Int64)), .second, .val (.long l0), .second, .val (.long l1), .second, .val (.long l2), .second, .val (.long l3), .second, .val (.int ((p0 &&& (7 : Int32)) % (5 : Int32))), .val (.int mode), .val (.long q5), .second, .val (.ref b40), .val (.ref b46), .unset] [(.int (p0 &&& (256 : Int32))), (.ref b46)])) (fun t kt => ?_) ?_
    · show Steps p.tables e below (T47.setTop (mkF m 161 #[.val (.int p0), .val (.long q1), .second, .val (.long q2), .second, .val (.long q3), .second, .val (.long q4), .second, .val (.long q5), .second, .val (.long (1152921504606846975 : Int64)), .second, .val (.long l0), .second, .val (.long l1), .second, .val (.long l2), .second, .val (.long l3), .second, .val (.int ((p0 &&& (7 : Int32)) % (5 : Int32))), .val (.int mode), .val (.long q5), .second, .val (.ref b40), .unset, .unset] [(.ref b46)])) t
      refine XS.astore X47.here hx rfl (hb hby at_161) rfl rfl (l' := #[.val (.int p0), .val (.long q1), .second, .val (.long q2), .second, .val (.long q3), .second, .val (.long q4), .second, .val (.long q5), .second, .val (.long (1152921504606846975 : Int64)), .second, .val (.long l0), .second, .val (.long l1), .second, .val (.long l2), .second, .val (.long l3), .second, .val (.int ((p0 &&& (7 : Int32)) % (5 : Int32))), .val (.int mode), .val (.long q5), .second, .val (.ref b40), .val (.ref b46), .unset]) rfl ?_
      show Steps p.tables e below (T47.setTop (mkF m 163 #[.val (.int p0), .val (.long q1), .second, .val (.long q2), .second, .val (.long q3), .second, .val (.long q4), .second, .val (.long q5), .second, .val (.long (1152921504606846975 : Int64)), .second, .val (.long l0), .second, .val (.long l1), .second, .val (.long l2), .second, .val (.long l3), .second, .val (.int ((p0 &&& (7 : Int32)) % (5 : Int32))), .val (.int mode), .val (.long q5), .second, .val (.ref b40), .val (.ref b46), .unset] [])) t
      refine XS.aload X47.here hx rfl (hb hby at_163) rfl rfl ?_
      show Steps p.tables e below (T47.setTop (mkF m 165 #[.val (.int p0), .val (.long q1), .second, .val (.long q2), .second, .val (.long q3), .second, .val (.long q4), .second, .val (.long q5), .second, .val (.long (1152921504606846975 : Int64)), .second, .val (.long l0), .second, .val (.long l1), .second, .val (.long l2), .second, .val (.long l3), .second, .val (.int ((p0 &&& (7 : Int32)) % (5 : Int32))), .val (.int mode), .val (.long q5), .second, .val (.ref b40), .val (.ref b46), .unset] [(.ref b46)])) t
      refine XS.iloadN X47.here hx rfl (hb hby at_165) rfl ?_
      show Steps p.tables e below (T47.setTop (mkF m 166 #[.val (.int p0), .val (.long q1), .second, .val (.long q2), .second, .val (.long q3), .second, .val (.long q4), .second, .val (.long q5), .second, .val (.long (1152921504606846975 : Int64)), .second, .val (.long l0), .second, .val (.long l1), .second, .val (.long l2), .second, .val (.long l3), .second, .val (.int ((p0 &&& (7 : Int32)) % (5 : Int32))), .val (.int mode), .val (.long q5), .second, .val (.ref b40), .val (.ref b46), .unset] [(.int p0), (.ref b46)])) t
      refine XS.sipush X47.here hx rfl (hb hby at_166) ?_
      show Steps p.tables e below (T47.setTop (mkF m 169 #[.val (.int p0), .val (.long q1), .second, .val (.long q2), .second, .val (.long q3), .second, .val (.long q4), .second, .val (.long q5), .second, .val (.long (1152921504606846975 : Int64)), .second, .val (.long l0), .second, .val (.long l1), .second, .val (.long l2), .second, .val (.long l3), .second, .val (.int ((p0 &&& (7 : Int32)) % (5 : Int32))), .val (.int mode), .val (.long q5), .second, .val (.ref b40), .val (.ref b46), .unset] [(.int (256 : Int32)), (.int p0), (.ref b46)])) t
      refine XS.iand X47.here hx rfl (hb hby at_169) rfl ?_
      show Steps p.tables e below (T47.setTop (mkF m 170 #[.val (.int p0), .val (.long q1), .second, .val (.long q2), .second, .val (.long q3), .second, .val (.long q4), .second, .val (.long q5), .second, .val (.long (1152921504606846975 : Int64)), .second, .val (.long l0), .second, .val (.long l1), .second, .val (.long l2), .second, .val (.long l3), .second, .val (.int ((p0 &&& (7 : Int32)) % (5 : Int32))), .val (.int mode), .val (.long q5), .second, .val (.ref b40), .val (.ref b46), .unset] [(.int (p0 &&& (256 : Int32))), (.ref b46)])) t
      exact kt
    refine own_go (T' := T47) (f' := (mkF m 178 #[.val (.int p0), .val (.long q1), .second, .val (.long q2), .second, .val (.long q3), .second, .val (.long q4), .second, .val (.long q5), .second, .val (.long (1152921504606846975 : Int64)), .second, .val (.long l0), .second, .val (.long l1), .second, .val (.long l2), .second, .val (.long l3), .second, .val (.int ((p0 &&& (7 : Int32)) % (5 : Int32))), .val (.int mode), .val (.long q5), .second, .val (.ref b40), .val (.ref b46), .unset] [(.int (own_z (¬ ((p0 &&& (256 : Int32)) = (0 : Int32))))), (.ref b46)])) (fun t kt => ?_) ?_
    · by_cases hc170_48 : (p0 &&& (256 : Int32)) = (0 : Int32)
      · show Steps p.tables e below (T47.setTop (mkF m 170 #[.val (.int p0), .val (.long q1), .second, .val (.long q2), .second, .val (.long q3), .second, .val (.long q4), .second, .val (.long q5), .second, .val (.long (1152921504606846975 : Int64)), .second, .val (.long l0), .second, .val (.long l1), .second, .val (.long l2), .second, .val (.long l3), .second, .val (.int ((p0 &&& (7 : Int32)) % (5 : Int32))), .val (.int mode), .val (.long q5), .second, .val (.ref b40), .val (.ref b46), .unset] [(.int (p0 &&& (256 : Int32))), (.ref b46)])) t
        refine XS.ifYes X47.here hx rfl (pc0 := 170) (pc' := 177) rfl (hb hby at_170) rfl ((if0 _ _).trans (teq hc170_48).1) (by decide) (by decide) ?_
        show Steps p.tables e below (T47.setTop (mkF m 177 #[.val (.int p0), .val (.long q1), .second, .val (.long q2), .second, .val (.long q3), .second, .val (.long q4), .second, .val (.long q5), .second, .val (.long (1152921504606846975 : Int64)), .second, .val (.long l0), .second, .val (.long l1), .second, .val (.long l2), .second, .val (.long l3), .second, .val (.int ((p0 &&& (7 : Int32)) % (5 : Int32))), .val (.int mode), .val (.long q5), .second, .val (.ref b40), .val (.ref b46), .unset] [(.ref b46)])) t
        refine XS.iconst X47.here hx rfl (hb hby at_177) ?_
        show Steps p.tables e below (T47.setTop (mkF m 178 #[.val (.int p0), .val (.long q1), .second, .val (.long q2), .second, .val (.long q3), .second, .val (.long q4), .second, .val (.long q5), .second, .val (.long (1152921504606846975 : Int64)), .second, .val (.long l0), .second, .val (.long l1), .second, .val (.long l2), .second, .val (.long l3), .second, .val (.int ((p0 &&& (7 : Int32)) % (5 : Int32))), .val (.int mode), .val (.long q5), .second, .val (.ref b40), .val (.ref b46), .unset] [(.int (0 : Int32)), (.ref b46)])) t
        rw [own_z_f (P := ¬ ((p0 &&& (256 : Int32)) = (0 : Int32))) (fun n => n hc170_48)] at kt
        exact kt
      · show Steps p.tables e below (T47.setTop (mkF m 170 #[.val (.int p0), .val (.long q1), .second, .val (.long q2), .second, .val (.long q3), .second, .val (.long q4), .second, .val (.long q5), .second, .val (.long (1152921504606846975 : Int64)), .second, .val (.long l0), .second, .val (.long l1), .second, .val (.long l2), .second, .val (.long l3), .second, .val (.int ((p0 &&& (7 : Int32)) % (5 : Int32))), .val (.int mode), .val (.long q5), .second, .val (.ref b40), .val (.ref b46), .unset] [(.int (p0 &&& (256 : Int32))), (.ref b46)])) t
        refine XS.ifNo X47.here hx rfl (hb hby at_170) rfl ((if0 _ _).trans (feq hc170_48).1) ?_
        show Steps p.tables e below (T47.setTop (mkF m 173 #[.val (.int p0), .val (.long q1), .second, .val (.long q2), .second, .val (.long q3), .second, .val (.long q4), .second, .val (.long q5), .second, .val (.long (1152921504606846975 : Int64)), .second, .val (.long l0), .second, .val (.long l1), .second, .val (.long l2), .second, .val (.long l3), .second, .val (.int ((p0 &&& (7 : Int32)) % (5 : Int32))), .val (.int mode), .val (.long q5), .second, .val (.ref b40), .val (.ref b46), .unset] [(.ref b46)])) t
        refine XS.iconst X47.here hx rfl (hb hby at_173) ?_
        show Steps p.tables e below (T47.setTop (mkF m 174 #[.val (.int p0), .val (.long q1), .second, .val (.long q2), .second, .val (.long q3), .second, .val (.long q4), .second, .val (.long q5), .second, .val (.long (1152921504606846975 : Int64)), .second, .val (.long l0), .second, .val (.long l1), .second, .val (.long l2), .second, .val (.long l3), .second, .val (.int ((p0 &&& (7 : Int32)) % (5 : Int32))), .val (.int mode), .val (.long q5), .second, .val (.ref b40), .val (.ref b46), .unset] [(.int (1 : Int32)), (.ref b46)])) t
        refine XS.goto X47.here hx rfl (pc0 := 174) (pc' := 178) rfl (hb hby at_174) (by decide) (by decide) ?_
        show Steps p.tables e below (T47.setTop (mkF m 178 #[.val (.int p0), .val (.long q1), .second, .val (.long q2), .second, .val (.long q3), .second, .val (.long q4), .second, .val (.long q5), .second, .val (.long (1152921504606846975 : Int64)), .second, .val (.long l0), .second, .val (.long l1), .second, .val (.long l2), .second, .val (.long l3), .second, .val (.int ((p0 &&& (7 : Int32)) % (5 : Int32))), .val (.int mode), .val (.long q5), .second, .val (.ref b40), .val (.ref b46), .unset] [(.int (1 : Int32)), (.ref b46)])) t
        rw [own_z_t (P := ¬ ((p0 &&& (256 : Int32)) = (0 : Int32))) hc170_48] at kt
        exact kt
    refine own_go (T' := T47) (f' := (mkF m 179 #[.val (.int p0), .val (.long q1), .second, .val (.long q2), .second, .val (.long q3), .second, .val (.long q4), .second, .val (.long q5), .second, .val (.long (1152921504606846975 : Int64)), .second, .val (.long l0), .second, .val (.long l1), .second, .val (.long l2), .second, .val (.long l3), .second, .val (.int ((p0 &&& (7 : Int32)) % (5 : Int32))), .val (.int mode), .val (.long q5), .second, .val (.ref b40), .val (.ref b46), .unset] [(.long (0 : Int64)), (.int (own_z (¬ ((p0 &&& (256 : Int32)) = (0 : Int32))))), (.ref b46)])) (fun t kt => ?_) ?_
    · show Steps p.tables e below (T47.setTop (mkF m 178 #[.val (.int p0), .val (.long q1), .second, .val (.long q2), .second, .val (.long q3), .second, .val (.long q4), .second, .val (.long q5), .second, .val (.long (1152921504606846975 : Int64)), .second, .val (.long l0), .second, .val (.long l1), .second, .val (.long l2), .second, .val (.long l3), .second, .val (.int ((p0 &&& (7 : Int32)) % (5 : Int32))), .val (.int mode), .val (.long q5), .second, .val (.ref b40), .val (.ref b46), .unset] [(.int (own_z (¬ ((p0 &&& (256 : Int32)) = (0 : Int32))))), (.ref b46)])) t
      refine XS.lconst X47.here hx rfl (hb hby at_178) ?_
      show Steps p.tables e below (T47.setTop (mkF m 179 #[.val (.int p0), .val (.long q1), .second, .val (.long q2), .second, .val (.long q3), .second, .val (.long q4), .second, .val (.long q5), .second, .val (.long (1152921504606846975 : Int64)), .second, .val (.long l0), .second, .val (.long l1), .second, .val (.long l2), .second, .val (.long l3), .second, .val (.int ((p0 &&& (7 : Int32)) % (5 : Int32))), .val (.int mode), .val (.long q5), .second, .val (.ref b40), .val (.ref b46), .unset] [(.long (0 : Int64)), (.int (own_z (¬ ((p0 &&& (256 : Int32)) = (0 : Int32))))), (.ref b46)])) t
      exact kt
    refine own_callV X47 hx hZ hown rfl (hw _ (List.mem_of_getElem? (i := 67) rfl)) (hw _ (List.mem_of_getElem? (i := 68) rfl)) (notFace_of_selects (args := #[]) (mvT hZ (hw _ (List.mem_of_getElem? (i := 70) rfl)))) (hw _ (List.mem_of_getElem? (i := 70) rfl)) (hw _ (List.mem_of_getElem? (i := 69) rfl)) (hw _ (List.mem_of_getElem? (i := 44) rfl)) (hw _ (List.mem_of_getElem? (i := 71) rfl)) (by decide) (rm6 l Z aw hw b46 (own_z (¬ ((p0 &&& (256 : Int32)) = (0 : Int32)))) (0 : Int64) r47 (.int (0 : Int32)) (.int (0 : Int32)) (.long (0 : Int64)) T47.heap n0 ZKq47 Pq47_0 g_b46 F_r47 Pq47_1 Pq47_2 Pq47_3) Pq47_0 (g := (mkF m 179 #[.val (.int p0), .val (.long q1), .second, .val (.long q2), .second, .val (.long q3), .second, .val (.long q4), .second, .val (.long q5), .second, .val (.long (1152921504606846975 : Int64)), .second, .val (.long l0), .second, .val (.long l1), .second, .val (.long l2), .second, .val (.long l3), .second, .val (.int ((p0 &&& (7 : Int32)) % (5 : Int32))), .val (.int mode), .val (.long q5), .second, .val (.ref b40), .val (.ref b46), .unset] [(.long (0 : Int64)), (.int (own_z (¬ ((p0 &&& (256 : Int32)) = (0 : Int32))))), (.ref b46)])) rfl (by rw [hml]; rfl) (argsL := [(.int (own_z (¬ ((p0 &&& (256 : Int32)) = (0 : Int32))))), (.long (0 : Int64))]) (rest := []) (lenOf pd_4 rfl) rfl rfl (W := 0) (by show 2 * 0 + _ ≤ _; exact Nat.le_of_eq rfl) (hb hby at_179) (by decide) (by decide) (by decide) (by decide) ?_
    rintro _ T49 L49 X49 ⟨rfl, Nq49, Kq49, Pq49_0, Pq49_1, Pq49_2, Pq49_3, Pq49_4⟩
    have N49 := Fr.app N47 Nq49
    replace Pq45_0 := (Pq45_0.keep Kq49)
    replace F_r45 := (F_r45.keep Kq49 (ninS (ne_b40_b46) nin0))
    replace Ar_r45 := (Ar_r45.keep Kq49 (ninS (ne_r45_b46) nin0))
    replace Pq47_0 := (Pq47_0.keep Kq49)
    replace Ar_r47 := (Ar_r47.keep Kq49 (ninS (ne_r47_b46) nin0))
    have ZKq49 : n0 ≤ T49.heap.size := Nat.le_trans ZKq47 Kq49.1
    have KKKq49 := KKKq47.trans Kq49 ((allS (Or.inr sz_b46) all0))
    have kzKq49 := Nat.le_trans kzKq47 Kq49.1
    rcases own_n5 p0 with hn5 | hn5 | hn5 | hn5 | hn5
    · rw [hn5]
      refine own_go (T' := T49) (f' := (mkF m 307 #[.val (.int p0), .val (.long q1), .second, .val (.long q2), .second, .val (.long q3), .second, .val (.long q4), .second, .val (.long q5), .second, .val (.long (1152921504606846975 : Int64)), .second, .val (.long l0), .second, .val (.long l1), .second, .val (.long l2), .second, .val (.long l3), .second, .val (.int (0 : Int32)), .val (.int mode), .val (.long q5), .second, .val (.ref b40), .val (.ref b46), .val (.int (-1 : Int32))] [(.long q5), (.ref b46)])) (fun t kt => ?_) ?_
      · show Steps p.tables e below (T49.setTop (mkF m 182 #[.val (.int p0), .val (.long q1), .second, .val (.long q2), .second, .val (.long q3), .second, .val (.long q4), .second, .val (.long q5), .second, .val (.long (1152921504606846975 : Int64)), .second, .val (.long l0), .second, .val (.long l1), .second, .val (.long l2), .second, .val (.long l3), .second, .val (.int (0 : Int32)), .val (.int mode), .val (.long q5), .second, .val (.ref b40), .val (.ref b46), .unset] [])) t
        refine XS.iload X49.here hx rfl (hb hby at_182) rfl ?_
        show Steps p.tables e below (T49.setTop (mkF m 184 #[.val (.int p0), .val (.long q1), .second, .val (.long q2), .second, .val (.long q3), .second, .val (.long q4), .second, .val (.long q5), .second, .val (.long (1152921504606846975 : Int64)), .second, .val (.long l0), .second, .val (.long l1), .second, .val (.long l2), .second, .val (.long l3), .second, .val (.int (0 : Int32)), .val (.int mode), .val (.long q5), .second, .val (.ref b40), .val (.ref b46), .unset] [(.int (0 : Int32))])) t
        refine XS.ifYes X49.here hx rfl (pc0 := 184) (pc' := 194) rfl (hb hby at_184) rfl (by decide) (by decide) (by decide) ?_
        show Steps p.tables e below (T49.setTop (mkF m 194 #[.val (.int p0), .val (.long q1), .second, .val (.long q2), .second, .val (.long q3), .second, .val (.long q4), .second, .val (.long q5), .second, .val (.long (1152921504606846975 : Int64)), .second, .val (.long l0), .second, .val (.long l1), .second, .val (.long l2), .second, .val (.long l3), .second, .val (.int (0 : Int32)), .val (.int mode), .val (.long q5), .second, .val (.ref b40), .val (.ref b46), .unset] [])) t
        refine XS.iload X49.here hx rfl (hb hby at_194) rfl ?_
        show Steps p.tables e below (T49.setTop (mkF m 196 #[.val (.int p0), .val (.long q1), .second, .val (.long q2), .second, .val (.long q3), .second, .val (.long q4), .second, .val (.long q5), .second, .val (.long (1152921504606846975 : Int64)), .second, .val (.long l0), .second, .val (.long l1), .second, .val (.long l2), .second, .val (.long l3), .second, .val (.int (0 : Int32)), .val (.int mode), .val (.long q5), .second, .val (.ref b40), .val (.ref b46), .unset] [(.int (0 : Int32))])) t
        refine XS.iconst X49.here hx rfl (hb hby at_196) ?_
        show Steps p.tables e below (T49.setTop (mkF m 197 #[.val (.int p0), .val (.long q1), .second, .val (.long q2), .second, .val (.long q3), .second, .val (.long q4), .second, .val (.long q5), .second, .val (.long (1152921504606846975 : Int64)), .second, .val (.long l0), .second, .val (.long l1), .second, .val (.long l2), .second, .val (.long l3), .second, .val (.int (0 : Int32)), .val (.int mode), .val (.long q5), .second, .val (.ref b40), .val (.ref b46), .unset] [(.int (1 : Int32)), (.int (0 : Int32))])) t
        refine XS.icmpYes X49.here hx rfl (pc0 := 197) (pc' := 207) rfl (hb hby at_197) rfl (by decide) (by decide) (by decide) ?_
        show Steps p.tables e below (T49.setTop (mkF m 207 #[.val (.int p0), .val (.long q1), .second, .val (.long q2), .second, .val (.long q3), .second, .val (.long q4), .second, .val (.long q5), .second, .val (.long (1152921504606846975 : Int64)), .second, .val (.long l0), .second, .val (.long l1), .second, .val (.long l2), .second, .val (.long l3), .second, .val (.int (0 : Int32)), .val (.int mode), .val (.long q5), .second, .val (.ref b40), .val (.ref b46), .unset] [])) t
        refine XS.iload X49.here hx rfl (hb hby at_207) rfl ?_
        show Steps p.tables e below (T49.setTop (mkF m 209 #[.val (.int p0), .val (.long q1), .second, .val (.long q2), .second, .val (.long q3), .second, .val (.long q4), .second, .val (.long q5), .second, .val (.long (1152921504606846975 : Int64)), .second, .val (.long l0), .second, .val (.long l1), .second, .val (.long l2), .second, .val (.long l3), .second, .val (.int (0 : Int32)), .val (.int mode), .val (.long q5), .second, .val (.ref b40), .val (.ref b46), .unset] [(.int (0 : Int32))])) t
        refine XS.iconst X49.here hx rfl (hb hby at_209) ?_
        show Steps p.tables e below (T49.setTop (mkF m 210 #[.val (.int p0), .val (.long q1), .second, .val (.long q2), .second, .val (.long q3), .second, .val (.long q4), .second, .val (.long q5), .second, .val (.long (1152921504606846975 : Int64)), .second, .val (.long l0), .second, .val (.long l1), .second, .val (.long l2), .second, .val (.long l3), .second, .val (.int (0 : Int32)), .val (.int mode), .val (.long q5), .second, .val (.ref b40), .val (.ref b46), .unset] [(.int (2 : Int32)), (.int (0 : Int32))])) t
        refine XS.icmpYes X49.here hx rfl (pc0 := 210) (pc' := 220) rfl (hb hby at_210) rfl (by decide) (by decide) (by decide) ?_
        show Steps p.tables e below (T49.setTop (mkF m 220 #[.val (.int p0), .val (.long q1), .second, .val (.long q2), .second, .val (.long q3), .second, .val (.long q4), .second, .val (.long q5), .second, .val (.long (1152921504606846975 : Int64)), .second, .val (.long l0), .second, .val (.long l1), .second, .val (.long l2), .second, .val (.long l3), .second, .val (.int (0 : Int32)), .val (.int mode), .val (.long q5), .second, .val (.ref b40), .val (.ref b46), .unset] [])) t
        refine XS.iload X49.here hx rfl (hb hby at_220) rfl ?_
        show Steps p.tables e below (T49.setTop (mkF m 222 #[.val (.int p0), .val (.long q1), .second, .val (.long q2), .second, .val (.long q3), .second, .val (.long q4), .second, .val (.long q5), .second, .val (.long (1152921504606846975 : Int64)), .second, .val (.long l0), .second, .val (.long l1), .second, .val (.long l2), .second, .val (.long l3), .second, .val (.int (0 : Int32)), .val (.int mode), .val (.long q5), .second, .val (.ref b40), .val (.ref b46), .unset] [(.int (0 : Int32))])) t
        refine XS.iconst X49.here hx rfl (hb hby at_222) ?_
        show Steps p.tables e below (T49.setTop (mkF m 223 #[.val (.int p0), .val (.long q1), .second, .val (.long q2), .second, .val (.long q3), .second, .val (.long q4), .second, .val (.long q5), .second, .val (.long (1152921504606846975 : Int64)), .second, .val (.long l0), .second, .val (.long l1), .second, .val (.long l2), .second, .val (.long l3), .second, .val (.int (0 : Int32)), .val (.int mode), .val (.long q5), .second, .val (.ref b40), .val (.ref b46), .unset] [(.int (3 : Int32)), (.int (0 : Int32))])) t
        refine XS.icmpYes X49.here hx rfl (pc0 := 223) (pc' := 233) rfl (hb hby at_223) rfl (by decide) (by decide) (by decide) ?_
        show Steps p.tables e below (T49.setTop (mkF m 233 #[.val (.int p0), .val (.long q1), .second, .val (.long q2), .second, .val (.long q3), .second, .val (.long q4), .second, .val (.long q5), .second, .val (.long (1152921504606846975 : Int64)), .second, .val (.long l0), .second, .val (.long l1), .second, .val (.long l2), .second, .val (.long l3), .second, .val (.int (0 : Int32)), .val (.int mode), .val (.long q5), .second, .val (.ref b40), .val (.ref b46), .unset] [])) t
        refine XS.iconst X49.here hx rfl (hb hby at_233) ?_
        show Steps p.tables e below (T49.setTop (mkF m 234 #[.val (.int p0), .val (.long q1), .second, .val (.long q2), .second, .val (.long q3), .second, .val (.long q4), .second, .val (.long q5), .second, .val (.long (1152921504606846975 : Int64)), .second, .val (.long l0), .second, .val (.long l1), .second, .val (.long l2), .second, .val (.long l3), .second, .val (.int (0 : Int32)), .val (.int mode), .val (.long q5), .second, .val (.ref b40), .val (.ref b46), .unset] [(.int (-1 : Int32))])) t
        refine XS.istore X49.here hx rfl (hb hby at_234) rfl (l' := #[.val (.int p0), .val (.long q1), .second, .val (.long q2), .second, .val (.long q3), .second, .val (.long q4), .second, .val (.long q5), .second, .val (.long (1152921504606846975 : Int64)), .second, .val (.long l0), .second, .val (.long l1), .second, .val (.long l2), .second, .val (.long l3), .second, .val (.int (0 : Int32)), .val (.int mode), .val (.long q5), .second, .val (.ref b40), .val (.ref b46), .val (.int (-1 : Int32))]) rfl ?_
        show Steps p.tables e below (T49.setTop (mkF m 236 #[.val (.int p0), .val (.long q1), .second, .val (.long q2), .second, .val (.long q3), .second, .val (.long q4), .second, .val (.long q5), .second, .val (.long (1152921504606846975 : Int64)), .second, .val (.long l0), .second, .val (.long l1), .second, .val (.long l2), .second, .val (.long l3), .second, .val (.int (0 : Int32)), .val (.int mode), .val (.long q5), .second, .val (.ref b40), .val (.ref b46), .val (.int (-1 : Int32))] [])) t
        refine XS.iload X49.here hx rfl (hb hby at_236) rfl ?_
        show Steps p.tables e below (T49.setTop (mkF m 238 #[.val (.int p0), .val (.long q1), .second, .val (.long q2), .second, .val (.long q3), .second, .val (.long q4), .second, .val (.long q5), .second, .val (.long (1152921504606846975 : Int64)), .second, .val (.long l0), .second, .val (.long l1), .second, .val (.long l2), .second, .val (.long l3), .second, .val (.int (0 : Int32)), .val (.int mode), .val (.long q5), .second, .val (.ref b40), .val (.ref b46), .val (.int (-1 : Int32))] [(.int (0 : Int32))])) t
        refine XS.ifYes X49.here hx rfl (pc0 := 238) (pc' := 252) rfl (hb hby at_238) rfl (by decide) (by decide) (by decide) ?_
        show Steps p.tables e below (T49.setTop (mkF m 252 #[.val (.int p0), .val (.long q1), .second, .val (.long q2), .second, .val (.long q3), .second, .val (.long q4), .second, .val (.long q5), .second, .val (.long (1152921504606846975 : Int64)), .second, .val (.long l0), .second, .val (.long l1), .second, .val (.long l2), .second, .val (.long l3), .second, .val (.int (0 : Int32)), .val (.int mode), .val (.long q5), .second, .val (.ref b40), .val (.ref b46), .val (.int (-1 : Int32))] [])) t
        refine XS.iload X49.here hx rfl (hb hby at_252) rfl ?_
        show Steps p.tables e below (T49.setTop (mkF m 254 #[.val (.int p0), .val (.long q1), .second, .val (.long q2), .second, .val (.long q3), .second, .val (.long q4), .second, .val (.long q5), .second, .val (.long (1152921504606846975 : Int64)), .second, .val (.long l0), .second, .val (.long l1), .second, .val (.long l2), .second, .val (.long l3), .second, .val (.int (0 : Int32)), .val (.int mode), .val (.long q5), .second, .val (.ref b40), .val (.ref b46), .val (.int (-1 : Int32))] [(.int (0 : Int32))])) t
        refine XS.iconst X49.here hx rfl (hb hby at_254) ?_
        show Steps p.tables e below (T49.setTop (mkF m 255 #[.val (.int p0), .val (.long q1), .second, .val (.long q2), .second, .val (.long q3), .second, .val (.long q4), .second, .val (.long q5), .second, .val (.long (1152921504606846975 : Int64)), .second, .val (.long l0), .second, .val (.long l1), .second, .val (.long l2), .second, .val (.long l3), .second, .val (.int (0 : Int32)), .val (.int mode), .val (.long q5), .second, .val (.ref b40), .val (.ref b46), .val (.int (-1 : Int32))] [(.int (1 : Int32)), (.int (0 : Int32))])) t
        refine XS.icmpYes X49.here hx rfl (pc0 := 255) (pc' := 269) rfl (hb hby at_255) rfl (by decide) (by decide) (by decide) ?_
        show Steps p.tables e below (T49.setTop (mkF m 269 #[.val (.int p0), .val (.long q1), .second, .val (.long q2), .second, .val (.long q3), .second, .val (.long q4), .second, .val (.long q5), .second, .val (.long (1152921504606846975 : Int64)), .second, .val (.long l0), .second, .val (.long l1), .second, .val (.long l2), .second, .val (.long l3), .second, .val (.int (0 : Int32)), .val (.int mode), .val (.long q5), .second, .val (.ref b40), .val (.ref b46), .val (.int (-1 : Int32))] [])) t
        refine XS.iload X49.here hx rfl (hb hby at_269) rfl ?_
        show Steps p.tables e below (T49.setTop (mkF m 271 #[.val (.int p0), .val (.long q1), .second, .val (.long q2), .second, .val (.long q3), .second, .val (.long q4), .second, .val (.long q5), .second, .val (.long (1152921504606846975 : Int64)), .second, .val (.long l0), .second, .val (.long l1), .second, .val (.long l2), .second, .val (.long l3), .second, .val (.int (0 : Int32)), .val (.int mode), .val (.long q5), .second, .val (.ref b40), .val (.ref b46), .val (.int (-1 : Int32))] [(.int (0 : Int32))])) t
        refine XS.iconst X49.here hx rfl (hb hby at_271) ?_
        show Steps p.tables e below (T49.setTop (mkF m 272 #[.val (.int p0), .val (.long q1), .second, .val (.long q2), .second, .val (.long q3), .second, .val (.long q4), .second, .val (.long q5), .second, .val (.long (1152921504606846975 : Int64)), .second, .val (.long l0), .second, .val (.long l1), .second, .val (.long l2), .second, .val (.long l3), .second, .val (.int (0 : Int32)), .val (.int mode), .val (.long q5), .second, .val (.ref b40), .val (.ref b46), .val (.int (-1 : Int32))] [(.int (2 : Int32)), (.int (0 : Int32))])) t
        refine XS.icmpYes X49.here hx rfl (pc0 := 272) (pc' := 286) rfl (hb hby at_272) rfl (by decide) (by decide) (by decide) ?_
        show Steps p.tables e below (T49.setTop (mkF m 286 #[.val (.int p0), .val (.long q1), .second, .val (.long q2), .second, .val (.long q3), .second, .val (.long q4), .second, .val (.long q5), .second, .val (.long (1152921504606846975 : Int64)), .second, .val (.long l0), .second, .val (.long l1), .second, .val (.long l2), .second, .val (.long l3), .second, .val (.int (0 : Int32)), .val (.int mode), .val (.long q5), .second, .val (.ref b40), .val (.ref b46), .val (.int (-1 : Int32))] [])) t
        refine XS.iload X49.here hx rfl (hb hby at_286) rfl ?_
        show Steps p.tables e below (T49.setTop (mkF m 288 #[.val (.int p0), .val (.long q1), .second, .val (.long q2), .second, .val (.long q3), .second, .val (.long q4), .second, .val (.long q5), .second, .val (.long (1152921504606846975 : Int64)), .second, .val (.long l0), .second, .val (.long l1), .second, .val (.long l2), .second, .val (.long l3), .second, .val (.int (0 : Int32)), .val (.int mode), .val (.long q5), .second, .val (.ref b40), .val (.ref b46), .val (.int (-1 : Int32))] [(.int (0 : Int32))])) t
        refine XS.iconst X49.here hx rfl (hb hby at_288) ?_
        show Steps p.tables e below (T49.setTop (mkF m 289 #[.val (.int p0), .val (.long q1), .second, .val (.long q2), .second, .val (.long q3), .second, .val (.long q4), .second, .val (.long q5), .second, .val (.long (1152921504606846975 : Int64)), .second, .val (.long l0), .second, .val (.long l1), .second, .val (.long l2), .second, .val (.long l3), .second, .val (.int (0 : Int32)), .val (.int mode), .val (.long q5), .second, .val (.ref b40), .val (.ref b46), .val (.int (-1 : Int32))] [(.int (3 : Int32)), (.int (0 : Int32))])) t
        refine XS.icmpYes X49.here hx rfl (pc0 := 289) (pc' := 303) rfl (hb hby at_289) rfl (by decide) (by decide) (by decide) ?_
        show Steps p.tables e below (T49.setTop (mkF m 303 #[.val (.int p0), .val (.long q1), .second, .val (.long q2), .second, .val (.long q3), .second, .val (.long q4), .second, .val (.long q5), .second, .val (.long (1152921504606846975 : Int64)), .second, .val (.long l0), .second, .val (.long l1), .second, .val (.long l2), .second, .val (.long l3), .second, .val (.int (0 : Int32)), .val (.int mode), .val (.long q5), .second, .val (.ref b40), .val (.ref b46), .val (.int (-1 : Int32))] [])) t
        refine XS.aload X49.here hx rfl (hb hby at_303) rfl rfl ?_
        show Steps p.tables e below (T49.setTop (mkF m 305 #[.val (.int p0), .val (.long q1), .second, .val (.long q2), .second, .val (.long q3), .second, .val (.long q4), .second, .val (.long q5), .second, .val (.long (1152921504606846975 : Int64)), .second, .val (.long l0), .second, .val (.long l1), .second, .val (.long l2), .second, .val (.long l3), .second, .val (.int (0 : Int32)), .val (.int mode), .val (.long q5), .second, .val (.ref b40), .val (.ref b46), .val (.int (-1 : Int32))] [(.ref b46)])) t
        refine XS.lload X49.here hx rfl (hb hby at_305) rfl ?_
        show Steps p.tables e below (T49.setTop (mkF m 307 #[.val (.int p0), .val (.long q1), .second, .val (.long q2), .second, .val (.long q3), .second, .val (.long q4), .second, .val (.long q5), .second, .val (.long (1152921504606846975 : Int64)), .second, .val (.long l0), .second, .val (.long l1), .second, .val (.long l2), .second, .val (.long l3), .second, .val (.int (0 : Int32)), .val (.int mode), .val (.long q5), .second, .val (.ref b40), .val (.ref b46), .val (.int (-1 : Int32))] [(.long q5), (.ref b46)])) t
        exact kt
      refine own_callVp X49 hx hZ hown rfl (hw _ (List.mem_of_getElem? (i := 78) rfl)) (hw _ (List.mem_of_getElem? (i := 79) rfl)) (notFace_of_selects (args := #[]) (mvT hZ (hw _ (List.mem_of_getElem? (i := 81) rfl)))) (hw _ (List.mem_of_getElem? (i := 81) rfl)) (hw _ (List.mem_of_getElem? (i := 80) rfl)) (hw _ (List.mem_of_getElem? (i := 44) rfl)) (hw _ (List.mem_of_getElem? (i := 82) rfl)) (by decide) (rm7 l Z aw hw b46 q5 r47 (fun _ => (0 : Int64)) (0 : Int32) 0 T49.heap n0 ZKq49 Pq49_1 Pq49_4 Ar_r47 (by decide) (by decide) own_p0) Pq49_0 (g := (mkF m 307 #[.val (.int p0), .val (.long q1), .second, .val (.long q2), .second, .val (.long q3), .second, .val (.long q4), .second, .val (.long q5), .second, .val (.long (1152921504606846975 : Int64)), .second, .val (.long l0), .second, .val (.long l1), .second, .val (.long l2), .second, .val (.long l3), .second, .val (.int (0 : Int32)), .val (.int mode), .val (.long q5), .second, .val (.ref b40), .val (.ref b46), .val (.int (-1 : Int32))] [(.long q5), (.ref b46)])) rfl (by rw [hml]; rfl) (argsL := [(.long q5)]) (rest := []) (lenOf pd_5 rfl) rfl rfl (W := 0) (by show 2 * 0 + _ ≤ _; exact Nat.le_of_eq rfl) (hb hby at_307) (by decide) (by decide) (by decide) (by decide) ?_
      intro T50 X50 e50
      refine own_go (T' := T50) (f' := (mkF m 320 #[.val (.int p0), .val (.long q1), .second, .val (.long q2), .second, .val (.long q3), .second, .val (.long q4), .second, .val (.long q5), .second, .val (.long (1152921504606846975 : Int64)), .second, .val (.long l0), .second, .val (.long l1), .second, .val (.long l2), .second, .val (.long l3), .second, .val (.int (0 : Int32)), .val (.int mode), .val (.long q5), .second, .val (.ref b40), .val (.ref b46), .val (.int (-1 : Int32))] [(.int (1 : Int32))])) (fun t kt => ?_) ?_
      · show Steps p.tables e below (T50.setTop (mkF m 310 #[.val (.int p0), .val (.long q1), .second, .val (.long q2), .second, .val (.long q3), .second, .val (.long q4), .second, .val (.long q5), .second, .val (.long (1152921504606846975 : Int64)), .second, .val (.long l0), .second, .val (.long l1), .second, .val (.long l2), .second, .val (.long l3), .second, .val (.int (0 : Int32)), .val (.int mode), .val (.long q5), .second, .val (.ref b40), .val (.ref b46), .val (.int (-1 : Int32))] [(.int ((Int32.ofNat (own_cl 0 (fun _ => (0 : Int64)) q5)) - (1 : Int32)))])) t
        refine XS.iload X50.here hx rfl (hb hby at_310) rfl ?_
        show Steps p.tables e below (T50.setTop (mkF m 312 #[.val (.int p0), .val (.long q1), .second, .val (.long q2), .second, .val (.long q3), .second, .val (.long q4), .second, .val (.long q5), .second, .val (.long (1152921504606846975 : Int64)), .second, .val (.long l0), .second, .val (.long l1), .second, .val (.long l2), .second, .val (.long l3), .second, .val (.int (0 : Int32)), .val (.int mode), .val (.long q5), .second, .val (.ref b40), .val (.ref b46), .val (.int (-1 : Int32))] [(.int (-1 : Int32)), (.int ((Int32.ofNat (own_cl 0 (fun _ => (0 : Int64)) q5)) - (1 : Int32)))])) t
        refine XS.icmpNo X50.here hx rfl (hb hby at_312) rfl (teq (show ((Int32.ofNat (own_cl 0 (fun _ => (0 : Int64)) q5)) - (1 : Int32)) = (-1 : Int32) from own_v0)).2 ?_
        show Steps p.tables e below (T50.setTop (mkF m 315 #[.val (.int p0), .val (.long q1), .second, .val (.long q2), .second, .val (.long q3), .second, .val (.long q4), .second, .val (.long q5), .second, .val (.long (1152921504606846975 : Int64)), .second, .val (.long l0), .second, .val (.long l1), .second, .val (.long l2), .second, .val (.long l3), .second, .val (.int (0 : Int32)), .val (.int mode), .val (.long q5), .second, .val (.ref b40), .val (.ref b46), .val (.int (-1 : Int32))] [])) t
        refine XS.iconst X50.here hx rfl (hb hby at_315) ?_
        show Steps p.tables e below (T50.setTop (mkF m 316 #[.val (.int p0), .val (.long q1), .second, .val (.long q2), .second, .val (.long q3), .second, .val (.long q4), .second, .val (.long q5), .second, .val (.long (1152921504606846975 : Int64)), .second, .val (.long l0), .second, .val (.long l1), .second, .val (.long l2), .second, .val (.long l3), .second, .val (.int (0 : Int32)), .val (.int mode), .val (.long q5), .second, .val (.ref b40), .val (.ref b46), .val (.int (-1 : Int32))] [(.int (1 : Int32))])) t
        refine XS.goto X50.here hx rfl (pc0 := 316) (pc' := 320) rfl (hb hby at_316) (by decide) (by decide) ?_
        show Steps p.tables e below (T50.setTop (mkF m 320 #[.val (.int p0), .val (.long q1), .second, .val (.long q2), .second, .val (.long q3), .second, .val (.long q4), .second, .val (.long q5), .second, .val (.long (1152921504606846975 : Int64)), .second, .val (.long l0), .second, .val (.long l1), .second, .val (.long l2), .second, .val (.long l3), .second, .val (.int (0 : Int32)), .val (.int mode), .val (.long q5), .second, .val (.ref b40), .val (.ref b46), .val (.int (-1 : Int32))] [(.int (1 : Int32))])) t
        exact kt
      exact own_retNW X50 hP hx hlk e50 hS kzKq49 (t := .boolean) hret (by simp) (hb hby at_320) (by decide) (by decide) (z' := (1 : Int32)) rfl ⟨rfl, N49⟩
    · rw [hn5]
      refine own_go (T' := T49) (f' := (mkF m 191 #[.val (.int p0), .val (.long q1), .second, .val (.long q2), .second, .val (.long q3), .second, .val (.long q4), .second, .val (.long q5), .second, .val (.long (1152921504606846975 : Int64)), .second, .val (.long l0), .second, .val (.long l1), .second, .val (.long l2), .second, .val (.long l3), .second, .val (.int (1 : Int32)), .val (.int mode), .val (.long q5), .second, .val (.ref b40), .val (.ref b46), .unset] [(.long l0), (.ref b46)])) (fun t kt => ?_) ?_
      · show Steps p.tables e below (T49.setTop (mkF m 182 #[.val (.int p0), .val (.long q1), .second, .val (.long q2), .second, .val (.long q3), .second, .val (.long q4), .second, .val (.long q5), .second, .val (.long (1152921504606846975 : Int64)), .second, .val (.long l0), .second, .val (.long l1), .second, .val (.long l2), .second, .val (.long l3), .second, .val (.int (1 : Int32)), .val (.int mode), .val (.long q5), .second, .val (.ref b40), .val (.ref b46), .unset] [])) t
        refine XS.iload X49.here hx rfl (hb hby at_182) rfl ?_
        show Steps p.tables e below (T49.setTop (mkF m 184 #[.val (.int p0), .val (.long q1), .second, .val (.long q2), .second, .val (.long q3), .second, .val (.long q4), .second, .val (.long q5), .second, .val (.long (1152921504606846975 : Int64)), .second, .val (.long l0), .second, .val (.long l1), .second, .val (.long l2), .second, .val (.long l3), .second, .val (.int (1 : Int32)), .val (.int mode), .val (.long q5), .second, .val (.ref b40), .val (.ref b46), .unset] [(.int (1 : Int32))])) t
        refine XS.ifNo X49.here hx rfl (hb hby at_184) rfl (by decide) ?_
        show Steps p.tables e below (T49.setTop (mkF m 187 #[.val (.int p0), .val (.long q1), .second, .val (.long q2), .second, .val (.long q3), .second, .val (.long q4), .second, .val (.long q5), .second, .val (.long (1152921504606846975 : Int64)), .second, .val (.long l0), .second, .val (.long l1), .second, .val (.long l2), .second, .val (.long l3), .second, .val (.int (1 : Int32)), .val (.int mode), .val (.long q5), .second, .val (.ref b40), .val (.ref b46), .unset] [])) t
        refine XS.aload X49.here hx rfl (hb hby at_187) rfl rfl ?_
        show Steps p.tables e below (T49.setTop (mkF m 189 #[.val (.int p0), .val (.long q1), .second, .val (.long q2), .second, .val (.long q3), .second, .val (.long q4), .second, .val (.long q5), .second, .val (.long (1152921504606846975 : Int64)), .second, .val (.long l0), .second, .val (.long l1), .second, .val (.long l2), .second, .val (.long l3), .second, .val (.int (1 : Int32)), .val (.int mode), .val (.long q5), .second, .val (.ref b40), .val (.ref b46), .unset] [(.ref b46)])) t
        refine XS.lload X49.here hx rfl (hb hby at_189) rfl ?_
        show Steps p.tables e below (T49.setTop (mkF m 191 #[.val (.int p0), .val (.long q1), .second, .val (.long q2), .second, .val (.long q3), .second, .val (.long q4), .second, .val (.long q5), .second, .val (.long (1152921504606846975 : Int64)), .second, .val (.long l0), .second, .val (.long l1), .second, .val (.long l2), .second, .val (.long l3), .second, .val (.int (1 : Int32)), .val (.int mode), .val (.long q5), .second, .val (.ref b40), .val (.ref b46), .unset] [(.long l0), (.ref b46)])) t
        exact kt
      refine own_callV X49 hx hZ hown rfl (hw _ (List.mem_of_getElem? (i := 83) rfl)) (hw _ (List.mem_of_getElem? (i := 84) rfl)) (notFace_of_selects (args := #[]) (mvT hZ (hw _ (List.mem_of_getElem? (i := 86) rfl)))) (hw _ (List.mem_of_getElem? (i := 86) rfl)) (hw _ (List.mem_of_getElem? (i := 85) rfl)) (hw _ (List.mem_of_getElem? (i := 44) rfl)) (hw _ (List.mem_of_getElem? (i := 87) rfl)) (by decide) (rm8 l Z aw hw b46 l0 r47 4 (fun _ => (0 : Int64)) (0 : Int32) 0 (.int ((own_z (¬ ((p0 &&& (256 : Int32)) = (0 : Int32)))) &&& (1 : Int32))) (.long (0 : Int64)) T49.heap n0 ZKq49 Pq49_0 g_b46 g_r47 (ne_b46_r47) (ne_r47_b46) Pq49_1 Pq49_4 Pq49_2 Pq49_3 Ar_r47 (by decide) (by decide)) Pq49_0 (g := (mkF m 191 #[.val (.int p0), .val (.long q1), .second, .val (.long q2), .second, .val (.long q3), .second, .val (.long q4), .second, .val (.long q5), .second, .val (.long (1152921504606846975 : Int64)), .second, .val (.long l0), .second, .val (.long l1), .second, .val (.long l2), .second, .val (.long l3), .second, .val (.int (1 : Int32)), .val (.int mode), .val (.long q5), .second, .val (.ref b40), .val (.ref b46), .unset] [(.long l0), (.ref b46)])) rfl (by rw [hml]; rfl) (argsL := [(.long l0)]) (rest := []) (lenOf pd_6 rfl) rfl rfl (W := 0) (by show 2 * 0 + _ ≤ _; exact Nat.le_of_eq rfl) (hb hby at_191) (by decide) (by decide) (by decide) (by decide) ?_
      rintro _ T51 L51 X51 ⟨rfl, Nq51, Kq51, Pq51_0, Pq51_1, Pq51_2, Pq51_3, Pq51_4, Pq51_5⟩
      have N51 := Fr.app N49 Nq51
      replace Pq45_0 := (Pq45_0.keep Kq51)
      replace F_r45 := (F_r45.keep Kq51 (ninS (ne_b40_b46) (ninS (ne_b40_r47) nin0)))
      replace Ar_r45 := (Ar_r45.keep Kq51 (ninS (ne_r45_b46) (ninS (ne_r45_r47) nin0)))
      replace Pq49_0 := (Pq49_0.keep Kq51)
      have ZKq51 : n0 ≤ T51.heap.size := Nat.le_trans ZKq49 Kq51.1
      have KKKq51 := KKKq49.trans Kq51 ((allS (Or.inr sz_b46) (allS (Or.inr sz_r47) all0)))
      have kzKq51 := Nat.le_trans kzKq49 Kq51.1
      obtain ⟨f1, hf1⟩ : ∃ z, z = (own_set (fun _ => (0 : Int64)) 0 l0) := ⟨_, rfl⟩
      rw [← hf1] at Pq51_5
      refine own_go (T' := T51) (f' := (mkF m 246 #[.val (.int p0), .val (.long q1), .second, .val (.long q2), .second, .val (.long q3), .second, .val (.long q4), .second, .val (.long q5), .second, .val (.long (1152921504606846975 : Int64)), .second, .val (.long l0), .second, .val (.long l1), .second, .val (.long l2), .second, .val (.long l3), .second, .val (.int (1 : Int32)), .val (.int mode), .val (.long q5), .second, .val (.ref b40), .val (.ref b46), .val (.int (-1 : Int32))] [(.int (lcmpW l0 q5))])) (fun t kt => ?_) ?_
      · show Steps p.tables e below (T51.setTop (mkF m 194 #[.val (.int p0), .val (.long q1), .second, .val (.long q2), .second, .val (.long q3), .second, .val (.long q4), .second, .val (.long q5), .second, .val (.long (1152921504606846975 : Int64)), .second, .val (.long l0), .second, .val (.long l1), .second, .val (.long l2), .second, .val (.long l3), .second, .val (.int (1 : Int32)), .val (.int mode), .val (.long q5), .second, .val (.ref b40), .val (.ref b46), .unset] [])) t
        refine XS.iload X51.here hx rfl (hb hby at_194) rfl ?_
        show Steps p.tables e below (T51.setTop (mkF m 196 #[.val (.int p0), .val (.long q1), .second, .val (.long q2), .second, .val (.long q3), .second, .val (.long q4), .second, .val (.long q5), .second, .val (.long (1152921504606846975 : Int64)), .second, .val (.long l0), .second, .val (.long l1), .second, .val (.long l2), .second, .val (.long l3), .second, .val (.int (1 : Int32)), .val (.int mode), .val (.long q5), .second, .val (.ref b40), .val (.ref b46), .unset] [(.int (1 : Int32))])) t
        refine XS.iconst X51.here hx rfl (hb hby at_196) ?_
        show Steps p.tables e below (T51.setTop (mkF m 197 #[.val (.int p0), .val (.long q1), .second, .val (.long q2), .second, .val (.long q3), .second, .val (.long q4), .second, .val (.long q5), .second, .val (.long (1152921504606846975 : Int64)), .second, .val (.long l0), .second, .val (.long l1), .second, .val (.long l2), .second, .val (.long l3), .second, .val (.int (1 : Int32)), .val (.int mode), .val (.long q5), .second, .val (.ref b40), .val (.ref b46), .unset] [(.int (1 : Int32)), (.int (1 : Int32))])) t
        refine XS.icmpYes X51.here hx rfl (pc0 := 197) (pc' := 207) rfl (hb hby at_197) rfl (by decide) (by decide) (by decide) ?_
        show Steps p.tables e below (T51.setTop (mkF m 207 #[.val (.int p0), .val (.long q1), .second, .val (.long q2), .second, .val (.long q3), .second, .val (.long q4), .second, .val (.long q5), .second, .val (.long (1152921504606846975 : Int64)), .second, .val (.long l0), .second, .val (.long l1), .second, .val (.long l2), .second, .val (.long l3), .second, .val (.int (1 : Int32)), .val (.int mode), .val (.long q5), .second, .val (.ref b40), .val (.ref b46), .unset] [])) t
        refine XS.iload X51.here hx rfl (hb hby at_207) rfl ?_
        show Steps p.tables e below (T51.setTop (mkF m 209 #[.val (.int p0), .val (.long q1), .second, .val (.long q2), .second, .val (.long q3), .second, .val (.long q4), .second, .val (.long q5), .second, .val (.long (1152921504606846975 : Int64)), .second, .val (.long l0), .second, .val (.long l1), .second, .val (.long l2), .second, .val (.long l3), .second, .val (.int (1 : Int32)), .val (.int mode), .val (.long q5), .second, .val (.ref b40), .val (.ref b46), .unset] [(.int (1 : Int32))])) t
        refine XS.iconst X51.here hx rfl (hb hby at_209) ?_
        show Steps p.tables e below (T51.setTop (mkF m 210 #[.val (.int p0), .val (.long q1), .second, .val (.long q2), .second, .val (.long q3), .second, .val (.long q4), .second, .val (.long q5), .second, .val (.long (1152921504606846975 : Int64)), .second, .val (.long l0), .second, .val (.long l1), .second, .val (.long l2), .second, .val (.long l3), .second, .val (.int (1 : Int32)), .val (.int mode), .val (.long q5), .second, .val (.ref b40), .val (.ref b46), .unset] [(.int (2 : Int32)), (.int (1 : Int32))])) t
        refine XS.icmpYes X51.here hx rfl (pc0 := 210) (pc' := 220) rfl (hb hby at_210) rfl (by decide) (by decide) (by decide) ?_
        show Steps p.tables e below (T51.setTop (mkF m 220 #[.val (.int p0), .val (.long q1), .second, .val (.long q2), .second, .val (.long q3), .second, .val (.long q4), .second, .val (.long q5), .second, .val (.long (1152921504606846975 : Int64)), .second, .val (.long l0), .second, .val (.long l1), .second, .val (.long l2), .second, .val (.long l3), .second, .val (.int (1 : Int32)), .val (.int mode), .val (.long q5), .second, .val (.ref b40), .val (.ref b46), .unset] [])) t
        refine XS.iload X51.here hx rfl (hb hby at_220) rfl ?_
        show Steps p.tables e below (T51.setTop (mkF m 222 #[.val (.int p0), .val (.long q1), .second, .val (.long q2), .second, .val (.long q3), .second, .val (.long q4), .second, .val (.long q5), .second, .val (.long (1152921504606846975 : Int64)), .second, .val (.long l0), .second, .val (.long l1), .second, .val (.long l2), .second, .val (.long l3), .second, .val (.int (1 : Int32)), .val (.int mode), .val (.long q5), .second, .val (.ref b40), .val (.ref b46), .unset] [(.int (1 : Int32))])) t
        refine XS.iconst X51.here hx rfl (hb hby at_222) ?_
        show Steps p.tables e below (T51.setTop (mkF m 223 #[.val (.int p0), .val (.long q1), .second, .val (.long q2), .second, .val (.long q3), .second, .val (.long q4), .second, .val (.long q5), .second, .val (.long (1152921504606846975 : Int64)), .second, .val (.long l0), .second, .val (.long l1), .second, .val (.long l2), .second, .val (.long l3), .second, .val (.int (1 : Int32)), .val (.int mode), .val (.long q5), .second, .val (.ref b40), .val (.ref b46), .unset] [(.int (3 : Int32)), (.int (1 : Int32))])) t
        refine XS.icmpYes X51.here hx rfl (pc0 := 223) (pc' := 233) rfl (hb hby at_223) rfl (by decide) (by decide) (by decide) ?_
        show Steps p.tables e below (T51.setTop (mkF m 233 #[.val (.int p0), .val (.long q1), .second, .val (.long q2), .second, .val (.long q3), .second, .val (.long q4), .second, .val (.long q5), .second, .val (.long (1152921504606846975 : Int64)), .second, .val (.long l0), .second, .val (.long l1), .second, .val (.long l2), .second, .val (.long l3), .second, .val (.int (1 : Int32)), .val (.int mode), .val (.long q5), .second, .val (.ref b40), .val (.ref b46), .unset] [])) t
        refine XS.iconst X51.here hx rfl (hb hby at_233) ?_
        show Steps p.tables e below (T51.setTop (mkF m 234 #[.val (.int p0), .val (.long q1), .second, .val (.long q2), .second, .val (.long q3), .second, .val (.long q4), .second, .val (.long q5), .second, .val (.long (1152921504606846975 : Int64)), .second, .val (.long l0), .second, .val (.long l1), .second, .val (.long l2), .second, .val (.long l3), .second, .val (.int (1 : Int32)), .val (.int mode), .val (.long q5), .second, .val (.ref b40), .val (.ref b46), .unset] [(.int (-1 : Int32))])) t
        refine XS.istore X51.here hx rfl (hb hby at_234) rfl (l' := #[.val (.int p0), .val (.long q1), .second, .val (.long q2), .second, .val (.long q3), .second, .val (.long q4), .second, .val (.long q5), .second, .val (.long (1152921504606846975 : Int64)), .second, .val (.long l0), .second, .val (.long l1), .second, .val (.long l2), .second, .val (.long l3), .second, .val (.int (1 : Int32)), .val (.int mode), .val (.long q5), .second, .val (.ref b40), .val (.ref b46), .val (.int (-1 : Int32))]) rfl ?_
        show Steps p.tables e below (T51.setTop (mkF m 236 #[.val (.int p0), .val (.long q1), .second, .val (.long q2), .second, .val (.long q3), .second, .val (.long q4), .second, .val (.long q5), .second, .val (.long (1152921504606846975 : Int64)), .second, .val (.long l0), .second, .val (.long l1), .second, .val (.long l2), .second, .val (.long l3), .second, .val (.int (1 : Int32)), .val (.int mode), .val (.long q5), .second, .val (.ref b40), .val (.ref b46), .val (.int (-1 : Int32))] [])) t
        refine XS.iload X51.here hx rfl (hb hby at_236) rfl ?_
        show Steps p.tables e below (T51.setTop (mkF m 238 #[.val (.int p0), .val (.long q1), .second, .val (.long q2), .second, .val (.long q3), .second, .val (.long q4), .second, .val (.long q5), .second, .val (.long (1152921504606846975 : Int64)), .second, .val (.long l0), .second, .val (.long l1), .second, .val (.long l2), .second, .val (.long l3), .second, .val (.int (1 : Int32)), .val (.int mode), .val (.long q5), .second, .val (.ref b40), .val (.ref b46), .val (.int (-1 : Int32))] [(.int (1 : Int32))])) t
        refine XS.ifNo X51.here hx rfl (hb hby at_238) rfl (by decide) ?_
        show Steps p.tables e below (T51.setTop (mkF m 241 #[.val (.int p0), .val (.long q1), .second, .val (.long q2), .second, .val (.long q3), .second, .val (.long q4), .second, .val (.long q5), .second, .val (.long (1152921504606846975 : Int64)), .second, .val (.long l0), .second, .val (.long l1), .second, .val (.long l2), .second, .val (.long l3), .second, .val (.int (1 : Int32)), .val (.int mode), .val (.long q5), .second, .val (.ref b40), .val (.ref b46), .val (.int (-1 : Int32))] [])) t
        refine XS.lload X51.here hx rfl (hb hby at_241) rfl ?_
        show Steps p.tables e below (T51.setTop (mkF m 243 #[.val (.int p0), .val (.long q1), .second, .val (.long q2), .second, .val (.long q3), .second, .val (.long q4), .second, .val (.long q5), .second, .val (.long (1152921504606846975 : Int64)), .second, .val (.long l0), .second, .val (.long l1), .second, .val (.long l2), .second, .val (.long l3), .second, .val (.int (1 : Int32)), .val (.int mode), .val (.long q5), .second, .val (.ref b40), .val (.ref b46), .val (.int (-1 : Int32))] [(.long l0)])) t
        refine XS.lload X51.here hx rfl (hb hby at_243) rfl ?_
        show Steps p.tables e below (T51.setTop (mkF m 245 #[.val (.int p0), .val (.long q1), .second, .val (.long q2), .second, .val (.long q3), .second, .val (.long q4), .second, .val (.long q5), .second, .val (.long (1152921504606846975 : Int64)), .second, .val (.long l0), .second, .val (.long l1), .second, .val (.long l2), .second, .val (.long l3), .second, .val (.int (1 : Int32)), .val (.int mode), .val (.long q5), .second, .val (.ref b40), .val (.ref b46), .val (.int (-1 : Int32))] [(.long q5), (.long l0)])) t
        refine XS.lcmp X51.here hx rfl (hb hby at_245) rfl ?_
        show Steps p.tables e below (T51.setTop (mkF m 246 #[.val (.int p0), .val (.long q1), .second, .val (.long q2), .second, .val (.long q3), .second, .val (.long q4), .second, .val (.long q5), .second, .val (.long (1152921504606846975 : Int64)), .second, .val (.long l0), .second, .val (.long l1), .second, .val (.long l2), .second, .val (.long l3), .second, .val (.int (1 : Int32)), .val (.int mode), .val (.long q5), .second, .val (.ref b40), .val (.ref b46), .val (.int (-1 : Int32))] [(.int (lcmpW l0 q5))])) t
        exact kt
      refine own_go (T' := T51) (f' := (mkF m 252 #[.val (.int p0), .val (.long q1), .second, .val (.long q2), .second, .val (.long q3), .second, .val (.long q4), .second, .val (.long q5), .second, .val (.long (1152921504606846975 : Int64)), .second, .val (.long l0), .second, .val (.long l1), .second, .val (.long l2), .second, .val (.long l3), .second, .val (.int (1 : Int32)), .val (.int mode), .val (.long q5), .second, .val (.ref b40), .val (.ref b46), .val (.int (if q5 < l0 then (-1 : Int32) else (0 : Int32)))] [])) (fun t kt => ?_) ?_
      · by_cases hc246_52 : q5 < l0
        · show Steps p.tables e below (T51.setTop (mkF m 246 #[.val (.int p0), .val (.long q1), .second, .val (.long q2), .second, .val (.long q3), .second, .val (.long q4), .second, .val (.long q5), .second, .val (.long (1152921504606846975 : Int64)), .second, .val (.long l0), .second, .val (.long l1), .second, .val (.long l2), .second, .val (.long l3), .second, .val (.int (1 : Int32)), .val (.int mode), .val (.long q5), .second, .val (.ref b40), .val (.ref b46), .val (.int (-1 : Int32))] [(.int (lcmpW l0 q5))])) t
          refine XS.ifYes X51.here hx rfl (pc0 := 246) (pc' := 252) rfl (hb hby at_246) rfl (own_lY_gt hc246_52) (by decide) (by decide) ?_
          show Steps p.tables e below (T51.setTop (mkF m 252 #[.val (.int p0), .val (.long q1), .second, .val (.long q2), .second, .val (.long q3), .second, .val (.long q4), .second, .val (.long q5), .second, .val (.long (1152921504606846975 : Int64)), .second, .val (.long l0), .second, .val (.long l1), .second, .val (.long l2), .second, .val (.long l3), .second, .val (.int (1 : Int32)), .val (.int mode), .val (.long q5), .second, .val (.ref b40), .val (.ref b46), .val (.int (-1 : Int32))] [])) t
          rw [if_pos hc246_52] at kt
          exact kt
        · show Steps p.tables e below (T51.setTop (mkF m 246 #[.val (.int p0), .val (.long q1), .second, .val (.long q2), .second, .val (.long q3), .second, .val (.long q4), .second, .val (.long q5), .second, .val (.long (1152921504606846975 : Int64)), .second, .val (.long l0), .second, .val (.long l1), .second, .val (.long l2), .second, .val (.long l3), .second, .val (.int (1 : Int32)), .val (.int mode), .val (.long q5), .second, .val (.ref b40), .val (.ref b46), .val (.int (-1 : Int32))] [(.int (lcmpW l0 q5))])) t
          refine XS.ifNo X51.here hx rfl (hb hby at_246) rfl (own_lN_gt hc246_52) ?_
          show Steps p.tables e below (T51.setTop (mkF m 249 #[.val (.int p0), .val (.long q1), .second, .val (.long q2), .second, .val (.long q3), .second, .val (.long q4), .second, .val (.long q5), .second, .val (.long (1152921504606846975 : Int64)), .second, .val (.long l0), .second, .val (.long l1), .second, .val (.long l2), .second, .val (.long l3), .second, .val (.int (1 : Int32)), .val (.int mode), .val (.long q5), .second, .val (.ref b40), .val (.ref b46), .val (.int (-1 : Int32))] [])) t
          refine XS.iconst X51.here hx rfl (hb hby at_249) ?_
          show Steps p.tables e below (T51.setTop (mkF m 250 #[.val (.int p0), .val (.long q1), .second, .val (.long q2), .second, .val (.long q3), .second, .val (.long q4), .second, .val (.long q5), .second, .val (.long (1152921504606846975 : Int64)), .second, .val (.long l0), .second, .val (.long l1), .second, .val (.long l2), .second, .val (.long l3), .second, .val (.int (1 : Int32)), .val (.int mode), .val (.long q5), .second, .val (.ref b40), .val (.ref b46), .val (.int (-1 : Int32))] [(.int (0 : Int32))])) t
          refine XS.istore X51.here hx rfl (hb hby at_250) rfl (l' := #[.val (.int p0), .val (.long q1), .second, .val (.long q2), .second, .val (.long q3), .second, .val (.long q4), .second, .val (.long q5), .second, .val (.long (1152921504606846975 : Int64)), .second, .val (.long l0), .second, .val (.long l1), .second, .val (.long l2), .second, .val (.long l3), .second, .val (.int (1 : Int32)), .val (.int mode), .val (.long q5), .second, .val (.ref b40), .val (.ref b46), .val (.int (0 : Int32))]) rfl ?_
          show Steps p.tables e below (T51.setTop (mkF m 252 #[.val (.int p0), .val (.long q1), .second, .val (.long q2), .second, .val (.long q3), .second, .val (.long q4), .second, .val (.long q5), .second, .val (.long (1152921504606846975 : Int64)), .second, .val (.long l0), .second, .val (.long l1), .second, .val (.long l2), .second, .val (.long l3), .second, .val (.int (1 : Int32)), .val (.int mode), .val (.long q5), .second, .val (.ref b40), .val (.ref b46), .val (.int (0 : Int32))] [])) t
          rw [if_neg hc246_52] at kt
          exact kt
      refine own_go (T' := T51) (f' := (mkF m 307 #[.val (.int p0), .val (.long q1), .second, .val (.long q2), .second, .val (.long q3), .second, .val (.long q4), .second, .val (.long q5), .second, .val (.long (1152921504606846975 : Int64)), .second, .val (.long l0), .second, .val (.long l1), .second, .val (.long l2), .second, .val (.long l3), .second, .val (.int (1 : Int32)), .val (.int mode), .val (.long q5), .second, .val (.ref b40), .val (.ref b46), .val (.int (if q5 < l0 then (-1 : Int32) else (0 : Int32)))] [(.long q5), (.ref b46)])) (fun t kt => ?_) ?_
      · show Steps p.tables e below (T51.setTop (mkF m 252 #[.val (.int p0), .val (.long q1), .second, .val (.long q2), .second, .val (.long q3), .second, .val (.long q4), .second, .val (.long q5), .second, .val (.long (1152921504606846975 : Int64)), .second, .val (.long l0), .second, .val (.long l1), .second, .val (.long l2), .second, .val (.long l3), .second, .val (.int (1 : Int32)), .val (.int mode), .val (.long q5), .second, .val (.ref b40), .val (.ref b46), .val (.int (if q5 < l0 then (-1 : Int32) else (0 : Int32)))] [])) t
        refine XS.iload X51.here hx rfl (hb hby at_252) rfl ?_
        show Steps p.tables e below (T51.setTop (mkF m 254 #[.val (.int p0), .val (.long q1), .second, .val (.long q2), .second, .val (.long q3), .second, .val (.long q4), .second, .val (.long q5), .second, .val (.long (1152921504606846975 : Int64)), .second, .val (.long l0), .second, .val (.long l1), .second, .val (.long l2), .second, .val (.long l3), .second, .val (.int (1 : Int32)), .val (.int mode), .val (.long q5), .second, .val (.ref b40), .val (.ref b46), .val (.int (if q5 < l0 then (-1 : Int32) else (0 : Int32)))] [(.int (1 : Int32))])) t
        refine XS.iconst X51.here hx rfl (hb hby at_254) ?_
        show Steps p.tables e below (T51.setTop (mkF m 255 #[.val (.int p0), .val (.long q1), .second, .val (.long q2), .second, .val (.long q3), .second, .val (.long q4), .second, .val (.long q5), .second, .val (.long (1152921504606846975 : Int64)), .second, .val (.long l0), .second, .val (.long l1), .second, .val (.long l2), .second, .val (.long l3), .second, .val (.int (1 : Int32)), .val (.int mode), .val (.long q5), .second, .val (.ref b40), .val (.ref b46), .val (.int (if q5 < l0 then (-1 : Int32) else (0 : Int32)))] [(.int (1 : Int32)), (.int (1 : Int32))])) t
        refine XS.icmpYes X51.here hx rfl (pc0 := 255) (pc' := 269) rfl (hb hby at_255) rfl (by decide) (by decide) (by decide) ?_
        show Steps p.tables e below (T51.setTop (mkF m 269 #[.val (.int p0), .val (.long q1), .second, .val (.long q2), .second, .val (.long q3), .second, .val (.long q4), .second, .val (.long q5), .second, .val (.long (1152921504606846975 : Int64)), .second, .val (.long l0), .second, .val (.long l1), .second, .val (.long l2), .second, .val (.long l3), .second, .val (.int (1 : Int32)), .val (.int mode), .val (.long q5), .second, .val (.ref b40), .val (.ref b46), .val (.int (if q5 < l0 then (-1 : Int32) else (0 : Int32)))] [])) t
        refine XS.iload X51.here hx rfl (hb hby at_269) rfl ?_
        show Steps p.tables e below (T51.setTop (mkF m 271 #[.val (.int p0), .val (.long q1), .second, .val (.long q2), .second, .val (.long q3), .second, .val (.long q4), .second, .val (.long q5), .second, .val (.long (1152921504606846975 : Int64)), .second, .val (.long l0), .second, .val (.long l1), .second, .val (.long l2), .second, .val (.long l3), .second, .val (.int (1 : Int32)), .val (.int mode), .val (.long q5), .second, .val (.ref b40), .val (.ref b46), .val (.int (if q5 < l0 then (-1 : Int32) else (0 : Int32)))] [(.int (1 : Int32))])) t
        refine XS.iconst X51.here hx rfl (hb hby at_271) ?_
        show Steps p.tables e below (T51.setTop (mkF m 272 #[.val (.int p0), .val (.long q1), .second, .val (.long q2), .second, .val (.long q3), .second, .val (.long q4), .second, .val (.long q5), .second, .val (.long (1152921504606846975 : Int64)), .second, .val (.long l0), .second, .val (.long l1), .second, .val (.long l2), .second, .val (.long l3), .second, .val (.int (1 : Int32)), .val (.int mode), .val (.long q5), .second, .val (.ref b40), .val (.ref b46), .val (.int (if q5 < l0 then (-1 : Int32) else (0 : Int32)))] [(.int (2 : Int32)), (.int (1 : Int32))])) t
        refine XS.icmpYes X51.here hx rfl (pc0 := 272) (pc' := 286) rfl (hb hby at_272) rfl (by decide) (by decide) (by decide) ?_
        show Steps p.tables e below (T51.setTop (mkF m 286 #[.val (.int p0), .val (.long q1), .second, .val (.long q2), .second, .val (.long q3), .second, .val (.long q4), .second, .val (.long q5), .second, .val (.long (1152921504606846975 : Int64)), .second, .val (.long l0), .second, .val (.long l1), .second, .val (.long l2), .second, .val (.long l3), .second, .val (.int (1 : Int32)), .val (.int mode), .val (.long q5), .second, .val (.ref b40), .val (.ref b46), .val (.int (if q5 < l0 then (-1 : Int32) else (0 : Int32)))] [])) t
        refine XS.iload X51.here hx rfl (hb hby at_286) rfl ?_
        show Steps p.tables e below (T51.setTop (mkF m 288 #[.val (.int p0), .val (.long q1), .second, .val (.long q2), .second, .val (.long q3), .second, .val (.long q4), .second, .val (.long q5), .second, .val (.long (1152921504606846975 : Int64)), .second, .val (.long l0), .second, .val (.long l1), .second, .val (.long l2), .second, .val (.long l3), .second, .val (.int (1 : Int32)), .val (.int mode), .val (.long q5), .second, .val (.ref b40), .val (.ref b46), .val (.int (if q5 < l0 then (-1 : Int32) else (0 : Int32)))] [(.int (1 : Int32))])) t
        refine XS.iconst X51.here hx rfl (hb hby at_288) ?_
        show Steps p.tables e below (T51.setTop (mkF m 289 #[.val (.int p0), .val (.long q1), .second, .val (.long q2), .second, .val (.long q3), .second, .val (.long q4), .second, .val (.long q5), .second, .val (.long (1152921504606846975 : Int64)), .second, .val (.long l0), .second, .val (.long l1), .second, .val (.long l2), .second, .val (.long l3), .second, .val (.int (1 : Int32)), .val (.int mode), .val (.long q5), .second, .val (.ref b40), .val (.ref b46), .val (.int (if q5 < l0 then (-1 : Int32) else (0 : Int32)))] [(.int (3 : Int32)), (.int (1 : Int32))])) t
        refine XS.icmpYes X51.here hx rfl (pc0 := 289) (pc' := 303) rfl (hb hby at_289) rfl (by decide) (by decide) (by decide) ?_
        show Steps p.tables e below (T51.setTop (mkF m 303 #[.val (.int p0), .val (.long q1), .second, .val (.long q2), .second, .val (.long q3), .second, .val (.long q4), .second, .val (.long q5), .second, .val (.long (1152921504606846975 : Int64)), .second, .val (.long l0), .second, .val (.long l1), .second, .val (.long l2), .second, .val (.long l3), .second, .val (.int (1 : Int32)), .val (.int mode), .val (.long q5), .second, .val (.ref b40), .val (.ref b46), .val (.int (if q5 < l0 then (-1 : Int32) else (0 : Int32)))] [])) t
        refine XS.aload X51.here hx rfl (hb hby at_303) rfl rfl ?_
        show Steps p.tables e below (T51.setTop (mkF m 305 #[.val (.int p0), .val (.long q1), .second, .val (.long q2), .second, .val (.long q3), .second, .val (.long q4), .second, .val (.long q5), .second, .val (.long (1152921504606846975 : Int64)), .second, .val (.long l0), .second, .val (.long l1), .second, .val (.long l2), .second, .val (.long l3), .second, .val (.int (1 : Int32)), .val (.int mode), .val (.long q5), .second, .val (.ref b40), .val (.ref b46), .val (.int (if q5 < l0 then (-1 : Int32) else (0 : Int32)))] [(.ref b46)])) t
        refine XS.lload X51.here hx rfl (hb hby at_305) rfl ?_
        show Steps p.tables e below (T51.setTop (mkF m 307 #[.val (.int p0), .val (.long q1), .second, .val (.long q2), .second, .val (.long q3), .second, .val (.long q4), .second, .val (.long q5), .second, .val (.long (1152921504606846975 : Int64)), .second, .val (.long l0), .second, .val (.long l1), .second, .val (.long l2), .second, .val (.long l3), .second, .val (.int (1 : Int32)), .val (.int mode), .val (.long q5), .second, .val (.ref b40), .val (.ref b46), .val (.int (if q5 < l0 then (-1 : Int32) else (0 : Int32)))] [(.long q5), (.ref b46)])) t
        exact kt
      refine own_callVp X51 hx hZ hown rfl (hw _ (List.mem_of_getElem? (i := 78) rfl)) (hw _ (List.mem_of_getElem? (i := 79) rfl)) (notFace_of_selects (args := #[]) (mvT hZ (hw _ (List.mem_of_getElem? (i := 81) rfl)))) (hw _ (List.mem_of_getElem? (i := 81) rfl)) (hw _ (List.mem_of_getElem? (i := 80) rfl)) (hw _ (List.mem_of_getElem? (i := 44) rfl)) (hw _ (List.mem_of_getElem? (i := 82) rfl)) (by decide) (rm7 l Z aw hw b46 q5 r47 f1 ((0 : Int32) + (1 : Int32)) 1 T51.heap n0 ZKq51 Pq51_1 Pq51_2 Pq51_5 (by decide) (by decide) (own_q1 hl0 hl1 hl2 hl3 hf1)) Pq51_0 (g := (mkF m 307 #[.val (.int p0), .val (.long q1), .second, .val (.long q2), .second, .val (.long q3), .second, .val (.long q4), .second, .val (.long q5), .second, .val (.long (1152921504606846975 : Int64)), .second, .val (.long l0), .second, .val (.long l1), .second, .val (.long l2), .second, .val (.long l3), .second, .val (.int (1 : Int32)), .val (.int mode), .val (.long q5), .second, .val (.ref b40), .val (.ref b46), .val (.int (if q5 < l0 then (-1 : Int32) else (0 : Int32)))] [(.long q5), (.ref b46)])) rfl (by rw [hml]; rfl) (argsL := [(.long q5)]) (rest := []) (lenOf pd_5 rfl) rfl rfl (W := 0) (by show 2 * 0 + _ ≤ _; exact Nat.le_of_eq rfl) (hb hby at_307) (by decide) (by decide) (by decide) (by decide) ?_
      intro T53 X53 e53
      refine own_go (T' := T53) (f' := (mkF m 320 #[.val (.int p0), .val (.long q1), .second, .val (.long q2), .second, .val (.long q3), .second, .val (.long q4), .second, .val (.long q5), .second, .val (.long (1152921504606846975 : Int64)), .second, .val (.long l0), .second, .val (.long l1), .second, .val (.long l2), .second, .val (.long l3), .second, .val (.int (1 : Int32)), .val (.int mode), .val (.long q5), .second, .val (.ref b40), .val (.ref b46), .val (.int (if q5 < l0 then (-1 : Int32) else (0 : Int32)))] [(.int (1 : Int32))])) (fun t kt => ?_) ?_
      · show Steps p.tables e below (T53.setTop (mkF m 310 #[.val (.int p0), .val (.long q1), .second, .val (.long q2), .second, .val (.long q3), .second, .val (.long q4), .second, .val (.long q5), .second, .val (.long (1152921504606846975 : Int64)), .second, .val (.long l0), .second, .val (.long l1), .second, .val (.long l2), .second, .val (.long l3), .second, .val (.int (1 : Int32)), .val (.int mode), .val (.long q5), .second, .val (.ref b40), .val (.ref b46), .val (.int (if q5 < l0 then (-1 : Int32) else (0 : Int32)))] [(.int ((Int32.ofNat (own_cl 1 f1 q5)) - (1 : Int32)))])) t
        refine XS.iload X53.here hx rfl (hb hby at_310) rfl ?_
        show Steps p.tables e below (T53.setTop (mkF m 312 #[.val (.int p0), .val (.long q1), .second, .val (.long q2), .second, .val (.long q3), .second, .val (.long q4), .second, .val (.long q5), .second, .val (.long (1152921504606846975 : Int64)), .second, .val (.long l0), .second, .val (.long l1), .second, .val (.long l2), .second, .val (.long l3), .second, .val (.int (1 : Int32)), .val (.int mode), .val (.long q5), .second, .val (.ref b40), .val (.ref b46), .val (.int (if q5 < l0 then (-1 : Int32) else (0 : Int32)))] [(.int (if q5 < l0 then (-1 : Int32) else (0 : Int32))), (.int ((Int32.ofNat (own_cl 1 f1 q5)) - (1 : Int32)))])) t
        refine XS.icmpNo X53.here hx rfl (hb hby at_312) rfl (teq (show ((Int32.ofNat (own_cl 1 f1 q5)) - (1 : Int32)) = (if q5 < l0 then (-1 : Int32) else (0 : Int32)) from own_v1 hl0 hl1 hl2 hl3 hf1)).2 ?_
        show Steps p.tables e below (T53.setTop (mkF m 315 #[.val (.int p0), .val (.long q1), .second, .val (.long q2), .second, .val (.long q3), .second, .val (.long q4), .second, .val (.long q5), .second, .val (.long (1152921504606846975 : Int64)), .second, .val (.long l0), .second, .val (.long l1), .second, .val (.long l2), .second, .val (.long l3), .second, .val (.int (1 : Int32)), .val (.int mode), .val (.long q5), .second, .val (.ref b40), .val (.ref b46), .val (.int (if q5 < l0 then (-1 : Int32) else (0 : Int32)))] [])) t
        refine XS.iconst X53.here hx rfl (hb hby at_315) ?_
        show Steps p.tables e below (T53.setTop (mkF m 316 #[.val (.int p0), .val (.long q1), .second, .val (.long q2), .second, .val (.long q3), .second, .val (.long q4), .second, .val (.long q5), .second, .val (.long (1152921504606846975 : Int64)), .second, .val (.long l0), .second, .val (.long l1), .second, .val (.long l2), .second, .val (.long l3), .second, .val (.int (1 : Int32)), .val (.int mode), .val (.long q5), .second, .val (.ref b40), .val (.ref b46), .val (.int (if q5 < l0 then (-1 : Int32) else (0 : Int32)))] [(.int (1 : Int32))])) t
        refine XS.goto X53.here hx rfl (pc0 := 316) (pc' := 320) rfl (hb hby at_316) (by decide) (by decide) ?_
        show Steps p.tables e below (T53.setTop (mkF m 320 #[.val (.int p0), .val (.long q1), .second, .val (.long q2), .second, .val (.long q3), .second, .val (.long q4), .second, .val (.long q5), .second, .val (.long (1152921504606846975 : Int64)), .second, .val (.long l0), .second, .val (.long l1), .second, .val (.long l2), .second, .val (.long l3), .second, .val (.int (1 : Int32)), .val (.int mode), .val (.long q5), .second, .val (.ref b40), .val (.ref b46), .val (.int (if q5 < l0 then (-1 : Int32) else (0 : Int32)))] [(.int (1 : Int32))])) t
        exact kt
      exact own_retNW X53 hP hx hlk e53 hS kzKq51 (t := .boolean) hret (by simp) (hb hby at_320) (by decide) (by decide) (z' := (1 : Int32)) rfl ⟨rfl, N51⟩
    · rw [hn5]
      refine own_go (T' := T49) (f' := (mkF m 191 #[.val (.int p0), .val (.long q1), .second, .val (.long q2), .second, .val (.long q3), .second, .val (.long q4), .second, .val (.long q5), .second, .val (.long (1152921504606846975 : Int64)), .second, .val (.long l0), .second, .val (.long l1), .second, .val (.long l2), .second, .val (.long l3), .second, .val (.int (2 : Int32)), .val (.int mode), .val (.long q5), .second, .val (.ref b40), .val (.ref b46), .unset] [(.long l0), (.ref b46)])) (fun t kt => ?_) ?_
      · show Steps p.tables e below (T49.setTop (mkF m 182 #[.val (.int p0), .val (.long q1), .second, .val (.long q2), .second, .val (.long q3), .second, .val (.long q4), .second, .val (.long q5), .second, .val (.long (1152921504606846975 : Int64)), .second, .val (.long l0), .second, .val (.long l1), .second, .val (.long l2), .second, .val (.long l3), .second, .val (.int (2 : Int32)), .val (.int mode), .val (.long q5), .second, .val (.ref b40), .val (.ref b46), .unset] [])) t
        refine XS.iload X49.here hx rfl (hb hby at_182) rfl ?_
        show Steps p.tables e below (T49.setTop (mkF m 184 #[.val (.int p0), .val (.long q1), .second, .val (.long q2), .second, .val (.long q3), .second, .val (.long q4), .second, .val (.long q5), .second, .val (.long (1152921504606846975 : Int64)), .second, .val (.long l0), .second, .val (.long l1), .second, .val (.long l2), .second, .val (.long l3), .second, .val (.int (2 : Int32)), .val (.int mode), .val (.long q5), .second, .val (.ref b40), .val (.ref b46), .unset] [(.int (2 : Int32))])) t
        refine XS.ifNo X49.here hx rfl (hb hby at_184) rfl (by decide) ?_
        show Steps p.tables e below (T49.setTop (mkF m 187 #[.val (.int p0), .val (.long q1), .second, .val (.long q2), .second, .val (.long q3), .second, .val (.long q4), .second, .val (.long q5), .second, .val (.long (1152921504606846975 : Int64)), .second, .val (.long l0), .second, .val (.long l1), .second, .val (.long l2), .second, .val (.long l3), .second, .val (.int (2 : Int32)), .val (.int mode), .val (.long q5), .second, .val (.ref b40), .val (.ref b46), .unset] [])) t
        refine XS.aload X49.here hx rfl (hb hby at_187) rfl rfl ?_
        show Steps p.tables e below (T49.setTop (mkF m 189 #[.val (.int p0), .val (.long q1), .second, .val (.long q2), .second, .val (.long q3), .second, .val (.long q4), .second, .val (.long q5), .second, .val (.long (1152921504606846975 : Int64)), .second, .val (.long l0), .second, .val (.long l1), .second, .val (.long l2), .second, .val (.long l3), .second, .val (.int (2 : Int32)), .val (.int mode), .val (.long q5), .second, .val (.ref b40), .val (.ref b46), .unset] [(.ref b46)])) t
        refine XS.lload X49.here hx rfl (hb hby at_189) rfl ?_
        show Steps p.tables e below (T49.setTop (mkF m 191 #[.val (.int p0), .val (.long q1), .second, .val (.long q2), .second, .val (.long q3), .second, .val (.long q4), .second, .val (.long q5), .second, .val (.long (1152921504606846975 : Int64)), .second, .val (.long l0), .second, .val (.long l1), .second, .val (.long l2), .second, .val (.long l3), .second, .val (.int (2 : Int32)), .val (.int mode), .val (.long q5), .second, .val (.ref b40), .val (.ref b46), .unset] [(.long l0), (.ref b46)])) t
        exact kt
      refine own_callV X49 hx hZ hown rfl (hw _ (List.mem_of_getElem? (i := 83) rfl)) (hw _ (List.mem_of_getElem? (i := 84) rfl)) (notFace_of_selects (args := #[]) (mvT hZ (hw _ (List.mem_of_getElem? (i := 86) rfl)))) (hw _ (List.mem_of_getElem? (i := 86) rfl)) (hw _ (List.mem_of_getElem? (i := 85) rfl)) (hw _ (List.mem_of_getElem? (i := 44) rfl)) (hw _ (List.mem_of_getElem? (i := 87) rfl)) (by decide) (rm8 l Z aw hw b46 l0 r47 4 (fun _ => (0 : Int64)) (0 : Int32) 0 (.int ((own_z (¬ ((p0 &&& (256 : Int32)) = (0 : Int32)))) &&& (1 : Int32))) (.long (0 : Int64)) T49.heap n0 ZKq49 Pq49_0 g_b46 g_r47 (ne_b46_r47) (ne_r47_b46) Pq49_1 Pq49_4 Pq49_2 Pq49_3 Ar_r47 (by decide) (by decide)) Pq49_0 (g := (mkF m 191 #[.val (.int p0), .val (.long q1), .second, .val (.long q2), .second, .val (.long q3), .second, .val (.long q4), .second, .val (.long q5), .second, .val (.long (1152921504606846975 : Int64)), .second, .val (.long l0), .second, .val (.long l1), .second, .val (.long l2), .second, .val (.long l3), .second, .val (.int (2 : Int32)), .val (.int mode), .val (.long q5), .second, .val (.ref b40), .val (.ref b46), .unset] [(.long l0), (.ref b46)])) rfl (by rw [hml]; rfl) (argsL := [(.long l0)]) (rest := []) (lenOf pd_6 rfl) rfl rfl (W := 0) (by show 2 * 0 + _ ≤ _; exact Nat.le_of_eq rfl) (hb hby at_191) (by decide) (by decide) (by decide) (by decide) ?_
      rintro _ T54 L54 X54 ⟨rfl, Nq54, Kq54, Pq54_0, Pq54_1, Pq54_2, Pq54_3, Pq54_4, Pq54_5⟩
      have N54 := Fr.app N49 Nq54
      replace Pq45_0 := (Pq45_0.keep Kq54)
      replace F_r45 := (F_r45.keep Kq54 (ninS (ne_b40_b46) (ninS (ne_b40_r47) nin0)))
      replace Ar_r45 := (Ar_r45.keep Kq54 (ninS (ne_r45_b46) (ninS (ne_r45_r47) nin0)))
      replace Pq49_0 := (Pq49_0.keep Kq54)
      have ZKq54 : n0 ≤ T54.heap.size := Nat.le_trans ZKq49 Kq54.1
      have KKKq54 := KKKq49.trans Kq54 ((allS (Or.inr sz_b46) (allS (Or.inr sz_r47) all0)))
      have kzKq54 := Nat.le_trans kzKq49 Kq54.1
      obtain ⟨f1, hf1⟩ : ∃ z, z = (own_set (fun _ => (0 : Int64)) 0 l0) := ⟨_, rfl⟩
      rw [← hf1] at Pq54_5
      refine own_go (T' := T54) (f' := (mkF m 204 #[.val (.int p0), .val (.long q1), .second, .val (.long q2), .second, .val (.long q3), .second, .val (.long q4), .second, .val (.long q5), .second, .val (.long (1152921504606846975 : Int64)), .second, .val (.long l0), .second, .val (.long l1), .second, .val (.long l2), .second, .val (.long l3), .second, .val (.int (2 : Int32)), .val (.int mode), .val (.long q5), .second, .val (.ref b40), .val (.ref b46), .unset] [(.long l1), (.ref b46)])) (fun t kt => ?_) ?_
      · show Steps p.tables e below (T54.setTop (mkF m 194 #[.val (.int p0), .val (.long q1), .second, .val (.long q2), .second, .val (.long q3), .second, .val (.long q4), .second, .val (.long q5), .second, .val (.long (1152921504606846975 : Int64)), .second, .val (.long l0), .second, .val (.long l1), .second, .val (.long l2), .second, .val (.long l3), .second, .val (.int (2 : Int32)), .val (.int mode), .val (.long q5), .second, .val (.ref b40), .val (.ref b46), .unset] [])) t
        refine XS.iload X54.here hx rfl (hb hby at_194) rfl ?_
        show Steps p.tables e below (T54.setTop (mkF m 196 #[.val (.int p0), .val (.long q1), .second, .val (.long q2), .second, .val (.long q3), .second, .val (.long q4), .second, .val (.long q5), .second, .val (.long (1152921504606846975 : Int64)), .second, .val (.long l0), .second, .val (.long l1), .second, .val (.long l2), .second, .val (.long l3), .second, .val (.int (2 : Int32)), .val (.int mode), .val (.long q5), .second, .val (.ref b40), .val (.ref b46), .unset] [(.int (2 : Int32))])) t
        refine XS.iconst X54.here hx rfl (hb hby at_196) ?_
        show Steps p.tables e below (T54.setTop (mkF m 197 #[.val (.int p0), .val (.long q1), .second, .val (.long q2), .second, .val (.long q3), .second, .val (.long q4), .second, .val (.long q5), .second, .val (.long (1152921504606846975 : Int64)), .second, .val (.long l0), .second, .val (.long l1), .second, .val (.long l2), .second, .val (.long l3), .second, .val (.int (2 : Int32)), .val (.int mode), .val (.long q5), .second, .val (.ref b40), .val (.ref b46), .unset] [(.int (1 : Int32)), (.int (2 : Int32))])) t
        refine XS.icmpNo X54.here hx rfl (hb hby at_197) rfl (by decide) ?_
        show Steps p.tables e below (T54.setTop (mkF m 200 #[.val (.int p0), .val (.long q1), .second, .val (.long q2), .second, .val (.long q3), .second, .val (.long q4), .second, .val (.long q5), .second, .val (.long (1152921504606846975 : Int64)), .second, .val (.long l0), .second, .val (.long l1), .second, .val (.long l2), .second, .val (.long l3), .second, .val (.int (2 : Int32)), .val (.int mode), .val (.long q5), .second, .val (.ref b40), .val (.ref b46), .unset] [])) t
        refine XS.aload X54.here hx rfl (hb hby at_200) rfl rfl ?_
        show Steps p.tables e below (T54.setTop (mkF m 202 #[.val (.int p0), .val (.long q1), .second, .val (.long q2), .second, .val (.long q3), .second, .val (.long q4), .second, .val (.long q5), .second, .val (.long (1152921504606846975 : Int64)), .second, .val (.long l0), .second, .val (.long l1), .second, .val (.long l2), .second, .val (.long l3), .second, .val (.int (2 : Int32)), .val (.int mode), .val (.long q5), .second, .val (.ref b40), .val (.ref b46), .unset] [(.ref b46)])) t
        refine XS.lload X54.here hx rfl (hb hby at_202) rfl ?_
        show Steps p.tables e below (T54.setTop (mkF m 204 #[.val (.int p0), .val (.long q1), .second, .val (.long q2), .second, .val (.long q3), .second, .val (.long q4), .second, .val (.long q5), .second, .val (.long (1152921504606846975 : Int64)), .second, .val (.long l0), .second, .val (.long l1), .second, .val (.long l2), .second, .val (.long l3), .second, .val (.int (2 : Int32)), .val (.int mode), .val (.long q5), .second, .val (.ref b40), .val (.ref b46), .unset] [(.long l1), (.ref b46)])) t
        exact kt
      refine own_callV X54 hx hZ hown rfl (hw _ (List.mem_of_getElem? (i := 83) rfl)) (hw _ (List.mem_of_getElem? (i := 84) rfl)) (notFace_of_selects (args := #[]) (mvT hZ (hw _ (List.mem_of_getElem? (i := 86) rfl)))) (hw _ (List.mem_of_getElem? (i := 86) rfl)) (hw _ (List.mem_of_getElem? (i := 85) rfl)) (hw _ (List.mem_of_getElem? (i := 44) rfl)) (hw _ (List.mem_of_getElem? (i := 87) rfl)) (by decide) (rm8 l Z aw hw b46 l1 r47 4 f1 ((0 : Int32) + (1 : Int32)) 1 (.int ((own_z (¬ ((p0 &&& (256 : Int32)) = (0 : Int32)))) &&& (1 : Int32))) (.long (0 : Int64)) T54.heap n0 ZKq54 Pq54_0 g_b46 g_r47 (ne_b46_r47) (ne_r47_b46) Pq54_1 Pq54_2 Pq54_3 Pq54_4 Pq54_5 (by decide) (by decide)) Pq54_0 (g := (mkF m 204 #[.val (.int p0), .val (.long q1), .second, .val (.long q2), .second, .val (.long q3), .second, .val (.long q4), .second, .val (.long q5), .second, .val (.long (1152921504606846975 : Int64)), .second, .val (.long l0), .second, .val (.long l1), .second, .val (.long l2), .second, .val (.long l3), .second, .val (.int (2 : Int32)), .val (.int mode), .val (.long q5), .second, .val (.ref b40), .val (.ref b46), .unset] [(.long l1), (.ref b46)])) rfl (by rw [hml]; rfl) (argsL := [(.long l1)]) (rest := []) (lenOf pd_6 rfl) rfl rfl (W := 0) (by show 2 * 0 + _ ≤ _; exact Nat.le_of_eq rfl) (hb hby at_204) (by decide) (by decide) (by decide) (by decide) ?_
      rintro _ T55 L55 X55 ⟨rfl, Nq55, Kq55, Pq55_0, Pq55_1, Pq55_2, Pq55_3, Pq55_4, Pq55_5⟩
      have N55 := Fr.app N54 Nq55
      replace Pq45_0 := (Pq45_0.keep Kq55)
      replace F_r45 := (F_r45.keep Kq55 (ninS (ne_b40_b46) (ninS (ne_b40_r47) nin0)))
      replace Ar_r45 := (Ar_r45.keep Kq55 (ninS (ne_r45_b46) (ninS (ne_r45_r47) nin0)))
      replace Pq54_0 := (Pq54_0.keep Kq55)
      have ZKq55 : n0 ≤ T55.heap.size := Nat.le_trans ZKq54 Kq55.1
      have KKKq55 := KKKq54.trans Kq55 ((allS (Or.inr sz_b46) (allS (Or.inr sz_r47) all0)))
      have kzKq55 := Nat.le_trans kzKq54 Kq55.1
      obtain ⟨f2, hf2⟩ : ∃ z, z = (own_set f1 1 l1) := ⟨_, rfl⟩
      rw [← hf2] at Pq55_5
      refine own_go (T' := T55) (f' := (mkF m 246 #[.val (.int p0), .val (.long q1), .second, .val (.long q2), .second, .val (.long q3), .second, .val (.long q4), .second, .val (.long q5), .second, .val (.long (1152921504606846975 : Int64)), .second, .val (.long l0), .second, .val (.long l1), .second, .val (.long l2), .second, .val (.long l3), .second, .val (.int (2 : Int32)), .val (.int mode), .val (.long q5), .second, .val (.ref b40), .val (.ref b46), .val (.int (-1 : Int32))] [(.int (lcmpW l0 q5))])) (fun t kt => ?_) ?_
      · show Steps p.tables e below (T55.setTop (mkF m 207 #[.val (.int p0), .val (.long q1), .second, .val (.long q2), .second, .val (.long q3), .second, .val (.long q4), .second, .val (.long q5), .second, .val (.long (1152921504606846975 : Int64)), .second, .val (.long l0), .second, .val (.long l1), .second, .val (.long l2), .second, .val (.long l3), .second, .val (.int (2 : Int32)), .val (.int mode), .val (.long q5), .second, .val (.ref b40), .val (.ref b46), .unset] [])) t
        refine XS.iload X55.here hx rfl (hb hby at_207) rfl ?_
        show Steps p.tables e below (T55.setTop (mkF m 209 #[.val (.int p0), .val (.long q1), .second, .val (.long q2), .second, .val (.long q3), .second, .val (.long q4), .second, .val (.long q5), .second, .val (.long (1152921504606846975 : Int64)), .second, .val (.long l0), .second, .val (.long l1), .second, .val (.long l2), .second, .val (.long l3), .second, .val (.int (2 : Int32)), .val (.int mode), .val (.long q5), .second, .val (.ref b40), .val (.ref b46), .unset] [(.int (2 : Int32))])) t
        refine XS.iconst X55.here hx rfl (hb hby at_209) ?_
        show Steps p.tables e below (T55.setTop (mkF m 210 #[.val (.int p0), .val (.long q1), .second, .val (.long q2), .second, .val (.long q3), .second, .val (.long q4), .second, .val (.long q5), .second, .val (.long (1152921504606846975 : Int64)), .second, .val (.long l0), .second, .val (.long l1), .second, .val (.long l2), .second, .val (.long l3), .second, .val (.int (2 : Int32)), .val (.int mode), .val (.long q5), .second, .val (.ref b40), .val (.ref b46), .unset] [(.int (2 : Int32)), (.int (2 : Int32))])) t
        refine XS.icmpYes X55.here hx rfl (pc0 := 210) (pc' := 220) rfl (hb hby at_210) rfl (by decide) (by decide) (by decide) ?_
        show Steps p.tables e below (T55.setTop (mkF m 220 #[.val (.int p0), .val (.long q1), .second, .val (.long q2), .second, .val (.long q3), .second, .val (.long q4), .second, .val (.long q5), .second, .val (.long (1152921504606846975 : Int64)), .second, .val (.long l0), .second, .val (.long l1), .second, .val (.long l2), .second, .val (.long l3), .second, .val (.int (2 : Int32)), .val (.int mode), .val (.long q5), .second, .val (.ref b40), .val (.ref b46), .unset] [])) t
        refine XS.iload X55.here hx rfl (hb hby at_220) rfl ?_
        show Steps p.tables e below (T55.setTop (mkF m 222 #[.val (.int p0), .val (.long q1), .second, .val (.long q2), .second, .val (.long q3), .second, .val (.long q4), .second, .val (.long q5), .second, .val (.long (1152921504606846975 : Int64)), .second, .val (.long l0), .second, .val (.long l1), .second, .val (.long l2), .second, .val (.long l3), .second, .val (.int (2 : Int32)), .val (.int mode), .val (.long q5), .second, .val (.ref b40), .val (.ref b46), .unset] [(.int (2 : Int32))])) t
        refine XS.iconst X55.here hx rfl (hb hby at_222) ?_
        show Steps p.tables e below (T55.setTop (mkF m 223 #[.val (.int p0), .val (.long q1), .second, .val (.long q2), .second, .val (.long q3), .second, .val (.long q4), .second, .val (.long q5), .second, .val (.long (1152921504606846975 : Int64)), .second, .val (.long l0), .second, .val (.long l1), .second, .val (.long l2), .second, .val (.long l3), .second, .val (.int (2 : Int32)), .val (.int mode), .val (.long q5), .second, .val (.ref b40), .val (.ref b46), .unset] [(.int (3 : Int32)), (.int (2 : Int32))])) t
        refine XS.icmpYes X55.here hx rfl (pc0 := 223) (pc' := 233) rfl (hb hby at_223) rfl (by decide) (by decide) (by decide) ?_
        show Steps p.tables e below (T55.setTop (mkF m 233 #[.val (.int p0), .val (.long q1), .second, .val (.long q2), .second, .val (.long q3), .second, .val (.long q4), .second, .val (.long q5), .second, .val (.long (1152921504606846975 : Int64)), .second, .val (.long l0), .second, .val (.long l1), .second, .val (.long l2), .second, .val (.long l3), .second, .val (.int (2 : Int32)), .val (.int mode), .val (.long q5), .second, .val (.ref b40), .val (.ref b46), .unset] [])) t
        refine XS.iconst X55.here hx rfl (hb hby at_233) ?_
        show Steps p.tables e below (T55.setTop (mkF m 234 #[.val (.int p0), .val (.long q1), .second, .val (.long q2), .second, .val (.long q3), .second, .val (.long q4), .second, .val (.long q5), .second, .val (.long (1152921504606846975 : Int64)), .second, .val (.long l0), .second, .val (.long l1), .second, .val (.long l2), .second, .val (.long l3), .second, .val (.int (2 : Int32)), .val (.int mode), .val (.long q5), .second, .val (.ref b40), .val (.ref b46), .unset] [(.int (-1 : Int32))])) t
        refine XS.istore X55.here hx rfl (hb hby at_234) rfl (l' := #[.val (.int p0), .val (.long q1), .second, .val (.long q2), .second, .val (.long q3), .second, .val (.long q4), .second, .val (.long q5), .second, .val (.long (1152921504606846975 : Int64)), .second, .val (.long l0), .second, .val (.long l1), .second, .val (.long l2), .second, .val (.long l3), .second, .val (.int (2 : Int32)), .val (.int mode), .val (.long q5), .second, .val (.ref b40), .val (.ref b46), .val (.int (-1 : Int32))]) rfl ?_
        show Steps p.tables e below (T55.setTop (mkF m 236 #[.val (.int p0), .val (.long q1), .second, .val (.long q2), .second, .val (.long q3), .second, .val (.long q4), .second, .val (.long q5), .second, .val (.long (1152921504606846975 : Int64)), .second, .val (.long l0), .second, .val (.long l1), .second, .val (.long l2), .second, .val (.long l3), .second, .val (.int (2 : Int32)), .val (.int mode), .val (.long q5), .second, .val (.ref b40), .val (.ref b46), .val (.int (-1 : Int32))] [])) t
        refine XS.iload X55.here hx rfl (hb hby at_236) rfl ?_
        show Steps p.tables e below (T55.setTop (mkF m 238 #[.val (.int p0), .val (.long q1), .second, .val (.long q2), .second, .val (.long q3), .second, .val (.long q4), .second, .val (.long q5), .second, .val (.long (1152921504606846975 : Int64)), .second, .val (.long l0), .second, .val (.long l1), .second, .val (.long l2), .second, .val (.long l3), .second, .val (.int (2 : Int32)), .val (.int mode), .val (.long q5), .second, .val (.ref b40), .val (.ref b46), .val (.int (-1 : Int32))] [(.int (2 : Int32))])) t
        refine XS.ifNo X55.here hx rfl (hb hby at_238) rfl (by decide) ?_
        show Steps p.tables e below (T55.setTop (mkF m 241 #[.val (.int p0), .val (.long q1), .second, .val (.long q2), .second, .val (.long q3), .second, .val (.long q4), .second, .val (.long q5), .second, .val (.long (1152921504606846975 : Int64)), .second, .val (.long l0), .second, .val (.long l1), .second, .val (.long l2), .second, .val (.long l3), .second, .val (.int (2 : Int32)), .val (.int mode), .val (.long q5), .second, .val (.ref b40), .val (.ref b46), .val (.int (-1 : Int32))] [])) t
        refine XS.lload X55.here hx rfl (hb hby at_241) rfl ?_
        show Steps p.tables e below (T55.setTop (mkF m 243 #[.val (.int p0), .val (.long q1), .second, .val (.long q2), .second, .val (.long q3), .second, .val (.long q4), .second, .val (.long q5), .second, .val (.long (1152921504606846975 : Int64)), .second, .val (.long l0), .second, .val (.long l1), .second, .val (.long l2), .second, .val (.long l3), .second, .val (.int (2 : Int32)), .val (.int mode), .val (.long q5), .second, .val (.ref b40), .val (.ref b46), .val (.int (-1 : Int32))] [(.long l0)])) t
        refine XS.lload X55.here hx rfl (hb hby at_243) rfl ?_
        show Steps p.tables e below (T55.setTop (mkF m 245 #[.val (.int p0), .val (.long q1), .second, .val (.long q2), .second, .val (.long q3), .second, .val (.long q4), .second, .val (.long q5), .second, .val (.long (1152921504606846975 : Int64)), .second, .val (.long l0), .second, .val (.long l1), .second, .val (.long l2), .second, .val (.long l3), .second, .val (.int (2 : Int32)), .val (.int mode), .val (.long q5), .second, .val (.ref b40), .val (.ref b46), .val (.int (-1 : Int32))] [(.long q5), (.long l0)])) t
        refine XS.lcmp X55.here hx rfl (hb hby at_245) rfl ?_
        show Steps p.tables e below (T55.setTop (mkF m 246 #[.val (.int p0), .val (.long q1), .second, .val (.long q2), .second, .val (.long q3), .second, .val (.long q4), .second, .val (.long q5), .second, .val (.long (1152921504606846975 : Int64)), .second, .val (.long l0), .second, .val (.long l1), .second, .val (.long l2), .second, .val (.long l3), .second, .val (.int (2 : Int32)), .val (.int mode), .val (.long q5), .second, .val (.ref b40), .val (.ref b46), .val (.int (-1 : Int32))] [(.int (lcmpW l0 q5))])) t
        exact kt
      refine own_go (T' := T55) (f' := (mkF m 252 #[.val (.int p0), .val (.long q1), .second, .val (.long q2), .second, .val (.long q3), .second, .val (.long q4), .second, .val (.long q5), .second, .val (.long (1152921504606846975 : Int64)), .second, .val (.long l0), .second, .val (.long l1), .second, .val (.long l2), .second, .val (.long l3), .second, .val (.int (2 : Int32)), .val (.int mode), .val (.long q5), .second, .val (.ref b40), .val (.ref b46), .val (.int (if q5 < l0 then (-1 : Int32) else (0 : Int32)))] [])) (fun t kt => ?_) ?_
      · by_cases hc246_56 : q5 < l0
        · show Steps p.tables e below (T55.setTop (mkF m 246 #[.val (.int p0), .val (.long q1), .second, .val (.long q2), .second, .val (.long q3), .second, .val (.long q4), .second, .val (.long q5), .second, .val (.long (1152921504606846975 : Int64)), .second, .val (.long l0), .second, .val (.long l1), .second, .val (.long l2), .second, .val (.long l3), .second, .val (.int (2 : Int32)), .val (.int mode), .val (.long q5), .second, .val (.ref b40), .val (.ref b46), .val (.int (-1 : Int32))] [(.int (lcmpW l0 q5))])) t
          refine XS.ifYes X55.here hx rfl (pc0 := 246) (pc' := 252) rfl (hb hby at_246) rfl (own_lY_gt hc246_56) (by decide) (by decide) ?_
          show Steps p.tables e below (T55.setTop (mkF m 252 #[.val (.int p0), .val (.long q1), .second, .val (.long q2), .second, .val (.long q3), .second, .val (.long q4), .second, .val (.long q5), .second, .val (.long (1152921504606846975 : Int64)), .second, .val (.long l0), .second, .val (.long l1), .second, .val (.long l2), .second, .val (.long l3), .second, .val (.int (2 : Int32)), .val (.int mode), .val (.long q5), .second, .val (.ref b40), .val (.ref b46), .val (.int (-1 : Int32))] [])) t
          rw [if_pos hc246_56] at kt
          exact kt
        · show Steps p.tables e below (T55.setTop (mkF m 246 #[.val (.int p0), .val (.long q1), .second, .val (.long q2), .second, .val (.long q3), .second, .val (.long q4), .second, .val (.long q5), .second, .val (.long (1152921504606846975 : Int64)), .second, .val (.long l0), .second, .val (.long l1), .second, .val (.long l2), .second, .val (.long l3), .second, .val (.int (2 : Int32)), .val (.int mode), .val (.long q5), .second, .val (.ref b40), .val (.ref b46), .val (.int (-1 : Int32))] [(.int (lcmpW l0 q5))])) t
          refine XS.ifNo X55.here hx rfl (hb hby at_246) rfl (own_lN_gt hc246_56) ?_
          show Steps p.tables e below (T55.setTop (mkF m 249 #[.val (.int p0), .val (.long q1), .second, .val (.long q2), .second, .val (.long q3), .second, .val (.long q4), .second, .val (.long q5), .second, .val (.long (1152921504606846975 : Int64)), .second, .val (.long l0), .second, .val (.long l1), .second, .val (.long l2), .second, .val (.long l3), .second, .val (.int (2 : Int32)), .val (.int mode), .val (.long q5), .second, .val (.ref b40), .val (.ref b46), .val (.int (-1 : Int32))] [])) t
          refine XS.iconst X55.here hx rfl (hb hby at_249) ?_
          show Steps p.tables e below (T55.setTop (mkF m 250 #[.val (.int p0), .val (.long q1), .second, .val (.long q2), .second, .val (.long q3), .second, .val (.long q4), .second, .val (.long q5), .second, .val (.long (1152921504606846975 : Int64)), .second, .val (.long l0), .second, .val (.long l1), .second, .val (.long l2), .second, .val (.long l3), .second, .val (.int (2 : Int32)), .val (.int mode), .val (.long q5), .second, .val (.ref b40), .val (.ref b46), .val (.int (-1 : Int32))] [(.int (0 : Int32))])) t
          refine XS.istore X55.here hx rfl (hb hby at_250) rfl (l' := #[.val (.int p0), .val (.long q1), .second, .val (.long q2), .second, .val (.long q3), .second, .val (.long q4), .second, .val (.long q5), .second, .val (.long (1152921504606846975 : Int64)), .second, .val (.long l0), .second, .val (.long l1), .second, .val (.long l2), .second, .val (.long l3), .second, .val (.int (2 : Int32)), .val (.int mode), .val (.long q5), .second, .val (.ref b40), .val (.ref b46), .val (.int (0 : Int32))]) rfl ?_
          show Steps p.tables e below (T55.setTop (mkF m 252 #[.val (.int p0), .val (.long q1), .second, .val (.long q2), .second, .val (.long q3), .second, .val (.long q4), .second, .val (.long q5), .second, .val (.long (1152921504606846975 : Int64)), .second, .val (.long l0), .second, .val (.long l1), .second, .val (.long l2), .second, .val (.long l3), .second, .val (.int (2 : Int32)), .val (.int mode), .val (.long q5), .second, .val (.ref b40), .val (.ref b46), .val (.int (0 : Int32))] [])) t
          rw [if_neg hc246_56] at kt
          exact kt
      refine own_go (T' := T55) (f' := (mkF m 263 #[.val (.int p0), .val (.long q1), .second, .val (.long q2), .second, .val (.long q3), .second, .val (.long q4), .second, .val (.long q5), .second, .val (.long (1152921504606846975 : Int64)), .second, .val (.long l0), .second, .val (.long l1), .second, .val (.long l2), .second, .val (.long l3), .second, .val (.int (2 : Int32)), .val (.int mode), .val (.long q5), .second, .val (.ref b40), .val (.ref b46), .val (.int (if q5 < l0 then (-1 : Int32) else (0 : Int32)))] [(.int (lcmpW l1 q5))])) (fun t kt => ?_) ?_
      · show Steps p.tables e below (T55.setTop (mkF m 252 #[.val (.int p0), .val (.long q1), .second, .val (.long q2), .second, .val (.long q3), .second, .val (.long q4), .second, .val (.long q5), .second, .val (.long (1152921504606846975 : Int64)), .second, .val (.long l0), .second, .val (.long l1), .second, .val (.long l2), .second, .val (.long l3), .second, .val (.int (2 : Int32)), .val (.int mode), .val (.long q5), .second, .val (.ref b40), .val (.ref b46), .val (.int (if q5 < l0 then (-1 : Int32) else (0 : Int32)))] [])) t
        refine XS.iload X55.here hx rfl (hb hby at_252) rfl ?_
        show Steps p.tables e below (T55.setTop (mkF m 254 #[.val (.int p0), .val (.long q1), .second, .val (.long q2), .second, .val (.long q3), .second, .val (.long q4), .second, .val (.long q5), .second, .val (.long (1152921504606846975 : Int64)), .second, .val (.long l0), .second, .val (.long l1), .second, .val (.long l2), .second, .val (.long l3), .second, .val (.int (2 : Int32)), .val (.int mode), .val (.long q5), .second, .val (.ref b40), .val (.ref b46), .val (.int (if q5 < l0 then (-1 : Int32) else (0 : Int32)))] [(.int (2 : Int32))])) t
        refine XS.iconst X55.here hx rfl (hb hby at_254) ?_
        show Steps p.tables e below (T55.setTop (mkF m 255 #[.val (.int p0), .val (.long q1), .second, .val (.long q2), .second, .val (.long q3), .second, .val (.long q4), .second, .val (.long q5), .second, .val (.long (1152921504606846975 : Int64)), .second, .val (.long l0), .second, .val (.long l1), .second, .val (.long l2), .second, .val (.long l3), .second, .val (.int (2 : Int32)), .val (.int mode), .val (.long q5), .second, .val (.ref b40), .val (.ref b46), .val (.int (if q5 < l0 then (-1 : Int32) else (0 : Int32)))] [(.int (1 : Int32)), (.int (2 : Int32))])) t
        refine XS.icmpNo X55.here hx rfl (hb hby at_255) rfl (by decide) ?_
        show Steps p.tables e below (T55.setTop (mkF m 258 #[.val (.int p0), .val (.long q1), .second, .val (.long q2), .second, .val (.long q3), .second, .val (.long q4), .second, .val (.long q5), .second, .val (.long (1152921504606846975 : Int64)), .second, .val (.long l0), .second, .val (.long l1), .second, .val (.long l2), .second, .val (.long l3), .second, .val (.int (2 : Int32)), .val (.int mode), .val (.long q5), .second, .val (.ref b40), .val (.ref b46), .val (.int (if q5 < l0 then (-1 : Int32) else (0 : Int32)))] [])) t
        refine XS.lload X55.here hx rfl (hb hby at_258) rfl ?_
        show Steps p.tables e below (T55.setTop (mkF m 260 #[.val (.int p0), .val (.long q1), .second, .val (.long q2), .second, .val (.long q3), .second, .val (.long q4), .second, .val (.long q5), .second, .val (.long (1152921504606846975 : Int64)), .second, .val (.long l0), .second, .val (.long l1), .second, .val (.long l2), .second, .val (.long l3), .second, .val (.int (2 : Int32)), .val (.int mode), .val (.long q5), .second, .val (.ref b40), .val (.ref b46), .val (.int (if q5 < l0 then (-1 : Int32) else (0 : Int32)))] [(.long l1)])) t
        refine XS.lload X55.here hx rfl (hb hby at_260) rfl ?_
        show Steps p.tables e below (T55.setTop (mkF m 262 #[.val (.int p0), .val (.long q1), .second, .val (.long q2), .second, .val (.long q3), .second, .val (.long q4), .second, .val (.long q5), .second, .val (.long (1152921504606846975 : Int64)), .second, .val (.long l0), .second, .val (.long l1), .second, .val (.long l2), .second, .val (.long l3), .second, .val (.int (2 : Int32)), .val (.int mode), .val (.long q5), .second, .val (.ref b40), .val (.ref b46), .val (.int (if q5 < l0 then (-1 : Int32) else (0 : Int32)))] [(.long q5), (.long l1)])) t
        refine XS.lcmp X55.here hx rfl (hb hby at_262) rfl ?_
        show Steps p.tables e below (T55.setTop (mkF m 263 #[.val (.int p0), .val (.long q1), .second, .val (.long q2), .second, .val (.long q3), .second, .val (.long q4), .second, .val (.long q5), .second, .val (.long (1152921504606846975 : Int64)), .second, .val (.long l0), .second, .val (.long l1), .second, .val (.long l2), .second, .val (.long l3), .second, .val (.int (2 : Int32)), .val (.int mode), .val (.long q5), .second, .val (.ref b40), .val (.ref b46), .val (.int (if q5 < l0 then (-1 : Int32) else (0 : Int32)))] [(.int (lcmpW l1 q5))])) t
        exact kt
      refine own_go (T' := T55) (f' := (mkF m 269 #[.val (.int p0), .val (.long q1), .second, .val (.long q2), .second, .val (.long q3), .second, .val (.long q4), .second, .val (.long q5), .second, .val (.long (1152921504606846975 : Int64)), .second, .val (.long l0), .second, .val (.long l1), .second, .val (.long l2), .second, .val (.long l3), .second, .val (.int (2 : Int32)), .val (.int mode), .val (.long q5), .second, .val (.ref b40), .val (.ref b46), .val (.int (if q5 < l1 then (if q5 < l0 then (-1 : Int32) else (0 : Int32)) else (1 : Int32)))] [])) (fun t kt => ?_) ?_
      · by_cases hc263_57 : q5 < l1
        · show Steps p.tables e below (T55.setTop (mkF m 263 #[.val (.int p0), .val (.long q1), .second, .val (.long q2), .second, .val (.long q3), .second, .val (.long q4), .second, .val (.long q5), .second, .val (.long (1152921504606846975 : Int64)), .second, .val (.long l0), .second, .val (.long l1), .second, .val (.long l2), .second, .val (.long l3), .second, .val (.int (2 : Int32)), .val (.int mode), .val (.long q5), .second, .val (.ref b40), .val (.ref b46), .val (.int (if q5 < l0 then (-1 : Int32) else (0 : Int32)))] [(.int (lcmpW l1 q5))])) t
          refine XS.ifYes X55.here hx rfl (pc0 := 263) (pc' := 269) rfl (hb hby at_263) rfl (own_lY_gt hc263_57) (by decide) (by decide) ?_
          show Steps p.tables e below (T55.setTop (mkF m 269 #[.val (.int p0), .val (.long q1), .second, .val (.long q2), .second, .val (.long q3), .second, .val (.long q4), .second, .val (.long q5), .second, .val (.long (1152921504606846975 : Int64)), .second, .val (.long l0), .second, .val (.long l1), .second, .val (.long l2), .second, .val (.long l3), .second, .val (.int (2 : Int32)), .val (.int mode), .val (.long q5), .second, .val (.ref b40), .val (.ref b46), .val (.int (if q5 < l0 then (-1 : Int32) else (0 : Int32)))] [])) t
          rw [if_pos hc263_57] at kt
          exact kt
        · show Steps p.tables e below (T55.setTop (mkF m 263 #[.val (.int p0), .val (.long q1), .second, .val (.long q2), .second, .val (.long q3), .second, .val (.long q4), .second, .val (.long q5), .second, .val (.long (1152921504606846975 : Int64)), .second, .val (.long l0), .second, .val (.long l1), .second, .val (.long l2), .second, .val (.long l3), .second, .val (.int (2 : Int32)), .val (.int mode), .val (.long q5), .second, .val (.ref b40), .val (.ref b46), .val (.int (if q5 < l0 then (-1 : Int32) else (0 : Int32)))] [(.int (lcmpW l1 q5))])) t
          refine XS.ifNo X55.here hx rfl (hb hby at_263) rfl (own_lN_gt hc263_57) ?_
          show Steps p.tables e below (T55.setTop (mkF m 266 #[.val (.int p0), .val (.long q1), .second, .val (.long q2), .second, .val (.long q3), .second, .val (.long q4), .second, .val (.long q5), .second, .val (.long (1152921504606846975 : Int64)), .second, .val (.long l0), .second, .val (.long l1), .second, .val (.long l2), .second, .val (.long l3), .second, .val (.int (2 : Int32)), .val (.int mode), .val (.long q5), .second, .val (.ref b40), .val (.ref b46), .val (.int (if q5 < l0 then (-1 : Int32) else (0 : Int32)))] [])) t
          refine XS.iconst X55.here hx rfl (hb hby at_266) ?_
          show Steps p.tables e below (T55.setTop (mkF m 267 #[.val (.int p0), .val (.long q1), .second, .val (.long q2), .second, .val (.long q3), .second, .val (.long q4), .second, .val (.long q5), .second, .val (.long (1152921504606846975 : Int64)), .second, .val (.long l0), .second, .val (.long l1), .second, .val (.long l2), .second, .val (.long l3), .second, .val (.int (2 : Int32)), .val (.int mode), .val (.long q5), .second, .val (.ref b40), .val (.ref b46), .val (.int (if q5 < l0 then (-1 : Int32) else (0 : Int32)))] [(.int (1 : Int32))])) t
          refine XS.istore X55.here hx rfl (hb hby at_267) rfl (l' := #[.val (.int p0), .val (.long q1), .second, .val (.long q2), .second, .val (.long q3), .second, .val (.long q4), .second, .val (.long q5), .second, .val (.long (1152921504606846975 : Int64)), .second, .val (.long l0), .second, .val (.long l1), .second, .val (.long l2), .second, .val (.long l3), .second, .val (.int (2 : Int32)), .val (.int mode), .val (.long q5), .second, .val (.ref b40), .val (.ref b46), .val (.int (1 : Int32))]) rfl ?_
          show Steps p.tables e below (T55.setTop (mkF m 269 #[.val (.int p0), .val (.long q1), .second, .val (.long q2), .second, .val (.long q3), .second, .val (.long q4), .second, .val (.long q5), .second, .val (.long (1152921504606846975 : Int64)), .second, .val (.long l0), .second, .val (.long l1), .second, .val (.long l2), .second, .val (.long l3), .second, .val (.int (2 : Int32)), .val (.int mode), .val (.long q5), .second, .val (.ref b40), .val (.ref b46), .val (.int (1 : Int32))] [])) t
          rw [if_neg hc263_57] at kt
          exact kt
      refine own_go (T' := T55) (f' := (mkF m 307 #[.val (.int p0), .val (.long q1), .second, .val (.long q2), .second, .val (.long q3), .second, .val (.long q4), .second, .val (.long q5), .second, .val (.long (1152921504606846975 : Int64)), .second, .val (.long l0), .second, .val (.long l1), .second, .val (.long l2), .second, .val (.long l3), .second, .val (.int (2 : Int32)), .val (.int mode), .val (.long q5), .second, .val (.ref b40), .val (.ref b46), .val (.int (if q5 < l1 then (if q5 < l0 then (-1 : Int32) else (0 : Int32)) else (1 : Int32)))] [(.long q5), (.ref b46)])) (fun t kt => ?_) ?_
      · show Steps p.tables e below (T55.setTop (mkF m 269 #[.val (.int p0), .val (.long q1), .second, .val (.long q2), .second, .val (.long q3), .second, .val (.long q4), .second, .val (.long q5), .second, .val (.long (1152921504606846975 : Int64)), .second, .val (.long l0), .second, .val (.long l1), .second, .val (.long l2), .second, .val (.long l3), .second, .val (.int (2 : Int32)), .val (.int mode), .val (.long q5), .second, .val (.ref b40), .val (.ref b46), .val (.int (if q5 < l1 then (if q5 < l0 then (-1 : Int32) else (0 : Int32)) else (1 : Int32)))] [])) t
        refine XS.iload X55.here hx rfl (hb hby at_269) rfl ?_
        show Steps p.tables e below (T55.setTop (mkF m 271 #[.val (.int p0), .val (.long q1), .second, .val (.long q2), .second, .val (.long q3), .second, .val (.long q4), .second, .val (.long q5), .second, .val (.long (1152921504606846975 : Int64)), .second, .val (.long l0), .second, .val (.long l1), .second, .val (.long l2), .second, .val (.long l3), .second, .val (.int (2 : Int32)), .val (.int mode), .val (.long q5), .second, .val (.ref b40), .val (.ref b46), .val (.int (if q5 < l1 then (if q5 < l0 then (-1 : Int32) else (0 : Int32)) else (1 : Int32)))] [(.int (2 : Int32))])) t
        refine XS.iconst X55.here hx rfl (hb hby at_271) ?_
        show Steps p.tables e below (T55.setTop (mkF m 272 #[.val (.int p0), .val (.long q1), .second, .val (.long q2), .second, .val (.long q3), .second, .val (.long q4), .second, .val (.long q5), .second, .val (.long (1152921504606846975 : Int64)), .second, .val (.long l0), .second, .val (.long l1), .second, .val (.long l2), .second, .val (.long l3), .second, .val (.int (2 : Int32)), .val (.int mode), .val (.long q5), .second, .val (.ref b40), .val (.ref b46), .val (.int (if q5 < l1 then (if q5 < l0 then (-1 : Int32) else (0 : Int32)) else (1 : Int32)))] [(.int (2 : Int32)), (.int (2 : Int32))])) t
        refine XS.icmpYes X55.here hx rfl (pc0 := 272) (pc' := 286) rfl (hb hby at_272) rfl (by decide) (by decide) (by decide) ?_
        show Steps p.tables e below (T55.setTop (mkF m 286 #[.val (.int p0), .val (.long q1), .second, .val (.long q2), .second, .val (.long q3), .second, .val (.long q4), .second, .val (.long q5), .second, .val (.long (1152921504606846975 : Int64)), .second, .val (.long l0), .second, .val (.long l1), .second, .val (.long l2), .second, .val (.long l3), .second, .val (.int (2 : Int32)), .val (.int mode), .val (.long q5), .second, .val (.ref b40), .val (.ref b46), .val (.int (if q5 < l1 then (if q5 < l0 then (-1 : Int32) else (0 : Int32)) else (1 : Int32)))] [])) t
        refine XS.iload X55.here hx rfl (hb hby at_286) rfl ?_
        show Steps p.tables e below (T55.setTop (mkF m 288 #[.val (.int p0), .val (.long q1), .second, .val (.long q2), .second, .val (.long q3), .second, .val (.long q4), .second, .val (.long q5), .second, .val (.long (1152921504606846975 : Int64)), .second, .val (.long l0), .second, .val (.long l1), .second, .val (.long l2), .second, .val (.long l3), .second, .val (.int (2 : Int32)), .val (.int mode), .val (.long q5), .second, .val (.ref b40), .val (.ref b46), .val (.int (if q5 < l1 then (if q5 < l0 then (-1 : Int32) else (0 : Int32)) else (1 : Int32)))] [(.int (2 : Int32))])) t
        refine XS.iconst X55.here hx rfl (hb hby at_288) ?_
        show Steps p.tables e below (T55.setTop (mkF m 289 #[.val (.int p0), .val (.long q1), .second, .val (.long q2), .second, .val (.long q3), .second, .val (.long q4), .second, .val (.long q5), .second, .val (.long (1152921504606846975 : Int64)), .second, .val (.long l0), .second, .val (.long l1), .second, .val (.long l2), .second, .val (.long l3), .second, .val (.int (2 : Int32)), .val (.int mode), .val (.long q5), .second, .val (.ref b40), .val (.ref b46), .val (.int (if q5 < l1 then (if q5 < l0 then (-1 : Int32) else (0 : Int32)) else (1 : Int32)))] [(.int (3 : Int32)), (.int (2 : Int32))])) t
        refine XS.icmpYes X55.here hx rfl (pc0 := 289) (pc' := 303) rfl (hb hby at_289) rfl (by decide) (by decide) (by decide) ?_
        show Steps p.tables e below (T55.setTop (mkF m 303 #[.val (.int p0), .val (.long q1), .second, .val (.long q2), .second, .val (.long q3), .second, .val (.long q4), .second, .val (.long q5), .second, .val (.long (1152921504606846975 : Int64)), .second, .val (.long l0), .second, .val (.long l1), .second, .val (.long l2), .second, .val (.long l3), .second, .val (.int (2 : Int32)), .val (.int mode), .val (.long q5), .second, .val (.ref b40), .val (.ref b46), .val (.int (if q5 < l1 then (if q5 < l0 then (-1 : Int32) else (0 : Int32)) else (1 : Int32)))] [])) t
        refine XS.aload X55.here hx rfl (hb hby at_303) rfl rfl ?_
        show Steps p.tables e below (T55.setTop (mkF m 305 #[.val (.int p0), .val (.long q1), .second, .val (.long q2), .second, .val (.long q3), .second, .val (.long q4), .second, .val (.long q5), .second, .val (.long (1152921504606846975 : Int64)), .second, .val (.long l0), .second, .val (.long l1), .second, .val (.long l2), .second, .val (.long l3), .second, .val (.int (2 : Int32)), .val (.int mode), .val (.long q5), .second, .val (.ref b40), .val (.ref b46), .val (.int (if q5 < l1 then (if q5 < l0 then (-1 : Int32) else (0 : Int32)) else (1 : Int32)))] [(.ref b46)])) t
        refine XS.lload X55.here hx rfl (hb hby at_305) rfl ?_
        show Steps p.tables e below (T55.setTop (mkF m 307 #[.val (.int p0), .val (.long q1), .second, .val (.long q2), .second, .val (.long q3), .second, .val (.long q4), .second, .val (.long q5), .second, .val (.long (1152921504606846975 : Int64)), .second, .val (.long l0), .second, .val (.long l1), .second, .val (.long l2), .second, .val (.long l3), .second, .val (.int (2 : Int32)), .val (.int mode), .val (.long q5), .second, .val (.ref b40), .val (.ref b46), .val (.int (if q5 < l1 then (if q5 < l0 then (-1 : Int32) else (0 : Int32)) else (1 : Int32)))] [(.long q5), (.ref b46)])) t
        exact kt
      refine own_callVp X55 hx hZ hown rfl (hw _ (List.mem_of_getElem? (i := 78) rfl)) (hw _ (List.mem_of_getElem? (i := 79) rfl)) (notFace_of_selects (args := #[]) (mvT hZ (hw _ (List.mem_of_getElem? (i := 81) rfl)))) (hw _ (List.mem_of_getElem? (i := 81) rfl)) (hw _ (List.mem_of_getElem? (i := 80) rfl)) (hw _ (List.mem_of_getElem? (i := 44) rfl)) (hw _ (List.mem_of_getElem? (i := 82) rfl)) (by decide) (rm7 l Z aw hw b46 q5 r47 f2 (((0 : Int32) + (1 : Int32)) + (1 : Int32)) 2 T55.heap n0 ZKq55 Pq55_1 Pq55_2 Pq55_5 (by decide) (by decide) (own_q2 hl0 hl1 hl2 hl3 hf1 hf2)) Pq55_0 (g := (mkF m 307 #[.val (.int p0), .val (.long q1), .second, .val (.long q2), .second, .val (.long q3), .second, .val (.long q4), .second, .val (.long q5), .second, .val (.long (1152921504606846975 : Int64)), .second, .val (.long l0), .second, .val (.long l1), .second, .val (.long l2), .second, .val (.long l3), .second, .val (.int (2 : Int32)), .val (.int mode), .val (.long q5), .second, .val (.ref b40), .val (.ref b46), .val (.int (if q5 < l1 then (if q5 < l0 then (-1 : Int32) else (0 : Int32)) else (1 : Int32)))] [(.long q5), (.ref b46)])) rfl (by rw [hml]; rfl) (argsL := [(.long q5)]) (rest := []) (lenOf pd_5 rfl) rfl rfl (W := 0) (by show 2 * 0 + _ ≤ _; exact Nat.le_of_eq rfl) (hb hby at_307) (by decide) (by decide) (by decide) (by decide) ?_
      intro T58 X58 e58
      refine own_go (T' := T58) (f' := (mkF m 320 #[.val (.int p0), .val (.long q1), .second, .val (.long q2), .second, .val (.long q3), .second, .val (.long q4), .second, .val (.long q5), .second, .val (.long (1152921504606846975 : Int64)), .second, .val (.long l0), .second, .val (.long l1), .second, .val (.long l2), .second, .val (.long l3), .second, .val (.int (2 : Int32)), .val (.int mode), .val (.long q5), .second, .val (.ref b40), .val (.ref b46), .val (.int (if q5 < l1 then (if q5 < l0 then (-1 : Int32) else (0 : Int32)) else (1 : Int32)))] [(.int (1 : Int32))])) (fun t kt => ?_) ?_
      · show Steps p.tables e below (T58.setTop (mkF m 310 #[.val (.int p0), .val (.long q1), .second, .val (.long q2), .second, .val (.long q3), .second, .val (.long q4), .second, .val (.long q5), .second, .val (.long (1152921504606846975 : Int64)), .second, .val (.long l0), .second, .val (.long l1), .second, .val (.long l2), .second, .val (.long l3), .second, .val (.int (2 : Int32)), .val (.int mode), .val (.long q5), .second, .val (.ref b40), .val (.ref b46), .val (.int (if q5 < l1 then (if q5 < l0 then (-1 : Int32) else (0 : Int32)) else (1 : Int32)))] [(.int ((Int32.ofNat (own_cl 2 f2 q5)) - (1 : Int32)))])) t
        refine XS.iload X58.here hx rfl (hb hby at_310) rfl ?_
        show Steps p.tables e below (T58.setTop (mkF m 312 #[.val (.int p0), .val (.long q1), .second, .val (.long q2), .second, .val (.long q3), .second, .val (.long q4), .second, .val (.long q5), .second, .val (.long (1152921504606846975 : Int64)), .second, .val (.long l0), .second, .val (.long l1), .second, .val (.long l2), .second, .val (.long l3), .second, .val (.int (2 : Int32)), .val (.int mode), .val (.long q5), .second, .val (.ref b40), .val (.ref b46), .val (.int (if q5 < l1 then (if q5 < l0 then (-1 : Int32) else (0 : Int32)) else (1 : Int32)))] [(.int (if q5 < l1 then (if q5 < l0 then (-1 : Int32) else (0 : Int32)) else (1 : Int32))), (.int ((Int32.ofNat (own_cl 2 f2 q5)) - (1 : Int32)))])) t
        refine XS.icmpNo X58.here hx rfl (hb hby at_312) rfl (teq (show ((Int32.ofNat (own_cl 2 f2 q5)) - (1 : Int32)) = (if q5 < l1 then (if q5 < l0 then (-1 : Int32) else (0 : Int32)) else (1 : Int32)) from own_v2 hl0 hl1 hl2 hl3 hf1 hf2)).2 ?_
        show Steps p.tables e below (T58.setTop (mkF m 315 #[.val (.int p0), .val (.long q1), .second, .val (.long q2), .second, .val (.long q3), .second, .val (.long q4), .second, .val (.long q5), .second, .val (.long (1152921504606846975 : Int64)), .second, .val (.long l0), .second, .val (.long l1), .second, .val (.long l2), .second, .val (.long l3), .second, .val (.int (2 : Int32)), .val (.int mode), .val (.long q5), .second, .val (.ref b40), .val (.ref b46), .val (.int (if q5 < l1 then (if q5 < l0 then (-1 : Int32) else (0 : Int32)) else (1 : Int32)))] [])) t
        refine XS.iconst X58.here hx rfl (hb hby at_315) ?_
        show Steps p.tables e below (T58.setTop (mkF m 316 #[.val (.int p0), .val (.long q1), .second, .val (.long q2), .second, .val (.long q3), .second, .val (.long q4), .second, .val (.long q5), .second, .val (.long (1152921504606846975 : Int64)), .second, .val (.long l0), .second, .val (.long l1), .second, .val (.long l2), .second, .val (.long l3), .second, .val (.int (2 : Int32)), .val (.int mode), .val (.long q5), .second, .val (.ref b40), .val (.ref b46), .val (.int (if q5 < l1 then (if q5 < l0 then (-1 : Int32) else (0 : Int32)) else (1 : Int32)))] [(.int (1 : Int32))])) t
        refine XS.goto X58.here hx rfl (pc0 := 316) (pc' := 320) rfl (hb hby at_316) (by decide) (by decide) ?_
        show Steps p.tables e below (T58.setTop (mkF m 320 #[.val (.int p0), .val (.long q1), .second, .val (.long q2), .second, .val (.long q3), .second, .val (.long q4), .second, .val (.long q5), .second, .val (.long (1152921504606846975 : Int64)), .second, .val (.long l0), .second, .val (.long l1), .second, .val (.long l2), .second, .val (.long l3), .second, .val (.int (2 : Int32)), .val (.int mode), .val (.long q5), .second, .val (.ref b40), .val (.ref b46), .val (.int (if q5 < l1 then (if q5 < l0 then (-1 : Int32) else (0 : Int32)) else (1 : Int32)))] [(.int (1 : Int32))])) t
        exact kt
      exact own_retNW X58 hP hx hlk e58 hS kzKq55 (t := .boolean) hret (by simp) (hb hby at_320) (by decide) (by decide) (z' := (1 : Int32)) rfl ⟨rfl, N55⟩
    · rw [hn5]
      refine own_go (T' := T49) (f' := (mkF m 191 #[.val (.int p0), .val (.long q1), .second, .val (.long q2), .second, .val (.long q3), .second, .val (.long q4), .second, .val (.long q5), .second, .val (.long (1152921504606846975 : Int64)), .second, .val (.long l0), .second, .val (.long l1), .second, .val (.long l2), .second, .val (.long l3), .second, .val (.int (3 : Int32)), .val (.int mode), .val (.long q5), .second, .val (.ref b40), .val (.ref b46), .unset] [(.long l0), (.ref b46)])) (fun t kt => ?_) ?_
      · show Steps p.tables e below (T49.setTop (mkF m 182 #[.val (.int p0), .val (.long q1), .second, .val (.long q2), .second, .val (.long q3), .second, .val (.long q4), .second, .val (.long q5), .second, .val (.long (1152921504606846975 : Int64)), .second, .val (.long l0), .second, .val (.long l1), .second, .val (.long l2), .second, .val (.long l3), .second, .val (.int (3 : Int32)), .val (.int mode), .val (.long q5), .second, .val (.ref b40), .val (.ref b46), .unset] [])) t
        refine XS.iload X49.here hx rfl (hb hby at_182) rfl ?_
        show Steps p.tables e below (T49.setTop (mkF m 184 #[.val (.int p0), .val (.long q1), .second, .val (.long q2), .second, .val (.long q3), .second, .val (.long q4), .second, .val (.long q5), .second, .val (.long (1152921504606846975 : Int64)), .second, .val (.long l0), .second, .val (.long l1), .second, .val (.long l2), .second, .val (.long l3), .second, .val (.int (3 : Int32)), .val (.int mode), .val (.long q5), .second, .val (.ref b40), .val (.ref b46), .unset] [(.int (3 : Int32))])) t
        refine XS.ifNo X49.here hx rfl (hb hby at_184) rfl (by decide) ?_
        show Steps p.tables e below (T49.setTop (mkF m 187 #[.val (.int p0), .val (.long q1), .second, .val (.long q2), .second, .val (.long q3), .second, .val (.long q4), .second, .val (.long q5), .second, .val (.long (1152921504606846975 : Int64)), .second, .val (.long l0), .second, .val (.long l1), .second, .val (.long l2), .second, .val (.long l3), .second, .val (.int (3 : Int32)), .val (.int mode), .val (.long q5), .second, .val (.ref b40), .val (.ref b46), .unset] [])) t
        refine XS.aload X49.here hx rfl (hb hby at_187) rfl rfl ?_
        show Steps p.tables e below (T49.setTop (mkF m 189 #[.val (.int p0), .val (.long q1), .second, .val (.long q2), .second, .val (.long q3), .second, .val (.long q4), .second, .val (.long q5), .second, .val (.long (1152921504606846975 : Int64)), .second, .val (.long l0), .second, .val (.long l1), .second, .val (.long l2), .second, .val (.long l3), .second, .val (.int (3 : Int32)), .val (.int mode), .val (.long q5), .second, .val (.ref b40), .val (.ref b46), .unset] [(.ref b46)])) t
        refine XS.lload X49.here hx rfl (hb hby at_189) rfl ?_
        show Steps p.tables e below (T49.setTop (mkF m 191 #[.val (.int p0), .val (.long q1), .second, .val (.long q2), .second, .val (.long q3), .second, .val (.long q4), .second, .val (.long q5), .second, .val (.long (1152921504606846975 : Int64)), .second, .val (.long l0), .second, .val (.long l1), .second, .val (.long l2), .second, .val (.long l3), .second, .val (.int (3 : Int32)), .val (.int mode), .val (.long q5), .second, .val (.ref b40), .val (.ref b46), .unset] [(.long l0), (.ref b46)])) t
        exact kt
      refine own_callV X49 hx hZ hown rfl (hw _ (List.mem_of_getElem? (i := 83) rfl)) (hw _ (List.mem_of_getElem? (i := 84) rfl)) (notFace_of_selects (args := #[]) (mvT hZ (hw _ (List.mem_of_getElem? (i := 86) rfl)))) (hw _ (List.mem_of_getElem? (i := 86) rfl)) (hw _ (List.mem_of_getElem? (i := 85) rfl)) (hw _ (List.mem_of_getElem? (i := 44) rfl)) (hw _ (List.mem_of_getElem? (i := 87) rfl)) (by decide) (rm8 l Z aw hw b46 l0 r47 4 (fun _ => (0 : Int64)) (0 : Int32) 0 (.int ((own_z (¬ ((p0 &&& (256 : Int32)) = (0 : Int32)))) &&& (1 : Int32))) (.long (0 : Int64)) T49.heap n0 ZKq49 Pq49_0 g_b46 g_r47 (ne_b46_r47) (ne_r47_b46) Pq49_1 Pq49_4 Pq49_2 Pq49_3 Ar_r47 (by decide) (by decide)) Pq49_0 (g := (mkF m 191 #[.val (.int p0), .val (.long q1), .second, .val (.long q2), .second, .val (.long q3), .second, .val (.long q4), .second, .val (.long q5), .second, .val (.long (1152921504606846975 : Int64)), .second, .val (.long l0), .second, .val (.long l1), .second, .val (.long l2), .second, .val (.long l3), .second, .val (.int (3 : Int32)), .val (.int mode), .val (.long q5), .second, .val (.ref b40), .val (.ref b46), .unset] [(.long l0), (.ref b46)])) rfl (by rw [hml]; rfl) (argsL := [(.long l0)]) (rest := []) (lenOf pd_6 rfl) rfl rfl (W := 0) (by show 2 * 0 + _ ≤ _; exact Nat.le_of_eq rfl) (hb hby at_191) (by decide) (by decide) (by decide) (by decide) ?_
      rintro _ T59 L59 X59 ⟨rfl, Nq59, Kq59, Pq59_0, Pq59_1, Pq59_2, Pq59_3, Pq59_4, Pq59_5⟩
      have N59 := Fr.app N49 Nq59
      replace Pq45_0 := (Pq45_0.keep Kq59)
      replace F_r45 := (F_r45.keep Kq59 (ninS (ne_b40_b46) (ninS (ne_b40_r47) nin0)))
      replace Ar_r45 := (Ar_r45.keep Kq59 (ninS (ne_r45_b46) (ninS (ne_r45_r47) nin0)))
      replace Pq49_0 := (Pq49_0.keep Kq59)
      have ZKq59 : n0 ≤ T59.heap.size := Nat.le_trans ZKq49 Kq59.1
      have KKKq59 := KKKq49.trans Kq59 ((allS (Or.inr sz_b46) (allS (Or.inr sz_r47) all0)))
      have kzKq59 := Nat.le_trans kzKq49 Kq59.1
      obtain ⟨f1, hf1⟩ : ∃ z, z = (own_set (fun _ => (0 : Int64)) 0 l0) := ⟨_, rfl⟩
      rw [← hf1] at Pq59_5
      refine own_go (T' := T59) (f' := (mkF m 204 #[.val (.int p0), .val (.long q1), .second, .val (.long q2), .second, .val (.long q3), .second, .val (.long q4), .second, .val (.long q5), .second, .val (.long (1152921504606846975 : Int64)), .second, .val (.long l0), .second, .val (.long l1), .second, .val (.long l2), .second, .val (.long l3), .second, .val (.int (3 : Int32)), .val (.int mode), .val (.long q5), .second, .val (.ref b40), .val (.ref b46), .unset] [(.long l1), (.ref b46)])) (fun t kt => ?_) ?_
      · show Steps p.tables e below (T59.setTop (mkF m 194 #[.val (.int p0), .val (.long q1), .second, .val (.long q2), .second, .val (.long q3), .second, .val (.long q4), .second, .val (.long q5), .second, .val (.long (1152921504606846975 : Int64)), .second, .val (.long l0), .second, .val (.long l1), .second, .val (.long l2), .second, .val (.long l3), .second, .val (.int (3 : Int32)), .val (.int mode), .val (.long q5), .second, .val (.ref b40), .val (.ref b46), .unset] [])) t
        refine XS.iload X59.here hx rfl (hb hby at_194) rfl ?_
        show Steps p.tables e below (T59.setTop (mkF m 196 #[.val (.int p0), .val (.long q1), .second, .val (.long q2), .second, .val (.long q3), .second, .val (.long q4), .second, .val (.long q5), .second, .val (.long (1152921504606846975 : Int64)), .second, .val (.long l0), .second, .val (.long l1), .second, .val (.long l2), .second, .val (.long l3), .second, .val (.int (3 : Int32)), .val (.int mode), .val (.long q5), .second, .val (.ref b40), .val (.ref b46), .unset] [(.int (3 : Int32))])) t
        refine XS.iconst X59.here hx rfl (hb hby at_196) ?_
        show Steps p.tables e below (T59.setTop (mkF m 197 #[.val (.int p0), .val (.long q1), .second, .val (.long q2), .second, .val (.long q3), .second, .val (.long q4), .second, .val (.long q5), .second, .val (.long (1152921504606846975 : Int64)), .second, .val (.long l0), .second, .val (.long l1), .second, .val (.long l2), .second, .val (.long l3), .second, .val (.int (3 : Int32)), .val (.int mode), .val (.long q5), .second, .val (.ref b40), .val (.ref b46), .unset] [(.int (1 : Int32)), (.int (3 : Int32))])) t
        refine XS.icmpNo X59.here hx rfl (hb hby at_197) rfl (by decide) ?_
        show Steps p.tables e below (T59.setTop (mkF m 200 #[.val (.int p0), .val (.long q1), .second, .val (.long q2), .second, .val (.long q3), .second, .val (.long q4), .second, .val (.long q5), .second, .val (.long (1152921504606846975 : Int64)), .second, .val (.long l0), .second, .val (.long l1), .second, .val (.long l2), .second, .val (.long l3), .second, .val (.int (3 : Int32)), .val (.int mode), .val (.long q5), .second, .val (.ref b40), .val (.ref b46), .unset] [])) t
        refine XS.aload X59.here hx rfl (hb hby at_200) rfl rfl ?_
        show Steps p.tables e below (T59.setTop (mkF m 202 #[.val (.int p0), .val (.long q1), .second, .val (.long q2), .second, .val (.long q3), .second, .val (.long q4), .second, .val (.long q5), .second, .val (.long (1152921504606846975 : Int64)), .second, .val (.long l0), .second, .val (.long l1), .second, .val (.long l2), .second, .val (.long l3), .second, .val (.int (3 : Int32)), .val (.int mode), .val (.long q5), .second, .val (.ref b40), .val (.ref b46), .unset] [(.ref b46)])) t
        refine XS.lload X59.here hx rfl (hb hby at_202) rfl ?_
        show Steps p.tables e below (T59.setTop (mkF m 204 #[.val (.int p0), .val (.long q1), .second, .val (.long q2), .second, .val (.long q3), .second, .val (.long q4), .second, .val (.long q5), .second, .val (.long (1152921504606846975 : Int64)), .second, .val (.long l0), .second, .val (.long l1), .second, .val (.long l2), .second, .val (.long l3), .second, .val (.int (3 : Int32)), .val (.int mode), .val (.long q5), .second, .val (.ref b40), .val (.ref b46), .unset] [(.long l1), (.ref b46)])) t
        exact kt
      refine own_callV X59 hx hZ hown rfl (hw _ (List.mem_of_getElem? (i := 83) rfl)) (hw _ (List.mem_of_getElem? (i := 84) rfl)) (notFace_of_selects (args := #[]) (mvT hZ (hw _ (List.mem_of_getElem? (i := 86) rfl)))) (hw _ (List.mem_of_getElem? (i := 86) rfl)) (hw _ (List.mem_of_getElem? (i := 85) rfl)) (hw _ (List.mem_of_getElem? (i := 44) rfl)) (hw _ (List.mem_of_getElem? (i := 87) rfl)) (by decide) (rm8 l Z aw hw b46 l1 r47 4 f1 ((0 : Int32) + (1 : Int32)) 1 (.int ((own_z (¬ ((p0 &&& (256 : Int32)) = (0 : Int32)))) &&& (1 : Int32))) (.long (0 : Int64)) T59.heap n0 ZKq59 Pq59_0 g_b46 g_r47 (ne_b46_r47) (ne_r47_b46) Pq59_1 Pq59_2 Pq59_3 Pq59_4 Pq59_5 (by decide) (by decide)) Pq59_0 (g := (mkF m 204 #[.val (.int p0), .val (.long q1), .second, .val (.long q2), .second, .val (.long q3), .second, .val (.long q4), .second, .val (.long q5), .second, .val (.long (1152921504606846975 : Int64)), .second, .val (.long l0), .second, .val (.long l1), .second, .val (.long l2), .second, .val (.long l3), .second, .val (.int (3 : Int32)), .val (.int mode), .val (.long q5), .second, .val (.ref b40), .val (.ref b46), .unset] [(.long l1), (.ref b46)])) rfl (by rw [hml]; rfl) (argsL := [(.long l1)]) (rest := []) (lenOf pd_6 rfl) rfl rfl (W := 0) (by show 2 * 0 + _ ≤ _; exact Nat.le_of_eq rfl) (hb hby at_204) (by decide) (by decide) (by decide) (by decide) ?_
      rintro _ T60 L60 X60 ⟨rfl, Nq60, Kq60, Pq60_0, Pq60_1, Pq60_2, Pq60_3, Pq60_4, Pq60_5⟩
      have N60 := Fr.app N59 Nq60
      replace Pq45_0 := (Pq45_0.keep Kq60)
      replace F_r45 := (F_r45.keep Kq60 (ninS (ne_b40_b46) (ninS (ne_b40_r47) nin0)))
      replace Ar_r45 := (Ar_r45.keep Kq60 (ninS (ne_r45_b46) (ninS (ne_r45_r47) nin0)))
      replace Pq59_0 := (Pq59_0.keep Kq60)
      have ZKq60 : n0 ≤ T60.heap.size := Nat.le_trans ZKq59 Kq60.1
      have KKKq60 := KKKq59.trans Kq60 ((allS (Or.inr sz_b46) (allS (Or.inr sz_r47) all0)))
      have kzKq60 := Nat.le_trans kzKq59 Kq60.1
      obtain ⟨f2, hf2⟩ : ∃ z, z = (own_set f1 1 l1) := ⟨_, rfl⟩
      rw [← hf2] at Pq60_5
      refine own_go (T' := T60) (f' := (mkF m 217 #[.val (.int p0), .val (.long q1), .second, .val (.long q2), .second, .val (.long q3), .second, .val (.long q4), .second, .val (.long q5), .second, .val (.long (1152921504606846975 : Int64)), .second, .val (.long l0), .second, .val (.long l1), .second, .val (.long l2), .second, .val (.long l3), .second, .val (.int (3 : Int32)), .val (.int mode), .val (.long q5), .second, .val (.ref b40), .val (.ref b46), .unset] [(.long l2), (.ref b46)])) (fun t kt => ?_) ?_
      · show Steps p.tables e below (T60.setTop (mkF m 207 #[.val (.int p0), .val (.long q1), .second, .val (.long q2), .second, .val (.long q3), .second, .val (.long q4), .second, .val (.long q5), .second, .val (.long (1152921504606846975 : Int64)), .second, .val (.long l0), .second, .val (.long l1), .second, .val (.long l2), .second, .val (.long l3), .second, .val (.int (3 : Int32)), .val (.int mode), .val (.long q5), .second, .val (.ref b40), .val (.ref b46), .unset] [])) t
        refine XS.iload X60.here hx rfl (hb hby at_207) rfl ?_
        show Steps p.tables e below (T60.setTop (mkF m 209 #[.val (.int p0), .val (.long q1), .second, .val (.long q2), .second, .val (.long q3), .second, .val (.long q4), .second, .val (.long q5), .second, .val (.long (1152921504606846975 : Int64)), .second, .val (.long l0), .second, .val (.long l1), .second, .val (.long l2), .second, .val (.long l3), .second, .val (.int (3 : Int32)), .val (.int mode), .val (.long q5), .second, .val (.ref b40), .val (.ref b46), .unset] [(.int (3 : Int32))])) t
        refine XS.iconst X60.here hx rfl (hb hby at_209) ?_
        show Steps p.tables e below (T60.setTop (mkF m 210 #[.val (.int p0), .val (.long q1), .second, .val (.long q2), .second, .val (.long q3), .second, .val (.long q4), .second, .val (.long q5), .second, .val (.long (1152921504606846975 : Int64)), .second, .val (.long l0), .second, .val (.long l1), .second, .val (.long l2), .second, .val (.long l3), .second, .val (.int (3 : Int32)), .val (.int mode), .val (.long q5), .second, .val (.ref b40), .val (.ref b46), .unset] [(.int (2 : Int32)), (.int (3 : Int32))])) t
        refine XS.icmpNo X60.here hx rfl (hb hby at_210) rfl (by decide) ?_
        show Steps p.tables e below (T60.setTop (mkF m 213 #[.val (.int p0), .val (.long q1), .second, .val (.long q2), .second, .val (.long q3), .second, .val (.long q4), .second, .val (.long q5), .second, .val (.long (1152921504606846975 : Int64)), .second, .val (.long l0), .second, .val (.long l1), .second, .val (.long l2), .second, .val (.long l3), .second, .val (.int (3 : Int32)), .val (.int mode), .val (.long q5), .second, .val (.ref b40), .val (.ref b46), .unset] [])) t
        refine XS.aload X60.here hx rfl (hb hby at_213) rfl rfl ?_
        show Steps p.tables e below (T60.setTop (mkF m 215 #[.val (.int p0), .val (.long q1), .second, .val (.long q2), .second, .val (.long q3), .second, .val (.long q4), .second, .val (.long q5), .second, .val (.long (1152921504606846975 : Int64)), .second, .val (.long l0), .second, .val (.long l1), .second, .val (.long l2), .second, .val (.long l3), .second, .val (.int (3 : Int32)), .val (.int mode), .val (.long q5), .second, .val (.ref b40), .val (.ref b46), .unset] [(.ref b46)])) t
        refine XS.lload X60.here hx rfl (hb hby at_215) rfl ?_
        show Steps p.tables e below (T60.setTop (mkF m 217 #[.val (.int p0), .val (.long q1), .second, .val (.long q2), .second, .val (.long q3), .second, .val (.long q4), .second, .val (.long q5), .second, .val (.long (1152921504606846975 : Int64)), .second, .val (.long l0), .second, .val (.long l1), .second, .val (.long l2), .second, .val (.long l3), .second, .val (.int (3 : Int32)), .val (.int mode), .val (.long q5), .second, .val (.ref b40), .val (.ref b46), .unset] [(.long l2), (.ref b46)])) t
        exact kt
      refine own_callV X60 hx hZ hown rfl (hw _ (List.mem_of_getElem? (i := 83) rfl)) (hw _ (List.mem_of_getElem? (i := 84) rfl)) (notFace_of_selects (args := #[]) (mvT hZ (hw _ (List.mem_of_getElem? (i := 86) rfl)))) (hw _ (List.mem_of_getElem? (i := 86) rfl)) (hw _ (List.mem_of_getElem? (i := 85) rfl)) (hw _ (List.mem_of_getElem? (i := 44) rfl)) (hw _ (List.mem_of_getElem? (i := 87) rfl)) (by decide) (rm8 l Z aw hw b46 l2 r47 4 f2 (((0 : Int32) + (1 : Int32)) + (1 : Int32)) 2 (.int ((own_z (¬ ((p0 &&& (256 : Int32)) = (0 : Int32)))) &&& (1 : Int32))) (.long (0 : Int64)) T60.heap n0 ZKq60 Pq60_0 g_b46 g_r47 (ne_b46_r47) (ne_r47_b46) Pq60_1 Pq60_2 Pq60_3 Pq60_4 Pq60_5 (by decide) (by decide)) Pq60_0 (g := (mkF m 217 #[.val (.int p0), .val (.long q1), .second, .val (.long q2), .second, .val (.long q3), .second, .val (.long q4), .second, .val (.long q5), .second, .val (.long (1152921504606846975 : Int64)), .second, .val (.long l0), .second, .val (.long l1), .second, .val (.long l2), .second, .val (.long l3), .second, .val (.int (3 : Int32)), .val (.int mode), .val (.long q5), .second, .val (.ref b40), .val (.ref b46), .unset] [(.long l2), (.ref b46)])) rfl (by rw [hml]; rfl) (argsL := [(.long l2)]) (rest := []) (lenOf pd_6 rfl) rfl rfl (W := 0) (by show 2 * 0 + _ ≤ _; exact Nat.le_of_eq rfl) (hb hby at_217) (by decide) (by decide) (by decide) (by decide) ?_
      rintro _ T61 L61 X61 ⟨rfl, Nq61, Kq61, Pq61_0, Pq61_1, Pq61_2, Pq61_3, Pq61_4, Pq61_5⟩
      have N61 := Fr.app N60 Nq61
      replace Pq45_0 := (Pq45_0.keep Kq61)
      replace F_r45 := (F_r45.keep Kq61 (ninS (ne_b40_b46) (ninS (ne_b40_r47) nin0)))
      replace Ar_r45 := (Ar_r45.keep Kq61 (ninS (ne_r45_b46) (ninS (ne_r45_r47) nin0)))
      replace Pq60_0 := (Pq60_0.keep Kq61)
      have ZKq61 : n0 ≤ T61.heap.size := Nat.le_trans ZKq60 Kq61.1
      have KKKq61 := KKKq60.trans Kq61 ((allS (Or.inr sz_b46) (allS (Or.inr sz_r47) all0)))
      have kzKq61 := Nat.le_trans kzKq60 Kq61.1
      obtain ⟨f3, hf3⟩ : ∃ z, z = (own_set f2 2 l2) := ⟨_, rfl⟩
      rw [← hf3] at Pq61_5
      refine own_go (T' := T61) (f' := (mkF m 246 #[.val (.int p0), .val (.long q1), .second, .val (.long q2), .second, .val (.long q3), .second, .val (.long q4), .second, .val (.long q5), .second, .val (.long (1152921504606846975 : Int64)), .second, .val (.long l0), .second, .val (.long l1), .second, .val (.long l2), .second, .val (.long l3), .second, .val (.int (3 : Int32)), .val (.int mode), .val (.long q5), .second, .val (.ref b40), .val (.ref b46), .val (.int (-1 : Int32))] [(.int (lcmpW l0 q5))])) (fun t kt => ?_) ?_
      · show Steps p.tables e below (T61.setTop (mkF m 220 #[.val (.int p0), .val (.long q1), .second, .val (.long q2), .second, .val (.long q3), .second, .val (.long q4), .second, .val (.long q5), .second, .val (.long (1152921504606846975 : Int64)), .second, .val (.long l0), .second, .val (.long l1), .second, .val (.long l2), .second, .val (.long l3), .second, .val (.int (3 : Int32)), .val (.int mode), .val (.long q5), .second, .val (.ref b40), .val (.ref b46), .unset] [])) t
        refine XS.iload X61.here hx rfl (hb hby at_220) rfl ?_
        show Steps p.tables e below (T61.setTop (mkF m 222 #[.val (.int p0), .val (.long q1), .second, .val (.long q2), .second, .val (.long q3), .second, .val (.long q4), .second, .val (.long q5), .second, .val (.long (1152921504606846975 : Int64)), .second, .val (.long l0), .second, .val (.long l1), .second, .val (.long l2), .second, .val (.long l3), .second, .val (.int (3 : Int32)), .val (.int mode), .val (.long q5), .second, .val (.ref b40), .val (.ref b46), .unset] [(.int (3 : Int32))])) t
        refine XS.iconst X61.here hx rfl (hb hby at_222) ?_
        show Steps p.tables e below (T61.setTop (mkF m 223 #[.val (.int p0), .val (.long q1), .second, .val (.long q2), .second, .val (.long q3), .second, .val (.long q4), .second, .val (.long q5), .second, .val (.long (1152921504606846975 : Int64)), .second, .val (.long l0), .second, .val (.long l1), .second, .val (.long l2), .second, .val (.long l3), .second, .val (.int (3 : Int32)), .val (.int mode), .val (.long q5), .second, .val (.ref b40), .val (.ref b46), .unset] [(.int (3 : Int32)), (.int (3 : Int32))])) t
        refine XS.icmpYes X61.here hx rfl (pc0 := 223) (pc' := 233) rfl (hb hby at_223) rfl (by decide) (by decide) (by decide) ?_
        show Steps p.tables e below (T61.setTop (mkF m 233 #[.val (.int p0), .val (.long q1), .second, .val (.long q2), .second, .val (.long q3), .second, .val (.long q4), .second, .val (.long q5), .second, .val (.long (1152921504606846975 : Int64)), .second, .val (.long l0), .second, .val (.long l1), .second, .val (.long l2), .second, .val (.long l3), .second, .val (.int (3 : Int32)), .val (.int mode), .val (.long q5), .second, .val (.ref b40), .val (.ref b46), .unset] [])) t
        refine XS.iconst X61.here hx rfl (hb hby at_233) ?_
        show Steps p.tables e below (T61.setTop (mkF m 234 #[.val (.int p0), .val (.long q1), .second, .val (.long q2), .second, .val (.long q3), .second, .val (.long q4), .second, .val (.long q5), .second, .val (.long (1152921504606846975 : Int64)), .second, .val (.long l0), .second, .val (.long l1), .second, .val (.long l2), .second, .val (.long l3), .second, .val (.int (3 : Int32)), .val (.int mode), .val (.long q5), .second, .val (.ref b40), .val (.ref b46), .unset] [(.int (-1 : Int32))])) t
        refine XS.istore X61.here hx rfl (hb hby at_234) rfl (l' := #[.val (.int p0), .val (.long q1), .second, .val (.long q2), .second, .val (.long q3), .second, .val (.long q4), .second, .val (.long q5), .second, .val (.long (1152921504606846975 : Int64)), .second, .val (.long l0), .second, .val (.long l1), .second, .val (.long l2), .second, .val (.long l3), .second, .val (.int (3 : Int32)), .val (.int mode), .val (.long q5), .second, .val (.ref b40), .val (.ref b46), .val (.int (-1 : Int32))]) rfl ?_
        show Steps p.tables e below (T61.setTop (mkF m 236 #[.val (.int p0), .val (.long q1), .second, .val (.long q2), .second, .val (.long q3), .second, .val (.long q4), .second, .val (.long q5), .second, .val (.long (1152921504606846975 : Int64)), .second, .val (.long l0), .second, .val (.long l1), .second, .val (.long l2), .second, .val (.long l3), .second, .val (.int (3 : Int32)), .val (.int mode), .val (.long q5), .second, .val (.ref b40), .val (.ref b46), .val (.int (-1 : Int32))] [])) t
        refine XS.iload X61.here hx rfl (hb hby at_236) rfl ?_
        show Steps p.tables e below (T61.setTop (mkF m 238 #[.val (.int p0), .val (.long q1), .second, .val (.long q2), .second, .val (.long q3), .second, .val (.long q4), .second, .val (.long q5), .second, .val (.long (1152921504606846975 : Int64)), .second, .val (.long l0), .second, .val (.long l1), .second, .val (.long l2), .second, .val (.long l3), .second, .val (.int (3 : Int32)), .val (.int mode), .val (.long q5), .second, .val (.ref b40), .val (.ref b46), .val (.int (-1 : Int32))] [(.int (3 : Int32))])) t
        refine XS.ifNo X61.here hx rfl (hb hby at_238) rfl (by decide) ?_
        show Steps p.tables e below (T61.setTop (mkF m 241 #[.val (.int p0), .val (.long q1), .second, .val (.long q2), .second, .val (.long q3), .second, .val (.long q4), .second, .val (.long q5), .second, .val (.long (1152921504606846975 : Int64)), .second, .val (.long l0), .second, .val (.long l1), .second, .val (.long l2), .second, .val (.long l3), .second, .val (.int (3 : Int32)), .val (.int mode), .val (.long q5), .second, .val (.ref b40), .val (.ref b46), .val (.int (-1 : Int32))] [])) t
        refine XS.lload X61.here hx rfl (hb hby at_241) rfl ?_
        show Steps p.tables e below (T61.setTop (mkF m 243 #[.val (.int p0), .val (.long q1), .second, .val (.long q2), .second, .val (.long q3), .second, .val (.long q4), .second, .val (.long q5), .second, .val (.long (1152921504606846975 : Int64)), .second, .val (.long l0), .second, .val (.long l1), .second, .val (.long l2), .second, .val (.long l3), .second, .val (.int (3 : Int32)), .val (.int mode), .val (.long q5), .second, .val (.ref b40), .val (.ref b46), .val (.int (-1 : Int32))] [(.long l0)])) t
        refine XS.lload X61.here hx rfl (hb hby at_243) rfl ?_
        show Steps p.tables e below (T61.setTop (mkF m 245 #[.val (.int p0), .val (.long q1), .second, .val (.long q2), .second, .val (.long q3), .second, .val (.long q4), .second, .val (.long q5), .second, .val (.long (1152921504606846975 : Int64)), .second, .val (.long l0), .second, .val (.long l1), .second, .val (.long l2), .second, .val (.long l3), .second, .val (.int (3 : Int32)), .val (.int mode), .val (.long q5), .second, .val (.ref b40), .val (.ref b46), .val (.int (-1 : Int32))] [(.long q5), (.long l0)])) t
        refine XS.lcmp X61.here hx rfl (hb hby at_245) rfl ?_
        show Steps p.tables e below (T61.setTop (mkF m 246 #[.val (.int p0), .val (.long q1), .second, .val (.long q2), .second, .val (.long q3), .second, .val (.long q4), .second, .val (.long q5), .second, .val (.long (1152921504606846975 : Int64)), .second, .val (.long l0), .second, .val (.long l1), .second, .val (.long l2), .second, .val (.long l3), .second, .val (.int (3 : Int32)), .val (.int mode), .val (.long q5), .second, .val (.ref b40), .val (.ref b46), .val (.int (-1 : Int32))] [(.int (lcmpW l0 q5))])) t
        exact kt
      refine own_go (T' := T61) (f' := (mkF m 252 #[.val (.int p0), .val (.long q1), .second, .val (.long q2), .second, .val (.long q3), .second, .val (.long q4), .second, .val (.long q5), .second, .val (.long (1152921504606846975 : Int64)), .second, .val (.long l0), .second, .val (.long l1), .second, .val (.long l2), .second, .val (.long l3), .second, .val (.int (3 : Int32)), .val (.int mode), .val (.long q5), .second, .val (.ref b40), .val (.ref b46), .val (.int (if q5 < l0 then (-1 : Int32) else (0 : Int32)))] [])) (fun t kt => ?_) ?_
      · by_cases hc246_62 : q5 < l0
        · show Steps p.tables e below (T61.setTop (mkF m 246 #[.val (.int p0), .val (.long q1), .second, .val (.long q2), .second, .val (.long q3), .second, .val (.long q4), .second, .val (.long q5), .second, .val (.long (1152921504606846975 : Int64)), .second, .val (.long l0), .second, .val (.long l1), .second, .val (.long l2), .second, .val (.long l3), .second, .val (.int (3 : Int32)), .val (.int mode), .val (.long q5), .second, .val (.ref b40), .val (.ref b46), .val (.int (-1 : Int32))] [(.int (lcmpW l0 q5))])) t
          refine XS.ifYes X61.here hx rfl (pc0 := 246) (pc' := 252) rfl (hb hby at_246) rfl (own_lY_gt hc246_62) (by decide) (by decide) ?_
          show Steps p.tables e below (T61.setTop (mkF m 252 #[.val (.int p0), .val (.long q1), .second, .val (.long q2), .second, .val (.long q3), .second, .val (.long q4), .second, .val (.long q5), .second, .val (.long (1152921504606846975 : Int64)), .second, .val (.long l0), .second, .val (.long l1), .second, .val (.long l2), .second, .val (.long l3), .second, .val (.int (3 : Int32)), .val (.int mode), .val (.long q5), .second, .val (.ref b40), .val (.ref b46), .val (.int (-1 : Int32))] [])) t
          rw [if_pos hc246_62] at kt
          exact kt
        · show Steps p.tables e below (T61.setTop (mkF m 246 #[.val (.int p0), .val (.long q1), .second, .val (.long q2), .second, .val (.long q3), .second, .val (.long q4), .second, .val (.long q5), .second, .val (.long (1152921504606846975 : Int64)), .second, .val (.long l0), .second, .val (.long l1), .second, .val (.long l2), .second, .val (.long l3), .second, .val (.int (3 : Int32)), .val (.int mode), .val (.long q5), .second, .val (.ref b40), .val (.ref b46), .val (.int (-1 : Int32))] [(.int (lcmpW l0 q5))])) t
          refine XS.ifNo X61.here hx rfl (hb hby at_246) rfl (own_lN_gt hc246_62) ?_
          show Steps p.tables e below (T61.setTop (mkF m 249 #[.val (.int p0), .val (.long q1), .second, .val (.long q2), .second, .val (.long q3), .second, .val (.long q4), .second, .val (.long q5), .second, .val (.long (1152921504606846975 : Int64)), .second, .val (.long l0), .second, .val (.long l1), .second, .val (.long l2), .second, .val (.long l3), .second, .val (.int (3 : Int32)), .val (.int mode), .val (.long q5), .second, .val (.ref b40), .val (.ref b46), .val (.int (-1 : Int32))] [])) t
          refine XS.iconst X61.here hx rfl (hb hby at_249) ?_
          show Steps p.tables e below (T61.setTop (mkF m 250 #[.val (.int p0), .val (.long q1), .second, .val (.long q2), .second, .val (.long q3), .second, .val (.long q4), .second, .val (.long q5), .second, .val (.long (1152921504606846975 : Int64)), .second, .val (.long l0), .second, .val (.long l1), .second, .val (.long l2), .second, .val (.long l3), .second, .val (.int (3 : Int32)), .val (.int mode), .val (.long q5), .second, .val (.ref b40), .val (.ref b46), .val (.int (-1 : Int32))] [(.int (0 : Int32))])) t
          refine XS.istore X61.here hx rfl (hb hby at_250) rfl (l' := #[.val (.int p0), .val (.long q1), .second, .val (.long q2), .second, .val (.long q3), .second, .val (.long q4), .second, .val (.long q5), .second, .val (.long (1152921504606846975 : Int64)), .second, .val (.long l0), .second, .val (.long l1), .second, .val (.long l2), .second, .val (.long l3), .second, .val (.int (3 : Int32)), .val (.int mode), .val (.long q5), .second, .val (.ref b40), .val (.ref b46), .val (.int (0 : Int32))]) rfl ?_
          show Steps p.tables e below (T61.setTop (mkF m 252 #[.val (.int p0), .val (.long q1), .second, .val (.long q2), .second, .val (.long q3), .second, .val (.long q4), .second, .val (.long q5), .second, .val (.long (1152921504606846975 : Int64)), .second, .val (.long l0), .second, .val (.long l1), .second, .val (.long l2), .second, .val (.long l3), .second, .val (.int (3 : Int32)), .val (.int mode), .val (.long q5), .second, .val (.ref b40), .val (.ref b46), .val (.int (0 : Int32))] [])) t
          rw [if_neg hc246_62] at kt
          exact kt
      refine own_go (T' := T61) (f' := (mkF m 263 #[.val (.int p0), .val (.long q1), .second, .val (.long q2), .second, .val (.long q3), .second, .val (.long q4), .second, .val (.long q5), .second, .val (.long (1152921504606846975 : Int64)), .second, .val (.long l0), .second, .val (.long l1), .second, .val (.long l2), .second, .val (.long l3), .second, .val (.int (3 : Int32)), .val (.int mode), .val (.long q5), .second, .val (.ref b40), .val (.ref b46), .val (.int (if q5 < l0 then (-1 : Int32) else (0 : Int32)))] [(.int (lcmpW l1 q5))])) (fun t kt => ?_) ?_
      · show Steps p.tables e below (T61.setTop (mkF m 252 #[.val (.int p0), .val (.long q1), .second, .val (.long q2), .second, .val (.long q3), .second, .val (.long q4), .second, .val (.long q5), .second, .val (.long (1152921504606846975 : Int64)), .second, .val (.long l0), .second, .val (.long l1), .second, .val (.long l2), .second, .val (.long l3), .second, .val (.int (3 : Int32)), .val (.int mode), .val (.long q5), .second, .val (.ref b40), .val (.ref b46), .val (.int (if q5 < l0 then (-1 : Int32) else (0 : Int32)))] [])) t
        refine XS.iload X61.here hx rfl (hb hby at_252) rfl ?_
        show Steps p.tables e below (T61.setTop (mkF m 254 #[.val (.int p0), .val (.long q1), .second, .val (.long q2), .second, .val (.long q3), .second, .val (.long q4), .second, .val (.long q5), .second, .val (.long (1152921504606846975 : Int64)), .second, .val (.long l0), .second, .val (.long l1), .second, .val (.long l2), .second, .val (.long l3), .second, .val (.int (3 : Int32)), .val (.int mode), .val (.long q5), .second, .val (.ref b40), .val (.ref b46), .val (.int (if q5 < l0 then (-1 : Int32) else (0 : Int32)))] [(.int (3 : Int32))])) t
        refine XS.iconst X61.here hx rfl (hb hby at_254) ?_
        show Steps p.tables e below (T61.setTop (mkF m 255 #[.val (.int p0), .val (.long q1), .second, .val (.long q2), .second, .val (.long q3), .second, .val (.long q4), .second, .val (.long q5), .second, .val (.long (1152921504606846975 : Int64)), .second, .val (.long l0), .second, .val (.long l1), .second, .val (.long l2), .second, .val (.long l3), .second, .val (.int (3 : Int32)), .val (.int mode), .val (.long q5), .second, .val (.ref b40), .val (.ref b46), .val (.int (if q5 < l0 then (-1 : Int32) else (0 : Int32)))] [(.int (1 : Int32)), (.int (3 : Int32))])) t
        refine XS.icmpNo X61.here hx rfl (hb hby at_255) rfl (by decide) ?_
        show Steps p.tables e below (T61.setTop (mkF m 258 #[.val (.int p0), .val (.long q1), .second, .val (.long q2), .second, .val (.long q3), .second, .val (.long q4), .second, .val (.long q5), .second, .val (.long (1152921504606846975 : Int64)), .second, .val (.long l0), .second, .val (.long l1), .second, .val (.long l2), .second, .val (.long l3), .second, .val (.int (3 : Int32)), .val (.int mode), .val (.long q5), .second, .val (.ref b40), .val (.ref b46), .val (.int (if q5 < l0 then (-1 : Int32) else (0 : Int32)))] [])) t
        refine XS.lload X61.here hx rfl (hb hby at_258) rfl ?_
        show Steps p.tables e below (T61.setTop (mkF m 260 #[.val (.int p0), .val (.long q1), .second, .val (.long q2), .second, .val (.long q3), .second, .val (.long q4), .second, .val (.long q5), .second, .val (.long (1152921504606846975 : Int64)), .second, .val (.long l0), .second, .val (.long l1), .second, .val (.long l2), .second, .val (.long l3), .second, .val (.int (3 : Int32)), .val (.int mode), .val (.long q5), .second, .val (.ref b40), .val (.ref b46), .val (.int (if q5 < l0 then (-1 : Int32) else (0 : Int32)))] [(.long l1)])) t
        refine XS.lload X61.here hx rfl (hb hby at_260) rfl ?_
        show Steps p.tables e below (T61.setTop (mkF m 262 #[.val (.int p0), .val (.long q1), .second, .val (.long q2), .second, .val (.long q3), .second, .val (.long q4), .second, .val (.long q5), .second, .val (.long (1152921504606846975 : Int64)), .second, .val (.long l0), .second, .val (.long l1), .second, .val (.long l2), .second, .val (.long l3), .second, .val (.int (3 : Int32)), .val (.int mode), .val (.long q5), .second, .val (.ref b40), .val (.ref b46), .val (.int (if q5 < l0 then (-1 : Int32) else (0 : Int32)))] [(.long q5), (.long l1)])) t
        refine XS.lcmp X61.here hx rfl (hb hby at_262) rfl ?_
        show Steps p.tables e below (T61.setTop (mkF m 263 #[.val (.int p0), .val (.long q1), .second, .val (.long q2), .second, .val (.long q3), .second, .val (.long q4), .second, .val (.long q5), .second, .val (.long (1152921504606846975 : Int64)), .second, .val (.long l0), .second, .val (.long l1), .second, .val (.long l2), .second, .val (.long l3), .second, .val (.int (3 : Int32)), .val (.int mode), .val (.long q5), .second, .val (.ref b40), .val (.ref b46), .val (.int (if q5 < l0 then (-1 : Int32) else (0 : Int32)))] [(.int (lcmpW l1 q5))])) t
        exact kt
      refine own_go (T' := T61) (f' := (mkF m 269 #[.val (.int p0), .val (.long q1), .second, .val (.long q2), .second, .val (.long q3), .second, .val (.long q4), .second, .val (.long q5), .second, .val (.long (1152921504606846975 : Int64)), .second, .val (.long l0), .second, .val (.long l1), .second, .val (.long l2), .second, .val (.long l3), .second, .val (.int (3 : Int32)), .val (.int mode), .val (.long q5), .second, .val (.ref b40), .val (.ref b46), .val (.int (if q5 < l1 then (if q5 < l0 then (-1 : Int32) else (0 : Int32)) else (1 : Int32)))] [])) (fun t kt => ?_) ?_
      · by_cases hc263_63 : q5 < l1
        · show Steps p.tables e below (T61.setTop (mkF m 263 #[.val (.int p0), .val (.long q1), .second, .val (.long q2), .second, .val (.long q3), .second, .val (.long q4), .second, .val (.long q5), .second, .val (.long (1152921504606846975 : Int64)), .second, .val (.long l0), .second, .val (.long l1), .second, .val (.long l2), .second, .val (.long l3), .second, .val (.int (3 : Int32)), .val (.int mode), .val (.long q5), .second, .val (.ref b40), .val (.ref b46), .val (.int (if q5 < l0 then (-1 : Int32) else (0 : Int32)))] [(.int (lcmpW l1 q5))])) t
          refine XS.ifYes X61.here hx rfl (pc0 := 263) (pc' := 269) rfl (hb hby at_263) rfl (own_lY_gt hc263_63) (by decide) (by decide) ?_
          show Steps p.tables e below (T61.setTop (mkF m 269 #[.val (.int p0), .val (.long q1), .second, .val (.long q2), .second, .val (.long q3), .second, .val (.long q4), .second, .val (.long q5), .second, .val (.long (1152921504606846975 : Int64)), .second, .val (.long l0), .second, .val (.long l1), .second, .val (.long l2), .second, .val (.long l3), .second, .val (.int (3 : Int32)), .val (.int mode), .val (.long q5), .second, .val (.ref b40), .val (.ref b46), .val (.int (if q5 < l0 then (-1 : Int32) else (0 : Int32)))] [])) t
          rw [if_pos hc263_63] at kt
          exact kt
        · show Steps p.tables e below (T61.setTop (mkF m 263 #[.val (.int p0), .val (.long q1), .second, .val (.long q2), .second, .val (.long q3), .second, .val (.long q4), .second, .val (.long q5), .second, .val (.long (1152921504606846975 : Int64)), .second, .val (.long l0), .second, .val (.long l1), .second, .val (.long l2), .second, .val (.long l3), .second, .val (.int (3 : Int32)), .val (.int mode), .val (.long q5), .second, .val (.ref b40), .val (.ref b46), .val (.int (if q5 < l0 then (-1 : Int32) else (0 : Int32)))] [(.int (lcmpW l1 q5))])) t
          refine XS.ifNo X61.here hx rfl (hb hby at_263) rfl (own_lN_gt hc263_63) ?_
          show Steps p.tables e below (T61.setTop (mkF m 266 #[.val (.int p0), .val (.long q1), .second, .val (.long q2), .second, .val (.long q3), .second, .val (.long q4), .second, .val (.long q5), .second, .val (.long (1152921504606846975 : Int64)), .second, .val (.long l0), .second, .val (.long l1), .second, .val (.long l2), .second, .val (.long l3), .second, .val (.int (3 : Int32)), .val (.int mode), .val (.long q5), .second, .val (.ref b40), .val (.ref b46), .val (.int (if q5 < l0 then (-1 : Int32) else (0 : Int32)))] [])) t
          refine XS.iconst X61.here hx rfl (hb hby at_266) ?_
          show Steps p.tables e below (T61.setTop (mkF m 267 #[.val (.int p0), .val (.long q1), .second, .val (.long q2), .second, .val (.long q3), .second, .val (.long q4), .second, .val (.long q5), .second, .val (.long (1152921504606846975 : Int64)), .second, .val (.long l0), .second, .val (.long l1), .second, .val (.long l2), .second, .val (.long l3), .second, .val (.int (3 : Int32)), .val (.int mode), .val (.long q5), .second, .val (.ref b40), .val (.ref b46), .val (.int (if q5 < l0 then (-1 : Int32) else (0 : Int32)))] [(.int (1 : Int32))])) t
          refine XS.istore X61.here hx rfl (hb hby at_267) rfl (l' := #[.val (.int p0), .val (.long q1), .second, .val (.long q2), .second, .val (.long q3), .second, .val (.long q4), .second, .val (.long q5), .second, .val (.long (1152921504606846975 : Int64)), .second, .val (.long l0), .second, .val (.long l1), .second, .val (.long l2), .second, .val (.long l3), .second, .val (.int (3 : Int32)), .val (.int mode), .val (.long q5), .second, .val (.ref b40), .val (.ref b46), .val (.int (1 : Int32))]) rfl ?_
          show Steps p.tables e below (T61.setTop (mkF m 269 #[.val (.int p0), .val (.long q1), .second, .val (.long q2), .second, .val (.long q3), .second, .val (.long q4), .second, .val (.long q5), .second, .val (.long (1152921504606846975 : Int64)), .second, .val (.long l0), .second, .val (.long l1), .second, .val (.long l2), .second, .val (.long l3), .second, .val (.int (3 : Int32)), .val (.int mode), .val (.long q5), .second, .val (.ref b40), .val (.ref b46), .val (.int (1 : Int32))] [])) t
          rw [if_neg hc263_63] at kt
          exact kt
      refine own_go (T' := T61) (f' := (mkF m 280 #[.val (.int p0), .val (.long q1), .second, .val (.long q2), .second, .val (.long q3), .second, .val (.long q4), .second, .val (.long q5), .second, .val (.long (1152921504606846975 : Int64)), .second, .val (.long l0), .second, .val (.long l1), .second, .val (.long l2), .second, .val (.long l3), .second, .val (.int (3 : Int32)), .val (.int mode), .val (.long q5), .second, .val (.ref b40), .val (.ref b46), .val (.int (if q5 < l1 then (if q5 < l0 then (-1 : Int32) else (0 : Int32)) else (1 : Int32)))] [(.int (lcmpW l2 q5))])) (fun t kt => ?_) ?_
      · show Steps p.tables e below (T61.setTop (mkF m 269 #[.val (.int p0), .val (.long q1), .second, .val (.long q2), .second, .val (.long q3), .second, .val (.long q4), .second, .val (.long q5), .second, .val (.long (1152921504606846975 : Int64)), .second, .val (.long l0), .second, .val (.long l1), .second, .val (.long l2), .second, .val (.long l3), .second, .val (.int (3 : Int32)), .val (.int mode), .val (.long q5), .second, .val (.ref b40), .val (.ref b46), .val (.int (if q5 < l1 then (if q5 < l0 then (-1 : Int32) else (0 : Int32)) else (1 : Int32)))] [])) t
        refine XS.iload X61.here hx rfl (hb hby at_269) rfl ?_
        show Steps p.tables e below (T61.setTop (mkF m 271 #[.val (.int p0), .val (.long q1), .second, .val (.long q2), .second, .val (.long q3), .second, .val (.long q4), .second, .val (.long q5), .second, .val (.long (1152921504606846975 : Int64)), .second, .val (.long l0), .second, .val (.long l1), .second, .val (.long l2), .second, .val (.long l3), .second, .val (.int (3 : Int32)), .val (.int mode), .val (.long q5), .second, .val (.ref b40), .val (.ref b46), .val (.int (if q5 < l1 then (if q5 < l0 then (-1 : Int32) else (0 : Int32)) else (1 : Int32)))] [(.int (3 : Int32))])) t
        refine XS.iconst X61.here hx rfl (hb hby at_271) ?_
        show Steps p.tables e below (T61.setTop (mkF m 272 #[.val (.int p0), .val (.long q1), .second, .val (.long q2), .second, .val (.long q3), .second, .val (.long q4), .second, .val (.long q5), .second, .val (.long (1152921504606846975 : Int64)), .second, .val (.long l0), .second, .val (.long l1), .second, .val (.long l2), .second, .val (.long l3), .second, .val (.int (3 : Int32)), .val (.int mode), .val (.long q5), .second, .val (.ref b40), .val (.ref b46), .val (.int (if q5 < l1 then (if q5 < l0 then (-1 : Int32) else (0 : Int32)) else (1 : Int32)))] [(.int (2 : Int32)), (.int (3 : Int32))])) t
        refine XS.icmpNo X61.here hx rfl (hb hby at_272) rfl (by decide) ?_
        show Steps p.tables e below (T61.setTop (mkF m 275 #[.val (.int p0), .val (.long q1), .second, .val (.long q2), .second, .val (.long q3), .second, .val (.long q4), .second, .val (.long q5), .second, .val (.long (1152921504606846975 : Int64)), .second, .val (.long l0), .second, .val (.long l1), .second, .val (.long l2), .second, .val (.long l3), .second, .val (.int (3 : Int32)), .val (.int mode), .val (.long q5), .second, .val (.ref b40), .val (.ref b46), .val (.int (if q5 < l1 then (if q5 < l0 then (-1 : Int32) else (0 : Int32)) else (1 : Int32)))] [])) t
        refine XS.lload X61.here hx rfl (hb hby at_275) rfl ?_
        show Steps p.tables e below (T61.setTop (mkF m 277 #[.val (.int p0), .val (.long q1), .second, .val (.long q2), .second, .val (.long q3), .second, .val (.long q4), .second, .val (.long q5), .second, .val (.long (1152921504606846975 : Int64)), .second, .val (.long l0), .second, .val (.long l1), .second, .val (.long l2), .second, .val (.long l3), .second, .val (.int (3 : Int32)), .val (.int mode), .val (.long q5), .second, .val (.ref b40), .val (.ref b46), .val (.int (if q5 < l1 then (if q5 < l0 then (-1 : Int32) else (0 : Int32)) else (1 : Int32)))] [(.long l2)])) t
        refine XS.lload X61.here hx rfl (hb hby at_277) rfl ?_
        show Steps p.tables e below (T61.setTop (mkF m 279 #[.val (.int p0), .val (.long q1), .second, .val (.long q2), .second, .val (.long q3), .second, .val (.long q4), .second, .val (.long q5), .second, .val (.long (1152921504606846975 : Int64)), .second, .val (.long l0), .second, .val (.long l1), .second, .val (.long l2), .second, .val (.long l3), .second, .val (.int (3 : Int32)), .val (.int mode), .val (.long q5), .second, .val (.ref b40), .val (.ref b46), .val (.int (if q5 < l1 then (if q5 < l0 then (-1 : Int32) else (0 : Int32)) else (1 : Int32)))] [(.long q5), (.long l2)])) t
        refine XS.lcmp X61.here hx rfl (hb hby at_279) rfl ?_
        show Steps p.tables e below (T61.setTop (mkF m 280 #[.val (.int p0), .val (.long q1), .second, .val (.long q2), .second, .val (.long q3), .second, .val (.long q4), .second, .val (.long q5), .second, .val (.long (1152921504606846975 : Int64)), .second, .val (.long l0), .second, .val (.long l1), .second, .val (.long l2), .second, .val (.long l3), .second, .val (.int (3 : Int32)), .val (.int mode), .val (.long q5), .second, .val (.ref b40), .val (.ref b46), .val (.int (if q5 < l1 then (if q5 < l0 then (-1 : Int32) else (0 : Int32)) else (1 : Int32)))] [(.int (lcmpW l2 q5))])) t
        exact kt
      refine own_go (T' := T61) (f' := (mkF m 286 #[.val (.int p0), .val (.long q1), .second, .val (.long q2), .second, .val (.long q3), .second, .val (.long q4), .second, .val (.long q5), .second, .val (.long (1152921504606846975 : Int64)), .second, .val (.long l0), .second, .val (.long l1), .second, .val (.long l2), .second, .val (.long l3), .second, .val (.int (3 : Int32)), .val (.int mode), .val (.long q5), .second, .val (.ref b40), .val (.ref b46), .val (.int (if q5 < l2 then (if q5 < l1 then (if q5 < l0 then (-1 : Int32) else (0 : Int32)) else (1 : Int32)) else (2 : Int32)))] [])) (fun t kt => ?_) ?_
      · by_cases hc280_64 : q5 < l2
        · show Steps p.tables e below (T61.setTop (mkF m 280 #[.val (.int p0), .val (.long q1), .second, .val (.long q2), .second, .val (.long q3), .second, .val (.long q4), .second, .val (.long q5), .second, .val (.long (1152921504606846975 : Int64)), .second, .val (.long l0), .second, .val (.long l1), .second, .val (.long l2), .second, .val (.long l3), .second, .val (.int (3 : Int32)), .val (.int mode), .val (.long q5), .second, .val (.ref b40), .val (.ref b46), .val (.int (if q5 < l1 then (if q5 < l0 then (-1 : Int32) else (0 : Int32)) else (1 : Int32)))] [(.int (lcmpW l2 q5))])) t
          refine XS.ifYes X61.here hx rfl (pc0 := 280) (pc' := 286) rfl (hb hby at_280) rfl (own_lY_gt hc280_64) (by decide) (by decide) ?_
          show Steps p.tables e below (T61.setTop (mkF m 286 #[.val (.int p0), .val (.long q1), .second, .val (.long q2), .second, .val (.long q3), .second, .val (.long q4), .second, .val (.long q5), .second, .val (.long (1152921504606846975 : Int64)), .second, .val (.long l0), .second, .val (.long l1), .second, .val (.long l2), .second, .val (.long l3), .second, .val (.int (3 : Int32)), .val (.int mode), .val (.long q5), .second, .val (.ref b40), .val (.ref b46), .val (.int (if q5 < l1 then (if q5 < l0 then (-1 : Int32) else (0 : Int32)) else (1 : Int32)))] [])) t
          rw [if_pos hc280_64] at kt
          exact kt
        · show Steps p.tables e below (T61.setTop (mkF m 280 #[.val (.int p0), .val (.long q1), .second, .val (.long q2), .second, .val (.long q3), .second, .val (.long q4), .second, .val (.long q5), .second, .val (.long (1152921504606846975 : Int64)), .second, .val (.long l0), .second, .val (.long l1), .second, .val (.long l2), .second, .val (.long l3), .second, .val (.int (3 : Int32)), .val (.int mode), .val (.long q5), .second, .val (.ref b40), .val (.ref b46), .val (.int (if q5 < l1 then (if q5 < l0 then (-1 : Int32) else (0 : Int32)) else (1 : Int32)))] [(.int (lcmpW l2 q5))])) t
          refine XS.ifNo X61.here hx rfl (hb hby at_280) rfl (own_lN_gt hc280_64) ?_
          show Steps p.tables e below (T61.setTop (mkF m 283 #[.val (.int p0), .val (.long q1), .second, .val (.long q2), .second, .val (.long q3), .second, .val (.long q4), .second, .val (.long q5), .second, .val (.long (1152921504606846975 : Int64)), .second, .val (.long l0), .second, .val (.long l1), .second, .val (.long l2), .second, .val (.long l3), .second, .val (.int (3 : Int32)), .val (.int mode), .val (.long q5), .second, .val (.ref b40), .val (.ref b46), .val (.int (if q5 < l1 then (if q5 < l0 then (-1 : Int32) else (0 : Int32)) else (1 : Int32)))] [])) t
          refine XS.iconst X61.here hx rfl (hb hby at_283) ?_
          show Steps p.tables e below (T61.setTop (mkF m 284 #[.val (.int p0), .val (.long q1), .second, .val (.long q2), .second, .val (.long q3), .second, .val (.long q4), .second, .val (.long q5), .second, .val (.long (1152921504606846975 : Int64)), .second, .val (.long l0), .second, .val (.long l1), .second, .val (.long l2), .second, .val (.long l3), .second, .val (.int (3 : Int32)), .val (.int mode), .val (.long q5), .second, .val (.ref b40), .val (.ref b46), .val (.int (if q5 < l1 then (if q5 < l0 then (-1 : Int32) else (0 : Int32)) else (1 : Int32)))] [(.int (2 : Int32))])) t
          refine XS.istore X61.here hx rfl (hb hby at_284) rfl (l' := #[.val (.int p0), .val (.long q1), .second, .val (.long q2), .second, .val (.long q3), .second, .val (.long q4), .second, .val (.long q5), .second, .val (.long (1152921504606846975 : Int64)), .second, .val (.long l0), .second, .val (.long l1), .second, .val (.long l2), .second, .val (.long l3), .second, .val (.int (3 : Int32)), .val (.int mode), .val (.long q5), .second, .val (.ref b40), .val (.ref b46), .val (.int (2 : Int32))]) rfl ?_
          show Steps p.tables e below (T61.setTop (mkF m 286 #[.val (.int p0), .val (.long q1), .second, .val (.long q2), .second, .val (.long q3), .second, .val (.long q4), .second, .val (.long q5), .second, .val (.long (1152921504606846975 : Int64)), .second, .val (.long l0), .second, .val (.long l1), .second, .val (.long l2), .second, .val (.long l3), .second, .val (.int (3 : Int32)), .val (.int mode), .val (.long q5), .second, .val (.ref b40), .val (.ref b46), .val (.int (2 : Int32))] [])) t
          rw [if_neg hc280_64] at kt
          exact kt
      refine own_go (T' := T61) (f' := (mkF m 307 #[.val (.int p0), .val (.long q1), .second, .val (.long q2), .second, .val (.long q3), .second, .val (.long q4), .second, .val (.long q5), .second, .val (.long (1152921504606846975 : Int64)), .second, .val (.long l0), .second, .val (.long l1), .second, .val (.long l2), .second, .val (.long l3), .second, .val (.int (3 : Int32)), .val (.int mode), .val (.long q5), .second, .val (.ref b40), .val (.ref b46), .val (.int (if q5 < l2 then (if q5 < l1 then (if q5 < l0 then (-1 : Int32) else (0 : Int32)) else (1 : Int32)) else (2 : Int32)))] [(.long q5), (.ref b46)])) (fun t kt => ?_) ?_
      · show Steps p.tables e below (T61.setTop (mkF m 286 #[.val (.int p0), .val (.long q1), .second, .val (.long q2), .second, .val (.long q3), .second, .val (.long q4), .second, .val (.long q5), .second, .val (.long (1152921504606846975 : Int64)), .second, .val (.long l0), .second, .val (.long l1), .second, .val (.long l2), .second, .val (.long l3), .second, .val (.int (3 : Int32)), .val (.int mode), .val (.long q5), .second, .val (.ref b40), .val (.ref b46), .val (.int (if q5 < l2 then (if q5 < l1 then (if q5 < l0 then (-1 : Int32) else (0 : Int32)) else (1 : Int32)) else (2 : Int32)))] [])) t
        refine XS.iload X61.here hx rfl (hb hby at_286) rfl ?_
        show Steps p.tables e below (T61.setTop (mkF m 288 #[.val (.int p0), .val (.long q1), .second, .val (.long q2), .second, .val (.long q3), .second, .val (.long q4), .second, .val (.long q5), .second, .val (.long (1152921504606846975 : Int64)), .second, .val (.long l0), .second, .val (.long l1), .second, .val (.long l2), .second, .val (.long l3), .second, .val (.int (3 : Int32)), .val (.int mode), .val (.long q5), .second, .val (.ref b40), .val (.ref b46), .val (.int (if q5 < l2 then (if q5 < l1 then (if q5 < l0 then (-1 : Int32) else (0 : Int32)) else (1 : Int32)) else (2 : Int32)))] [(.int (3 : Int32))])) t
        refine XS.iconst X61.here hx rfl (hb hby at_288) ?_
        show Steps p.tables e below (T61.setTop (mkF m 289 #[.val (.int p0), .val (.long q1), .second, .val (.long q2), .second, .val (.long q3), .second, .val (.long q4), .second, .val (.long q5), .second, .val (.long (1152921504606846975 : Int64)), .second, .val (.long l0), .second, .val (.long l1), .second, .val (.long l2), .second, .val (.long l3), .second, .val (.int (3 : Int32)), .val (.int mode), .val (.long q5), .second, .val (.ref b40), .val (.ref b46), .val (.int (if q5 < l2 then (if q5 < l1 then (if q5 < l0 then (-1 : Int32) else (0 : Int32)) else (1 : Int32)) else (2 : Int32)))] [(.int (3 : Int32)), (.int (3 : Int32))])) t
        refine XS.icmpYes X61.here hx rfl (pc0 := 289) (pc' := 303) rfl (hb hby at_289) rfl (by decide) (by decide) (by decide) ?_
        show Steps p.tables e below (T61.setTop (mkF m 303 #[.val (.int p0), .val (.long q1), .second, .val (.long q2), .second, .val (.long q3), .second, .val (.long q4), .second, .val (.long q5), .second, .val (.long (1152921504606846975 : Int64)), .second, .val (.long l0), .second, .val (.long l1), .second, .val (.long l2), .second, .val (.long l3), .second, .val (.int (3 : Int32)), .val (.int mode), .val (.long q5), .second, .val (.ref b40), .val (.ref b46), .val (.int (if q5 < l2 then (if q5 < l1 then (if q5 < l0 then (-1 : Int32) else (0 : Int32)) else (1 : Int32)) else (2 : Int32)))] [])) t
        refine XS.aload X61.here hx rfl (hb hby at_303) rfl rfl ?_
        show Steps p.tables e below (T61.setTop (mkF m 305 #[.val (.int p0), .val (.long q1), .second, .val (.long q2), .second, .val (.long q3), .second, .val (.long q4), .second, .val (.long q5), .second, .val (.long (1152921504606846975 : Int64)), .second, .val (.long l0), .second, .val (.long l1), .second, .val (.long l2), .second, .val (.long l3), .second, .val (.int (3 : Int32)), .val (.int mode), .val (.long q5), .second, .val (.ref b40), .val (.ref b46), .val (.int (if q5 < l2 then (if q5 < l1 then (if q5 < l0 then (-1 : Int32) else (0 : Int32)) else (1 : Int32)) else (2 : Int32)))] [(.ref b46)])) t
        refine XS.lload X61.here hx rfl (hb hby at_305) rfl ?_
        show Steps p.tables e below (T61.setTop (mkF m 307 #[.val (.int p0), .val (.long q1), .second, .val (.long q2), .second, .val (.long q3), .second, .val (.long q4), .second, .val (.long q5), .second, .val (.long (1152921504606846975 : Int64)), .second, .val (.long l0), .second, .val (.long l1), .second, .val (.long l2), .second, .val (.long l3), .second, .val (.int (3 : Int32)), .val (.int mode), .val (.long q5), .second, .val (.ref b40), .val (.ref b46), .val (.int (if q5 < l2 then (if q5 < l1 then (if q5 < l0 then (-1 : Int32) else (0 : Int32)) else (1 : Int32)) else (2 : Int32)))] [(.long q5), (.ref b46)])) t
        exact kt
      refine own_callVp X61 hx hZ hown rfl (hw _ (List.mem_of_getElem? (i := 78) rfl)) (hw _ (List.mem_of_getElem? (i := 79) rfl)) (notFace_of_selects (args := #[]) (mvT hZ (hw _ (List.mem_of_getElem? (i := 81) rfl)))) (hw _ (List.mem_of_getElem? (i := 81) rfl)) (hw _ (List.mem_of_getElem? (i := 80) rfl)) (hw _ (List.mem_of_getElem? (i := 44) rfl)) (hw _ (List.mem_of_getElem? (i := 82) rfl)) (by decide) (rm7 l Z aw hw b46 q5 r47 f3 ((((0 : Int32) + (1 : Int32)) + (1 : Int32)) + (1 : Int32)) 3 T61.heap n0 ZKq61 Pq61_1 Pq61_2 Pq61_5 (by decide) (by decide) (own_q3 hl0 hl1 hl2 hl3 hf1 hf2 hf3)) Pq61_0 (g := (mkF m 307 #[.val (.int p0), .val (.long q1), .second, .val (.long q2), .second, .val (.long q3), .second, .val (.long q4), .second, .val (.long q5), .second, .val (.long (1152921504606846975 : Int64)), .second, .val (.long l0), .second, .val (.long l1), .second, .val (.long l2), .second, .val (.long l3), .second, .val (.int (3 : Int32)), .val (.int mode), .val (.long q5), .second, .val (.ref b40), .val (.ref b46), .val (.int (if q5 < l2 then (if q5 < l1 then (if q5 < l0 then (-1 : Int32) else (0 : Int32)) else (1 : Int32)) else (2 : Int32)))] [(.long q5), (.ref b46)])) rfl (by rw [hml]; rfl) (argsL := [(.long q5)]) (rest := []) (lenOf pd_5 rfl) rfl rfl (W := 0) (by show 2 * 0 + _ ≤ _; exact Nat.le_of_eq rfl) (hb hby at_307) (by decide) (by decide) (by decide) (by decide) ?_
      intro T65 X65 e65
      refine own_go (T' := T65) (f' := (mkF m 320 #[.val (.int p0), .val (.long q1), .second, .val (.long q2), .second, .val (.long q3), .second, .val (.long q4), .second, .val (.long q5), .second, .val (.long (1152921504606846975 : Int64)), .second, .val (.long l0), .second, .val (.long l1), .second, .val (.long l2), .second, .val (.long l3), .second, .val (.int (3 : Int32)), .val (.int mode), .val (.long q5), .second, .val (.ref b40), .val (.ref b46), .val (.int (if q5 < l2 then (if q5 < l1 then (if q5 < l0 then (-1 : Int32) else (0 : Int32)) else (1 : Int32)) else (2 : Int32)))] [(.int (1 : Int32))])) (fun t kt => ?_) ?_
      · show Steps p.tables e below (T65.setTop (mkF m 310 #[.val (.int p0), .val (.long q1), .second, .val (.long q2), .second, .val (.long q3), .second, .val (.long q4), .second, .val (.long q5), .second, .val (.long (1152921504606846975 : Int64)), .second, .val (.long l0), .second, .val (.long l1), .second, .val (.long l2), .second, .val (.long l3), .second, .val (.int (3 : Int32)), .val (.int mode), .val (.long q5), .second, .val (.ref b40), .val (.ref b46), .val (.int (if q5 < l2 then (if q5 < l1 then (if q5 < l0 then (-1 : Int32) else (0 : Int32)) else (1 : Int32)) else (2 : Int32)))] [(.int ((Int32.ofNat (own_cl 3 f3 q5)) - (1 : Int32)))])) t
        refine XS.iload X65.here hx rfl (hb hby at_310) rfl ?_
        show Steps p.tables e below (T65.setTop (mkF m 312 #[.val (.int p0), .val (.long q1), .second, .val (.long q2), .second, .val (.long q3), .second, .val (.long q4), .second, .val (.long q5), .second, .val (.long (1152921504606846975 : Int64)), .second, .val (.long l0), .second, .val (.long l1), .second, .val (.long l2), .second, .val (.long l3), .second, .val (.int (3 : Int32)), .val (.int mode), .val (.long q5), .second, .val (.ref b40), .val (.ref b46), .val (.int (if q5 < l2 then (if q5 < l1 then (if q5 < l0 then (-1 : Int32) else (0 : Int32)) else (1 : Int32)) else (2 : Int32)))] [(.int (if q5 < l2 then (if q5 < l1 then (if q5 < l0 then (-1 : Int32) else (0 : Int32)) else (1 : Int32)) else (2 : Int32))), (.int ((Int32.ofNat (own_cl 3 f3 q5)) - (1 : Int32)))])) t
        refine XS.icmpNo X65.here hx rfl (hb hby at_312) rfl (teq (show ((Int32.ofNat (own_cl 3 f3 q5)) - (1 : Int32)) = (if q5 < l2 then (if q5 < l1 then (if q5 < l0 then (-1 : Int32) else (0 : Int32)) else (1 : Int32)) else (2 : Int32)) from own_v3 hl0 hl1 hl2 hl3 hf1 hf2 hf3)).2 ?_
        show Steps p.tables e below (T65.setTop (mkF m 315 #[.val (.int p0), .val (.long q1), .second, .val (.long q2), .second, .val (.long q3), .second, .val (.long q4), .second, .val (.long q5), .second, .val (.long (1152921504606846975 : Int64)), .second, .val (.long l0), .second, .val (.long l1), .second, .val (.long l2), .second, .val (.long l3), .second, .val (.int (3 : Int32)), .val (.int mode), .val (.long q5), .second, .val (.ref b40), .val (.ref b46), .val (.int (if q5 < l2 then (if q5 < l1 then (if q5 < l0 then (-1 : Int32) else (0 : Int32)) else (1 : Int32)) else (2 : Int32)))] [])) t
        refine XS.iconst X65.here hx rfl (hb hby at_315) ?_
        show Steps p.tables e below (T65.setTop (mkF m 316 #[.val (.int p0), .val (.long q1), .second, .val (.long q2), .second, .val (.long q3), .second, .val (.long q4), .second, .val (.long q5), .second, .val (.long (1152921504606846975 : Int64)), .second, .val (.long l0), .second, .val (.long l1), .second, .val (.long l2), .second, .val (.long l3), .second, .val (.int (3 : Int32)), .val (.int mode), .val (.long q5), .second, .val (.ref b40), .val (.ref b46), .val (.int (if q5 < l2 then (if q5 < l1 then (if q5 < l0 then (-1 : Int32) else (0 : Int32)) else (1 : Int32)) else (2 : Int32)))] [(.int (1 : Int32))])) t
        refine XS.goto X65.here hx rfl (pc0 := 316) (pc' := 320) rfl (hb hby at_316) (by decide) (by decide) ?_
        show Steps p.tables e below (T65.setTop (mkF m 320 #[.val (.int p0), .val (.long q1), .second, .val (.long q2), .second, .val (.long q3), .second, .val (.long q4), .second, .val (.long q5), .second, .val (.long (1152921504606846975 : Int64)), .second, .val (.long l0), .second, .val (.long l1), .second, .val (.long l2), .second, .val (.long l3), .second, .val (.int (3 : Int32)), .val (.int mode), .val (.long q5), .second, .val (.ref b40), .val (.ref b46), .val (.int (if q5 < l2 then (if q5 < l1 then (if q5 < l0 then (-1 : Int32) else (0 : Int32)) else (1 : Int32)) else (2 : Int32)))] [(.int (1 : Int32))])) t
        exact kt
      exact own_retNW X65 hP hx hlk e65 hS kzKq61 (t := .boolean) hret (by simp) (hb hby at_320) (by decide) (by decide) (z' := (1 : Int32)) rfl ⟨rfl, N61⟩
    · rw [hn5]
      refine own_go (T' := T49) (f' := (mkF m 191 #[.val (.int p0), .val (.long q1), .second, .val (.long q2), .second, .val (.long q3), .second, .val (.long q4), .second, .val (.long q5), .second, .val (.long (1152921504606846975 : Int64)), .second, .val (.long l0), .second, .val (.long l1), .second, .val (.long l2), .second, .val (.long l3), .second, .val (.int (4 : Int32)), .val (.int mode), .val (.long q5), .second, .val (.ref b40), .val (.ref b46), .unset] [(.long l0), (.ref b46)])) (fun t kt => ?_) ?_
      · show Steps p.tables e below (T49.setTop (mkF m 182 #[.val (.int p0), .val (.long q1), .second, .val (.long q2), .second, .val (.long q3), .second, .val (.long q4), .second, .val (.long q5), .second, .val (.long (1152921504606846975 : Int64)), .second, .val (.long l0), .second, .val (.long l1), .second, .val (.long l2), .second, .val (.long l3), .second, .val (.int (4 : Int32)), .val (.int mode), .val (.long q5), .second, .val (.ref b40), .val (.ref b46), .unset] [])) t
        refine XS.iload X49.here hx rfl (hb hby at_182) rfl ?_
        show Steps p.tables e below (T49.setTop (mkF m 184 #[.val (.int p0), .val (.long q1), .second, .val (.long q2), .second, .val (.long q3), .second, .val (.long q4), .second, .val (.long q5), .second, .val (.long (1152921504606846975 : Int64)), .second, .val (.long l0), .second, .val (.long l1), .second, .val (.long l2), .second, .val (.long l3), .second, .val (.int (4 : Int32)), .val (.int mode), .val (.long q5), .second, .val (.ref b40), .val (.ref b46), .unset] [(.int (4 : Int32))])) t
        refine XS.ifNo X49.here hx rfl (hb hby at_184) rfl (by decide) ?_
        show Steps p.tables e below (T49.setTop (mkF m 187 #[.val (.int p0), .val (.long q1), .second, .val (.long q2), .second, .val (.long q3), .second, .val (.long q4), .second, .val (.long q5), .second, .val (.long (1152921504606846975 : Int64)), .second, .val (.long l0), .second, .val (.long l1), .second, .val (.long l2), .second, .val (.long l3), .second, .val (.int (4 : Int32)), .val (.int mode), .val (.long q5), .second, .val (.ref b40), .val (.ref b46), .unset] [])) t
        refine XS.aload X49.here hx rfl (hb hby at_187) rfl rfl ?_
        show Steps p.tables e below (T49.setTop (mkF m 189 #[.val (.int p0), .val (.long q1), .second, .val (.long q2), .second, .val (.long q3), .second, .val (.long q4), .second, .val (.long q5), .second, .val (.long (1152921504606846975 : Int64)), .second, .val (.long l0), .second, .val (.long l1), .second, .val (.long l2), .second, .val (.long l3), .second, .val (.int (4 : Int32)), .val (.int mode), .val (.long q5), .second, .val (.ref b40), .val (.ref b46), .unset] [(.ref b46)])) t
        refine XS.lload X49.here hx rfl (hb hby at_189) rfl ?_
        show Steps p.tables e below (T49.setTop (mkF m 191 #[.val (.int p0), .val (.long q1), .second, .val (.long q2), .second, .val (.long q3), .second, .val (.long q4), .second, .val (.long q5), .second, .val (.long (1152921504606846975 : Int64)), .second, .val (.long l0), .second, .val (.long l1), .second, .val (.long l2), .second, .val (.long l3), .second, .val (.int (4 : Int32)), .val (.int mode), .val (.long q5), .second, .val (.ref b40), .val (.ref b46), .unset] [(.long l0), (.ref b46)])) t
        exact kt
      refine own_callV X49 hx hZ hown rfl (hw _ (List.mem_of_getElem? (i := 83) rfl)) (hw _ (List.mem_of_getElem? (i := 84) rfl)) (notFace_of_selects (args := #[]) (mvT hZ (hw _ (List.mem_of_getElem? (i := 86) rfl)))) (hw _ (List.mem_of_getElem? (i := 86) rfl)) (hw _ (List.mem_of_getElem? (i := 85) rfl)) (hw _ (List.mem_of_getElem? (i := 44) rfl)) (hw _ (List.mem_of_getElem? (i := 87) rfl)) (by decide) (rm8 l Z aw hw b46 l0 r47 4 (fun _ => (0 : Int64)) (0 : Int32) 0 (.int ((own_z (¬ ((p0 &&& (256 : Int32)) = (0 : Int32)))) &&& (1 : Int32))) (.long (0 : Int64)) T49.heap n0 ZKq49 Pq49_0 g_b46 g_r47 (ne_b46_r47) (ne_r47_b46) Pq49_1 Pq49_4 Pq49_2 Pq49_3 Ar_r47 (by decide) (by decide)) Pq49_0 (g := (mkF m 191 #[.val (.int p0), .val (.long q1), .second, .val (.long q2), .second, .val (.long q3), .second, .val (.long q4), .second, .val (.long q5), .second, .val (.long (1152921504606846975 : Int64)), .second, .val (.long l0), .second, .val (.long l1), .second, .val (.long l2), .second, .val (.long l3), .second, .val (.int (4 : Int32)), .val (.int mode), .val (.long q5), .second, .val (.ref b40), .val (.ref b46), .unset] [(.long l0), (.ref b46)])) rfl (by rw [hml]; rfl) (argsL := [(.long l0)]) (rest := []) (lenOf pd_6 rfl) rfl rfl (W := 0) (by show 2 * 0 + _ ≤ _; exact Nat.le_of_eq rfl) (hb hby at_191) (by decide) (by decide) (by decide) (by decide) ?_
      rintro _ T66 L66 X66 ⟨rfl, Nq66, Kq66, Pq66_0, Pq66_1, Pq66_2, Pq66_3, Pq66_4, Pq66_5⟩
      have N66 := Fr.app N49 Nq66
      replace Pq45_0 := (Pq45_0.keep Kq66)
      replace F_r45 := (F_r45.keep Kq66 (ninS (ne_b40_b46) (ninS (ne_b40_r47) nin0)))
      replace Ar_r45 := (Ar_r45.keep Kq66 (ninS (ne_r45_b46) (ninS (ne_r45_r47) nin0)))
      replace Pq49_0 := (Pq49_0.keep Kq66)
      have ZKq66 : n0 ≤ T66.heap.size := Nat.le_trans ZKq49 Kq66.1
      have KKKq66 := KKKq49.trans Kq66 ((allS (Or.inr sz_b46) (allS (Or.inr sz_r47) all0)))
      have kzKq66 := Nat.le_trans kzKq49 Kq66.1
      obtain ⟨f1, hf1⟩ : ∃ z, z = (own_set (fun _ => (0 : Int64)) 0 l0) := ⟨_, rfl⟩
      rw [← hf1] at Pq66_5
      refine own_go (T' := T66) (f' := (mkF m 204 #[.val (.int p0), .val (.long q1), .second, .val (.long q2), .second, .val (.long q3), .second, .val (.long q4), .second, .val (.long q5), .second, .val (.long (1152921504606846975 : Int64)), .second, .val (.long l0), .second, .val (.long l1), .second, .val (.long l2), .second, .val (.long l3), .second, .val (.int (4 : Int32)), .val (.int mode), .val (.long q5), .second, .val (.ref b40), .val (.ref b46), .unset] [(.long l1), (.ref b46)])) (fun t kt => ?_) ?_
      · show Steps p.tables e below (T66.setTop (mkF m 194 #[.val (.int p0), .val (.long q1), .second, .val (.long q2), .second, .val (.long q3), .second, .val (.long q4), .second, .val (.long q5), .second, .val (.long (1152921504606846975 : Int64)), .second, .val (.long l0), .second, .val (.long l1), .second, .val (.long l2), .second, .val (.long l3), .second, .val (.int (4 : Int32)), .val (.int mode), .val (.long q5), .second, .val (.ref b40), .val (.ref b46), .unset] [])) t
        refine XS.iload X66.here hx rfl (hb hby at_194) rfl ?_
        show Steps p.tables e below (T66.setTop (mkF m 196 #[.val (.int p0), .val (.long q1), .second, .val (.long q2), .second, .val (.long q3), .second, .val (.long q4), .second, .val (.long q5), .second, .val (.long (1152921504606846975 : Int64)), .second, .val (.long l0), .second, .val (.long l1), .second, .val (.long l2), .second, .val (.long l3), .second, .val (.int (4 : Int32)), .val (.int mode), .val (.long q5), .second, .val (.ref b40), .val (.ref b46), .unset] [(.int (4 : Int32))])) t
        refine XS.iconst X66.here hx rfl (hb hby at_196) ?_
        show Steps p.tables e below (T66.setTop (mkF m 197 #[.val (.int p0), .val (.long q1), .second, .val (.long q2), .second, .val (.long q3), .second, .val (.long q4), .second, .val (.long q5), .second, .val (.long (1152921504606846975 : Int64)), .second, .val (.long l0), .second, .val (.long l1), .second, .val (.long l2), .second, .val (.long l3), .second, .val (.int (4 : Int32)), .val (.int mode), .val (.long q5), .second, .val (.ref b40), .val (.ref b46), .unset] [(.int (1 : Int32)), (.int (4 : Int32))])) t
        refine XS.icmpNo X66.here hx rfl (hb hby at_197) rfl (by decide) ?_
        show Steps p.tables e below (T66.setTop (mkF m 200 #[.val (.int p0), .val (.long q1), .second, .val (.long q2), .second, .val (.long q3), .second, .val (.long q4), .second, .val (.long q5), .second, .val (.long (1152921504606846975 : Int64)), .second, .val (.long l0), .second, .val (.long l1), .second, .val (.long l2), .second, .val (.long l3), .second, .val (.int (4 : Int32)), .val (.int mode), .val (.long q5), .second, .val (.ref b40), .val (.ref b46), .unset] [])) t
        refine XS.aload X66.here hx rfl (hb hby at_200) rfl rfl ?_
        show Steps p.tables e below (T66.setTop (mkF m 202 #[.val (.int p0), .val (.long q1), .second, .val (.long q2), .second, .val (.long q3), .second, .val (.long q4), .second, .val (.long q5), .second, .val (.long (1152921504606846975 : Int64)), .second, .val (.long l0), .second, .val (.long l1), .second, .val (.long l2), .second, .val (.long l3), .second, .val (.int (4 : Int32)), .val (.int mode), .val (.long q5), .second, .val (.ref b40), .val (.ref b46), .unset] [(.ref b46)])) t
        refine XS.lload X66.here hx rfl (hb hby at_202) rfl ?_
        show Steps p.tables e below (T66.setTop (mkF m 204 #[.val (.int p0), .val (.long q1), .second, .val (.long q2), .second, .val (.long q3), .second, .val (.long q4), .second, .val (.long q5), .second, .val (.long (1152921504606846975 : Int64)), .second, .val (.long l0), .second, .val (.long l1), .second, .val (.long l2), .second, .val (.long l3), .second, .val (.int (4 : Int32)), .val (.int mode), .val (.long q5), .second, .val (.ref b40), .val (.ref b46), .unset] [(.long l1), (.ref b46)])) t
        exact kt
      refine own_callV X66 hx hZ hown rfl (hw _ (List.mem_of_getElem? (i := 83) rfl)) (hw _ (List.mem_of_getElem? (i := 84) rfl)) (notFace_of_selects (args := #[]) (mvT hZ (hw _ (List.mem_of_getElem? (i := 86) rfl)))) (hw _ (List.mem_of_getElem? (i := 86) rfl)) (hw _ (List.mem_of_getElem? (i := 85) rfl)) (hw _ (List.mem_of_getElem? (i := 44) rfl)) (hw _ (List.mem_of_getElem? (i := 87) rfl)) (by decide) (rm8 l Z aw hw b46 l1 r47 4 f1 ((0 : Int32) + (1 : Int32)) 1 (.int ((own_z (¬ ((p0 &&& (256 : Int32)) = (0 : Int32)))) &&& (1 : Int32))) (.long (0 : Int64)) T66.heap n0 ZKq66 Pq66_0 g_b46 g_r47 (ne_b46_r47) (ne_r47_b46) Pq66_1 Pq66_2 Pq66_3 Pq66_4 Pq66_5 (by decide) (by decide)) Pq66_0 (g := (mkF m 204 #[.val (.int p0), .val (.long q1), .second, .val (.long q2), .second, .val (.long q3), .second, .val (.long q4), .second, .val (.long q5), .second, .val (.long (1152921504606846975 : Int64)), .second, .val (.long l0), .second, .val (.long l1), .second, .val (.long l2), .second, .val (.long l3), .second, .val (.int (4 : Int32)), .val (.int mode), .val (.long q5), .second, .val (.ref b40), .val (.ref b46), .unset] [(.long l1), (.ref b46)])) rfl (by rw [hml]; rfl) (argsL := [(.long l1)]) (rest := []) (lenOf pd_6 rfl) rfl rfl (W := 0) (by show 2 * 0 + _ ≤ _; exact Nat.le_of_eq rfl) (hb hby at_204) (by decide) (by decide) (by decide) (by decide) ?_
      rintro _ T67 L67 X67 ⟨rfl, Nq67, Kq67, Pq67_0, Pq67_1, Pq67_2, Pq67_3, Pq67_4, Pq67_5⟩
      have N67 := Fr.app N66 Nq67
      replace Pq45_0 := (Pq45_0.keep Kq67)
      replace F_r45 := (F_r45.keep Kq67 (ninS (ne_b40_b46) (ninS (ne_b40_r47) nin0)))
      replace Ar_r45 := (Ar_r45.keep Kq67 (ninS (ne_r45_b46) (ninS (ne_r45_r47) nin0)))
      replace Pq66_0 := (Pq66_0.keep Kq67)
      have ZKq67 : n0 ≤ T67.heap.size := Nat.le_trans ZKq66 Kq67.1
      have KKKq67 := KKKq66.trans Kq67 ((allS (Or.inr sz_b46) (allS (Or.inr sz_r47) all0)))
      have kzKq67 := Nat.le_trans kzKq66 Kq67.1
      obtain ⟨f2, hf2⟩ : ∃ z, z = (own_set f1 1 l1) := ⟨_, rfl⟩
      rw [← hf2] at Pq67_5
      refine own_go (T' := T67) (f' := (mkF m 217 #[.val (.int p0), .val (.long q1), .second, .val (.long q2), .second, .val (.long q3), .second, .val (.long q4), .second, .val (.long q5), .second, .val (.long (1152921504606846975 : Int64)), .second, .val (.long l0), .second, .val (.long l1), .second, .val (.long l2), .second, .val (.long l3), .second, .val (.int (4 : Int32)), .val (.int mode), .val (.long q5), .second, .val (.ref b40), .val (.ref b46), .unset] [(.long l2), (.ref b46)])) (fun t kt => ?_) ?_
      · show Steps p.tables e below (T67.setTop (mkF m 207 #[.val (.int p0), .val (.long q1), .second, .val (.long q2), .second, .val (.long q3), .second, .val (.long q4), .second, .val (.long q5), .second, .val (.long (1152921504606846975 : Int64)), .second, .val (.long l0), .second, .val (.long l1), .second, .val (.long l2), .second, .val (.long l3), .second, .val (.int (4 : Int32)), .val (.int mode), .val (.long q5), .second, .val (.ref b40), .val (.ref b46), .unset] [])) t
        refine XS.iload X67.here hx rfl (hb hby at_207) rfl ?_
        show Steps p.tables e below (T67.setTop (mkF m 209 #[.val (.int p0), .val (.long q1), .second, .val (.long q2), .second, .val (.long q3), .second, .val (.long q4), .second, .val (.long q5), .second, .val (.long (1152921504606846975 : Int64)), .second, .val (.long l0), .second, .val (.long l1), .second, .val (.long l2), .second, .val (.long l3), .second, .val (.int (4 : Int32)), .val (.int mode), .val (.long q5), .second, .val (.ref b40), .val (.ref b46), .unset] [(.int (4 : Int32))])) t
        refine XS.iconst X67.here hx rfl (hb hby at_209) ?_
        show Steps p.tables e below (T67.setTop (mkF m 210 #[.val (.int p0), .val (.long q1), .second, .val (.long q2), .second, .val (.long q3), .second, .val (.long q4), .second, .val (.long q5), .second, .val (.long (1152921504606846975 : Int64)), .second, .val (.long l0), .second, .val (.long l1), .second, .val (.long l2), .second, .val (.long l3), .second, .val (.int (4 : Int32)), .val (.int mode), .val (.long q5), .second, .val (.ref b40), .val (.ref b46), .unset] [(.int (2 : Int32)), (.int (4 : Int32))])) t
        refine XS.icmpNo X67.here hx rfl (hb hby at_210) rfl (by decide) ?_
        show Steps p.tables e below (T67.setTop (mkF m 213 #[.val (.int p0), .val (.long q1), .second, .val (.long q2), .second, .val (.long q3), .second, .val (.long q4), .second, .val (.long q5), .second, .val (.long (1152921504606846975 : Int64)), .second, .val (.long l0), .second, .val (.long l1), .second, .val (.long l2), .second, .val (.long l3), .second, .val (.int (4 : Int32)), .val (.int mode), .val (.long q5), .second, .val (.ref b40), .val (.ref b46), .unset] [])) t
        refine XS.aload X67.here hx rfl (hb hby at_213) rfl rfl ?_
        show Steps p.tables e below (T67.setTop (mkF m 215 #[.val (.int p0), .val (.long q1), .second, .val (.long q2), .second, .val (.long q3), .second, .val (.long q4), .second, .val (.long q5), .second, .val (.long (1152921504606846975 : Int64)), .second, .val (.long l0), .second, .val (.long l1), .second, .val (.long l2), .second, .val (.long l3), .second, .val (.int (4 : Int32)), .val (.int mode), .val (.long q5), .second, .val (.ref b40), .val (.ref b46), .unset] [(.ref b46)])) t
        refine XS.lload X67.here hx rfl (hb hby at_215) rfl ?_
        show Steps p.tables e below (T67.setTop (mkF m 217 #[.val (.int p0), .val (.long q1), .second, .val (.long q2), .second, .val (.long q3), .second, .val (.long q4), .second, .val (.long q5), .second, .val (.long (1152921504606846975 : Int64)), .second, .val (.long l0), .second, .val (.long l1), .second, .val (.long l2), .second, .val (.long l3), .second, .val (.int (4 : Int32)), .val (.int mode), .val (.long q5), .second, .val (.ref b40), .val (.ref b46), .unset] [(.long l2), (.ref b46)])) t
        exact kt
      refine own_callV X67 hx hZ hown rfl (hw _ (List.mem_of_getElem? (i := 83) rfl)) (hw _ (List.mem_of_getElem? (i := 84) rfl)) (notFace_of_selects (args := #[]) (mvT hZ (hw _ (List.mem_of_getElem? (i := 86) rfl)))) (hw _ (List.mem_of_getElem? (i := 86) rfl)) (hw _ (List.mem_of_getElem? (i := 85) rfl)) (hw _ (List.mem_of_getElem? (i := 44) rfl)) (hw _ (List.mem_of_getElem? (i := 87) rfl)) (by decide) (rm8 l Z aw hw b46 l2 r47 4 f2 (((0 : Int32) + (1 : Int32)) + (1 : Int32)) 2 (.int ((own_z (¬ ((p0 &&& (256 : Int32)) = (0 : Int32)))) &&& (1 : Int32))) (.long (0 : Int64)) T67.heap n0 ZKq67 Pq67_0 g_b46 g_r47 (ne_b46_r47) (ne_r47_b46) Pq67_1 Pq67_2 Pq67_3 Pq67_4 Pq67_5 (by decide) (by decide)) Pq67_0 (g := (mkF m 217 #[.val (.int p0), .val (.long q1), .second, .val (.long q2), .second, .val (.long q3), .second, .val (.long q4), .second, .val (.long q5), .second, .val (.long (1152921504606846975 : Int64)), .second, .val (.long l0), .second, .val (.long l1), .second, .val (.long l2), .second, .val (.long l3), .second, .val (.int (4 : Int32)), .val (.int mode), .val (.long q5), .second, .val (.ref b40), .val (.ref b46), .unset] [(.long l2), (.ref b46)])) rfl (by rw [hml]; rfl) (argsL := [(.long l2)]) (rest := []) (lenOf pd_6 rfl) rfl rfl (W := 0) (by show 2 * 0 + _ ≤ _; exact Nat.le_of_eq rfl) (hb hby at_217) (by decide) (by decide) (by decide) (by decide) ?_
      rintro _ T68 L68 X68 ⟨rfl, Nq68, Kq68, Pq68_0, Pq68_1, Pq68_2, Pq68_3, Pq68_4, Pq68_5⟩
      have N68 := Fr.app N67 Nq68
      replace Pq45_0 := (Pq45_0.keep Kq68)
      replace F_r45 := (F_r45.keep Kq68 (ninS (ne_b40_b46) (ninS (ne_b40_r47) nin0)))
      replace Ar_r45 := (Ar_r45.keep Kq68 (ninS (ne_r45_b46) (ninS (ne_r45_r47) nin0)))
      replace Pq67_0 := (Pq67_0.keep Kq68)
      have ZKq68 : n0 ≤ T68.heap.size := Nat.le_trans ZKq67 Kq68.1
      have KKKq68 := KKKq67.trans Kq68 ((allS (Or.inr sz_b46) (allS (Or.inr sz_r47) all0)))
      have kzKq68 := Nat.le_trans kzKq67 Kq68.1
      obtain ⟨f3, hf3⟩ : ∃ z, z = (own_set f2 2 l2) := ⟨_, rfl⟩
      rw [← hf3] at Pq68_5
      refine own_go (T' := T68) (f' := (mkF m 230 #[.val (.int p0), .val (.long q1), .second, .val (.long q2), .second, .val (.long q3), .second, .val (.long q4), .second, .val (.long q5), .second, .val (.long (1152921504606846975 : Int64)), .second, .val (.long l0), .second, .val (.long l1), .second, .val (.long l2), .second, .val (.long l3), .second, .val (.int (4 : Int32)), .val (.int mode), .val (.long q5), .second, .val (.ref b40), .val (.ref b46), .unset] [(.long l3), (.ref b46)])) (fun t kt => ?_) ?_
      · show Steps p.tables e below (T68.setTop (mkF m 220 #[.val (.int p0), .val (.long q1), .second, .val (.long q2), .second, .val (.long q3), .second, .val (.long q4), .second, .val (.long q5), .second, .val (.long (1152921504606846975 : Int64)), .second, .val (.long l0), .second, .val (.long l1), .second, .val (.long l2), .second, .val (.long l3), .second, .val (.int (4 : Int32)), .val (.int mode), .val (.long q5), .second, .val (.ref b40), .val (.ref b46), .unset] [])) t
        refine XS.iload X68.here hx rfl (hb hby at_220) rfl ?_
        show Steps p.tables e below (T68.setTop (mkF m 222 #[.val (.int p0), .val (.long q1), .second, .val (.long q2), .second, .val (.long q3), .second, .val (.long q4), .second, .val (.long q5), .second, .val (.long (1152921504606846975 : Int64)), .second, .val (.long l0), .second, .val (.long l1), .second, .val (.long l2), .second, .val (.long l3), .second, .val (.int (4 : Int32)), .val (.int mode), .val (.long q5), .second, .val (.ref b40), .val (.ref b46), .unset] [(.int (4 : Int32))])) t
        refine XS.iconst X68.here hx rfl (hb hby at_222) ?_
        show Steps p.tables e below (T68.setTop (mkF m 223 #[.val (.int p0), .val (.long q1), .second, .val (.long q2), .second, .val (.long q3), .second, .val (.long q4), .second, .val (.long q5), .second, .val (.long (1152921504606846975 : Int64)), .second, .val (.long l0), .second, .val (.long l1), .second, .val (.long l2), .second, .val (.long l3), .second, .val (.int (4 : Int32)), .val (.int mode), .val (.long q5), .second, .val (.ref b40), .val (.ref b46), .unset] [(.int (3 : Int32)), (.int (4 : Int32))])) t
        refine XS.icmpNo X68.here hx rfl (hb hby at_223) rfl (by decide) ?_
        show Steps p.tables e below (T68.setTop (mkF m 226 #[.val (.int p0), .val (.long q1), .second, .val (.long q2), .second, .val (.long q3), .second, .val (.long q4), .second, .val (.long q5), .second, .val (.long (1152921504606846975 : Int64)), .second, .val (.long l0), .second, .val (.long l1), .second, .val (.long l2), .second, .val (.long l3), .second, .val (.int (4 : Int32)), .val (.int mode), .val (.long q5), .second, .val (.ref b40), .val (.ref b46), .unset] [])) t
        refine XS.aload X68.here hx rfl (hb hby at_226) rfl rfl ?_
        show Steps p.tables e below (T68.setTop (mkF m 228 #[.val (.int p0), .val (.long q1), .second, .val (.long q2), .second, .val (.long q3), .second, .val (.long q4), .second, .val (.long q5), .second, .val (.long (1152921504606846975 : Int64)), .second, .val (.long l0), .second, .val (.long l1), .second, .val (.long l2), .second, .val (.long l3), .second, .val (.int (4 : Int32)), .val (.int mode), .val (.long q5), .second, .val (.ref b40), .val (.ref b46), .unset] [(.ref b46)])) t
        refine XS.lload X68.here hx rfl (hb hby at_228) rfl ?_
        show Steps p.tables e below (T68.setTop (mkF m 230 #[.val (.int p0), .val (.long q1), .second, .val (.long q2), .second, .val (.long q3), .second, .val (.long q4), .second, .val (.long q5), .second, .val (.long (1152921504606846975 : Int64)), .second, .val (.long l0), .second, .val (.long l1), .second, .val (.long l2), .second, .val (.long l3), .second, .val (.int (4 : Int32)), .val (.int mode), .val (.long q5), .second, .val (.ref b40), .val (.ref b46), .unset] [(.long l3), (.ref b46)])) t
        exact kt
      refine own_callV X68 hx hZ hown rfl (hw _ (List.mem_of_getElem? (i := 83) rfl)) (hw _ (List.mem_of_getElem? (i := 84) rfl)) (notFace_of_selects (args := #[]) (mvT hZ (hw _ (List.mem_of_getElem? (i := 86) rfl)))) (hw _ (List.mem_of_getElem? (i := 86) rfl)) (hw _ (List.mem_of_getElem? (i := 85) rfl)) (hw _ (List.mem_of_getElem? (i := 44) rfl)) (hw _ (List.mem_of_getElem? (i := 87) rfl)) (by decide) (rm8 l Z aw hw b46 l3 r47 4 f3 ((((0 : Int32) + (1 : Int32)) + (1 : Int32)) + (1 : Int32)) 3 (.int ((own_z (¬ ((p0 &&& (256 : Int32)) = (0 : Int32)))) &&& (1 : Int32))) (.long (0 : Int64)) T68.heap n0 ZKq68 Pq68_0 g_b46 g_r47 (ne_b46_r47) (ne_r47_b46) Pq68_1 Pq68_2 Pq68_3 Pq68_4 Pq68_5 (by decide) (by decide)) Pq68_0 (g := (mkF m 230 #[.val (.int p0), .val (.long q1), .second, .val (.long q2), .second, .val (.long q3), .second, .val (.long q4), .second, .val (.long q5), .second, .val (.long (1152921504606846975 : Int64)), .second, .val (.long l0), .second, .val (.long l1), .second, .val (.long l2), .second, .val (.long l3), .second, .val (.int (4 : Int32)), .val (.int mode), .val (.long q5), .second, .val (.ref b40), .val (.ref b46), .unset] [(.long l3), (.ref b46)])) rfl (by rw [hml]; rfl) (argsL := [(.long l3)]) (rest := []) (lenOf pd_6 rfl) rfl rfl (W := 0) (by show 2 * 0 + _ ≤ _; exact Nat.le_of_eq rfl) (hb hby at_230) (by decide) (by decide) (by decide) (by decide) ?_
      rintro _ T69 L69 X69 ⟨rfl, Nq69, Kq69, Pq69_0, Pq69_1, Pq69_2, Pq69_3, Pq69_4, Pq69_5⟩
      have N69 := Fr.app N68 Nq69
      replace Pq45_0 := (Pq45_0.keep Kq69)
      replace F_r45 := (F_r45.keep Kq69 (ninS (ne_b40_b46) (ninS (ne_b40_r47) nin0)))
      replace Ar_r45 := (Ar_r45.keep Kq69 (ninS (ne_r45_b46) (ninS (ne_r45_r47) nin0)))
      replace Pq68_0 := (Pq68_0.keep Kq69)
      have ZKq69 : n0 ≤ T69.heap.size := Nat.le_trans ZKq68 Kq69.1
      have KKKq69 := KKKq68.trans Kq69 ((allS (Or.inr sz_b46) (allS (Or.inr sz_r47) all0)))
      have kzKq69 := Nat.le_trans kzKq68 Kq69.1
      obtain ⟨f4, hf4⟩ : ∃ z, z = (own_set f3 3 l3) := ⟨_, rfl⟩
      rw [← hf4] at Pq69_5
      refine own_go (T' := T69) (f' := (mkF m 246 #[.val (.int p0), .val (.long q1), .second, .val (.long q2), .second, .val (.long q3), .second, .val (.long q4), .second, .val (.long q5), .second, .val (.long (1152921504606846975 : Int64)), .second, .val (.long l0), .second, .val (.long l1), .second, .val (.long l2), .second, .val (.long l3), .second, .val (.int (4 : Int32)), .val (.int mode), .val (.long q5), .second, .val (.ref b40), .val (.ref b46), .val (.int (-1 : Int32))] [(.int (lcmpW l0 q5))])) (fun t kt => ?_) ?_
      · show Steps p.tables e below (T69.setTop (mkF m 233 #[.val (.int p0), .val (.long q1), .second, .val (.long q2), .second, .val (.long q3), .second, .val (.long q4), .second, .val (.long q5), .second, .val (.long (1152921504606846975 : Int64)), .second, .val (.long l0), .second, .val (.long l1), .second, .val (.long l2), .second, .val (.long l3), .second, .val (.int (4 : Int32)), .val (.int mode), .val (.long q5), .second, .val (.ref b40), .val (.ref b46), .unset] [])) t
        refine XS.iconst X69.here hx rfl (hb hby at_233) ?_
        show Steps p.tables e below (T69.setTop (mkF m 234 #[.val (.int p0), .val (.long q1), .second, .val (.long q2), .second, .val (.long q3), .second, .val (.long q4), .second, .val (.long q5), .second, .val (.long (1152921504606846975 : Int64)), .second, .val (.long l0), .second, .val (.long l1), .second, .val (.long l2), .second, .val (.long l3), .second, .val (.int (4 : Int32)), .val (.int mode), .val (.long q5), .second, .val (.ref b40), .val (.ref b46), .unset] [(.int (-1 : Int32))])) t
        refine XS.istore X69.here hx rfl (hb hby at_234) rfl (l' := #[.val (.int p0), .val (.long q1), .second, .val (.long q2), .second, .val (.long q3), .second, .val (.long q4), .second, .val (.long q5), .second, .val (.long (1152921504606846975 : Int64)), .second, .val (.long l0), .second, .val (.long l1), .second, .val (.long l2), .second, .val (.long l3), .second, .val (.int (4 : Int32)), .val (.int mode), .val (.long q5), .second, .val (.ref b40), .val (.ref b46), .val (.int (-1 : Int32))]) rfl ?_
        show Steps p.tables e below (T69.setTop (mkF m 236 #[.val (.int p0), .val (.long q1), .second, .val (.long q2), .second, .val (.long q3), .second, .val (.long q4), .second, .val (.long q5), .second, .val (.long (1152921504606846975 : Int64)), .second, .val (.long l0), .second, .val (.long l1), .second, .val (.long l2), .second, .val (.long l3), .second, .val (.int (4 : Int32)), .val (.int mode), .val (.long q5), .second, .val (.ref b40), .val (.ref b46), .val (.int (-1 : Int32))] [])) t
        refine XS.iload X69.here hx rfl (hb hby at_236) rfl ?_
        show Steps p.tables e below (T69.setTop (mkF m 238 #[.val (.int p0), .val (.long q1), .second, .val (.long q2), .second, .val (.long q3), .second, .val (.long q4), .second, .val (.long q5), .second, .val (.long (1152921504606846975 : Int64)), .second, .val (.long l0), .second, .val (.long l1), .second, .val (.long l2), .second, .val (.long l3), .second, .val (.int (4 : Int32)), .val (.int mode), .val (.long q5), .second, .val (.ref b40), .val (.ref b46), .val (.int (-1 : Int32))] [(.int (4 : Int32))])) t
        refine XS.ifNo X69.here hx rfl (hb hby at_238) rfl (by decide) ?_
        show Steps p.tables e below (T69.setTop (mkF m 241 #[.val (.int p0), .val (.long q1), .second, .val (.long q2), .second, .val (.long q3), .second, .val (.long q4), .second, .val (.long q5), .second, .val (.long (1152921504606846975 : Int64)), .second, .val (.long l0), .second, .val (.long l1), .second, .val (.long l2), .second, .val (.long l3), .second, .val (.int (4 : Int32)), .val (.int mode), .val (.long q5), .second, .val (.ref b40), .val (.ref b46), .val (.int (-1 : Int32))] [])) t
        refine XS.lload X69.here hx rfl (hb hby at_241) rfl ?_
        show Steps p.tables e below (T69.setTop (mkF m 243 #[.val (.int p0), .val (.long q1), .second, .val (.long q2), .second, .val (.long q3), .second, .val (.long q4), .second, .val (.long q5), .second, .val (.long (1152921504606846975 : Int64)), .second, .val (.long l0), .second, .val (.long l1), .second, .val (.long l2), .second, .val (.long l3), .second, .val (.int (4 : Int32)), .val (.int mode), .val (.long q5), .second, .val (.ref b40), .val (.ref b46), .val (.int (-1 : Int32))] [(.long l0)])) t
        refine XS.lload X69.here hx rfl (hb hby at_243) rfl ?_
        show Steps p.tables e below (T69.setTop (mkF m 245 #[.val (.int p0), .val (.long q1), .second, .val (.long q2), .second, .val (.long q3), .second, .val (.long q4), .second, .val (.long q5), .second, .val (.long (1152921504606846975 : Int64)), .second, .val (.long l0), .second, .val (.long l1), .second, .val (.long l2), .second, .val (.long l3), .second, .val (.int (4 : Int32)), .val (.int mode), .val (.long q5), .second, .val (.ref b40), .val (.ref b46), .val (.int (-1 : Int32))] [(.long q5), (.long l0)])) t
        refine XS.lcmp X69.here hx rfl (hb hby at_245) rfl ?_
        show Steps p.tables e below (T69.setTop (mkF m 246 #[.val (.int p0), .val (.long q1), .second, .val (.long q2), .second, .val (.long q3), .second, .val (.long q4), .second, .val (.long q5), .second, .val (.long (1152921504606846975 : Int64)), .second, .val (.long l0), .second, .val (.long l1), .second, .val (.long l2), .second, .val (.long l3), .second, .val (.int (4 : Int32)), .val (.int mode), .val (.long q5), .second, .val (.ref b40), .val (.ref b46), .val (.int (-1 : Int32))] [(.int (lcmpW l0 q5))])) t
        exact kt
      refine own_go (T' := T69) (f' := (mkF m 252 #[.val (.int p0), .val (.long q1), .second, .val (.long q2), .second, .val (.long q3), .second, .val (.long q4), .second, .val (.long q5), .second, .val (.long (1152921504606846975 : Int64)), .second, .val (.long l0), .second, .val (.long l1), .second, .val (.long l2), .second, .val (.long l3), .second, .val (.int (4 : Int32)), .val (.int mode), .val (.long q5), .second, .val (.ref b40), .val (.ref b46), .val (.int (if q5 < l0 then (-1 : Int32) else (0 : Int32)))] [])) (fun t kt => ?_) ?_
      · by_cases hc246_70 : q5 < l0
        · show Steps p.tables e below (T69.setTop (mkF m 246 #[.val (.int p0), .val (.long q1), .second, .val (.long q2), .second, .val (.long q3), .second, .val (.long q4), .second, .val (.long q5), .second, .val (.long (1152921504606846975 : Int64)), .second, .val (.long l0), .second, .val (.long l1), .second, .val (.long l2), .second, .val (.long l3), .second, .val (.int (4 : Int32)), .val (.int mode), .val (.long q5), .second, .val (.ref b40), .val (.ref b46), .val (.int (-1 : Int32))] [(.int (lcmpW l0 q5))])) t
          refine XS.ifYes X69.here hx rfl (pc0 := 246) (pc' := 252) rfl (hb hby at_246) rfl (own_lY_gt hc246_70) (by decide) (by decide) ?_
          show Steps p.tables e below (T69.setTop (mkF m 252 #[.val (.int p0), .val (.long q1), .second, .val (.long q2), .second, .val (.long q3), .second, .val (.long q4), .second, .val (.long q5), .second, .val (.long (1152921504606846975 : Int64)), .second, .val (.long l0), .second, .val (.long l1), .second, .val (.long l2), .second, .val (.long l3), .second, .val (.int (4 : Int32)), .val (.int mode), .val (.long q5), .second, .val (.ref b40), .val (.ref b46), .val (.int (-1 : Int32))] [])) t
          rw [if_pos hc246_70] at kt
          exact kt
        · show Steps p.tables e below (T69.setTop (mkF m 246 #[.val (.int p0), .val (.long q1), .second, .val (.long q2), .second, .val (.long q3), .second, .val (.long q4), .second, .val (.long q5), .second, .val (.long (1152921504606846975 : Int64)), .second, .val (.long l0), .second, .val (.long l1), .second, .val (.long l2), .second, .val (.long l3), .second, .val (.int (4 : Int32)), .val (.int mode), .val (.long q5), .second, .val (.ref b40), .val (.ref b46), .val (.int (-1 : Int32))] [(.int (lcmpW l0 q5))])) t
          refine XS.ifNo X69.here hx rfl (hb hby at_246) rfl (own_lN_gt hc246_70) ?_
          show Steps p.tables e below (T69.setTop (mkF m 249 #[.val (.int p0), .val (.long q1), .second, .val (.long q2), .second, .val (.long q3), .second, .val (.long q4), .second, .val (.long q5), .second, .val (.long (1152921504606846975 : Int64)), .second, .val (.long l0), .second, .val (.long l1), .second, .val (.long l2), .second, .val (.long l3), .second, .val (.int (4 : Int32)), .val (.int mode), .val (.long q5), .second, .val (.ref b40), .val (.ref b46), .val (.int (-1 : Int32))] [])) t
          refine XS.iconst X69.here hx rfl (hb hby at_249) ?_
          show Steps p.tables e below (T69.setTop (mkF m 250 #[.val (.int p0), .val (.long q1), .second, .val (.long q2), .second, .val (.long q3), .second, .val (.long q4), .second, .val (.long q5), .second, .val (.long (1152921504606846975 : Int64)), .second, .val (.long l0), .second, .val (.long l1), .second, .val (.long l2), .second, .val (.long l3), .second, .val (.int (4 : Int32)), .val (.int mode), .val (.long q5), .second, .val (.ref b40), .val (.ref b46), .val (.int (-1 : Int32))] [(.int (0 : Int32))])) t
          refine XS.istore X69.here hx rfl (hb hby at_250) rfl (l' := #[.val (.int p0), .val (.long q1), .second, .val (.long q2), .second, .val (.long q3), .second, .val (.long q4), .second, .val (.long q5), .second, .val (.long (1152921504606846975 : Int64)), .second, .val (.long l0), .second, .val (.long l1), .second, .val (.long l2), .second, .val (.long l3), .second, .val (.int (4 : Int32)), .val (.int mode), .val (.long q5), .second, .val (.ref b40), .val (.ref b46), .val (.int (0 : Int32))]) rfl ?_
          show Steps p.tables e below (T69.setTop (mkF m 252 #[.val (.int p0), .val (.long q1), .second, .val (.long q2), .second, .val (.long q3), .second, .val (.long q4), .second, .val (.long q5), .second, .val (.long (1152921504606846975 : Int64)), .second, .val (.long l0), .second, .val (.long l1), .second, .val (.long l2), .second, .val (.long l3), .second, .val (.int (4 : Int32)), .val (.int mode), .val (.long q5), .second, .val (.ref b40), .val (.ref b46), .val (.int (0 : Int32))] [])) t
          rw [if_neg hc246_70] at kt
          exact kt
      refine own_go (T' := T69) (f' := (mkF m 263 #[.val (.int p0), .val (.long q1), .second, .val (.long q2), .second, .val (.long q3), .second, .val (.long q4), .second, .val (.long q5), .second, .val (.long (1152921504606846975 : Int64)), .second, .val (.long l0), .second, .val (.long l1), .second, .val (.long l2), .second, .val (.long l3), .second, .val (.int (4 : Int32)), .val (.int mode), .val (.long q5), .second, .val (.ref b40), .val (.ref b46), .val (.int (if q5 < l0 then (-1 : Int32) else (0 : Int32)))] [(.int (lcmpW l1 q5))])) (fun t kt => ?_) ?_
      · show Steps p.tables e below (T69.setTop (mkF m 252 #[.val (.int p0), .val (.long q1), .second, .val (.long q2), .second, .val (.long q3), .second, .val (.long q4), .second, .val (.long q5), .second, .val (.long (1152921504606846975 : Int64)), .second, .val (.long l0), .second, .val (.long l1), .second, .val (.long l2), .second, .val (.long l3), .second, .val (.int (4 : Int32)), .val (.int mode), .val (.long q5), .second, .val (.ref b40), .val (.ref b46), .val (.int (if q5 < l0 then (-1 : Int32) else (0 : Int32)))] [])) t
        refine XS.iload X69.here hx rfl (hb hby at_252) rfl ?_
        show Steps p.tables e below (T69.setTop (mkF m 254 #[.val (.int p0), .val (.long q1), .second, .val (.long q2), .second, .val (.long q3), .second, .val (.long q4), .second, .val (.long q5), .second, .val (.long (1152921504606846975 : Int64)), .second, .val (.long l0), .second, .val (.long l1), .second, .val (.long l2), .second, .val (.long l3), .second, .val (.int (4 : Int32)), .val (.int mode), .val (.long q5), .second, .val (.ref b40), .val (.ref b46), .val (.int (if q5 < l0 then (-1 : Int32) else (0 : Int32)))] [(.int (4 : Int32))])) t
        refine XS.iconst X69.here hx rfl (hb hby at_254) ?_
        show Steps p.tables e below (T69.setTop (mkF m 255 #[.val (.int p0), .val (.long q1), .second, .val (.long q2), .second, .val (.long q3), .second, .val (.long q4), .second, .val (.long q5), .second, .val (.long (1152921504606846975 : Int64)), .second, .val (.long l0), .second, .val (.long l1), .second, .val (.long l2), .second, .val (.long l3), .second, .val (.int (4 : Int32)), .val (.int mode), .val (.long q5), .second, .val (.ref b40), .val (.ref b46), .val (.int (if q5 < l0 then (-1 : Int32) else (0 : Int32)))] [(.int (1 : Int32)), (.int (4 : Int32))])) t
        refine XS.icmpNo X69.here hx rfl (hb hby at_255) rfl (by decide) ?_
        show Steps p.tables e below (T69.setTop (mkF m 258 #[.val (.int p0), .val (.long q1), .second, .val (.long q2), .second, .val (.long q3), .second, .val (.long q4), .second, .val (.long q5), .second, .val (.long (1152921504606846975 : Int64)), .second, .val (.long l0), .second, .val (.long l1), .second, .val (.long l2), .second, .val (.long l3), .second, .val (.int (4 : Int32)), .val (.int mode), .val (.long q5), .second, .val (.ref b40), .val (.ref b46), .val (.int (if q5 < l0 then (-1 : Int32) else (0 : Int32)))] [])) t
        refine XS.lload X69.here hx rfl (hb hby at_258) rfl ?_
        show Steps p.tables e below (T69.setTop (mkF m 260 #[.val (.int p0), .val (.long q1), .second, .val (.long q2), .second, .val (.long q3), .second, .val (.long q4), .second, .val (.long q5), .second, .val (.long (1152921504606846975 : Int64)), .second, .val (.long l0), .second, .val (.long l1), .second, .val (.long l2), .second, .val (.long l3), .second, .val (.int (4 : Int32)), .val (.int mode), .val (.long q5), .second, .val (.ref b40), .val (.ref b46), .val (.int (if q5 < l0 then (-1 : Int32) else (0 : Int32)))] [(.long l1)])) t
        refine XS.lload X69.here hx rfl (hb hby at_260) rfl ?_
        show Steps p.tables e below (T69.setTop (mkF m 262 #[.val (.int p0), .val (.long q1), .second, .val (.long q2), .second, .val (.long q3), .second, .val (.long q4), .second, .val (.long q5), .second, .val (.long (1152921504606846975 : Int64)), .second, .val (.long l0), .second, .val (.long l1), .second, .val (.long l2), .second, .val (.long l3), .second, .val (.int (4 : Int32)), .val (.int mode), .val (.long q5), .second, .val (.ref b40), .val (.ref b46), .val (.int (if q5 < l0 then (-1 : Int32) else (0 : Int32)))] [(.long q5), (.long l1)])) t
        refine XS.lcmp X69.here hx rfl (hb hby at_262) rfl ?_
        show Steps p.tables e below (T69.setTop (mkF m 263 #[.val (.int p0), .val (.long q1), .second, .val (.long q2), .second, .val (.long q3), .second, .val (.long q4), .second, .val (.long q5), .second, .val (.long (1152921504606846975 : Int64)), .second, .val (.long l0), .second, .val (.long l1), .second, .val (.long l2), .second, .val (.long l3), .second, .val (.int (4 : Int32)), .val (.int mode), .val (.long q5), .second, .val (.ref b40), .val (.ref b46), .val (.int (if q5 < l0 then (-1 : Int32) else (0 : Int32)))] [(.int (lcmpW l1 q5))])) t
        exact kt
      refine own_go (T' := T69) (f' := (mkF m 269 #[.val (.int p0), .val (.long q1), .second, .val (.long q2), .second, .val (.long q3), .second, .val (.long q4), .second, .val (.long q5), .second, .val (.long (1152921504606846975 : Int64)), .second, .val (.long l0), .second, .val (.long l1), .second, .val (.long l2), .second, .val (.long l3), .second, .val (.int (4 : Int32)), .val (.int mode), .val (.long q5), .second, .val (.ref b40), .val (.ref b46), .val (.int (if q5 < l1 then (if q5 < l0 then (-1 : Int32) else (0 : Int32)) else (1 : Int32)))] [])) (fun t kt => ?_) ?_
      · by_cases hc263_71 : q5 < l1
        · show Steps p.tables e below (T69.setTop (mkF m 263 #[.val (.int p0), .val (.long q1), .second, .val (.long q2), .second, .val (.long q3), .second, .val (.long q4), .second, .val (.long q5), .second, .val (.long (1152921504606846975 : Int64)), .second, .val (.long l0), .second, .val (.long l1), .second, .val (.long l2), .second, .val (.long l3), .second, .val (.int (4 : Int32)), .val (.int mode), .val (.long q5), .second, .val (.ref b40), .val (.ref b46), .val (.int (if q5 < l0 then (-1 : Int32) else (0 : Int32)))] [(.int (lcmpW l1 q5))])) t
          refine XS.ifYes X69.here hx rfl (pc0 := 263) (pc' := 269) rfl (hb hby at_263) rfl (own_lY_gt hc263_71) (by decide) (by decide) ?_
          show Steps p.tables e below (T69.setTop (mkF m 269 #[.val (.int p0), .val (.long q1), .second, .val (.long q2), .second, .val (.long q3), .second, .val (.long q4), .second, .val (.long q5), .second, .val (.long (1152921504606846975 : Int64)), .second, .val (.long l0), .second, .val (.long l1), .second, .val (.long l2), .second, .val (.long l3), .second, .val (.int (4 : Int32)), .val (.int mode), .val (.long q5), .second, .val (.ref b40), .val (.ref b46), .val (.int (if q5 < l0 then (-1 : Int32) else (0 : Int32)))] [])) t
          rw [if_pos hc263_71] at kt
          exact kt
        · show Steps p.tables e below (T69.setTop (mkF m 263 #[.val (.int p0), .val (.long q1), .second, .val (.long q2), .second, .val (.long q3), .second, .val (.long q4), .second, .val (.long q5), .second, .val (.long (1152921504606846975 : Int64)), .second, .val (.long l0), .second, .val (.long l1), .second, .val (.long l2), .second, .val (.long l3), .second, .val (.int (4 : Int32)), .val (.int mode), .val (.long q5), .second, .val (.ref b40), .val (.ref b46), .val (.int (if q5 < l0 then (-1 : Int32) else (0 : Int32)))] [(.int (lcmpW l1 q5))])) t
          refine XS.ifNo X69.here hx rfl (hb hby at_263) rfl (own_lN_gt hc263_71) ?_
          show Steps p.tables e below (T69.setTop (mkF m 266 #[.val (.int p0), .val (.long q1), .second, .val (.long q2), .second, .val (.long q3), .second, .val (.long q4), .second, .val (.long q5), .second, .val (.long (1152921504606846975 : Int64)), .second, .val (.long l0), .second, .val (.long l1), .second, .val (.long l2), .second, .val (.long l3), .second, .val (.int (4 : Int32)), .val (.int mode), .val (.long q5), .second, .val (.ref b40), .val (.ref b46), .val (.int (if q5 < l0 then (-1 : Int32) else (0 : Int32)))] [])) t
          refine XS.iconst X69.here hx rfl (hb hby at_266) ?_
          show Steps p.tables e below (T69.setTop (mkF m 267 #[.val (.int p0), .val (.long q1), .second, .val (.long q2), .second, .val (.long q3), .second, .val (.long q4), .second, .val (.long q5), .second, .val (.long (1152921504606846975 : Int64)), .second, .val (.long l0), .second, .val (.long l1), .second, .val (.long l2), .second, .val (.long l3), .second, .val (.int (4 : Int32)), .val (.int mode), .val (.long q5), .second, .val (.ref b40), .val (.ref b46), .val (.int (if q5 < l0 then (-1 : Int32) else (0 : Int32)))] [(.int (1 : Int32))])) t
          refine XS.istore X69.here hx rfl (hb hby at_267) rfl (l' := #[.val (.int p0), .val (.long q1), .second, .val (.long q2), .second, .val (.long q3), .second, .val (.long q4), .second, .val (.long q5), .second, .val (.long (1152921504606846975 : Int64)), .second, .val (.long l0), .second, .val (.long l1), .second, .val (.long l2), .second, .val (.long l3), .second, .val (.int (4 : Int32)), .val (.int mode), .val (.long q5), .second, .val (.ref b40), .val (.ref b46), .val (.int (1 : Int32))]) rfl ?_
          show Steps p.tables e below (T69.setTop (mkF m 269 #[.val (.int p0), .val (.long q1), .second, .val (.long q2), .second, .val (.long q3), .second, .val (.long q4), .second, .val (.long q5), .second, .val (.long (1152921504606846975 : Int64)), .second, .val (.long l0), .second, .val (.long l1), .second, .val (.long l2), .second, .val (.long l3), .second, .val (.int (4 : Int32)), .val (.int mode), .val (.long q5), .second, .val (.ref b40), .val (.ref b46), .val (.int (1 : Int32))] [])) t
          rw [if_neg hc263_71] at kt
          exact kt
      refine own_go (T' := T69) (f' := (mkF m 280 #[.val (.int p0), .val (.long q1), .second, .val (.long q2), .second, .val (.long q3), .second, .val (.long q4), .second, .val (.long q5), .second, .val (.long (1152921504606846975 : Int64)), .second, .val (.long l0), .second, .val (.long l1), .second, .val (.long l2), .second, .val (.long l3), .second, .val (.int (4 : Int32)), .val (.int mode), .val (.long q5), .second, .val (.ref b40), .val (.ref b46), .val (.int (if q5 < l1 then (if q5 < l0 then (-1 : Int32) else (0 : Int32)) else (1 : Int32)))] [(.int (lcmpW l2 q5))])) (fun t kt => ?_) ?_
      · show Steps p.tables e below (T69.setTop (mkF m 269 #[.val (.int p0), .val (.long q1), .second, .val (.long q2), .second, .val (.long q3), .second, .val (.long q4), .second, .val (.long q5), .second, .val (.long (1152921504606846975 : Int64)), .second, .val (.long l0), .second, .val (.long l1), .second, .val (.long l2), .second, .val (.long l3), .second, .val (.int (4 : Int32)), .val (.int mode), .val (.long q5), .second, .val (.ref b40), .val (.ref b46), .val (.int (if q5 < l1 then (if q5 < l0 then (-1 : Int32) else (0 : Int32)) else (1 : Int32)))] [])) t
        refine XS.iload X69.here hx rfl (hb hby at_269) rfl ?_
        show Steps p.tables e below (T69.setTop (mkF m 271 #[.val (.int p0), .val (.long q1), .second, .val (.long q2), .second, .val (.long q3), .second, .val (.long q4), .second, .val (.long q5), .second, .val (.long (1152921504606846975 : Int64)), .second, .val (.long l0), .second, .val (.long l1), .second, .val (.long l2), .second, .val (.long l3), .second, .val (.int (4 : Int32)), .val (.int mode), .val (.long q5), .second, .val (.ref b40), .val (.ref b46), .val (.int (if q5 < l1 then (if q5 < l0 then (-1 : Int32) else (0 : Int32)) else (1 : Int32)))] [(.int (4 : Int32))])) t
        refine XS.iconst X69.here hx rfl (hb hby at_271) ?_
        show Steps p.tables e below (T69.setTop (mkF m 272 #[.val (.int p0), .val (.long q1), .second, .val (.long q2), .second, .val (.long q3), .second, .val (.long q4), .second, .val (.long q5), .second, .val (.long (1152921504606846975 : Int64)), .second, .val (.long l0), .second, .val (.long l1), .second, .val (.long l2), .second, .val (.long l3), .second, .val (.int (4 : Int32)), .val (.int mode), .val (.long q5), .second, .val (.ref b40), .val (.ref b46), .val (.int (if q5 < l1 then (if q5 < l0 then (-1 : Int32) else (0 : Int32)) else (1 : Int32)))] [(.int (2 : Int32)), (.int (4 : Int32))])) t
        refine XS.icmpNo X69.here hx rfl (hb hby at_272) rfl (by decide) ?_
        show Steps p.tables e below (T69.setTop (mkF m 275 #[.val (.int p0), .val (.long q1), .second, .val (.long q2), .second, .val (.long q3), .second, .val (.long q4), .second, .val (.long q5), .second, .val (.long (1152921504606846975 : Int64)), .second, .val (.long l0), .second, .val (.long l1), .second, .val (.long l2), .second, .val (.long l3), .second, .val (.int (4 : Int32)), .val (.int mode), .val (.long q5), .second, .val (.ref b40), .val (.ref b46), .val (.int (if q5 < l1 then (if q5 < l0 then (-1 : Int32) else (0 : Int32)) else (1 : Int32)))] [])) t
        refine XS.lload X69.here hx rfl (hb hby at_275) rfl ?_
        show Steps p.tables e below (T69.setTop (mkF m 277 #[.val (.int p0), .val (.long q1), .second, .val (.long q2), .second, .val (.long q3), .second, .val (.long q4), .second, .val (.long q5), .second, .val (.long (1152921504606846975 : Int64)), .second, .val (.long l0), .second, .val (.long l1), .second, .val (.long l2), .second, .val (.long l3), .second, .val (.int (4 : Int32)), .val (.int mode), .val (.long q5), .second, .val (.ref b40), .val (.ref b46), .val (.int (if q5 < l1 then (if q5 < l0 then (-1 : Int32) else (0 : Int32)) else (1 : Int32)))] [(.long l2)])) t
        refine XS.lload X69.here hx rfl (hb hby at_277) rfl ?_
        show Steps p.tables e below (T69.setTop (mkF m 279 #[.val (.int p0), .val (.long q1), .second, .val (.long q2), .second, .val (.long q3), .second, .val (.long q4), .second, .val (.long q5), .second, .val (.long (1152921504606846975 : Int64)), .second, .val (.long l0), .second, .val (.long l1), .second, .val (.long l2), .second, .val (.long l3), .second, .val (.int (4 : Int32)), .val (.int mode), .val (.long q5), .second, .val (.ref b40), .val (.ref b46), .val (.int (if q5 < l1 then (if q5 < l0 then (-1 : Int32) else (0 : Int32)) else (1 : Int32)))] [(.long q5), (.long l2)])) t
        refine XS.lcmp X69.here hx rfl (hb hby at_279) rfl ?_
        show Steps p.tables e below (T69.setTop (mkF m 280 #[.val (.int p0), .val (.long q1), .second, .val (.long q2), .second, .val (.long q3), .second, .val (.long q4), .second, .val (.long q5), .second, .val (.long (1152921504606846975 : Int64)), .second, .val (.long l0), .second, .val (.long l1), .second, .val (.long l2), .second, .val (.long l3), .second, .val (.int (4 : Int32)), .val (.int mode), .val (.long q5), .second, .val (.ref b40), .val (.ref b46), .val (.int (if q5 < l1 then (if q5 < l0 then (-1 : Int32) else (0 : Int32)) else (1 : Int32)))] [(.int (lcmpW l2 q5))])) t
        exact kt
      refine own_go (T' := T69) (f' := (mkF m 286 #[.val (.int p0), .val (.long q1), .second, .val (.long q2), .second, .val (.long q3), .second, .val (.long q4), .second, .val (.long q5), .second, .val (.long (1152921504606846975 : Int64)), .second, .val (.long l0), .second, .val (.long l1), .second, .val (.long l2), .second, .val (.long l3), .second, .val (.int (4 : Int32)), .val (.int mode), .val (.long q5), .second, .val (.ref b40), .val (.ref b46), .val (.int (if q5 < l2 then (if q5 < l1 then (if q5 < l0 then (-1 : Int32) else (0 : Int32)) else (1 : Int32)) else (2 : Int32)))] [])) (fun t kt => ?_) ?_
      · by_cases hc280_72 : q5 < l2
        · show Steps p.tables e below (T69.setTop (mkF m 280 #[.val (.int p0), .val (.long q1), .second, .val (.long q2), .second, .val (.long q3), .second, .val (.long q4), .second, .val (.long q5), .second, .val (.long (1152921504606846975 : Int64)), .second, .val (.long l0), .second, .val (.long l1), .second, .val (.long l2), .second, .val (.long l3), .second, .val (.int (4 : Int32)), .val (.int mode), .val (.long q5), .second, .val (.ref b40), .val (.ref b46), .val (.int (if q5 < l1 then (if q5 < l0 then (-1 : Int32) else (0 : Int32)) else (1 : Int32)))] [(.int (lcmpW l2 q5))])) t
          refine XS.ifYes X69.here hx rfl (pc0 := 280) (pc' := 286) rfl (hb hby at_280) rfl (own_lY_gt hc280_72) (by decide) (by decide) ?_
          show Steps p.tables e below (T69.setTop (mkF m 286 #[.val (.int p0), .val (.long q1), .second, .val (.long q2), .second, .val (.long q3), .second, .val (.long q4), .second, .val (.long q5), .second, .val (.long (1152921504606846975 : Int64)), .second, .val (.long l0), .second, .val (.long l1), .second, .val (.long l2), .second, .val (.long l3), .second, .val (.int (4 : Int32)), .val (.int mode), .val (.long q5), .second, .val (.ref b40), .val (.ref b46), .val (.int (if q5 < l1 then (if q5 < l0 then (-1 : Int32) else (0 : Int32)) else (1 : Int32)))] [])) t
          rw [if_pos hc280_72] at kt
          exact kt
        · show Steps p.tables e below (T69.setTop (mkF m 280 #[.val (.int p0), .val (.long q1), .second, .val (.long q2), .second, .val (.long q3), .second, .val (.long q4), .second, .val (.long q5), .second, .val (.long (1152921504606846975 : Int64)), .second, .val (.long l0), .second, .val (.long l1), .second, .val (.long l2), .second, .val (.long l3), .second, .val (.int (4 : Int32)), .val (.int mode), .val (.long q5), .second, .val (.ref b40), .val (.ref b46), .val (.int (if q5 < l1 then (if q5 < l0 then (-1 : Int32) else (0 : Int32)) else (1 : Int32)))] [(.int (lcmpW l2 q5))])) t
          refine XS.ifNo X69.here hx rfl (hb hby at_280) rfl (own_lN_gt hc280_72) ?_
          show Steps p.tables e below (T69.setTop (mkF m 283 #[.val (.int p0), .val (.long q1), .second, .val (.long q2), .second, .val (.long q3), .second, .val (.long q4), .second, .val (.long q5), .second, .val (.long (1152921504606846975 : Int64)), .second, .val (.long l0), .second, .val (.long l1), .second, .val (.long l2), .second, .val (.long l3), .second, .val (.int (4 : Int32)), .val (.int mode), .val (.long q5), .second, .val (.ref b40), .val (.ref b46), .val (.int (if q5 < l1 then (if q5 < l0 then (-1 : Int32) else (0 : Int32)) else (1 : Int32)))] [])) t
          refine XS.iconst X69.here hx rfl (hb hby at_283) ?_
          show Steps p.tables e below (T69.setTop (mkF m 284 #[.val (.int p0), .val (.long q1), .second, .val (.long q2), .second, .val (.long q3), .second, .val (.long q4), .second, .val (.long q5), .second, .val (.long (1152921504606846975 : Int64)), .second, .val (.long l0), .second, .val (.long l1), .second, .val (.long l2), .second, .val (.long l3), .second, .val (.int (4 : Int32)), .val (.int mode), .val (.long q5), .second, .val (.ref b40), .val (.ref b46), .val (.int (if q5 < l1 then (if q5 < l0 then (-1 : Int32) else (0 : Int32)) else (1 : Int32)))] [(.int (2 : Int32))])) t
          refine XS.istore X69.here hx rfl (hb hby at_284) rfl (l' := #[.val (.int p0), .val (.long q1), .second, .val (.long q2), .second, .val (.long q3), .second, .val (.long q4), .second, .val (.long q5), .second, .val (.long (1152921504606846975 : Int64)), .second, .val (.long l0), .second, .val (.long l1), .second, .val (.long l2), .second, .val (.long l3), .second, .val (.int (4 : Int32)), .val (.int mode), .val (.long q5), .second, .val (.ref b40), .val (.ref b46), .val (.int (2 : Int32))]) rfl ?_
          show Steps p.tables e below (T69.setTop (mkF m 286 #[.val (.int p0), .val (.long q1), .second, .val (.long q2), .second, .val (.long q3), .second, .val (.long q4), .second, .val (.long q5), .second, .val (.long (1152921504606846975 : Int64)), .second, .val (.long l0), .second, .val (.long l1), .second, .val (.long l2), .second, .val (.long l3), .second, .val (.int (4 : Int32)), .val (.int mode), .val (.long q5), .second, .val (.ref b40), .val (.ref b46), .val (.int (2 : Int32))] [])) t
          rw [if_neg hc280_72] at kt
          exact kt
      refine own_go (T' := T69) (f' := (mkF m 297 #[.val (.int p0), .val (.long q1), .second, .val (.long q2), .second, .val (.long q3), .second, .val (.long q4), .second, .val (.long q5), .second, .val (.long (1152921504606846975 : Int64)), .second, .val (.long l0), .second, .val (.long l1), .second, .val (.long l2), .second, .val (.long l3), .second, .val (.int (4 : Int32)), .val (.int mode), .val (.long q5), .second, .val (.ref b40), .val (.ref b46), .val (.int (if q5 < l2 then (if q5 < l1 then (if q5 < l0 then (-1 : Int32) else (0 : Int32)) else (1 : Int32)) else (2 : Int32)))] [(.int (lcmpW l3 q5))])) (fun t kt => ?_) ?_
      · show Steps p.tables e below (T69.setTop (mkF m 286 #[.val (.int p0), .val (.long q1), .second, .val (.long q2), .second, .val (.long q3), .second, .val (.long q4), .second, .val (.long q5), .second, .val (.long (1152921504606846975 : Int64)), .second, .val (.long l0), .second, .val (.long l1), .second, .val (.long l2), .second, .val (.long l3), .second, .val (.int (4 : Int32)), .val (.int mode), .val (.long q5), .second, .val (.ref b40), .val (.ref b46), .val (.int (if q5 < l2 then (if q5 < l1 then (if q5 < l0 then (-1 : Int32) else (0 : Int32)) else (1 : Int32)) else (2 : Int32)))] [])) t
        refine XS.iload X69.here hx rfl (hb hby at_286) rfl ?_
        show Steps p.tables e below (T69.setTop (mkF m 288 #[.val (.int p0), .val (.long q1), .second, .val (.long q2), .second, .val (.long q3), .second, .val (.long q4), .second, .val (.long q5), .second, .val (.long (1152921504606846975 : Int64)), .second, .val (.long l0), .second, .val (.long l1), .second, .val (.long l2), .second, .val (.long l3), .second, .val (.int (4 : Int32)), .val (.int mode), .val (.long q5), .second, .val (.ref b40), .val (.ref b46), .val (.int (if q5 < l2 then (if q5 < l1 then (if q5 < l0 then (-1 : Int32) else (0 : Int32)) else (1 : Int32)) else (2 : Int32)))] [(.int (4 : Int32))])) t
        refine XS.iconst X69.here hx rfl (hb hby at_288) ?_
        show Steps p.tables e below (T69.setTop (mkF m 289 #[.val (.int p0), .val (.long q1), .second, .val (.long q2), .second, .val (.long q3), .second, .val (.long q4), .second, .val (.long q5), .second, .val (.long (1152921504606846975 : Int64)), .second, .val (.long l0), .second, .val (.long l1), .second, .val (.long l2), .second, .val (.long l3), .second, .val (.int (4 : Int32)), .val (.int mode), .val (.long q5), .second, .val (.ref b40), .val (.ref b46), .val (.int (if q5 < l2 then (if q5 < l1 then (if q5 < l0 then (-1 : Int32) else (0 : Int32)) else (1 : Int32)) else (2 : Int32)))] [(.int (3 : Int32)), (.int (4 : Int32))])) t
        refine XS.icmpNo X69.here hx rfl (hb hby at_289) rfl (by decide) ?_
        show Steps p.tables e below (T69.setTop (mkF m 292 #[.val (.int p0), .val (.long q1), .second, .val (.long q2), .second, .val (.long q3), .second, .val (.long q4), .second, .val (.long q5), .second, .val (.long (1152921504606846975 : Int64)), .second, .val (.long l0), .second, .val (.long l1), .second, .val (.long l2), .second, .val (.long l3), .second, .val (.int (4 : Int32)), .val (.int mode), .val (.long q5), .second, .val (.ref b40), .val (.ref b46), .val (.int (if q5 < l2 then (if q5 < l1 then (if q5 < l0 then (-1 : Int32) else (0 : Int32)) else (1 : Int32)) else (2 : Int32)))] [])) t
        refine XS.lload X69.here hx rfl (hb hby at_292) rfl ?_
        show Steps p.tables e below (T69.setTop (mkF m 294 #[.val (.int p0), .val (.long q1), .second, .val (.long q2), .second, .val (.long q3), .second, .val (.long q4), .second, .val (.long q5), .second, .val (.long (1152921504606846975 : Int64)), .second, .val (.long l0), .second, .val (.long l1), .second, .val (.long l2), .second, .val (.long l3), .second, .val (.int (4 : Int32)), .val (.int mode), .val (.long q5), .second, .val (.ref b40), .val (.ref b46), .val (.int (if q5 < l2 then (if q5 < l1 then (if q5 < l0 then (-1 : Int32) else (0 : Int32)) else (1 : Int32)) else (2 : Int32)))] [(.long l3)])) t
        refine XS.lload X69.here hx rfl (hb hby at_294) rfl ?_
        show Steps p.tables e below (T69.setTop (mkF m 296 #[.val (.int p0), .val (.long q1), .second, .val (.long q2), .second, .val (.long q3), .second, .val (.long q4), .second, .val (.long q5), .second, .val (.long (1152921504606846975 : Int64)), .second, .val (.long l0), .second, .val (.long l1), .second, .val (.long l2), .second, .val (.long l3), .second, .val (.int (4 : Int32)), .val (.int mode), .val (.long q5), .second, .val (.ref b40), .val (.ref b46), .val (.int (if q5 < l2 then (if q5 < l1 then (if q5 < l0 then (-1 : Int32) else (0 : Int32)) else (1 : Int32)) else (2 : Int32)))] [(.long q5), (.long l3)])) t
        refine XS.lcmp X69.here hx rfl (hb hby at_296) rfl ?_
        show Steps p.tables e below (T69.setTop (mkF m 297 #[.val (.int p0), .val (.long q1), .second, .val (.long q2), .second, .val (.long q3), .second, .val (.long q4), .second, .val (.long q5), .second, .val (.long (1152921504606846975 : Int64)), .second, .val (.long l0), .second, .val (.long l1), .second, .val (.long l2), .second, .val (.long l3), .second, .val (.int (4 : Int32)), .val (.int mode), .val (.long q5), .second, .val (.ref b40), .val (.ref b46), .val (.int (if q5 < l2 then (if q5 < l1 then (if q5 < l0 then (-1 : Int32) else (0 : Int32)) else (1 : Int32)) else (2 : Int32)))] [(.int (lcmpW l3 q5))])) t
        exact kt
      refine own_go (T' := T69) (f' := (mkF m 303 #[.val (.int p0), .val (.long q1), .second, .val (.long q2), .second, .val (.long q3), .second, .val (.long q4), .second, .val (.long q5), .second, .val (.long (1152921504606846975 : Int64)), .second, .val (.long l0), .second, .val (.long l1), .second, .val (.long l2), .second, .val (.long l3), .second, .val (.int (4 : Int32)), .val (.int mode), .val (.long q5), .second, .val (.ref b40), .val (.ref b46), .val (.int (if q5 < l3 then (if q5 < l2 then (if q5 < l1 then (if q5 < l0 then (-1 : Int32) else (0 : Int32)) else (1 : Int32)) else (2 : Int32)) else (3 : Int32)))] [])) (fun t kt => ?_) ?_
      · by_cases hc297_73 : q5 < l3
        · show Steps p.tables e below (T69.setTop (mkF m 297 #[.val (.int p0), .val (.long q1), .second, .val (.long q2), .second, .val (.long q3), .second, .val (.long q4), .second, .val (.long q5), .second, .val (.long (1152921504606846975 : Int64)), .second, .val (.long l0), .second, .val (.long l1), .second, .val (.long l2), .second, .val (.long l3), .second, .val (.int (4 : Int32)), .val (.int mode), .val (.long q5), .second, .val (.ref b40), .val (.ref b46), .val (.int (if q5 < l2 then (if q5 < l1 then (if q5 < l0 then (-1 : Int32) else (0 : Int32)) else (1 : Int32)) else (2 : Int32)))] [(.int (lcmpW l3 q5))])) t
          refine XS.ifYes X69.here hx rfl (pc0 := 297) (pc' := 303) rfl (hb hby at_297) rfl (own_lY_gt hc297_73) (by decide) (by decide) ?_
          show Steps p.tables e below (T69.setTop (mkF m 303 #[.val (.int p0), .val (.long q1), .second, .val (.long q2), .second, .val (.long q3), .second, .val (.long q4), .second, .val (.long q5), .second, .val (.long (1152921504606846975 : Int64)), .second, .val (.long l0), .second, .val (.long l1), .second, .val (.long l2), .second, .val (.long l3), .second, .val (.int (4 : Int32)), .val (.int mode), .val (.long q5), .second, .val (.ref b40), .val (.ref b46), .val (.int (if q5 < l2 then (if q5 < l1 then (if q5 < l0 then (-1 : Int32) else (0 : Int32)) else (1 : Int32)) else (2 : Int32)))] [])) t
          rw [if_pos hc297_73] at kt
          exact kt
        · show Steps p.tables e below (T69.setTop (mkF m 297 #[.val (.int p0), .val (.long q1), .second, .val (.long q2), .second, .val (.long q3), .second, .val (.long q4), .second, .val (.long q5), .second, .val (.long (1152921504606846975 : Int64)), .second, .val (.long l0), .second, .val (.long l1), .second, .val (.long l2), .second, .val (.long l3), .second, .val (.int (4 : Int32)), .val (.int mode), .val (.long q5), .second, .val (.ref b40), .val (.ref b46), .val (.int (if q5 < l2 then (if q5 < l1 then (if q5 < l0 then (-1 : Int32) else (0 : Int32)) else (1 : Int32)) else (2 : Int32)))] [(.int (lcmpW l3 q5))])) t
          refine XS.ifNo X69.here hx rfl (hb hby at_297) rfl (own_lN_gt hc297_73) ?_
          show Steps p.tables e below (T69.setTop (mkF m 300 #[.val (.int p0), .val (.long q1), .second, .val (.long q2), .second, .val (.long q3), .second, .val (.long q4), .second, .val (.long q5), .second, .val (.long (1152921504606846975 : Int64)), .second, .val (.long l0), .second, .val (.long l1), .second, .val (.long l2), .second, .val (.long l3), .second, .val (.int (4 : Int32)), .val (.int mode), .val (.long q5), .second, .val (.ref b40), .val (.ref b46), .val (.int (if q5 < l2 then (if q5 < l1 then (if q5 < l0 then (-1 : Int32) else (0 : Int32)) else (1 : Int32)) else (2 : Int32)))] [])) t
          refine XS.iconst X69.here hx rfl (hb hby at_300) ?_
          show Steps p.tables e below (T69.setTop (mkF m 301 #[.val (.int p0), .val (.long q1), .second, .val (.long q2), .second, .val (.long q3), .second, .val (.long q4), .second, .val (.long q5), .second, .val (.long (1152921504606846975 : Int64)), .second, .val (.long l0), .second, .val (.long l1), .second, .val (.long l2), .second, .val (.long l3), .second, .val (.int (4 : Int32)), .val (.int mode), .val (.long q5), .second, .val (.ref b40), .val (.ref b46), .val (.int (if q5 < l2 then (if q5 < l1 then (if q5 < l0 then (-1 : Int32) else (0 : Int32)) else (1 : Int32)) else (2 : Int32)))] [(.int (3 : Int32))])) t
          refine XS.istore X69.here hx rfl (hb hby at_301) rfl (l' := #[.val (.int p0), .val (.long q1), .second, .val (.long q2), .second, .val (.long q3), .second, .val (.long q4), .second, .val (.long q5), .second, .val (.long (1152921504606846975 : Int64)), .second, .val (.long l0), .second, .val (.long l1), .second, .val (.long l2), .second, .val (.long l3), .second, .val (.int (4 : Int32)), .val (.int mode), .val (.long q5), .second, .val (.ref b40), .val (.ref b46), .val (.int (3 : Int32))]) rfl ?_
          show Steps p.tables e below (T69.setTop (mkF m 303 #[.val (.int p0), .val (.long q1), .second, .val (.long q2), .second, .val (.long q3), .second, .val (.long q4), .second, .val (.long q5), .second, .val (.long (1152921504606846975 : Int64)), .second, .val (.long l0), .second, .val (.long l1), .second, .val (.long l2), .second, .val (.long l3), .second, .val (.int (4 : Int32)), .val (.int mode), .val (.long q5), .second, .val (.ref b40), .val (.ref b46), .val (.int (3 : Int32))] [])) t
          rw [if_neg hc297_73] at kt
          exact kt
      refine own_go (T' := T69) (f' := (mkF m 307 #[.val (.int p0), .val (.long q1), .second, .val (.long q2), .second, .val (.long q3), .second, .val (.long q4), .second, .val (.long q5), .second, .val (.long (1152921504606846975 : Int64)), .second, .val (.long l0), .second, .val (.long l1), .second, .val (.long l2), .second, .val (.long l3), .second, .val (.int (4 : Int32)), .val (.int mode), .val (.long q5), .second, .val (.ref b40), .val (.ref b46), .val (.int (if q5 < l3 then (if q5 < l2 then (if q5 < l1 then (if q5 < l0 then (-1 : Int32) else (0 : Int32)) else (1 : Int32)) else (2 : Int32)) else (3 : Int32)))] [(.long q5), (.ref b46)])) (fun t kt => ?_) ?_
      · show Steps p.tables e below (T69.setTop (mkF m 303 #[.val (.int p0), .val (.long q1), .second, .val (.long q2), .second, .val (.long q3), .second, .val (.long q4), .second, .val (.long q5), .second, .val (.long (1152921504606846975 : Int64)), .second, .val (.long l0), .second, .val (.long l1), .second, .val (.long l2), .second, .val (.long l3), .second, .val (.int (4 : Int32)), .val (.int mode), .val (.long q5), .second, .val (.ref b40), .val (.ref b46), .val (.int (if q5 < l3 then (if q5 < l2 then (if q5 < l1 then (if q5 < l0 then (-1 : Int32) else (0 : Int32)) else (1 : Int32)) else (2 : Int32)) else (3 : Int32)))] [])) t
        refine XS.aload X69.here hx rfl (hb hby at_303) rfl rfl ?_
        show Steps p.tables e below (T69.setTop (mkF m 305 #[.val (.int p0), .val (.long q1), .second, .val (.long q2), .second, .val (.long q3), .second, .val (.long q4), .second, .val (.long q5), .second, .val (.long (1152921504606846975 : Int64)), .second, .val (.long l0), .second, .val (.long l1), .second, .val (.long l2), .second, .val (.long l3), .second, .val (.int (4 : Int32)), .val (.int mode), .val (.long q5), .second, .val (.ref b40), .val (.ref b46), .val (.int (if q5 < l3 then (if q5 < l2 then (if q5 < l1 then (if q5 < l0 then (-1 : Int32) else (0 : Int32)) else (1 : Int32)) else (2 : Int32)) else (3 : Int32)))] [(.ref b46)])) t
        refine XS.lload X69.here hx rfl (hb hby at_305) rfl ?_
        show Steps p.tables e below (T69.setTop (mkF m 307 #[.val (.int p0), .val (.long q1), .second, .val (.long q2), .second, .val (.long q3), .second, .val (.long q4), .second, .val (.long q5), .second, .val (.long (1152921504606846975 : Int64)), .second, .val (.long l0), .second, .val (.long l1), .second, .val (.long l2), .second, .val (.long l3), .second, .val (.int (4 : Int32)), .val (.int mode), .val (.long q5), .second, .val (.ref b40), .val (.ref b46), .val (.int (if q5 < l3 then (if q5 < l2 then (if q5 < l1 then (if q5 < l0 then (-1 : Int32) else (0 : Int32)) else (1 : Int32)) else (2 : Int32)) else (3 : Int32)))] [(.long q5), (.ref b46)])) t
        exact kt
      refine own_callVp X69 hx hZ hown rfl (hw _ (List.mem_of_getElem? (i := 78) rfl)) (hw _ (List.mem_of_getElem? (i := 79) rfl)) (notFace_of_selects (args := #[]) (mvT hZ (hw _ (List.mem_of_getElem? (i := 81) rfl)))) (hw _ (List.mem_of_getElem? (i := 81) rfl)) (hw _ (List.mem_of_getElem? (i := 80) rfl)) (hw _ (List.mem_of_getElem? (i := 44) rfl)) (hw _ (List.mem_of_getElem? (i := 82) rfl)) (by decide) (rm7 l Z aw hw b46 q5 r47 f4 (((((0 : Int32) + (1 : Int32)) + (1 : Int32)) + (1 : Int32)) + (1 : Int32)) 4 T69.heap n0 ZKq69 Pq69_1 Pq69_2 Pq69_5 (by decide) (by decide) (own_q4 hl0 hl1 hl2 hl3 hf1 hf2 hf3 hf4)) Pq69_0 (g := (mkF m 307 #[.val (.int p0), .val (.long q1), .second, .val (.long q2), .second, .val (.long q3), .second, .val (.long q4), .second, .val (.long q5), .second, .val (.long (1152921504606846975 : Int64)), .second, .val (.long l0), .second, .val (.long l1), .second, .val (.long l2), .second, .val (.long l3), .second, .val (.int (4 : Int32)), .val (.int mode), .val (.long q5), .second, .val (.ref b40), .val (.ref b46), .val (.int (if q5 < l3 then (if q5 < l2 then (if q5 < l1 then (if q5 < l0 then (-1 : Int32) else (0 : Int32)) else (1 : Int32)) else (2 : Int32)) else (3 : Int32)))] [(.long q5), (.ref b46)])) rfl (by rw [hml]; rfl) (argsL := [(.long q5)]) (rest := []) (lenOf pd_5 rfl) rfl rfl (W := 0) (by show 2 * 0 + _ ≤ _; exact Nat.le_of_eq rfl) (hb hby at_307) (by decide) (by decide) (by decide) (by decide) ?_
      intro T74 X74 e74
      refine own_go (T' := T74) (f' := (mkF m 320 #[.val (.int p0), .val (.long q1), .second, .val (.long q2), .second, .val (.long q3), .second, .val (.long q4), .second, .val (.long q5), .second, .val (.long (1152921504606846975 : Int64)), .second, .val (.long l0), .second, .val (.long l1), .second, .val (.long l2), .second, .val (.long l3), .second, .val (.int (4 : Int32)), .val (.int mode), .val (.long q5), .second, .val (.ref b40), .val (.ref b46), .val (.int (if q5 < l3 then (if q5 < l2 then (if q5 < l1 then (if q5 < l0 then (-1 : Int32) else (0 : Int32)) else (1 : Int32)) else (2 : Int32)) else (3 : Int32)))] [(.int (1 : Int32))])) (fun t kt => ?_) ?_
      · show Steps p.tables e below (T74.setTop (mkF m 310 #[.val (.int p0), .val (.long q1), .second, .val (.long q2), .second, .val (.long q3), .second, .val (.long q4), .second, .val (.long q5), .second, .val (.long (1152921504606846975 : Int64)), .second, .val (.long l0), .second, .val (.long l1), .second, .val (.long l2), .second, .val (.long l3), .second, .val (.int (4 : Int32)), .val (.int mode), .val (.long q5), .second, .val (.ref b40), .val (.ref b46), .val (.int (if q5 < l3 then (if q5 < l2 then (if q5 < l1 then (if q5 < l0 then (-1 : Int32) else (0 : Int32)) else (1 : Int32)) else (2 : Int32)) else (3 : Int32)))] [(.int ((Int32.ofNat (own_cl 4 f4 q5)) - (1 : Int32)))])) t
        refine XS.iload X74.here hx rfl (hb hby at_310) rfl ?_
        show Steps p.tables e below (T74.setTop (mkF m 312 #[.val (.int p0), .val (.long q1), .second, .val (.long q2), .second, .val (.long q3), .second, .val (.long q4), .second, .val (.long q5), .second, .val (.long (1152921504606846975 : Int64)), .second, .val (.long l0), .second, .val (.long l1), .second, .val (.long l2), .second, .val (.long l3), .second, .val (.int (4 : Int32)), .val (.int mode), .val (.long q5), .second, .val (.ref b40), .val (.ref b46), .val (.int (if q5 < l3 then (if q5 < l2 then (if q5 < l1 then (if q5 < l0 then (-1 : Int32) else (0 : Int32)) else (1 : Int32)) else (2 : Int32)) else (3 : Int32)))] [(.int (if q5 < l3 then (if q5 < l2 then (if q5 < l1 then (if q5 < l0 then (-1 : Int32) else (0 : Int32)) else (1 : Int32)) else (2 : Int32)) else (3 : Int32))), (.int ((Int32.ofNat (own_cl 4 f4 q5)) - (1 : Int32)))])) t
        refine XS.icmpNo X74.here hx rfl (hb hby at_312) rfl (teq (show ((Int32.ofNat (own_cl 4 f4 q5)) - (1 : Int32)) = (if q5 < l3 then (if q5 < l2 then (if q5 < l1 then (if q5 < l0 then (-1 : Int32) else (0 : Int32)) else (1 : Int32)) else (2 : Int32)) else (3 : Int32)) from own_v4 hl0 hl1 hl2 hl3 hf1 hf2 hf3 hf4)).2 ?_
        show Steps p.tables e below (T74.setTop (mkF m 315 #[.val (.int p0), .val (.long q1), .second, .val (.long q2), .second, .val (.long q3), .second, .val (.long q4), .second, .val (.long q5), .second, .val (.long (1152921504606846975 : Int64)), .second, .val (.long l0), .second, .val (.long l1), .second, .val (.long l2), .second, .val (.long l3), .second, .val (.int (4 : Int32)), .val (.int mode), .val (.long q5), .second, .val (.ref b40), .val (.ref b46), .val (.int (if q5 < l3 then (if q5 < l2 then (if q5 < l1 then (if q5 < l0 then (-1 : Int32) else (0 : Int32)) else (1 : Int32)) else (2 : Int32)) else (3 : Int32)))] [])) t
        refine XS.iconst X74.here hx rfl (hb hby at_315) ?_
        show Steps p.tables e below (T74.setTop (mkF m 316 #[.val (.int p0), .val (.long q1), .second, .val (.long q2), .second, .val (.long q3), .second, .val (.long q4), .second, .val (.long q5), .second, .val (.long (1152921504606846975 : Int64)), .second, .val (.long l0), .second, .val (.long l1), .second, .val (.long l2), .second, .val (.long l3), .second, .val (.int (4 : Int32)), .val (.int mode), .val (.long q5), .second, .val (.ref b40), .val (.ref b46), .val (.int (if q5 < l3 then (if q5 < l2 then (if q5 < l1 then (if q5 < l0 then (-1 : Int32) else (0 : Int32)) else (1 : Int32)) else (2 : Int32)) else (3 : Int32)))] [(.int (1 : Int32))])) t
        refine XS.goto X74.here hx rfl (pc0 := 316) (pc' := 320) rfl (hb hby at_316) (by decide) (by decide) ?_
        show Steps p.tables e below (T74.setTop (mkF m 320 #[.val (.int p0), .val (.long q1), .second, .val (.long q2), .second, .val (.long q3), .second, .val (.long q4), .second, .val (.long q5), .second, .val (.long (1152921504606846975 : Int64)), .second, .val (.long l0), .second, .val (.long l1), .second, .val (.long l2), .second, .val (.long l3), .second, .val (.int (4 : Int32)), .val (.int mode), .val (.long q5), .second, .val (.ref b40), .val (.ref b46), .val (.int (if q5 < l3 then (if q5 < l2 then (if q5 < l1 then (if q5 < l0 then (-1 : Int32) else (0 : Int32)) else (1 : Int32)) else (2 : Int32)) else (3 : Int32)))] [(.int (1 : Int32))])) t
        exact kt
      exact own_retNW X74 hP hx hlk e74 hS kzKq69 (t := .boolean) hret (by simp) (hb hby at_320) (by decide) (by decide) (z' := (1 : Int32)) rfl ⟨rfl, N69⟩
set_option maxRecDepth 65536 in
set_option maxHeartbeats 40000000 in
theorem comes_1 {Post : Tables → Env → Array Value → State → Outcome → State → Prop} (hpost : ∀ tb e args s v u, (limb_1_1.after args s (.returned v) u = true ∧ limb_1_2.after args s (.returned v) u = true ∧ True) → ReturnedEndW s (.returned v) u (Jvm.fieldLocs frame_1_writes args s ++ Jvm.arrayLocs frame_1_arrays args s ++ Jvm.staticLocs frame_1_statics s) 40 1152 → Post tb e args s (.returned v) u) :
    ArmFor flags0 classFile x code maxLocals ret World_1 tables_1 room_1 Calls_1 rest_1 Pre_1 Post := by
  intro l hfl _ _ p e ha hc hk s m args below hf hA hF happ hP
  obtain ⟨hcalls, hrest, hpre⟩ := hP
  obtain ⟨-, -, -, hnamed, -, -, -, hat⟩ := (Spec.applies_iff hf).mp happ
  obtain ⟨hg, hn⟩ := and_e (Cond.before_iff.mp (show (Jvm.Cond.and given_1 narrow_1).before args s = true from hpre))
  obtain ⟨k1, k2⟩ := and_e hg
  obtain ⟨k3, k4⟩ := and_e k2
  obtain ⟨k5, k6⟩ := and_e k4
  obtain ⟨k7, k8⟩ := and_e k6
  obtain ⟨k9, k10⟩ := and_e k8
  obtain ⟨k11, k12⟩ := and_e k10
  obtain ⟨w0, w1, w2, w3, w4, w5, rfl⟩ : ∃ w0 w1 w2 w3 w4 w5 : Value, args = #[w0, w1, w2, w3, w4, w5] := by
    have hs : args.size = 6 := by simpa [Cond.value, given_1] using k1
    obtain ⟨L⟩ := args
    match L, hs with
    | [w0, w1, w2, w3, w4, w5], _ => exact ⟨w0, w1, w2, w3, w4, w5, rfl⟩
  have hw := fun d (hd : d ∈ tables_1) => atoms_spec (ws := Jvm.Cond.code x code maxLocals ret :: tables_1) hat d (List.mem_cons_of_mem _ hd)
  obtain ⟨i0, ei0⟩ := is_v k3
  obtain rfl : w0 = (.int i0) := Option.some.inj ei0
  obtain ⟨i1, ei1⟩ := isL_v k5
  obtain rfl : w1 = (.long i1) := Option.some.inj ei1
  obtain ⟨i2, ei2⟩ := isL_v k7
  obtain rfl : w2 = (.long i2) := Option.some.inj ei2
  obtain ⟨i3, ei3⟩ := isL_v k9
  obtain rfl : w3 = (.long i3) := Option.some.inj ei3
  obtain ⟨i4, ei4⟩ := isL_v k11
  obtain rfl : w4 = (.long i4) := Option.some.inj ei4
  obtain ⟨i5, ei5⟩ := isL_v k12
  obtain rfl : w5 = (.long i5) := Option.some.inj ei5
  obtain ⟨n, o, h1, h2, h3, _, L, rfl, ⟨rfl, N⟩, hq⟩ := rm0 l s _ hw (ws := tables_1) i0 i1 i2 i3 i4 i5 s.heap s.heap.size (Nat.le_refl _)  p e ha hc hk s m _ below hf ((Spec.applies_iff_loose hf).mp happ).1 ⟨rfl, State.Warmed39.refl s, rfl⟩ trivial
  refine ⟨n, _, h1, h2, h3, hpost _ _ _ _ _ _ ⟨Cond.after_iff.mpr rfl, Cond.after_iff.mpr (eq_i res_at (Term.int_eval (1)) rfl), trivial⟩ ⟨hq.1, hq.2.1, hq.2.2.1, (hq.2.2.2.sift fun y hy => Or.inr (N y hy)).mono (by decide) (by decide)⟩⟩
theorem main_1_1 : Claimed_1_1 := comes_1 fun _ _ _ _ _ _ h hF => ⟨h.1, hF⟩
theorem main_1_2 : Claimed_1_2 := comes_1 fun _ _ _ _ _ _ h hF => ⟨h.2.1, hF⟩
end Jvm.Pilot.@@N@@
namespace Jvm.Pilot.@@N@@
open Jvm Jvm.ClassFile Sem Op Lib Jvm.Free Jvm.Stand Jvm.Pilot.@@N@@.Jvm.D
/-! MADE BY PROGRAM (witnessworld.py) out of the Statement's table words and the real class files: 17 classes; the members and pool entries that the words name. The judged class is class 1, her method 1. -/
namespace start1
open Jvm.ClassFile
def u (s : String) : CpInfo := .utf8 (stringToUtf16 s)
/-- a pool by its gaps: so many unusable entries, then the entry; so many at the end -/
def gap : Nat → List CpInfo → List CpInfo
  | 0, r => r
  | n + 1, r => .unusable :: gap n r
def poolList (es : List (Nat × CpInfo)) (last : Nat) : List CpInfo := es.foldr (fun e r => gap e.1 (e.2 :: r)) (gap last [])
def pool (es : List (Nat × CpInfo)) (last : Nat) : Array CpInfo := ⟨poolList es last⟩
def fileOf (pool : Array CpInfo) (this : Nat) (attrs : Array Attribute := #[]) (ms : Array MethodInfo := #[]) (fl : Nat := 33) (sup : Nat := 0) (ifs : Array Nat := #[]) (fds : Array FieldInfo := #[]) : ClassFile where
  minorVersion := 0
  majorVersion := 65
  constantPool := pool
  accessFlags := fl
  thisClass := this
  superClass := sup
  interfaces := ifs
  fields := fds
  methods := ms
  attributes := attrs
def plain (name : String) (sup : Option ClassId) : Class where
  name := name
  kind := .ordinary
  loader := none
  accessFlags := 33
  super := sup
  interfaces := #[]
  cf := none
  fields := #[]
  methods := #[]
  instanceTypes := #[]
  staticTypes := #[]
  resolved := #[]
  callSites := []
  init := .initialized
  statics := none
  mirror := none

def pool0 : Array CpInfo := pool [(5, u "<init>"), (0, u "()V"), (1, .class_ 10), (1, u "java/lang/Object"), (85, u "clone"), (0, u "()Ljava/lang/Object;")] 26

def k0c0 : Code := { maxStack := 0, maxLocals := 1, code := object_method_1_code, exceptionTable := #[], attributes := #[] }
def k0m0 : Method := { name := "<init>", desc := "()V", sig := { parameters := [], returnType := none }, accessFlags := 1, code := some k0c0 }
def k0m1 : Method := { name := "clone", desc := "()Ljava/lang/Object;", sig := { parameters := [], returnType := some (.object "java/lang/Object") }, accessFlags := 260, code := none }
/-- java/lang/Object -/
def k0 : Class := { plain "java/lang/Object" none with
  accessFlags := 33
  interfaces := #[]
  cf := some (fileOf pool0 8 #[] #[{ accessFlags := 1, nameIndex := 5, descriptorIndex := 6, attributes := #[] }, { accessFlags := 260, nameIndex := 96, descriptorIndex := 97, attributes := #[] }] 33 0 #[] #[])
  fields := #[]
  methods := #[k0m0, k0m1]
  instanceTypes := #[]
  staticTypes := #[]
  resolved := Array.replicate 124 none
  statics := none }

def pool1 : Array CpInfo := pool [(2, .class_ 4), (1, u "java/lang/Object"), (0, u "<init>"), (0, u "()V"), (0, .long 1152921504606846975), (1, .class_ 10), (0, u "com/example/ridgeline/ridgeline/cumulative/Resource"), (0, .methodref 9 12), (0, .nameAndType 5 13), (0, u "(J[J[J[J[J)V"), (0, .class_ 15), (0, u "com/example/ridgeline/ridgeline/cumulative/IntervalLine"), (0, .methodref 14 17), (0, .nameAndType 5 18), (0, u "(Lcom/example/ridgeline/ridgeline/cumulative/Resource;I)V"), (0, .methodref 14 20), (0, .nameAndType 21 22), (0, u "begin"), (0, u "(ZJ)V"), (0, .methodref 14 24), (0, .nameAndType 25 26), (0, u "add"), (0, u "(J)V"), (0, .methodref 14 28), (0, .nameAndType 29 30), (0, u "lastUpTo"), (0, u "(J)I"), (0, .class_ 32), (0, u "com/example/ridgeline/ridgeline/cumulative/IntervalLineLastUpToPinLaw"), (2, u "law"), (0, u "(IJJJJJ)Z")] 3

def k1m0 : Method := { name := "<init>", desc := "()V", sig := { parameters := [], returnType := none }, accessFlags := 1, code := none }
def k1c1 : Code := { maxStack := 8, maxLocals := 28, code := code, exceptionTable := #[], attributes := #[] }
def k1m1 : Method := { name := "law", desc := "(IJJJJJ)Z", sig := { parameters := [.int, .long, .long, .long, .long, .long], returnType := some .boolean }, accessFlags := 9, code := some k1c1 }
/-- com/example/ridgeline/ridgeline/cumulative/IntervalLineLastUpToPinLaw -/
def k1 : Class := { plain "com/example/ridgeline/ridgeline/cumulative/IntervalLineLastUpToPinLaw" (some 0) with
  accessFlags := 49
  interfaces := #[]
  cf := some (fileOf pool1 31 #[] #[{ accessFlags := 1, nameIndex := 5, descriptorIndex := 6, attributes := #[] }, { accessFlags := 9, nameIndex := 35, descriptorIndex := 36, attributes := #[] }] 49 2 #[] #[])
  fields := #[]
  methods := #[k1m0, k1m1]
  instanceTypes := #[]
  staticTypes := #[]
  resolved := Array.replicate 40 none
  statics := none }

def pool2 : Array CpInfo := pool [(1, .methodref 2 3), (0, .class_ 4), (0, .nameAndType 5 6), (0, u "java/lang/Object"), (0, u "<init>"), (0, u "()V"), (7, .string 15), (0, u "capacity"), (0, .methodref 17 18), (0, .class_ 19), (0, .nameAndType 20 21), (0, u "com/example/ridgeline/ridgeline/cumulative/Resource"), (0, u "requireRange"), (0, u "(Ljava/lang/String;JJ)V"), (4, .long 18446744071562067968), (7, .fieldref 17 35), (0, .nameAndType 36 37), (0, u "m_capacity"), (0, u "J"), (0, .methodref 39 40), (0, .class_ 41), (0, .nameAndType 42 43), (0, u "[J"), (0, u "clone"), (0, u "()Ljava/lang/Object;"), (0, .fieldref 17 45), (0, .nameAndType 46 41), (0, u "m_est"), (0, .fieldref 17 48), (0, .nameAndType 49 41), (0, u "m_lct"), (0, .fieldref 17 51), (0, .nameAndType 52 41), (0, u "m_duration"), (0, .fieldref 17 54), (0, .nameAndType 55 41), (0, u "m_height"), (2, u "size"), (0, u "()I"), (0, .long 2147483647), (64, u "(J[J[J[J[J)V")] 43

def k2c0 : Code := { maxStack := 5, maxLocals := 9, code := prog_39_method_1_code, exceptionTable := #[], attributes := #[] }
def k2m0 : Method := { name := "<init>", desc := "(J[J[J[J[J)V", sig := { parameters := [.long, (.array .long), (.array .long), (.array .long), (.array .long)], returnType := none }, accessFlags := 1, code := some k2c0 }
def k2c1 : Code := { maxStack := 7, maxLocals := 5, code := prog_39_method_3_code, exceptionTable := #[], attributes := #[] }
def k2m1 : Method := { name := "requireRange", desc := "(Ljava/lang/String;JJ)V", sig := { parameters := [(.object "java/lang/String"), .long, .long], returnType := none }, accessFlags := 10, code := some k2c1 }
def k2c2 : Code := { maxStack := 1, maxLocals := 1, code := prog_39_method_4_code, exceptionTable := #[], attributes := #[] }
def k2m2 : Method := { name := "size", desc := "()I", sig := { parameters := [], returnType := some .int }, accessFlags := 1, code := some k2c2 }
/-- com/example/ridgeline/ridgeline/cumulative/Resource -/
def k2 : Class := { plain "com/example/ridgeline/ridgeline/cumulative/Resource" (some 0) with
  accessFlags := 49
  interfaces := #[]
  cf := some (fileOf pool2 17 #[] #[{ accessFlags := 1, nameIndex := 5, descriptorIndex := 125, attributes := #[] }, { accessFlags := 10, nameIndex := 20, descriptorIndex := 21, attributes := #[] }, { accessFlags := 1, nameIndex := 58, descriptorIndex := 59, attributes := #[] }] 49 2 #[] #[{ accessFlags := 18, nameIndex := 36, descriptorIndex := 37, attributes := #[] }, { accessFlags := 18, nameIndex := 46, descriptorIndex := 41, attributes := #[] }, { accessFlags := 18, nameIndex := 49, descriptorIndex := 41, attributes := #[] }, { accessFlags := 18, nameIndex := 52, descriptorIndex := 41, attributes := #[] }, { accessFlags := 18, nameIndex := 55, descriptorIndex := 41, attributes := #[] }])
  fields := #[{ name := "m_capacity", type := .long, accessFlags := 18, slot := 0, constantValue := 0 }, { name := "m_est", type := (.array .long), accessFlags := 18, slot := 1, constantValue := 0 }, { name := "m_lct", type := (.array .long), accessFlags := 18, slot := 2, constantValue := 0 }, { name := "m_duration", type := (.array .long), accessFlags := 18, slot := 3, constantValue := 0 }, { name := "m_height", type := (.array .long), accessFlags := 18, slot := 4, constantValue := 0 }]
  methods := #[k2m0, k2m1, k2m2]
  instanceTypes := #[.long, (.array .long), (.array .long), (.array .long), (.array .long)]
  staticTypes := #[]
  resolved := Array.replicate 169 none
  statics := none }

def pool3 : Array CpInfo := pool [(1, .class_ 2), (0, u "java/io/Serializable"), (0, .class_ 4), (0, u "java/lang/Object")] 2

/-- java/io/Serializable -/
def k3 : Class := { plain "java/io/Serializable" (some 0) with
  accessFlags := 1537
  interfaces := #[]
  cf := some (fileOf pool3 1 #[] #[] 1537 3 #[] #[])
  fields := #[]
  methods := #[]
  instanceTypes := #[]
  staticTypes := #[]
  resolved := Array.replicate 7 none
  statics := none }

def pool4 : Array CpInfo := pool [(1, .class_ 2), (0, u "java/lang/Comparable"), (0, .class_ 4), (0, u "java/lang/Object")] 7

/-- java/lang/Comparable -/
def k4 : Class := { plain "java/lang/Comparable" (some 0) with
  accessFlags := 1537
  interfaces := #[]
  cf := some (fileOf pool4 1 #[] #[] 1537 3 #[] #[])
  fields := #[]
  methods := #[]
  instanceTypes := #[]
  staticTypes := #[]
  resolved := Array.replicate 12 none
  statics := none }

def pool5 : Array CpInfo := pool [(2, .class_ 4), (1, u "java/lang/CharSequence"), (42, .class_ 48), (0, u "java/lang/CharSequence$1CodePointIterator"), (10, .class_ 60), (0, u "java/lang/CharSequence$1CharIterator"), (5, .class_ 67), (0, u "java/lang/Object")] 63

/-- java/lang/CharSequence -/
def k5 : Class := { plain "java/lang/CharSequence" (some 0) with
  accessFlags := 1537
  interfaces := #[]
  cf := some (fileOf pool5 2 #[.nestMembers #[47, 59]] #[] 1537 66 #[] #[])
  fields := #[]
  methods := #[]
  instanceTypes := #[]
  staticTypes := #[]
  resolved := Array.replicate 131 none
  statics := none }

def pool6 : Array CpInfo := pool [(1, .class_ 2), (0, u "java/lang/constant/Constable"), (0, .class_ 4), (0, u "java/lang/Object")] 6

/-- java/lang/constant/Constable -/
def k6 : Class := { plain "java/lang/constant/Constable" (some 0) with
  accessFlags := 1537
  interfaces := #[]
  cf := some (fileOf pool6 1 #[] #[] 1537 3 #[] #[])
  fields := #[]
  methods := #[]
  instanceTypes := #[]
  staticTypes := #[]
  resolved := Array.replicate 11 none
  statics := none }

def pool7 : Array CpInfo := pool [(1, .class_ 2), (0, u "java/lang/constant/ConstantDesc"), (0, .class_ 4), (0, u "java/lang/Object")] 32

/-- java/lang/constant/ConstantDesc -/
def k7 : Class := { plain "java/lang/constant/ConstantDesc" (some 0) with
  accessFlags := 1537
  interfaces := #[]
  cf := some (fileOf pool7 1 #[] #[] 1537 3 #[] #[])
  fields := #[]
  methods := #[]
  instanceTypes := #[]
  staticTypes := #[]
  resolved := Array.replicate 37 none
  statics := none }

def pool8 : Array CpInfo := pool [(2, .class_ 4), (1, u "java/lang/Object"), (0, u "<init>"), (0, u "()V"), (3, .class_ 12), (1, u "java/lang/String"), (0, u "value"), (0, u "[B"), (2, u "coder"), (0, u "B"), (2, u "hash"), (0, u "I"), (2, u "hashIsZero"), (0, u "Z"), (13, u "COMPACT_STRINGS"), (534, .class_ 576), (0, u "java/lang/CharSequence"), (22, u "CASE_INSENSITIVE_ORDER"), (0, u "Ljava/util/Comparator;"), (500, u "serialPersistentFields"), (0, u "[Ljava/io/ObjectStreamField;"), (0, .class_ 1104), (0, u "java/lang/String$CaseInsensitiveComparator"), (1, .class_ 1107), (0, u "java/io/Serializable"), (0, .class_ 1109), (0, u "java/lang/Comparable"), (0, .class_ 1111), (0, u "java/lang/constant/Constable"), (0, .class_ 1113), (0, u "java/lang/constant/ConstantDesc"), (2, u "serialVersionUID"), (0, u "J"), (3, u "REPL"), (0, u "C"), (2, u "LATIN1"), (1, u "UTF16")] 323

def k8m0 : Method := { name := "<init>", desc := "()V", sig := { parameters := [], returnType := none }, accessFlags := 1, code := none }
/-- java/lang/String -/
def k8 : Class := { plain "java/lang/String" (some 0) with
  accessFlags := 49
  interfaces := #[3, 4, 5, 6, 7]
  cf := some (fileOf pool8 10 #[.nestMembers #[1103]] #[{ accessFlags := 1, nameIndex := 5, descriptorIndex := 6, attributes := #[] }] 49 2 #[1106, 1108, 575, 1110, 1112] #[{ accessFlags := 18, nameIndex := 13, descriptorIndex := 14, attributes := #[] }, { accessFlags := 18, nameIndex := 17, descriptorIndex := 18, attributes := #[] }, { accessFlags := 2, nameIndex := 21, descriptorIndex := 22, attributes := #[] }, { accessFlags := 2, nameIndex := 25, descriptorIndex := 26, attributes := #[] }, { accessFlags := 26, nameIndex := 1116, descriptorIndex := 1117, attributes := #[] }, { accessFlags := 24, nameIndex := 40, descriptorIndex := 26, attributes := #[] }, { accessFlags := 26, nameIndex := 1101, descriptorIndex := 1102, attributes := #[] }, { accessFlags := 26, nameIndex := 1121, descriptorIndex := 1122, attributes := #[] }, { accessFlags := 25, nameIndex := 599, descriptorIndex := 600, attributes := #[] }, { accessFlags := 24, nameIndex := 1125, descriptorIndex := 18, attributes := #[] }, { accessFlags := 24, nameIndex := 1127, descriptorIndex := 18, attributes := #[] }])
  fields := #[{ name := "value", type := (.array .byte), accessFlags := 18, slot := 0, constantValue := 0 }, { name := "coder", type := .byte, accessFlags := 18, slot := 1, constantValue := 0 }, { name := "hash", type := .int, accessFlags := 2, slot := 2, constantValue := 0 }, { name := "hashIsZero", type := .boolean, accessFlags := 2, slot := 3, constantValue := 0 }, { name := "serialVersionUID", type := .long, accessFlags := 26, slot := 0, constantValue := 0 }, { name := "COMPACT_STRINGS", type := .boolean, accessFlags := 24, slot := 1, constantValue := 0 }, { name := "serialPersistentFields", type := (.array (.object "java/io/ObjectStreamField")), accessFlags := 26, slot := 2, constantValue := 0 }, { name := "REPL", type := .char, accessFlags := 26, slot := 3, constantValue := 0 }, { name := "CASE_INSENSITIVE_ORDER", type := (.object "java/util/Comparator"), accessFlags := 25, slot := 4, constantValue := 0 }, { name := "LATIN1", type := .byte, accessFlags := 24, slot := 5, constantValue := 0 }, { name := "UTF16", type := .byte, accessFlags := 24, slot := 6, constantValue := 0 }]
  methods := #[k8m0]
  instanceTypes := #[(.array .byte), .byte, .int, .boolean]
  staticTypes := #[.long, .boolean, (.array (.object "java/io/ObjectStreamField")), .char, (.object "java/util/Comparator"), .byte, .byte]
  resolved := Array.replicate 1451 none
  statics := none }

def pool9 : Array CpInfo := pool [(1, .class_ 2), (0, u "java/lang/Cloneable"), (0, .class_ 4), (0, u "java/lang/Object")] 2

/-- java/lang/Cloneable -/
def k9 : Class := { plain "java/lang/Cloneable" (some 0) with
  accessFlags := 1537
  interfaces := #[]
  cf := some (fileOf pool9 1 #[] #[] 1537 3 #[] #[])
  fields := #[]
  methods := #[]
  instanceTypes := #[]
  staticTypes := #[]
  resolved := Array.replicate 7 none
  statics := none }

def pool10 : Array CpInfo := pool [(1, .methodref 2 3), (0, .class_ 4), (0, .nameAndType 5 6), (0, u "java/lang/Object"), (0, u "<init>"), (0, u "()V"), (0, .fieldref 8 9), (0, .class_ 10), (0, .nameAndType 11 12), (0, u "com/example/ridgeline/ridgeline/cumulative/IntervalLine"), (0, u "m_resource"), (0, u "Lcom/example/ridgeline/ridgeline/cumulative/Resource;"), (0, .fieldref 8 14), (0, .nameAndType 15 16), (0, u "m_length"), (0, u "[J"), (0, .fieldref 8 18), (0, .nameAndType 19 16), (0, u "m_overload"), (0, .fieldref 8 21), (0, .nameAndType 22 23), (0, u "m_users"), (0, u "[I"), (0, .methodref 25 26), (0, .class_ 27), (0, .nameAndType 28 29), (0, u "com/example/ridgeline/ridgeline/cumulative/Resource"), (0, u "size"), (0, u "()I"), (0, .fieldref 8 31), (0, .nameAndType 32 16), (0, u "m_delay"), (0, .fieldref 8 34), (0, .nameAndType 35 16), (0, u "m_most"), (0, .fieldref 8 37), (0, .nameAndType 38 39), (0, u "m_row"), (0, u "Z"), (0, .fieldref 8 41), (0, .nameAndType 42 43), (0, u "m_end"), (0, u "J"), (0, .fieldref 8 45), (0, .nameAndType 46 47), (0, u "m_size"), (0, u "I"), (39, u "m_largest"), (23, u "(Lcom/example/ridgeline/ridgeline/cumulative/Resource;I)V"), (2, u "begin"), (0, u "(ZJ)V"), (0, u "add"), (0, u "(J)V"), (16, u "(J)I"), (0, u "lastUpTo")] 30

def k10c0 : Code := { maxStack := 2, maxLocals := 3, code := prog_28_method_1_code, exceptionTable := #[], attributes := #[] }
def k10m0 : Method := { name := "<init>", desc := "(Lcom/example/ridgeline/ridgeline/cumulative/Resource;I)V", sig := { parameters := [(.object "com/example/ridgeline/ridgeline/cumulative/Resource"), .int], returnType := none }, accessFlags := 0, code := some k10c0 }
def k10c1 : Code := { maxStack := 3, maxLocals := 4, code := prog_28_method_2_code, exceptionTable := #[], attributes := #[] }
def k10m1 : Method := { name := "begin", desc := "(ZJ)V", sig := { parameters := [.boolean, .long], returnType := none }, accessFlags := 0, code := some k10c1 }
def k10c2 : Code := { maxStack := 5, maxLocals := 3, code := prog_28_method_3_code, exceptionTable := #[], attributes := #[] }
def k10m2 : Method := { name := "add", desc := "(J)V", sig := { parameters := [.long], returnType := none }, accessFlags := 0, code := some k10c2 }
def k10c3 : Code := { maxStack := 4, maxLocals := 6, code := prog_28_method_20_code, exceptionTable := #[], attributes := #[] }
def k10m3 : Method := { name := "lastUpTo", desc := "(J)I", sig := { parameters := [.long], returnType := some .int }, accessFlags := 0, code := some k10c3 }
/-- com/example/ridgeline/ridgeline/cumulative/IntervalLine -/
def k10 : Class := { plain "com/example/ridgeline/ridgeline/cumulative/IntervalLine" (some 0) with
  accessFlags := 48
  interfaces := #[]
  cf := some (fileOf pool10 8 #[] #[{ accessFlags := 0, nameIndex := 5, descriptorIndex := 111, attributes := #[] }, { accessFlags := 0, nameIndex := 114, descriptorIndex := 115, attributes := #[] }, { accessFlags := 0, nameIndex := 116, descriptorIndex := 117, attributes := #[] }, { accessFlags := 0, nameIndex := 135, descriptorIndex := 134, attributes := #[] }] 48 2 #[] #[{ accessFlags := 18, nameIndex := 11, descriptorIndex := 12, attributes := #[] }, { accessFlags := 2, nameIndex := 38, descriptorIndex := 39, attributes := #[] }, { accessFlags := 2, nameIndex := 42, descriptorIndex := 43, attributes := #[] }, { accessFlags := 2, nameIndex := 46, descriptorIndex := 47, attributes := #[] }, { accessFlags := 18, nameIndex := 15, descriptorIndex := 16, attributes := #[] }, { accessFlags := 18, nameIndex := 19, descriptorIndex := 16, attributes := #[] }, { accessFlags := 2, nameIndex := 87, descriptorIndex := 43, attributes := #[] }, { accessFlags := 2, nameIndex := 22, descriptorIndex := 23, attributes := #[] }, { accessFlags := 18, nameIndex := 32, descriptorIndex := 16, attributes := #[] }, { accessFlags := 18, nameIndex := 35, descriptorIndex := 16, attributes := #[] }])
  fields := #[{ name := "m_resource", type := (.object "com/example/ridgeline/ridgeline/cumulative/Resource"), accessFlags := 18, slot := 0, constantValue := 0 }, { name := "m_row", type := .boolean, accessFlags := 2, slot := 1, constantValue := 0 }, { name := "m_end", type := .long, accessFlags := 2, slot := 2, constantValue := 0 }, { name := "m_size", type := .int, accessFlags := 2, slot := 3, constantValue := 0 }, { name := "m_length", type := (.array .long), accessFlags := 18, slot := 4, constantValue := 0 }, { name := "m_overload", type := (.array .long), accessFlags := 18, slot := 5, constantValue := 0 }, { name := "m_largest", type := .long, accessFlags := 2, slot := 6, constantValue := 0 }, { name := "m_users", type := (.array .int), accessFlags := 2, slot := 7, constantValue := 0 }, { name := "m_delay", type := (.array .long), accessFlags := 18, slot := 8, constantValue := 0 }, { name := "m_most", type := (.array .long), accessFlags := 18, slot := 9, constantValue := 0 }]
  methods := #[k10m0, k10m1, k10m2, k10m3]
  instanceTypes := #[(.object "com/example/ridgeline/ridgeline/cumulative/Resource"), .boolean, .long, .int, (.array .long), (.array .long), .long, (.array .int), (.array .long), (.array .long)]
  staticTypes := #[]
  resolved := Array.replicate 166 none
  statics := none }

/-- the primitive byte -/
def k11 : Class := { plain "byte" none with kind := .primitive 'B', accessFlags := 0x411 }
/-- [B -/
def k12 : Class := { plain "[B" (some 0) with kind := .array 11 .byte, interfaces := #[9, 3], accessFlags := 1041 }

/-- the primitive int -/
def k13 : Class := { plain "int" none with kind := .primitive 'I', accessFlags := 0x411 }
/-- [I -/
def k14 : Class := { plain "[I" (some 0) with kind := .array 13 .int, interfaces := #[9, 3], accessFlags := 1041 }

/-- the primitive long -/
def k15 : Class := { plain "long" none with kind := .primitive 'J', accessFlags := 0x411 }
/-- [J -/
def k16 : Class := { plain "[J" (some 0) with kind := .array 15 .long, interfaces := #[9, 3], accessFlags := 1041 }

def heap : Heap := #[]
def classes : Array Class := #[k0, k1, k2, k3, k4, k5, k6, k7, k8, k9, k10, k11, k12, k13, k14, k15, k16]
def interned : List (Array UInt16 × Addr) := []
def slotsUsed : Nat := 0
def theMethod : MethodId := ⟨1, 1⟩
def args0 : Array Value := #[.int 5, .long 0, .long 1, .long 2, .long 3, .long 4]
def aboutOver (below : List Frame) : State where
  vm := { classes := classes, interned := interned.toArray }
  heap := heap
  slotsUsed := slotsUsed
  threads := #[{ frames := .invoking theMethod args0 :: below }]
def below0 : List Frame := [.native { method := ⟨0, 0⟩, args := #[] }]
def about1 : State := aboutOver below0
def p0 : Program := .bare "" "" ""
def e0 : Env := launch0.env 0 0 0
theorem w_frames : about1.frames = Frame.invoking theMethod args0 :: below0 := rfl
set_option maxRecDepth 65536 in
theorem w_args : argsFit about1.vm theMethod args0 = true := by decide +kernel
set_option maxRecDepth 65536 in
theorem w_heap : heapFits about1 = true := by decide +kernel
set_option maxRecDepth 65536 in
theorem w_runnable : about1.curStatus? = some .runnable := by decide +kernel
set_option maxRecDepth 65536 in
theorem w_alone : about1.alone = true := by decide +kernel
set_option maxRecDepth 65536 in
theorem w_named : about1.methodNamed? x = some theMethod := by decide +kernel
set_option maxRecDepth 65536 in
theorem w_hears : about1.hears theMethod below0 = true := by decide +kernel
set_option maxRecDepth 65536 in
theorem w_ripe : about1.ripe theMethod args0 below0 = true := by decide +kernel
theorem w_running : about1.status = .running := rfl
set_option maxRecDepth 65536 in
theorem w_room : about1.hasRoom e0.platform room_1 = true :=
  launch0.hasRoom_least _ room_1 (by decide +kernel) (by decide +kernel) (by decide +kernel) (by decide +kernel) (by decide +kernel) (by decide +kernel)
theorem allAtoms_all (ts : List Jvm.Cond) (a : Array Jvm.Value) (st : Jvm.State) : (allAtoms ts).before a st = ts.all (fun c => c.before a st) := by
  induction ts with
  | nil => rfl
  | cons c t ih =>
    show (Jvm.Cond.and c (allAtoms t)).before a st = _
    rw [Jvm.Cond.before_and, ih, List.all_cons]
def words1 : List Jvm.Cond := Jvm.Cond.code x code maxLocals ret :: tables_1
/-- a 'code' word, met by the world's own term for the bytes: nothing is compared byte by byte -/
theorem code_word {y : MethodName} {bytes : ByteArray} {mx : Nat} {rt : Option FieldType} {a : Array Value} {s : State} {m : MethodId} {meth : Method} {c : Code} (h1 : s.methodNamed? y = some m) (h2 : s.vm.method? m = some meth) (h3 : meth.code = some c) (h4 : c.code = bytes)
    (h5 : (c.maxLocals == mx && c.exceptionTable.isEmpty && decide (c.maxStack ≤ mostOperands) && decide (meth.sig.returnType = rt) && !meth.locks && decide (parseMethodDescriptor y.desc = some meth.sig)) = true) : (Jvm.Cond.code y bytes mx rt).before a s = true := by
  simp only [Bool.and_eq_true, beq_iff_eq, Bool.not_eq_true', decide_eq_true_eq] at h5
  obtain ⟨⟨⟨⟨⟨g1, g2⟩, g3⟩, g4⟩, g5⟩, g6⟩ := h5
  simp [Cond.before, Cond.holds, Cond.value, h1, h2, h3, h4, g1, g2, g3, g4, g5, g6]
def isCode : Jvm.Cond → Bool
  | .code _ _ _ _ => true
  | _ => false
theorem all_split {L : List Jvm.Cond} {P : Jvm.Cond → Bool} (h1 : L.all (fun c => isCode c || P c) = true) (h2 : ∀ c ∈ L.filter isCode, P c = true) : L.all P = true := by
  refine List.all_eq_true.mpr fun c hc => ?_
  have h := List.all_eq_true.mp h1 c hc
  rcases Bool.eq_false_or_eq_true (isCode c) with hi | hi
  · exact h2 c (List.mem_filter.mpr ⟨hc, hi⟩)
  · simpa [hi] using h
set_option maxRecDepth 65536 in
theorem w_c0 : (Jvm.Cond.code x code maxLocals ret).before args0 about1 = true := code_word (m := ⟨1, 1⟩) (meth := k1m1) (c := k1c1) (by decide +kernel) rfl rfl rfl (by decide +kernel)
set_option maxRecDepth 65536 in
theorem w_c1 : (Jvm.Cond.code ({ cls := "com/example/ridgeline/ridgeline/cumulative/Resource", name := "<init>", desc := "(J[J[J[J[J)V" } : Jvm.MethodName) prog_39_method_1_code (9 : Nat) (Option.none : Option Jvm.ClassFile.FieldType)).before args0 about1 = true := code_word (m := ⟨2, 0⟩) (meth := k2m0) (c := k2c0) (by decide +kernel) rfl rfl rfl (by decide +kernel)
set_option maxRecDepth 65536 in
theorem w_c2 : (Jvm.Cond.code ({ cls := "java/lang/Object", name := "<init>", desc := "()V" } : Jvm.MethodName) object_method_1_code (1 : Nat) (Option.none : Option Jvm.ClassFile.FieldType)).before args0 about1 = true := code_word (m := ⟨0, 0⟩) (meth := k0m0) (c := k0c0) (by decide +kernel) rfl rfl rfl (by decide +kernel)
set_option maxRecDepth 65536 in
theorem w_c3 : (Jvm.Cond.code ({ cls := "com/example/ridgeline/ridgeline/cumulative/Resource", name := "requireRange", desc := "(Ljava/lang/String;JJ)V" } : Jvm.MethodName) prog_39_method_3_code (5 : Nat) (Option.none : Option Jvm.ClassFile.FieldType)).before args0 about1 = true := code_word (m := ⟨2, 1⟩) (meth := k2m1) (c := k2c1) (by decide +kernel) rfl rfl rfl (by decide +kernel)
set_option maxRecDepth 65536 in
theorem w_c4 : (Jvm.Cond.code ({ cls := "com/example/ridgeline/ridgeline/cumulative/IntervalLine", name := "<init>", desc := "(Lcom/example/ridgeline/ridgeline/cumulative/Resource;I)V" } : Jvm.MethodName) prog_28_method_1_code (3 : Nat) (Option.none : Option Jvm.ClassFile.FieldType)).before args0 about1 = true := code_word (m := ⟨10, 0⟩) (meth := k10m0) (c := k10c0) (by decide +kernel) rfl rfl rfl (by decide +kernel)
set_option maxRecDepth 65536 in
theorem w_c5 : (Jvm.Cond.code ({ cls := "com/example/ridgeline/ridgeline/cumulative/Resource", name := "size", desc := "()I" } : Jvm.MethodName) prog_39_method_4_code (1 : Nat) (Option.some Jvm.ClassFile.FieldType.int)).before args0 about1 = true := code_word (m := ⟨2, 2⟩) (meth := k2m2) (c := k2c2) (by decide +kernel) rfl rfl rfl (by decide +kernel)
set_option maxRecDepth 65536 in
theorem w_c6 : (Jvm.Cond.code ({ cls := "com/example/ridgeline/ridgeline/cumulative/IntervalLine", name := "begin", desc := "(ZJ)V" } : Jvm.MethodName) prog_28_method_2_code (4 : Nat) (Option.none : Option Jvm.ClassFile.FieldType)).before args0 about1 = true := code_word (m := ⟨10, 1⟩) (meth := k10m1) (c := k10c1) (by decide +kernel) rfl rfl rfl (by decide +kernel)
set_option maxRecDepth 65536 in
theorem w_c7 : (Jvm.Cond.code ({ cls := "com/example/ridgeline/ridgeline/cumulative/IntervalLine", name := "lastUpTo", desc := "(J)I" } : Jvm.MethodName) prog_28_method_20_code (6 : Nat) (Option.some Jvm.ClassFile.FieldType.int)).before args0 about1 = true := code_word (m := ⟨10, 3⟩) (meth := k10m3) (c := k10c3) (by decide +kernel) rfl rfl rfl (by decide +kernel)
set_option maxRecDepth 65536 in
theorem w_c8 : (Jvm.Cond.code ({ cls := "com/example/ridgeline/ridgeline/cumulative/IntervalLine", name := "add", desc := "(J)V" } : Jvm.MethodName) prog_28_method_3_code (3 : Nat) (Option.none : Option Jvm.ClassFile.FieldType)).before args0 about1 = true := code_word (m := ⟨10, 2⟩) (meth := k10m2) (c := k10c2) (by decide +kernel) rfl rfl rfl (by decide +kernel)
def codes1 : List Jvm.Cond := [Jvm.Cond.code x code maxLocals ret, Jvm.Cond.code ({ cls := "com/example/ridgeline/ridgeline/cumulative/Resource", name := "<init>", desc := "(J[J[J[J[J)V" } : Jvm.MethodName) prog_39_method_1_code (9 : Nat) (Option.none : Option Jvm.ClassFile.FieldType), Jvm.Cond.code ({ cls := "java/lang/Object", name := "<init>", desc := "()V" } : Jvm.MethodName) object_method_1_code (1 : Nat) (Option.none : Option Jvm.ClassFile.FieldType), Jvm.Cond.code ({ cls := "com/example/ridgeline/ridgeline/cumulative/Resource", name := "requireRange", desc := "(Ljava/lang/String;JJ)V" } : Jvm.MethodName) prog_39_method_3_code (5 : Nat) (Option.none : Option Jvm.ClassFile.FieldType), Jvm.Cond.code ({ cls := "com/example/ridgeline/ridgeline/cumulative/IntervalLine", name := "<init>", desc := "(Lcom/example/ridgeline/ridgeline/cumulative/Resource;I)V" } : Jvm.MethodName) prog_28_method_1_code (3 : Nat) (Option.none : Option Jvm.ClassFile.FieldType), Jvm.Cond.code ({ cls := "com/example/ridgeline/ridgeline/cumulative/Resource", name := "size", desc := "()I" } : Jvm.MethodName) prog_39_method_4_code (1 : Nat) (Option.some Jvm.ClassFile.FieldType.int), Jvm.Cond.code ({ cls := "com/example/ridgeline/ridgeline/cumulative/IntervalLine", name := "begin", desc := "(ZJ)V" } : Jvm.MethodName) prog_28_method_2_code (4 : Nat) (Option.none : Option Jvm.ClassFile.FieldType), Jvm.Cond.code ({ cls := "com/example/ridgeline/ridgeline/cumulative/IntervalLine", name := "lastUpTo", desc := "(J)I" } : Jvm.MethodName) prog_28_method_20_code (6 : Nat) (Option.some Jvm.ClassFile.FieldType.int), Jvm.Cond.code ({ cls := "com/example/ridgeline/ridgeline/cumulative/IntervalLine", name := "add", desc := "(J)V" } : Jvm.MethodName) prog_28_method_3_code (3 : Nat) (Option.none : Option Jvm.ClassFile.FieldType)]
set_option maxRecDepth 65536 in
theorem codes_eq : words1.filter isCode = codes1 := rfl
theorem w_codes : ∀ c ∈ words1.filter isCode, c.before args0 about1 = true := by
  rw [codes_eq]
  intro c hc
  simp only [codes1, List.mem_cons, List.not_mem_nil, or_false] at hc
  rcases hc with rfl | rfl | rfl | rfl | rfl | rfl | rfl | rfl | rfl
  · exact w_c0
  · exact w_c1
  · exact w_c2
  · exact w_c3
  · exact w_c4
  · exact w_c5
  · exact w_c6
  · exact w_c7
  · exact w_c8
set_option maxRecDepth 65536 in
theorem w_t1 : (words1.take 24).all (fun c => isCode c || c.before args0 about1) = true := by decide +kernel
set_option maxRecDepth 65536 in
theorem w_t2 : ((words1.drop 24).take 24).all (fun c => isCode c || c.before args0 about1) = true := by decide +kernel
set_option maxRecDepth 65536 in
theorem w_t3 : (((words1.drop 24).drop 24).take 24).all (fun c => isCode c || c.before args0 about1) = true := by decide +kernel
set_option maxRecDepth 65536 in
theorem w_t4 : (((words1.drop 24).drop 24).drop 24).all (fun c => isCode c || c.before args0 about1) = true := by decide +kernel
theorem w_tables : (allAtoms (Jvm.Cond.code x code maxLocals ret :: tables_1)).before args0 about1 = true := by
  rw [allAtoms_all]
  show words1.all (fun c => c.before args0 about1) = true
  refine all_split ?_ w_codes
  rw [← List.take_append_drop 24 words1, List.all_append, w_t1, ← List.take_append_drop 24 (words1.drop 24), List.all_append, w_t2, ← List.take_append_drop 24 ((words1.drop 24).drop 24), List.all_append, w_t3, w_t4]
  rfl
set_option maxRecDepth 65536 in
theorem w_case : (Jvm.Cond.and given_1 narrow_1).before args0 about1 = true := by decide +kernel
theorem w_applies : (headSpec (Jvm.Cond.code x code maxLocals ret :: tables_1) room_1).applies x e0.platform about1 = true :=
  (Spec.applies_iff w_frames).mpr ⟨w_running, w_runnable, w_alone, w_named, w_hears, w_ripe, w_room, w_tables⟩
theorem atStart : AtStart classFile x code maxLocals ret World_1 tables_1 room_1 Calls_1 rest_1 Pre_1 launch0 p0 e0 about1 theMethod args0 below0 :=
  ⟨lists_1, trivial, launch0.admits_env _ _ _, launch0.least_env, fairChoices_fair.cas, fairChoices_fair.clock, w_frames, w_args, w_heap, w_applies, trivial, trivial, w_case⟩
end start1
theorem witness_1 : WitnessClaimed_1 := ⟨start1.p0, start1.e0, start1.about1, start1.theMethod, start1.args0, start1.below0, start1.atStart⟩
end Jvm.Pilot.@@N@@
