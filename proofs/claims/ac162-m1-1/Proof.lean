import JvmDerived
import JvmDerived.Pilot.@@N@@Statement
import JvmDerived.Pilot.@@N@@Code
set_option linter.unusedVariables false
set_option linter.unusedSimpArgs false
@@BLOCK:NumsL.lean.txt@@
namespace Jvm.Pilot.@@N@@
open Jvm Jvm.ClassFile Sem Op Lib Jvm.Free Jvm.Stand Jvm.LawKit Jvm.RoadKit Bundle Jvm.Pilot.@@N@@.Jvm.D
/-! own layer: the run from here ends, and Q holds of what it returned, of the heap and of the places written -/
def own_End (p : Program) (e : Env) (below : List Frame) (P : State → Outcome → Prop) (T : State) (f : JFrame) : Prop := ∃ s₂ o, Steps p.tables e below (T.setTop f) s₂ ∧ P s₂ o
def own_P (below : List Frame) (s : State) (Q : Option Value → Heap → List Loc → Prop) (kc ns : Nat) : State → Outcome → Prop := fun s₂ o => s₂.status = .running ∧ Ended s₂ below o ∧ ∃ v L, o = .returned v ∧ Q v s₂.heap L ∧ FrameEnd s o s₂ L kc ns
def own_Met (l : Launch) (Z : State) (y : MethodName) (bytes : ByteArray) (maxL : Nat) (ret : Option FieldType) (ws : List Jvm.Cond) (rm : Room) (as' : Array Value) (h : Heap) (Q : Option Value → Heap → List Loc → Prop) : Prop :=
  MetFree l y (head1 (Jvm.Cond.code y bytes maxL ret :: ws) rm) (fun a U => a = as' ∧ Z.Warmed39 U.vm ∧ U.heap = h) (fun _ _ _ _ _ => True) (fun _ U o U' => ∃ v L, o = .returned v ∧ Q v U'.heap L ∧ FrameEnd U o U' L rm.cells rm.slots)
section OwnSteps
variable {p : Program} {l : Launch} {e : Env} {R : Room} {s : State} {m : MethodId} {args : Array Value} {below : List Frame} {meth : Method} {c : Code} {T : State} {locs : List Loc} {cells slots : Nat} {P : State → Outcome → Prop} {Q : Option Value → Heap → List Loc → Prop} {kc ns : Nat} {Z : State} {a0 : Array Value} {h : Heap} {f : JFrame}
theorem own_go {T' : State} {f' : JFrame} (st : ∀ t, Steps p.tables e below (T'.setTop f') t → Steps p.tables e below (T.setTop f) t) (k : own_End p e below P T' f') : own_End p e below P T f := by
  obtain ⟨s₂, o, h1, h2⟩ := k
  exact ⟨s₂, o, st _ h1, h2⟩
theorem own_via {T' : State} {f' : JFrame} (st : Steps p.tables e below (T.setTop f) (T'.setTop f')) (k : own_End p e below P T' f') : own_End p e below P T f := own_go (fun _ h => st.trans h) k
theorem own_exf (h : False) : own_End p e below P T f := h.elim
theorem own_body {y : MethodName} {bytes : ByteArray} {maxL : Nat} {ret : Option FieldType} {ws : List Jvm.Cond} {rm : Room} {as' : Array Value} (hpl : plainFor y = true)
    (body : ∀ (p : Program) (e : Env) (s : State) (m : MethodId) (below : List Frame) (meth : Method) (c : Code) (s₁ : State), p.tables.exec = Jvm.exec → Z.Warmed39 s.vm → c.code = bytes → c.maxLocals = maxL → s.vm.findClass y.cls = some m.cls → meth.name = y.name → meth.sig.returnType = ret → meth.locks = false →
      Stand p l e rm s m as' below meth c s₁ [] 0 0 → s₁.heap = h → own_End p e below (own_P below s Q rm.cells rm.slots) s₁ (entryFrame m as' maxL)) : own_Met l Z y bytes maxL ret ws rm as' h Q := by
  refine MetFree.of_bodySF hpl hisR ?_
  intro p e s m args below meth c s₁ Bd hml0 hP hK
  obtain ⟨rfl, hZ, hh⟩ := hP
  exact body p e s m below meth c s₁ Bd.exec hZ Bd.bytes hml0 (findClass_of_methodNamed Bd.named) (name_of_methodNamed Bd.named Bd.method).1 Bd.returns Bd.notSynchronized (Stand.of_body Bd) (by rw [← hh, Bd.state]; rfl)
theorem own_cast {g g' : JFrame} (q : g = g') (k : own_End p e below P T g') : own_End p e below P T g := q ▸ k
theorem own_ret (X : Stand p l e R s m args below meth c T locs cells slots) (hP : P = own_P below s Q kc ns) (hlk : meth.locks = false) (eT : T.heap = h) {v : Option Value} (hv : meth.sig.returnType = none → v = none) (hk : cells ≤ kc) (hn : slots ≤ ns) (hQ : Q v h locs)
    (st : ∀ fs, (∀ (f : JFrame) (acts : List Action), f.method = m → f.locked = none → f.entered = [] → (doReturn e (T.setTop f) acts v).1 = T.setFrames fs) → Steps p.tables e below (T.setTop f) (T.setFrames fs)) : own_End p e below P T f := by
  obtain ⟨fs, hr, hrun, hended, hW, hsame⟩ := X.leave hv hlk
  subst hP
  exact ⟨_, _, st fs hr, hrun, hended, _, _, rfl, (eT ▸ hQ : Q v T.heap locs), ⟨_, rfl⟩, hW, hsame.mono hk hn⟩
theorem own_retV (X : Stand p l e R s m args below meth c T locs cells slots) (hP : P = own_P below s Q kc ns) (hx : p.tables.exec = Jvm.exec) (hlk : meth.locks = false) (eT : T.heap = h) {pc : Nat} {Ls : Array Slot} (hret : meth.sig.returnType = none) (hd : decode c.code pc = .ok (.return_, 1)) (hk : cells ≤ kc) (hn : slots ≤ ns) (hQ : Q none h locs) :
    own_End p e below P T (mkF m pc Ls []) := own_ret X hP hlk eT (fun _ => rfl) hk hn hQ fun _ hr => X.returnOut hx hret hd hr
theorem own_retI (X : Stand p l e R s m args below meth c T locs cells slots) (hP : P = own_P below s Q kc ns) (hx : p.tables.exec = Jvm.exec) (hlk : meth.locks = false) (eT : T.heap = h) {pc : Nat} {Ls : Array Slot} {z : Int32} {rest : List Value} (hret : meth.sig.returnType = some .int) (hd : decode c.code pc = .ok (.ireturn, 1)) (hk : cells ≤ kc) (hn : slots ≤ ns) (hQ : Q (some (.int z)) h locs) :
    own_End p e below P T (mkF m pc Ls (.int z :: rest)) := own_ret X hP hlk eT (fun h => by rw [hret] at h; cases h) hk hn hQ fun fs hr => retOut X hx hret rfl (Or.inl ⟨rfl, Or.inl rfl, z, rfl⟩) hd hr
theorem own_retN (X : Stand p l e R s m args below meth c T locs cells slots) (hP : P = own_P below s Q kc ns) (hx : p.tables.exec = Jvm.exec) (hlk : meth.locks = false) (eT : T.heap = h) {pc : Nat} {Ls : Array Slot} {z : Int32} {rest : List Value} {t : FieldType} (hret : meth.sig.returnType = some t) (ht : t = .boolean ∨ t = .byte ∨ t = .char ∨ t = .short) (hd : decode c.code pc = .ok (.ireturn, 1)) (hk : cells ≤ kc) (hn : slots ≤ ns) {z' : Int32} (hz : nar t z = z') (hQ : Q (some (.int z')) h locs) :
    own_End p e below P T (mkF m pc Ls (.int z :: rest)) := by
  subst hz
  exact own_ret X hP hlk eT (fun h => by rw [hret] at h; cases h) hk hn hQ fun fs hr => retN X hx hret ht hd hr
theorem own_retJ (X : Stand p l e R s m args below meth c T locs cells slots) (hP : P = own_P below s Q kc ns) (hx : p.tables.exec = Jvm.exec) (hlk : meth.locks = false) (eT : T.heap = h) {pc : Nat} {Ls : Array Slot} {z : Int64} {rest : List Value} (hret : meth.sig.returnType = some .long) (hd : decode c.code pc = .ok (.lreturn, 1)) (hk : cells ≤ kc) (hn : slots ≤ ns) (hQ : Q (some (.long z)) h locs) :
    own_End p e below P T (mkF m pc Ls (.long z :: rest)) := own_ret X hP hlk eT (fun h => by rw [hret] at h; cases h) hk hn hQ fun fs hr => retOut X hx hret rfl (Or.inr (Or.inl ⟨rfl, rfl, z, rfl⟩)) hd hr
theorem own_retA (X : Stand p l e R s m args below meth c T locs cells slots) (hP : P = own_P below s Q kc ns) (hx : p.tables.exec = Jvm.exec) (hlk : meth.locks = false) (eT : T.heap = h) {pc : Nat} {Ls : Array Slot} {w : Value} {rest : List Value} {t : FieldType} (hret : meth.sig.returnType = some t) (ht : t.isReference = true) (hw : w.isRef = true) (hnr : narrow t w = w) (hd : decode c.code pc = .ok (.areturn, 1)) (hk : cells ≤ kc) (hn : slots ≤ ns) (hQ : Q (some w) h locs) :
    own_End p e below P T (mkF m pc Ls (w :: rest)) := own_ret X hP hlk eT (fun h => by rw [hret] at h; cases h) hk hn hQ fun fs hr => retOut X hx hret hnr (Or.inr (Or.inr (Or.inr (Or.inr ⟨rfl, ht, hw⟩)))) hd hr
theorem own_callS (X : Stand p l e R s m args below meth c T locs cells slots) (hx : p.tables.exec = Jvm.exec) (hZ : Z.Warmed39 s.vm) {own : String} (hown : s.vm.findClass own = some m.cls) (eT : T.heap = h) {index : Nat} {y : MethodName} {bytes : ByteArray} {maxL : Nat} {ret : Option FieldType} {rm : Room} {as' : Array Value} {Q' : Option Value → Heap → List Loc → Prop}
    (w1 : (Cond.methodLink own index y).before a0 Z = true) (w2 : (Cond.static y).before a0 Z = true) (w3 : (Cond.initialized y.cls).before a0 Z = true) (w4 : (Cond.code y bytes maxL ret).before a0 Z = true) (hy : y.cls ≠ "java/lang/invoke/MethodHandle" ∧ y.cls ≠ "java/lang/invoke/VarHandle")
    (hM : own_Met l Z y bytes maxL ret [] rm as' h Q') {g : JFrame} (hg : g.method = m) (hsize : g.locals.size = c.maxLocals) {argsL rest : List Value} (hlen : ∀ sig, parseMethodDescriptor y.desc = some sig → argsL.length = sig.parameters.length) (hstack : g.stack = argsL.reverse ++ rest) (has : argsL.toArray = as') {W : Nat} (hW : 2 * g.monitorRoom + (rest.map fun v => v.category).sum ≤ W) (hdg : decode c.code g.pc = .ok (.invokestatic index, 3))
    (hf : rm.frames + 1 ≤ R.frames) (hl : W + (maxL + 11) + rm.locals ≤ R.locals) (hc : cells + rm.cells ≤ R.cells) (hs : slots + rm.slots ≤ R.slots)
    (k : ∀ v T' L, Stand p l e R s m args below meth c T' (locs ++ L) (cells + rm.cells) (slots + rm.slots) → Q' v T'.heap L → own_End p e below P T' { g with pc := g.pc + 3, stack := v.toList ++ rest }) : own_End p e below P T g := by
  obtain ⟨v, vm1, ⟨T', L1, k1, n1⟩, -, X', ⟨L, hQ, l1, y1, z1⟩, st⟩ := Jvm.LawKit.callS X hx (y := y) hown (mvT hZ w1) (mvT hZ w2) (mvT hZ w3) (mvT hZ w4) hy (backOf (W := W) hM hZ w4 w3 hf hl) hg hsize hlen hstack hW hdg (fun _ _ => ⟨has, eT, hc, hs⟩)
  dsimp only [Pt.U, Pt.locs, Pt.cells, Pt.slots] at X' l1 y1 z1 st hQ
  subst l1 y1 z1
  exact own_go st (k v T' L X' hQ)
theorem own_callC (X : Stand p l e R s m args below meth c T locs cells slots) (hx : p.tables.exec = Jvm.exec) (hZ : Z.Warmed39 s.vm) {own : String} (hown : s.vm.findClass own = some m.cls) (eT : T.heap = h) {index : Nat} {y : MethodName} {bytes : ByteArray} {maxL : Nat} {rm : Room} {as' : Array Value} {Q' : Option Value → Heap → List Loc → Prop}
    (hyi : y.name = "<init>") (w1 : (Cond.methodLink own index y).before a0 Z = true) (w2 : (Cond.instanceMethod y).before a0 Z = true) (w3 : (Cond.initialized y.cls).before a0 Z = true) (w4 : (Cond.code y bytes maxL none).before a0 Z = true) (hy : y.cls ≠ "java/lang/invoke/MethodHandle" ∧ y.cls ≠ "java/lang/invoke/VarHandle")
    (hM : own_Met l Z y bytes maxL none [] rm as' h Q') {g : JFrame} (hg : g.method = m) (hsize : g.locals.size = c.maxLocals) {a : Addr} {argsL rest : List Value} (hlen : ∀ sig, parseMethodDescriptor y.desc = some sig → argsL.length = sig.parameters.length) (hstack : g.stack = argsL.reverse ++ .ref a :: rest) (has : (.ref a :: argsL).toArray = as') {W : Nat} (hW : 2 * g.monitorRoom + (rest.map fun v => v.category).sum ≤ W) (hdg : decode c.code g.pc = .ok (.invokespecial index, 3))
    (hf : rm.frames + 1 ≤ R.frames) (hl : W + (maxL + 11) + rm.locals ≤ R.locals) (hc : cells + rm.cells ≤ R.cells) (hs : slots + rm.slots ≤ R.slots)
    (k : ∀ v T' L, Stand p l e R s m args below meth c T' (locs ++ L) (cells + rm.cells) (slots + rm.slots) → Q' v T'.heap L → own_End p e below P T' { g with pc := g.pc + 3, stack := v.toList ++ rest }) : own_End p e below P T g := by
  obtain ⟨v, vm1, ⟨T', L1, k1, n1⟩, -, X', ⟨L, hQ, l1, y1, z1⟩, st⟩ := X.specialBack hx (y := y) hyi hown (mvT hZ w1) (mvT hZ w2) (mvT hZ w4) hy (backOf (W := W) hM hZ w4 w3 hf hl) hg hsize (Steps.refl _) (a := a) hlen hstack hW hdg (fun _ _ => ⟨has, eT, hc, hs⟩)
  dsimp only [Pt.U, Pt.locs, Pt.cells, Pt.slots] at X' l1 y1 z1 st hQ
  subst l1 y1 z1
  exact own_via st (k v T' L X' hQ)
theorem own_callV (X : Stand p l e R s m args below meth c T locs cells slots) (hx : p.tables.exec = Jvm.exec) (hZ : Z.Warmed39 s.vm) {own : String} (hown : s.vm.findClass own = some m.cls) (eT : T.heap = h) {index : Nat} {C : String} {y z : MethodName} {bytes : ByteArray} {maxL : Nat} {ret : Option FieldType} {rm : Room} {as' : Array Value} {Q' : Option Value → Heap → List Loc → Prop}
    (w1 : (Cond.methodLink own index y).before a0 Z = true) (wd : (Cond.declares y).before a0 Z = true) (hnf : NotFace s y) (wsel : (Cond.selects C y z).before a0 Z = true) (w2 : (Cond.instanceMethod z).before a0 Z = true) (w3 : (Cond.initialized z.cls).before a0 Z = true) (w4 : (Cond.code z bytes maxL ret).before a0 Z = true) (hy : y.cls ≠ "java/lang/invoke/MethodHandle" ∧ y.cls ≠ "java/lang/invoke/VarHandle")
    (hM : own_Met l Z z bytes maxL ret [] rm as' h Q') {a : Addr} (E : Exa Z h a C) {g : JFrame} (hg : g.method = m) (hsize : g.locals.size = c.maxLocals) {argsL rest : List Value} (hlen : ∀ sig, parseMethodDescriptor y.desc = some sig → argsL.length = sig.parameters.length) (hstack : g.stack = argsL.reverse ++ .ref a :: rest) (has : (.ref a :: argsL).toArray = as') {W : Nat} (hW : 2 * g.monitorRoom + (rest.map fun v => v.category).sum ≤ W) (hdg : decode c.code g.pc = .ok (.invokevirtual index, 3))
    (hf : rm.frames + 1 ≤ R.frames) (hl : W + (maxL + 11) + rm.locals ≤ R.locals) (hc : cells + rm.cells ≤ R.cells) (hs : slots + rm.slots ≤ R.slots)
    (k : ∀ v T' L, Stand p l e R s m args below meth c T' (locs ++ L) (cells + rm.cells) (slots + rm.slots) → Q' v T'.heap L → own_End p e below P T' { g with pc := g.pc + 3, stack := v.toList ++ rest }) : own_End p e below P T g := by
  obtain ⟨cB, kB, q1, q2, q3⟩ := isOf (T := T) hZ eT E
  obtain ⟨v, vm1, ⟨T', L1, k1, n1⟩, -, X', ⟨L, hQ, l1, y1, z1⟩, st⟩ := X.virtualBack hx (y := y) (z := z) hown (mvT hZ w1) (mvT hZ wd) hnf (mvT hZ wsel) (mvT hZ w2) hy (backOf (W := W) hM hZ w4 w3 hf hl) q1 q3 hg hsize (Steps.refl _) hlen hstack hW hdg (fun _ _ => ⟨has, eT, hc, hs⟩)
  dsimp only [Pt.U, Pt.locs, Pt.cells, Pt.slots] at X' l1 y1 z1 st hQ
  subst l1 y1 z1
  exact own_via st (k v T' L X' hQ)
theorem own_selP {C : String} {x' y y' : MethodName} (wz : (Cond.selects C x' y').before args s = true) (hc : y'.cls = y.cls) (hpriv : s.PrivateAt y) (hinst : (Cond.instanceMethod y).before args s = true) (hy : y.cls ≠ "java/lang/invoke/MethodHandle" ∧ y.cls ≠ "java/lang/invoke/VarHandle") : (Cond.selects y.cls y y).before args s = true := by
  obtain ⟨_, _, m2, -, -, q3, -, kP, hkP, hkPi⟩ := Cond.selects_spec wz
  exact selects_self_of_private (by rw [← hc]; exact findClass_of_methodNamed q3) hkP hkPi hpriv hinst hy
theorem own_callP (X : Stand p l e R s m args below meth c T locs cells slots) (hx : p.tables.exec = Jvm.exec) (hZ : Z.Warmed39 s.vm) {own : String} (hown : s.vm.findClass own = some m.cls) (eT : T.heap = h) {index : Nat} {y : MethodName} {bytes : ByteArray} {maxL : Nat} {ret : Option FieldType} {rm : Room} {as' : Array Value} {Q' : Option Value → Heap → List Loc → Prop}
    (w1 : (Cond.methodLink own index y).before a0 Z = true) (w2 : (Cond.instanceMethod y).before a0 Z = true) (wsel : (Cond.selects y.cls y y).before args s = true) (wp : (Cond.privateMethod y).before a0 Z = true) (w3 : (Cond.initialized y.cls).before a0 Z = true) (w4 : (Cond.code y bytes maxL ret).before a0 Z = true) (hy : y.cls ≠ "java/lang/invoke/MethodHandle" ∧ y.cls ≠ "java/lang/invoke/VarHandle")
    (hM : own_Met l Z y bytes maxL ret [] rm as' h Q') {C : String} {a : Addr} (E : Exa Z h a C) {g : JFrame} (hg : g.method = m) (hsize : g.locals.size = c.maxLocals) {argsL rest : List Value} (hlen : ∀ sig, parseMethodDescriptor y.desc = some sig → argsL.length = sig.parameters.length) (hstack : g.stack = argsL.reverse ++ .ref a :: rest) (has : (.ref a :: argsL).toArray = as') {W : Nat} (hW : 2 * g.monitorRoom + (rest.map fun v => v.category).sum ≤ W) (hdg : decode c.code g.pc = .ok (.invokevirtual index, 3))
    (hf : rm.frames + 1 ≤ R.frames) (hl : W + (maxL + 11) + rm.locals ≤ R.locals) (hc : cells + rm.cells ≤ R.cells) (hs : slots + rm.slots ≤ R.slots)
    (k : ∀ v T' L, Stand p l e R s m args below meth c T' (locs ++ L) (cells + rm.cells) (slots + rm.slots) → Q' v T'.heap L → own_End p e below P T' { g with pc := g.pc + 3, stack := v.toList ++ rest }) : own_End p e below P T g := by
  obtain ⟨cq, q1, q2⟩ := E.cell
  obtain ⟨v, vm1, ⟨T', L1, k1, n1⟩, -, X', ⟨L, hQ, l1, y1, z1⟩, st⟩ := X.privateBack hx (y := y) hown (mvT hZ w1) (mvT hZ w2) wsel (Cond.privateMethod_at (mvP hZ wp (args := #[]))) (mvT hZ w4) hy (backOf (W := W) hM hZ w4 w3 hf hl) hg hsize (Steps.refl _) (a := a) (by rw [eT]; exact q1) q2 hlen hstack hW hdg (fun _ _ => ⟨has, eT, hc, hs⟩)
  dsimp only [Pt.U, Pt.locs, Pt.cells, Pt.slots] at X' l1 y1 z1 st hQ
  subst l1 y1 z1
  exact own_via st (k v T' L X' hQ)
end OwnSteps
/-! own: a truth as an int; comparisons of longs -/
def own_z (P : Prop) [Decidable P] : Int32 := if P then 1 else 0
section OwnTruth
variable {P : Prop} [Decidable P] {x y : Int64}
theorem own_z_t (h : P) : own_z P = 1 := if_pos h
theorem own_z_f (h : ¬ P) : own_z P = 0 := if_neg h
theorem own_z_nar : nar .boolean (own_z P) = own_z P := by unfold own_z; split <;> decide
theorem own_z_congr {P' : Prop} [Decidable P'] (h : P ↔ P') : own_z P = own_z P' := by unfold own_z; by_cases q : P <;> simp [q, h.symm, h.mp] <;> simp_all
theorem own_z_inj {P' : Prop} [Decidable P'] (h : own_z P = own_z P') : P ↔ P' := by
  unfold own_z at h; by_cases q : P <;> by_cases q' : P' <;> simp_all
theorem own_zY_eq (h : ¬ P) : ifCond.holds .eq (own_z P) = true := by rw [own_z_f h]; rfl
theorem own_zN_eq (h : P) : ifCond.holds .eq (own_z P) = false := by rw [own_z_t h]; rfl
theorem own_zY_ne (h : P) : ifCond.holds .ne (own_z P) = true := by rw [own_z_t h]; rfl
theorem own_zN_ne (h : ¬ P) : ifCond.holds .ne (own_z P) = false := by rw [own_z_f h]; rfl
theorem own_lY_lt (h : x < y) : ifCond.holds .lt (lcmpW x y) = true := (if0 _ _).trans (tlt ((lw_lt x y).mpr h)).1
theorem own_lN_lt (h : ¬ x < y) : ifCond.holds .lt (lcmpW x y) = false := (if0 _ _).trans (flt (mt (lw_lt x y).mp h)).1
theorem own_lY_ge (h : ¬ x < y) : ifCond.holds .ge (lcmpW x y) = true := (if0 _ _).trans (flt (mt (lw_lt x y).mp h)).2.1
theorem own_lN_ge (h : x < y) : ifCond.holds .ge (lcmpW x y) = false := (if0 _ _).trans (tlt ((lw_lt x y).mpr h)).2.1
theorem own_lY_gt (h : y < x) : ifCond.holds .gt (lcmpW x y) = true := (if0 _ _).trans (tlt ((lw_gt x y).mpr h)).2.2.1
theorem own_lN_gt (h : ¬ y < x) : ifCond.holds .gt (lcmpW x y) = false := (if0 _ _).trans (flt (mt (lw_gt x y).mp h)).2.2.1
theorem own_lY_le (h : ¬ y < x) : ifCond.holds .le (lcmpW x y) = true := (if0 _ _).trans (flt (mt (lw_gt x y).mp h)).2.2.2
theorem own_lN_le (h : y < x) : ifCond.holds .le (lcmpW x y) = false := (if0 _ _).trans (tlt ((lw_gt x y).mpr h)).2.2.2
theorem own_lY_eq (h : x = y) : ifCond.holds .eq (lcmpW x y) = true := (if0 _ _).trans (teq ((lw_eq x y).mpr h)).1
theorem own_lN_eq (h : ¬ x = y) : ifCond.holds .eq (lcmpW x y) = false := (if0 _ _).trans (feq (mt (lw_eq x y).mp h)).1
theorem own_lY_ne (h : ¬ x = y) : ifCond.holds .ne (lcmpW x y) = true := (if0 _ _).trans (feq (mt (lw_eq x y).mp h)).2
theorem own_lN_ne (h : x = y) : ifCond.holds .ne (lcmpW x y) = false := (if0 _ _).trans (teq ((lw_eq x y).mpr h)).2
end OwnTruth
/-! own: a callee that writes nothing -/
def own_Pq (val : Option Value) (h : Heap) : Option Value → Heap → List Loc → Prop := fun v h' L => v = val ∧ L = [] ∧ h' = h
section OwnPure
variable {p : Program} {l : Launch} {e : Env} {R : Room} {s : State} {m : MethodId} {args : Array Value} {below : List Frame} {meth : Method} {c : Code} {T : State} {locs : List Loc} {cells slots : Nat} {P : State → Outcome → Prop} {Q : Option Value → Heap → List Loc → Prop} {kc ns : Nat} {Z : State} {a0 : Array Value} {h : Heap} {f : JFrame}
theorem own_callSp (X : Stand p l e R s m args below meth c T locs cells slots) (hx : p.tables.exec = Jvm.exec) (hZ : Z.Warmed39 s.vm) {own : String} (hown : s.vm.findClass own = some m.cls) (eT : T.heap = h) {index : Nat} {y : MethodName} {bytes : ByteArray} {maxL : Nat} {ret : Option FieldType} {fr lo : Nat} {as' : Array Value} {val : Option Value}
    (w1 : (Cond.methodLink own index y).before a0 Z = true) (w2 : (Cond.static y).before a0 Z = true) (w3 : (Cond.initialized y.cls).before a0 Z = true) (w4 : (Cond.code y bytes maxL ret).before a0 Z = true) (hy : y.cls ≠ "java/lang/invoke/MethodHandle" ∧ y.cls ≠ "java/lang/invoke/VarHandle")
    (hM : own_Met l Z y bytes maxL ret [] { frames := fr, cells := 0, slots := 0, locals := lo } as' h (own_Pq val h)) {g : JFrame} (hg : g.method = m) (hsize : g.locals.size = c.maxLocals) {argsL rest : List Value} (hlen : ∀ sig, parseMethodDescriptor y.desc = some sig → argsL.length = sig.parameters.length) (hstack : g.stack = argsL.reverse ++ rest) (has : argsL.toArray = as') {W : Nat} (hW : 2 * g.monitorRoom + (rest.map fun v => v.category).sum ≤ W) (hdg : decode c.code g.pc = .ok (.invokestatic index, 3))
    (hf : fr + 1 ≤ R.frames) (hl : W + (maxL + 11) + lo ≤ R.locals) (hc : cells ≤ R.cells) (hs : slots ≤ R.slots)
    (k : ∀ T', Stand p l e R s m args below meth c T' locs cells slots → T'.heap = h → own_End p e below P T' { g with pc := g.pc + 3, stack := val.toList ++ rest }) : own_End p e below P T g :=
  own_callS X hx hZ hown eT w1 w2 w3 w4 hy hM hg hsize hlen hstack has hW hdg hf hl hc hs fun v T' L X' ⟨q1, q2, q3⟩ => by
    subst q1 q2
    rw [List.append_nil] at X'
    exact k T' X' q3
theorem own_callCp (X : Stand p l e R s m args below meth c T locs cells slots) (hx : p.tables.exec = Jvm.exec) (hZ : Z.Warmed39 s.vm) {own : String} (hown : s.vm.findClass own = some m.cls) (eT : T.heap = h) {index : Nat} {y : MethodName} {bytes : ByteArray} {maxL : Nat} {fr lo : Nat} {as' : Array Value} {val : Option Value}
    (hyi : y.name = "<init>") (w1 : (Cond.methodLink own index y).before a0 Z = true) (w2 : (Cond.instanceMethod y).before a0 Z = true) (w3 : (Cond.initialized y.cls).before a0 Z = true) (w4 : (Cond.code y bytes maxL none).before a0 Z = true) (hy : y.cls ≠ "java/lang/invoke/MethodHandle" ∧ y.cls ≠ "java/lang/invoke/VarHandle")
    (hM : own_Met l Z y bytes maxL none [] { frames := fr, cells := 0, slots := 0, locals := lo } as' h (own_Pq val h)) {g : JFrame} (hg : g.method = m) (hsize : g.locals.size = c.maxLocals) {a : Addr} {argsL rest : List Value} (hlen : ∀ sig, parseMethodDescriptor y.desc = some sig → argsL.length = sig.parameters.length) (hstack : g.stack = argsL.reverse ++ .ref a :: rest) (has : (.ref a :: argsL).toArray = as') {W : Nat} (hW : 2 * g.monitorRoom + (rest.map fun v => v.category).sum ≤ W) (hdg : decode c.code g.pc = .ok (.invokespecial index, 3))
    (hf : fr + 1 ≤ R.frames) (hl : W + (maxL + 11) + lo ≤ R.locals) (hc : cells ≤ R.cells) (hs : slots ≤ R.slots)
    (k : ∀ T', Stand p l e R s m args below meth c T' locs cells slots → T'.heap = h → own_End p e below P T' { g with pc := g.pc + 3, stack := val.toList ++ rest }) : own_End p e below P T g :=
  own_callC X hx hZ hown eT hyi w1 w2 w3 w4 hy hM hg hsize hlen hstack has hW hdg hf hl hc hs fun v T' L X' ⟨q1, q2, q3⟩ => by
    subst q1 q2
    rw [List.append_nil] at X'
    exact k T' X' q3
theorem own_callVp (X : Stand p l e R s m args below meth c T locs cells slots) (hx : p.tables.exec = Jvm.exec) (hZ : Z.Warmed39 s.vm) {own : String} (hown : s.vm.findClass own = some m.cls) (eT : T.heap = h) {index : Nat} {C : String} {y z : MethodName} {bytes : ByteArray} {maxL : Nat} {ret : Option FieldType} {fr lo : Nat} {as' : Array Value} {val : Option Value}
    (w1 : (Cond.methodLink own index y).before a0 Z = true) (wd : (Cond.declares y).before a0 Z = true) (hnf : NotFace s y) (wsel : (Cond.selects C y z).before a0 Z = true) (w2 : (Cond.instanceMethod z).before a0 Z = true) (w3 : (Cond.initialized z.cls).before a0 Z = true) (w4 : (Cond.code z bytes maxL ret).before a0 Z = true) (hy : y.cls ≠ "java/lang/invoke/MethodHandle" ∧ y.cls ≠ "java/lang/invoke/VarHandle")
    (hM : own_Met l Z z bytes maxL ret [] { frames := fr, cells := 0, slots := 0, locals := lo } as' h (own_Pq val h)) {a : Addr} (E : Exa Z h a C) {g : JFrame} (hg : g.method = m) (hsize : g.locals.size = c.maxLocals) {argsL rest : List Value} (hlen : ∀ sig, parseMethodDescriptor y.desc = some sig → argsL.length = sig.parameters.length) (hstack : g.stack = argsL.reverse ++ .ref a :: rest) (has : (.ref a :: argsL).toArray = as') {W : Nat} (hW : 2 * g.monitorRoom + (rest.map fun v => v.category).sum ≤ W) (hdg : decode c.code g.pc = .ok (.invokevirtual index, 3))
    (hf : fr + 1 ≤ R.frames) (hl : W + (maxL + 11) + lo ≤ R.locals) (hc : cells ≤ R.cells) (hs : slots ≤ R.slots)
    (k : ∀ T', Stand p l e R s m args below meth c T' locs cells slots → T'.heap = h → own_End p e below P T' { g with pc := g.pc + 3, stack := val.toList ++ rest }) : own_End p e below P T g :=
  own_callV X hx hZ hown eT w1 wd hnf wsel w2 w3 w4 hy hM E hg hsize hlen hstack has hW hdg hf hl hc hs fun v T' L X' ⟨q1, q2, q3⟩ => by
    subst q1 q2
    rw [List.append_nil] at X'
    exact k T' X' q3
theorem own_callPp (X : Stand p l e R s m args below meth c T locs cells slots) (hx : p.tables.exec = Jvm.exec) (hZ : Z.Warmed39 s.vm) {own : String} (hown : s.vm.findClass own = some m.cls) (eT : T.heap = h) {index : Nat} {y : MethodName} {bytes : ByteArray} {maxL : Nat} {ret : Option FieldType} {fr lo : Nat} {as' : Array Value} {val : Option Value}
    (w1 : (Cond.methodLink own index y).before a0 Z = true) (w2 : (Cond.instanceMethod y).before a0 Z = true) (wsel : (Cond.selects y.cls y y).before args s = true) (wp : (Cond.privateMethod y).before a0 Z = true) (w3 : (Cond.initialized y.cls).before a0 Z = true) (w4 : (Cond.code y bytes maxL ret).before a0 Z = true) (hy : y.cls ≠ "java/lang/invoke/MethodHandle" ∧ y.cls ≠ "java/lang/invoke/VarHandle")
    (hM : own_Met l Z y bytes maxL ret [] { frames := fr, cells := 0, slots := 0, locals := lo } as' h (own_Pq val h)) {C : String} {a : Addr} (E : Exa Z h a C) {g : JFrame} (hg : g.method = m) (hsize : g.locals.size = c.maxLocals) {argsL rest : List Value} (hlen : ∀ sig, parseMethodDescriptor y.desc = some sig → argsL.length = sig.parameters.length) (hstack : g.stack = argsL.reverse ++ .ref a :: rest) (has : (.ref a :: argsL).toArray = as') {W : Nat} (hW : 2 * g.monitorRoom + (rest.map fun v => v.category).sum ≤ W) (hdg : decode c.code g.pc = .ok (.invokevirtual index, 3))
    (hf : fr + 1 ≤ R.frames) (hl : W + (maxL + 11) + lo ≤ R.locals) (hc : cells ≤ R.cells) (hs : slots ≤ R.slots)
    (k : ∀ T', Stand p l e R s m args below meth c T' locs cells slots → T'.heap = h → own_End p e below P T' { g with pc := g.pc + 3, stack := val.toList ++ rest }) : own_End p e below P T g :=
  own_callP X hx hZ hown eT w1 w2 wsel wp w3 w4 hy hM E hg hsize hlen hstack has hW hdg hf hl hc hs fun v T' L X' ⟨q1, q2, q3⟩ => by
    subst q1 q2
    rw [List.append_nil] at X'
    exact k T' X' q3
end OwnPure
/-! own: a cell that is known -/
def own_K (h : Heap) (a : Addr) : Prop := ∃ cell : Cell, h[a]? = some cell ∧ cell.vm ≠ .unknown
theorem own_K_ext {h h' : Heap} {a : Addr} (K : own_K h a) (E : Ext h h') : own_K h' a := by obtain ⟨c, h1, h2⟩ := K; exact ⟨c, E.2 _ _ h1, h2⟩
theorem own_K_wr {h h' : Heap} {a b : Addr} {sl : Nat} {v : Value} (K : own_K h b) (W : Wr h h' a sl v) : own_K h' b := by
  obtain ⟨c, h1, h2⟩ := K
  obtain ⟨c', e1, -, e3, -⟩ := wr_at W h1
  exact ⟨c', e1, by rw [e3]; exact h2⟩
theorem own_K_keep {h h' : Heap} {a : Addr} {ws : List Addr} (K : own_K h a) (E : Keep h h' ws) : own_K h' a := by
  obtain ⟨c, h1, h2⟩ := K
  obtain ⟨c', e1, -, e3, -⟩ := E.2.2 _ _ h1
  exact ⟨c', e1, by rw [e3]; exact h2⟩
theorem own_K_new {h : Heap} {a : Addr} (U : ∃ cell : Cell, h[a]? = some cell ∧ cell.vm = .none ∧ cell.monitor = {}) : own_K h a := by
  obtain ⟨c, h1, h2, -⟩ := U
  exact ⟨c, h1, by rw [h2]; simp⟩
/-! own: an array of n places, place i holds f i -/
def own_A (Z : State) (h : Heap) (a : Addr) (ty : FieldType) (n : Nat) (f : Nat → Value) : Prop := ∃ c : Cell, Arr Z h a c ty ∧ c.slots.size = n ∧ n < 2147483648 ∧ ∀ i, i < n → c.slots[i]? = some (f i)
abbrev own_AJ (Z : State) (h : Heap) (a : Addr) (n : Nat) (f : Nat → Int64) : Prop := own_A Z h a .long n (fun i => .long (f i))
abbrev own_AI (Z : State) (h : Heap) (a : Addr) (n : Nat) (f : Nat → Int32) : Prop := own_A Z h a .int n (fun i => .int (f i))
abbrev own_AB (Z : State) (h : Heap) (a : Addr) (n : Nat) (f : Nat → Int32) : Prop := own_A Z h a .byte n (fun i => .int (f i))
def own_set {α : Type} (f : Nat → α) (i : Nat) (x : α) : Nat → α := fun k => if k = i then x else f k
theorem own_set_eq {α : Type} {f : Nat → α} {i k : Nat} {x : α} (h : k = i) : own_set f i x k = x := if_pos h
theorem own_set_ne {α : Type} {f : Nat → α} {i k : Nat} {x : α} (h : k ≠ i) : own_set f i x k = f k := if_neg h
section OwnArr
variable {Z : State} {h h' : Heap} {a b : Addr} {ty : FieldType} {n : Nat} {f f' : Nat → Value}
theorem own_A.lt (A : own_A Z h a ty n f) : a < h.size := by obtain ⟨c, A, -⟩ := A; exact A.lt
theorem own_A.ext (A : own_A Z h a ty n f) (E : Ext h h') : own_A Z h' a ty n f := by obtain ⟨c, A, r⟩ := A; exact ⟨c, A.ext E, r⟩
theorem own_A.other {sl : Nat} {v : Value} (A : own_A Z h b ty n f) (W : Wr h h' a sl v) (q : b ≠ a) : own_A Z h' b ty n f := by obtain ⟨c, A, r⟩ := A; exact ⟨c, A.other W q, r⟩
theorem own_A.keep {ws : List Addr} (A : own_A Z h a ty n f) (K : Keep h h' ws) (q : a ∉ ws) : own_A Z h' a ty n f := by obtain ⟨c, A, r⟩ := A; exact ⟨c, ⟨K.2.1 a c A.1 q, A.2⟩, r⟩
theorem own_A.congr (A : own_A Z h a ty n f) (q : ∀ i, i < n → f i = f' i) : own_A Z h a ty n f' := by obtain ⟨c, A, r1, r2, r3⟩ := A; exact ⟨c, A, r1, r2, fun i hi => by rw [← q i hi]; exact r3 i hi⟩
theorem own_nat {j : Int32} {i : Nat} (hj : j.toInt = (i : Int)) : j.toNatClampNeg = i := by
  show j.toInt.toNat = i
  rw [hj]; rfl
theorem own_negn {z : Int32} {k : Nat} (h : z.toInt = (k : Int)) : ¬ z < (0 : Int32) := by rw [Int32.lt_iff_toInt_lt, h, show (0 : Int32).toInt = 0 from rfl]; omega
theorem own_capn {z : Int32} {k cap : Nat} (h : z.toInt = (k : Int)) (hk : k ≤ cap) : z.toNatClampNeg ≤ cap := by rw [own_nat h]; exact hk
theorem own_in {c : Cell} {j : Int32} {i : Nat} (S : c.slots.size = n) (hj : j.toInt = (i : Int)) (hi : i < n) : ¬ (j < 0 ∨ c.slots.size ≤ j.toNatClampNeg) := by
  rw [own_nat hj, S, Int32.lt_iff_toInt_lt, hj, show (0 : Int32).toInt = 0 from rfl]; omega
theorem own_A_new {cA : ClassId} {z : Int32} (A : Arr Z h a (newA cA ty z) ty) (hz : z.toInt = (n : Int)) : own_A Z h a ty n (fun _ => defaultValue ty) := by
  have hn : z.toNatClampNeg = n := own_nat hz
  have hl := z.toInt_lt
  refine ⟨_, A, by rw [sz_new]; exact hn, by omega, fun i hi => ?_⟩
  simp [newA, hn, hi]
theorem own_A_set {j : Int32} {i : Nat} {v : Value} (A : own_A Z h a ty n f) (W : Wr h h' a j.toNatClampNeg v) (hj : j.toInt = (i : Int)) (hi : i < n) : own_A Z h' a ty n (own_set f i v) := by
  obtain ⟨c, A, r1, r2, r3⟩ := A
  rw [own_nat hj] at W
  refine ⟨_, A.same W, by rw [sz_set]; exact r1, r2, fun k hk => ?_⟩
  show (c.slots.setIfInBounds i v)[k]? = some (if k = i then v else f k)
  by_cases q : k = i
  · subst q; rw [if_pos rfl]; simp [r1, hi]
  · rw [if_neg q, Array.getElem?_setIfInBounds_ne (Ne.symm q)]; exact r3 k hk
end OwnArr
section OwnArrSteps
variable {p : Program} {l : Launch} {e : Env} {R : Room} {s : State} {m : MethodId} {args : Array Value} {below : List Frame} {meth : Method} {c : Code} {T : State} {locs : List Loc} {cells slots : Nat} {Z : State} {a0 : Array Value} {h : Heap} {a : Addr} {n i : Nat} {j : Int32} {g : JFrame} {rest : List Value}
theorem own_laload (X : Stand p l e R s m args below meth c T locs cells slots) (hx : p.tables.exec = Jvm.exec) (hZ : Z.Warmed39 s.vm) (eT : T.heap = h) {f : Nat → Int64} (A : own_AJ Z h a n f) (hj : j.toInt = (i : Int)) (hi : i < n) (hg : g.method = m) (hs : g.stack = .int j :: .ref a :: rest) (hd : decode c.code g.pc = .ok (.laload, 1)) :
    ∀ target, Steps p.tables e below (T.setTop { g with pc := g.pc + 1, stack := .long (f i) :: rest }) target → Steps p.tables e below (T.setTop g) target := by
  obtain ⟨cl, A, r1, r2, r3⟩ := A
  exact X.laload hx (j := j) (v := .long (f i)) (by rw [eT]; exact A.1) (State.isArrayOf_alike hZ.alike A.2.1) A.2.2 (own_in r1 hj hi) (by rw [own_nat hj]; exact r3 i hi) hg hs hd
theorem own_iaload (X : Stand p l e R s m args below meth c T locs cells slots) (hx : p.tables.exec = Jvm.exec) (hZ : Z.Warmed39 s.vm) (eT : T.heap = h) {f : Nat → Int32} (A : own_AI Z h a n f) (hj : j.toInt = (i : Int)) (hi : i < n) (hg : g.method = m) (hs : g.stack = .int j :: .ref a :: rest) (hd : decode c.code g.pc = .ok (.iaload, 1)) :
    ∀ target, Steps p.tables e below (T.setTop { g with pc := g.pc + 1, stack := .int (f i) :: rest }) target → Steps p.tables e below (T.setTop g) target := by
  obtain ⟨cl, A, r1, r2, r3⟩ := A
  exact X.iaload hx (j := j) (v := .int (f i)) (by rw [eT]; exact A.1) (State.isArrayOf_alike hZ.alike A.2.1) A.2.2 (own_in r1 hj hi) (by rw [own_nat hj]; exact r3 i hi) hg hs hd
theorem own_baload (X : Stand p l e R s m args below meth c T locs cells slots) (hx : p.tables.exec = Jvm.exec) (hZ : Z.Warmed39 s.vm) (eT : T.heap = h) {f : Nat → Int32} (A : own_AB Z h a n f) (hj : j.toInt = (i : Int)) (hi : i < n) (hg : g.method = m) (hs : g.stack = .int j :: .ref a :: rest) (hd : decode c.code g.pc = .ok (.baload, 1)) :
    ∀ target, Steps p.tables e below (T.setTop { g with pc := g.pc + 1, stack := .int (f i) :: rest }) target → Steps p.tables e below (T.setTop g) target := by
  obtain ⟨cl, A, r1, r2, r3⟩ := A
  exact X.baloadBytes hx (j := j) (v := .int (f i)) (by rw [eT]; exact A.1) (State.isArrayOf_alike hZ.alike A.2.1) A.2.2 (own_in r1 hj hi) (by rw [own_nat hj]; exact r3 i hi) hg hs hd
theorem own_length (X : Stand p l e R s m args below meth c T locs cells slots) (hx : p.tables.exec = Jvm.exec) (hZ : Z.Warmed39 s.vm) (eT : T.heap = h) {ty : FieldType} {f : Nat → Value} (A : own_A Z h a ty n f) {z : Int32} (hz : z.toInt = (n : Int)) (hg : g.method = m) (hs : g.stack = .ref a :: rest) (hd : decode c.code g.pc = .ok (.arraylength, 1)) :
    ∀ target, Steps p.tables e below (T.setTop { g with pc := g.pc + 1, stack := .int z :: rest }) target → Steps p.tables e below (T.setTop g) target := by
  obtain ⟨cl, A, r1, r2, -⟩ := A
  intro target k
  refine X.arraylength hx (by rw [eT]; exact A.1) (State.isArrayOf_alike hZ.alike A.2.1) hg hs hd _ ?_
  have q : cl.slots.size.toInt32 = z := Int32.toInt_inj.mp (by rw [r1, hz]; exact Int32.toInt_ofNat_of_lt (by omega))
  rw [q]; exact k
theorem own_lastore (X : Stand p l e R s m args below meth c T locs cells slots) (hx : p.tables.exec = Jvm.exec) (hZ : Z.Warmed39 s.vm) (eT : T.heap = h) {f : Nat → Int64} {x : Int64} (A : own_AJ Z h a n f) (hj : j.toInt = (i : Int)) (hi : i < n) (hg : g.method = m) (hs : g.stack = .long x :: .int j :: .ref a :: rest) (hd : decode c.code g.pc = .ok (.lastore, 1)) :
    ∃ T' h', Stand p l e R s m args below meth c T' (locs ++ [⟨a, j.toNatClampNeg⟩]) cells slots ∧ T'.heap = h' ∧ Wr h h' a j.toNatClampNeg (.long x) ∧ own_AJ Z h' a n (own_set f i x) ∧ ∀ target, Steps p.tables e below (T'.setTop { g with pc := g.pc + 1, stack := rest }) target → Steps p.tables e below (T.setTop g) target := by
  obtain ⟨cl, B, r1, r2, r3⟩ := A
  obtain ⟨T', h', X', e', W, st⟩ := stJ X hx hZ eT B (own_in r1 hj hi) hg hs hd
  exact ⟨T', h', X', e', W, (own_A_set ⟨cl, B, r1, r2, r3⟩ W hj hi).congr fun k _ => by unfold own_set; split <;> rfl, st⟩
theorem own_iastore (X : Stand p l e R s m args below meth c T locs cells slots) (hx : p.tables.exec = Jvm.exec) (hZ : Z.Warmed39 s.vm) (eT : T.heap = h) {f : Nat → Int32} {x : Int32} (A : own_AI Z h a n f) (hj : j.toInt = (i : Int)) (hi : i < n) (hg : g.method = m) (hs : g.stack = .int x :: .int j :: .ref a :: rest) (hd : decode c.code g.pc = .ok (.iastore, 1)) :
    ∃ T' h', Stand p l e R s m args below meth c T' (locs ++ [⟨a, j.toNatClampNeg⟩]) cells slots ∧ T'.heap = h' ∧ Wr h h' a j.toNatClampNeg (.int x) ∧ own_AI Z h' a n (own_set f i x) ∧ ∀ target, Steps p.tables e below (T'.setTop { g with pc := g.pc + 1, stack := rest }) target → Steps p.tables e below (T.setTop g) target := by
  obtain ⟨cl, B, r1, r2, r3⟩ := A
  obtain ⟨T', h', X', e', W, st⟩ := stI X hx hZ eT B (own_in r1 hj hi) hg hs hd
  exact ⟨T', h', X', e', W, (own_A_set ⟨cl, B, r1, r2, r3⟩ W hj hi).congr fun k _ => by unfold own_set; split <;> rfl, st⟩
theorem own_bastore (X : Stand p l e R s m args below meth c T locs cells slots) (hx : p.tables.exec = Jvm.exec) (hZ : Z.Warmed39 s.vm) (eT : T.heap = h) {f : Nat → Int32} {x : Int32} (A : own_AB Z h a n f) (hj : j.toInt = (i : Int)) (hi : i < n) (hg : g.method = m) (hs : g.stack = .int x :: .int j :: .ref a :: rest) (hd : decode c.code g.pc = .ok (.bastore, 1)) :
    ∃ T' h', Stand p l e R s m args below meth c T' (locs ++ [⟨a, j.toNatClampNeg⟩]) cells slots ∧ T'.heap = h' ∧ Wr h h' a j.toNatClampNeg (.int (nar .byte x)) ∧ own_AB Z h' a n (own_set f i (x.toInt8.toInt32)) ∧ ∀ target, Steps p.tables e below (T'.setTop { g with pc := g.pc + 1, stack := rest }) target → Steps p.tables e below (T.setTop g) target := by
  obtain ⟨cl, B, r1, r2, r3⟩ := A
  obtain ⟨T', h', X', e', W, st⟩ := stB X hx hZ eT B (own_in r1 hj hi) hg hs hd
  exact ⟨T', h', X', e', W, (own_A_set ⟨cl, B, r1, r2, r3⟩ W hj hi).congr fun k _ => by unfold own_set; split <;> rfl, st⟩
end OwnArrSteps

def own_cs (f : Nat → Int64) (i j : Nat) : Nat → Int64 := if f j < f i then own_set (own_set f i (f j)) j (f i) else f
theorem own_cs_val (f : Nat → Int64) {i j : Nat} (h : i ≠ j) (k : Nat) : (own_cs f i j k).toInt = if k = i then min (f i).toInt (f j).toInt else if k = j then max (f i).toInt (f j).toInt else (f k).toInt := by
  unfold own_cs
  by_cases q : f j < f i
  · rw [if_pos q]; rw [Int64.lt_iff_toInt_lt] at q
    unfold own_set
    by_cases q1 : k = j
    · subst q1; rw [if_pos rfl, if_neg (Ne.symm h), if_pos rfl]; omega
    · rw [if_neg q1]
      by_cases q2 : k = i
      · subst q2; rw [if_pos rfl, if_pos rfl]; omega
      · rw [if_neg q2, if_neg q2, if_neg q1]
  · rw [if_neg q]; rw [Int64.lt_iff_toInt_lt] at q
    by_cases q2 : k = i
    · subst q2; rw [if_pos rfl]; omega
    · rw [if_neg q2]
      by_cases q1 : k = j
      · subst q1; rw [if_pos rfl]; omega
      · rw [if_neg q1]
def own_sorted (n : Nat) (f : Nat → Int64) : Prop := ∀ i j, i ≤ j → j < n → ¬ f j < f i
theorem own_net {f t1 t2 t3 t4 t5 : Nat → Int64} (h1 : t1 = own_cs f 0 1) (h2 : t2 = own_cs t1 2 3) (h3 : t3 = own_cs t2 0 2) (h4 : t4 = own_cs t3 1 3) (h5 : t5 = own_cs t4 1 2) : own_sorted 4 t5 := by
  have a0 := own_cs_val f (i := 0) (j := 1) (by decide) 0
  have a1 := own_cs_val f (i := 0) (j := 1) (by decide) 1
  have a2 := own_cs_val f (i := 0) (j := 1) (by decide) 2
  have a3 := own_cs_val f (i := 0) (j := 1) (by decide) 3
  rw [← h1] at a0 a1 a2 a3
  have b0 := own_cs_val t1 (i := 2) (j := 3) (by decide) 0
  have b1 := own_cs_val t1 (i := 2) (j := 3) (by decide) 1
  have b2 := own_cs_val t1 (i := 2) (j := 3) (by decide) 2
  have b3 := own_cs_val t1 (i := 2) (j := 3) (by decide) 3
  rw [← h2] at b0 b1 b2 b3
  have c0 := own_cs_val t2 (i := 0) (j := 2) (by decide) 0
  have c1 := own_cs_val t2 (i := 0) (j := 2) (by decide) 1
  have c2 := own_cs_val t2 (i := 0) (j := 2) (by decide) 2
  have c3 := own_cs_val t2 (i := 0) (j := 2) (by decide) 3
  rw [← h3] at c0 c1 c2 c3
  have d0 := own_cs_val t3 (i := 1) (j := 3) (by decide) 0
  have d1 := own_cs_val t3 (i := 1) (j := 3) (by decide) 1
  have d2 := own_cs_val t3 (i := 1) (j := 3) (by decide) 2
  have d3 := own_cs_val t3 (i := 1) (j := 3) (by decide) 3
  rw [← h4] at d0 d1 d2 d3
  have e0 := own_cs_val t4 (i := 1) (j := 2) (by decide) 0
  have e1 := own_cs_val t4 (i := 1) (j := 2) (by decide) 1
  have e2 := own_cs_val t4 (i := 1) (j := 2) (by decide) 2
  have e3 := own_cs_val t4 (i := 1) (j := 2) (by decide) 3
  rw [← h5] at e0 e1 e2 e3
  simp at a0 a1 a2 a3 b0 b1 b2 b3 c0 c1 c2 c3 d0 d1 d2 d3 e0 e1 e2 e3
  clear h1 h2 h3 h4 h5
  have s01 : (t5 0).toInt ≤ (t5 1).toInt := by omega
  have s12 : (t5 1).toInt ≤ (t5 2).toInt := by omega
  have s23 : (t5 2).toInt ≤ (t5 3).toInt := by omega
  clear a0 a1 a2 a3 b0 b1 b2 b3 c0 c1 c2 c3 d0 d1 d2 d3 e0 e1 e2 e3
  intro i j hij hj
  rw [Int64.lt_iff_toInt_lt]
  have q : j = 0 ∨ j = 1 ∨ j = 2 ∨ j = 3 := by omega
  have q2 : i = 0 ∨ i = 1 ∨ i = 2 ∨ i = 3 := by omega
  rcases q with rfl | rfl | rfl | rfl <;> rcases q2 with rfl | rfl | rfl | rfl <;> omega
def own_cnt : Nat → (Nat → Int64) → Int64 → Nat
  | 0, _, _ => 0
  | n + 1, f, v => own_cnt n f v + (if f n < v then 1 else 0)
theorem own_cnt_le (n : Nat) (f : Nat → Int64) (v : Int64) (r : Nat) (h1 : ∀ i, i < r → f i < v) (h2 : ∀ i, r ≤ i → i < n → ¬ f i < v) : own_cnt n f v = min r n := by
  induction n with
  | zero => simp [own_cnt]
  | succ n ih =>
    rw [own_cnt, ih fun i a b => h2 i a (by omega)]
    by_cases q : r ≤ n
    · rw [if_neg (h2 n q (by omega))]; omega
    · rw [if_pos (h1 n (by omega))]; omega
theorem own_mid {lo hi mid : Int32} (h0 : 0 ≤ lo.toInt) (h1 : lo.toInt < hi.toInt) (h2 : hi.toInt < 1073741824) (hm : mid = (((lo + hi).toUInt32 >>> ((1 : Int32) &&& 31).toUInt32).toInt32)) : mid.toInt = (lo.toInt + hi.toInt) / 2 := by
  have e : (lo + hi).toInt = lo.toInt + hi.toInt := Jvm.Kit.i32_add (by omega) (by omega)
  rw [hm, Jvm.Kit.i32_iushr (k := 1) (by rw [Int32.le_iff_toInt_le, e, show (0 : Int32).toInt = 0 from rfl]; omega) (by decide) (by decide), e]; rfl
def own_inv (n : Nat) (f : Nat → Int64) (v : Int64) (lo hi : Int32) : Prop := 0 ≤ lo.toInt ∧ lo.toInt ≤ hi.toInt ∧ hi.toInt ≤ n ∧ (∀ i : Nat, (i : Int) < lo.toInt → f i < v) ∧ ∀ i : Nat, hi.toInt ≤ (i : Int) → i < n → ¬ f i < v
theorem own_inv0 {n : Nat} {f : Nat → Int64} {v : Int64} {z : Int32} (hz : z.toInt = (n : Int)) : own_inv n f v (0 : Int32) z := by
  have o : (0 : Int32).toInt = 0 := rfl
  exact ⟨by omega, by omega, by omega, fun i h => by omega, fun i h => by omega⟩
theorem own_inv1 {n : Nat} {f : Nat → Int64} {v : Int64} {lo hi mid : Int32} (I : own_inv n f v lo hi) (hn : n < 1073741824) (h : lo < hi) (hm : mid = (((lo + hi).toUInt32 >>> ((1 : Int32) &&& 31).toUInt32).toInt32)) : mid.toInt = ((mid.toInt.toNat : Nat) : Int) ∧ mid.toInt.toNat < n ∧ lo.toInt ≤ mid.toInt ∧ mid.toInt < hi.toInt := by
  obtain ⟨a, b, c, -, -⟩ := I
  rw [Int32.lt_iff_toInt_lt] at h
  have e := own_mid a h (by omega) hm
  omega
theorem own_inv2 {n : Nat} {f : Nat → Int64} {v : Int64} {lo hi mid : Int32} (I : own_inv n f v lo hi) (hn : n < 1073741824) (hs : own_sorted n f) (h : lo < hi) (hm : mid = (((lo + hi).toUInt32 >>> ((1 : Int32) &&& 31).toUInt32).toInt32)) (q : f mid.toInt.toNat < v) :
    own_inv n f v (mid + (1 : Int32)) hi ∧ (hi.toInt - (mid + (1 : Int32)).toInt).toNat < (hi.toInt - lo.toInt).toNat := by
  obtain ⟨b1, b2, b3, b4⟩ := own_inv1 I hn h hm
  obtain ⟨a, b, c, d, e⟩ := I
  have o : (1 : Int32).toInt = 1 := rfl
  have m1 : (mid + 1).toInt = mid.toInt + 1 := by rw [Jvm.Kit.i32_add] <;> rw [o] <;> omega
  refine ⟨⟨by omega, by omega, by omega, fun i hi => ?_, e⟩, by omega⟩
  have s := hs i mid.toInt.toNat (by omega) (by omega)
  rw [Int64.lt_iff_toInt_lt] at *; omega
theorem own_inv3 {n : Nat} {f : Nat → Int64} {v : Int64} {lo hi mid : Int32} (I : own_inv n f v lo hi) (hn : n < 1073741824) (hs : own_sorted n f) (h : lo < hi) (hm : mid = (((lo + hi).toUInt32 >>> ((1 : Int32) &&& 31).toUInt32).toInt32)) (q : ¬ f mid.toInt.toNat < v) :
    own_inv n f v lo mid ∧ (mid.toInt - lo.toInt).toNat < (hi.toInt - lo.toInt).toNat := by
  obtain ⟨b1, b2, b3, b4⟩ := own_inv1 I hn h hm
  obtain ⟨a, b, c, d, e⟩ := I
  refine ⟨⟨a, by omega, by omega, d, fun i hi hn => ?_⟩, by omega⟩
  have s := hs mid.toInt.toNat i (by omega) hn
  rw [Int64.lt_iff_toInt_lt] at *; omega
theorem own_inv4 {n : Nat} {f : Nat → Int64} {v : Int64} {lo hi : Int32} (I : own_inv n f v lo hi) (h : ¬ lo < hi) : lo = Int32.ofNat (own_cnt n f v) := by
  obtain ⟨a, b, c, d, e⟩ := I
  rw [Int32.lt_iff_toInt_lt] at h
  have l := lo.toInt_lt
  rw [own_cnt_le n f v lo.toInt.toNat (fun i hi => d i (by omega)) (fun i hi => e i (by omega))]
  apply Int32.toInt_inj.mp
  rw [Int32.toInt_ofNat_of_lt (by omega)]; omega
theorem own_n5 (x : Int32) : ((x &&& (7 : Int32)) % (5 : Int32)) = (0 : Int32) ∨ ((x &&& (7 : Int32)) % (5 : Int32)) = (1 : Int32) ∨ ((x &&& (7 : Int32)) % (5 : Int32)) = (2 : Int32) ∨ ((x &&& (7 : Int32)) % (5 : Int32)) = (3 : Int32) ∨ ((x &&& (7 : Int32)) % (5 : Int32)) = (4 : Int32) := by
  have e := Jvm.Kit.i32_mask x 7 (k := 3) (by decide) (by decide)
  have e2 : ((x &&& 7) % 5).toInt = (x &&& 7).toInt % 5 := Jvm.Kit.i32_rem_nonneg (by omega)
  simp only [← Int32.toInt_inj, e2, show (0 : Int32).toInt = 0 from rfl, show (1 : Int32).toInt = 1 from rfl, show (2 : Int32).toInt = 2 from rfl, show (3 : Int32).toInt = 3 from rfl, show (4 : Int32).toInt = 4 from rfl]
  omega
theorem own_sel {y s : Int32} (h : s = (y &&& (7 : Int32))) (q : s < (4 : Int32)) : s.toInt = ((s.toInt.toNat : Nat) : Int) ∧ s.toInt.toNat < 4 := by
  have e := Jvm.Kit.i32_mask y 7 (k := 3) (by decide) (by decide)
  rw [← h] at e
  rw [Int32.lt_iff_toInt_lt, show (4 : Int32).toInt = 4 from rfl] at q
  omega
theorem own_ix3 (y : Int32) : (y &&& (3 : Int32)).toInt = (((y &&& (3 : Int32)).toInt.toNat : Nat) : Int) ∧ (y &&& (3 : Int32)).toInt.toNat < 4 := by
  have e := Jvm.Kit.i32_mask y 3 (k := 2) (by decide) (by decide)
  omega
theorem own_pre {n : Nat} {f t : Nat → Int64} (hn : n ≤ 4) (h : ∀ i, i < n → f i = t i) (hs : own_sorted 4 t) : own_sorted n f := fun i j hij hj => by
  rw [h i (by omega), h j hj]; exact hs i j hij (by omega)
theorem own_p0 {f : Nat → Int64} : own_sorted 0 f := fun i j _ hj => by omega
theorem own_p1 {t f0 f : Nat → Int64} (h0 : f0 = own_set f 0 (t 0)) (hs : own_sorted 4 t) : own_sorted 1 f0 := own_pre (by decide) (fun i hi => by
  subst h0
  have : i = 0 := by omega
  subst this
  rfl) hs
theorem own_p2 {t f0 f1 f : Nat → Int64} (h0 : f0 = own_set f 0 (t 0)) (h1 : f1 = own_set f0 1 (t 1)) (hs : own_sorted 4 t) : own_sorted 2 f1 := own_pre (by decide) (fun i hi => by
  subst h1 h0
  have : i = 0 ∨ i = 1 := by omega
  rcases this with rfl | rfl <;> rfl) hs
theorem own_p3 {t f0 f1 f2 f : Nat → Int64} (h0 : f0 = own_set f 0 (t 0)) (h1 : f1 = own_set f0 1 (t 1)) (h2 : f2 = own_set f1 2 (t 2)) (hs : own_sorted 4 t) : own_sorted 3 f2 := own_pre (by decide) (fun i hi => by
  subst h2 h1 h0
  have : i = 0 ∨ i = 1 ∨ i = 2 := by omega
  rcases this with rfl | rfl | rfl <;> rfl) hs
theorem own_p4 {t f0 f1 f2 f3 f : Nat → Int64} (h0 : f0 = own_set f 0 (t 0)) (h1 : f1 = own_set f0 1 (t 1)) (h2 : f2 = own_set f1 2 (t 2)) (h3 : f3 = own_set f2 3 (t 3)) (hs : own_sorted 4 t) : own_sorted 4 f3 := own_pre (by decide) (fun i hi => by
  subst h3 h2 h1 h0
  have : i = 0 ∨ i = 1 ∨ i = 2 ∨ i = 3 := by omega
  rcases this with rfl | rfl | rfl | rfl <;> rfl) hs

theorem pn_0 : plainName "com/example/humble_grid/humblegrid/PackedPairsCountBelowPinLaw" = true := by first | (simp [plainName, overriddenIn]; done) | decide +kernel
theorem d1_0 : decode method_3_code 0 = .ok (.aload_n 0, 1) := by decide +kernel
theorem d1_1 : decode method_3_code 1 = .ok (.iload_n 1, 1) := by decide +kernel
theorem d1_2 : decode method_3_code 2 = .ok (.laload, 1) := by decide +kernel
theorem d1_3 : decode method_3_code 3 = .ok (.aload_n 0, 1) := by decide +kernel
theorem d1_4 : decode method_3_code 4 = .ok (.iload_n 2, 1) := by decide +kernel
theorem d1_5 : decode method_3_code 5 = .ok (.laload, 1) := by decide +kernel
theorem d1_6 : decode method_3_code 6 = .ok (.lcmp, 1) := by decide +kernel
theorem d1_7 : decode method_3_code 7 = .ok (.ifCond .le 17, 3) := by decide +kernel
theorem d1_10 : decode method_3_code 10 = .ok (.aload_n 0, 1) := by decide +kernel
theorem d1_11 : decode method_3_code 11 = .ok (.iload_n 1, 1) := by decide +kernel
theorem d1_12 : decode method_3_code 12 = .ok (.laload, 1) := by decide +kernel
theorem d1_13 : decode method_3_code 13 = .ok (.lstore_n 3, 1) := by decide +kernel
theorem d1_14 : decode method_3_code 14 = .ok (.aload_n 0, 1) := by decide +kernel
theorem d1_15 : decode method_3_code 15 = .ok (.iload_n 1, 1) := by decide +kernel
theorem d1_16 : decode method_3_code 16 = .ok (.aload_n 0, 1) := by decide +kernel
theorem d1_17 : decode method_3_code 17 = .ok (.iload_n 2, 1) := by decide +kernel
theorem d1_18 : decode method_3_code 18 = .ok (.laload, 1) := by decide +kernel
theorem d1_19 : decode method_3_code 19 = .ok (.lastore, 1) := by decide +kernel
theorem d1_20 : decode method_3_code 20 = .ok (.aload_n 0, 1) := by decide +kernel
theorem d1_21 : decode method_3_code 21 = .ok (.iload_n 2, 1) := by decide +kernel
theorem d1_22 : decode method_3_code 22 = .ok (.lload_n 3, 1) := by decide +kernel
theorem d1_23 : decode method_3_code 23 = .ok (.lastore, 1) := by decide +kernel
theorem d1_24 : decode method_3_code 24 = .ok (.return_, 1) := by decide +kernel
set_option maxRecDepth 65536 in
set_option maxHeartbeats 4000000 in
theorem ef_1 (m : MethodId) (a0 : Addr) (p1 : Int32) (p2 : Int32) : entryFrame m #[(.ref a0), (.int p1), (.int p2)] 5 = mkF m 0 #[.val (.ref a0), .val (.int p1), .val (.int p2), .unset, .unset] [] := by first | (simp [entryFrame, mkF, argsToLocals, Value.category]; done) | rfl
set_option maxRecDepth 65536 in
set_option maxHeartbeats 40000000 in
theorem rm1 (l : Launch) (Z : State) (aw : Array Value) (hw : ∀ d ∈ tables_1, d.before aw Z = true) {ws : List Jvm.Cond} (a0 : Addr) (p1 : Int32) (p2 : Int32) (f : Nat → Int64) (i : Nat) (j : Nat) (h0 : Heap) (n0 : Nat) (Z0 : n0 ≤ h0.size) (Ar_a0 : own_AJ Z h0 a0 4 f) (g_a0 : n0 ≤ a0) (hi : p1.toInt = (i : Int)) (ki : i < 4) (hj : p2.toInt = (j : Int)) (kj : j < 4) (hij : j ≠ i) :
    own_Met l Z (⟨"com/example/humble_grid/humblegrid/PackedPairsCountBelowPinLaw", "cs", "([JII)V"⟩ : MethodName) method_3_code 5 none ws ({ frames := 0, cells := 0, slots := 0, locals := 0 } : Room) #[(.ref a0), (.int p1), (.int p2)] h0 (fun v h L => v = none ∧ Fr n0 L ∧ Keep h0 h [a0] ∧ own_AJ Z h a0 4 (own_cs f i j)) := by
  refine own_body (plainFor_of_name pn_0) ?_
  intro p e s m below meth c s₁ hx hZ hby hml hown hnm hret hlk X0 e0
  replace hown : s.vm.findClass "com/example/humble_grid/humblegrid/PackedPairsCountBelowPinLaw" = some m.cls := hown
  replace hml : c.maxLocals = 5 := hml
  have N0 := Fr.nil n0
  have K0 := Keep.refl h0 [a0]
  obtain ⟨P, hP⟩ : ∃ P, P = own_P below s (fun v h L => v = none ∧ Fr n0 L ∧ Keep h0 h [a0] ∧ own_AJ Z h a0 4 (own_cs f i j)) ({ frames := 0, cells := 0, slots := 0, locals := 0 } : Room).cells ({ frames := 0, cells := 0, slots := 0, locals := 0 } : Room).slots := ⟨_, rfl⟩
  rw [← hP]
  refine own_cast (ef_1 m a0 p1 p2) ?_
  refine own_go (T' := s₁) (f' := (mkF m 7 #[.val (.ref a0), .val (.int p1), .val (.int p2), .unset, .unset] [(.int (lcmpW (f i) (f j)))])) (fun t kt => ?_) ?_
  · show Steps p.tables e below (s₁.setTop (mkF m 0 #[.val (.ref a0), .val (.int p1), .val (.int p2), .unset, .unset] [])) t
    refine XS.aloadN X0.here hx rfl (hb hby d1_0) rfl rfl ?_
    show Steps p.tables e below (s₁.setTop (mkF m 1 #[.val (.ref a0), .val (.int p1), .val (.int p2), .unset, .unset] [(.ref a0)])) t
    refine XS.iloadN X0.here hx rfl (hb hby d1_1) rfl ?_
    show Steps p.tables e below (s₁.setTop (mkF m 2 #[.val (.ref a0), .val (.int p1), .val (.int p2), .unset, .unset] [(.int p1), (.ref a0)])) t
    refine own_laload X0 hx hZ e0 Ar_a0 (i := i) hi ki (g := (mkF m 2 #[.val (.ref a0), .val (.int p1), .val (.int p2), .unset, .unset] [(.int p1), (.ref a0)])) rfl rfl (hb hby d1_2) _ ?_
    show Steps p.tables e below (s₁.setTop (mkF m 3 #[.val (.ref a0), .val (.int p1), .val (.int p2), .unset, .unset] [(.long (f i))])) t
    refine XS.aloadN X0.here hx rfl (hb hby d1_3) rfl rfl ?_
    show Steps p.tables e below (s₁.setTop (mkF m 4 #[.val (.ref a0), .val (.int p1), .val (.int p2), .unset, .unset] [(.ref a0), (.long (f i))])) t
    refine XS.iloadN X0.here hx rfl (hb hby d1_4) rfl ?_
    show Steps p.tables e below (s₁.setTop (mkF m 5 #[.val (.ref a0), .val (.int p1), .val (.int p2), .unset, .unset] [(.int p2), (.ref a0), (.long (f i))])) t
    refine own_laload X0 hx hZ e0 Ar_a0 (i := j) hj kj (g := (mkF m 5 #[.val (.ref a0), .val (.int p1), .val (.int p2), .unset, .unset] [(.int p2), (.ref a0), (.long (f i))])) rfl rfl (hb hby d1_5) _ ?_
    show Steps p.tables e below (s₁.setTop (mkF m 6 #[.val (.ref a0), .val (.int p1), .val (.int p2), .unset, .unset] [(.long (f j)), (.long (f i))])) t
    refine XS.lcmp X0.here hx rfl (hb hby d1_6) rfl ?_
    show Steps p.tables e below (s₁.setTop (mkF m 7 #[.val (.ref a0), .val (.int p1), .val (.int p2), .unset, .unset] [(.int (lcmpW (f i) (f j)))])) t
    exact kt
  by_cases hc7_1 : (f j) < (f i)
  · refine own_go (T' := s₁) (f' := (mkF m 19 #[.val (.ref a0), .val (.int p1), .val (.int p2), .val (.long (f i)), .second] [(.long (f j)), (.int p1), (.ref a0)])) (fun t kt => ?_) ?_
    · show Steps p.tables e below (s₁.setTop (mkF m 7 #[.val (.ref a0), .val (.int p1), .val (.int p2), .unset, .unset] [(.int (lcmpW (f i) (f j)))])) t
      refine XS.ifNo X0.here hx rfl (hb hby d1_7) rfl (own_lN_le hc7_1) ?_
      show Steps p.tables e below (s₁.setTop (mkF m 10 #[.val (.ref a0), .val (.int p1), .val (.int p2), .unset, .unset] [])) t
      refine XS.aloadN X0.here hx rfl (hb hby d1_10) rfl rfl ?_
      show Steps p.tables e below (s₁.setTop (mkF m 11 #[.val (.ref a0), .val (.int p1), .val (.int p2), .unset, .unset] [(.ref a0)])) t
      refine XS.iloadN X0.here hx rfl (hb hby d1_11) rfl ?_
      show Steps p.tables e below (s₁.setTop (mkF m 12 #[.val (.ref a0), .val (.int p1), .val (.int p2), .unset, .unset] [(.int p1), (.ref a0)])) t
      refine own_laload X0 hx hZ e0 Ar_a0 (i := i) hi ki (g := (mkF m 12 #[.val (.ref a0), .val (.int p1), .val (.int p2), .unset, .unset] [(.int p1), (.ref a0)])) rfl rfl (hb hby d1_12) _ ?_
      show Steps p.tables e below (s₁.setTop (mkF m 13 #[.val (.ref a0), .val (.int p1), .val (.int p2), .unset, .unset] [(.long (f i))])) t
      refine XS.lstoreN X0.here hx rfl (hb hby d1_13) rfl (l' := #[.val (.ref a0), .val (.int p1), .val (.int p2), .val (.long (f i)), .second]) rfl ?_
      show Steps p.tables e below (s₁.setTop (mkF m 14 #[.val (.ref a0), .val (.int p1), .val (.int p2), .val (.long (f i)), .second] [])) t
      refine XS.aloadN X0.here hx rfl (hb hby d1_14) rfl rfl ?_
      show Steps p.tables e below (s₁.setTop (mkF m 15 #[.val (.ref a0), .val (.int p1), .val (.int p2), .val (.long (f i)), .second] [(.ref a0)])) t
      refine XS.iloadN X0.here hx rfl (hb hby d1_15) rfl ?_
      show Steps p.tables e below (s₁.setTop (mkF m 16 #[.val (.ref a0), .val (.int p1), .val (.int p2), .val (.long (f i)), .second] [(.int p1), (.ref a0)])) t
      refine XS.aloadN X0.here hx rfl (hb hby d1_16) rfl rfl ?_
      show Steps p.tables e below (s₁.setTop (mkF m 17 #[.val (.ref a0), .val (.int p1), .val (.int p2), .val (.long (f i)), .second] [(.ref a0), (.int p1), (.ref a0)])) t
      refine XS.iloadN X0.here hx rfl (hb hby d1_17) rfl ?_
      show Steps p.tables e below (s₁.setTop (mkF m 18 #[.val (.ref a0), .val (.int p1), .val (.int p2), .val (.long (f i)), .second] [(.int p2), (.ref a0), (.int p1), (.ref a0)])) t
      refine own_laload X0 hx hZ e0 Ar_a0 (i := j) hj kj (g := (mkF m 18 #[.val (.ref a0), .val (.int p1), .val (.int p2), .val (.long (f i)), .second] [(.int p2), (.ref a0), (.int p1), (.ref a0)])) rfl rfl (hb hby d1_18) _ ?_
      show Steps p.tables e below (s₁.setTop (mkF m 19 #[.val (.ref a0), .val (.int p1), .val (.int p2), .val (.long (f i)), .second] [(.long (f j)), (.int p1), (.ref a0)])) t
      exact kt
    obtain ⟨T2, h2, X2, e2, W2, B2, st2⟩ := own_lastore X0 hx hZ e0 Ar_a0 (i := i) hi ki (g := (mkF m 19 #[.val (.ref a0), .val (.int p1), .val (.int p2), .val (.long (f i)), .second] [(.long (f j)), (.int p1), (.ref a0)])) rfl rfl (hb hby d1_19)
    refine own_go st2 ?_
    have N2 := Fr.snoc X2 N0 g_a0
    have Z2 : n0 ≤ h2.size := Nat.le_trans Z0 (Keep.of_wr W2).1
    have KK2 := K0.wr W2 (Or.inl (by simp))
    refine own_go (T' := T2) (f' := (mkF m 23 #[.val (.ref a0), .val (.int p1), .val (.int p2), .val (.long (f i)), .second] [(.long (f i)), (.int p2), (.ref a0)])) (fun t kt => ?_) ?_
    · show Steps p.tables e below (T2.setTop (mkF m 20 #[.val (.ref a0), .val (.int p1), .val (.int p2), .val (.long (f i)), .second] [])) t
      refine XS.aloadN X2.here hx rfl (hb hby d1_20) rfl rfl ?_
      show Steps p.tables e below (T2.setTop (mkF m 21 #[.val (.ref a0), .val (.int p1), .val (.int p2), .val (.long (f i)), .second] [(.ref a0)])) t
      refine XS.iloadN X2.here hx rfl (hb hby d1_21) rfl ?_
      show Steps p.tables e below (T2.setTop (mkF m 22 #[.val (.ref a0), .val (.int p1), .val (.int p2), .val (.long (f i)), .second] [(.int p2), (.ref a0)])) t
      refine XS.lloadN X2.here hx rfl (hb hby d1_22) rfl ?_
      show Steps p.tables e below (T2.setTop (mkF m 23 #[.val (.ref a0), .val (.int p1), .val (.int p2), .val (.long (f i)), .second] [(.long (f i)), (.int p2), (.ref a0)])) t
      exact kt
    obtain ⟨T3, h3, X3, e3, W3, B3, st3⟩ := own_lastore X2 hx hZ e2 B2 (i := j) hj kj (g := (mkF m 23 #[.val (.ref a0), .val (.int p1), .val (.int p2), .val (.long (f i)), .second] [(.long (f i)), (.int p2), (.ref a0)])) rfl rfl (hb hby d1_23)
    refine own_go st3 ?_
    have N3 := Fr.snoc X3 N2 g_a0
    have Z3 : n0 ≤ h3.size := Nat.le_trans Z2 (Keep.of_wr W3).1
    have KK3 := KK2.wr W3 (Or.inl (by simp))
    exact own_retV X3 hP hx hlk e3 hret (hb hby d1_24) (by decide) (by decide) ⟨rfl, N3, KK3, (by rw [own_cs, if_pos hc7_1]; exact B3)⟩
  · refine own_go (T' := s₁) (f' := (mkF m 24 #[.val (.ref a0), .val (.int p1), .val (.int p2), .unset, .unset] [])) (fun t kt => ?_) ?_
    · show Steps p.tables e below (s₁.setTop (mkF m 7 #[.val (.ref a0), .val (.int p1), .val (.int p2), .unset, .unset] [(.int (lcmpW (f i) (f j)))])) t
      refine XS.ifYes X0.here hx rfl (pc0 := 7) (pc' := 24) rfl (hb hby d1_7) rfl (own_lY_le hc7_1) (by decide) (by decide) ?_
      show Steps p.tables e below (s₁.setTop (mkF m 24 #[.val (.ref a0), .val (.int p1), .val (.int p2), .unset, .unset] [])) t
      exact kt
    exact own_retV X0 hP hx hlk e0 hret (hb hby d1_24) (by decide) (by decide) ⟨rfl, N0, K0, (by rw [own_cs, if_neg hc7_1]; exact Ar_a0)⟩
theorem pn_1 : plainName "com/example/humble_grid/humblegrid/PackedPairs" = true := by first | (simp [plainName, overriddenIn]; done) | decide +kernel
theorem d2_0 : decode prog_72_method_5_code 0 = .ok (.iconst 0, 1) := by decide +kernel
theorem d2_1 : decode prog_72_method_5_code 1 = .ok (.istore_n 3, 1) := by decide +kernel
theorem d2_2 : decode prog_72_method_5_code 2 = .ok (.aload_n 0, 1) := by decide +kernel
theorem d2_3 : decode prog_72_method_5_code 3 = .ok (.arraylength, 1) := by decide +kernel
theorem d2_4 : decode prog_72_method_5_code 4 = .ok (.istore 4, 2) := by decide +kernel
theorem d2_6 : decode prog_72_method_5_code 6 = .ok (.iload_n 3, 1) := by decide +kernel
theorem d2_7 : decode prog_72_method_5_code 7 = .ok (.iload 4, 2) := by decide +kernel
theorem d2_9 : decode prog_72_method_5_code 9 = .ok (.if_icmp .ge 35, 3) := by decide +kernel
theorem d2_12 : decode prog_72_method_5_code 12 = .ok (.iload_n 3, 1) := by decide +kernel
theorem d2_13 : decode prog_72_method_5_code 13 = .ok (.iload 4, 2) := by decide +kernel
theorem d2_15 : decode prog_72_method_5_code 15 = .ok (.iadd, 1) := by decide +kernel
theorem d2_16 : decode prog_72_method_5_code 16 = .ok (.iconst 1, 1) := by decide +kernel
theorem d2_17 : decode prog_72_method_5_code 17 = .ok (.iushr, 1) := by decide +kernel
theorem d2_18 : decode prog_72_method_5_code 18 = .ok (.istore 5, 2) := by decide +kernel
theorem d2_20 : decode prog_72_method_5_code 20 = .ok (.aload_n 0, 1) := by decide +kernel
theorem d2_21 : decode prog_72_method_5_code 21 = .ok (.iload 5, 2) := by decide +kernel
theorem d2_23 : decode prog_72_method_5_code 23 = .ok (.laload, 1) := by decide +kernel
theorem d2_24 : decode prog_72_method_5_code 24 = .ok (.lload_n 1, 1) := by decide +kernel
theorem d2_25 : decode prog_72_method_5_code 25 = .ok (.lcmp, 1) := by decide +kernel
theorem d2_26 : decode prog_72_method_5_code 26 = .ok (.ifCond .ge 11, 3) := by decide +kernel
theorem d2_29 : decode prog_72_method_5_code 29 = .ok (.iload 5, 2) := by decide +kernel
theorem d2_31 : decode prog_72_method_5_code 31 = .ok (.iconst 1, 1) := by decide +kernel
theorem d2_32 : decode prog_72_method_5_code 32 = .ok (.iadd, 1) := by decide +kernel
theorem d2_33 : decode prog_72_method_5_code 33 = .ok (.istore_n 3, 1) := by decide +kernel
theorem d2_34 : decode prog_72_method_5_code 34 = .ok (.goto 7, 3) := by decide +kernel
theorem d2_37 : decode prog_72_method_5_code 37 = .ok (.iload 5, 2) := by decide +kernel
theorem d2_39 : decode prog_72_method_5_code 39 = .ok (.istore 4, 2) := by decide +kernel
theorem d2_41 : decode prog_72_method_5_code 41 = .ok (.goto (-35), 3) := by decide +kernel
theorem d2_44 : decode prog_72_method_5_code 44 = .ok (.iload_n 3, 1) := by decide +kernel
theorem d2_45 : decode prog_72_method_5_code 45 = .ok (.ireturn, 1) := by decide +kernel
set_option maxRecDepth 65536 in
set_option maxHeartbeats 4000000 in
theorem ef_2 (m : MethodId) (a0 : Addr) (q1 : Int64) : entryFrame m #[(.ref a0), (.long q1)] 6 = mkF m 0 #[.val (.ref a0), .val (.long q1), .second, .unset, .unset, .unset] [] := by first | (simp [entryFrame, mkF, argsToLocals, Value.category]; done) | rfl
set_option maxRecDepth 65536 in
set_option maxHeartbeats 40000000 in
theorem rm2 (l : Launch) (Z : State) (aw : Array Value) (hw : ∀ d ∈ tables_1, d.before aw Z = true) {ws : List Jvm.Cond} (a0 : Addr) (q1 : Int64) (n : Nat) (f : Nat → Int64) (z : Int32) (h0 : Heap) (n0 : Nat) (Z0 : n0 ≤ h0.size) (Ar_a0 : own_AJ Z h0 a0 n f) (hn : n < 1073741824) (hz : z.toInt = (n : Int)) (hs : own_sorted n f) :
    own_Met l Z (⟨"com/example/humble_grid/humblegrid/PackedPairs", "countBelow", "([JJ)I"⟩ : MethodName) prog_72_method_5_code 6 (some .int) ws ({ frames := 0, cells := 0, slots := 0, locals := 0 } : Room) #[(.ref a0), (.long q1)] h0 (own_Pq (some (.int (Int32.ofNat (own_cnt n f q1)))) h0) := by
  refine own_body (plainFor_of_name pn_1) ?_
  intro p e s m below meth c s₁ hx hZ hby hml hown hnm hret hlk X0 e0
  replace hown : s.vm.findClass "com/example/humble_grid/humblegrid/PackedPairs" = some m.cls := hown
  replace hml : c.maxLocals = 6 := hml
  obtain ⟨P, hP⟩ : ∃ P, P = own_P below s (own_Pq (some (.int (Int32.ofNat (own_cnt n f q1)))) h0) ({ frames := 0, cells := 0, slots := 0, locals := 0 } : Room).cells ({ frames := 0, cells := 0, slots := 0, locals := 0 } : Room).slots := ⟨_, rfl⟩
  rw [← hP]
  refine own_cast (ef_2 m a0 q1) ?_
  refine own_go (T' := s₁) (f' := (mkF m 3 #[.val (.ref a0), .val (.long q1), .second, .val (.int (0 : Int32)), .unset, .unset] [(.ref a0)])) (fun t kt => ?_) ?_
  · show Steps p.tables e below (s₁.setTop (mkF m 0 #[.val (.ref a0), .val (.long q1), .second, .unset, .unset, .unset] [])) t
    refine XS.iconst X0.here hx rfl (hb hby d2_0) ?_
    show Steps p.tables e below (s₁.setTop (mkF m 1 #[.val (.ref a0), .val (.long q1), .second, .unset, .unset, .unset] [(.int (0 : Int32))])) t
    refine XS.istoreN X0.here hx rfl (hb hby d2_1) rfl (l' := #[.val (.ref a0), .val (.long q1), .second, .val (.int (0 : Int32)), .unset, .unset]) rfl ?_
    show Steps p.tables e below (s₁.setTop (mkF m 2 #[.val (.ref a0), .val (.long q1), .second, .val (.int (0 : Int32)), .unset, .unset] [])) t
    refine XS.aloadN X0.here hx rfl (hb hby d2_2) rfl rfl ?_
    show Steps p.tables e below (s₁.setTop (mkF m 3 #[.val (.ref a0), .val (.long q1), .second, .val (.int (0 : Int32)), .unset, .unset] [(.ref a0)])) t
    exact kt
  have st1 := own_length X0 hx hZ e0 Ar_a0 (z := z) hz (g := (mkF m 3 #[.val (.ref a0), .val (.long q1), .second, .val (.int (0 : Int32)), .unset, .unset] [(.ref a0)])) rfl rfl (hb hby d2_3)
  refine own_go st1 ?_
  refine own_go (T' := s₁) (f' := (mkF m 6 #[.val (.ref a0), .val (.long q1), .second, .val (.int (0 : Int32)), .val (.int z), .unset] [])) (fun t kt => ?_) ?_
  · show Steps p.tables e below (s₁.setTop (mkF m 4 #[.val (.ref a0), .val (.long q1), .second, .val (.int (0 : Int32)), .unset, .unset] [(.int z)])) t
    refine XS.istore X0.here hx rfl (hb hby d2_4) rfl (l' := #[.val (.ref a0), .val (.long q1), .second, .val (.int (0 : Int32)), .val (.int z), .unset]) rfl ?_
    show Steps p.tables e below (s₁.setTop (mkF m 6 #[.val (.ref a0), .val (.long q1), .second, .val (.int (0 : Int32)), .val (.int z), .unset] [])) t
    exact kt
  have J6 : ∀ (k : Nat) (Tj2 : State) (lj2 : List Loc) (lo : Int32) (hi : Int32) (sj : Slot) (Xj2 : Stand p l e ({ frames := 0, cells := 0, slots := 0, locals := 0 } : Room) s m #[(.ref a0), (.long q1)] below meth c Tj2 lj2 0 0) (Nj2 : lj2 = []) (ej2 : Tj2.heap = h0) (hI : own_inv n f q1 lo hi) (hk : k = (hi.toInt - lo.toInt).toNat) (hsj : One sj), own_End p e below P Tj2 (mkF m 6 #[.val (.ref a0), .val (.long q1), .second, .val (.int lo), .val (.int hi), sj] []) := by
    intro k
    induction k using Nat.strongRecOn with
    | _ k IHJ6 =>
    intro Tj2 lj2 lo hi sj Xj2 Nj2 ej2 hI hk hsj
    subst Nj2
    refine own_go (T' := Tj2) (f' := (mkF m 9 #[.val (.ref a0), .val (.long q1), .second, .val (.int lo), .val (.int hi), sj] [(.int hi), (.int lo)])) (fun t kt => ?_) ?_
    · show Steps p.tables e below (Tj2.setTop (mkF m 6 #[.val (.ref a0), .val (.long q1), .second, .val (.int lo), .val (.int hi), sj] [])) t
      refine XS.iloadN Xj2.here hx rfl (hb hby d2_6) rfl ?_
      show Steps p.tables e below (Tj2.setTop (mkF m 7 #[.val (.ref a0), .val (.long q1), .second, .val (.int lo), .val (.int hi), sj] [(.int lo)])) t
      refine XS.iload Xj2.here hx rfl (hb hby d2_7) rfl ?_
      show Steps p.tables e below (Tj2.setTop (mkF m 9 #[.val (.ref a0), .val (.long q1), .second, .val (.int lo), .val (.int hi), sj] [(.int hi), (.int lo)])) t
      exact kt
    by_cases hc9_3 : lo < hi
    · refine own_go (T' := Tj2) (f' := (mkF m 18 #[.val (.ref a0), .val (.long q1), .second, .val (.int lo), .val (.int hi), sj] [(.int (((lo + hi).toUInt32 >>> ((1 : Int32) &&& 31).toUInt32).toInt32))])) (fun t kt => ?_) ?_
      · show Steps p.tables e below (Tj2.setTop (mkF m 9 #[.val (.ref a0), .val (.long q1), .second, .val (.int lo), .val (.int hi), sj] [(.int hi), (.int lo)])) t
        refine XS.icmpNo Xj2.here hx rfl (hb hby d2_9) rfl (tlt hc9_3).2.1 ?_
        show Steps p.tables e below (Tj2.setTop (mkF m 12 #[.val (.ref a0), .val (.long q1), .second, .val (.int lo), .val (.int hi), sj] [])) t
        refine XS.iloadN Xj2.here hx rfl (hb hby d2_12) rfl ?_
        show Steps p.tables e below (Tj2.setTop (mkF m 13 #[.val (.ref a0), .val (.long q1), .second, .val (.int lo), .val (.int hi), sj] [(.int lo)])) t
        refine XS.iload Xj2.here hx rfl (hb hby d2_13) rfl ?_
        show Steps p.tables e below (Tj2.setTop (mkF m 15 #[.val (.ref a0), .val (.long q1), .second, .val (.int lo), .val (.int hi), sj] [(.int hi), (.int lo)])) t
        refine XS.iadd Xj2.here hx rfl (hb hby d2_15) rfl ?_
        show Steps p.tables e below (Tj2.setTop (mkF m 16 #[.val (.ref a0), .val (.long q1), .second, .val (.int lo), .val (.int hi), sj] [(.int (lo + hi))])) t
        refine XS.iconst Xj2.here hx rfl (hb hby d2_16) ?_
        show Steps p.tables e below (Tj2.setTop (mkF m 17 #[.val (.ref a0), .val (.long q1), .second, .val (.int lo), .val (.int hi), sj] [(.int (1 : Int32)), (.int (lo + hi))])) t
        refine XS.iushr Xj2.here hx rfl (hb hby d2_17) rfl ?_
        show Steps p.tables e below (Tj2.setTop (mkF m 18 #[.val (.ref a0), .val (.long q1), .second, .val (.int lo), .val (.int hi), sj] [(.int (((lo + hi).toUInt32 >>> ((1 : Int32) &&& 31).toUInt32).toInt32))])) t
        exact kt
      obtain ⟨mid, hmid⟩ : ∃ z, z = (((lo + hi).toUInt32 >>> ((1 : Int32) &&& 31).toUInt32).toInt32) := ⟨_, rfl⟩
      rw [← hmid]
      refine own_go (T' := Tj2) (f' := (mkF m 26 #[.val (.ref a0), .val (.long q1), .second, .val (.int lo), .val (.int hi), .val (.int mid)] [(.int (lcmpW (f mid.toInt.toNat) q1))])) (fun t kt => ?_) ?_
      · show Steps p.tables e below (Tj2.setTop (mkF m 18 #[.val (.ref a0), .val (.long q1), .second, .val (.int lo), .val (.int hi), sj] [(.int mid)])) t
        refine XS.istoreS Xj2.here hx rfl (hb hby d2_18) rfl rfl hsj ?_
        show Steps p.tables e below (Tj2.setTop (mkF m 20 #[.val (.ref a0), .val (.long q1), .second, .val (.int lo), .val (.int hi), .val (.int mid)] [])) t
        refine XS.aloadN Xj2.here hx rfl (hb hby d2_20) rfl rfl ?_
        show Steps p.tables e below (Tj2.setTop (mkF m 21 #[.val (.ref a0), .val (.long q1), .second, .val (.int lo), .val (.int hi), .val (.int mid)] [(.ref a0)])) t
        refine XS.iload Xj2.here hx rfl (hb hby d2_21) rfl ?_
        show Steps p.tables e below (Tj2.setTop (mkF m 23 #[.val (.ref a0), .val (.long q1), .second, .val (.int lo), .val (.int hi), .val (.int mid)] [(.int mid), (.ref a0)])) t
        refine own_laload Xj2 hx hZ ej2 Ar_a0 (i := mid.toInt.toNat) (own_inv1 hI hn hc9_3 hmid).1 (own_inv1 hI hn hc9_3 hmid).2.1 (g := (mkF m 23 #[.val (.ref a0), .val (.long q1), .second, .val (.int lo), .val (.int hi), .val (.int mid)] [(.int mid), (.ref a0)])) rfl rfl (hb hby d2_23) _ ?_
        show Steps p.tables e below (Tj2.setTop (mkF m 24 #[.val (.ref a0), .val (.long q1), .second, .val (.int lo), .val (.int hi), .val (.int mid)] [(.long (f mid.toInt.toNat))])) t
        refine XS.lloadN Xj2.here hx rfl (hb hby d2_24) rfl ?_
        show Steps p.tables e below (Tj2.setTop (mkF m 25 #[.val (.ref a0), .val (.long q1), .second, .val (.int lo), .val (.int hi), .val (.int mid)] [(.long q1), (.long (f mid.toInt.toNat))])) t
        refine XS.lcmp Xj2.here hx rfl (hb hby d2_25) rfl ?_
        show Steps p.tables e below (Tj2.setTop (mkF m 26 #[.val (.ref a0), .val (.long q1), .second, .val (.int lo), .val (.int hi), .val (.int mid)] [(.int (lcmpW (f mid.toInt.toNat) q1))])) t
        exact kt
      by_cases hc26_4 : (f mid.toInt.toNat) < q1
      · refine own_go (T' := Tj2) (f' := (mkF m 6 #[.val (.ref a0), .val (.long q1), .second, .val (.int (mid + (1 : Int32))), .val (.int hi), .val (.int mid)] [])) (fun t kt => ?_) ?_
        · show Steps p.tables e below (Tj2.setTop (mkF m 26 #[.val (.ref a0), .val (.long q1), .second, .val (.int lo), .val (.int hi), .val (.int mid)] [(.int (lcmpW (f mid.toInt.toNat) q1))])) t
          refine XS.ifNo Xj2.here hx rfl (hb hby d2_26) rfl (own_lN_ge hc26_4) ?_
          show Steps p.tables e below (Tj2.setTop (mkF m 29 #[.val (.ref a0), .val (.long q1), .second, .val (.int lo), .val (.int hi), .val (.int mid)] [])) t
          refine XS.iload Xj2.here hx rfl (hb hby d2_29) rfl ?_
          show Steps p.tables e below (Tj2.setTop (mkF m 31 #[.val (.ref a0), .val (.long q1), .second, .val (.int lo), .val (.int hi), .val (.int mid)] [(.int mid)])) t
          refine XS.iconst Xj2.here hx rfl (hb hby d2_31) ?_
          show Steps p.tables e below (Tj2.setTop (mkF m 32 #[.val (.ref a0), .val (.long q1), .second, .val (.int lo), .val (.int hi), .val (.int mid)] [(.int (1 : Int32)), (.int mid)])) t
          refine XS.iadd Xj2.here hx rfl (hb hby d2_32) rfl ?_
          show Steps p.tables e below (Tj2.setTop (mkF m 33 #[.val (.ref a0), .val (.long q1), .second, .val (.int lo), .val (.int hi), .val (.int mid)] [(.int (mid + (1 : Int32)))])) t
          refine XS.istoreN Xj2.here hx rfl (hb hby d2_33) rfl (l' := #[.val (.ref a0), .val (.long q1), .second, .val (.int (mid + (1 : Int32))), .val (.int hi), .val (.int mid)]) rfl ?_
          show Steps p.tables e below (Tj2.setTop (mkF m 34 #[.val (.ref a0), .val (.long q1), .second, .val (.int (mid + (1 : Int32))), .val (.int hi), .val (.int mid)] [])) t
          refine XS.goto Xj2.here hx rfl (pc0 := 34) (pc' := 41) rfl (hb hby d2_34) (by decide) (by decide) ?_
          show Steps p.tables e below (Tj2.setTop (mkF m 41 #[.val (.ref a0), .val (.long q1), .second, .val (.int (mid + (1 : Int32))), .val (.int hi), .val (.int mid)] [])) t
          refine XS.goto Xj2.here hx rfl (pc0 := 41) (pc' := 6) rfl (hb hby d2_41) (by decide) (by decide) ?_
          show Steps p.tables e below (Tj2.setTop (mkF m 6 #[.val (.ref a0), .val (.long q1), .second, .val (.int (mid + (1 : Int32))), .val (.int hi), .val (.int mid)] [])) t
          exact kt
        exact IHJ6 (hi.toInt - (mid + (1 : Int32)).toInt).toNat (by rw [hk]; exact (own_inv2 hI hn hs hc9_3 hmid hc26_4).2) Tj2 _ (mid + (1 : Int32)) hi (.val (.int mid)) Xj2 rfl ej2 (own_inv2 hI hn hs hc9_3 hmid hc26_4).1 rfl (One.val rfl)
      · refine own_go (T' := Tj2) (f' := (mkF m 6 #[.val (.ref a0), .val (.long q1), .second, .val (.int lo), .val (.int mid), .val (.int mid)] [])) (fun t kt => ?_) ?_
        · show Steps p.tables e below (Tj2.setTop (mkF m 26 #[.val (.ref a0), .val (.long q1), .second, .val (.int lo), .val (.int hi), .val (.int mid)] [(.int (lcmpW (f mid.toInt.toNat) q1))])) t
          refine XS.ifYes Xj2.here hx rfl (pc0 := 26) (pc' := 37) rfl (hb hby d2_26) rfl (own_lY_ge hc26_4) (by decide) (by decide) ?_
          show Steps p.tables e below (Tj2.setTop (mkF m 37 #[.val (.ref a0), .val (.long q1), .second, .val (.int lo), .val (.int hi), .val (.int mid)] [])) t
          refine XS.iload Xj2.here hx rfl (hb hby d2_37) rfl ?_
          show Steps p.tables e below (Tj2.setTop (mkF m 39 #[.val (.ref a0), .val (.long q1), .second, .val (.int lo), .val (.int hi), .val (.int mid)] [(.int mid)])) t
          refine XS.istore Xj2.here hx rfl (hb hby d2_39) rfl (l' := #[.val (.ref a0), .val (.long q1), .second, .val (.int lo), .val (.int mid), .val (.int mid)]) rfl ?_
          show Steps p.tables e below (Tj2.setTop (mkF m 41 #[.val (.ref a0), .val (.long q1), .second, .val (.int lo), .val (.int mid), .val (.int mid)] [])) t
          refine XS.goto Xj2.here hx rfl (pc0 := 41) (pc' := 6) rfl (hb hby d2_41) (by decide) (by decide) ?_
          show Steps p.tables e below (Tj2.setTop (mkF m 6 #[.val (.ref a0), .val (.long q1), .second, .val (.int lo), .val (.int mid), .val (.int mid)] [])) t
          exact kt
        exact IHJ6 (mid.toInt - lo.toInt).toNat (by rw [hk]; exact (own_inv3 hI hn hs hc9_3 hmid hc26_4).2) Tj2 _ lo mid (.val (.int mid)) Xj2 rfl ej2 (own_inv3 hI hn hs hc9_3 hmid hc26_4).1 rfl (One.val rfl)
    · refine own_go (T' := Tj2) (f' := (mkF m 45 #[.val (.ref a0), .val (.long q1), .second, .val (.int lo), .val (.int hi), sj] [(.int lo)])) (fun t kt => ?_) ?_
      · show Steps p.tables e below (Tj2.setTop (mkF m 9 #[.val (.ref a0), .val (.long q1), .second, .val (.int lo), .val (.int hi), sj] [(.int hi), (.int lo)])) t
        refine XS.icmpYes Xj2.here hx rfl (pc0 := 9) (pc' := 44) rfl (hb hby d2_9) rfl (flt hc9_3).2.1 (by decide) (by decide) ?_
        show Steps p.tables e below (Tj2.setTop (mkF m 44 #[.val (.ref a0), .val (.long q1), .second, .val (.int lo), .val (.int hi), sj] [])) t
        refine XS.iloadN Xj2.here hx rfl (hb hby d2_44) rfl ?_
        show Steps p.tables e below (Tj2.setTop (mkF m 45 #[.val (.ref a0), .val (.long q1), .second, .val (.int lo), .val (.int hi), sj] [(.int lo)])) t
        exact kt
      exact own_retI Xj2 hP hx hlk ej2 hret (hb hby d2_45) (by decide) (by decide) ⟨(congrArg (fun w => some (Value.int w)) (own_inv4 hI hc9_3)), rfl, rfl⟩
  exact J6 (z.toInt - (0 : Int32).toInt).toNat s₁ _ (0 : Int32) z (.unset) X0 rfl e0 (own_inv0 hz) rfl One.u
theorem pd_0 : parseMethodDescriptor "([JII)V" = some ⟨[(.array .long), .int, .int], none⟩ := by decide +kernel
theorem pd_1 : parseMethodDescriptor "([JJ)I" = some ⟨[(.array .long), .long], some .int⟩ := by decide +kernel
set_option maxRecDepth 65536 in
set_option maxHeartbeats 4000000 in
theorem ef_0 (m : MethodId) (q0 : Int64) (q1 : Int64) (q2 : Int64) (q3 : Int64) (q4 : Int64) (p5 : Int32) : entryFrame m #[(.long q0), (.long q1), (.long q2), (.long q3), (.long q4), (.int p5)] maxLocals = mkF m 0 #[.val (.long q0), .second, .val (.long q1), .second, .val (.long q2), .second, .val (.long q3), .second, .val (.long q4), .second, .val (.int p5), .unset, .unset, .unset, .unset, .unset, .unset, .unset] [] := by first | (simp [entryFrame, mkF, argsToLocals, Value.category, maxLocals]; done) | rfl
set_option maxRecDepth 65536 in
set_option maxHeartbeats 40000000 in
theorem rm0 (l : Launch) (Z : State) (aw : Array Value) (hw : ∀ d ∈ tables_1, d.before aw Z = true) {ws : List Jvm.Cond} (q0 : Int64) (q1 : Int64) (q2 : Int64) (q3 : Int64) (q4 : Int64) (p5 : Int32)  (h0 : Heap) (n0 : Nat) (Z0 : n0 ≤ h0.size)  :
    own_Met l Z x code maxLocals ret ws room_1 #[(.long q0), (.long q1), (.long q2), (.long q3), (.long q4), (.int p5)] h0 (fun v h L => v = some (.int 1) ∧ Fr n0 L) := by
  refine own_body (plainFor_of_name pn_0) ?_
  intro p e s m below meth c s₁ hx hZ hby hml hown hnm hret hlk X0 e0
  replace hown : s.vm.findClass "com/example/humble_grid/humblegrid/PackedPairsCountBelowPinLaw" = some m.cls := hown
  replace hml : c.maxLocals = 18 := hml
  have N0 := Fr.nil n0
  have K0 := Keep.refl h0 []
  obtain ⟨P, hP⟩ : ∃ P, P = own_P below s (fun v h L => v = some (.int 1) ∧ Fr n0 L) room_1.cells room_1.slots := ⟨_, rfl⟩
  rw [← hP]
  refine own_cast (ef_0 m q0 q1 q2 q3 q4 p5) ?_
  refine own_go (T' := s₁) (f' := (mkF m 1 #[.val (.long q0), .second, .val (.long q1), .second, .val (.long q2), .second, .val (.long q3), .second, .val (.long q4), .second, .val (.int p5), .unset, .unset, .unset, .unset, .unset, .unset, .unset] [(.int (4 : Int32))])) (fun t kt => ?_) ?_
  · show Steps p.tables e below (s₁.setTop (mkF m 0 #[.val (.long q0), .second, .val (.long q1), .second, .val (.long q2), .second, .val (.long q3), .second, .val (.long q4), .second, .val (.int p5), .unset, .unset, .unset, .unset, .unset, .unset, .unset] [])) t
    refine XS.iconst X0.here hx rfl (hb hby at_0) ?_
    show Steps p.tables e below (s₁.setTop (mkF m 1 #[.val (.long q0), .second, .val (.long q1), .second, .val (.long q2), .second, .val (.long q3), .second, .val (.long q4), .second, .val (.int p5), .unset, .unset, .unset, .unset, .unset, .unset, .unset] [(.int (4 : Int32))])) t
    exact kt
  obtain ⟨T1, h1, k1, X1, e1, E1, A1, st1⟩ := newP X0 hx hZ (hw _ (List.mem_of_getElem? (i := 0) rfl)) e0 (g := (mkF m 1 #[.val (.long q0), .second, .val (.long q1), .second, .val (.long q2), .second, .val (.long q3), .second, .val (.long q4), .second, .val (.int p5), .unset, .unset, .unset, .unset, .unset, .unset, .unset] [(.int (4 : Int32))])) rfl (hb hby at_1) rfl (by decide) (cap := 4) (by decide) (by decide) (by decide) (by decide)
  obtain ⟨b1, y1⟩ : ∃ z, z = h0.size := ⟨_, rfl⟩
  rw [← y1] at A1 st1
  have g_b1 : n0 ≤ b1 := Nat.le_trans Z0 (Nat.le_of_eq y1.symm)
  have sz_b1 : h0.size ≤ b1 := Nat.le_trans K0.1 (Nat.le_of_eq y1.symm)
  have ZE1 : n0 ≤ h1.size := Nat.le_trans Z0 E1.1
  have KKE1 := K0.ext E1
  refine own_go st1 ?_
  have Ar_b1 : own_AJ Z h1 b1 4 (fun _ => (0 : Int64)) := own_A_new A1 (by decide)
  refine own_go (T' := T1) (f' := (mkF m 6 #[.val (.long q0), .second, .val (.long q1), .second, .val (.long q2), .second, .val (.long q3), .second, .val (.long q4), .second, .val (.int p5), .unset, .unset, .unset, .unset, .unset, .unset, .unset] [(.long q0), (.int (0 : Int32)), (.ref b1), (.ref b1)])) (fun t kt => ?_) ?_
  · show Steps p.tables e below (T1.setTop (mkF m 3 #[.val (.long q0), .second, .val (.long q1), .second, .val (.long q2), .second, .val (.long q3), .second, .val (.long q4), .second, .val (.int p5), .unset, .unset, .unset, .unset, .unset, .unset, .unset] [(.ref b1)])) t
    refine XS.dup X1.here hx rfl (hb hby at_3) rfl rfl ?_
    show Steps p.tables e below (T1.setTop (mkF m 4 #[.val (.long q0), .second, .val (.long q1), .second, .val (.long q2), .second, .val (.long q3), .second, .val (.long q4), .second, .val (.int p5), .unset, .unset, .unset, .unset, .unset, .unset, .unset] [(.ref b1), (.ref b1)])) t
    refine XS.iconst X1.here hx rfl (hb hby at_4) ?_
    show Steps p.tables e below (T1.setTop (mkF m 5 #[.val (.long q0), .second, .val (.long q1), .second, .val (.long q2), .second, .val (.long q3), .second, .val (.long q4), .second, .val (.int p5), .unset, .unset, .unset, .unset, .unset, .unset, .unset] [(.int (0 : Int32)), (.ref b1), (.ref b1)])) t
    refine XS.lloadN X1.here hx rfl (hb hby at_5) rfl ?_
    show Steps p.tables e below (T1.setTop (mkF m 6 #[.val (.long q0), .second, .val (.long q1), .second, .val (.long q2), .second, .val (.long q3), .second, .val (.long q4), .second, .val (.int p5), .unset, .unset, .unset, .unset, .unset, .unset, .unset] [(.long q0), (.int (0 : Int32)), (.ref b1), (.ref b1)])) t
    exact kt
  obtain ⟨T2, h2, X2, e2, W2, B2, st2⟩ := own_lastore X1 hx hZ e1 Ar_b1 (i := 0) (by decide) (by decide) (g := (mkF m 6 #[.val (.long q0), .second, .val (.long q1), .second, .val (.long q2), .second, .val (.long q3), .second, .val (.long q4), .second, .val (.int p5), .unset, .unset, .unset, .unset, .unset, .unset, .unset] [(.long q0), (.int (0 : Int32)), (.ref b1), (.ref b1)])) rfl rfl (hb hby at_6)
  refine own_go st2 ?_
  have N2 := Fr.snoc X2 N0 g_b1
  have Z2 : n0 ≤ h2.size := Nat.le_trans ZE1 (Keep.of_wr W2).1
  have KK2 := KKE1.wr W2 (Or.inr sz_b1)
  refine own_go (T' := T2) (f' := (mkF m 10 #[.val (.long q0), .second, .val (.long q1), .second, .val (.long q2), .second, .val (.long q3), .second, .val (.long q4), .second, .val (.int p5), .unset, .unset, .unset, .unset, .unset, .unset, .unset] [(.long q1), (.int (1 : Int32)), (.ref b1), (.ref b1)])) (fun t kt => ?_) ?_
  · show Steps p.tables e below (T2.setTop (mkF m 7 #[.val (.long q0), .second, .val (.long q1), .second, .val (.long q2), .second, .val (.long q3), .second, .val (.long q4), .second, .val (.int p5), .unset, .unset, .unset, .unset, .unset, .unset, .unset] [(.ref b1)])) t
    refine XS.dup X2.here hx rfl (hb hby at_7) rfl rfl ?_
    show Steps p.tables e below (T2.setTop (mkF m 8 #[.val (.long q0), .second, .val (.long q1), .second, .val (.long q2), .second, .val (.long q3), .second, .val (.long q4), .second, .val (.int p5), .unset, .unset, .unset, .unset, .unset, .unset, .unset] [(.ref b1), (.ref b1)])) t
    refine XS.iconst X2.here hx rfl (hb hby at_8) ?_
    show Steps p.tables e below (T2.setTop (mkF m 9 #[.val (.long q0), .second, .val (.long q1), .second, .val (.long q2), .second, .val (.long q3), .second, .val (.long q4), .second, .val (.int p5), .unset, .unset, .unset, .unset, .unset, .unset, .unset] [(.int (1 : Int32)), (.ref b1), (.ref b1)])) t
    refine XS.lloadN X2.here hx rfl (hb hby at_9) rfl ?_
    show Steps p.tables e below (T2.setTop (mkF m 10 #[.val (.long q0), .second, .val (.long q1), .second, .val (.long q2), .second, .val (.long q3), .second, .val (.long q4), .second, .val (.int p5), .unset, .unset, .unset, .unset, .unset, .unset, .unset] [(.long q1), (.int (1 : Int32)), (.ref b1), (.ref b1)])) t
    exact kt
  obtain ⟨T3, h3, X3, e3, W3, B3, st3⟩ := own_lastore X2 hx hZ e2 B2 (i := 1) (by decide) (by decide) (g := (mkF m 10 #[.val (.long q0), .second, .val (.long q1), .second, .val (.long q2), .second, .val (.long q3), .second, .val (.long q4), .second, .val (.int p5), .unset, .unset, .unset, .unset, .unset, .unset, .unset] [(.long q1), (.int (1 : Int32)), (.ref b1), (.ref b1)])) rfl rfl (hb hby at_10)
  refine own_go st3 ?_
  have N3 := Fr.snoc X3 N2 g_b1
  have Z3 : n0 ≤ h3.size := Nat.le_trans Z2 (Keep.of_wr W3).1
  have KK3 := KK2.wr W3 (Or.inr sz_b1)
  refine own_go (T' := T3) (f' := (mkF m 15 #[.val (.long q0), .second, .val (.long q1), .second, .val (.long q2), .second, .val (.long q3), .second, .val (.long q4), .second, .val (.int p5), .unset, .unset, .unset, .unset, .unset, .unset, .unset] [(.long q2), (.int (2 : Int32)), (.ref b1), (.ref b1)])) (fun t kt => ?_) ?_
  · show Steps p.tables e below (T3.setTop (mkF m 11 #[.val (.long q0), .second, .val (.long q1), .second, .val (.long q2), .second, .val (.long q3), .second, .val (.long q4), .second, .val (.int p5), .unset, .unset, .unset, .unset, .unset, .unset, .unset] [(.ref b1)])) t
    refine XS.dup X3.here hx rfl (hb hby at_11) rfl rfl ?_
    show Steps p.tables e below (T3.setTop (mkF m 12 #[.val (.long q0), .second, .val (.long q1), .second, .val (.long q2), .second, .val (.long q3), .second, .val (.long q4), .second, .val (.int p5), .unset, .unset, .unset, .unset, .unset, .unset, .unset] [(.ref b1), (.ref b1)])) t
    refine XS.iconst X3.here hx rfl (hb hby at_12) ?_
    show Steps p.tables e below (T3.setTop (mkF m 13 #[.val (.long q0), .second, .val (.long q1), .second, .val (.long q2), .second, .val (.long q3), .second, .val (.long q4), .second, .val (.int p5), .unset, .unset, .unset, .unset, .unset, .unset, .unset] [(.int (2 : Int32)), (.ref b1), (.ref b1)])) t
    refine XS.lload X3.here hx rfl (hb hby at_13) rfl ?_
    show Steps p.tables e below (T3.setTop (mkF m 15 #[.val (.long q0), .second, .val (.long q1), .second, .val (.long q2), .second, .val (.long q3), .second, .val (.long q4), .second, .val (.int p5), .unset, .unset, .unset, .unset, .unset, .unset, .unset] [(.long q2), (.int (2 : Int32)), (.ref b1), (.ref b1)])) t
    exact kt
  obtain ⟨T4, h4, X4, e4, W4, B4, st4⟩ := own_lastore X3 hx hZ e3 B3 (i := 2) (by decide) (by decide) (g := (mkF m 15 #[.val (.long q0), .second, .val (.long q1), .second, .val (.long q2), .second, .val (.long q3), .second, .val (.long q4), .second, .val (.int p5), .unset, .unset, .unset, .unset, .unset, .unset, .unset] [(.long q2), (.int (2 : Int32)), (.ref b1), (.ref b1)])) rfl rfl (hb hby at_15)
  refine own_go st4 ?_
  have N4 := Fr.snoc X4 N3 g_b1
  have Z4 : n0 ≤ h4.size := Nat.le_trans Z3 (Keep.of_wr W4).1
  have KK4 := KK3.wr W4 (Or.inr sz_b1)
  refine own_go (T' := T4) (f' := (mkF m 20 #[.val (.long q0), .second, .val (.long q1), .second, .val (.long q2), .second, .val (.long q3), .second, .val (.long q4), .second, .val (.int p5), .unset, .unset, .unset, .unset, .unset, .unset, .unset] [(.long q3), (.int (3 : Int32)), (.ref b1), (.ref b1)])) (fun t kt => ?_) ?_
  · show Steps p.tables e below (T4.setTop (mkF m 16 #[.val (.long q0), .second, .val (.long q1), .second, .val (.long q2), .second, .val (.long q3), .second, .val (.long q4), .second, .val (.int p5), .unset, .unset, .unset, .unset, .unset, .unset, .unset] [(.ref b1)])) t
    refine XS.dup X4.here hx rfl (hb hby at_16) rfl rfl ?_
    show Steps p.tables e below (T4.setTop (mkF m 17 #[.val (.long q0), .second, .val (.long q1), .second, .val (.long q2), .second, .val (.long q3), .second, .val (.long q4), .second, .val (.int p5), .unset, .unset, .unset, .unset, .unset, .unset, .unset] [(.ref b1), (.ref b1)])) t
    refine XS.iconst X4.here hx rfl (hb hby at_17) ?_
    show Steps p.tables e below (T4.setTop (mkF m 18 #[.val (.long q0), .second, .val (.long q1), .second, .val (.long q2), .second, .val (.long q3), .second, .val (.long q4), .second, .val (.int p5), .unset, .unset, .unset, .unset, .unset, .unset, .unset] [(.int (3 : Int32)), (.ref b1), (.ref b1)])) t
    refine XS.lload X4.here hx rfl (hb hby at_18) rfl ?_
    show Steps p.tables e below (T4.setTop (mkF m 20 #[.val (.long q0), .second, .val (.long q1), .second, .val (.long q2), .second, .val (.long q3), .second, .val (.long q4), .second, .val (.int p5), .unset, .unset, .unset, .unset, .unset, .unset, .unset] [(.long q3), (.int (3 : Int32)), (.ref b1), (.ref b1)])) t
    exact kt
  obtain ⟨T5, h5, X5, e5, W5, B5, st5⟩ := own_lastore X4 hx hZ e4 B4 (i := 3) (by decide) (by decide) (g := (mkF m 20 #[.val (.long q0), .second, .val (.long q1), .second, .val (.long q2), .second, .val (.long q3), .second, .val (.long q4), .second, .val (.int p5), .unset, .unset, .unset, .unset, .unset, .unset, .unset] [(.long q3), (.int (3 : Int32)), (.ref b1), (.ref b1)])) rfl rfl (hb hby at_20)
  refine own_go st5 ?_
  have N5 := Fr.snoc X5 N4 g_b1
  have Z5 : n0 ≤ h5.size := Nat.le_trans Z4 (Keep.of_wr W5).1
  have KK5 := KK4.wr W5 (Or.inr sz_b1)
  obtain ⟨t0, ht0⟩ : ∃ z, z = (own_set (own_set (own_set (own_set (fun _ => (0 : Int64)) 0 q0) 1 q1) 2 q2) 3 q3) := ⟨_, rfl⟩
  rw [← ht0] at B5
  refine own_go (T' := T5) (f' := (mkF m 27 #[.val (.long q0), .second, .val (.long q1), .second, .val (.long q2), .second, .val (.long q3), .second, .val (.long q4), .second, .val (.int p5), .val (.ref b1), .unset, .unset, .unset, .unset, .unset, .unset] [(.int (1 : Int32)), (.int (0 : Int32)), (.ref b1)])) (fun t kt => ?_) ?_
  · show Steps p.tables e below (T5.setTop (mkF m 21 #[.val (.long q0), .second, .val (.long q1), .second, .val (.long q2), .second, .val (.long q3), .second, .val (.long q4), .second, .val (.int p5), .unset, .unset, .unset, .unset, .unset, .unset, .unset] [(.ref b1)])) t
    refine XS.astore X5.here hx rfl (hb hby at_21) rfl rfl (l' := #[.val (.long q0), .second, .val (.long q1), .second, .val (.long q2), .second, .val (.long q3), .second, .val (.long q4), .second, .val (.int p5), .val (.ref b1), .unset, .unset, .unset, .unset, .unset, .unset]) rfl ?_
    show Steps p.tables e below (T5.setTop (mkF m 23 #[.val (.long q0), .second, .val (.long q1), .second, .val (.long q2), .second, .val (.long q3), .second, .val (.long q4), .second, .val (.int p5), .val (.ref b1), .unset, .unset, .unset, .unset, .unset, .unset] [])) t
    refine XS.aload X5.here hx rfl (hb hby at_23) rfl rfl ?_
    show Steps p.tables e below (T5.setTop (mkF m 25 #[.val (.long q0), .second, .val (.long q1), .second, .val (.long q2), .second, .val (.long q3), .second, .val (.long q4), .second, .val (.int p5), .val (.ref b1), .unset, .unset, .unset, .unset, .unset, .unset] [(.ref b1)])) t
    refine XS.iconst X5.here hx rfl (hb hby at_25) ?_
    show Steps p.tables e below (T5.setTop (mkF m 26 #[.val (.long q0), .second, .val (.long q1), .second, .val (.long q2), .second, .val (.long q3), .second, .val (.long q4), .second, .val (.int p5), .val (.ref b1), .unset, .unset, .unset, .unset, .unset, .unset] [(.int (0 : Int32)), (.ref b1)])) t
    refine XS.iconst X5.here hx rfl (hb hby at_26) ?_
    show Steps p.tables e below (T5.setTop (mkF m 27 #[.val (.long q0), .second, .val (.long q1), .second, .val (.long q2), .second, .val (.long q3), .second, .val (.long q4), .second, .val (.int p5), .val (.ref b1), .unset, .unset, .unset, .unset, .unset, .unset] [(.int (1 : Int32)), (.int (0 : Int32)), (.ref b1)])) t
    exact kt
  refine own_callS X5 hx hZ hown e5 (hw _ (List.mem_of_getElem? (i := 1) rfl)) (hw _ (List.mem_of_getElem? (i := 2) rfl)) (hw _ (List.mem_of_getElem? (i := 3) rfl)) (hw _ (List.mem_of_getElem? (i := 4) rfl)) (by decide) (rm1 l Z aw hw b1 (0 : Int32) (1 : Int32) t0 0 1 h5 n0 Z5 B5 g_b1 (by decide) (by decide) (by decide) (by decide) (by decide)) (g := (mkF m 27 #[.val (.long q0), .second, .val (.long q1), .second, .val (.long q2), .second, .val (.long q3), .second, .val (.long q4), .second, .val (.int p5), .val (.ref b1), .unset, .unset, .unset, .unset, .unset, .unset] [(.int (1 : Int32)), (.int (0 : Int32)), (.ref b1)])) rfl (by rw [hml]; rfl) (argsL := [(.ref b1), (.int (0 : Int32)), (.int (1 : Int32))]) (rest := []) (lenOf pd_0 rfl) rfl rfl (W := 0) (by show 2 * 0 + _ ≤ _; exact Nat.le_of_eq rfl) (hb hby at_27) (by decide) (by decide) (by decide) (by decide) ?_
  rintro _ T6 L6 X6 ⟨rfl, Nq6, Kq6, Pq6_0⟩
  have N6 := Fr.app N5 Nq6
  have ZKq6 : n0 ≤ T6.heap.size := Nat.le_trans Z5 Kq6.1
  have KKKq6 := KK5.trans Kq6 ((allS (Or.inr sz_b1) all0))
  obtain ⟨t1, ht1⟩ : ∃ z, z = (own_cs t0 0 1) := ⟨_, rfl⟩
  rw [← ht1] at Pq6_0
  refine own_go (T' := T6) (f' := (mkF m 34 #[.val (.long q0), .second, .val (.long q1), .second, .val (.long q2), .second, .val (.long q3), .second, .val (.long q4), .second, .val (.int p5), .val (.ref b1), .unset, .unset, .unset, .unset, .unset, .unset] [(.int (3 : Int32)), (.int (2 : Int32)), (.ref b1)])) (fun t kt => ?_) ?_
  · show Steps p.tables e below (T6.setTop (mkF m 30 #[.val (.long q0), .second, .val (.long q1), .second, .val (.long q2), .second, .val (.long q3), .second, .val (.long q4), .second, .val (.int p5), .val (.ref b1), .unset, .unset, .unset, .unset, .unset, .unset] [])) t
    refine XS.aload X6.here hx rfl (hb hby at_30) rfl rfl ?_
    show Steps p.tables e below (T6.setTop (mkF m 32 #[.val (.long q0), .second, .val (.long q1), .second, .val (.long q2), .second, .val (.long q3), .second, .val (.long q4), .second, .val (.int p5), .val (.ref b1), .unset, .unset, .unset, .unset, .unset, .unset] [(.ref b1)])) t
    refine XS.iconst X6.here hx rfl (hb hby at_32) ?_
    show Steps p.tables e below (T6.setTop (mkF m 33 #[.val (.long q0), .second, .val (.long q1), .second, .val (.long q2), .second, .val (.long q3), .second, .val (.long q4), .second, .val (.int p5), .val (.ref b1), .unset, .unset, .unset, .unset, .unset, .unset] [(.int (2 : Int32)), (.ref b1)])) t
    refine XS.iconst X6.here hx rfl (hb hby at_33) ?_
    show Steps p.tables e below (T6.setTop (mkF m 34 #[.val (.long q0), .second, .val (.long q1), .second, .val (.long q2), .second, .val (.long q3), .second, .val (.long q4), .second, .val (.int p5), .val (.ref b1), .unset, .unset, .unset, .unset, .unset, .unset] [(.int (3 : Int32)), (.int (2 : Int32)), (.ref b1)])) t
    exact kt
  refine own_callS X6 hx hZ hown rfl (hw _ (List.mem_of_getElem? (i := 1) rfl)) (hw _ (List.mem_of_getElem? (i := 2) rfl)) (hw _ (List.mem_of_getElem? (i := 3) rfl)) (hw _ (List.mem_of_getElem? (i := 4) rfl)) (by decide) (rm1 l Z aw hw b1 (2 : Int32) (3 : Int32) t1 2 3 T6.heap n0 ZKq6 Pq6_0 g_b1 (by decide) (by decide) (by decide) (by decide) (by decide)) (g := (mkF m 34 #[.val (.long q0), .second, .val (.long q1), .second, .val (.long q2), .second, .val (.long q3), .second, .val (.long q4), .second, .val (.int p5), .val (.ref b1), .unset, .unset, .unset, .unset, .unset, .unset] [(.int (3 : Int32)), (.int (2 : Int32)), (.ref b1)])) rfl (by rw [hml]; rfl) (argsL := [(.ref b1), (.int (2 : Int32)), (.int (3 : Int32))]) (rest := []) (lenOf pd_0 rfl) rfl rfl (W := 0) (by show 2 * 0 + _ ≤ _; exact Nat.le_of_eq rfl) (hb hby at_34) (by decide) (by decide) (by decide) (by decide) ?_
  rintro _ T7 L7 X7 ⟨rfl, Nq7, Kq7, Pq7_0⟩
  have N7 := Fr.app N6 Nq7
  have ZKq7 : n0 ≤ T7.heap.size := Nat.le_trans ZKq6 Kq7.1
  have KKKq7 := KKKq6.trans Kq7 ((allS (Or.inr sz_b1) all0))
  obtain ⟨t2, ht2⟩ : ∃ z, z = (own_cs t1 2 3) := ⟨_, rfl⟩
  rw [← ht2] at Pq7_0
  refine own_go (T' := T7) (f' := (mkF m 41 #[.val (.long q0), .second, .val (.long q1), .second, .val (.long q2), .second, .val (.long q3), .second, .val (.long q4), .second, .val (.int p5), .val (.ref b1), .unset, .unset, .unset, .unset, .unset, .unset] [(.int (2 : Int32)), (.int (0 : Int32)), (.ref b1)])) (fun t kt => ?_) ?_
  · show Steps p.tables e below (T7.setTop (mkF m 37 #[.val (.long q0), .second, .val (.long q1), .second, .val (.long q2), .second, .val (.long q3), .second, .val (.long q4), .second, .val (.int p5), .val (.ref b1), .unset, .unset, .unset, .unset, .unset, .unset] [])) t
    refine XS.aload X7.here hx rfl (hb hby at_37) rfl rfl ?_
    show Steps p.tables e below (T7.setTop (mkF m 39 #[.val (.long q0), .second, .val (.long q1), .second, .val (.long q2), .second, .val (.long q3), .second, .val (.long q4), .second, .val (.int p5), .val (.ref b1), .unset, .unset, .unset, .unset, .unset, .unset] [(.ref b1)])) t
    refine XS.iconst X7.here hx rfl (hb hby at_39) ?_
    show Steps p.tables e below (T7.setTop (mkF m 40 #[.val (.long q0), .second, .val (.long q1), .second, .val (.long q2), .second, .val (.long q3), .second, .val (.long q4), .second, .val (.int p5), .val (.ref b1), .unset, .unset, .unset, .unset, .unset, .unset] [(.int (0 : Int32)), (.ref b1)])) t
    refine XS.iconst X7.here hx rfl (hb hby at_40) ?_
    show Steps p.tables e below (T7.setTop (mkF m 41 #[.val (.long q0), .second, .val (.long q1), .second, .val (.long q2), .second, .val (.long q3), .second, .val (.long q4), .second, .val (.int p5), .val (.ref b1), .unset, .unset, .unset, .unset, .unset, .unset] [(.int (2 : Int32)), (.int (0 : Int32)), (.ref b1)])) t
    exact kt
  refine own_callS X7 hx hZ hown rfl (hw _ (List.mem_of_getElem? (i := 1) rfl)) (hw _ (List.mem_of_getElem? (i := 2) rfl)) (hw _ (List.mem_of_getElem? (i := 3) rfl)) (hw _ (List.mem_of_getElem? (i := 4) rfl)) (by decide) (rm1 l Z aw hw b1 (0 : Int32) (2 : Int32) t2 0 2 T7.heap n0 ZKq7 Pq7_0 g_b1 (by decide) (by decide) (by decide) (by decide) (by decide)) (g := (mkF m 41 #[.val (.long q0), .second, .val (.long q1), .second, .val (.long q2), .second, .val (.long q3), .second, .val (.long q4), .second, .val (.int p5), .val (.ref b1), .unset, .unset, .unset, .unset, .unset, .unset] [(.int (2 : Int32)), (.int (0 : Int32)), (.ref b1)])) rfl (by rw [hml]; rfl) (argsL := [(.ref b1), (.int (0 : Int32)), (.int (2 : Int32))]) (rest := []) (lenOf pd_0 rfl) rfl rfl (W := 0) (by show 2 * 0 + _ ≤ _; exact Nat.le_of_eq rfl) (hb hby at_41) (by decide) (by decide) (by decide) (by decide) ?_
  rintro _ T8 L8 X8 ⟨rfl, Nq8, Kq8, Pq8_0⟩
  have N8 := Fr.app N7 Nq8
  have ZKq8 : n0 ≤ T8.heap.size := Nat.le_trans ZKq7 Kq8.1
  have KKKq8 := KKKq7.trans Kq8 ((allS (Or.inr sz_b1) all0))
  obtain ⟨t3, ht3⟩ : ∃ z, z = (own_cs t2 0 2) := ⟨_, rfl⟩
  rw [← ht3] at Pq8_0
  refine own_go (T' := T8) (f' := (mkF m 48 #[.val (.long q0), .second, .val (.long q1), .second, .val (.long q2), .second, .val (.long q3), .second, .val (.long q4), .second, .val (.int p5), .val (.ref b1), .unset, .unset, .unset, .unset, .unset, .unset] [(.int (3 : Int32)), (.int (1 : Int32)), (.ref b1)])) (fun t kt => ?_) ?_
  · show Steps p.tables e below (T8.setTop (mkF m 44 #[.val (.long q0), .second, .val (.long q1), .second, .val (.long q2), .second, .val (.long q3), .second, .val (.long q4), .second, .val (.int p5), .val (.ref b1), .unset, .unset, .unset, .unset, .unset, .unset] [])) t
    refine XS.aload X8.here hx rfl (hb hby at_44) rfl rfl ?_
    show Steps p.tables e below (T8.setTop (mkF m 46 #[.val (.long q0), .second, .val (.long q1), .second, .val (.long q2), .second, .val (.long q3), .second, .val (.long q4), .second, .val (.int p5), .val (.ref b1), .unset, .unset, .unset, .unset, .unset, .unset] [(.ref b1)])) t
    refine XS.iconst X8.here hx rfl (hb hby at_46) ?_
    show Steps p.tables e below (T8.setTop (mkF m 47 #[.val (.long q0), .second, .val (.long q1), .second, .val (.long q2), .second, .val (.long q3), .second, .val (.long q4), .second, .val (.int p5), .val (.ref b1), .unset, .unset, .unset, .unset, .unset, .unset] [(.int (1 : Int32)), (.ref b1)])) t
    refine XS.iconst X8.here hx rfl (hb hby at_47) ?_
    show Steps p.tables e below (T8.setTop (mkF m 48 #[.val (.long q0), .second, .val (.long q1), .second, .val (.long q2), .second, .val (.long q3), .second, .val (.long q4), .second, .val (.int p5), .val (.ref b1), .unset, .unset, .unset, .unset, .unset, .unset] [(.int (3 : Int32)), (.int (1 : Int32)), (.ref b1)])) t
    exact kt
  refine own_callS X8 hx hZ hown rfl (hw _ (List.mem_of_getElem? (i := 1) rfl)) (hw _ (List.mem_of_getElem? (i := 2) rfl)) (hw _ (List.mem_of_getElem? (i := 3) rfl)) (hw _ (List.mem_of_getElem? (i := 4) rfl)) (by decide) (rm1 l Z aw hw b1 (1 : Int32) (3 : Int32) t3 1 3 T8.heap n0 ZKq8 Pq8_0 g_b1 (by decide) (by decide) (by decide) (by decide) (by decide)) (g := (mkF m 48 #[.val (.long q0), .second, .val (.long q1), .second, .val (.long q2), .second, .val (.long q3), .second, .val (.long q4), .second, .val (.int p5), .val (.ref b1), .unset, .unset, .unset, .unset, .unset, .unset] [(.int (3 : Int32)), (.int (1 : Int32)), (.ref b1)])) rfl (by rw [hml]; rfl) (argsL := [(.ref b1), (.int (1 : Int32)), (.int (3 : Int32))]) (rest := []) (lenOf pd_0 rfl) rfl rfl (W := 0) (by show 2 * 0 + _ ≤ _; exact Nat.le_of_eq rfl) (hb hby at_48) (by decide) (by decide) (by decide) (by decide) ?_
  rintro _ T9 L9 X9 ⟨rfl, Nq9, Kq9, Pq9_0⟩
  have N9 := Fr.app N8 Nq9
  have ZKq9 : n0 ≤ T9.heap.size := Nat.le_trans ZKq8 Kq9.1
  have KKKq9 := KKKq8.trans Kq9 ((allS (Or.inr sz_b1) all0))
  obtain ⟨t4, ht4⟩ : ∃ z, z = (own_cs t3 1 3) := ⟨_, rfl⟩
  rw [← ht4] at Pq9_0
  refine own_go (T' := T9) (f' := (mkF m 55 #[.val (.long q0), .second, .val (.long q1), .second, .val (.long q2), .second, .val (.long q3), .second, .val (.long q4), .second, .val (.int p5), .val (.ref b1), .unset, .unset, .unset, .unset, .unset, .unset] [(.int (2 : Int32)), (.int (1 : Int32)), (.ref b1)])) (fun t kt => ?_) ?_
  · show Steps p.tables e below (T9.setTop (mkF m 51 #[.val (.long q0), .second, .val (.long q1), .second, .val (.long q2), .second, .val (.long q3), .second, .val (.long q4), .second, .val (.int p5), .val (.ref b1), .unset, .unset, .unset, .unset, .unset, .unset] [])) t
    refine XS.aload X9.here hx rfl (hb hby at_51) rfl rfl ?_
    show Steps p.tables e below (T9.setTop (mkF m 53 #[.val (.long q0), .second, .val (.long q1), .second, .val (.long q2), .second, .val (.long q3), .second, .val (.long q4), .second, .val (.int p5), .val (.ref b1), .unset, .unset, .unset, .unset, .unset, .unset] [(.ref b1)])) t
    refine XS.iconst X9.here hx rfl (hb hby at_53) ?_
    show Steps p.tables e below (T9.setTop (mkF m 54 #[.val (.long q0), .second, .val (.long q1), .second, .val (.long q2), .second, .val (.long q3), .second, .val (.long q4), .second, .val (.int p5), .val (.ref b1), .unset, .unset, .unset, .unset, .unset, .unset] [(.int (1 : Int32)), (.ref b1)])) t
    refine XS.iconst X9.here hx rfl (hb hby at_54) ?_
    show Steps p.tables e below (T9.setTop (mkF m 55 #[.val (.long q0), .second, .val (.long q1), .second, .val (.long q2), .second, .val (.long q3), .second, .val (.long q4), .second, .val (.int p5), .val (.ref b1), .unset, .unset, .unset, .unset, .unset, .unset] [(.int (2 : Int32)), (.int (1 : Int32)), (.ref b1)])) t
    exact kt
  refine own_callS X9 hx hZ hown rfl (hw _ (List.mem_of_getElem? (i := 1) rfl)) (hw _ (List.mem_of_getElem? (i := 2) rfl)) (hw _ (List.mem_of_getElem? (i := 3) rfl)) (hw _ (List.mem_of_getElem? (i := 4) rfl)) (by decide) (rm1 l Z aw hw b1 (1 : Int32) (2 : Int32) t4 1 2 T9.heap n0 ZKq9 Pq9_0 g_b1 (by decide) (by decide) (by decide) (by decide) (by decide)) (g := (mkF m 55 #[.val (.long q0), .second, .val (.long q1), .second, .val (.long q2), .second, .val (.long q3), .second, .val (.long q4), .second, .val (.int p5), .val (.ref b1), .unset, .unset, .unset, .unset, .unset, .unset] [(.int (2 : Int32)), (.int (1 : Int32)), (.ref b1)])) rfl (by rw [hml]; rfl) (argsL := [(.ref b1), (.int (1 : Int32)), (.int (2 : Int32))]) (rest := []) (lenOf pd_0 rfl) rfl rfl (W := 0) (by show 2 * 0 + _ ≤ _; exact Nat.le_of_eq rfl) (hb hby at_55) (by decide) (by decide) (by decide) (by decide) ?_
  rintro _ T10 L10 X10 ⟨rfl, Nq10, Kq10, Pq10_0⟩
  have N10 := Fr.app N9 Nq10
  have ZKq10 : n0 ≤ T10.heap.size := Nat.le_trans ZKq9 Kq10.1
  have KKKq10 := KKKq9.trans Kq10 ((allS (Or.inr sz_b1) all0))
  obtain ⟨t5, ht5⟩ : ∃ z, z = (own_cs t4 1 2) := ⟨_, rfl⟩
  rw [← ht5] at Pq10_0
  refine own_go (T' := T10) (f' := (mkF m 65 #[.val (.long q0), .second, .val (.long q1), .second, .val (.long q2), .second, .val (.long q3), .second, .val (.long q4), .second, .val (.int p5), .val (.ref b1), .unset, .unset, .unset, .unset, .unset, .unset] [(.int ((p5 &&& (7 : Int32)) % (5 : Int32)))])) (fun t kt => ?_) ?_
  · show Steps p.tables e below (T10.setTop (mkF m 58 #[.val (.long q0), .second, .val (.long q1), .second, .val (.long q2), .second, .val (.long q3), .second, .val (.long q4), .second, .val (.int p5), .val (.ref b1), .unset, .unset, .unset, .unset, .unset, .unset] [])) t
    refine XS.iload X10.here hx rfl (hb hby at_58) rfl ?_
    show Steps p.tables e below (T10.setTop (mkF m 60 #[.val (.long q0), .second, .val (.long q1), .second, .val (.long q2), .second, .val (.long q3), .second, .val (.long q4), .second, .val (.int p5), .val (.ref b1), .unset, .unset, .unset, .unset, .unset, .unset] [(.int p5)])) t
    refine XS.bipush X10.here hx rfl (hb hby at_60) ?_
    show Steps p.tables e below (T10.setTop (mkF m 62 #[.val (.long q0), .second, .val (.long q1), .second, .val (.long q2), .second, .val (.long q3), .second, .val (.long q4), .second, .val (.int p5), .val (.ref b1), .unset, .unset, .unset, .unset, .unset, .unset] [(.int (7 : Int32)), (.int p5)])) t
    refine XS.iand X10.here hx rfl (hb hby at_62) rfl ?_
    show Steps p.tables e below (T10.setTop (mkF m 63 #[.val (.long q0), .second, .val (.long q1), .second, .val (.long q2), .second, .val (.long q3), .second, .val (.long q4), .second, .val (.int p5), .val (.ref b1), .unset, .unset, .unset, .unset, .unset, .unset] [(.int (p5 &&& (7 : Int32)))])) t
    refine XS.iconst X10.here hx rfl (hb hby at_63) ?_
    show Steps p.tables e below (T10.setTop (mkF m 64 #[.val (.long q0), .second, .val (.long q1), .second, .val (.long q2), .second, .val (.long q3), .second, .val (.long q4), .second, .val (.int p5), .val (.ref b1), .unset, .unset, .unset, .unset, .unset, .unset] [(.int (5 : Int32)), (.int (p5 &&& (7 : Int32)))])) t
    refine iremM X10 hx rfl (hb hby at_64) rfl (by decide) ?_
    show Steps p.tables e below (T10.setTop (mkF m 65 #[.val (.long q0), .second, .val (.long q1), .second, .val (.long q2), .second, .val (.long q3), .second, .val (.long q4), .second, .val (.int p5), .val (.ref b1), .unset, .unset, .unset, .unset, .unset, .unset] [(.int ((p5 &&& (7 : Int32)) % (5 : Int32)))])) t
    exact kt
  rcases own_n5 p5 with hn5 | hn5 | hn5 | hn5 | hn5
  · rw [hn5]
    refine own_go (T' := T10) (f' := (mkF m 69 #[.val (.long q0), .second, .val (.long q1), .second, .val (.long q2), .second, .val (.long q3), .second, .val (.long q4), .second, .val (.int p5), .val (.ref b1), .val (.int (0 : Int32)), .unset, .unset, .unset, .unset, .unset] [(.int (0 : Int32))])) (fun t kt => ?_) ?_
    · show Steps p.tables e below (T10.setTop (mkF m 65 #[.val (.long q0), .second, .val (.long q1), .second, .val (.long q2), .second, .val (.long q3), .second, .val (.long q4), .second, .val (.int p5), .val (.ref b1), .unset, .unset, .unset, .unset, .unset, .unset] [(.int (0 : Int32))])) t
      refine XS.istore X10.here hx rfl (hb hby at_65) rfl (l' := #[.val (.long q0), .second, .val (.long q1), .second, .val (.long q2), .second, .val (.long q3), .second, .val (.long q4), .second, .val (.int p5), .val (.ref b1), .val (.int (0 : Int32)), .unset, .unset, .unset, .unset, .unset]) rfl ?_
      show Steps p.tables e below (T10.setTop (mkF m 67 #[.val (.long q0), .second, .val (.long q1), .second, .val (.long q2), .second, .val (.long q3), .second, .val (.long q4), .second, .val (.int p5), .val (.ref b1), .val (.int (0 : Int32)), .unset, .unset, .unset, .unset, .unset] [])) t
      refine XS.iload X10.here hx rfl (hb hby at_67) rfl ?_
      show Steps p.tables e below (T10.setTop (mkF m 69 #[.val (.long q0), .second, .val (.long q1), .second, .val (.long q2), .second, .val (.long q3), .second, .val (.long q4), .second, .val (.int p5), .val (.ref b1), .val (.int (0 : Int32)), .unset, .unset, .unset, .unset, .unset] [(.int (0 : Int32))])) t
      exact kt
    obtain ⟨T11, h11, k11, X11, e11, E11, A11, st11⟩ := newP X10 hx hZ (hw _ (List.mem_of_getElem? (i := 0) rfl)) rfl (g := (mkF m 69 #[.val (.long q0), .second, .val (.long q1), .second, .val (.long q2), .second, .val (.long q3), .second, .val (.long q4), .second, .val (.int p5), .val (.ref b1), .val (.int (0 : Int32)), .unset, .unset, .unset, .unset, .unset] [(.int (0 : Int32))])) rfl (hb hby at_69) rfl (by decide) (cap := 0) (by decide) (by decide) (by decide) (by decide)
    obtain ⟨b11, y11⟩ : ∃ z, z = T10.heap.size := ⟨_, rfl⟩
    rw [← y11] at A11 st11
    have ne_b1_b11 : b1 ≠ b11 := Nat.ne_of_lt (Nat.lt_of_lt_of_le Pq10_0.lt (Nat.le_of_eq y11.symm))
    have ne_b11_b1 := ne_b1_b11.symm
    have g_b11 : n0 ≤ b11 := Nat.le_trans ZKq10 (Nat.le_of_eq y11.symm)
    have sz_b11 : h0.size ≤ b11 := Nat.le_trans KKKq10.1 (Nat.le_of_eq y11.symm)
    replace Pq10_0 := (Pq10_0.ext E11)
    have ZE11 : n0 ≤ h11.size := Nat.le_trans ZKq10 E11.1
    have KKE11 := KKKq10.ext E11
    refine own_go st11 ?_
    have Ar_b11 : own_AJ Z h11 b11 0 (fun _ => (0 : Int64)) := own_A_new A11 (by decide)
    refine own_go (T' := T11) (f' := (mkF m 135 #[.val (.long q0), .second, .val (.long q1), .second, .val (.long q2), .second, .val (.long q3), .second, .val (.long q4), .second, .val (.int p5), .val (.ref b1), .val (.int (0 : Int32)), .val (.ref b11), .unset, .unset, .unset, .unset] [(.int (((p5.toUInt32 >>> ((3 : Int32) &&& 31).toUInt32).toInt32) &&& (7 : Int32)))])) (fun t kt => ?_) ?_
    · show Steps p.tables e below (T11.setTop (mkF m 71 #[.val (.long q0), .second, .val (.long q1), .second, .val (.long q2), .second, .val (.long q3), .second, .val (.long q4), .second, .val (.int p5), .val (.ref b1), .val (.int (0 : Int32)), .unset, .unset, .unset, .unset, .unset] [(.ref b11)])) t
      refine XS.astore X11.here hx rfl (hb hby at_71) rfl rfl (l' := #[.val (.long q0), .second, .val (.long q1), .second, .val (.long q2), .second, .val (.long q3), .second, .val (.long q4), .second, .val (.int p5), .val (.ref b1), .val (.int (0 : Int32)), .val (.ref b11), .unset, .unset, .unset, .unset]) rfl ?_
      show Steps p.tables e below (T11.setTop (mkF m 73 #[.val (.long q0), .second, .val (.long q1), .second, .val (.long q2), .second, .val (.long q3), .second, .val (.long q4), .second, .val (.int p5), .val (.ref b1), .val (.int (0 : Int32)), .val (.ref b11), .unset, .unset, .unset, .unset] [])) t
      refine XS.iload X11.here hx rfl (hb hby at_73) rfl ?_
      show Steps p.tables e below (T11.setTop (mkF m 75 #[.val (.long q0), .second, .val (.long q1), .second, .val (.long q2), .second, .val (.long q3), .second, .val (.long q4), .second, .val (.int p5), .val (.ref b1), .val (.int (0 : Int32)), .val (.ref b11), .unset, .unset, .unset, .unset] [(.int (0 : Int32))])) t
      refine XS.ifYes X11.here hx rfl (pc0 := 75) (pc' := 86) rfl (hb hby at_75) rfl (by decide) (by decide) (by decide) ?_
      show Steps p.tables e below (T11.setTop (mkF m 86 #[.val (.long q0), .second, .val (.long q1), .second, .val (.long q2), .second, .val (.long q3), .second, .val (.long q4), .second, .val (.int p5), .val (.ref b1), .val (.int (0 : Int32)), .val (.ref b11), .unset, .unset, .unset, .unset] [])) t
      refine XS.iload X11.here hx rfl (hb hby at_86) rfl ?_
      show Steps p.tables e below (T11.setTop (mkF m 88 #[.val (.long q0), .second, .val (.long q1), .second, .val (.long q2), .second, .val (.long q3), .second, .val (.long q4), .second, .val (.int p5), .val (.ref b1), .val (.int (0 : Int32)), .val (.ref b11), .unset, .unset, .unset, .unset] [(.int (0 : Int32))])) t
      refine XS.iconst X11.here hx rfl (hb hby at_88) ?_
      show Steps p.tables e below (T11.setTop (mkF m 89 #[.val (.long q0), .second, .val (.long q1), .second, .val (.long q2), .second, .val (.long q3), .second, .val (.long q4), .second, .val (.int p5), .val (.ref b1), .val (.int (0 : Int32)), .val (.ref b11), .unset, .unset, .unset, .unset] [(.int (1 : Int32)), (.int (0 : Int32))])) t
      refine XS.icmpYes X11.here hx rfl (pc0 := 89) (pc' := 100) rfl (hb hby at_89) rfl (by decide) (by decide) (by decide) ?_
      show Steps p.tables e below (T11.setTop (mkF m 100 #[.val (.long q0), .second, .val (.long q1), .second, .val (.long q2), .second, .val (.long q3), .second, .val (.long q4), .second, .val (.int p5), .val (.ref b1), .val (.int (0 : Int32)), .val (.ref b11), .unset, .unset, .unset, .unset] [])) t
      refine XS.iload X11.here hx rfl (hb hby at_100) rfl ?_
      show Steps p.tables e below (T11.setTop (mkF m 102 #[.val (.long q0), .second, .val (.long q1), .second, .val (.long q2), .second, .val (.long q3), .second, .val (.long q4), .second, .val (.int p5), .val (.ref b1), .val (.int (0 : Int32)), .val (.ref b11), .unset, .unset, .unset, .unset] [(.int (0 : Int32))])) t
      refine XS.iconst X11.here hx rfl (hb hby at_102) ?_
      show Steps p.tables e below (T11.setTop (mkF m 103 #[.val (.long q0), .second, .val (.long q1), .second, .val (.long q2), .second, .val (.long q3), .second, .val (.long q4), .second, .val (.int p5), .val (.ref b1), .val (.int (0 : Int32)), .val (.ref b11), .unset, .unset, .unset, .unset] [(.int (2 : Int32)), (.int (0 : Int32))])) t
      refine XS.icmpYes X11.here hx rfl (pc0 := 103) (pc' := 114) rfl (hb hby at_103) rfl (by decide) (by decide) (by decide) ?_
      show Steps p.tables e below (T11.setTop (mkF m 114 #[.val (.long q0), .second, .val (.long q1), .second, .val (.long q2), .second, .val (.long q3), .second, .val (.long q4), .second, .val (.int p5), .val (.ref b1), .val (.int (0 : Int32)), .val (.ref b11), .unset, .unset, .unset, .unset] [])) t
      refine XS.iload X11.here hx rfl (hb hby at_114) rfl ?_
      show Steps p.tables e below (T11.setTop (mkF m 116 #[.val (.long q0), .second, .val (.long q1), .second, .val (.long q2), .second, .val (.long q3), .second, .val (.long q4), .second, .val (.int p5), .val (.ref b1), .val (.int (0 : Int32)), .val (.ref b11), .unset, .unset, .unset, .unset] [(.int (0 : Int32))])) t
      refine XS.iconst X11.here hx rfl (hb hby at_116) ?_
      show Steps p.tables e below (T11.setTop (mkF m 117 #[.val (.long q0), .second, .val (.long q1), .second, .val (.long q2), .second, .val (.long q3), .second, .val (.long q4), .second, .val (.int p5), .val (.ref b1), .val (.int (0 : Int32)), .val (.ref b11), .unset, .unset, .unset, .unset] [(.int (3 : Int32)), (.int (0 : Int32))])) t
      refine XS.icmpYes X11.here hx rfl (pc0 := 117) (pc' := 128) rfl (hb hby at_117) rfl (by decide) (by decide) (by decide) ?_
      show Steps p.tables e below (T11.setTop (mkF m 128 #[.val (.long q0), .second, .val (.long q1), .second, .val (.long q2), .second, .val (.long q3), .second, .val (.long q4), .second, .val (.int p5), .val (.ref b1), .val (.int (0 : Int32)), .val (.ref b11), .unset, .unset, .unset, .unset] [])) t
      refine XS.iload X11.here hx rfl (hb hby at_128) rfl ?_
      show Steps p.tables e below (T11.setTop (mkF m 130 #[.val (.long q0), .second, .val (.long q1), .second, .val (.long q2), .second, .val (.long q3), .second, .val (.long q4), .second, .val (.int p5), .val (.ref b1), .val (.int (0 : Int32)), .val (.ref b11), .unset, .unset, .unset, .unset] [(.int p5)])) t
      refine XS.iconst X11.here hx rfl (hb hby at_130) ?_
      show Steps p.tables e below (T11.setTop (mkF m 131 #[.val (.long q0), .second, .val (.long q1), .second, .val (.long q2), .second, .val (.long q3), .second, .val (.long q4), .second, .val (.int p5), .val (.ref b1), .val (.int (0 : Int32)), .val (.ref b11), .unset, .unset, .unset, .unset] [(.int (3 : Int32)), (.int p5)])) t
      refine XS.iushr X11.here hx rfl (hb hby at_131) rfl ?_
      show Steps p.tables e below (T11.setTop (mkF m 132 #[.val (.long q0), .second, .val (.long q1), .second, .val (.long q2), .second, .val (.long q3), .second, .val (.long q4), .second, .val (.int p5), .val (.ref b1), .val (.int (0 : Int32)), .val (.ref b11), .unset, .unset, .unset, .unset] [(.int ((p5.toUInt32 >>> ((3 : Int32) &&& 31).toUInt32).toInt32))])) t
      refine XS.bipush X11.here hx rfl (hb hby at_132) ?_
      show Steps p.tables e below (T11.setTop (mkF m 134 #[.val (.long q0), .second, .val (.long q1), .second, .val (.long q2), .second, .val (.long q3), .second, .val (.long q4), .second, .val (.int p5), .val (.ref b1), .val (.int (0 : Int32)), .val (.ref b11), .unset, .unset, .unset, .unset] [(.int (7 : Int32)), (.int ((p5.toUInt32 >>> ((3 : Int32) &&& 31).toUInt32).toInt32))])) t
      refine XS.iand X11.here hx rfl (hb hby at_134) rfl ?_
      show Steps p.tables e below (T11.setTop (mkF m 135 #[.val (.long q0), .second, .val (.long q1), .second, .val (.long q2), .second, .val (.long q3), .second, .val (.long q4), .second, .val (.int p5), .val (.ref b1), .val (.int (0 : Int32)), .val (.ref b11), .unset, .unset, .unset, .unset] [(.int (((p5.toUInt32 >>> ((3 : Int32) &&& 31).toUInt32).toInt32) &&& (7 : Int32)))])) t
      exact kt
    obtain ⟨sel, hsel⟩ : ∃ z, z = (((p5.toUInt32 >>> ((3 : Int32) &&& 31).toUInt32).toInt32) &&& (7 : Int32)) := ⟨_, rfl⟩
    rw [← hsel]
    refine own_go (T' := T11) (f' := (mkF m 141 #[.val (.long q0), .second, .val (.long q1), .second, .val (.long q2), .second, .val (.long q3), .second, .val (.long q4), .second, .val (.int p5), .val (.ref b1), .val (.int (0 : Int32)), .val (.ref b11), .val (.int sel), .val (.long q4), .second, .unset] [])) (fun t kt => ?_) ?_
    · show Steps p.tables e below (T11.setTop (mkF m 135 #[.val (.long q0), .second, .val (.long q1), .second, .val (.long q2), .second, .val (.long q3), .second, .val (.long q4), .second, .val (.int p5), .val (.ref b1), .val (.int (0 : Int32)), .val (.ref b11), .unset, .unset, .unset, .unset] [(.int sel)])) t
      refine XS.istore X11.here hx rfl (hb hby at_135) rfl (l' := #[.val (.long q0), .second, .val (.long q1), .second, .val (.long q2), .second, .val (.long q3), .second, .val (.long q4), .second, .val (.int p5), .val (.ref b1), .val (.int (0 : Int32)), .val (.ref b11), .val (.int sel), .unset, .unset, .unset]) rfl ?_
      show Steps p.tables e below (T11.setTop (mkF m 137 #[.val (.long q0), .second, .val (.long q1), .second, .val (.long q2), .second, .val (.long q3), .second, .val (.long q4), .second, .val (.int p5), .val (.ref b1), .val (.int (0 : Int32)), .val (.ref b11), .val (.int sel), .unset, .unset, .unset] [])) t
      refine XS.lload X11.here hx rfl (hb hby at_137) rfl ?_
      show Steps p.tables e below (T11.setTop (mkF m 139 #[.val (.long q0), .second, .val (.long q1), .second, .val (.long q2), .second, .val (.long q3), .second, .val (.long q4), .second, .val (.int p5), .val (.ref b1), .val (.int (0 : Int32)), .val (.ref b11), .val (.int sel), .unset, .unset, .unset] [(.long q4)])) t
      refine XS.lstore X11.here hx rfl (hb hby at_139) rfl (l' := #[.val (.long q0), .second, .val (.long q1), .second, .val (.long q2), .second, .val (.long q3), .second, .val (.long q4), .second, .val (.int p5), .val (.ref b1), .val (.int (0 : Int32)), .val (.ref b11), .val (.int sel), .val (.long q4), .second, .unset]) rfl ?_
      show Steps p.tables e below (T11.setTop (mkF m 141 #[.val (.long q0), .second, .val (.long q1), .second, .val (.long q2), .second, .val (.long q3), .second, .val (.long q4), .second, .val (.int p5), .val (.ref b1), .val (.int (0 : Int32)), .val (.ref b11), .val (.int sel), .val (.long q4), .second, .unset] [])) t
      exact kt
    have J177 : ∀ (Tj12 : State) (lj12 : List Loc) (vv : Int64) (Xj12 : Stand p l e room_1 s m #[(.long q0), (.long q1), (.long q2), (.long q3), (.long q4), (.int p5)] below meth c Tj12 lj12 2 4) (Nj12 : Fr n0 lj12) (ej12 : Tj12.heap = h11), own_End p e below P Tj12 (mkF m 177 #[.val (.long q0), .second, .val (.long q1), .second, .val (.long q2), .second, .val (.long q3), .second, .val (.long q4), .second, .val (.int p5), .val (.ref b1), .val (.int (0 : Int32)), .val (.ref b11), .val (.int sel), .val (.long vv), .second, .unset] []) := by
      intro Tj12 lj12 vv Xj12 Nj12 ej12
      refine own_go (T' := Tj12) (f' := (mkF m 259 #[.val (.long q0), .second, .val (.long q1), .second, .val (.long q2), .second, .val (.long q3), .second, .val (.long q4), .second, .val (.int p5), .val (.ref b1), .val (.int (0 : Int32)), .val (.ref b11), .val (.int sel), .val (.long vv), .second, .val (.int (0 : Int32))] [(.long vv), (.ref b11)])) (fun t kt => ?_) ?_
      · show Steps p.tables e below (Tj12.setTop (mkF m 177 #[.val (.long q0), .second, .val (.long q1), .second, .val (.long q2), .second, .val (.long q3), .second, .val (.long q4), .second, .val (.int p5), .val (.ref b1), .val (.int (0 : Int32)), .val (.ref b11), .val (.int sel), .val (.long vv), .second, .unset] [])) t
        refine XS.iconst Xj12.here hx rfl (hb hby at_177) ?_
        show Steps p.tables e below (Tj12.setTop (mkF m 178 #[.val (.long q0), .second, .val (.long q1), .second, .val (.long q2), .second, .val (.long q3), .second, .val (.long q4), .second, .val (.int p5), .val (.ref b1), .val (.int (0 : Int32)), .val (.ref b11), .val (.int sel), .val (.long vv), .second, .unset] [(.int (0 : Int32))])) t
        refine XS.istore Xj12.here hx rfl (hb hby at_178) rfl (l' := #[.val (.long q0), .second, .val (.long q1), .second, .val (.long q2), .second, .val (.long q3), .second, .val (.long q4), .second, .val (.int p5), .val (.ref b1), .val (.int (0 : Int32)), .val (.ref b11), .val (.int sel), .val (.long vv), .second, .val (.int (0 : Int32))]) rfl ?_
        show Steps p.tables e below (Tj12.setTop (mkF m 180 #[.val (.long q0), .second, .val (.long q1), .second, .val (.long q2), .second, .val (.long q3), .second, .val (.long q4), .second, .val (.int p5), .val (.ref b1), .val (.int (0 : Int32)), .val (.ref b11), .val (.int sel), .val (.long vv), .second, .val (.int (0 : Int32))] [])) t
        refine XS.iload Xj12.here hx rfl (hb hby at_180) rfl ?_
        show Steps p.tables e below (Tj12.setTop (mkF m 182 #[.val (.long q0), .second, .val (.long q1), .second, .val (.long q2), .second, .val (.long q3), .second, .val (.long q4), .second, .val (.int p5), .val (.ref b1), .val (.int (0 : Int32)), .val (.ref b11), .val (.int sel), .val (.long vv), .second, .val (.int (0 : Int32))] [(.int (0 : Int32))])) t
        refine XS.ifYes Xj12.here hx rfl (pc0 := 182) (pc' := 198) rfl (hb hby at_182) rfl (by decide) (by decide) (by decide) ?_
        show Steps p.tables e below (Tj12.setTop (mkF m 198 #[.val (.long q0), .second, .val (.long q1), .second, .val (.long q2), .second, .val (.long q3), .second, .val (.long q4), .second, .val (.int p5), .val (.ref b1), .val (.int (0 : Int32)), .val (.ref b11), .val (.int sel), .val (.long vv), .second, .val (.int (0 : Int32))] [])) t
        refine XS.iload Xj12.here hx rfl (hb hby at_198) rfl ?_
        show Steps p.tables e below (Tj12.setTop (mkF m 200 #[.val (.long q0), .second, .val (.long q1), .second, .val (.long q2), .second, .val (.long q3), .second, .val (.long q4), .second, .val (.int p5), .val (.ref b1), .val (.int (0 : Int32)), .val (.ref b11), .val (.int sel), .val (.long vv), .second, .val (.int (0 : Int32))] [(.int (0 : Int32))])) t
        refine XS.iconst Xj12.here hx rfl (hb hby at_200) ?_
        show Steps p.tables e below (Tj12.setTop (mkF m 201 #[.val (.long q0), .second, .val (.long q1), .second, .val (.long q2), .second, .val (.long q3), .second, .val (.long q4), .second, .val (.int p5), .val (.ref b1), .val (.int (0 : Int32)), .val (.ref b11), .val (.int sel), .val (.long vv), .second, .val (.int (0 : Int32))] [(.int (1 : Int32)), (.int (0 : Int32))])) t
        refine XS.icmpYes Xj12.here hx rfl (pc0 := 201) (pc' := 217) rfl (hb hby at_201) rfl (by decide) (by decide) (by decide) ?_
        show Steps p.tables e below (Tj12.setTop (mkF m 217 #[.val (.long q0), .second, .val (.long q1), .second, .val (.long q2), .second, .val (.long q3), .second, .val (.long q4), .second, .val (.int p5), .val (.ref b1), .val (.int (0 : Int32)), .val (.ref b11), .val (.int sel), .val (.long vv), .second, .val (.int (0 : Int32))] [])) t
        refine XS.iload Xj12.here hx rfl (hb hby at_217) rfl ?_
        show Steps p.tables e below (Tj12.setTop (mkF m 219 #[.val (.long q0), .second, .val (.long q1), .second, .val (.long q2), .second, .val (.long q3), .second, .val (.long q4), .second, .val (.int p5), .val (.ref b1), .val (.int (0 : Int32)), .val (.ref b11), .val (.int sel), .val (.long vv), .second, .val (.int (0 : Int32))] [(.int (0 : Int32))])) t
        refine XS.iconst Xj12.here hx rfl (hb hby at_219) ?_
        show Steps p.tables e below (Tj12.setTop (mkF m 220 #[.val (.long q0), .second, .val (.long q1), .second, .val (.long q2), .second, .val (.long q3), .second, .val (.long q4), .second, .val (.int p5), .val (.ref b1), .val (.int (0 : Int32)), .val (.ref b11), .val (.int sel), .val (.long vv), .second, .val (.int (0 : Int32))] [(.int (2 : Int32)), (.int (0 : Int32))])) t
        refine XS.icmpYes Xj12.here hx rfl (pc0 := 220) (pc' := 236) rfl (hb hby at_220) rfl (by decide) (by decide) (by decide) ?_
        show Steps p.tables e below (Tj12.setTop (mkF m 236 #[.val (.long q0), .second, .val (.long q1), .second, .val (.long q2), .second, .val (.long q3), .second, .val (.long q4), .second, .val (.int p5), .val (.ref b1), .val (.int (0 : Int32)), .val (.ref b11), .val (.int sel), .val (.long vv), .second, .val (.int (0 : Int32))] [])) t
        refine XS.iload Xj12.here hx rfl (hb hby at_236) rfl ?_
        show Steps p.tables e below (Tj12.setTop (mkF m 238 #[.val (.long q0), .second, .val (.long q1), .second, .val (.long q2), .second, .val (.long q3), .second, .val (.long q4), .second, .val (.int p5), .val (.ref b1), .val (.int (0 : Int32)), .val (.ref b11), .val (.int sel), .val (.long vv), .second, .val (.int (0 : Int32))] [(.int (0 : Int32))])) t
        refine XS.iconst Xj12.here hx rfl (hb hby at_238) ?_
        show Steps p.tables e below (Tj12.setTop (mkF m 239 #[.val (.long q0), .second, .val (.long q1), .second, .val (.long q2), .second, .val (.long q3), .second, .val (.long q4), .second, .val (.int p5), .val (.ref b1), .val (.int (0 : Int32)), .val (.ref b11), .val (.int sel), .val (.long vv), .second, .val (.int (0 : Int32))] [(.int (3 : Int32)), (.int (0 : Int32))])) t
        refine XS.icmpYes Xj12.here hx rfl (pc0 := 239) (pc' := 255) rfl (hb hby at_239) rfl (by decide) (by decide) (by decide) ?_
        show Steps p.tables e below (Tj12.setTop (mkF m 255 #[.val (.long q0), .second, .val (.long q1), .second, .val (.long q2), .second, .val (.long q3), .second, .val (.long q4), .second, .val (.int p5), .val (.ref b1), .val (.int (0 : Int32)), .val (.ref b11), .val (.int sel), .val (.long vv), .second, .val (.int (0 : Int32))] [])) t
        refine XS.aload Xj12.here hx rfl (hb hby at_255) rfl rfl ?_
        show Steps p.tables e below (Tj12.setTop (mkF m 257 #[.val (.long q0), .second, .val (.long q1), .second, .val (.long q2), .second, .val (.long q3), .second, .val (.long q4), .second, .val (.int p5), .val (.ref b1), .val (.int (0 : Int32)), .val (.ref b11), .val (.int sel), .val (.long vv), .second, .val (.int (0 : Int32))] [(.ref b11)])) t
        refine XS.lload Xj12.here hx rfl (hb hby at_257) rfl ?_
        show Steps p.tables e below (Tj12.setTop (mkF m 259 #[.val (.long q0), .second, .val (.long q1), .second, .val (.long q2), .second, .val (.long q3), .second, .val (.long q4), .second, .val (.int p5), .val (.ref b1), .val (.int (0 : Int32)), .val (.ref b11), .val (.int sel), .val (.long vv), .second, .val (.int (0 : Int32))] [(.long vv), (.ref b11)])) t
        exact kt
      refine own_callSp Xj12 hx hZ hown ej12 (hw _ (List.mem_of_getElem? (i := 5) rfl)) (hw _ (List.mem_of_getElem? (i := 6) rfl)) (hw _ (List.mem_of_getElem? (i := 7) rfl)) (hw _ (List.mem_of_getElem? (i := 8) rfl)) (by decide) (rm2 l Z aw hw b11 vv 0 (fun _ => (0 : Int64)) (0 : Int32) h11 n0 ZE11 Ar_b11 (by decide) (by decide) own_p0) (g := (mkF m 259 #[.val (.long q0), .second, .val (.long q1), .second, .val (.long q2), .second, .val (.long q3), .second, .val (.long q4), .second, .val (.int p5), .val (.ref b1), .val (.int (0 : Int32)), .val (.ref b11), .val (.int sel), .val (.long vv), .second, .val (.int (0 : Int32))] [(.long vv), (.ref b11)])) rfl (by rw [hml]; rfl) (argsL := [(.ref b11), (.long vv)]) (rest := []) (lenOf pd_1 rfl) rfl rfl (W := 0) (by show 2 * 0 + _ ≤ _; exact Nat.le_of_eq rfl) (hb hby at_259) (by decide) (by decide) (by decide) (by decide) ?_
      intro T13 X13 e13
      refine own_go (T' := T13) (f' := (mkF m 272 #[.val (.long q0), .second, .val (.long q1), .second, .val (.long q2), .second, .val (.long q3), .second, .val (.long q4), .second, .val (.int p5), .val (.ref b1), .val (.int (0 : Int32)), .val (.ref b11), .val (.int sel), .val (.long vv), .second, .val (.int (0 : Int32))] [(.int (1 : Int32))])) (fun t kt => ?_) ?_
      · show Steps p.tables e below (T13.setTop (mkF m 262 #[.val (.long q0), .second, .val (.long q1), .second, .val (.long q2), .second, .val (.long q3), .second, .val (.long q4), .second, .val (.int p5), .val (.ref b1), .val (.int (0 : Int32)), .val (.ref b11), .val (.int sel), .val (.long vv), .second, .val (.int (0 : Int32))] [(.int (Int32.ofNat (own_cnt 0 (fun _ => (0 : Int64)) vv)))])) t
        refine XS.iload X13.here hx rfl (hb hby at_262) rfl ?_
        show Steps p.tables e below (T13.setTop (mkF m 264 #[.val (.long q0), .second, .val (.long q1), .second, .val (.long q2), .second, .val (.long q3), .second, .val (.long q4), .second, .val (.int p5), .val (.ref b1), .val (.int (0 : Int32)), .val (.ref b11), .val (.int sel), .val (.long vv), .second, .val (.int (0 : Int32))] [(.int (0 : Int32)), (.int (Int32.ofNat (own_cnt 0 (fun _ => (0 : Int64)) vv)))])) t
        refine XS.icmpNo X13.here hx rfl (hb hby at_264) rfl (teq (show (Int32.ofNat (own_cnt 0 (fun _ => (0 : Int64)) vv)) = (0 : Int32) from by simp only [own_cnt]; rfl)).2 ?_
        show Steps p.tables e below (T13.setTop (mkF m 267 #[.val (.long q0), .second, .val (.long q1), .second, .val (.long q2), .second, .val (.long q3), .second, .val (.long q4), .second, .val (.int p5), .val (.ref b1), .val (.int (0 : Int32)), .val (.ref b11), .val (.int sel), .val (.long vv), .second, .val (.int (0 : Int32))] [])) t
        refine XS.iconst X13.here hx rfl (hb hby at_267) ?_
        show Steps p.tables e below (T13.setTop (mkF m 268 #[.val (.long q0), .second, .val (.long q1), .second, .val (.long q2), .second, .val (.long q3), .second, .val (.long q4), .second, .val (.int p5), .val (.ref b1), .val (.int (0 : Int32)), .val (.ref b11), .val (.int sel), .val (.long vv), .second, .val (.int (0 : Int32))] [(.int (1 : Int32))])) t
        refine XS.goto X13.here hx rfl (pc0 := 268) (pc' := 272) rfl (hb hby at_268) (by decide) (by decide) ?_
        show Steps p.tables e below (T13.setTop (mkF m 272 #[.val (.long q0), .second, .val (.long q1), .second, .val (.long q2), .second, .val (.long q3), .second, .val (.long q4), .second, .val (.int p5), .val (.ref b1), .val (.int (0 : Int32)), .val (.ref b11), .val (.int sel), .val (.long vv), .second, .val (.int (0 : Int32))] [(.int (1 : Int32))])) t
        exact kt
      exact own_retN X13 hP hx hlk e13 (t := .boolean) hret (by simp) (hb hby at_272) (by decide) (by decide) (z' := (1 : Int32)) rfl ⟨rfl, Nj12⟩
    refine own_go (T' := T11) (f' := (mkF m 144 #[.val (.long q0), .second, .val (.long q1), .second, .val (.long q2), .second, .val (.long q3), .second, .val (.long q4), .second, .val (.int p5), .val (.ref b1), .val (.int (0 : Int32)), .val (.ref b11), .val (.int sel), .val (.long q4), .second, .unset] [(.int (4 : Int32)), (.int sel)])) (fun t kt => ?_) ?_
    · show Steps p.tables e below (T11.setTop (mkF m 141 #[.val (.long q0), .second, .val (.long q1), .second, .val (.long q2), .second, .val (.long q3), .second, .val (.long q4), .second, .val (.int p5), .val (.ref b1), .val (.int (0 : Int32)), .val (.ref b11), .val (.int sel), .val (.long q4), .second, .unset] [])) t
      refine XS.iload X11.here hx rfl (hb hby at_141) rfl ?_
      show Steps p.tables e below (T11.setTop (mkF m 143 #[.val (.long q0), .second, .val (.long q1), .second, .val (.long q2), .second, .val (.long q3), .second, .val (.long q4), .second, .val (.int p5), .val (.ref b1), .val (.int (0 : Int32)), .val (.ref b11), .val (.int sel), .val (.long q4), .second, .unset] [(.int sel)])) t
      refine XS.iconst X11.here hx rfl (hb hby at_143) ?_
      show Steps p.tables e below (T11.setTop (mkF m 144 #[.val (.long q0), .second, .val (.long q1), .second, .val (.long q2), .second, .val (.long q3), .second, .val (.long q4), .second, .val (.int p5), .val (.ref b1), .val (.int (0 : Int32)), .val (.ref b11), .val (.int sel), .val (.long q4), .second, .unset] [(.int (4 : Int32)), (.int sel)])) t
      exact kt
    by_cases hc144_14 : sel < (4 : Int32)
    · refine own_go (T' := T11) (f' := (mkF m 177 #[.val (.long q0), .second, .val (.long q1), .second, .val (.long q2), .second, .val (.long q3), .second, .val (.long q4), .second, .val (.int p5), .val (.ref b1), .val (.int (0 : Int32)), .val (.ref b11), .val (.int sel), .val (.long (t5 sel.toInt.toNat)), .second, .unset] [])) (fun t kt => ?_) ?_
      · show Steps p.tables e below (T11.setTop (mkF m 144 #[.val (.long q0), .second, .val (.long q1), .second, .val (.long q2), .second, .val (.long q3), .second, .val (.long q4), .second, .val (.int p5), .val (.ref b1), .val (.int (0 : Int32)), .val (.ref b11), .val (.int sel), .val (.long q4), .second, .unset] [(.int (4 : Int32)), (.int sel)])) t
        refine XS.icmpNo X11.here hx rfl (hb hby at_144) rfl (tlt hc144_14).2.1 ?_
        show Steps p.tables e below (T11.setTop (mkF m 147 #[.val (.long q0), .second, .val (.long q1), .second, .val (.long q2), .second, .val (.long q3), .second, .val (.long q4), .second, .val (.int p5), .val (.ref b1), .val (.int (0 : Int32)), .val (.ref b11), .val (.int sel), .val (.long q4), .second, .unset] [])) t
        refine XS.aload X11.here hx rfl (hb hby at_147) rfl rfl ?_
        show Steps p.tables e below (T11.setTop (mkF m 149 #[.val (.long q0), .second, .val (.long q1), .second, .val (.long q2), .second, .val (.long q3), .second, .val (.long q4), .second, .val (.int p5), .val (.ref b1), .val (.int (0 : Int32)), .val (.ref b11), .val (.int sel), .val (.long q4), .second, .unset] [(.ref b1)])) t
        refine XS.iload X11.here hx rfl (hb hby at_149) rfl ?_
        show Steps p.tables e below (T11.setTop (mkF m 151 #[.val (.long q0), .second, .val (.long q1), .second, .val (.long q2), .second, .val (.long q3), .second, .val (.long q4), .second, .val (.int p5), .val (.ref b1), .val (.int (0 : Int32)), .val (.ref b11), .val (.int sel), .val (.long q4), .second, .unset] [(.int sel), (.ref b1)])) t
        refine own_laload X11 hx hZ e11 Pq10_0 (i := sel.toInt.toNat) (own_sel hsel hc144_14).1 (own_sel hsel hc144_14).2 (g := (mkF m 151 #[.val (.long q0), .second, .val (.long q1), .second, .val (.long q2), .second, .val (.long q3), .second, .val (.long q4), .second, .val (.int p5), .val (.ref b1), .val (.int (0 : Int32)), .val (.ref b11), .val (.int sel), .val (.long q4), .second, .unset] [(.int sel), (.ref b1)])) rfl rfl (hb hby at_151) _ ?_
        show Steps p.tables e below (T11.setTop (mkF m 152 #[.val (.long q0), .second, .val (.long q1), .second, .val (.long q2), .second, .val (.long q3), .second, .val (.long q4), .second, .val (.int p5), .val (.ref b1), .val (.int (0 : Int32)), .val (.ref b11), .val (.int sel), .val (.long q4), .second, .unset] [(.long (t5 sel.toInt.toNat))])) t
        refine XS.lstore X11.here hx rfl (hb hby at_152) rfl (l' := #[.val (.long q0), .second, .val (.long q1), .second, .val (.long q2), .second, .val (.long q3), .second, .val (.long q4), .second, .val (.int p5), .val (.ref b1), .val (.int (0 : Int32)), .val (.ref b11), .val (.int sel), .val (.long (t5 sel.toInt.toNat)), .second, .unset]) rfl ?_
        show Steps p.tables e below (T11.setTop (mkF m 154 #[.val (.long q0), .second, .val (.long q1), .second, .val (.long q2), .second, .val (.long q3), .second, .val (.long q4), .second, .val (.int p5), .val (.ref b1), .val (.int (0 : Int32)), .val (.ref b11), .val (.int sel), .val (.long (t5 sel.toInt.toNat)), .second, .unset] [])) t
        refine XS.goto X11.here hx rfl (pc0 := 154) (pc' := 177) rfl (hb hby at_154) (by decide) (by decide) ?_
        show Steps p.tables e below (T11.setTop (mkF m 177 #[.val (.long q0), .second, .val (.long q1), .second, .val (.long q2), .second, .val (.long q3), .second, .val (.long q4), .second, .val (.int p5), .val (.ref b1), .val (.int (0 : Int32)), .val (.ref b11), .val (.int sel), .val (.long (t5 sel.toInt.toNat)), .second, .unset] [])) t
        exact kt
      exact J177 T11 _ (t5 sel.toInt.toNat) X11 N10 e11
    · refine own_go (T' := T11) (f' := (mkF m 160 #[.val (.long q0), .second, .val (.long q1), .second, .val (.long q2), .second, .val (.long q3), .second, .val (.long q4), .second, .val (.int p5), .val (.ref b1), .val (.int (0 : Int32)), .val (.ref b11), .val (.int sel), .val (.long q4), .second, .unset] [(.int (4 : Int32)), (.int sel)])) (fun t kt => ?_) ?_
      · show Steps p.tables e below (T11.setTop (mkF m 144 #[.val (.long q0), .second, .val (.long q1), .second, .val (.long q2), .second, .val (.long q3), .second, .val (.long q4), .second, .val (.int p5), .val (.ref b1), .val (.int (0 : Int32)), .val (.ref b11), .val (.int sel), .val (.long q4), .second, .unset] [(.int (4 : Int32)), (.int sel)])) t
        refine XS.icmpYes X11.here hx rfl (pc0 := 144) (pc' := 157) rfl (hb hby at_144) rfl (flt hc144_14).2.1 (by decide) (by decide) ?_
        show Steps p.tables e below (T11.setTop (mkF m 157 #[.val (.long q0), .second, .val (.long q1), .second, .val (.long q2), .second, .val (.long q3), .second, .val (.long q4), .second, .val (.int p5), .val (.ref b1), .val (.int (0 : Int32)), .val (.ref b11), .val (.int sel), .val (.long q4), .second, .unset] [])) t
        refine XS.iload X11.here hx rfl (hb hby at_157) rfl ?_
        show Steps p.tables e below (T11.setTop (mkF m 159 #[.val (.long q0), .second, .val (.long q1), .second, .val (.long q2), .second, .val (.long q3), .second, .val (.long q4), .second, .val (.int p5), .val (.ref b1), .val (.int (0 : Int32)), .val (.ref b11), .val (.int sel), .val (.long q4), .second, .unset] [(.int sel)])) t
        refine XS.iconst X11.here hx rfl (hb hby at_159) ?_
        show Steps p.tables e below (T11.setTop (mkF m 160 #[.val (.long q0), .second, .val (.long q1), .second, .val (.long q2), .second, .val (.long q3), .second, .val (.long q4), .second, .val (.int p5), .val (.ref b1), .val (.int (0 : Int32)), .val (.ref b11), .val (.int sel), .val (.long q4), .second, .unset] [(.int (4 : Int32)), (.int sel)])) t
        exact kt
      by_cases hc160_15 : sel = (4 : Int32)
      · refine own_go (T' := T11) (f' := (mkF m 177 #[.val (.long q0), .second, .val (.long q1), .second, .val (.long q2), .second, .val (.long q3), .second, .val (.long q4), .second, .val (.int p5), .val (.ref b1), .val (.int (0 : Int32)), .val (.ref b11), .val (.int sel), .val (.long ((t5 (((p5.toUInt32 >>> ((6 : Int32) &&& 31).toUInt32).toInt32) &&& (3 : Int32)).toInt.toNat) + (1 : Int64))), .second, .unset] [])) (fun t kt => ?_) ?_
        · show Steps p.tables e below (T11.setTop (mkF m 160 #[.val (.long q0), .second, .val (.long q1), .second, .val (.long q2), .second, .val (.long q3), .second, .val (.long q4), .second, .val (.int p5), .val (.ref b1), .val (.int (0 : Int32)), .val (.ref b11), .val (.int sel), .val (.long q4), .second, .unset] [(.int (4 : Int32)), (.int sel)])) t
          refine XS.icmpNo X11.here hx rfl (hb hby at_160) rfl (teq hc160_15).2 ?_
          show Steps p.tables e below (T11.setTop (mkF m 163 #[.val (.long q0), .second, .val (.long q1), .second, .val (.long q2), .second, .val (.long q3), .second, .val (.long q4), .second, .val (.int p5), .val (.ref b1), .val (.int (0 : Int32)), .val (.ref b11), .val (.int sel), .val (.long q4), .second, .unset] [])) t
          refine XS.aload X11.here hx rfl (hb hby at_163) rfl rfl ?_
          show Steps p.tables e below (T11.setTop (mkF m 165 #[.val (.long q0), .second, .val (.long q1), .second, .val (.long q2), .second, .val (.long q3), .second, .val (.long q4), .second, .val (.int p5), .val (.ref b1), .val (.int (0 : Int32)), .val (.ref b11), .val (.int sel), .val (.long q4), .second, .unset] [(.ref b1)])) t
          refine XS.iload X11.here hx rfl (hb hby at_165) rfl ?_
          show Steps p.tables e below (T11.setTop (mkF m 167 #[.val (.long q0), .second, .val (.long q1), .second, .val (.long q2), .second, .val (.long q3), .second, .val (.long q4), .second, .val (.int p5), .val (.ref b1), .val (.int (0 : Int32)), .val (.ref b11), .val (.int sel), .val (.long q4), .second, .unset] [(.int p5), (.ref b1)])) t
          refine XS.bipush X11.here hx rfl (hb hby at_167) ?_
          show Steps p.tables e below (T11.setTop (mkF m 169 #[.val (.long q0), .second, .val (.long q1), .second, .val (.long q2), .second, .val (.long q3), .second, .val (.long q4), .second, .val (.int p5), .val (.ref b1), .val (.int (0 : Int32)), .val (.ref b11), .val (.int sel), .val (.long q4), .second, .unset] [(.int (6 : Int32)), (.int p5), (.ref b1)])) t
          refine XS.iushr X11.here hx rfl (hb hby at_169) rfl ?_
          show Steps p.tables e below (T11.setTop (mkF m 170 #[.val (.long q0), .second, .val (.long q1), .second, .val (.long q2), .second, .val (.long q3), .second, .val (.long q4), .second, .val (.int p5), .val (.ref b1), .val (.int (0 : Int32)), .val (.ref b11), .val (.int sel), .val (.long q4), .second, .unset] [(.int ((p5.toUInt32 >>> ((6 : Int32) &&& 31).toUInt32).toInt32)), (.ref b1)])) t
          refine XS.iconst X11.here hx rfl (hb hby at_170) ?_
          show Steps p.tables e below (T11.setTop (mkF m 171 #[.val (.long q0), .second, .val (.long q1), .second, .val (.long q2), .second, .val (.long q3), .second, .val (.long q4), .second, .val (.int p5), .val (.ref b1), .val (.int (0 : Int32)), .val (.ref b11), .val (.int sel), .val (.long q4), .second, .unset] [(.int (3 : Int32)), (.int ((p5.toUInt32 >>> ((6 : Int32) &&& 31).toUInt32).toInt32)), (.ref b1)])) t
          refine XS.iand X11.here hx rfl (hb hby at_171) rfl ?_
          show Steps p.tables e below (T11.setTop (mkF m 172 #[.val (.long q0), .second, .val (.long q1), .second, .val (.long q2), .second, .val (.long q3), .second, .val (.long q4), .second, .val (.int p5), .val (.ref b1), .val (.int (0 : Int32)), .val (.ref b11), .val (.int sel), .val (.long q4), .second, .unset] [(.int (((p5.toUInt32 >>> ((6 : Int32) &&& 31).toUInt32).toInt32) &&& (3 : Int32))), (.ref b1)])) t
          refine own_laload X11 hx hZ e11 Pq10_0 (i := (((p5.toUInt32 >>> ((6 : Int32) &&& 31).toUInt32).toInt32) &&& (3 : Int32)).toInt.toNat) (own_ix3 ((p5.toUInt32 >>> ((6 : Int32) &&& 31).toUInt32).toInt32)).1 (own_ix3 ((p5.toUInt32 >>> ((6 : Int32) &&& 31).toUInt32).toInt32)).2 (g := (mkF m 172 #[.val (.long q0), .second, .val (.long q1), .second, .val (.long q2), .second, .val (.long q3), .second, .val (.long q4), .second, .val (.int p5), .val (.ref b1), .val (.int (0 : Int32)), .val (.ref b11), .val (.int sel), .val (.long q4), .second, .unset] [(.int (((p5.toUInt32 >>> ((6 : Int32) &&& 31).toUInt32).toInt32) &&& (3 : Int32))), (.ref b1)])) rfl rfl (hb hby at_172) _ ?_
          show Steps p.tables e below (T11.setTop (mkF m 173 #[.val (.long q0), .second, .val (.long q1), .second, .val (.long q2), .second, .val (.long q3), .second, .val (.long q4), .second, .val (.int p5), .val (.ref b1), .val (.int (0 : Int32)), .val (.ref b11), .val (.int sel), .val (.long q4), .second, .unset] [(.long (t5 (((p5.toUInt32 >>> ((6 : Int32) &&& 31).toUInt32).toInt32) &&& (3 : Int32)).toInt.toNat))])) t
          refine XS.lconst X11.here hx rfl (hb hby at_173) ?_
          show Steps p.tables e below (T11.setTop (mkF m 174 #[.val (.long q0), .second, .val (.long q1), .second, .val (.long q2), .second, .val (.long q3), .second, .val (.long q4), .second, .val (.int p5), .val (.ref b1), .val (.int (0 : Int32)), .val (.ref b11), .val (.int sel), .val (.long q4), .second, .unset] [(.long (1 : Int64)), (.long (t5 (((p5.toUInt32 >>> ((6 : Int32) &&& 31).toUInt32).toInt32) &&& (3 : Int32)).toInt.toNat))])) t
          refine XS.ladd X11.here hx rfl (hb hby at_174) rfl ?_
          show Steps p.tables e below (T11.setTop (mkF m 175 #[.val (.long q0), .second, .val (.long q1), .second, .val (.long q2), .second, .val (.long q3), .second, .val (.long q4), .second, .val (.int p5), .val (.ref b1), .val (.int (0 : Int32)), .val (.ref b11), .val (.int sel), .val (.long q4), .second, .unset] [(.long ((t5 (((p5.toUInt32 >>> ((6 : Int32) &&& 31).toUInt32).toInt32) &&& (3 : Int32)).toInt.toNat) + (1 : Int64)))])) t
          refine XS.lstore X11.here hx rfl (hb hby at_175) rfl (l' := #[.val (.long q0), .second, .val (.long q1), .second, .val (.long q2), .second, .val (.long q3), .second, .val (.long q4), .second, .val (.int p5), .val (.ref b1), .val (.int (0 : Int32)), .val (.ref b11), .val (.int sel), .val (.long ((t5 (((p5.toUInt32 >>> ((6 : Int32) &&& 31).toUInt32).toInt32) &&& (3 : Int32)).toInt.toNat) + (1 : Int64))), .second, .unset]) rfl ?_
          show Steps p.tables e below (T11.setTop (mkF m 177 #[.val (.long q0), .second, .val (.long q1), .second, .val (.long q2), .second, .val (.long q3), .second, .val (.long q4), .second, .val (.int p5), .val (.ref b1), .val (.int (0 : Int32)), .val (.ref b11), .val (.int sel), .val (.long ((t5 (((p5.toUInt32 >>> ((6 : Int32) &&& 31).toUInt32).toInt32) &&& (3 : Int32)).toInt.toNat) + (1 : Int64))), .second, .unset] [])) t
          exact kt
        exact J177 T11 _ ((t5 (((p5.toUInt32 >>> ((6 : Int32) &&& 31).toUInt32).toInt32) &&& (3 : Int32)).toInt.toNat) + (1 : Int64)) X11 N10 e11
      · refine own_go (T' := T11) (f' := (mkF m 177 #[.val (.long q0), .second, .val (.long q1), .second, .val (.long q2), .second, .val (.long q3), .second, .val (.long q4), .second, .val (.int p5), .val (.ref b1), .val (.int (0 : Int32)), .val (.ref b11), .val (.int sel), .val (.long q4), .second, .unset] [])) (fun t kt => ?_) ?_
        · show Steps p.tables e below (T11.setTop (mkF m 160 #[.val (.long q0), .second, .val (.long q1), .second, .val (.long q2), .second, .val (.long q3), .second, .val (.long q4), .second, .val (.int p5), .val (.ref b1), .val (.int (0 : Int32)), .val (.ref b11), .val (.int sel), .val (.long q4), .second, .unset] [(.int (4 : Int32)), (.int sel)])) t
          refine XS.icmpYes X11.here hx rfl (pc0 := 160) (pc' := 177) rfl (hb hby at_160) rfl (feq hc160_15).2 (by decide) (by decide) ?_
          show Steps p.tables e below (T11.setTop (mkF m 177 #[.val (.long q0), .second, .val (.long q1), .second, .val (.long q2), .second, .val (.long q3), .second, .val (.long q4), .second, .val (.int p5), .val (.ref b1), .val (.int (0 : Int32)), .val (.ref b11), .val (.int sel), .val (.long q4), .second, .unset] [])) t
          exact kt
        exact J177 T11 _ q4 X11 N10 e11
  · rw [hn5]
    refine own_go (T' := T10) (f' := (mkF m 69 #[.val (.long q0), .second, .val (.long q1), .second, .val (.long q2), .second, .val (.long q3), .second, .val (.long q4), .second, .val (.int p5), .val (.ref b1), .val (.int (1 : Int32)), .unset, .unset, .unset, .unset, .unset] [(.int (1 : Int32))])) (fun t kt => ?_) ?_
    · show Steps p.tables e below (T10.setTop (mkF m 65 #[.val (.long q0), .second, .val (.long q1), .second, .val (.long q2), .second, .val (.long q3), .second, .val (.long q4), .second, .val (.int p5), .val (.ref b1), .unset, .unset, .unset, .unset, .unset, .unset] [(.int (1 : Int32))])) t
      refine XS.istore X10.here hx rfl (hb hby at_65) rfl (l' := #[.val (.long q0), .second, .val (.long q1), .second, .val (.long q2), .second, .val (.long q3), .second, .val (.long q4), .second, .val (.int p5), .val (.ref b1), .val (.int (1 : Int32)), .unset, .unset, .unset, .unset, .unset]) rfl ?_
      show Steps p.tables e below (T10.setTop (mkF m 67 #[.val (.long q0), .second, .val (.long q1), .second, .val (.long q2), .second, .val (.long q3), .second, .val (.long q4), .second, .val (.int p5), .val (.ref b1), .val (.int (1 : Int32)), .unset, .unset, .unset, .unset, .unset] [])) t
      refine XS.iload X10.here hx rfl (hb hby at_67) rfl ?_
      show Steps p.tables e below (T10.setTop (mkF m 69 #[.val (.long q0), .second, .val (.long q1), .second, .val (.long q2), .second, .val (.long q3), .second, .val (.long q4), .second, .val (.int p5), .val (.ref b1), .val (.int (1 : Int32)), .unset, .unset, .unset, .unset, .unset] [(.int (1 : Int32))])) t
      exact kt
    obtain ⟨T16, h16, k16, X16, e16, E16, A16, st16⟩ := newP X10 hx hZ (hw _ (List.mem_of_getElem? (i := 0) rfl)) rfl (g := (mkF m 69 #[.val (.long q0), .second, .val (.long q1), .second, .val (.long q2), .second, .val (.long q3), .second, .val (.long q4), .second, .val (.int p5), .val (.ref b1), .val (.int (1 : Int32)), .unset, .unset, .unset, .unset, .unset] [(.int (1 : Int32))])) rfl (hb hby at_69) rfl (by decide) (cap := 1) (by decide) (by decide) (by decide) (by decide)
    obtain ⟨b16, y16⟩ : ∃ z, z = T10.heap.size := ⟨_, rfl⟩
    rw [← y16] at A16 st16
    have ne_b1_b16 : b1 ≠ b16 := Nat.ne_of_lt (Nat.lt_of_lt_of_le Pq10_0.lt (Nat.le_of_eq y16.symm))
    have ne_b16_b1 := ne_b1_b16.symm
    have g_b16 : n0 ≤ b16 := Nat.le_trans ZKq10 (Nat.le_of_eq y16.symm)
    have sz_b16 : h0.size ≤ b16 := Nat.le_trans KKKq10.1 (Nat.le_of_eq y16.symm)
    replace Pq10_0 := (Pq10_0.ext E16)
    have ZE16 : n0 ≤ h16.size := Nat.le_trans ZKq10 E16.1
    have KKE16 := KKKq10.ext E16
    refine own_go st16 ?_
    have Ar_b16 : own_AJ Z h16 b16 1 (fun _ => (0 : Int64)) := own_A_new A16 (by decide)
    refine own_go (T' := T16) (f' := (mkF m 85 #[.val (.long q0), .second, .val (.long q1), .second, .val (.long q2), .second, .val (.long q3), .second, .val (.long q4), .second, .val (.int p5), .val (.ref b1), .val (.int (1 : Int32)), .val (.ref b16), .unset, .unset, .unset, .unset] [(.long (t5 0)), (.int (0 : Int32)), (.ref b16)])) (fun t kt => ?_) ?_
    · show Steps p.tables e below (T16.setTop (mkF m 71 #[.val (.long q0), .second, .val (.long q1), .second, .val (.long q2), .second, .val (.long q3), .second, .val (.long q4), .second, .val (.int p5), .val (.ref b1), .val (.int (1 : Int32)), .unset, .unset, .unset, .unset, .unset] [(.ref b16)])) t
      refine XS.astore X16.here hx rfl (hb hby at_71) rfl rfl (l' := #[.val (.long q0), .second, .val (.long q1), .second, .val (.long q2), .second, .val (.long q3), .second, .val (.long q4), .second, .val (.int p5), .val (.ref b1), .val (.int (1 : Int32)), .val (.ref b16), .unset, .unset, .unset, .unset]) rfl ?_
      show Steps p.tables e below (T16.setTop (mkF m 73 #[.val (.long q0), .second, .val (.long q1), .second, .val (.long q2), .second, .val (.long q3), .second, .val (.long q4), .second, .val (.int p5), .val (.ref b1), .val (.int (1 : Int32)), .val (.ref b16), .unset, .unset, .unset, .unset] [])) t
      refine XS.iload X16.here hx rfl (hb hby at_73) rfl ?_
      show Steps p.tables e below (T16.setTop (mkF m 75 #[.val (.long q0), .second, .val (.long q1), .second, .val (.long q2), .second, .val (.long q3), .second, .val (.long q4), .second, .val (.int p5), .val (.ref b1), .val (.int (1 : Int32)), .val (.ref b16), .unset, .unset, .unset, .unset] [(.int (1 : Int32))])) t
      refine XS.ifNo X16.here hx rfl (hb hby at_75) rfl (by decide) ?_
      show Steps p.tables e below (T16.setTop (mkF m 78 #[.val (.long q0), .second, .val (.long q1), .second, .val (.long q2), .second, .val (.long q3), .second, .val (.long q4), .second, .val (.int p5), .val (.ref b1), .val (.int (1 : Int32)), .val (.ref b16), .unset, .unset, .unset, .unset] [])) t
      refine XS.aload X16.here hx rfl (hb hby at_78) rfl rfl ?_
      show Steps p.tables e below (T16.setTop (mkF m 80 #[.val (.long q0), .second, .val (.long q1), .second, .val (.long q2), .second, .val (.long q3), .second, .val (.long q4), .second, .val (.int p5), .val (.ref b1), .val (.int (1 : Int32)), .val (.ref b16), .unset, .unset, .unset, .unset] [(.ref b16)])) t
      refine XS.iconst X16.here hx rfl (hb hby at_80) ?_
      show Steps p.tables e below (T16.setTop (mkF m 81 #[.val (.long q0), .second, .val (.long q1), .second, .val (.long q2), .second, .val (.long q3), .second, .val (.long q4), .second, .val (.int p5), .val (.ref b1), .val (.int (1 : Int32)), .val (.ref b16), .unset, .unset, .unset, .unset] [(.int (0 : Int32)), (.ref b16)])) t
      refine XS.aload X16.here hx rfl (hb hby at_81) rfl rfl ?_
      show Steps p.tables e below (T16.setTop (mkF m 83 #[.val (.long q0), .second, .val (.long q1), .second, .val (.long q2), .second, .val (.long q3), .second, .val (.long q4), .second, .val (.int p5), .val (.ref b1), .val (.int (1 : Int32)), .val (.ref b16), .unset, .unset, .unset, .unset] [(.ref b1), (.int (0 : Int32)), (.ref b16)])) t
      refine XS.iconst X16.here hx rfl (hb hby at_83) ?_
      show Steps p.tables e below (T16.setTop (mkF m 84 #[.val (.long q0), .second, .val (.long q1), .second, .val (.long q2), .second, .val (.long q3), .second, .val (.long q4), .second, .val (.int p5), .val (.ref b1), .val (.int (1 : Int32)), .val (.ref b16), .unset, .unset, .unset, .unset] [(.int (0 : Int32)), (.ref b1), (.int (0 : Int32)), (.ref b16)])) t
      refine own_laload X16 hx hZ e16 Pq10_0 (i := 0) (by decide) (by decide) (g := (mkF m 84 #[.val (.long q0), .second, .val (.long q1), .second, .val (.long q2), .second, .val (.long q3), .second, .val (.long q4), .second, .val (.int p5), .val (.ref b1), .val (.int (1 : Int32)), .val (.ref b16), .unset, .unset, .unset, .unset] [(.int (0 : Int32)), (.ref b1), (.int (0 : Int32)), (.ref b16)])) rfl rfl (hb hby at_84) _ ?_
      show Steps p.tables e below (T16.setTop (mkF m 85 #[.val (.long q0), .second, .val (.long q1), .second, .val (.long q2), .second, .val (.long q3), .second, .val (.long q4), .second, .val (.int p5), .val (.ref b1), .val (.int (1 : Int32)), .val (.ref b16), .unset, .unset, .unset, .unset] [(.long (t5 0)), (.int (0 : Int32)), (.ref b16)])) t
      exact kt
    obtain ⟨T17, h17, X17, e17, W17, B17, st17⟩ := own_lastore X16 hx hZ e16 Ar_b16 (i := 0) (by decide) (by decide) (g := (mkF m 85 #[.val (.long q0), .second, .val (.long q1), .second, .val (.long q2), .second, .val (.long q3), .second, .val (.long q4), .second, .val (.int p5), .val (.ref b1), .val (.int (1 : Int32)), .val (.ref b16), .unset, .unset, .unset, .unset] [(.long (t5 0)), (.int (0 : Int32)), (.ref b16)])) rfl rfl (hb hby at_85)
    refine own_go st17 ?_
    replace Pq10_0 := (Pq10_0.other W17 (ne_b1_b16))
    have N17 := Fr.snoc X17 N10 g_b16
    have Z17 : n0 ≤ h17.size := Nat.le_trans ZE16 (Keep.of_wr W17).1
    have KK17 := KKE16.wr W17 (Or.inr sz_b16)
    obtain ⟨f0, hf0⟩ : ∃ z, z = (own_set (fun _ => (0 : Int64)) 0 (t5 0)) := ⟨_, rfl⟩
    rw [← hf0] at B17
    refine own_go (T' := T17) (f' := (mkF m 135 #[.val (.long q0), .second, .val (.long q1), .second, .val (.long q2), .second, .val (.long q3), .second, .val (.long q4), .second, .val (.int p5), .val (.ref b1), .val (.int (1 : Int32)), .val (.ref b16), .unset, .unset, .unset, .unset] [(.int (((p5.toUInt32 >>> ((3 : Int32) &&& 31).toUInt32).toInt32) &&& (7 : Int32)))])) (fun t kt => ?_) ?_
    · show Steps p.tables e below (T17.setTop (mkF m 86 #[.val (.long q0), .second, .val (.long q1), .second, .val (.long q2), .second, .val (.long q3), .second, .val (.long q4), .second, .val (.int p5), .val (.ref b1), .val (.int (1 : Int32)), .val (.ref b16), .unset, .unset, .unset, .unset] [])) t
      refine XS.iload X17.here hx rfl (hb hby at_86) rfl ?_
      show Steps p.tables e below (T17.setTop (mkF m 88 #[.val (.long q0), .second, .val (.long q1), .second, .val (.long q2), .second, .val (.long q3), .second, .val (.long q4), .second, .val (.int p5), .val (.ref b1), .val (.int (1 : Int32)), .val (.ref b16), .unset, .unset, .unset, .unset] [(.int (1 : Int32))])) t
      refine XS.iconst X17.here hx rfl (hb hby at_88) ?_
      show Steps p.tables e below (T17.setTop (mkF m 89 #[.val (.long q0), .second, .val (.long q1), .second, .val (.long q2), .second, .val (.long q3), .second, .val (.long q4), .second, .val (.int p5), .val (.ref b1), .val (.int (1 : Int32)), .val (.ref b16), .unset, .unset, .unset, .unset] [(.int (1 : Int32)), (.int (1 : Int32))])) t
      refine XS.icmpYes X17.here hx rfl (pc0 := 89) (pc' := 100) rfl (hb hby at_89) rfl (by decide) (by decide) (by decide) ?_
      show Steps p.tables e below (T17.setTop (mkF m 100 #[.val (.long q0), .second, .val (.long q1), .second, .val (.long q2), .second, .val (.long q3), .second, .val (.long q4), .second, .val (.int p5), .val (.ref b1), .val (.int (1 : Int32)), .val (.ref b16), .unset, .unset, .unset, .unset] [])) t
      refine XS.iload X17.here hx rfl (hb hby at_100) rfl ?_
      show Steps p.tables e below (T17.setTop (mkF m 102 #[.val (.long q0), .second, .val (.long q1), .second, .val (.long q2), .second, .val (.long q3), .second, .val (.long q4), .second, .val (.int p5), .val (.ref b1), .val (.int (1 : Int32)), .val (.ref b16), .unset, .unset, .unset, .unset] [(.int (1 : Int32))])) t
      refine XS.iconst X17.here hx rfl (hb hby at_102) ?_
      show Steps p.tables e below (T17.setTop (mkF m 103 #[.val (.long q0), .second, .val (.long q1), .second, .val (.long q2), .second, .val (.long q3), .second, .val (.long q4), .second, .val (.int p5), .val (.ref b1), .val (.int (1 : Int32)), .val (.ref b16), .unset, .unset, .unset, .unset] [(.int (2 : Int32)), (.int (1 : Int32))])) t
      refine XS.icmpYes X17.here hx rfl (pc0 := 103) (pc' := 114) rfl (hb hby at_103) rfl (by decide) (by decide) (by decide) ?_
      show Steps p.tables e below (T17.setTop (mkF m 114 #[.val (.long q0), .second, .val (.long q1), .second, .val (.long q2), .second, .val (.long q3), .second, .val (.long q4), .second, .val (.int p5), .val (.ref b1), .val (.int (1 : Int32)), .val (.ref b16), .unset, .unset, .unset, .unset] [])) t
      refine XS.iload X17.here hx rfl (hb hby at_114) rfl ?_
      show Steps p.tables e below (T17.setTop (mkF m 116 #[.val (.long q0), .second, .val (.long q1), .second, .val (.long q2), .second, .val (.long q3), .second, .val (.long q4), .second, .val (.int p5), .val (.ref b1), .val (.int (1 : Int32)), .val (.ref b16), .unset, .unset, .unset, .unset] [(.int (1 : Int32))])) t
      refine XS.iconst X17.here hx rfl (hb hby at_116) ?_
      show Steps p.tables e below (T17.setTop (mkF m 117 #[.val (.long q0), .second, .val (.long q1), .second, .val (.long q2), .second, .val (.long q3), .second, .val (.long q4), .second, .val (.int p5), .val (.ref b1), .val (.int (1 : Int32)), .val (.ref b16), .unset, .unset, .unset, .unset] [(.int (3 : Int32)), (.int (1 : Int32))])) t
      refine XS.icmpYes X17.here hx rfl (pc0 := 117) (pc' := 128) rfl (hb hby at_117) rfl (by decide) (by decide) (by decide) ?_
      show Steps p.tables e below (T17.setTop (mkF m 128 #[.val (.long q0), .second, .val (.long q1), .second, .val (.long q2), .second, .val (.long q3), .second, .val (.long q4), .second, .val (.int p5), .val (.ref b1), .val (.int (1 : Int32)), .val (.ref b16), .unset, .unset, .unset, .unset] [])) t
      refine XS.iload X17.here hx rfl (hb hby at_128) rfl ?_
      show Steps p.tables e below (T17.setTop (mkF m 130 #[.val (.long q0), .second, .val (.long q1), .second, .val (.long q2), .second, .val (.long q3), .second, .val (.long q4), .second, .val (.int p5), .val (.ref b1), .val (.int (1 : Int32)), .val (.ref b16), .unset, .unset, .unset, .unset] [(.int p5)])) t
      refine XS.iconst X17.here hx rfl (hb hby at_130) ?_
      show Steps p.tables e below (T17.setTop (mkF m 131 #[.val (.long q0), .second, .val (.long q1), .second, .val (.long q2), .second, .val (.long q3), .second, .val (.long q4), .second, .val (.int p5), .val (.ref b1), .val (.int (1 : Int32)), .val (.ref b16), .unset, .unset, .unset, .unset] [(.int (3 : Int32)), (.int p5)])) t
      refine XS.iushr X17.here hx rfl (hb hby at_131) rfl ?_
      show Steps p.tables e below (T17.setTop (mkF m 132 #[.val (.long q0), .second, .val (.long q1), .second, .val (.long q2), .second, .val (.long q3), .second, .val (.long q4), .second, .val (.int p5), .val (.ref b1), .val (.int (1 : Int32)), .val (.ref b16), .unset, .unset, .unset, .unset] [(.int ((p5.toUInt32 >>> ((3 : Int32) &&& 31).toUInt32).toInt32))])) t
      refine XS.bipush X17.here hx rfl (hb hby at_132) ?_
      show Steps p.tables e below (T17.setTop (mkF m 134 #[.val (.long q0), .second, .val (.long q1), .second, .val (.long q2), .second, .val (.long q3), .second, .val (.long q4), .second, .val (.int p5), .val (.ref b1), .val (.int (1 : Int32)), .val (.ref b16), .unset, .unset, .unset, .unset] [(.int (7 : Int32)), (.int ((p5.toUInt32 >>> ((3 : Int32) &&& 31).toUInt32).toInt32))])) t
      refine XS.iand X17.here hx rfl (hb hby at_134) rfl ?_
      show Steps p.tables e below (T17.setTop (mkF m 135 #[.val (.long q0), .second, .val (.long q1), .second, .val (.long q2), .second, .val (.long q3), .second, .val (.long q4), .second, .val (.int p5), .val (.ref b1), .val (.int (1 : Int32)), .val (.ref b16), .unset, .unset, .unset, .unset] [(.int (((p5.toUInt32 >>> ((3 : Int32) &&& 31).toUInt32).toInt32) &&& (7 : Int32)))])) t
      exact kt
    obtain ⟨sel, hsel⟩ : ∃ z, z = (((p5.toUInt32 >>> ((3 : Int32) &&& 31).toUInt32).toInt32) &&& (7 : Int32)) := ⟨_, rfl⟩
    rw [← hsel]
    refine own_go (T' := T17) (f' := (mkF m 141 #[.val (.long q0), .second, .val (.long q1), .second, .val (.long q2), .second, .val (.long q3), .second, .val (.long q4), .second, .val (.int p5), .val (.ref b1), .val (.int (1 : Int32)), .val (.ref b16), .val (.int sel), .val (.long q4), .second, .unset] [])) (fun t kt => ?_) ?_
    · show Steps p.tables e below (T17.setTop (mkF m 135 #[.val (.long q0), .second, .val (.long q1), .second, .val (.long q2), .second, .val (.long q3), .second, .val (.long q4), .second, .val (.int p5), .val (.ref b1), .val (.int (1 : Int32)), .val (.ref b16), .unset, .unset, .unset, .unset] [(.int sel)])) t
      refine XS.istore X17.here hx rfl (hb hby at_135) rfl (l' := #[.val (.long q0), .second, .val (.long q1), .second, .val (.long q2), .second, .val (.long q3), .second, .val (.long q4), .second, .val (.int p5), .val (.ref b1), .val (.int (1 : Int32)), .val (.ref b16), .val (.int sel), .unset, .unset, .unset]) rfl ?_
      show Steps p.tables e below (T17.setTop (mkF m 137 #[.val (.long q0), .second, .val (.long q1), .second, .val (.long q2), .second, .val (.long q3), .second, .val (.long q4), .second, .val (.int p5), .val (.ref b1), .val (.int (1 : Int32)), .val (.ref b16), .val (.int sel), .unset, .unset, .unset] [])) t
      refine XS.lload X17.here hx rfl (hb hby at_137) rfl ?_
      show Steps p.tables e below (T17.setTop (mkF m 139 #[.val (.long q0), .second, .val (.long q1), .second, .val (.long q2), .second, .val (.long q3), .second, .val (.long q4), .second, .val (.int p5), .val (.ref b1), .val (.int (1 : Int32)), .val (.ref b16), .val (.int sel), .unset, .unset, .unset] [(.long q4)])) t
      refine XS.lstore X17.here hx rfl (hb hby at_139) rfl (l' := #[.val (.long q0), .second, .val (.long q1), .second, .val (.long q2), .second, .val (.long q3), .second, .val (.long q4), .second, .val (.int p5), .val (.ref b1), .val (.int (1 : Int32)), .val (.ref b16), .val (.int sel), .val (.long q4), .second, .unset]) rfl ?_
      show Steps p.tables e below (T17.setTop (mkF m 141 #[.val (.long q0), .second, .val (.long q1), .second, .val (.long q2), .second, .val (.long q3), .second, .val (.long q4), .second, .val (.int p5), .val (.ref b1), .val (.int (1 : Int32)), .val (.ref b16), .val (.int sel), .val (.long q4), .second, .unset] [])) t
      exact kt
    have J177 : ∀ (Tj18 : State) (lj18 : List Loc) (vv : Int64) (Xj18 : Stand p l e room_1 s m #[(.long q0), (.long q1), (.long q2), (.long q3), (.long q4), (.int p5)] below meth c Tj18 lj18 2 5) (Nj18 : Fr n0 lj18) (ej18 : Tj18.heap = h17), own_End p e below P Tj18 (mkF m 177 #[.val (.long q0), .second, .val (.long q1), .second, .val (.long q2), .second, .val (.long q3), .second, .val (.long q4), .second, .val (.int p5), .val (.ref b1), .val (.int (1 : Int32)), .val (.ref b16), .val (.int sel), .val (.long vv), .second, .unset] []) := by
      intro Tj18 lj18 vv Xj18 Nj18 ej18
      refine own_go (T' := Tj18) (f' := (mkF m 192 #[.val (.long q0), .second, .val (.long q1), .second, .val (.long q2), .second, .val (.long q3), .second, .val (.long q4), .second, .val (.int p5), .val (.ref b1), .val (.int (1 : Int32)), .val (.ref b16), .val (.int sel), .val (.long vv), .second, .val (.int (0 : Int32))] [(.int (lcmpW (f0 0) vv))])) (fun t kt => ?_) ?_
      · show Steps p.tables e below (Tj18.setTop (mkF m 177 #[.val (.long q0), .second, .val (.long q1), .second, .val (.long q2), .second, .val (.long q3), .second, .val (.long q4), .second, .val (.int p5), .val (.ref b1), .val (.int (1 : Int32)), .val (.ref b16), .val (.int sel), .val (.long vv), .second, .unset] [])) t
        refine XS.iconst Xj18.here hx rfl (hb hby at_177) ?_
        show Steps p.tables e below (Tj18.setTop (mkF m 178 #[.val (.long q0), .second, .val (.long q1), .second, .val (.long q2), .second, .val (.long q3), .second, .val (.long q4), .second, .val (.int p5), .val (.ref b1), .val (.int (1 : Int32)), .val (.ref b16), .val (.int sel), .val (.long vv), .second, .unset] [(.int (0 : Int32))])) t
        refine XS.istore Xj18.here hx rfl (hb hby at_178) rfl (l' := #[.val (.long q0), .second, .val (.long q1), .second, .val (.long q2), .second, .val (.long q3), .second, .val (.long q4), .second, .val (.int p5), .val (.ref b1), .val (.int (1 : Int32)), .val (.ref b16), .val (.int sel), .val (.long vv), .second, .val (.int (0 : Int32))]) rfl ?_
        show Steps p.tables e below (Tj18.setTop (mkF m 180 #[.val (.long q0), .second, .val (.long q1), .second, .val (.long q2), .second, .val (.long q3), .second, .val (.long q4), .second, .val (.int p5), .val (.ref b1), .val (.int (1 : Int32)), .val (.ref b16), .val (.int sel), .val (.long vv), .second, .val (.int (0 : Int32))] [])) t
        refine XS.iload Xj18.here hx rfl (hb hby at_180) rfl ?_
        show Steps p.tables e below (Tj18.setTop (mkF m 182 #[.val (.long q0), .second, .val (.long q1), .second, .val (.long q2), .second, .val (.long q3), .second, .val (.long q4), .second, .val (.int p5), .val (.ref b1), .val (.int (1 : Int32)), .val (.ref b16), .val (.int sel), .val (.long vv), .second, .val (.int (0 : Int32))] [(.int (1 : Int32))])) t
        refine XS.ifNo Xj18.here hx rfl (hb hby at_182) rfl (by decide) ?_
        show Steps p.tables e below (Tj18.setTop (mkF m 185 #[.val (.long q0), .second, .val (.long q1), .second, .val (.long q2), .second, .val (.long q3), .second, .val (.long q4), .second, .val (.int p5), .val (.ref b1), .val (.int (1 : Int32)), .val (.ref b16), .val (.int sel), .val (.long vv), .second, .val (.int (0 : Int32))] [])) t
        refine XS.aload Xj18.here hx rfl (hb hby at_185) rfl rfl ?_
        show Steps p.tables e below (Tj18.setTop (mkF m 187 #[.val (.long q0), .second, .val (.long q1), .second, .val (.long q2), .second, .val (.long q3), .second, .val (.long q4), .second, .val (.int p5), .val (.ref b1), .val (.int (1 : Int32)), .val (.ref b16), .val (.int sel), .val (.long vv), .second, .val (.int (0 : Int32))] [(.ref b16)])) t
        refine XS.iconst Xj18.here hx rfl (hb hby at_187) ?_
        show Steps p.tables e below (Tj18.setTop (mkF m 188 #[.val (.long q0), .second, .val (.long q1), .second, .val (.long q2), .second, .val (.long q3), .second, .val (.long q4), .second, .val (.int p5), .val (.ref b1), .val (.int (1 : Int32)), .val (.ref b16), .val (.int sel), .val (.long vv), .second, .val (.int (0 : Int32))] [(.int (0 : Int32)), (.ref b16)])) t
        refine own_laload Xj18 hx hZ ej18 B17 (i := 0) (by decide) (by decide) (g := (mkF m 188 #[.val (.long q0), .second, .val (.long q1), .second, .val (.long q2), .second, .val (.long q3), .second, .val (.long q4), .second, .val (.int p5), .val (.ref b1), .val (.int (1 : Int32)), .val (.ref b16), .val (.int sel), .val (.long vv), .second, .val (.int (0 : Int32))] [(.int (0 : Int32)), (.ref b16)])) rfl rfl (hb hby at_188) _ ?_
        show Steps p.tables e below (Tj18.setTop (mkF m 189 #[.val (.long q0), .second, .val (.long q1), .second, .val (.long q2), .second, .val (.long q3), .second, .val (.long q4), .second, .val (.int p5), .val (.ref b1), .val (.int (1 : Int32)), .val (.ref b16), .val (.int sel), .val (.long vv), .second, .val (.int (0 : Int32))] [(.long (f0 0))])) t
        refine XS.lload Xj18.here hx rfl (hb hby at_189) rfl ?_
        show Steps p.tables e below (Tj18.setTop (mkF m 191 #[.val (.long q0), .second, .val (.long q1), .second, .val (.long q2), .second, .val (.long q3), .second, .val (.long q4), .second, .val (.int p5), .val (.ref b1), .val (.int (1 : Int32)), .val (.ref b16), .val (.int sel), .val (.long vv), .second, .val (.int (0 : Int32))] [(.long vv), (.long (f0 0))])) t
        refine XS.lcmp Xj18.here hx rfl (hb hby at_191) rfl ?_
        show Steps p.tables e below (Tj18.setTop (mkF m 192 #[.val (.long q0), .second, .val (.long q1), .second, .val (.long q2), .second, .val (.long q3), .second, .val (.long q4), .second, .val (.int p5), .val (.ref b1), .val (.int (1 : Int32)), .val (.ref b16), .val (.int sel), .val (.long vv), .second, .val (.int (0 : Int32))] [(.int (lcmpW (f0 0) vv))])) t
        exact kt
      by_cases hc192_19 : (f0 0) < vv
      · refine own_go (T' := Tj18) (f' := (mkF m 259 #[.val (.long q0), .second, .val (.long q1), .second, .val (.long q2), .second, .val (.long q3), .second, .val (.long q4), .second, .val (.int p5), .val (.ref b1), .val (.int (1 : Int32)), .val (.ref b16), .val (.int sel), .val (.long vv), .second, .val (.int (1 : Int32))] [(.long vv), (.ref b16)])) (fun t kt => ?_) ?_
        · show Steps p.tables e below (Tj18.setTop (mkF m 192 #[.val (.long q0), .second, .val (.long q1), .second, .val (.long q2), .second, .val (.long q3), .second, .val (.long q4), .second, .val (.int p5), .val (.ref b1), .val (.int (1 : Int32)), .val (.ref b16), .val (.int sel), .val (.long vv), .second, .val (.int (0 : Int32))] [(.int (lcmpW (f0 0) vv))])) t
          refine XS.ifNo Xj18.here hx rfl (hb hby at_192) rfl (own_lN_ge hc192_19) ?_
          show Steps p.tables e below (Tj18.setTop (mkF m 195 #[.val (.long q0), .second, .val (.long q1), .second, .val (.long q2), .second, .val (.long q3), .second, .val (.long q4), .second, .val (.int p5), .val (.ref b1), .val (.int (1 : Int32)), .val (.ref b16), .val (.int sel), .val (.long vv), .second, .val (.int (0 : Int32))] [])) t
          refine XS.iinc Xj18.here hx rfl (hb hby at_195) rfl (l' := #[.val (.long q0), .second, .val (.long q1), .second, .val (.long q2), .second, .val (.long q3), .second, .val (.long q4), .second, .val (.int p5), .val (.ref b1), .val (.int (1 : Int32)), .val (.ref b16), .val (.int sel), .val (.long vv), .second, .val (.int (1 : Int32))]) rfl ?_
          show Steps p.tables e below (Tj18.setTop (mkF m 198 #[.val (.long q0), .second, .val (.long q1), .second, .val (.long q2), .second, .val (.long q3), .second, .val (.long q4), .second, .val (.int p5), .val (.ref b1), .val (.int (1 : Int32)), .val (.ref b16), .val (.int sel), .val (.long vv), .second, .val (.int (1 : Int32))] [])) t
          refine XS.iload Xj18.here hx rfl (hb hby at_198) rfl ?_
          show Steps p.tables e below (Tj18.setTop (mkF m 200 #[.val (.long q0), .second, .val (.long q1), .second, .val (.long q2), .second, .val (.long q3), .second, .val (.long q4), .second, .val (.int p5), .val (.ref b1), .val (.int (1 : Int32)), .val (.ref b16), .val (.int sel), .val (.long vv), .second, .val (.int (1 : Int32))] [(.int (1 : Int32))])) t
          refine XS.iconst Xj18.here hx rfl (hb hby at_200) ?_
          show Steps p.tables e below (Tj18.setTop (mkF m 201 #[.val (.long q0), .second, .val (.long q1), .second, .val (.long q2), .second, .val (.long q3), .second, .val (.long q4), .second, .val (.int p5), .val (.ref b1), .val (.int (1 : Int32)), .val (.ref b16), .val (.int sel), .val (.long vv), .second, .val (.int (1 : Int32))] [(.int (1 : Int32)), (.int (1 : Int32))])) t
          refine XS.icmpYes Xj18.here hx rfl (pc0 := 201) (pc' := 217) rfl (hb hby at_201) rfl (by decide) (by decide) (by decide) ?_
          show Steps p.tables e below (Tj18.setTop (mkF m 217 #[.val (.long q0), .second, .val (.long q1), .second, .val (.long q2), .second, .val (.long q3), .second, .val (.long q4), .second, .val (.int p5), .val (.ref b1), .val (.int (1 : Int32)), .val (.ref b16), .val (.int sel), .val (.long vv), .second, .val (.int (1 : Int32))] [])) t
          refine XS.iload Xj18.here hx rfl (hb hby at_217) rfl ?_
          show Steps p.tables e below (Tj18.setTop (mkF m 219 #[.val (.long q0), .second, .val (.long q1), .second, .val (.long q2), .second, .val (.long q3), .second, .val (.long q4), .second, .val (.int p5), .val (.ref b1), .val (.int (1 : Int32)), .val (.ref b16), .val (.int sel), .val (.long vv), .second, .val (.int (1 : Int32))] [(.int (1 : Int32))])) t
          refine XS.iconst Xj18.here hx rfl (hb hby at_219) ?_
          show Steps p.tables e below (Tj18.setTop (mkF m 220 #[.val (.long q0), .second, .val (.long q1), .second, .val (.long q2), .second, .val (.long q3), .second, .val (.long q4), .second, .val (.int p5), .val (.ref b1), .val (.int (1 : Int32)), .val (.ref b16), .val (.int sel), .val (.long vv), .second, .val (.int (1 : Int32))] [(.int (2 : Int32)), (.int (1 : Int32))])) t
          refine XS.icmpYes Xj18.here hx rfl (pc0 := 220) (pc' := 236) rfl (hb hby at_220) rfl (by decide) (by decide) (by decide) ?_
          show Steps p.tables e below (Tj18.setTop (mkF m 236 #[.val (.long q0), .second, .val (.long q1), .second, .val (.long q2), .second, .val (.long q3), .second, .val (.long q4), .second, .val (.int p5), .val (.ref b1), .val (.int (1 : Int32)), .val (.ref b16), .val (.int sel), .val (.long vv), .second, .val (.int (1 : Int32))] [])) t
          refine XS.iload Xj18.here hx rfl (hb hby at_236) rfl ?_
          show Steps p.tables e below (Tj18.setTop (mkF m 238 #[.val (.long q0), .second, .val (.long q1), .second, .val (.long q2), .second, .val (.long q3), .second, .val (.long q4), .second, .val (.int p5), .val (.ref b1), .val (.int (1 : Int32)), .val (.ref b16), .val (.int sel), .val (.long vv), .second, .val (.int (1 : Int32))] [(.int (1 : Int32))])) t
          refine XS.iconst Xj18.here hx rfl (hb hby at_238) ?_
          show Steps p.tables e below (Tj18.setTop (mkF m 239 #[.val (.long q0), .second, .val (.long q1), .second, .val (.long q2), .second, .val (.long q3), .second, .val (.long q4), .second, .val (.int p5), .val (.ref b1), .val (.int (1 : Int32)), .val (.ref b16), .val (.int sel), .val (.long vv), .second, .val (.int (1 : Int32))] [(.int (3 : Int32)), (.int (1 : Int32))])) t
          refine XS.icmpYes Xj18.here hx rfl (pc0 := 239) (pc' := 255) rfl (hb hby at_239) rfl (by decide) (by decide) (by decide) ?_
          show Steps p.tables e below (Tj18.setTop (mkF m 255 #[.val (.long q0), .second, .val (.long q1), .second, .val (.long q2), .second, .val (.long q3), .second, .val (.long q4), .second, .val (.int p5), .val (.ref b1), .val (.int (1 : Int32)), .val (.ref b16), .val (.int sel), .val (.long vv), .second, .val (.int (1 : Int32))] [])) t
          refine XS.aload Xj18.here hx rfl (hb hby at_255) rfl rfl ?_
          show Steps p.tables e below (Tj18.setTop (mkF m 257 #[.val (.long q0), .second, .val (.long q1), .second, .val (.long q2), .second, .val (.long q3), .second, .val (.long q4), .second, .val (.int p5), .val (.ref b1), .val (.int (1 : Int32)), .val (.ref b16), .val (.int sel), .val (.long vv), .second, .val (.int (1 : Int32))] [(.ref b16)])) t
          refine XS.lload Xj18.here hx rfl (hb hby at_257) rfl ?_
          show Steps p.tables e below (Tj18.setTop (mkF m 259 #[.val (.long q0), .second, .val (.long q1), .second, .val (.long q2), .second, .val (.long q3), .second, .val (.long q4), .second, .val (.int p5), .val (.ref b1), .val (.int (1 : Int32)), .val (.ref b16), .val (.int sel), .val (.long vv), .second, .val (.int (1 : Int32))] [(.long vv), (.ref b16)])) t
          exact kt
        refine own_callSp Xj18 hx hZ hown ej18 (hw _ (List.mem_of_getElem? (i := 5) rfl)) (hw _ (List.mem_of_getElem? (i := 6) rfl)) (hw _ (List.mem_of_getElem? (i := 7) rfl)) (hw _ (List.mem_of_getElem? (i := 8) rfl)) (by decide) (rm2 l Z aw hw b16 vv 1 f0 (1 : Int32) h17 n0 Z17 B17 (by decide) (by decide) (own_p1 hf0 (own_net ht1 ht2 ht3 ht4 ht5))) (g := (mkF m 259 #[.val (.long q0), .second, .val (.long q1), .second, .val (.long q2), .second, .val (.long q3), .second, .val (.long q4), .second, .val (.int p5), .val (.ref b1), .val (.int (1 : Int32)), .val (.ref b16), .val (.int sel), .val (.long vv), .second, .val (.int (1 : Int32))] [(.long vv), (.ref b16)])) rfl (by rw [hml]; rfl) (argsL := [(.ref b16), (.long vv)]) (rest := []) (lenOf pd_1 rfl) rfl rfl (W := 0) (by show 2 * 0 + _ ≤ _; exact Nat.le_of_eq rfl) (hb hby at_259) (by decide) (by decide) (by decide) (by decide) ?_
        intro T20 X20 e20
        refine own_go (T' := T20) (f' := (mkF m 272 #[.val (.long q0), .second, .val (.long q1), .second, .val (.long q2), .second, .val (.long q3), .second, .val (.long q4), .second, .val (.int p5), .val (.ref b1), .val (.int (1 : Int32)), .val (.ref b16), .val (.int sel), .val (.long vv), .second, .val (.int (1 : Int32))] [(.int (1 : Int32))])) (fun t kt => ?_) ?_
        · show Steps p.tables e below (T20.setTop (mkF m 262 #[.val (.long q0), .second, .val (.long q1), .second, .val (.long q2), .second, .val (.long q3), .second, .val (.long q4), .second, .val (.int p5), .val (.ref b1), .val (.int (1 : Int32)), .val (.ref b16), .val (.int sel), .val (.long vv), .second, .val (.int (1 : Int32))] [(.int (Int32.ofNat (own_cnt 1 f0 vv)))])) t
          refine XS.iload X20.here hx rfl (hb hby at_262) rfl ?_
          show Steps p.tables e below (T20.setTop (mkF m 264 #[.val (.long q0), .second, .val (.long q1), .second, .val (.long q2), .second, .val (.long q3), .second, .val (.long q4), .second, .val (.int p5), .val (.ref b1), .val (.int (1 : Int32)), .val (.ref b16), .val (.int sel), .val (.long vv), .second, .val (.int (1 : Int32))] [(.int (1 : Int32)), (.int (Int32.ofNat (own_cnt 1 f0 vv)))])) t
          refine XS.icmpNo X20.here hx rfl (hb hby at_264) rfl (teq (show (Int32.ofNat (own_cnt 1 f0 vv)) = (1 : Int32) from by simp only [own_cnt, if_pos hc192_19]; rfl)).2 ?_
          show Steps p.tables e below (T20.setTop (mkF m 267 #[.val (.long q0), .second, .val (.long q1), .second, .val (.long q2), .second, .val (.long q3), .second, .val (.long q4), .second, .val (.int p5), .val (.ref b1), .val (.int (1 : Int32)), .val (.ref b16), .val (.int sel), .val (.long vv), .second, .val (.int (1 : Int32))] [])) t
          refine XS.iconst X20.here hx rfl (hb hby at_267) ?_
          show Steps p.tables e below (T20.setTop (mkF m 268 #[.val (.long q0), .second, .val (.long q1), .second, .val (.long q2), .second, .val (.long q3), .second, .val (.long q4), .second, .val (.int p5), .val (.ref b1), .val (.int (1 : Int32)), .val (.ref b16), .val (.int sel), .val (.long vv), .second, .val (.int (1 : Int32))] [(.int (1 : Int32))])) t
          refine XS.goto X20.here hx rfl (pc0 := 268) (pc' := 272) rfl (hb hby at_268) (by decide) (by decide) ?_
          show Steps p.tables e below (T20.setTop (mkF m 272 #[.val (.long q0), .second, .val (.long q1), .second, .val (.long q2), .second, .val (.long q3), .second, .val (.long q4), .second, .val (.int p5), .val (.ref b1), .val (.int (1 : Int32)), .val (.ref b16), .val (.int sel), .val (.long vv), .second, .val (.int (1 : Int32))] [(.int (1 : Int32))])) t
          exact kt
        exact own_retN X20 hP hx hlk e20 (t := .boolean) hret (by simp) (hb hby at_272) (by decide) (by decide) (z' := (1 : Int32)) rfl ⟨rfl, Nj18⟩
      · refine own_go (T' := Tj18) (f' := (mkF m 259 #[.val (.long q0), .second, .val (.long q1), .second, .val (.long q2), .second, .val (.long q3), .second, .val (.long q4), .second, .val (.int p5), .val (.ref b1), .val (.int (1 : Int32)), .val (.ref b16), .val (.int sel), .val (.long vv), .second, .val (.int (0 : Int32))] [(.long vv), (.ref b16)])) (fun t kt => ?_) ?_
        · show Steps p.tables e below (Tj18.setTop (mkF m 192 #[.val (.long q0), .second, .val (.long q1), .second, .val (.long q2), .second, .val (.long q3), .second, .val (.long q4), .second, .val (.int p5), .val (.ref b1), .val (.int (1 : Int32)), .val (.ref b16), .val (.int sel), .val (.long vv), .second, .val (.int (0 : Int32))] [(.int (lcmpW (f0 0) vv))])) t
          refine XS.ifYes Xj18.here hx rfl (pc0 := 192) (pc' := 198) rfl (hb hby at_192) rfl (own_lY_ge hc192_19) (by decide) (by decide) ?_
          show Steps p.tables e below (Tj18.setTop (mkF m 198 #[.val (.long q0), .second, .val (.long q1), .second, .val (.long q2), .second, .val (.long q3), .second, .val (.long q4), .second, .val (.int p5), .val (.ref b1), .val (.int (1 : Int32)), .val (.ref b16), .val (.int sel), .val (.long vv), .second, .val (.int (0 : Int32))] [])) t
          refine XS.iload Xj18.here hx rfl (hb hby at_198) rfl ?_
          show Steps p.tables e below (Tj18.setTop (mkF m 200 #[.val (.long q0), .second, .val (.long q1), .second, .val (.long q2), .second, .val (.long q3), .second, .val (.long q4), .second, .val (.int p5), .val (.ref b1), .val (.int (1 : Int32)), .val (.ref b16), .val (.int sel), .val (.long vv), .second, .val (.int (0 : Int32))] [(.int (1 : Int32))])) t
          refine XS.iconst Xj18.here hx rfl (hb hby at_200) ?_
          show Steps p.tables e below (Tj18.setTop (mkF m 201 #[.val (.long q0), .second, .val (.long q1), .second, .val (.long q2), .second, .val (.long q3), .second, .val (.long q4), .second, .val (.int p5), .val (.ref b1), .val (.int (1 : Int32)), .val (.ref b16), .val (.int sel), .val (.long vv), .second, .val (.int (0 : Int32))] [(.int (1 : Int32)), (.int (1 : Int32))])) t
          refine XS.icmpYes Xj18.here hx rfl (pc0 := 201) (pc' := 217) rfl (hb hby at_201) rfl (by decide) (by decide) (by decide) ?_
          show Steps p.tables e below (Tj18.setTop (mkF m 217 #[.val (.long q0), .second, .val (.long q1), .second, .val (.long q2), .second, .val (.long q3), .second, .val (.long q4), .second, .val (.int p5), .val (.ref b1), .val (.int (1 : Int32)), .val (.ref b16), .val (.int sel), .val (.long vv), .second, .val (.int (0 : Int32))] [])) t
          refine XS.iload Xj18.here hx rfl (hb hby at_217) rfl ?_
          show Steps p.tables e below (Tj18.setTop (mkF m 219 #[.val (.long q0), .second, .val (.long q1), .second, .val (.long q2), .second, .val (.long q3), .second, .val (.long q4), .second, .val (.int p5), .val (.ref b1), .val (.int (1 : Int32)), .val (.ref b16), .val (.int sel), .val (.long vv), .second, .val (.int (0 : Int32))] [(.int (1 : Int32))])) t
          refine XS.iconst Xj18.here hx rfl (hb hby at_219) ?_
          show Steps p.tables e below (Tj18.setTop (mkF m 220 #[.val (.long q0), .second, .val (.long q1), .second, .val (.long q2), .second, .val (.long q3), .second, .val (.long q4), .second, .val (.int p5), .val (.ref b1), .val (.int (1 : Int32)), .val (.ref b16), .val (.int sel), .val (.long vv), .second, .val (.int (0 : Int32))] [(.int (2 : Int32)), (.int (1 : Int32))])) t
          refine XS.icmpYes Xj18.here hx rfl (pc0 := 220) (pc' := 236) rfl (hb hby at_220) rfl (by decide) (by decide) (by decide) ?_
          show Steps p.tables e below (Tj18.setTop (mkF m 236 #[.val (.long q0), .second, .val (.long q1), .second, .val (.long q2), .second, .val (.long q3), .second, .val (.long q4), .second, .val (.int p5), .val (.ref b1), .val (.int (1 : Int32)), .val (.ref b16), .val (.int sel), .val (.long vv), .second, .val (.int (0 : Int32))] [])) t
          refine XS.iload Xj18.here hx rfl (hb hby at_236) rfl ?_
          show Steps p.tables e below (Tj18.setTop (mkF m 238 #[.val (.long q0), .second, .val (.long q1), .second, .val (.long q2), .second, .val (.long q3), .second, .val (.long q4), .second, .val (.int p5), .val (.ref b1), .val (.int (1 : Int32)), .val (.ref b16), .val (.int sel), .val (.long vv), .second, .val (.int (0 : Int32))] [(.int (1 : Int32))])) t
          refine XS.iconst Xj18.here hx rfl (hb hby at_238) ?_
          show Steps p.tables e below (Tj18.setTop (mkF m 239 #[.val (.long q0), .second, .val (.long q1), .second, .val (.long q2), .second, .val (.long q3), .second, .val (.long q4), .second, .val (.int p5), .val (.ref b1), .val (.int (1 : Int32)), .val (.ref b16), .val (.int sel), .val (.long vv), .second, .val (.int (0 : Int32))] [(.int (3 : Int32)), (.int (1 : Int32))])) t
          refine XS.icmpYes Xj18.here hx rfl (pc0 := 239) (pc' := 255) rfl (hb hby at_239) rfl (by decide) (by decide) (by decide) ?_
          show Steps p.tables e below (Tj18.setTop (mkF m 255 #[.val (.long q0), .second, .val (.long q1), .second, .val (.long q2), .second, .val (.long q3), .second, .val (.long q4), .second, .val (.int p5), .val (.ref b1), .val (.int (1 : Int32)), .val (.ref b16), .val (.int sel), .val (.long vv), .second, .val (.int (0 : Int32))] [])) t
          refine XS.aload Xj18.here hx rfl (hb hby at_255) rfl rfl ?_
          show Steps p.tables e below (Tj18.setTop (mkF m 257 #[.val (.long q0), .second, .val (.long q1), .second, .val (.long q2), .second, .val (.long q3), .second, .val (.long q4), .second, .val (.int p5), .val (.ref b1), .val (.int (1 : Int32)), .val (.ref b16), .val (.int sel), .val (.long vv), .second, .val (.int (0 : Int32))] [(.ref b16)])) t
          refine XS.lload Xj18.here hx rfl (hb hby at_257) rfl ?_
          show Steps p.tables e below (Tj18.setTop (mkF m 259 #[.val (.long q0), .second, .val (.long q1), .second, .val (.long q2), .second, .val (.long q3), .second, .val (.long q4), .second, .val (.int p5), .val (.ref b1), .val (.int (1 : Int32)), .val (.ref b16), .val (.int sel), .val (.long vv), .second, .val (.int (0 : Int32))] [(.long vv), (.ref b16)])) t
          exact kt
        refine own_callSp Xj18 hx hZ hown ej18 (hw _ (List.mem_of_getElem? (i := 5) rfl)) (hw _ (List.mem_of_getElem? (i := 6) rfl)) (hw _ (List.mem_of_getElem? (i := 7) rfl)) (hw _ (List.mem_of_getElem? (i := 8) rfl)) (by decide) (rm2 l Z aw hw b16 vv 1 f0 (1 : Int32) h17 n0 Z17 B17 (by decide) (by decide) (own_p1 hf0 (own_net ht1 ht2 ht3 ht4 ht5))) (g := (mkF m 259 #[.val (.long q0), .second, .val (.long q1), .second, .val (.long q2), .second, .val (.long q3), .second, .val (.long q4), .second, .val (.int p5), .val (.ref b1), .val (.int (1 : Int32)), .val (.ref b16), .val (.int sel), .val (.long vv), .second, .val (.int (0 : Int32))] [(.long vv), (.ref b16)])) rfl (by rw [hml]; rfl) (argsL := [(.ref b16), (.long vv)]) (rest := []) (lenOf pd_1 rfl) rfl rfl (W := 0) (by show 2 * 0 + _ ≤ _; exact Nat.le_of_eq rfl) (hb hby at_259) (by decide) (by decide) (by decide) (by decide) ?_
        intro T21 X21 e21
        refine own_go (T' := T21) (f' := (mkF m 272 #[.val (.long q0), .second, .val (.long q1), .second, .val (.long q2), .second, .val (.long q3), .second, .val (.long q4), .second, .val (.int p5), .val (.ref b1), .val (.int (1 : Int32)), .val (.ref b16), .val (.int sel), .val (.long vv), .second, .val (.int (0 : Int32))] [(.int (1 : Int32))])) (fun t kt => ?_) ?_
        · show Steps p.tables e below (T21.setTop (mkF m 262 #[.val (.long q0), .second, .val (.long q1), .second, .val (.long q2), .second, .val (.long q3), .second, .val (.long q4), .second, .val (.int p5), .val (.ref b1), .val (.int (1 : Int32)), .val (.ref b16), .val (.int sel), .val (.long vv), .second, .val (.int (0 : Int32))] [(.int (Int32.ofNat (own_cnt 1 f0 vv)))])) t
          refine XS.iload X21.here hx rfl (hb hby at_262) rfl ?_
          show Steps p.tables e below (T21.setTop (mkF m 264 #[.val (.long q0), .second, .val (.long q1), .second, .val (.long q2), .second, .val (.long q3), .second, .val (.long q4), .second, .val (.int p5), .val (.ref b1), .val (.int (1 : Int32)), .val (.ref b16), .val (.int sel), .val (.long vv), .second, .val (.int (0 : Int32))] [(.int (0 : Int32)), (.int (Int32.ofNat (own_cnt 1 f0 vv)))])) t
          refine XS.icmpNo X21.here hx rfl (hb hby at_264) rfl (teq (show (Int32.ofNat (own_cnt 1 f0 vv)) = (0 : Int32) from by simp only [own_cnt, if_neg hc192_19]; rfl)).2 ?_
          show Steps p.tables e below (T21.setTop (mkF m 267 #[.val (.long q0), .second, .val (.long q1), .second, .val (.long q2), .second, .val (.long q3), .second, .val (.long q4), .second, .val (.int p5), .val (.ref b1), .val (.int (1 : Int32)), .val (.ref b16), .val (.int sel), .val (.long vv), .second, .val (.int (0 : Int32))] [])) t
          refine XS.iconst X21.here hx rfl (hb hby at_267) ?_
          show Steps p.tables e below (T21.setTop (mkF m 268 #[.val (.long q0), .second, .val (.long q1), .second, .val (.long q2), .second, .val (.long q3), .second, .val (.long q4), .second, .val (.int p5), .val (.ref b1), .val (.int (1 : Int32)), .val (.ref b16), .val (.int sel), .val (.long vv), .second, .val (.int (0 : Int32))] [(.int (1 : Int32))])) t
          refine XS.goto X21.here hx rfl (pc0 := 268) (pc' := 272) rfl (hb hby at_268) (by decide) (by decide) ?_
          show Steps p.tables e below (T21.setTop (mkF m 272 #[.val (.long q0), .second, .val (.long q1), .second, .val (.long q2), .second, .val (.long q3), .second, .val (.long q4), .second, .val (.int p5), .val (.ref b1), .val (.int (1 : Int32)), .val (.ref b16), .val (.int sel), .val (.long vv), .second, .val (.int (0 : Int32))] [(.int (1 : Int32))])) t
          exact kt
        exact own_retN X21 hP hx hlk e21 (t := .boolean) hret (by simp) (hb hby at_272) (by decide) (by decide) (z' := (1 : Int32)) rfl ⟨rfl, Nj18⟩
    refine own_go (T' := T17) (f' := (mkF m 144 #[.val (.long q0), .second, .val (.long q1), .second, .val (.long q2), .second, .val (.long q3), .second, .val (.long q4), .second, .val (.int p5), .val (.ref b1), .val (.int (1 : Int32)), .val (.ref b16), .val (.int sel), .val (.long q4), .second, .unset] [(.int (4 : Int32)), (.int sel)])) (fun t kt => ?_) ?_
    · show Steps p.tables e below (T17.setTop (mkF m 141 #[.val (.long q0), .second, .val (.long q1), .second, .val (.long q2), .second, .val (.long q3), .second, .val (.long q4), .second, .val (.int p5), .val (.ref b1), .val (.int (1 : Int32)), .val (.ref b16), .val (.int sel), .val (.long q4), .second, .unset] [])) t
      refine XS.iload X17.here hx rfl (hb hby at_141) rfl ?_
      show Steps p.tables e below (T17.setTop (mkF m 143 #[.val (.long q0), .second, .val (.long q1), .second, .val (.long q2), .second, .val (.long q3), .second, .val (.long q4), .second, .val (.int p5), .val (.ref b1), .val (.int (1 : Int32)), .val (.ref b16), .val (.int sel), .val (.long q4), .second, .unset] [(.int sel)])) t
      refine XS.iconst X17.here hx rfl (hb hby at_143) ?_
      show Steps p.tables e below (T17.setTop (mkF m 144 #[.val (.long q0), .second, .val (.long q1), .second, .val (.long q2), .second, .val (.long q3), .second, .val (.long q4), .second, .val (.int p5), .val (.ref b1), .val (.int (1 : Int32)), .val (.ref b16), .val (.int sel), .val (.long q4), .second, .unset] [(.int (4 : Int32)), (.int sel)])) t
      exact kt
    by_cases hc144_22 : sel < (4 : Int32)
    · refine own_go (T' := T17) (f' := (mkF m 177 #[.val (.long q0), .second, .val (.long q1), .second, .val (.long q2), .second, .val (.long q3), .second, .val (.long q4), .second, .val (.int p5), .val (.ref b1), .val (.int (1 : Int32)), .val (.ref b16), .val (.int sel), .val (.long (t5 sel.toInt.toNat)), .second, .unset] [])) (fun t kt => ?_) ?_
      · show Steps p.tables e below (T17.setTop (mkF m 144 #[.val (.long q0), .second, .val (.long q1), .second, .val (.long q2), .second, .val (.long q3), .second, .val (.long q4), .second, .val (.int p5), .val (.ref b1), .val (.int (1 : Int32)), .val (.ref b16), .val (.int sel), .val (.long q4), .second, .unset] [(.int (4 : Int32)), (.int sel)])) t
        refine XS.icmpNo X17.here hx rfl (hb hby at_144) rfl (tlt hc144_22).2.1 ?_
        show Steps p.tables e below (T17.setTop (mkF m 147 #[.val (.long q0), .second, .val (.long q1), .second, .val (.long q2), .second, .val (.long q3), .second, .val (.long q4), .second, .val (.int p5), .val (.ref b1), .val (.int (1 : Int32)), .val (.ref b16), .val (.int sel), .val (.long q4), .second, .unset] [])) t
        refine XS.aload X17.here hx rfl (hb hby at_147) rfl rfl ?_
        show Steps p.tables e below (T17.setTop (mkF m 149 #[.val (.long q0), .second, .val (.long q1), .second, .val (.long q2), .second, .val (.long q3), .second, .val (.long q4), .second, .val (.int p5), .val (.ref b1), .val (.int (1 : Int32)), .val (.ref b16), .val (.int sel), .val (.long q4), .second, .unset] [(.ref b1)])) t
        refine XS.iload X17.here hx rfl (hb hby at_149) rfl ?_
        show Steps p.tables e below (T17.setTop (mkF m 151 #[.val (.long q0), .second, .val (.long q1), .second, .val (.long q2), .second, .val (.long q3), .second, .val (.long q4), .second, .val (.int p5), .val (.ref b1), .val (.int (1 : Int32)), .val (.ref b16), .val (.int sel), .val (.long q4), .second, .unset] [(.int sel), (.ref b1)])) t
        refine own_laload X17 hx hZ e17 Pq10_0 (i := sel.toInt.toNat) (own_sel hsel hc144_22).1 (own_sel hsel hc144_22).2 (g := (mkF m 151 #[.val (.long q0), .second, .val (.long q1), .second, .val (.long q2), .second, .val (.long q3), .second, .val (.long q4), .second, .val (.int p5), .val (.ref b1), .val (.int (1 : Int32)), .val (.ref b16), .val (.int sel), .val (.long q4), .second, .unset] [(.int sel), (.ref b1)])) rfl rfl (hb hby at_151) _ ?_
        show Steps p.tables e below (T17.setTop (mkF m 152 #[.val (.long q0), .second, .val (.long q1), .second, .val (.long q2), .second, .val (.long q3), .second, .val (.long q4), .second, .val (.int p5), .val (.ref b1), .val (.int (1 : Int32)), .val (.ref b16), .val (.int sel), .val (.long q4), .second, .unset] [(.long (t5 sel.toInt.toNat))])) t
        refine XS.lstore X17.here hx rfl (hb hby at_152) rfl (l' := #[.val (.long q0), .second, .val (.long q1), .second, .val (.long q2), .second, .val (.long q3), .second, .val (.long q4), .second, .val (.int p5), .val (.ref b1), .val (.int (1 : Int32)), .val (.ref b16), .val (.int sel), .val (.long (t5 sel.toInt.toNat)), .second, .unset]) rfl ?_
        show Steps p.tables e below (T17.setTop (mkF m 154 #[.val (.long q0), .second, .val (.long q1), .second, .val (.long q2), .second, .val (.long q3), .second, .val (.long q4), .second, .val (.int p5), .val (.ref b1), .val (.int (1 : Int32)), .val (.ref b16), .val (.int sel), .val (.long (t5 sel.toInt.toNat)), .second, .unset] [])) t
        refine XS.goto X17.here hx rfl (pc0 := 154) (pc' := 177) rfl (hb hby at_154) (by decide) (by decide) ?_
        show Steps p.tables e below (T17.setTop (mkF m 177 #[.val (.long q0), .second, .val (.long q1), .second, .val (.long q2), .second, .val (.long q3), .second, .val (.long q4), .second, .val (.int p5), .val (.ref b1), .val (.int (1 : Int32)), .val (.ref b16), .val (.int sel), .val (.long (t5 sel.toInt.toNat)), .second, .unset] [])) t
        exact kt
      exact J177 T17 _ (t5 sel.toInt.toNat) X17 N17 e17
    · refine own_go (T' := T17) (f' := (mkF m 160 #[.val (.long q0), .second, .val (.long q1), .second, .val (.long q2), .second, .val (.long q3), .second, .val (.long q4), .second, .val (.int p5), .val (.ref b1), .val (.int (1 : Int32)), .val (.ref b16), .val (.int sel), .val (.long q4), .second, .unset] [(.int (4 : Int32)), (.int sel)])) (fun t kt => ?_) ?_
      · show Steps p.tables e below (T17.setTop (mkF m 144 #[.val (.long q0), .second, .val (.long q1), .second, .val (.long q2), .second, .val (.long q3), .second, .val (.long q4), .second, .val (.int p5), .val (.ref b1), .val (.int (1 : Int32)), .val (.ref b16), .val (.int sel), .val (.long q4), .second, .unset] [(.int (4 : Int32)), (.int sel)])) t
        refine XS.icmpYes X17.here hx rfl (pc0 := 144) (pc' := 157) rfl (hb hby at_144) rfl (flt hc144_22).2.1 (by decide) (by decide) ?_
        show Steps p.tables e below (T17.setTop (mkF m 157 #[.val (.long q0), .second, .val (.long q1), .second, .val (.long q2), .second, .val (.long q3), .second, .val (.long q4), .second, .val (.int p5), .val (.ref b1), .val (.int (1 : Int32)), .val (.ref b16), .val (.int sel), .val (.long q4), .second, .unset] [])) t
        refine XS.iload X17.here hx rfl (hb hby at_157) rfl ?_
        show Steps p.tables e below (T17.setTop (mkF m 159 #[.val (.long q0), .second, .val (.long q1), .second, .val (.long q2), .second, .val (.long q3), .second, .val (.long q4), .second, .val (.int p5), .val (.ref b1), .val (.int (1 : Int32)), .val (.ref b16), .val (.int sel), .val (.long q4), .second, .unset] [(.int sel)])) t
        refine XS.iconst X17.here hx rfl (hb hby at_159) ?_
        show Steps p.tables e below (T17.setTop (mkF m 160 #[.val (.long q0), .second, .val (.long q1), .second, .val (.long q2), .second, .val (.long q3), .second, .val (.long q4), .second, .val (.int p5), .val (.ref b1), .val (.int (1 : Int32)), .val (.ref b16), .val (.int sel), .val (.long q4), .second, .unset] [(.int (4 : Int32)), (.int sel)])) t
        exact kt
      by_cases hc160_23 : sel = (4 : Int32)
      · refine own_go (T' := T17) (f' := (mkF m 177 #[.val (.long q0), .second, .val (.long q1), .second, .val (.long q2), .second, .val (.long q3), .second, .val (.long q4), .second, .val (.int p5), .val (.ref b1), .val (.int (1 : Int32)), .val (.ref b16), .val (.int sel), .val (.long ((t5 (((p5.toUInt32 >>> ((6 : Int32) &&& 31).toUInt32).toInt32) &&& (3 : Int32)).toInt.toNat) + (1 : Int64))), .second, .unset] [])) (fun t kt => ?_) ?_
        · show Steps p.tables e below (T17.setTop (mkF m 160 #[.val (.long q0), .second, .val (.long q1), .second, .val (.long q2), .second, .val (.long q3), .second, .val (.long q4), .second, .val (.int p5), .val (.ref b1), .val (.int (1 : Int32)), .val (.ref b16), .val (.int sel), .val (.long q4), .second, .unset] [(.int (4 : Int32)), (.int sel)])) t
          refine XS.icmpNo X17.here hx rfl (hb hby at_160) rfl (teq hc160_23).2 ?_
          show Steps p.tables e below (T17.setTop (mkF m 163 #[.val (.long q0), .second, .val (.long q1), .second, .val (.long q2), .second, .val (.long q3), .second, .val (.long q4), .second, .val (.int p5), .val (.ref b1), .val (.int (1 : Int32)), .val (.ref b16), .val (.int sel), .val (.long q4), .second, .unset] [])) t
          refine XS.aload X17.here hx rfl (hb hby at_163) rfl rfl ?_
          show Steps p.tables e below (T17.setTop (mkF m 165 #[.val (.long q0), .second, .val (.long q1), .second, .val (.long q2), .second, .val (.long q3), .second, .val (.long q4), .second, .val (.int p5), .val (.ref b1), .val (.int (1 : Int32)), .val (.ref b16), .val (.int sel), .val (.long q4), .second, .unset] [(.ref b1)])) t
          refine XS.iload X17.here hx rfl (hb hby at_165) rfl ?_
          show Steps p.tables e below (T17.setTop (mkF m 167 #[.val (.long q0), .second, .val (.long q1), .second, .val (.long q2), .second, .val (.long q3), .second, .val (.long q4), .second, .val (.int p5), .val (.ref b1), .val (.int (1 : Int32)), .val (.ref b16), .val (.int sel), .val (.long q4), .second, .unset] [(.int p5), (.ref b1)])) t
          refine XS.bipush X17.here hx rfl (hb hby at_167) ?_
          show Steps p.tables e below (T17.setTop (mkF m 169 #[.val (.long q0), .second, .val (.long q1), .second, .val (.long q2), .second, .val (.long q3), .second, .val (.long q4), .second, .val (.int p5), .val (.ref b1), .val (.int (1 : Int32)), .val (.ref b16), .val (.int sel), .val (.long q4), .second, .unset] [(.int (6 : Int32)), (.int p5), (.ref b1)])) t
          refine XS.iushr X17.here hx rfl (hb hby at_169) rfl ?_
          show Steps p.tables e below (T17.setTop (mkF m 170 #[.val (.long q0), .second, .val (.long q1), .second, .val (.long q2), .second, .val (.long q3), .second, .val (.long q4), .second, .val (.int p5), .val (.ref b1), .val (.int (1 : Int32)), .val (.ref b16), .val (.int sel), .val (.long q4), .second, .unset] [(.int ((p5.toUInt32 >>> ((6 : Int32) &&& 31).toUInt32).toInt32)), (.ref b1)])) t
          refine XS.iconst X17.here hx rfl (hb hby at_170) ?_
          show Steps p.tables e below (T17.setTop (mkF m 171 #[.val (.long q0), .second, .val (.long q1), .second, .val (.long q2), .second, .val (.long q3), .second, .val (.long q4), .second, .val (.int p5), .val (.ref b1), .val (.int (1 : Int32)), .val (.ref b16), .val (.int sel), .val (.long q4), .second, .unset] [(.int (3 : Int32)), (.int ((p5.toUInt32 >>> ((6 : Int32) &&& 31).toUInt32).toInt32)), (.ref b1)])) t
          refine XS.iand X17.here hx rfl (hb hby at_171) rfl ?_
          show Steps p.tables e below (T17.setTop (mkF m 172 #[.val (.long q0), .second, .val (.long q1), .second, .val (.long q2), .second, .val (.long q3), .second, .val (.long q4), .second, .val (.int p5), .val (.ref b1), .val (.int (1 : Int32)), .val (.ref b16), .val (.int sel), .val (.long q4), .second, .unset] [(.int (((p5.toUInt32 >>> ((6 : Int32) &&& 31).toUInt32).toInt32) &&& (3 : Int32))), (.ref b1)])) t
          refine own_laload X17 hx hZ e17 Pq10_0 (i := (((p5.toUInt32 >>> ((6 : Int32) &&& 31).toUInt32).toInt32) &&& (3 : Int32)).toInt.toNat) (own_ix3 ((p5.toUInt32 >>> ((6 : Int32) &&& 31).toUInt32).toInt32)).1 (own_ix3 ((p5.toUInt32 >>> ((6 : Int32) &&& 31).toUInt32).toInt32)).2 (g := (mkF m 172 #[.val (.long q0), .second, .val (.long q1), .second, .val (.long q2), .second, .val (.long q3), .second, .val (.long q4), .second, .val (.int p5), .val (.ref b1), .val (.int (1 : Int32)), .val (.ref b16), .val (.int sel), .val (.long q4), .second, .unset] [(.int (((p5.toUInt32 >>> ((6 : Int32) &&& 31).toUInt32).toInt32) &&& (3 : Int32))), (.ref b1)])) rfl rfl (hb hby at_172) _ ?_
          show Steps p.tables e below (T17.setTop (mkF m 173 #[.val (.long q0), .second, .val (.long q1), .second, .val (.long q2), .second, .val (.long q3), .second, .val (.long q4), .second, .val (.int p5), .val (.ref b1), .val (.int (1 : Int32)), .val (.ref b16), .val (.int sel), .val (.long q4), .second, .unset] [(.long (t5 (((p5.toUInt32 >>> ((6 : Int32) &&& 31).toUInt32).toInt32) &&& (3 : Int32)).toInt.toNat))])) t
          refine XS.lconst X17.here hx rfl (hb hby at_173) ?_
          show Steps p.tables e below (T17.setTop (mkF m 174 #[.val (.long q0), .second, .val (.long q1), .second, .val (.long q2), .second, .val (.long q3), .second, .val (.long q4), .second, .val (.int p5), .val (.ref b1), .val (.int (1 : Int32)), .val (.ref b16), .val (.int sel), .val (.long q4), .second, .unset] [(.long (1 : Int64)), (.long (t5 (((p5.toUInt32 >>> ((6 : Int32) &&& 31).toUInt32).toInt32) &&& (3 : Int32)).toInt.toNat))])) t
          refine XS.ladd X17.here hx rfl (hb hby at_174) rfl ?_
          show Steps p.tables e below (T17.setTop (mkF m 175 #[.val (.long q0), .second, .val (.long q1), .second, .val (.long q2), .second, .val (.long q3), .second, .val (.long q4), .second, .val (.int p5), .val (.ref b1), .val (.int (1 : Int32)), .val (.ref b16), .val (.int sel), .val (.long q4), .second, .unset] [(.long ((t5 (((p5.toUInt32 >>> ((6 : Int32) &&& 31).toUInt32).toInt32) &&& (3 : Int32)).toInt.toNat) + (1 : Int64)))])) t
          refine XS.lstore X17.here hx rfl (hb hby at_175) rfl (l' := #[.val (.long q0), .second, .val (.long q1), .second, .val (.long q2), .second, .val (.long q3), .second, .val (.long q4), .second, .val (.int p5), .val (.ref b1), .val (.int (1 : Int32)), .val (.ref b16), .val (.int sel), .val (.long ((t5 (((p5.toUInt32 >>> ((6 : Int32) &&& 31).toUInt32).toInt32) &&& (3 : Int32)).toInt.toNat) + (1 : Int64))), .second, .unset]) rfl ?_
          show Steps p.tables e below (T17.setTop (mkF m 177 #[.val (.long q0), .second, .val (.long q1), .second, .val (.long q2), .second, .val (.long q3), .second, .val (.long q4), .second, .val (.int p5), .val (.ref b1), .val (.int (1 : Int32)), .val (.ref b16), .val (.int sel), .val (.long ((t5 (((p5.toUInt32 >>> ((6 : Int32) &&& 31).toUInt32).toInt32) &&& (3 : Int32)).toInt.toNat) + (1 : Int64))), .second, .unset] [])) t
          exact kt
        exact J177 T17 _ ((t5 (((p5.toUInt32 >>> ((6 : Int32) &&& 31).toUInt32).toInt32) &&& (3 : Int32)).toInt.toNat) + (1 : Int64)) X17 N17 e17
      · refine own_go (T' := T17) (f' := (mkF m 177 #[.val (.long q0), .second, .val (.long q1), .second, .val (.long q2), .second, .val (.long q3), .second, .val (.long q4), .second, .val (.int p5), .val (.ref b1), .val (.int (1 : Int32)), .val (.ref b16), .val (.int sel), .val (.long q4), .second, .unset] [])) (fun t kt => ?_) ?_
        · show Steps p.tables e below (T17.setTop (mkF m 160 #[.val (.long q0), .second, .val (.long q1), .second, .val (.long q2), .second, .val (.long q3), .second, .val (.long q4), .second, .val (.int p5), .val (.ref b1), .val (.int (1 : Int32)), .val (.ref b16), .val (.int sel), .val (.long q4), .second, .unset] [(.int (4 : Int32)), (.int sel)])) t
          refine XS.icmpYes X17.here hx rfl (pc0 := 160) (pc' := 177) rfl (hb hby at_160) rfl (feq hc160_23).2 (by decide) (by decide) ?_
          show Steps p.tables e below (T17.setTop (mkF m 177 #[.val (.long q0), .second, .val (.long q1), .second, .val (.long q2), .second, .val (.long q3), .second, .val (.long q4), .second, .val (.int p5), .val (.ref b1), .val (.int (1 : Int32)), .val (.ref b16), .val (.int sel), .val (.long q4), .second, .unset] [])) t
          exact kt
        exact J177 T17 _ q4 X17 N17 e17
  · rw [hn5]
    refine own_go (T' := T10) (f' := (mkF m 69 #[.val (.long q0), .second, .val (.long q1), .second, .val (.long q2), .second, .val (.long q3), .second, .val (.long q4), .second, .val (.int p5), .val (.ref b1), .val (.int (2 : Int32)), .unset, .unset, .unset, .unset, .unset] [(.int (2 : Int32))])) (fun t kt => ?_) ?_
    · show Steps p.tables e below (T10.setTop (mkF m 65 #[.val (.long q0), .second, .val (.long q1), .second, .val (.long q2), .second, .val (.long q3), .second, .val (.long q4), .second, .val (.int p5), .val (.ref b1), .unset, .unset, .unset, .unset, .unset, .unset] [(.int (2 : Int32))])) t
      refine XS.istore X10.here hx rfl (hb hby at_65) rfl (l' := #[.val (.long q0), .second, .val (.long q1), .second, .val (.long q2), .second, .val (.long q3), .second, .val (.long q4), .second, .val (.int p5), .val (.ref b1), .val (.int (2 : Int32)), .unset, .unset, .unset, .unset, .unset]) rfl ?_
      show Steps p.tables e below (T10.setTop (mkF m 67 #[.val (.long q0), .second, .val (.long q1), .second, .val (.long q2), .second, .val (.long q3), .second, .val (.long q4), .second, .val (.int p5), .val (.ref b1), .val (.int (2 : Int32)), .unset, .unset, .unset, .unset, .unset] [])) t
      refine XS.iload X10.here hx rfl (hb hby at_67) rfl ?_
      show Steps p.tables e below (T10.setTop (mkF m 69 #[.val (.long q0), .second, .val (.long q1), .second, .val (.long q2), .second, .val (.long q3), .second, .val (.long q4), .second, .val (.int p5), .val (.ref b1), .val (.int (2 : Int32)), .unset, .unset, .unset, .unset, .unset] [(.int (2 : Int32))])) t
      exact kt
    obtain ⟨T24, h24, k24, X24, e24, E24, A24, st24⟩ := newP X10 hx hZ (hw _ (List.mem_of_getElem? (i := 0) rfl)) rfl (g := (mkF m 69 #[.val (.long q0), .second, .val (.long q1), .second, .val (.long q2), .second, .val (.long q3), .second, .val (.long q4), .second, .val (.int p5), .val (.ref b1), .val (.int (2 : Int32)), .unset, .unset, .unset, .unset, .unset] [(.int (2 : Int32))])) rfl (hb hby at_69) rfl (by decide) (cap := 2) (by decide) (by decide) (by decide) (by decide)
    obtain ⟨b24, y24⟩ : ∃ z, z = T10.heap.size := ⟨_, rfl⟩
    rw [← y24] at A24 st24
    have ne_b1_b24 : b1 ≠ b24 := Nat.ne_of_lt (Nat.lt_of_lt_of_le Pq10_0.lt (Nat.le_of_eq y24.symm))
    have ne_b24_b1 := ne_b1_b24.symm
    have g_b24 : n0 ≤ b24 := Nat.le_trans ZKq10 (Nat.le_of_eq y24.symm)
    have sz_b24 : h0.size ≤ b24 := Nat.le_trans KKKq10.1 (Nat.le_of_eq y24.symm)
    replace Pq10_0 := (Pq10_0.ext E24)
    have ZE24 : n0 ≤ h24.size := Nat.le_trans ZKq10 E24.1
    have KKE24 := KKKq10.ext E24
    refine own_go st24 ?_
    have Ar_b24 : own_AJ Z h24 b24 2 (fun _ => (0 : Int64)) := own_A_new A24 (by decide)
    refine own_go (T' := T24) (f' := (mkF m 85 #[.val (.long q0), .second, .val (.long q1), .second, .val (.long q2), .second, .val (.long q3), .second, .val (.long q4), .second, .val (.int p5), .val (.ref b1), .val (.int (2 : Int32)), .val (.ref b24), .unset, .unset, .unset, .unset] [(.long (t5 0)), (.int (0 : Int32)), (.ref b24)])) (fun t kt => ?_) ?_
    · show Steps p.tables e below (T24.setTop (mkF m 71 #[.val (.long q0), .second, .val (.long q1), .second, .val (.long q2), .second, .val (.long q3), .second, .val (.long q4), .second, .val (.int p5), .val (.ref b1), .val (.int (2 : Int32)), .unset, .unset, .unset, .unset, .unset] [(.ref b24)])) t
      refine XS.astore X24.here hx rfl (hb hby at_71) rfl rfl (l' := #[.val (.long q0), .second, .val (.long q1), .second, .val (.long q2), .second, .val (.long q3), .second, .val (.long q4), .second, .val (.int p5), .val (.ref b1), .val (.int (2 : Int32)), .val (.ref b24), .unset, .unset, .unset, .unset]) rfl ?_
      show Steps p.tables e below (T24.setTop (mkF m 73 #[.val (.long q0), .second, .val (.long q1), .second, .val (.long q2), .second, .val (.long q3), .second, .val (.long q4), .second, .val (.int p5), .val (.ref b1), .val (.int (2 : Int32)), .val (.ref b24), .unset, .unset, .unset, .unset] [])) t
      refine XS.iload X24.here hx rfl (hb hby at_73) rfl ?_
      show Steps p.tables e below (T24.setTop (mkF m 75 #[.val (.long q0), .second, .val (.long q1), .second, .val (.long q2), .second, .val (.long q3), .second, .val (.long q4), .second, .val (.int p5), .val (.ref b1), .val (.int (2 : Int32)), .val (.ref b24), .unset, .unset, .unset, .unset] [(.int (2 : Int32))])) t
      refine XS.ifNo X24.here hx rfl (hb hby at_75) rfl (by decide) ?_
      show Steps p.tables e below (T24.setTop (mkF m 78 #[.val (.long q0), .second, .val (.long q1), .second, .val (.long q2), .second, .val (.long q3), .second, .val (.long q4), .second, .val (.int p5), .val (.ref b1), .val (.int (2 : Int32)), .val (.ref b24), .unset, .unset, .unset, .unset] [])) t
      refine XS.aload X24.here hx rfl (hb hby at_78) rfl rfl ?_
      show Steps p.tables e below (T24.setTop (mkF m 80 #[.val (.long q0), .second, .val (.long q1), .second, .val (.long q2), .second, .val (.long q3), .second, .val (.long q4), .second, .val (.int p5), .val (.ref b1), .val (.int (2 : Int32)), .val (.ref b24), .unset, .unset, .unset, .unset] [(.ref b24)])) t
      refine XS.iconst X24.here hx rfl (hb hby at_80) ?_
      show Steps p.tables e below (T24.setTop (mkF m 81 #[.val (.long q0), .second, .val (.long q1), .second, .val (.long q2), .second, .val (.long q3), .second, .val (.long q4), .second, .val (.int p5), .val (.ref b1), .val (.int (2 : Int32)), .val (.ref b24), .unset, .unset, .unset, .unset] [(.int (0 : Int32)), (.ref b24)])) t
      refine XS.aload X24.here hx rfl (hb hby at_81) rfl rfl ?_
      show Steps p.tables e below (T24.setTop (mkF m 83 #[.val (.long q0), .second, .val (.long q1), .second, .val (.long q2), .second, .val (.long q3), .second, .val (.long q4), .second, .val (.int p5), .val (.ref b1), .val (.int (2 : Int32)), .val (.ref b24), .unset, .unset, .unset, .unset] [(.ref b1), (.int (0 : Int32)), (.ref b24)])) t
      refine XS.iconst X24.here hx rfl (hb hby at_83) ?_
      show Steps p.tables e below (T24.setTop (mkF m 84 #[.val (.long q0), .second, .val (.long q1), .second, .val (.long q2), .second, .val (.long q3), .second, .val (.long q4), .second, .val (.int p5), .val (.ref b1), .val (.int (2 : Int32)), .val (.ref b24), .unset, .unset, .unset, .unset] [(.int (0 : Int32)), (.ref b1), (.int (0 : Int32)), (.ref b24)])) t
      refine own_laload X24 hx hZ e24 Pq10_0 (i := 0) (by decide) (by decide) (g := (mkF m 84 #[.val (.long q0), .second, .val (.long q1), .second, .val (.long q2), .second, .val (.long q3), .second, .val (.long q4), .second, .val (.int p5), .val (.ref b1), .val (.int (2 : Int32)), .val (.ref b24), .unset, .unset, .unset, .unset] [(.int (0 : Int32)), (.ref b1), (.int (0 : Int32)), (.ref b24)])) rfl rfl (hb hby at_84) _ ?_
      show Steps p.tables e below (T24.setTop (mkF m 85 #[.val (.long q0), .second, .val (.long q1), .second, .val (.long q2), .second, .val (.long q3), .second, .val (.long q4), .second, .val (.int p5), .val (.ref b1), .val (.int (2 : Int32)), .val (.ref b24), .unset, .unset, .unset, .unset] [(.long (t5 0)), (.int (0 : Int32)), (.ref b24)])) t
      exact kt
    obtain ⟨T25, h25, X25, e25, W25, B25, st25⟩ := own_lastore X24 hx hZ e24 Ar_b24 (i := 0) (by decide) (by decide) (g := (mkF m 85 #[.val (.long q0), .second, .val (.long q1), .second, .val (.long q2), .second, .val (.long q3), .second, .val (.long q4), .second, .val (.int p5), .val (.ref b1), .val (.int (2 : Int32)), .val (.ref b24), .unset, .unset, .unset, .unset] [(.long (t5 0)), (.int (0 : Int32)), (.ref b24)])) rfl rfl (hb hby at_85)
    refine own_go st25 ?_
    replace Pq10_0 := (Pq10_0.other W25 (ne_b1_b24))
    have N25 := Fr.snoc X25 N10 g_b24
    have Z25 : n0 ≤ h25.size := Nat.le_trans ZE24 (Keep.of_wr W25).1
    have KK25 := KKE24.wr W25 (Or.inr sz_b24)
    obtain ⟨f0, hf0⟩ : ∃ z, z = (own_set (fun _ => (0 : Int64)) 0 (t5 0)) := ⟨_, rfl⟩
    rw [← hf0] at B25
    refine own_go (T' := T25) (f' := (mkF m 99 #[.val (.long q0), .second, .val (.long q1), .second, .val (.long q2), .second, .val (.long q3), .second, .val (.long q4), .second, .val (.int p5), .val (.ref b1), .val (.int (2 : Int32)), .val (.ref b24), .unset, .unset, .unset, .unset] [(.long (t5 1)), (.int (1 : Int32)), (.ref b24)])) (fun t kt => ?_) ?_
    · show Steps p.tables e below (T25.setTop (mkF m 86 #[.val (.long q0), .second, .val (.long q1), .second, .val (.long q2), .second, .val (.long q3), .second, .val (.long q4), .second, .val (.int p5), .val (.ref b1), .val (.int (2 : Int32)), .val (.ref b24), .unset, .unset, .unset, .unset] [])) t
      refine XS.iload X25.here hx rfl (hb hby at_86) rfl ?_
      show Steps p.tables e below (T25.setTop (mkF m 88 #[.val (.long q0), .second, .val (.long q1), .second, .val (.long q2), .second, .val (.long q3), .second, .val (.long q4), .second, .val (.int p5), .val (.ref b1), .val (.int (2 : Int32)), .val (.ref b24), .unset, .unset, .unset, .unset] [(.int (2 : Int32))])) t
      refine XS.iconst X25.here hx rfl (hb hby at_88) ?_
      show Steps p.tables e below (T25.setTop (mkF m 89 #[.val (.long q0), .second, .val (.long q1), .second, .val (.long q2), .second, .val (.long q3), .second, .val (.long q4), .second, .val (.int p5), .val (.ref b1), .val (.int (2 : Int32)), .val (.ref b24), .unset, .unset, .unset, .unset] [(.int (1 : Int32)), (.int (2 : Int32))])) t
      refine XS.icmpNo X25.here hx rfl (hb hby at_89) rfl (by decide) ?_
      show Steps p.tables e below (T25.setTop (mkF m 92 #[.val (.long q0), .second, .val (.long q1), .second, .val (.long q2), .second, .val (.long q3), .second, .val (.long q4), .second, .val (.int p5), .val (.ref b1), .val (.int (2 : Int32)), .val (.ref b24), .unset, .unset, .unset, .unset] [])) t
      refine XS.aload X25.here hx rfl (hb hby at_92) rfl rfl ?_
      show Steps p.tables e below (T25.setTop (mkF m 94 #[.val (.long q0), .second, .val (.long q1), .second, .val (.long q2), .second, .val (.long q3), .second, .val (.long q4), .second, .val (.int p5), .val (.ref b1), .val (.int (2 : Int32)), .val (.ref b24), .unset, .unset, .unset, .unset] [(.ref b24)])) t
      refine XS.iconst X25.here hx rfl (hb hby at_94) ?_
      show Steps p.tables e below (T25.setTop (mkF m 95 #[.val (.long q0), .second, .val (.long q1), .second, .val (.long q2), .second, .val (.long q3), .second, .val (.long q4), .second, .val (.int p5), .val (.ref b1), .val (.int (2 : Int32)), .val (.ref b24), .unset, .unset, .unset, .unset] [(.int (1 : Int32)), (.ref b24)])) t
      refine XS.aload X25.here hx rfl (hb hby at_95) rfl rfl ?_
      show Steps p.tables e below (T25.setTop (mkF m 97 #[.val (.long q0), .second, .val (.long q1), .second, .val (.long q2), .second, .val (.long q3), .second, .val (.long q4), .second, .val (.int p5), .val (.ref b1), .val (.int (2 : Int32)), .val (.ref b24), .unset, .unset, .unset, .unset] [(.ref b1), (.int (1 : Int32)), (.ref b24)])) t
      refine XS.iconst X25.here hx rfl (hb hby at_97) ?_
      show Steps p.tables e below (T25.setTop (mkF m 98 #[.val (.long q0), .second, .val (.long q1), .second, .val (.long q2), .second, .val (.long q3), .second, .val (.long q4), .second, .val (.int p5), .val (.ref b1), .val (.int (2 : Int32)), .val (.ref b24), .unset, .unset, .unset, .unset] [(.int (1 : Int32)), (.ref b1), (.int (1 : Int32)), (.ref b24)])) t
      refine own_laload X25 hx hZ e25 Pq10_0 (i := 1) (by decide) (by decide) (g := (mkF m 98 #[.val (.long q0), .second, .val (.long q1), .second, .val (.long q2), .second, .val (.long q3), .second, .val (.long q4), .second, .val (.int p5), .val (.ref b1), .val (.int (2 : Int32)), .val (.ref b24), .unset, .unset, .unset, .unset] [(.int (1 : Int32)), (.ref b1), (.int (1 : Int32)), (.ref b24)])) rfl rfl (hb hby at_98) _ ?_
      show Steps p.tables e below (T25.setTop (mkF m 99 #[.val (.long q0), .second, .val (.long q1), .second, .val (.long q2), .second, .val (.long q3), .second, .val (.long q4), .second, .val (.int p5), .val (.ref b1), .val (.int (2 : Int32)), .val (.ref b24), .unset, .unset, .unset, .unset] [(.long (t5 1)), (.int (1 : Int32)), (.ref b24)])) t
      exact kt
    obtain ⟨T26, h26, X26, e26, W26, B26, st26⟩ := own_lastore X25 hx hZ e25 B25 (i := 1) (by decide) (by decide) (g := (mkF m 99 #[.val (.long q0), .second, .val (.long q1), .second, .val (.long q2), .second, .val (.long q3), .second, .val (.long q4), .second, .val (.int p5), .val (.ref b1), .val (.int (2 : Int32)), .val (.ref b24), .unset, .unset, .unset, .unset] [(.long (t5 1)), (.int (1 : Int32)), (.ref b24)])) rfl rfl (hb hby at_99)
    refine own_go st26 ?_
    replace Pq10_0 := (Pq10_0.other W26 (ne_b1_b24))
    have N26 := Fr.snoc X26 N25 g_b24
    have Z26 : n0 ≤ h26.size := Nat.le_trans Z25 (Keep.of_wr W26).1
    have KK26 := KK25.wr W26 (Or.inr sz_b24)
    obtain ⟨f1, hf1⟩ : ∃ z, z = (own_set f0 1 (t5 1)) := ⟨_, rfl⟩
    rw [← hf1] at B26
    refine own_go (T' := T26) (f' := (mkF m 135 #[.val (.long q0), .second, .val (.long q1), .second, .val (.long q2), .second, .val (.long q3), .second, .val (.long q4), .second, .val (.int p5), .val (.ref b1), .val (.int (2 : Int32)), .val (.ref b24), .unset, .unset, .unset, .unset] [(.int (((p5.toUInt32 >>> ((3 : Int32) &&& 31).toUInt32).toInt32) &&& (7 : Int32)))])) (fun t kt => ?_) ?_
    · show Steps p.tables e below (T26.setTop (mkF m 100 #[.val (.long q0), .second, .val (.long q1), .second, .val (.long q2), .second, .val (.long q3), .second, .val (.long q4), .second, .val (.int p5), .val (.ref b1), .val (.int (2 : Int32)), .val (.ref b24), .unset, .unset, .unset, .unset] [])) t
      refine XS.iload X26.here hx rfl (hb hby at_100) rfl ?_
      show Steps p.tables e below (T26.setTop (mkF m 102 #[.val (.long q0), .second, .val (.long q1), .second, .val (.long q2), .second, .val (.long q3), .second, .val (.long q4), .second, .val (.int p5), .val (.ref b1), .val (.int (2 : Int32)), .val (.ref b24), .unset, .unset, .unset, .unset] [(.int (2 : Int32))])) t
      refine XS.iconst X26.here hx rfl (hb hby at_102) ?_
      show Steps p.tables e below (T26.setTop (mkF m 103 #[.val (.long q0), .second, .val (.long q1), .second, .val (.long q2), .second, .val (.long q3), .second, .val (.long q4), .second, .val (.int p5), .val (.ref b1), .val (.int (2 : Int32)), .val (.ref b24), .unset, .unset, .unset, .unset] [(.int (2 : Int32)), (.int (2 : Int32))])) t
      refine XS.icmpYes X26.here hx rfl (pc0 := 103) (pc' := 114) rfl (hb hby at_103) rfl (by decide) (by decide) (by decide) ?_
      show Steps p.tables e below (T26.setTop (mkF m 114 #[.val (.long q0), .second, .val (.long q1), .second, .val (.long q2), .second, .val (.long q3), .second, .val (.long q4), .second, .val (.int p5), .val (.ref b1), .val (.int (2 : Int32)), .val (.ref b24), .unset, .unset, .unset, .unset] [])) t
      refine XS.iload X26.here hx rfl (hb hby at_114) rfl ?_
      show Steps p.tables e below (T26.setTop (mkF m 116 #[.val (.long q0), .second, .val (.long q1), .second, .val (.long q2), .second, .val (.long q3), .second, .val (.long q4), .second, .val (.int p5), .val (.ref b1), .val (.int (2 : Int32)), .val (.ref b24), .unset, .unset, .unset, .unset] [(.int (2 : Int32))])) t
      refine XS.iconst X26.here hx rfl (hb hby at_116) ?_
      show Steps p.tables e below (T26.setTop (mkF m 117 #[.val (.long q0), .second, .val (.long q1), .second, .val (.long q2), .second, .val (.long q3), .second, .val (.long q4), .second, .val (.int p5), .val (.ref b1), .val (.int (2 : Int32)), .val (.ref b24), .unset, .unset, .unset, .unset] [(.int (3 : Int32)), (.int (2 : Int32))])) t
      refine XS.icmpYes X26.here hx rfl (pc0 := 117) (pc' := 128) rfl (hb hby at_117) rfl (by decide) (by decide) (by decide) ?_
      show Steps p.tables e below (T26.setTop (mkF m 128 #[.val (.long q0), .second, .val (.long q1), .second, .val (.long q2), .second, .val (.long q3), .second, .val (.long q4), .second, .val (.int p5), .val (.ref b1), .val (.int (2 : Int32)), .val (.ref b24), .unset, .unset, .unset, .unset] [])) t
      refine XS.iload X26.here hx rfl (hb hby at_128) rfl ?_
      show Steps p.tables e below (T26.setTop (mkF m 130 #[.val (.long q0), .second, .val (.long q1), .second, .val (.long q2), .second, .val (.long q3), .second, .val (.long q4), .second, .val (.int p5), .val (.ref b1), .val (.int (2 : Int32)), .val (.ref b24), .unset, .unset, .unset, .unset] [(.int p5)])) t
      refine XS.iconst X26.here hx rfl (hb hby at_130) ?_
      show Steps p.tables e below (T26.setTop (mkF m 131 #[.val (.long q0), .second, .val (.long q1), .second, .val (.long q2), .second, .val (.long q3), .second, .val (.long q4), .second, .val (.int p5), .val (.ref b1), .val (.int (2 : Int32)), .val (.ref b24), .unset, .unset, .unset, .unset] [(.int (3 : Int32)), (.int p5)])) t
      refine XS.iushr X26.here hx rfl (hb hby at_131) rfl ?_
      show Steps p.tables e below (T26.setTop (mkF m 132 #[.val (.long q0), .second, .val (.long q1), .second, .val (.long q2), .second, .val (.long q3), .second, .val (.long q4), .second, .val (.int p5), .val (.ref b1), .val (.int (2 : Int32)), .val (.ref b24), .unset, .unset, .unset, .unset] [(.int ((p5.toUInt32 >>> ((3 : Int32) &&& 31).toUInt32).toInt32))])) t
      refine XS.bipush X26.here hx rfl (hb hby at_132) ?_
      show Steps p.tables e below (T26.setTop (mkF m 134 #[.val (.long q0), .second, .val (.long q1), .second, .val (.long q2), .second, .val (.long q3), .second, .val (.long q4), .second, .val (.int p5), .val (.ref b1), .val (.int (2 : Int32)), .val (.ref b24), .unset, .unset, .unset, .unset] [(.int (7 : Int32)), (.int ((p5.toUInt32 >>> ((3 : Int32) &&& 31).toUInt32).toInt32))])) t
      refine XS.iand X26.here hx rfl (hb hby at_134) rfl ?_
      show Steps p.tables e below (T26.setTop (mkF m 135 #[.val (.long q0), .second, .val (.long q1), .second, .val (.long q2), .second, .val (.long q3), .second, .val (.long q4), .second, .val (.int p5), .val (.ref b1), .val (.int (2 : Int32)), .val (.ref b24), .unset, .unset, .unset, .unset] [(.int (((p5.toUInt32 >>> ((3 : Int32) &&& 31).toUInt32).toInt32) &&& (7 : Int32)))])) t
      exact kt
    obtain ⟨sel, hsel⟩ : ∃ z, z = (((p5.toUInt32 >>> ((3 : Int32) &&& 31).toUInt32).toInt32) &&& (7 : Int32)) := ⟨_, rfl⟩
    rw [← hsel]
    refine own_go (T' := T26) (f' := (mkF m 141 #[.val (.long q0), .second, .val (.long q1), .second, .val (.long q2), .second, .val (.long q3), .second, .val (.long q4), .second, .val (.int p5), .val (.ref b1), .val (.int (2 : Int32)), .val (.ref b24), .val (.int sel), .val (.long q4), .second, .unset] [])) (fun t kt => ?_) ?_
    · show Steps p.tables e below (T26.setTop (mkF m 135 #[.val (.long q0), .second, .val (.long q1), .second, .val (.long q2), .second, .val (.long q3), .second, .val (.long q4), .second, .val (.int p5), .val (.ref b1), .val (.int (2 : Int32)), .val (.ref b24), .unset, .unset, .unset, .unset] [(.int sel)])) t
      refine XS.istore X26.here hx rfl (hb hby at_135) rfl (l' := #[.val (.long q0), .second, .val (.long q1), .second, .val (.long q2), .second, .val (.long q3), .second, .val (.long q4), .second, .val (.int p5), .val (.ref b1), .val (.int (2 : Int32)), .val (.ref b24), .val (.int sel), .unset, .unset, .unset]) rfl ?_
      show Steps p.tables e below (T26.setTop (mkF m 137 #[.val (.long q0), .second, .val (.long q1), .second, .val (.long q2), .second, .val (.long q3), .second, .val (.long q4), .second, .val (.int p5), .val (.ref b1), .val (.int (2 : Int32)), .val (.ref b24), .val (.int sel), .unset, .unset, .unset] [])) t
      refine XS.lload X26.here hx rfl (hb hby at_137) rfl ?_
      show Steps p.tables e below (T26.setTop (mkF m 139 #[.val (.long q0), .second, .val (.long q1), .second, .val (.long q2), .second, .val (.long q3), .second, .val (.long q4), .second, .val (.int p5), .val (.ref b1), .val (.int (2 : Int32)), .val (.ref b24), .val (.int sel), .unset, .unset, .unset] [(.long q4)])) t
      refine XS.lstore X26.here hx rfl (hb hby at_139) rfl (l' := #[.val (.long q0), .second, .val (.long q1), .second, .val (.long q2), .second, .val (.long q3), .second, .val (.long q4), .second, .val (.int p5), .val (.ref b1), .val (.int (2 : Int32)), .val (.ref b24), .val (.int sel), .val (.long q4), .second, .unset]) rfl ?_
      show Steps p.tables e below (T26.setTop (mkF m 141 #[.val (.long q0), .second, .val (.long q1), .second, .val (.long q2), .second, .val (.long q3), .second, .val (.long q4), .second, .val (.int p5), .val (.ref b1), .val (.int (2 : Int32)), .val (.ref b24), .val (.int sel), .val (.long q4), .second, .unset] [])) t
      exact kt
    have J177 : ∀ (Tj27 : State) (lj27 : List Loc) (vv : Int64) (Xj27 : Stand p l e room_1 s m #[(.long q0), (.long q1), (.long q2), (.long q3), (.long q4), (.int p5)] below meth c Tj27 lj27 2 6) (Nj27 : Fr n0 lj27) (ej27 : Tj27.heap = h26), own_End p e below P Tj27 (mkF m 177 #[.val (.long q0), .second, .val (.long q1), .second, .val (.long q2), .second, .val (.long q3), .second, .val (.long q4), .second, .val (.int p5), .val (.ref b1), .val (.int (2 : Int32)), .val (.ref b24), .val (.int sel), .val (.long vv), .second, .unset] []) := by
      intro Tj27 lj27 vv Xj27 Nj27 ej27
      refine own_go (T' := Tj27) (f' := (mkF m 192 #[.val (.long q0), .second, .val (.long q1), .second, .val (.long q2), .second, .val (.long q3), .second, .val (.long q4), .second, .val (.int p5), .val (.ref b1), .val (.int (2 : Int32)), .val (.ref b24), .val (.int sel), .val (.long vv), .second, .val (.int (0 : Int32))] [(.int (lcmpW (f1 0) vv))])) (fun t kt => ?_) ?_
      · show Steps p.tables e below (Tj27.setTop (mkF m 177 #[.val (.long q0), .second, .val (.long q1), .second, .val (.long q2), .second, .val (.long q3), .second, .val (.long q4), .second, .val (.int p5), .val (.ref b1), .val (.int (2 : Int32)), .val (.ref b24), .val (.int sel), .val (.long vv), .second, .unset] [])) t
        refine XS.iconst Xj27.here hx rfl (hb hby at_177) ?_
        show Steps p.tables e below (Tj27.setTop (mkF m 178 #[.val (.long q0), .second, .val (.long q1), .second, .val (.long q2), .second, .val (.long q3), .second, .val (.long q4), .second, .val (.int p5), .val (.ref b1), .val (.int (2 : Int32)), .val (.ref b24), .val (.int sel), .val (.long vv), .second, .unset] [(.int (0 : Int32))])) t
        refine XS.istore Xj27.here hx rfl (hb hby at_178) rfl (l' := #[.val (.long q0), .second, .val (.long q1), .second, .val (.long q2), .second, .val (.long q3), .second, .val (.long q4), .second, .val (.int p5), .val (.ref b1), .val (.int (2 : Int32)), .val (.ref b24), .val (.int sel), .val (.long vv), .second, .val (.int (0 : Int32))]) rfl ?_
        show Steps p.tables e below (Tj27.setTop (mkF m 180 #[.val (.long q0), .second, .val (.long q1), .second, .val (.long q2), .second, .val (.long q3), .second, .val (.long q4), .second, .val (.int p5), .val (.ref b1), .val (.int (2 : Int32)), .val (.ref b24), .val (.int sel), .val (.long vv), .second, .val (.int (0 : Int32))] [])) t
        refine XS.iload Xj27.here hx rfl (hb hby at_180) rfl ?_
        show Steps p.tables e below (Tj27.setTop (mkF m 182 #[.val (.long q0), .second, .val (.long q1), .second, .val (.long q2), .second, .val (.long q3), .second, .val (.long q4), .second, .val (.int p5), .val (.ref b1), .val (.int (2 : Int32)), .val (.ref b24), .val (.int sel), .val (.long vv), .second, .val (.int (0 : Int32))] [(.int (2 : Int32))])) t
        refine XS.ifNo Xj27.here hx rfl (hb hby at_182) rfl (by decide) ?_
        show Steps p.tables e below (Tj27.setTop (mkF m 185 #[.val (.long q0), .second, .val (.long q1), .second, .val (.long q2), .second, .val (.long q3), .second, .val (.long q4), .second, .val (.int p5), .val (.ref b1), .val (.int (2 : Int32)), .val (.ref b24), .val (.int sel), .val (.long vv), .second, .val (.int (0 : Int32))] [])) t
        refine XS.aload Xj27.here hx rfl (hb hby at_185) rfl rfl ?_
        show Steps p.tables e below (Tj27.setTop (mkF m 187 #[.val (.long q0), .second, .val (.long q1), .second, .val (.long q2), .second, .val (.long q3), .second, .val (.long q4), .second, .val (.int p5), .val (.ref b1), .val (.int (2 : Int32)), .val (.ref b24), .val (.int sel), .val (.long vv), .second, .val (.int (0 : Int32))] [(.ref b24)])) t
        refine XS.iconst Xj27.here hx rfl (hb hby at_187) ?_
        show Steps p.tables e below (Tj27.setTop (mkF m 188 #[.val (.long q0), .second, .val (.long q1), .second, .val (.long q2), .second, .val (.long q3), .second, .val (.long q4), .second, .val (.int p5), .val (.ref b1), .val (.int (2 : Int32)), .val (.ref b24), .val (.int sel), .val (.long vv), .second, .val (.int (0 : Int32))] [(.int (0 : Int32)), (.ref b24)])) t
        refine own_laload Xj27 hx hZ ej27 B26 (i := 0) (by decide) (by decide) (g := (mkF m 188 #[.val (.long q0), .second, .val (.long q1), .second, .val (.long q2), .second, .val (.long q3), .second, .val (.long q4), .second, .val (.int p5), .val (.ref b1), .val (.int (2 : Int32)), .val (.ref b24), .val (.int sel), .val (.long vv), .second, .val (.int (0 : Int32))] [(.int (0 : Int32)), (.ref b24)])) rfl rfl (hb hby at_188) _ ?_
        show Steps p.tables e below (Tj27.setTop (mkF m 189 #[.val (.long q0), .second, .val (.long q1), .second, .val (.long q2), .second, .val (.long q3), .second, .val (.long q4), .second, .val (.int p5), .val (.ref b1), .val (.int (2 : Int32)), .val (.ref b24), .val (.int sel), .val (.long vv), .second, .val (.int (0 : Int32))] [(.long (f1 0))])) t
        refine XS.lload Xj27.here hx rfl (hb hby at_189) rfl ?_
        show Steps p.tables e below (Tj27.setTop (mkF m 191 #[.val (.long q0), .second, .val (.long q1), .second, .val (.long q2), .second, .val (.long q3), .second, .val (.long q4), .second, .val (.int p5), .val (.ref b1), .val (.int (2 : Int32)), .val (.ref b24), .val (.int sel), .val (.long vv), .second, .val (.int (0 : Int32))] [(.long vv), (.long (f1 0))])) t
        refine XS.lcmp Xj27.here hx rfl (hb hby at_191) rfl ?_
        show Steps p.tables e below (Tj27.setTop (mkF m 192 #[.val (.long q0), .second, .val (.long q1), .second, .val (.long q2), .second, .val (.long q3), .second, .val (.long q4), .second, .val (.int p5), .val (.ref b1), .val (.int (2 : Int32)), .val (.ref b24), .val (.int sel), .val (.long vv), .second, .val (.int (0 : Int32))] [(.int (lcmpW (f1 0) vv))])) t
        exact kt
      by_cases hc192_28 : (f1 0) < vv
      · refine own_go (T' := Tj27) (f' := (mkF m 211 #[.val (.long q0), .second, .val (.long q1), .second, .val (.long q2), .second, .val (.long q3), .second, .val (.long q4), .second, .val (.int p5), .val (.ref b1), .val (.int (2 : Int32)), .val (.ref b24), .val (.int sel), .val (.long vv), .second, .val (.int (1 : Int32))] [(.int (lcmpW (f1 1) vv))])) (fun t kt => ?_) ?_
        · show Steps p.tables e below (Tj27.setTop (mkF m 192 #[.val (.long q0), .second, .val (.long q1), .second, .val (.long q2), .second, .val (.long q3), .second, .val (.long q4), .second, .val (.int p5), .val (.ref b1), .val (.int (2 : Int32)), .val (.ref b24), .val (.int sel), .val (.long vv), .second, .val (.int (0 : Int32))] [(.int (lcmpW (f1 0) vv))])) t
          refine XS.ifNo Xj27.here hx rfl (hb hby at_192) rfl (own_lN_ge hc192_28) ?_
          show Steps p.tables e below (Tj27.setTop (mkF m 195 #[.val (.long q0), .second, .val (.long q1), .second, .val (.long q2), .second, .val (.long q3), .second, .val (.long q4), .second, .val (.int p5), .val (.ref b1), .val (.int (2 : Int32)), .val (.ref b24), .val (.int sel), .val (.long vv), .second, .val (.int (0 : Int32))] [])) t
          refine XS.iinc Xj27.here hx rfl (hb hby at_195) rfl (l' := #[.val (.long q0), .second, .val (.long q1), .second, .val (.long q2), .second, .val (.long q3), .second, .val (.long q4), .second, .val (.int p5), .val (.ref b1), .val (.int (2 : Int32)), .val (.ref b24), .val (.int sel), .val (.long vv), .second, .val (.int (1 : Int32))]) rfl ?_
          show Steps p.tables e below (Tj27.setTop (mkF m 198 #[.val (.long q0), .second, .val (.long q1), .second, .val (.long q2), .second, .val (.long q3), .second, .val (.long q4), .second, .val (.int p5), .val (.ref b1), .val (.int (2 : Int32)), .val (.ref b24), .val (.int sel), .val (.long vv), .second, .val (.int (1 : Int32))] [])) t
          refine XS.iload Xj27.here hx rfl (hb hby at_198) rfl ?_
          show Steps p.tables e below (Tj27.setTop (mkF m 200 #[.val (.long q0), .second, .val (.long q1), .second, .val (.long q2), .second, .val (.long q3), .second, .val (.long q4), .second, .val (.int p5), .val (.ref b1), .val (.int (2 : Int32)), .val (.ref b24), .val (.int sel), .val (.long vv), .second, .val (.int (1 : Int32))] [(.int (2 : Int32))])) t
          refine XS.iconst Xj27.here hx rfl (hb hby at_200) ?_
          show Steps p.tables e below (Tj27.setTop (mkF m 201 #[.val (.long q0), .second, .val (.long q1), .second, .val (.long q2), .second, .val (.long q3), .second, .val (.long q4), .second, .val (.int p5), .val (.ref b1), .val (.int (2 : Int32)), .val (.ref b24), .val (.int sel), .val (.long vv), .second, .val (.int (1 : Int32))] [(.int (1 : Int32)), (.int (2 : Int32))])) t
          refine XS.icmpNo Xj27.here hx rfl (hb hby at_201) rfl (by decide) ?_
          show Steps p.tables e below (Tj27.setTop (mkF m 204 #[.val (.long q0), .second, .val (.long q1), .second, .val (.long q2), .second, .val (.long q3), .second, .val (.long q4), .second, .val (.int p5), .val (.ref b1), .val (.int (2 : Int32)), .val (.ref b24), .val (.int sel), .val (.long vv), .second, .val (.int (1 : Int32))] [])) t
          refine XS.aload Xj27.here hx rfl (hb hby at_204) rfl rfl ?_
          show Steps p.tables e below (Tj27.setTop (mkF m 206 #[.val (.long q0), .second, .val (.long q1), .second, .val (.long q2), .second, .val (.long q3), .second, .val (.long q4), .second, .val (.int p5), .val (.ref b1), .val (.int (2 : Int32)), .val (.ref b24), .val (.int sel), .val (.long vv), .second, .val (.int (1 : Int32))] [(.ref b24)])) t
          refine XS.iconst Xj27.here hx rfl (hb hby at_206) ?_
          show Steps p.tables e below (Tj27.setTop (mkF m 207 #[.val (.long q0), .second, .val (.long q1), .second, .val (.long q2), .second, .val (.long q3), .second, .val (.long q4), .second, .val (.int p5), .val (.ref b1), .val (.int (2 : Int32)), .val (.ref b24), .val (.int sel), .val (.long vv), .second, .val (.int (1 : Int32))] [(.int (1 : Int32)), (.ref b24)])) t
          refine own_laload Xj27 hx hZ ej27 B26 (i := 1) (by decide) (by decide) (g := (mkF m 207 #[.val (.long q0), .second, .val (.long q1), .second, .val (.long q2), .second, .val (.long q3), .second, .val (.long q4), .second, .val (.int p5), .val (.ref b1), .val (.int (2 : Int32)), .val (.ref b24), .val (.int sel), .val (.long vv), .second, .val (.int (1 : Int32))] [(.int (1 : Int32)), (.ref b24)])) rfl rfl (hb hby at_207) _ ?_
          show Steps p.tables e below (Tj27.setTop (mkF m 208 #[.val (.long q0), .second, .val (.long q1), .second, .val (.long q2), .second, .val (.long q3), .second, .val (.long q4), .second, .val (.int p5), .val (.ref b1), .val (.int (2 : Int32)), .val (.ref b24), .val (.int sel), .val (.long vv), .second, .val (.int (1 : Int32))] [(.long (f1 1))])) t
          refine XS.lload Xj27.here hx rfl (hb hby at_208) rfl ?_
          show Steps p.tables e below (Tj27.setTop (mkF m 210 #[.val (.long q0), .second, .val (.long q1), .second, .val (.long q2), .second, .val (.long q3), .second, .val (.long q4), .second, .val (.int p5), .val (.ref b1), .val (.int (2 : Int32)), .val (.ref b24), .val (.int sel), .val (.long vv), .second, .val (.int (1 : Int32))] [(.long vv), (.long (f1 1))])) t
          refine XS.lcmp Xj27.here hx rfl (hb hby at_210) rfl ?_
          show Steps p.tables e below (Tj27.setTop (mkF m 211 #[.val (.long q0), .second, .val (.long q1), .second, .val (.long q2), .second, .val (.long q3), .second, .val (.long q4), .second, .val (.int p5), .val (.ref b1), .val (.int (2 : Int32)), .val (.ref b24), .val (.int sel), .val (.long vv), .second, .val (.int (1 : Int32))] [(.int (lcmpW (f1 1) vv))])) t
          exact kt
        by_cases hc211_29 : (f1 1) < vv
        · refine own_go (T' := Tj27) (f' := (mkF m 259 #[.val (.long q0), .second, .val (.long q1), .second, .val (.long q2), .second, .val (.long q3), .second, .val (.long q4), .second, .val (.int p5), .val (.ref b1), .val (.int (2 : Int32)), .val (.ref b24), .val (.int sel), .val (.long vv), .second, .val (.int (2 : Int32))] [(.long vv), (.ref b24)])) (fun t kt => ?_) ?_
          · show Steps p.tables e below (Tj27.setTop (mkF m 211 #[.val (.long q0), .second, .val (.long q1), .second, .val (.long q2), .second, .val (.long q3), .second, .val (.long q4), .second, .val (.int p5), .val (.ref b1), .val (.int (2 : Int32)), .val (.ref b24), .val (.int sel), .val (.long vv), .second, .val (.int (1 : Int32))] [(.int (lcmpW (f1 1) vv))])) t
            refine XS.ifNo Xj27.here hx rfl (hb hby at_211) rfl (own_lN_ge hc211_29) ?_
            show Steps p.tables e below (Tj27.setTop (mkF m 214 #[.val (.long q0), .second, .val (.long q1), .second, .val (.long q2), .second, .val (.long q3), .second, .val (.long q4), .second, .val (.int p5), .val (.ref b1), .val (.int (2 : Int32)), .val (.ref b24), .val (.int sel), .val (.long vv), .second, .val (.int (1 : Int32))] [])) t
            refine XS.iinc Xj27.here hx rfl (hb hby at_214) rfl (l' := #[.val (.long q0), .second, .val (.long q1), .second, .val (.long q2), .second, .val (.long q3), .second, .val (.long q4), .second, .val (.int p5), .val (.ref b1), .val (.int (2 : Int32)), .val (.ref b24), .val (.int sel), .val (.long vv), .second, .val (.int (2 : Int32))]) rfl ?_
            show Steps p.tables e below (Tj27.setTop (mkF m 217 #[.val (.long q0), .second, .val (.long q1), .second, .val (.long q2), .second, .val (.long q3), .second, .val (.long q4), .second, .val (.int p5), .val (.ref b1), .val (.int (2 : Int32)), .val (.ref b24), .val (.int sel), .val (.long vv), .second, .val (.int (2 : Int32))] [])) t
            refine XS.iload Xj27.here hx rfl (hb hby at_217) rfl ?_
            show Steps p.tables e below (Tj27.setTop (mkF m 219 #[.val (.long q0), .second, .val (.long q1), .second, .val (.long q2), .second, .val (.long q3), .second, .val (.long q4), .second, .val (.int p5), .val (.ref b1), .val (.int (2 : Int32)), .val (.ref b24), .val (.int sel), .val (.long vv), .second, .val (.int (2 : Int32))] [(.int (2 : Int32))])) t
            refine XS.iconst Xj27.here hx rfl (hb hby at_219) ?_
            show Steps p.tables e below (Tj27.setTop (mkF m 220 #[.val (.long q0), .second, .val (.long q1), .second, .val (.long q2), .second, .val (.long q3), .second, .val (.long q4), .second, .val (.int p5), .val (.ref b1), .val (.int (2 : Int32)), .val (.ref b24), .val (.int sel), .val (.long vv), .second, .val (.int (2 : Int32))] [(.int (2 : Int32)), (.int (2 : Int32))])) t
            refine XS.icmpYes Xj27.here hx rfl (pc0 := 220) (pc' := 236) rfl (hb hby at_220) rfl (by decide) (by decide) (by decide) ?_
            show Steps p.tables e below (Tj27.setTop (mkF m 236 #[.val (.long q0), .second, .val (.long q1), .second, .val (.long q2), .second, .val (.long q3), .second, .val (.long q4), .second, .val (.int p5), .val (.ref b1), .val (.int (2 : Int32)), .val (.ref b24), .val (.int sel), .val (.long vv), .second, .val (.int (2 : Int32))] [])) t
            refine XS.iload Xj27.here hx rfl (hb hby at_236) rfl ?_
            show Steps p.tables e below (Tj27.setTop (mkF m 238 #[.val (.long q0), .second, .val (.long q1), .second, .val (.long q2), .second, .val (.long q3), .second, .val (.long q4), .second, .val (.int p5), .val (.ref b1), .val (.int (2 : Int32)), .val (.ref b24), .val (.int sel), .val (.long vv), .second, .val (.int (2 : Int32))] [(.int (2 : Int32))])) t
            refine XS.iconst Xj27.here hx rfl (hb hby at_238) ?_
            show Steps p.tables e below (Tj27.setTop (mkF m 239 #[.val (.long q0), .second, .val (.long q1), .second, .val (.long q2), .second, .val (.long q3), .second, .val (.long q4), .second, .val (.int p5), .val (.ref b1), .val (.int (2 : Int32)), .val (.ref b24), .val (.int sel), .val (.long vv), .second, .val (.int (2 : Int32))] [(.int (3 : Int32)), (.int (2 : Int32))])) t
            refine XS.icmpYes Xj27.here hx rfl (pc0 := 239) (pc' := 255) rfl (hb hby at_239) rfl (by decide) (by decide) (by decide) ?_
            show Steps p.tables e below (Tj27.setTop (mkF m 255 #[.val (.long q0), .second, .val (.long q1), .second, .val (.long q2), .second, .val (.long q3), .second, .val (.long q4), .second, .val (.int p5), .val (.ref b1), .val (.int (2 : Int32)), .val (.ref b24), .val (.int sel), .val (.long vv), .second, .val (.int (2 : Int32))] [])) t
            refine XS.aload Xj27.here hx rfl (hb hby at_255) rfl rfl ?_
            show Steps p.tables e below (Tj27.setTop (mkF m 257 #[.val (.long q0), .second, .val (.long q1), .second, .val (.long q2), .second, .val (.long q3), .second, .val (.long q4), .second, .val (.int p5), .val (.ref b1), .val (.int (2 : Int32)), .val (.ref b24), .val (.int sel), .val (.long vv), .second, .val (.int (2 : Int32))] [(.ref b24)])) t
            refine XS.lload Xj27.here hx rfl (hb hby at_257) rfl ?_
            show Steps p.tables e below (Tj27.setTop (mkF m 259 #[.val (.long q0), .second, .val (.long q1), .second, .val (.long q2), .second, .val (.long q3), .second, .val (.long q4), .second, .val (.int p5), .val (.ref b1), .val (.int (2 : Int32)), .val (.ref b24), .val (.int sel), .val (.long vv), .second, .val (.int (2 : Int32))] [(.long vv), (.ref b24)])) t
            exact kt
          refine own_callSp Xj27 hx hZ hown ej27 (hw _ (List.mem_of_getElem? (i := 5) rfl)) (hw _ (List.mem_of_getElem? (i := 6) rfl)) (hw _ (List.mem_of_getElem? (i := 7) rfl)) (hw _ (List.mem_of_getElem? (i := 8) rfl)) (by decide) (rm2 l Z aw hw b24 vv 2 f1 (2 : Int32) h26 n0 Z26 B26 (by decide) (by decide) (own_p2 hf0 hf1 (own_net ht1 ht2 ht3 ht4 ht5))) (g := (mkF m 259 #[.val (.long q0), .second, .val (.long q1), .second, .val (.long q2), .second, .val (.long q3), .second, .val (.long q4), .second, .val (.int p5), .val (.ref b1), .val (.int (2 : Int32)), .val (.ref b24), .val (.int sel), .val (.long vv), .second, .val (.int (2 : Int32))] [(.long vv), (.ref b24)])) rfl (by rw [hml]; rfl) (argsL := [(.ref b24), (.long vv)]) (rest := []) (lenOf pd_1 rfl) rfl rfl (W := 0) (by show 2 * 0 + _ ≤ _; exact Nat.le_of_eq rfl) (hb hby at_259) (by decide) (by decide) (by decide) (by decide) ?_
          intro T30 X30 e30
          refine own_go (T' := T30) (f' := (mkF m 272 #[.val (.long q0), .second, .val (.long q1), .second, .val (.long q2), .second, .val (.long q3), .second, .val (.long q4), .second, .val (.int p5), .val (.ref b1), .val (.int (2 : Int32)), .val (.ref b24), .val (.int sel), .val (.long vv), .second, .val (.int (2 : Int32))] [(.int (1 : Int32))])) (fun t kt => ?_) ?_
          · show Steps p.tables e below (T30.setTop (mkF m 262 #[.val (.long q0), .second, .val (.long q1), .second, .val (.long q2), .second, .val (.long q3), .second, .val (.long q4), .second, .val (.int p5), .val (.ref b1), .val (.int (2 : Int32)), .val (.ref b24), .val (.int sel), .val (.long vv), .second, .val (.int (2 : Int32))] [(.int (Int32.ofNat (own_cnt 2 f1 vv)))])) t
            refine XS.iload X30.here hx rfl (hb hby at_262) rfl ?_
            show Steps p.tables e below (T30.setTop (mkF m 264 #[.val (.long q0), .second, .val (.long q1), .second, .val (.long q2), .second, .val (.long q3), .second, .val (.long q4), .second, .val (.int p5), .val (.ref b1), .val (.int (2 : Int32)), .val (.ref b24), .val (.int sel), .val (.long vv), .second, .val (.int (2 : Int32))] [(.int (2 : Int32)), (.int (Int32.ofNat (own_cnt 2 f1 vv)))])) t
            refine XS.icmpNo X30.here hx rfl (hb hby at_264) rfl (teq (show (Int32.ofNat (own_cnt 2 f1 vv)) = (2 : Int32) from by simp only [own_cnt, if_pos hc192_28, if_pos hc211_29]; rfl)).2 ?_
            show Steps p.tables e below (T30.setTop (mkF m 267 #[.val (.long q0), .second, .val (.long q1), .second, .val (.long q2), .second, .val (.long q3), .second, .val (.long q4), .second, .val (.int p5), .val (.ref b1), .val (.int (2 : Int32)), .val (.ref b24), .val (.int sel), .val (.long vv), .second, .val (.int (2 : Int32))] [])) t
            refine XS.iconst X30.here hx rfl (hb hby at_267) ?_
            show Steps p.tables e below (T30.setTop (mkF m 268 #[.val (.long q0), .second, .val (.long q1), .second, .val (.long q2), .second, .val (.long q3), .second, .val (.long q4), .second, .val (.int p5), .val (.ref b1), .val (.int (2 : Int32)), .val (.ref b24), .val (.int sel), .val (.long vv), .second, .val (.int (2 : Int32))] [(.int (1 : Int32))])) t
            refine XS.goto X30.here hx rfl (pc0 := 268) (pc' := 272) rfl (hb hby at_268) (by decide) (by decide) ?_
            show Steps p.tables e below (T30.setTop (mkF m 272 #[.val (.long q0), .second, .val (.long q1), .second, .val (.long q2), .second, .val (.long q3), .second, .val (.long q4), .second, .val (.int p5), .val (.ref b1), .val (.int (2 : Int32)), .val (.ref b24), .val (.int sel), .val (.long vv), .second, .val (.int (2 : Int32))] [(.int (1 : Int32))])) t
            exact kt
          exact own_retN X30 hP hx hlk e30 (t := .boolean) hret (by simp) (hb hby at_272) (by decide) (by decide) (z' := (1 : Int32)) rfl ⟨rfl, Nj27⟩
        · refine own_go (T' := Tj27) (f' := (mkF m 259 #[.val (.long q0), .second, .val (.long q1), .second, .val (.long q2), .second, .val (.long q3), .second, .val (.long q4), .second, .val (.int p5), .val (.ref b1), .val (.int (2 : Int32)), .val (.ref b24), .val (.int sel), .val (.long vv), .second, .val (.int (1 : Int32))] [(.long vv), (.ref b24)])) (fun t kt => ?_) ?_
          · show Steps p.tables e below (Tj27.setTop (mkF m 211 #[.val (.long q0), .second, .val (.long q1), .second, .val (.long q2), .second, .val (.long q3), .second, .val (.long q4), .second, .val (.int p5), .val (.ref b1), .val (.int (2 : Int32)), .val (.ref b24), .val (.int sel), .val (.long vv), .second, .val (.int (1 : Int32))] [(.int (lcmpW (f1 1) vv))])) t
            refine XS.ifYes Xj27.here hx rfl (pc0 := 211) (pc' := 217) rfl (hb hby at_211) rfl (own_lY_ge hc211_29) (by decide) (by decide) ?_
            show Steps p.tables e below (Tj27.setTop (mkF m 217 #[.val (.long q0), .second, .val (.long q1), .second, .val (.long q2), .second, .val (.long q3), .second, .val (.long q4), .second, .val (.int p5), .val (.ref b1), .val (.int (2 : Int32)), .val (.ref b24), .val (.int sel), .val (.long vv), .second, .val (.int (1 : Int32))] [])) t
            refine XS.iload Xj27.here hx rfl (hb hby at_217) rfl ?_
            show Steps p.tables e below (Tj27.setTop (mkF m 219 #[.val (.long q0), .second, .val (.long q1), .second, .val (.long q2), .second, .val (.long q3), .second, .val (.long q4), .second, .val (.int p5), .val (.ref b1), .val (.int (2 : Int32)), .val (.ref b24), .val (.int sel), .val (.long vv), .second, .val (.int (1 : Int32))] [(.int (2 : Int32))])) t
            refine XS.iconst Xj27.here hx rfl (hb hby at_219) ?_
            show Steps p.tables e below (Tj27.setTop (mkF m 220 #[.val (.long q0), .second, .val (.long q1), .second, .val (.long q2), .second, .val (.long q3), .second, .val (.long q4), .second, .val (.int p5), .val (.ref b1), .val (.int (2 : Int32)), .val (.ref b24), .val (.int sel), .val (.long vv), .second, .val (.int (1 : Int32))] [(.int (2 : Int32)), (.int (2 : Int32))])) t
            refine XS.icmpYes Xj27.here hx rfl (pc0 := 220) (pc' := 236) rfl (hb hby at_220) rfl (by decide) (by decide) (by decide) ?_
            show Steps p.tables e below (Tj27.setTop (mkF m 236 #[.val (.long q0), .second, .val (.long q1), .second, .val (.long q2), .second, .val (.long q3), .second, .val (.long q4), .second, .val (.int p5), .val (.ref b1), .val (.int (2 : Int32)), .val (.ref b24), .val (.int sel), .val (.long vv), .second, .val (.int (1 : Int32))] [])) t
            refine XS.iload Xj27.here hx rfl (hb hby at_236) rfl ?_
            show Steps p.tables e below (Tj27.setTop (mkF m 238 #[.val (.long q0), .second, .val (.long q1), .second, .val (.long q2), .second, .val (.long q3), .second, .val (.long q4), .second, .val (.int p5), .val (.ref b1), .val (.int (2 : Int32)), .val (.ref b24), .val (.int sel), .val (.long vv), .second, .val (.int (1 : Int32))] [(.int (2 : Int32))])) t
            refine XS.iconst Xj27.here hx rfl (hb hby at_238) ?_
            show Steps p.tables e below (Tj27.setTop (mkF m 239 #[.val (.long q0), .second, .val (.long q1), .second, .val (.long q2), .second, .val (.long q3), .second, .val (.long q4), .second, .val (.int p5), .val (.ref b1), .val (.int (2 : Int32)), .val (.ref b24), .val (.int sel), .val (.long vv), .second, .val (.int (1 : Int32))] [(.int (3 : Int32)), (.int (2 : Int32))])) t
            refine XS.icmpYes Xj27.here hx rfl (pc0 := 239) (pc' := 255) rfl (hb hby at_239) rfl (by decide) (by decide) (by decide) ?_
            show Steps p.tables e below (Tj27.setTop (mkF m 255 #[.val (.long q0), .second, .val (.long q1), .second, .val (.long q2), .second, .val (.long q3), .second, .val (.long q4), .second, .val (.int p5), .val (.ref b1), .val (.int (2 : Int32)), .val (.ref b24), .val (.int sel), .val (.long vv), .second, .val (.int (1 : Int32))] [])) t
            refine XS.aload Xj27.here hx rfl (hb hby at_255) rfl rfl ?_
            show Steps p.tables e below (Tj27.setTop (mkF m 257 #[.val (.long q0), .second, .val (.long q1), .second, .val (.long q2), .second, .val (.long q3), .second, .val (.long q4), .second, .val (.int p5), .val (.ref b1), .val (.int (2 : Int32)), .val (.ref b24), .val (.int sel), .val (.long vv), .second, .val (.int (1 : Int32))] [(.ref b24)])) t
            refine XS.lload Xj27.here hx rfl (hb hby at_257) rfl ?_
            show Steps p.tables e below (Tj27.setTop (mkF m 259 #[.val (.long q0), .second, .val (.long q1), .second, .val (.long q2), .second, .val (.long q3), .second, .val (.long q4), .second, .val (.int p5), .val (.ref b1), .val (.int (2 : Int32)), .val (.ref b24), .val (.int sel), .val (.long vv), .second, .val (.int (1 : Int32))] [(.long vv), (.ref b24)])) t
            exact kt
          refine own_callSp Xj27 hx hZ hown ej27 (hw _ (List.mem_of_getElem? (i := 5) rfl)) (hw _ (List.mem_of_getElem? (i := 6) rfl)) (hw _ (List.mem_of_getElem? (i := 7) rfl)) (hw _ (List.mem_of_getElem? (i := 8) rfl)) (by decide) (rm2 l Z aw hw b24 vv 2 f1 (2 : Int32) h26 n0 Z26 B26 (by decide) (by decide) (own_p2 hf0 hf1 (own_net ht1 ht2 ht3 ht4 ht5))) (g := (mkF m 259 #[.val (.long q0), .second, .val (.long q1), .second, .val (.long q2), .second, .val (.long q3), .second, .val (.long q4), .second, .val (.int p5), .val (.ref b1), .val (.int (2 : Int32)), .val (.ref b24), .val (.int sel), .val (.long vv), .second, .val (.int (1 : Int32))] [(.long vv), (.ref b24)])) rfl (by rw [hml]; rfl) (argsL := [(.ref b24), (.long vv)]) (rest := []) (lenOf pd_1 rfl) rfl rfl (W := 0) (by show 2 * 0 + _ ≤ _; exact Nat.le_of_eq rfl) (hb hby at_259) (by decide) (by decide) (by decide) (by decide) ?_
          intro T31 X31 e31
          refine own_go (T' := T31) (f' := (mkF m 272 #[.val (.long q0), .second, .val (.long q1), .second, .val (.long q2), .second, .val (.long q3), .second, .val (.long q4), .second, .val (.int p5), .val (.ref b1), .val (.int (2 : Int32)), .val (.ref b24), .val (.int sel), .val (.long vv), .second, .val (.int (1 : Int32))] [(.int (1 : Int32))])) (fun t kt => ?_) ?_
          · show Steps p.tables e below (T31.setTop (mkF m 262 #[.val (.long q0), .second, .val (.long q1), .second, .val (.long q2), .second, .val (.long q3), .second, .val (.long q4), .second, .val (.int p5), .val (.ref b1), .val (.int (2 : Int32)), .val (.ref b24), .val (.int sel), .val (.long vv), .second, .val (.int (1 : Int32))] [(.int (Int32.ofNat (own_cnt 2 f1 vv)))])) t
            refine XS.iload X31.here hx rfl (hb hby at_262) rfl ?_
            show Steps p.tables e below (T31.setTop (mkF m 264 #[.val (.long q0), .second, .val (.long q1), .second, .val (.long q2), .second, .val (.long q3), .second, .val (.long q4), .second, .val (.int p5), .val (.ref b1), .val (.int (2 : Int32)), .val (.ref b24), .val (.int sel), .val (.long vv), .second, .val (.int (1 : Int32))] [(.int (1 : Int32)), (.int (Int32.ofNat (own_cnt 2 f1 vv)))])) t
            refine XS.icmpNo X31.here hx rfl (hb hby at_264) rfl (teq (show (Int32.ofNat (own_cnt 2 f1 vv)) = (1 : Int32) from by simp only [own_cnt, if_pos hc192_28, if_neg hc211_29]; rfl)).2 ?_
            show Steps p.tables e below (T31.setTop (mkF m 267 #[.val (.long q0), .second, .val (.long q1), .second, .val (.long q2), .second, .val (.long q3), .second, .val (.long q4), .second, .val (.int p5), .val (.ref b1), .val (.int (2 : Int32)), .val (.ref b24), .val (.int sel), .val (.long vv), .second, .val (.int (1 : Int32))] [])) t
            refine XS.iconst X31.here hx rfl (hb hby at_267) ?_
            show Steps p.tables e below (T31.setTop (mkF m 268 #[.val (.long q0), .second, .val (.long q1), .second, .val (.long q2), .second, .val (.long q3), .second, .val (.long q4), .second, .val (.int p5), .val (.ref b1), .val (.int (2 : Int32)), .val (.ref b24), .val (.int sel), .val (.long vv), .second, .val (.int (1 : Int32))] [(.int (1 : Int32))])) t
            refine XS.goto X31.here hx rfl (pc0 := 268) (pc' := 272) rfl (hb hby at_268) (by decide) (by decide) ?_
            show Steps p.tables e below (T31.setTop (mkF m 272 #[.val (.long q0), .second, .val (.long q1), .second, .val (.long q2), .second, .val (.long q3), .second, .val (.long q4), .second, .val (.int p5), .val (.ref b1), .val (.int (2 : Int32)), .val (.ref b24), .val (.int sel), .val (.long vv), .second, .val (.int (1 : Int32))] [(.int (1 : Int32))])) t
            exact kt
          exact own_retN X31 hP hx hlk e31 (t := .boolean) hret (by simp) (hb hby at_272) (by decide) (by decide) (z' := (1 : Int32)) rfl ⟨rfl, Nj27⟩
      · refine own_go (T' := Tj27) (f' := (mkF m 211 #[.val (.long q0), .second, .val (.long q1), .second, .val (.long q2), .second, .val (.long q3), .second, .val (.long q4), .second, .val (.int p5), .val (.ref b1), .val (.int (2 : Int32)), .val (.ref b24), .val (.int sel), .val (.long vv), .second, .val (.int (0 : Int32))] [(.int (lcmpW (f1 1) vv))])) (fun t kt => ?_) ?_
        · show Steps p.tables e below (Tj27.setTop (mkF m 192 #[.val (.long q0), .second, .val (.long q1), .second, .val (.long q2), .second, .val (.long q3), .second, .val (.long q4), .second, .val (.int p5), .val (.ref b1), .val (.int (2 : Int32)), .val (.ref b24), .val (.int sel), .val (.long vv), .second, .val (.int (0 : Int32))] [(.int (lcmpW (f1 0) vv))])) t
          refine XS.ifYes Xj27.here hx rfl (pc0 := 192) (pc' := 198) rfl (hb hby at_192) rfl (own_lY_ge hc192_28) (by decide) (by decide) ?_
          show Steps p.tables e below (Tj27.setTop (mkF m 198 #[.val (.long q0), .second, .val (.long q1), .second, .val (.long q2), .second, .val (.long q3), .second, .val (.long q4), .second, .val (.int p5), .val (.ref b1), .val (.int (2 : Int32)), .val (.ref b24), .val (.int sel), .val (.long vv), .second, .val (.int (0 : Int32))] [])) t
          refine XS.iload Xj27.here hx rfl (hb hby at_198) rfl ?_
          show Steps p.tables e below (Tj27.setTop (mkF m 200 #[.val (.long q0), .second, .val (.long q1), .second, .val (.long q2), .second, .val (.long q3), .second, .val (.long q4), .second, .val (.int p5), .val (.ref b1), .val (.int (2 : Int32)), .val (.ref b24), .val (.int sel), .val (.long vv), .second, .val (.int (0 : Int32))] [(.int (2 : Int32))])) t
          refine XS.iconst Xj27.here hx rfl (hb hby at_200) ?_
          show Steps p.tables e below (Tj27.setTop (mkF m 201 #[.val (.long q0), .second, .val (.long q1), .second, .val (.long q2), .second, .val (.long q3), .second, .val (.long q4), .second, .val (.int p5), .val (.ref b1), .val (.int (2 : Int32)), .val (.ref b24), .val (.int sel), .val (.long vv), .second, .val (.int (0 : Int32))] [(.int (1 : Int32)), (.int (2 : Int32))])) t
          refine XS.icmpNo Xj27.here hx rfl (hb hby at_201) rfl (by decide) ?_
          show Steps p.tables e below (Tj27.setTop (mkF m 204 #[.val (.long q0), .second, .val (.long q1), .second, .val (.long q2), .second, .val (.long q3), .second, .val (.long q4), .second, .val (.int p5), .val (.ref b1), .val (.int (2 : Int32)), .val (.ref b24), .val (.int sel), .val (.long vv), .second, .val (.int (0 : Int32))] [])) t
          refine XS.aload Xj27.here hx rfl (hb hby at_204) rfl rfl ?_
          show Steps p.tables e below (Tj27.setTop (mkF m 206 #[.val (.long q0), .second, .val (.long q1), .second, .val (.long q2), .second, .val (.long q3), .second, .val (.long q4), .second, .val (.int p5), .val (.ref b1), .val (.int (2 : Int32)), .val (.ref b24), .val (.int sel), .val (.long vv), .second, .val (.int (0 : Int32))] [(.ref b24)])) t
          refine XS.iconst Xj27.here hx rfl (hb hby at_206) ?_
          show Steps p.tables e below (Tj27.setTop (mkF m 207 #[.val (.long q0), .second, .val (.long q1), .second, .val (.long q2), .second, .val (.long q3), .second, .val (.long q4), .second, .val (.int p5), .val (.ref b1), .val (.int (2 : Int32)), .val (.ref b24), .val (.int sel), .val (.long vv), .second, .val (.int (0 : Int32))] [(.int (1 : Int32)), (.ref b24)])) t
          refine own_laload Xj27 hx hZ ej27 B26 (i := 1) (by decide) (by decide) (g := (mkF m 207 #[.val (.long q0), .second, .val (.long q1), .second, .val (.long q2), .second, .val (.long q3), .second, .val (.long q4), .second, .val (.int p5), .val (.ref b1), .val (.int (2 : Int32)), .val (.ref b24), .val (.int sel), .val (.long vv), .second, .val (.int (0 : Int32))] [(.int (1 : Int32)), (.ref b24)])) rfl rfl (hb hby at_207) _ ?_
          show Steps p.tables e below (Tj27.setTop (mkF m 208 #[.val (.long q0), .second, .val (.long q1), .second, .val (.long q2), .second, .val (.long q3), .second, .val (.long q4), .second, .val (.int p5), .val (.ref b1), .val (.int (2 : Int32)), .val (.ref b24), .val (.int sel), .val (.long vv), .second, .val (.int (0 : Int32))] [(.long (f1 1))])) t
          refine XS.lload Xj27.here hx rfl (hb hby at_208) rfl ?_
          show Steps p.tables e below (Tj27.setTop (mkF m 210 #[.val (.long q0), .second, .val (.long q1), .second, .val (.long q2), .second, .val (.long q3), .second, .val (.long q4), .second, .val (.int p5), .val (.ref b1), .val (.int (2 : Int32)), .val (.ref b24), .val (.int sel), .val (.long vv), .second, .val (.int (0 : Int32))] [(.long vv), (.long (f1 1))])) t
          refine XS.lcmp Xj27.here hx rfl (hb hby at_210) rfl ?_
          show Steps p.tables e below (Tj27.setTop (mkF m 211 #[.val (.long q0), .second, .val (.long q1), .second, .val (.long q2), .second, .val (.long q3), .second, .val (.long q4), .second, .val (.int p5), .val (.ref b1), .val (.int (2 : Int32)), .val (.ref b24), .val (.int sel), .val (.long vv), .second, .val (.int (0 : Int32))] [(.int (lcmpW (f1 1) vv))])) t
          exact kt
        by_cases hc211_32 : (f1 1) < vv
        · refine own_go (T' := Tj27) (f' := (mkF m 259 #[.val (.long q0), .second, .val (.long q1), .second, .val (.long q2), .second, .val (.long q3), .second, .val (.long q4), .second, .val (.int p5), .val (.ref b1), .val (.int (2 : Int32)), .val (.ref b24), .val (.int sel), .val (.long vv), .second, .val (.int (1 : Int32))] [(.long vv), (.ref b24)])) (fun t kt => ?_) ?_
          · show Steps p.tables e below (Tj27.setTop (mkF m 211 #[.val (.long q0), .second, .val (.long q1), .second, .val (.long q2), .second, .val (.long q3), .second, .val (.long q4), .second, .val (.int p5), .val (.ref b1), .val (.int (2 : Int32)), .val (.ref b24), .val (.int sel), .val (.long vv), .second, .val (.int (0 : Int32))] [(.int (lcmpW (f1 1) vv))])) t
            refine XS.ifNo Xj27.here hx rfl (hb hby at_211) rfl (own_lN_ge hc211_32) ?_
            show Steps p.tables e below (Tj27.setTop (mkF m 214 #[.val (.long q0), .second, .val (.long q1), .second, .val (.long q2), .second, .val (.long q3), .second, .val (.long q4), .second, .val (.int p5), .val (.ref b1), .val (.int (2 : Int32)), .val (.ref b24), .val (.int sel), .val (.long vv), .second, .val (.int (0 : Int32))] [])) t
            refine XS.iinc Xj27.here hx rfl (hb hby at_214) rfl (l' := #[.val (.long q0), .second, .val (.long q1), .second, .val (.long q2), .second, .val (.long q3), .second, .val (.long q4), .second, .val (.int p5), .val (.ref b1), .val (.int (2 : Int32)), .val (.ref b24), .val (.int sel), .val (.long vv), .second, .val (.int (1 : Int32))]) rfl ?_
            show Steps p.tables e below (Tj27.setTop (mkF m 217 #[.val (.long q0), .second, .val (.long q1), .second, .val (.long q2), .second, .val (.long q3), .second, .val (.long q4), .second, .val (.int p5), .val (.ref b1), .val (.int (2 : Int32)), .val (.ref b24), .val (.int sel), .val (.long vv), .second, .val (.int (1 : Int32))] [])) t
            refine XS.iload Xj27.here hx rfl (hb hby at_217) rfl ?_
            show Steps p.tables e below (Tj27.setTop (mkF m 219 #[.val (.long q0), .second, .val (.long q1), .second, .val (.long q2), .second, .val (.long q3), .second, .val (.long q4), .second, .val (.int p5), .val (.ref b1), .val (.int (2 : Int32)), .val (.ref b24), .val (.int sel), .val (.long vv), .second, .val (.int (1 : Int32))] [(.int (2 : Int32))])) t
            refine XS.iconst Xj27.here hx rfl (hb hby at_219) ?_
            show Steps p.tables e below (Tj27.setTop (mkF m 220 #[.val (.long q0), .second, .val (.long q1), .second, .val (.long q2), .second, .val (.long q3), .second, .val (.long q4), .second, .val (.int p5), .val (.ref b1), .val (.int (2 : Int32)), .val (.ref b24), .val (.int sel), .val (.long vv), .second, .val (.int (1 : Int32))] [(.int (2 : Int32)), (.int (2 : Int32))])) t
            refine XS.icmpYes Xj27.here hx rfl (pc0 := 220) (pc' := 236) rfl (hb hby at_220) rfl (by decide) (by decide) (by decide) ?_
            show Steps p.tables e below (Tj27.setTop (mkF m 236 #[.val (.long q0), .second, .val (.long q1), .second, .val (.long q2), .second, .val (.long q3), .second, .val (.long q4), .second, .val (.int p5), .val (.ref b1), .val (.int (2 : Int32)), .val (.ref b24), .val (.int sel), .val (.long vv), .second, .val (.int (1 : Int32))] [])) t
            refine XS.iload Xj27.here hx rfl (hb hby at_236) rfl ?_
            show Steps p.tables e below (Tj27.setTop (mkF m 238 #[.val (.long q0), .second, .val (.long q1), .second, .val (.long q2), .second, .val (.long q3), .second, .val (.long q4), .second, .val (.int p5), .val (.ref b1), .val (.int (2 : Int32)), .val (.ref b24), .val (.int sel), .val (.long vv), .second, .val (.int (1 : Int32))] [(.int (2 : Int32))])) t
            refine XS.iconst Xj27.here hx rfl (hb hby at_238) ?_
            show Steps p.tables e below (Tj27.setTop (mkF m 239 #[.val (.long q0), .second, .val (.long q1), .second, .val (.long q2), .second, .val (.long q3), .second, .val (.long q4), .second, .val (.int p5), .val (.ref b1), .val (.int (2 : Int32)), .val (.ref b24), .val (.int sel), .val (.long vv), .second, .val (.int (1 : Int32))] [(.int (3 : Int32)), (.int (2 : Int32))])) t
            refine XS.icmpYes Xj27.here hx rfl (pc0 := 239) (pc' := 255) rfl (hb hby at_239) rfl (by decide) (by decide) (by decide) ?_
            show Steps p.tables e below (Tj27.setTop (mkF m 255 #[.val (.long q0), .second, .val (.long q1), .second, .val (.long q2), .second, .val (.long q3), .second, .val (.long q4), .second, .val (.int p5), .val (.ref b1), .val (.int (2 : Int32)), .val (.ref b24), .val (.int sel), .val (.long vv), .second, .val (.int (1 : Int32))] [])) t
            refine XS.aload Xj27.here hx rfl (hb hby at_255) rfl rfl ?_
            show Steps p.tables e below (Tj27.setTop (mkF m 257 #[.val (.long q0), .second, .val (.long q1), .second, .val (.long q2), .second, .val (.long q3), .second, .val (.long q4), .second, .val (.int p5), .val (.ref b1), .val (.int (2 : Int32)), .val (.ref b24), .val (.int sel), .val (.long vv), .second, .val (.int (1 : Int32))] [(.ref b24)])) t
            refine XS.lload Xj27.here hx rfl (hb hby at_257) rfl ?_
            show Steps p.tables e below (Tj27.setTop (mkF m 259 #[.val (.long q0), .second, .val (.long q1), .second, .val (.long q2), .second, .val (.long q3), .second, .val (.long q4), .second, .val (.int p5), .val (.ref b1), .val (.int (2 : Int32)), .val (.ref b24), .val (.int sel), .val (.long vv), .second, .val (.int (1 : Int32))] [(.long vv), (.ref b24)])) t
            exact kt
          refine own_callSp Xj27 hx hZ hown ej27 (hw _ (List.mem_of_getElem? (i := 5) rfl)) (hw _ (List.mem_of_getElem? (i := 6) rfl)) (hw _ (List.mem_of_getElem? (i := 7) rfl)) (hw _ (List.mem_of_getElem? (i := 8) rfl)) (by decide) (rm2 l Z aw hw b24 vv 2 f1 (2 : Int32) h26 n0 Z26 B26 (by decide) (by decide) (own_p2 hf0 hf1 (own_net ht1 ht2 ht3 ht4 ht5))) (g := (mkF m 259 #[.val (.long q0), .second, .val (.long q1), .second, .val (.long q2), .second, .val (.long q3), .second, .val (.long q4), .second, .val (.int p5), .val (.ref b1), .val (.int (2 : Int32)), .val (.ref b24), .val (.int sel), .val (.long vv), .second, .val (.int (1 : Int32))] [(.long vv), (.ref b24)])) rfl (by rw [hml]; rfl) (argsL := [(.ref b24), (.long vv)]) (rest := []) (lenOf pd_1 rfl) rfl rfl (W := 0) (by show 2 * 0 + _ ≤ _; exact Nat.le_of_eq rfl) (hb hby at_259) (by decide) (by decide) (by decide) (by decide) ?_
          intro T33 X33 e33
          refine own_go (T' := T33) (f' := (mkF m 272 #[.val (.long q0), .second, .val (.long q1), .second, .val (.long q2), .second, .val (.long q3), .second, .val (.long q4), .second, .val (.int p5), .val (.ref b1), .val (.int (2 : Int32)), .val (.ref b24), .val (.int sel), .val (.long vv), .second, .val (.int (1 : Int32))] [(.int (1 : Int32))])) (fun t kt => ?_) ?_
          · show Steps p.tables e below (T33.setTop (mkF m 262 #[.val (.long q0), .second, .val (.long q1), .second, .val (.long q2), .second, .val (.long q3), .second, .val (.long q4), .second, .val (.int p5), .val (.ref b1), .val (.int (2 : Int32)), .val (.ref b24), .val (.int sel), .val (.long vv), .second, .val (.int (1 : Int32))] [(.int (Int32.ofNat (own_cnt 2 f1 vv)))])) t
            refine XS.iload X33.here hx rfl (hb hby at_262) rfl ?_
            show Steps p.tables e below (T33.setTop (mkF m 264 #[.val (.long q0), .second, .val (.long q1), .second, .val (.long q2), .second, .val (.long q3), .second, .val (.long q4), .second, .val (.int p5), .val (.ref b1), .val (.int (2 : Int32)), .val (.ref b24), .val (.int sel), .val (.long vv), .second, .val (.int (1 : Int32))] [(.int (1 : Int32)), (.int (Int32.ofNat (own_cnt 2 f1 vv)))])) t
            refine XS.icmpNo X33.here hx rfl (hb hby at_264) rfl (teq (show (Int32.ofNat (own_cnt 2 f1 vv)) = (1 : Int32) from by simp only [own_cnt, if_neg hc192_28, if_pos hc211_32]; rfl)).2 ?_
            show Steps p.tables e below (T33.setTop (mkF m 267 #[.val (.long q0), .second, .val (.long q1), .second, .val (.long q2), .second, .val (.long q3), .second, .val (.long q4), .second, .val (.int p5), .val (.ref b1), .val (.int (2 : Int32)), .val (.ref b24), .val (.int sel), .val (.long vv), .second, .val (.int (1 : Int32))] [])) t
            refine XS.iconst X33.here hx rfl (hb hby at_267) ?_
            show Steps p.tables e below (T33.setTop (mkF m 268 #[.val (.long q0), .second, .val (.long q1), .second, .val (.long q2), .second, .val (.long q3), .second, .val (.long q4), .second, .val (.int p5), .val (.ref b1), .val (.int (2 : Int32)), .val (.ref b24), .val (.int sel), .val (.long vv), .second, .val (.int (1 : Int32))] [(.int (1 : Int32))])) t
            refine XS.goto X33.here hx rfl (pc0 := 268) (pc' := 272) rfl (hb hby at_268) (by decide) (by decide) ?_
            show Steps p.tables e below (T33.setTop (mkF m 272 #[.val (.long q0), .second, .val (.long q1), .second, .val (.long q2), .second, .val (.long q3), .second, .val (.long q4), .second, .val (.int p5), .val (.ref b1), .val (.int (2 : Int32)), .val (.ref b24), .val (.int sel), .val (.long vv), .second, .val (.int (1 : Int32))] [(.int (1 : Int32))])) t
            exact kt
          exact own_retN X33 hP hx hlk e33 (t := .boolean) hret (by simp) (hb hby at_272) (by decide) (by decide) (z' := (1 : Int32)) rfl ⟨rfl, Nj27⟩
        · refine own_go (T' := Tj27) (f' := (mkF m 259 #[.val (.long q0), .second, .val (.long q1), .second, .val (.long q2), .second, .val (.long q3), .second, .val (.long q4), .second, .val (.int p5), .val (.ref b1), .val (.int (2 : Int32)), .val (.ref b24), .val (.int sel), .val (.long vv), .second, .val (.int (0 : Int32))] [(.long vv), (.ref b24)])) (fun t kt => ?_) ?_
          · show Steps p.tables e below (Tj27.setTop (mkF m 211 #[.val (.long q0), .second, .val (.long q1), .second, .val (.long q2), .second, .val (.long q3), .second, .val (.long q4), .second, .val (.int p5), .val (.ref b1), .val (.int (2 : Int32)), .val (.ref b24), .val (.int sel), .val (.long vv), .second, .val (.int (0 : Int32))] [(.int (lcmpW (f1 1) vv))])) t
            refine XS.ifYes Xj27.here hx rfl (pc0 := 211) (pc' := 217) rfl (hb hby at_211) rfl (own_lY_ge hc211_32) (by decide) (by decide) ?_
            show Steps p.tables e below (Tj27.setTop (mkF m 217 #[.val (.long q0), .second, .val (.long q1), .second, .val (.long q2), .second, .val (.long q3), .second, .val (.long q4), .second, .val (.int p5), .val (.ref b1), .val (.int (2 : Int32)), .val (.ref b24), .val (.int sel), .val (.long vv), .second, .val (.int (0 : Int32))] [])) t
            refine XS.iload Xj27.here hx rfl (hb hby at_217) rfl ?_
            show Steps p.tables e below (Tj27.setTop (mkF m 219 #[.val (.long q0), .second, .val (.long q1), .second, .val (.long q2), .second, .val (.long q3), .second, .val (.long q4), .second, .val (.int p5), .val (.ref b1), .val (.int (2 : Int32)), .val (.ref b24), .val (.int sel), .val (.long vv), .second, .val (.int (0 : Int32))] [(.int (2 : Int32))])) t
            refine XS.iconst Xj27.here hx rfl (hb hby at_219) ?_
            show Steps p.tables e below (Tj27.setTop (mkF m 220 #[.val (.long q0), .second, .val (.long q1), .second, .val (.long q2), .second, .val (.long q3), .second, .val (.long q4), .second, .val (.int p5), .val (.ref b1), .val (.int (2 : Int32)), .val (.ref b24), .val (.int sel), .val (.long vv), .second, .val (.int (0 : Int32))] [(.int (2 : Int32)), (.int (2 : Int32))])) t
            refine XS.icmpYes Xj27.here hx rfl (pc0 := 220) (pc' := 236) rfl (hb hby at_220) rfl (by decide) (by decide) (by decide) ?_
            show Steps p.tables e below (Tj27.setTop (mkF m 236 #[.val (.long q0), .second, .val (.long q1), .second, .val (.long q2), .second, .val (.long q3), .second, .val (.long q4), .second, .val (.int p5), .val (.ref b1), .val (.int (2 : Int32)), .val (.ref b24), .val (.int sel), .val (.long vv), .second, .val (.int (0 : Int32))] [])) t
            refine XS.iload Xj27.here hx rfl (hb hby at_236) rfl ?_
            show Steps p.tables e below (Tj27.setTop (mkF m 238 #[.val (.long q0), .second, .val (.long q1), .second, .val (.long q2), .second, .val (.long q3), .second, .val (.long q4), .second, .val (.int p5), .val (.ref b1), .val (.int (2 : Int32)), .val (.ref b24), .val (.int sel), .val (.long vv), .second, .val (.int (0 : Int32))] [(.int (2 : Int32))])) t
            refine XS.iconst Xj27.here hx rfl (hb hby at_238) ?_
            show Steps p.tables e below (Tj27.setTop (mkF m 239 #[.val (.long q0), .second, .val (.long q1), .second, .val (.long q2), .second, .val (.long q3), .second, .val (.long q4), .second, .val (.int p5), .val (.ref b1), .val (.int (2 : Int32)), .val (.ref b24), .val (.int sel), .val (.long vv), .second, .val (.int (0 : Int32))] [(.int (3 : Int32)), (.int (2 : Int32))])) t
            refine XS.icmpYes Xj27.here hx rfl (pc0 := 239) (pc' := 255) rfl (hb hby at_239) rfl (by decide) (by decide) (by decide) ?_
            show Steps p.tables e below (Tj27.setTop (mkF m 255 #[.val (.long q0), .second, .val (.long q1), .second, .val (.long q2), .second, .val (.long q3), .second, .val (.long q4), .second, .val (.int p5), .val (.ref b1), .val (.int (2 : Int32)), .val (.ref b24), .val (.int sel), .val (.long vv), .second, .val (.int (0 : Int32))] [])) t
            refine XS.aload Xj27.here hx rfl (hb hby at_255) rfl rfl ?_
            show Steps p.tables e below (Tj27.setTop (mkF m 257 #[.val (.long q0), .second, .val (.long q1), .second, .val (.long q2), .second, .val (.long q3), .second, .val (.long q4), .second, .val (.int p5), .val (.ref b1), .val (.int (2 : Int32)), .val (.ref b24), .val (.int sel), .val (.long vv), .second, .val (.int (0 : Int32))] [(.ref b24)])) t
            refine XS.lload Xj27.here hx rfl (hb hby at_257) rfl ?_
            show Steps p.tables e below (Tj27.setTop (mkF m 259 #[.val (.long q0), .second, .val (.long q1), .second, .val (.long q2), .second, .val (.long q3), .second, .val (.long q4), .second, .val (.int p5), .val (.ref b1), .val (.int (2 : Int32)), .val (.ref b24), .val (.int sel), .val (.long vv), .second, .val (.int (0 : Int32))] [(.long vv), (.ref b24)])) t
            exact kt
          refine own_callSp Xj27 hx hZ hown ej27 (hw _ (List.mem_of_getElem? (i := 5) rfl)) (hw _ (List.mem_of_getElem? (i := 6) rfl)) (hw _ (List.mem_of_getElem? (i := 7) rfl)) (hw _ (List.mem_of_getElem? (i := 8) rfl)) (by decide) (rm2 l Z aw hw b24 vv 2 f1 (2 : Int32) h26 n0 Z26 B26 (by decide) (by decide) (own_p2 hf0 hf1 (own_net ht1 ht2 ht3 ht4 ht5))) (g := (mkF m 259 #[.val (.long q0), .second, .val (.long q1), .second, .val (.long q2), .second, .val (.long q3), .second, .val (.long q4), .second, .val (.int p5), .val (.ref b1), .val (.int (2 : Int32)), .val (.ref b24), .val (.int sel), .val (.long vv), .second, .val (.int (0 : Int32))] [(.long vv), (.ref b24)])) rfl (by rw [hml]; rfl) (argsL := [(.ref b24), (.long vv)]) (rest := []) (lenOf pd_1 rfl) rfl rfl (W := 0) (by show 2 * 0 + _ ≤ _; exact Nat.le_of_eq rfl) (hb hby at_259) (by decide) (by decide) (by decide) (by decide) ?_
          intro T34 X34 e34
          refine own_go (T' := T34) (f' := (mkF m 272 #[.val (.long q0), .second, .val (.long q1), .second, .val (.long q2), .second, .val (.long q3), .second, .val (.long q4), .second, .val (.int p5), .val (.ref b1), .val (.int (2 : Int32)), .val (.ref b24), .val (.int sel), .val (.long vv), .second, .val (.int (0 : Int32))] [(.int (1 : Int32))])) (fun t kt => ?_) ?_
          · show Steps p.tables e below (T34.setTop (mkF m 262 #[.val (.long q0), .second, .val (.long q1), .second, .val (.long q2), .second, .val (.long q3), .second, .val (.long q4), .second, .val (.int p5), .val (.ref b1), .val (.int (2 : Int32)), .val (.ref b24), .val (.int sel), .val (.long vv), .second, .val (.int (0 : Int32))] [(.int (Int32.ofNat (own_cnt 2 f1 vv)))])) t
            refine XS.iload X34.here hx rfl (hb hby at_262) rfl ?_
            show Steps p.tables e below (T34.setTop (mkF m 264 #[.val (.long q0), .second, .val (.long q1), .second, .val (.long q2), .second, .val (.long q3), .second, .val (.long q4), .second, .val (.int p5), .val (.ref b1), .val (.int (2 : Int32)), .val (.ref b24), .val (.int sel), .val (.long vv), .second, .val (.int (0 : Int32))] [(.int (0 : Int32)), (.int (Int32.ofNat (own_cnt 2 f1 vv)))])) t
            refine XS.icmpNo X34.here hx rfl (hb hby at_264) rfl (teq (show (Int32.ofNat (own_cnt 2 f1 vv)) = (0 : Int32) from by simp only [own_cnt, if_neg hc192_28, if_neg hc211_32]; rfl)).2 ?_
            show Steps p.tables e below (T34.setTop (mkF m 267 #[.val (.long q0), .second, .val (.long q1), .second, .val (.long q2), .second, .val (.long q3), .second, .val (.long q4), .second, .val (.int p5), .val (.ref b1), .val (.int (2 : Int32)), .val (.ref b24), .val (.int sel), .val (.long vv), .second, .val (.int (0 : Int32))] [])) t
            refine XS.iconst X34.here hx rfl (hb hby at_267) ?_
            show Steps p.tables e below (T34.setTop (mkF m 268 #[.val (.long q0), .second, .val (.long q1), .second, .val (.long q2), .second, .val (.long q3), .second, .val (.long q4), .second, .val (.int p5), .val (.ref b1), .val (.int (2 : Int32)), .val (.ref b24), .val (.int sel), .val (.long vv), .second, .val (.int (0 : Int32))] [(.int (1 : Int32))])) t
            refine XS.goto X34.here hx rfl (pc0 := 268) (pc' := 272) rfl (hb hby at_268) (by decide) (by decide) ?_
            show Steps p.tables e below (T34.setTop (mkF m 272 #[.val (.long q0), .second, .val (.long q1), .second, .val (.long q2), .second, .val (.long q3), .second, .val (.long q4), .second, .val (.int p5), .val (.ref b1), .val (.int (2 : Int32)), .val (.ref b24), .val (.int sel), .val (.long vv), .second, .val (.int (0 : Int32))] [(.int (1 : Int32))])) t
            exact kt
          exact own_retN X34 hP hx hlk e34 (t := .boolean) hret (by simp) (hb hby at_272) (by decide) (by decide) (z' := (1 : Int32)) rfl ⟨rfl, Nj27⟩
    refine own_go (T' := T26) (f' := (mkF m 144 #[.val (.long q0), .second, .val (.long q1), .second, .val (.long q2), .second, .val (.long q3), .second, .val (.long q4), .second, .val (.int p5), .val (.ref b1), .val (.int (2 : Int32)), .val (.ref b24), .val (.int sel), .val (.long q4), .second, .unset] [(.int (4 : Int32)), (.int sel)])) (fun t kt => ?_) ?_
    · show Steps p.tables e below (T26.setTop (mkF m 141 #[.val (.long q0), .second, .val (.long q1), .second, .val (.long q2), .second, .val (.long q3), .second, .val (.long q4), .second, .val (.int p5), .val (.ref b1), .val (.int (2 : Int32)), .val (.ref b24), .val (.int sel), .val (.long q4), .second, .unset] [])) t
      refine XS.iload X26.here hx rfl (hb hby at_141) rfl ?_
      show Steps p.tables e below (T26.setTop (mkF m 143 #[.val (.long q0), .second, .val (.long q1), .second, .val (.long q2), .second, .val (.long q3), .second, .val (.long q4), .second, .val (.int p5), .val (.ref b1), .val (.int (2 : Int32)), .val (.ref b24), .val (.int sel), .val (.long q4), .second, .unset] [(.int sel)])) t
      refine XS.iconst X26.here hx rfl (hb hby at_143) ?_
      show Steps p.tables e below (T26.setTop (mkF m 144 #[.val (.long q0), .second, .val (.long q1), .second, .val (.long q2), .second, .val (.long q3), .second, .val (.long q4), .second, .val (.int p5), .val (.ref b1), .val (.int (2 : Int32)), .val (.ref b24), .val (.int sel), .val (.long q4), .second, .unset] [(.int (4 : Int32)), (.int sel)])) t
      exact kt
    by_cases hc144_35 : sel < (4 : Int32)
    · refine own_go (T' := T26) (f' := (mkF m 177 #[.val (.long q0), .second, .val (.long q1), .second, .val (.long q2), .second, .val (.long q3), .second, .val (.long q4), .second, .val (.int p5), .val (.ref b1), .val (.int (2 : Int32)), .val (.ref b24), .val (.int sel), .val (.long (t5 sel.toInt.toNat)), .second, .unset] [])) (fun t kt => ?_) ?_
      · show Steps p.tables e below (T26.setTop (mkF m 144 #[.val (.long q0), .second, .val (.long q1), .second, .val (.long q2), .second, .val (.long q3), .second, .val (.long q4), .second, .val (.int p5), .val (.ref b1), .val (.int (2 : Int32)), .val (.ref b24), .val (.int sel), .val (.long q4), .second, .unset] [(.int (4 : Int32)), (.int sel)])) t
        refine XS.icmpNo X26.here hx rfl (hb hby at_144) rfl (tlt hc144_35).2.1 ?_
        show Steps p.tables e below (T26.setTop (mkF m 147 #[.val (.long q0), .second, .val (.long q1), .second, .val (.long q2), .second, .val (.long q3), .second, .val (.long q4), .second, .val (.int p5), .val (.ref b1), .val (.int (2 : Int32)), .val (.ref b24), .val (.int sel), .val (.long q4), .second, .unset] [])) t
        refine XS.aload X26.here hx rfl (hb hby at_147) rfl rfl ?_
        show Steps p.tables e below (T26.setTop (mkF m 149 #[.val (.long q0), .second, .val (.long q1), .second, .val (.long q2), .second, .val (.long q3), .second, .val (.long q4), .second, .val (.int p5), .val (.ref b1), .val (.int (2 : Int32)), .val (.ref b24), .val (.int sel), .val (.long q4), .second, .unset] [(.ref b1)])) t
        refine XS.iload X26.here hx rfl (hb hby at_149) rfl ?_
        show Steps p.tables e below (T26.setTop (mkF m 151 #[.val (.long q0), .second, .val (.long q1), .second, .val (.long q2), .second, .val (.long q3), .second, .val (.long q4), .second, .val (.int p5), .val (.ref b1), .val (.int (2 : Int32)), .val (.ref b24), .val (.int sel), .val (.long q4), .second, .unset] [(.int sel), (.ref b1)])) t
        refine own_laload X26 hx hZ e26 Pq10_0 (i := sel.toInt.toNat) (own_sel hsel hc144_35).1 (own_sel hsel hc144_35).2 (g := (mkF m 151 #[.val (.long q0), .second, .val (.long q1), .second, .val (.long q2), .second, .val (.long q3), .second, .val (.long q4), .second, .val (.int p5), .val (.ref b1), .val (.int (2 : Int32)), .val (.ref b24), .val (.int sel), .val (.long q4), .second, .unset] [(.int sel), (.ref b1)])) rfl rfl (hb hby at_151) _ ?_
        show Steps p.tables e below (T26.setTop (mkF m 152 #[.val (.long q0), .second, .val (.long q1), .second, .val (.long q2), .second, .val (.long q3), .second, .val (.long q4), .second, .val (.int p5), .val (.ref b1), .val (.int (2 : Int32)), .val (.ref b24), .val (.int sel), .val (.long q4), .second, .unset] [(.long (t5 sel.toInt.toNat))])) t
        refine XS.lstore X26.here hx rfl (hb hby at_152) rfl (l' := #[.val (.long q0), .second, .val (.long q1), .second, .val (.long q2), .second, .val (.long q3), .second, .val (.long q4), .second, .val (.int p5), .val (.ref b1), .val (.int (2 : Int32)), .val (.ref b24), .val (.int sel), .val (.long (t5 sel.toInt.toNat)), .second, .unset]) rfl ?_
        show Steps p.tables e below (T26.setTop (mkF m 154 #[.val (.long q0), .second, .val (.long q1), .second, .val (.long q2), .second, .val (.long q3), .second, .val (.long q4), .second, .val (.int p5), .val (.ref b1), .val (.int (2 : Int32)), .val (.ref b24), .val (.int sel), .val (.long (t5 sel.toInt.toNat)), .second, .unset] [])) t
        refine XS.goto X26.here hx rfl (pc0 := 154) (pc' := 177) rfl (hb hby at_154) (by decide) (by decide) ?_
        show Steps p.tables e below (T26.setTop (mkF m 177 #[.val (.long q0), .second, .val (.long q1), .second, .val (.long q2), .second, .val (.long q3), .second, .val (.long q4), .second, .val (.int p5), .val (.ref b1), .val (.int (2 : Int32)), .val (.ref b24), .val (.int sel), .val (.long (t5 sel.toInt.toNat)), .second, .unset] [])) t
        exact kt
      exact J177 T26 _ (t5 sel.toInt.toNat) X26 N26 e26
    · refine own_go (T' := T26) (f' := (mkF m 160 #[.val (.long q0), .second, .val (.long q1), .second, .val (.long q2), .second, .val (.long q3), .second, .val (.long q4), .second, .val (.int p5), .val (.ref b1), .val (.int (2 : Int32)), .val (.ref b24), .val (.int sel), .val (.long q4), .second, .unset] [(.int (4 : Int32)), (.int sel)])) (fun t kt => ?_) ?_
      · show Steps p.tables e below (T26.setTop (mkF m 144 #[.val (.long q0), .second, .val (.long q1), .second, .val (.long q2), .second, .val (.long q3), .second, .val (.long q4), .second, .val (.int p5), .val (.ref b1), .val (.int (2 : Int32)), .val (.ref b24), .val (.int sel), .val (.long q4), .second, .unset] [(.int (4 : Int32)), (.int sel)])) t
        refine XS.icmpYes X26.here hx rfl (pc0 := 144) (pc' := 157) rfl (hb hby at_144) rfl (flt hc144_35).2.1 (by decide) (by decide) ?_
        show Steps p.tables e below (T26.setTop (mkF m 157 #[.val (.long q0), .second, .val (.long q1), .second, .val (.long q2), .second, .val (.long q3), .second, .val (.long q4), .second, .val (.int p5), .val (.ref b1), .val (.int (2 : Int32)), .val (.ref b24), .val (.int sel), .val (.long q4), .second, .unset] [])) t
        refine XS.iload X26.here hx rfl (hb hby at_157) rfl ?_
        show Steps p.tables e below (T26.setTop (mkF m 159 #[.val (.long q0), .second, .val (.long q1), .second, .val (.long q2), .second, .val (.long q3), .second, .val (.long q4), .second, .val (.int p5), .val (.ref b1), .val (.int (2 : Int32)), .val (.ref b24), .val (.int sel), .val (.long q4), .second, .unset] [(.int sel)])) t
        refine XS.iconst X26.here hx rfl (hb hby at_159) ?_
        show Steps p.tables e below (T26.setTop (mkF m 160 #[.val (.long q0), .second, .val (.long q1), .second, .val (.long q2), .second, .val (.long q3), .second, .val (.long q4), .second, .val (.int p5), .val (.ref b1), .val (.int (2 : Int32)), .val (.ref b24), .val (.int sel), .val (.long q4), .second, .unset] [(.int (4 : Int32)), (.int sel)])) t
        exact kt
      by_cases hc160_36 : sel = (4 : Int32)
      · refine own_go (T' := T26) (f' := (mkF m 177 #[.val (.long q0), .second, .val (.long q1), .second, .val (.long q2), .second, .val (.long q3), .second, .val (.long q4), .second, .val (.int p5), .val (.ref b1), .val (.int (2 : Int32)), .val (.ref b24), .val (.int sel), .val (.long ((t5 (((p5.toUInt32 >>> ((6 : Int32) &&& 31).toUInt32).toInt32) &&& (3 : Int32)).toInt.toNat) + (1 : Int64))), .second, .unset] [])) (fun t kt => ?_) ?_
        · show Steps p.tables e below (T26.setTop (mkF m 160 #[.val (.long q0), .second, .val (.long q1), .second, .val (.long q2), .second, .val (.long q3), .second, .val (.long q4), .second, .val (.int p5), .val (.ref b1), .val (.int (2 : Int32)), .val (.ref b24), .val (.int sel), .val (.long q4), .second, .unset] [(.int (4 : Int32)), (.int sel)])) t
          refine XS.icmpNo X26.here hx rfl (hb hby at_160) rfl (teq hc160_36).2 ?_
          show Steps p.tables e below (T26.setTop (mkF m 163 #[.val (.long q0), .second, .val (.long q1), .second, .val (.long q2), .second, .val (.long q3), .second, .val (.long q4), .second, .val (.int p5), .val (.ref b1), .val (.int (2 : Int32)), .val (.ref b24), .val (.int sel), .val (.long q4), .second, .unset] [])) t
          refine XS.aload X26.here hx rfl (hb hby at_163) rfl rfl ?_
          show Steps p.tables e below (T26.setTop (mkF m 165 #[.val (.long q0), .second, .val (.long q1), .second, .val (.long q2), .second, .val (.long q3), .second, .val (.long q4), .second, .val (.int p5), .val (.ref b1), .val (.int (2 : Int32)), .val (.ref b24), .val (.int sel), .val (.long q4), .second, .unset] [(.ref b1)])) t
          refine XS.iload X26.here hx rfl (hb hby at_165) rfl ?_
          show Steps p.tables e below (T26.setTop (mkF m 167 #[.val (.long q0), .second, .val (.long q1), .second, .val (.long q2), .second, .val (.long q3), .second, .val (.long q4), .second, .val (.int p5), .val (.ref b1), .val (.int (2 : Int32)), .val (.ref b24), .val (.int sel), .val (.long q4), .second, .unset] [(.int p5), (.ref b1)])) t
          refine XS.bipush X26.here hx rfl (hb hby at_167) ?_
          show Steps p.tables e below (T26.setTop (mkF m 169 #[.val (.long q0), .second, .val (.long q1), .second, .val (.long q2), .second, .val (.long q3), .second, .val (.long q4), .second, .val (.int p5), .val (.ref b1), .val (.int (2 : Int32)), .val (.ref b24), .val (.int sel), .val (.long q4), .second, .unset] [(.int (6 : Int32)), (.int p5), (.ref b1)])) t
          refine XS.iushr X26.here hx rfl (hb hby at_169) rfl ?_
          show Steps p.tables e below (T26.setTop (mkF m 170 #[.val (.long q0), .second, .val (.long q1), .second, .val (.long q2), .second, .val (.long q3), .second, .val (.long q4), .second, .val (.int p5), .val (.ref b1), .val (.int (2 : Int32)), .val (.ref b24), .val (.int sel), .val (.long q4), .second, .unset] [(.int ((p5.toUInt32 >>> ((6 : Int32) &&& 31).toUInt32).toInt32)), (.ref b1)])) t
          refine XS.iconst X26.here hx rfl (hb hby at_170) ?_
          show Steps p.tables e below (T26.setTop (mkF m 171 #[.val (.long q0), .second, .val (.long q1), .second, .val (.long q2), .second, .val (.long q3), .second, .val (.long q4), .second, .val (.int p5), .val (.ref b1), .val (.int (2 : Int32)), .val (.ref b24), .val (.int sel), .val (.long q4), .second, .unset] [(.int (3 : Int32)), (.int ((p5.toUInt32 >>> ((6 : Int32) &&& 31).toUInt32).toInt32)), (.ref b1)])) t
          refine XS.iand X26.here hx rfl (hb hby at_171) rfl ?_
          show Steps p.tables e below (T26.setTop (mkF m 172 #[.val (.long q0), .second, .val (.long q1), .second, .val (.long q2), .second, .val (.long q3), .second, .val (.long q4), .second, .val (.int p5), .val (.ref b1), .val (.int (2 : Int32)), .val (.ref b24), .val (.int sel), .val (.long q4), .second, .unset] [(.int (((p5.toUInt32 >>> ((6 : Int32) &&& 31).toUInt32).toInt32) &&& (3 : Int32))), (.ref b1)])) t
          refine own_laload X26 hx hZ e26 Pq10_0 (i := (((p5.toUInt32 >>> ((6 : Int32) &&& 31).toUInt32).toInt32) &&& (3 : Int32)).toInt.toNat) (own_ix3 ((p5.toUInt32 >>> ((6 : Int32) &&& 31).toUInt32).toInt32)).1 (own_ix3 ((p5.toUInt32 >>> ((6 : Int32) &&& 31).toUInt32).toInt32)).2 (g := (mkF m 172 #[.val (.long q0), .second, .val (.long q1), .second, .val (.long q2), .second, .val (.long q3), .second, .val (.long q4), .second, .val (.int p5), .val (.ref b1), .val (.int (2 : Int32)), .val (.ref b24), .val (.int sel), .val (.long q4), .second, .unset] [(.int (((p5.toUInt32 >>> ((6 : Int32) &&& 31).toUInt32).toInt32) &&& (3 : Int32))), (.ref b1)])) rfl rfl (hb hby at_172) _ ?_
          show Steps p.tables e below (T26.setTop (mkF m 173 #[.val (.long q0), .second, .val (.long q1), .second, .val (.long q2), .second, .val (.long q3), .second, .val (.long q4), .second, .val (.int p5), .val (.ref b1), .val (.int (2 : Int32)), .val (.ref b24), .val (.int sel), .val (.long q4), .second, .unset] [(.long (t5 (((p5.toUInt32 >>> ((6 : Int32) &&& 31).toUInt32).toInt32) &&& (3 : Int32)).toInt.toNat))])) t
          refine XS.lconst X26.here hx rfl (hb hby at_173) ?_
          show Steps p.tables e below (T26.setTop (mkF m 174 #[.val (.long q0), .second, .val (.long q1), .second, .val (.long q2), .second, .val (.long q3), .second, .val (.long q4), .second, .val (.int p5), .val (.ref b1), .val (.int (2 : Int32)), .val (.ref b24), .val (.int sel), .val (.long q4), .second, .unset] [(.long (1 : Int64)), (.long (t5 (((p5.toUInt32 >>> ((6 : Int32) &&& 31).toUInt32).toInt32) &&& (3 : Int32)).toInt.toNat))])) t
          refine XS.ladd X26.here hx rfl (hb hby at_174) rfl ?_
          show Steps p.tables e below (T26.setTop (mkF m 175 #[.val (.long q0), .second, .val (.long q1), .second, .val (.long q2), .second, .val (.long q3), .second, .val (.long q4), .second, .val (.int p5), .val (.ref b1), .val (.int (2 : Int32)), .val (.ref b24), .val (.int sel), .val (.long q4), .second, .unset] [(.long ((t5 (((p5.toUInt32 >>> ((6 : Int32) &&& 31).toUInt32).toInt32) &&& (3 : Int32)).toInt.toNat) + (1 : Int64)))])) t
          refine XS.lstore X26.here hx rfl (hb hby at_175) rfl (l' := #[.val (.long q0), .second, .val (.long q1), .second, .val (.long q2), .second, .val (.long q3), .second, .val (.long q4), .second, .val (.int p5), .val (.ref b1), .val (.int (2 : Int32)), .val (.ref b24), .val (.int sel), .val (.long ((t5 (((p5.toUInt32 >>> ((6 : Int32) &&& 31).toUInt32).toInt32) &&& (3 : Int32)).toInt.toNat) + (1 : Int64))), .second, .unset]) rfl ?_
          show Steps p.tables e below (T26.setTop (mkF m 177 #[.val (.long q0), .second, .val (.long q1), .second, .val (.long q2), .second, .val (.long q3), .second, .val (.long q4), .second, .val (.int p5), .val (.ref b1), .val (.int (2 : Int32)), .val (.ref b24), .val (.int sel), .val (.long ((t5 (((p5.toUInt32 >>> ((6 : Int32) &&& 31).toUInt32).toInt32) &&& (3 : Int32)).toInt.toNat) + (1 : Int64))), .second, .unset] [])) t
          exact kt
        exact J177 T26 _ ((t5 (((p5.toUInt32 >>> ((6 : Int32) &&& 31).toUInt32).toInt32) &&& (3 : Int32)).toInt.toNat) + (1 : Int64)) X26 N26 e26
      · refine own_go (T' := T26) (f' := (mkF m 177 #[.val (.long q0), .second, .val (.long q1), .second, .val (.long q2), .second, .val (.long q3), .second, .val (.long q4), .second, .val (.int p5), .val (.ref b1), .val (.int (2 : Int32)), .val (.ref b24), .val (.int sel), .val (.long q4), .second, .unset] [])) (fun t kt => ?_) ?_
        · show Steps p.tables e below (T26.setTop (mkF m 160 #[.val (.long q0), .second, .val (.long q1), .second, .val (.long q2), .second, .val (.long q3), .second, .val (.long q4), .second, .val (.int p5), .val (.ref b1), .val (.int (2 : Int32)), .val (.ref b24), .val (.int sel), .val (.long q4), .second, .unset] [(.int (4 : Int32)), (.int sel)])) t
          refine XS.icmpYes X26.here hx rfl (pc0 := 160) (pc' := 177) rfl (hb hby at_160) rfl (feq hc160_36).2 (by decide) (by decide) ?_
          show Steps p.tables e below (T26.setTop (mkF m 177 #[.val (.long q0), .second, .val (.long q1), .second, .val (.long q2), .second, .val (.long q3), .second, .val (.long q4), .second, .val (.int p5), .val (.ref b1), .val (.int (2 : Int32)), .val (.ref b24), .val (.int sel), .val (.long q4), .second, .unset] [])) t
          exact kt
        exact J177 T26 _ q4 X26 N26 e26
  · rw [hn5]
    refine own_go (T' := T10) (f' := (mkF m 69 #[.val (.long q0), .second, .val (.long q1), .second, .val (.long q2), .second, .val (.long q3), .second, .val (.long q4), .second, .val (.int p5), .val (.ref b1), .val (.int (3 : Int32)), .unset, .unset, .unset, .unset, .unset] [(.int (3 : Int32))])) (fun t kt => ?_) ?_
    · show Steps p.tables e below (T10.setTop (mkF m 65 #[.val (.long q0), .second, .val (.long q1), .second, .val (.long q2), .second, .val (.long q3), .second, .val (.long q4), .second, .val (.int p5), .val (.ref b1), .unset, .unset, .unset, .unset, .unset, .unset] [(.int (3 : Int32))])) t
      refine XS.istore X10.here hx rfl (hb hby at_65) rfl (l' := #[.val (.long q0), .second, .val (.long q1), .second, .val (.long q2), .second, .val (.long q3), .second, .val (.long q4), .second, .val (.int p5), .val (.ref b1), .val (.int (3 : Int32)), .unset, .unset, .unset, .unset, .unset]) rfl ?_
      show Steps p.tables e below (T10.setTop (mkF m 67 #[.val (.long q0), .second, .val (.long q1), .second, .val (.long q2), .second, .val (.long q3), .second, .val (.long q4), .second, .val (.int p5), .val (.ref b1), .val (.int (3 : Int32)), .unset, .unset, .unset, .unset, .unset] [])) t
      refine XS.iload X10.here hx rfl (hb hby at_67) rfl ?_
      show Steps p.tables e below (T10.setTop (mkF m 69 #[.val (.long q0), .second, .val (.long q1), .second, .val (.long q2), .second, .val (.long q3), .second, .val (.long q4), .second, .val (.int p5), .val (.ref b1), .val (.int (3 : Int32)), .unset, .unset, .unset, .unset, .unset] [(.int (3 : Int32))])) t
      exact kt
    obtain ⟨T37, h37, k37, X37, e37, E37, A37, st37⟩ := newP X10 hx hZ (hw _ (List.mem_of_getElem? (i := 0) rfl)) rfl (g := (mkF m 69 #[.val (.long q0), .second, .val (.long q1), .second, .val (.long q2), .second, .val (.long q3), .second, .val (.long q4), .second, .val (.int p5), .val (.ref b1), .val (.int (3 : Int32)), .unset, .unset, .unset, .unset, .unset] [(.int (3 : Int32))])) rfl (hb hby at_69) rfl (by decide) (cap := 3) (by decide) (by decide) (by decide) (by decide)
    obtain ⟨b37, y37⟩ : ∃ z, z = T10.heap.size := ⟨_, rfl⟩
    rw [← y37] at A37 st37
    have ne_b1_b37 : b1 ≠ b37 := Nat.ne_of_lt (Nat.lt_of_lt_of_le Pq10_0.lt (Nat.le_of_eq y37.symm))
    have ne_b37_b1 := ne_b1_b37.symm
    have g_b37 : n0 ≤ b37 := Nat.le_trans ZKq10 (Nat.le_of_eq y37.symm)
    have sz_b37 : h0.size ≤ b37 := Nat.le_trans KKKq10.1 (Nat.le_of_eq y37.symm)
    replace Pq10_0 := (Pq10_0.ext E37)
    have ZE37 : n0 ≤ h37.size := Nat.le_trans ZKq10 E37.1
    have KKE37 := KKKq10.ext E37
    refine own_go st37 ?_
    have Ar_b37 : own_AJ Z h37 b37 3 (fun _ => (0 : Int64)) := own_A_new A37 (by decide)
    refine own_go (T' := T37) (f' := (mkF m 85 #[.val (.long q0), .second, .val (.long q1), .second, .val (.long q2), .second, .val (.long q3), .second, .val (.long q4), .second, .val (.int p5), .val (.ref b1), .val (.int (3 : Int32)), .val (.ref b37), .unset, .unset, .unset, .unset] [(.long (t5 0)), (.int (0 : Int32)), (.ref b37)])) (fun t kt => ?_) ?_
    · show Steps p.tables e below (T37.setTop (mkF m 71 #[.val (.long q0), .second, .val (.long q1), .second, .val (.long q2), .second, .val (.long q3), .second, .val (.long q4), .second, .val (.int p5), .val (.ref b1), .val (.int (3 : Int32)), .unset, .unset, .unset, .unset, .unset] [(.ref b37)])) t
      refine XS.astore X37.here hx rfl (hb hby at_71) rfl rfl (l' := #[.val (.long q0), .second, .val (.long q1), .second, .val (.long q2), .second, .val (.long q3), .second, .val (.long q4), .second, .val (.int p5), .val (.ref b1), .val (.int (3 : Int32)), .val (.ref b37), .unset, .unset, .unset, .unset]) rfl ?_
      show Steps p.tables e below (T37.setTop (mkF m 73 #[.val (.long q0), .second, .val (.long q1), .second, .val (.long q2), .second, .val (.long q3), .second, .val (.long q4), .second, .val (.int p5), .val (.ref b1), .val (.int (3 : Int32)), .val (.ref b37), .unset, .unset, .unset, .unset] [])) t
      refine XS.iload X37.here hx rfl (hb hby at_73) rfl ?_
      show Steps p.tables e below (T37.setTop (mkF m 75 #[.val (.long q0), .second, .val (.long q1), .second, .val (.long q2), .second, .val (.long q3), .second, .val (.long q4), .second, .val (.int p5), .val (.ref b1), .val (.int (3 : Int32)), .val (.ref b37), .unset, .unset, .unset, .unset] [(.int (3 : Int32))])) t
      refine XS.ifNo X37.here hx rfl (hb hby at_75) rfl (by decide) ?_
      show Steps p.tables e below (T37.setTop (mkF m 78 #[.val (.long q0), .second, .val (.long q1), .second, .val (.long q2), .second, .val (.long q3), .second, .val (.long q4), .second, .val (.int p5), .val (.ref b1), .val (.int (3 : Int32)), .val (.ref b37), .unset, .unset, .unset, .unset] [])) t
      refine XS.aload X37.here hx rfl (hb hby at_78) rfl rfl ?_
      show Steps p.tables e below (T37.setTop (mkF m 80 #[.val (.long q0), .second, .val (.long q1), .second, .val (.long q2), .second, .val (.long q3), .second, .val (.long q4), .second, .val (.int p5), .val (.ref b1), .val (.int (3 : Int32)), .val (.ref b37), .unset, .unset, .unset, .unset] [(.ref b37)])) t
      refine XS.iconst X37.here hx rfl (hb hby at_80) ?_
      show Steps p.tables e below (T37.setTop (mkF m 81 #[.val (.long q0), .second, .val (.long q1), .second, .val (.long q2), .second, .val (.long q3), .second, .val (.long q4), .second, .val (.int p5), .val (.ref b1), .val (.int (3 : Int32)), .val (.ref b37), .unset, .unset, .unset, .unset] [(.int (0 : Int32)), (.ref b37)])) t
      refine XS.aload X37.here hx rfl (hb hby at_81) rfl rfl ?_
      show Steps p.tables e below (T37.setTop (mkF m 83 #[.val (.long q0), .second, .val (.long q1), .second, .val (.long q2), .second, .val (.long q3), .second, .val (.long q4), .second, .val (.int p5), .val (.ref b1), .val (.int (3 : Int32)), .val (.ref b37), .unset, .unset, .unset, .unset] [(.ref b1), (.int (0 : Int32)), (.ref b37)])) t
      refine XS.iconst X37.here hx rfl (hb hby at_83) ?_
      show Steps p.tables e below (T37.setTop (mkF m 84 #[.val (.long q0), .second, .val (.long q1), .second, .val (.long q2), .second, .val (.long q3), .second, .val (.long q4), .second, .val (.int p5), .val (.ref b1), .val (.int (3 : Int32)), .val (.ref b37), .unset, .unset, .unset, .unset] [(.int (0 : Int32)), (.ref b1), (.int (0 : Int32)), (.ref b37)])) t
      refine own_laload X37 hx hZ e37 Pq10_0 (i := 0) (by decide) (by decide) (g := (mkF m 84 #[.val (.long q0), .second, .val (.long q1), .second, .val (.long q2), .second, .val (.long q3), .second, .val (.long q4), .second, .val (.int p5), .val (.ref b1), .val (.int (3 : Int32)), .val (.ref b37), .unset, .unset, .unset, .unset] [(.int (0 : Int32)), (.ref b1), (.int (0 : Int32)), (.ref b37)])) rfl rfl (hb hby at_84) _ ?_
      show Steps p.tables e below (T37.setTop (mkF m 85 #[.val (.long q0), .second, .val (.long q1), .second, .val (.long q2), .second, .val (.long q3), .second, .val (.long q4), .second, .val (.int p5), .val (.ref b1), .val (.int (3 : Int32)), .val (.ref b37), .unset, .unset, .unset, .unset] [(.long (t5 0)), (.int (0 : Int32)), (.ref b37)])) t
      exact kt
    obtain ⟨T38, h38, X38, e38, W38, B38, st38⟩ := own_lastore X37 hx hZ e37 Ar_b37 (i := 0) (by decide) (by decide) (g := (mkF m 85 #[.val (.long q0), .second, .val (.long q1), .second, .val (.long q2), .second, .val (.long q3), .second, .val (.long q4), .second, .val (.int p5), .val (.ref b1), .val (.int (3 : Int32)), .val (.ref b37), .unset, .unset, .unset, .unset] [(.long (t5 0)), (.int (0 : Int32)), (.ref b37)])) rfl rfl (hb hby at_85)
    refine own_go st38 ?_
    replace Pq10_0 := (Pq10_0.other W38 (ne_b1_b37))
    have N38 := Fr.snoc X38 N10 g_b37
    have Z38 : n0 ≤ h38.size := Nat.le_trans ZE37 (Keep.of_wr W38).1
    have KK38 := KKE37.wr W38 (Or.inr sz_b37)
    obtain ⟨f0, hf0⟩ : ∃ z, z = (own_set (fun _ => (0 : Int64)) 0 (t5 0)) := ⟨_, rfl⟩
    rw [← hf0] at B38
    refine own_go (T' := T38) (f' := (mkF m 99 #[.val (.long q0), .second, .val (.long q1), .second, .val (.long q2), .second, .val (.long q3), .second, .val (.long q4), .second, .val (.int p5), .val (.ref b1), .val (.int (3 : Int32)), .val (.ref b37), .unset, .unset, .unset, .unset] [(.long (t5 1)), (.int (1 : Int32)), (.ref b37)])) (fun t kt => ?_) ?_
    · show Steps p.tables e below (T38.setTop (mkF m 86 #[.val (.long q0), .second, .val (.long q1), .second, .val (.long q2), .second, .val (.long q3), .second, .val (.long q4), .second, .val (.int p5), .val (.ref b1), .val (.int (3 : Int32)), .val (.ref b37), .unset, .unset, .unset, .unset] [])) t
      refine XS.iload X38.here hx rfl (hb hby at_86) rfl ?_
      show Steps p.tables e below (T38.setTop (mkF m 88 #[.val (.long q0), .second, .val (.long q1), .second, .val (.long q2), .second, .val (.long q3), .second, .val (.long q4), .second, .val (.int p5), .val (.ref b1), .val (.int (3 : Int32)), .val (.ref b37), .unset, .unset, .unset, .unset] [(.int (3 : Int32))])) t
      refine XS.iconst X38.here hx rfl (hb hby at_88) ?_
      show Steps p.tables e below (T38.setTop (mkF m 89 #[.val (.long q0), .second, .val (.long q1), .second, .val (.long q2), .second, .val (.long q3), .second, .val (.long q4), .second, .val (.int p5), .val (.ref b1), .val (.int (3 : Int32)), .val (.ref b37), .unset, .unset, .unset, .unset] [(.int (1 : Int32)), (.int (3 : Int32))])) t
      refine XS.icmpNo X38.here hx rfl (hb hby at_89) rfl (by decide) ?_
      show Steps p.tables e below (T38.setTop (mkF m 92 #[.val (.long q0), .second, .val (.long q1), .second, .val (.long q2), .second, .val (.long q3), .second, .val (.long q4), .second, .val (.int p5), .val (.ref b1), .val (.int (3 : Int32)), .val (.ref b37), .unset, .unset, .unset, .unset] [])) t
      refine XS.aload X38.here hx rfl (hb hby at_92) rfl rfl ?_
      show Steps p.tables e below (T38.setTop (mkF m 94 #[.val (.long q0), .second, .val (.long q1), .second, .val (.long q2), .second, .val (.long q3), .second, .val (.long q4), .second, .val (.int p5), .val (.ref b1), .val (.int (3 : Int32)), .val (.ref b37), .unset, .unset, .unset, .unset] [(.ref b37)])) t
      refine XS.iconst X38.here hx rfl (hb hby at_94) ?_
      show Steps p.tables e below (T38.setTop (mkF m 95 #[.val (.long q0), .second, .val (.long q1), .second, .val (.long q2), .second, .val (.long q3), .second, .val (.long q4), .second, .val (.int p5), .val (.ref b1), .val (.int (3 : Int32)), .val (.ref b37), .unset, .unset, .unset, .unset] [(.int (1 : Int32)), (.ref b37)])) t
      refine XS.aload X38.here hx rfl (hb hby at_95) rfl rfl ?_
      show Steps p.tables e below (T38.setTop (mkF m 97 #[.val (.long q0), .second, .val (.long q1), .second, .val (.long q2), .second, .val (.long q3), .second, .val (.long q4), .second, .val (.int p5), .val (.ref b1), .val (.int (3 : Int32)), .val (.ref b37), .unset, .unset, .unset, .unset] [(.ref b1), (.int (1 : Int32)), (.ref b37)])) t
      refine XS.iconst X38.here hx rfl (hb hby at_97) ?_
      show Steps p.tables e below (T38.setTop (mkF m 98 #[.val (.long q0), .second, .val (.long q1), .second, .val (.long q2), .second, .val (.long q3), .second, .val (.long q4), .second, .val (.int p5), .val (.ref b1), .val (.int (3 : Int32)), .val (.ref b37), .unset, .unset, .unset, .unset] [(.int (1 : Int32)), (.ref b1), (.int (1 : Int32)), (.ref b37)])) t
      refine own_laload X38 hx hZ e38 Pq10_0 (i := 1) (by decide) (by decide) (g := (mkF m 98 #[.val (.long q0), .second, .val (.long q1), .second, .val (.long q2), .second, .val (.long q3), .second, .val (.long q4), .second, .val (.int p5), .val (.ref b1), .val (.int (3 : Int32)), .val (.ref b37), .unset, .unset, .unset, .unset] [(.int (1 : Int32)), (.ref b1), (.int (1 : Int32)), (.ref b37)])) rfl rfl (hb hby at_98) _ ?_
      show Steps p.tables e below (T38.setTop (mkF m 99 #[.val (.long q0), .second, .val (.long q1), .second, .val (.long q2), .second, .val (.long q3), .second, .val (.long q4), .second, .val (.int p5), .val (.ref b1), .val (.int (3 : Int32)), .val (.ref b37), .unset, .unset, .unset, .unset] [(.long (t5 1)), (.int (1 : Int32)), (.ref b37)])) t
      exact kt
    obtain ⟨T39, h39, X39, e39, W39, B39, st39⟩ := own_lastore X38 hx hZ e38 B38 (i := 1) (by decide) (by decide) (g := (mkF m 99 #[.val (.long q0), .second, .val (.long q1), .second, .val (.long q2), .second, .val (.long q3), .second, .val (.long q4), .second, .val (.int p5), .val (.ref b1), .val (.int (3 : Int32)), .val (.ref b37), .unset, .unset, .unset, .unset] [(.long (t5 1)), (.int (1 : Int32)), (.ref b37)])) rfl rfl (hb hby at_99)
    refine own_go st39 ?_
    replace Pq10_0 := (Pq10_0.other W39 (ne_b1_b37))
    have N39 := Fr.snoc X39 N38 g_b37
    have Z39 : n0 ≤ h39.size := Nat.le_trans Z38 (Keep.of_wr W39).1
    have KK39 := KK38.wr W39 (Or.inr sz_b37)
    obtain ⟨f1, hf1⟩ : ∃ z, z = (own_set f0 1 (t5 1)) := ⟨_, rfl⟩
    rw [← hf1] at B39
    refine own_go (T' := T39) (f' := (mkF m 113 #[.val (.long q0), .second, .val (.long q1), .second, .val (.long q2), .second, .val (.long q3), .second, .val (.long q4), .second, .val (.int p5), .val (.ref b1), .val (.int (3 : Int32)), .val (.ref b37), .unset, .unset, .unset, .unset] [(.long (t5 2)), (.int (2 : Int32)), (.ref b37)])) (fun t kt => ?_) ?_
    · show Steps p.tables e below (T39.setTop (mkF m 100 #[.val (.long q0), .second, .val (.long q1), .second, .val (.long q2), .second, .val (.long q3), .second, .val (.long q4), .second, .val (.int p5), .val (.ref b1), .val (.int (3 : Int32)), .val (.ref b37), .unset, .unset, .unset, .unset] [])) t
      refine XS.iload X39.here hx rfl (hb hby at_100) rfl ?_
      show Steps p.tables e below (T39.setTop (mkF m 102 #[.val (.long q0), .second, .val (.long q1), .second, .val (.long q2), .second, .val (.long q3), .second, .val (.long q4), .second, .val (.int p5), .val (.ref b1), .val (.int (3 : Int32)), .val (.ref b37), .unset, .unset, .unset, .unset] [(.int (3 : Int32))])) t
      refine XS.iconst X39.here hx rfl (hb hby at_102) ?_
      show Steps p.tables e below (T39.setTop (mkF m 103 #[.val (.long q0), .second, .val (.long q1), .second, .val (.long q2), .second, .val (.long q3), .second, .val (.long q4), .second, .val (.int p5), .val (.ref b1), .val (.int (3 : Int32)), .val (.ref b37), .unset, .unset, .unset, .unset] [(.int (2 : Int32)), (.int (3 : Int32))])) t
      refine XS.icmpNo X39.here hx rfl (hb hby at_103) rfl (by decide) ?_
      show Steps p.tables e below (T39.setTop (mkF m 106 #[.val (.long q0), .second, .val (.long q1), .second, .val (.long q2), .second, .val (.long q3), .second, .val (.long q4), .second, .val (.int p5), .val (.ref b1), .val (.int (3 : Int32)), .val (.ref b37), .unset, .unset, .unset, .unset] [])) t
      refine XS.aload X39.here hx rfl (hb hby at_106) rfl rfl ?_
      show Steps p.tables e below (T39.setTop (mkF m 108 #[.val (.long q0), .second, .val (.long q1), .second, .val (.long q2), .second, .val (.long q3), .second, .val (.long q4), .second, .val (.int p5), .val (.ref b1), .val (.int (3 : Int32)), .val (.ref b37), .unset, .unset, .unset, .unset] [(.ref b37)])) t
      refine XS.iconst X39.here hx rfl (hb hby at_108) ?_
      show Steps p.tables e below (T39.setTop (mkF m 109 #[.val (.long q0), .second, .val (.long q1), .second, .val (.long q2), .second, .val (.long q3), .second, .val (.long q4), .second, .val (.int p5), .val (.ref b1), .val (.int (3 : Int32)), .val (.ref b37), .unset, .unset, .unset, .unset] [(.int (2 : Int32)), (.ref b37)])) t
      refine XS.aload X39.here hx rfl (hb hby at_109) rfl rfl ?_
      show Steps p.tables e below (T39.setTop (mkF m 111 #[.val (.long q0), .second, .val (.long q1), .second, .val (.long q2), .second, .val (.long q3), .second, .val (.long q4), .second, .val (.int p5), .val (.ref b1), .val (.int (3 : Int32)), .val (.ref b37), .unset, .unset, .unset, .unset] [(.ref b1), (.int (2 : Int32)), (.ref b37)])) t
      refine XS.iconst X39.here hx rfl (hb hby at_111) ?_
      show Steps p.tables e below (T39.setTop (mkF m 112 #[.val (.long q0), .second, .val (.long q1), .second, .val (.long q2), .second, .val (.long q3), .second, .val (.long q4), .second, .val (.int p5), .val (.ref b1), .val (.int (3 : Int32)), .val (.ref b37), .unset, .unset, .unset, .unset] [(.int (2 : Int32)), (.ref b1), (.int (2 : Int32)), (.ref b37)])) t
      refine own_laload X39 hx hZ e39 Pq10_0 (i := 2) (by decide) (by decide) (g := (mkF m 112 #[.val (.long q0), .second, .val (.long q1), .second, .val (.long q2), .second, .val (.long q3), .second, .val (.long q4), .second, .val (.int p5), .val (.ref b1), .val (.int (3 : Int32)), .val (.ref b37), .unset, .unset, .unset, .unset] [(.int (2 : Int32)), (.ref b1), (.int (2 : Int32)), (.ref b37)])) rfl rfl (hb hby at_112) _ ?_
      show Steps p.tables e below (T39.setTop (mkF m 113 #[.val (.long q0), .second, .val (.long q1), .second, .val (.long q2), .second, .val (.long q3), .second, .val (.long q4), .second, .val (.int p5), .val (.ref b1), .val (.int (3 : Int32)), .val (.ref b37), .unset, .unset, .unset, .unset] [(.long (t5 2)), (.int (2 : Int32)), (.ref b37)])) t
      exact kt
    obtain ⟨T40, h40, X40, e40, W40, B40, st40⟩ := own_lastore X39 hx hZ e39 B39 (i := 2) (by decide) (by decide) (g := (mkF m 113 #[.val (.long q0), .second, .val (.long q1), .second, .val (.long q2), .second, .val (.long q3), .second, .val (.long q4), .second, .val (.int p5), .val (.ref b1), .val (.int (3 : Int32)), .val (.ref b37), .unset, .unset, .unset, .unset] [(.long (t5 2)), (.int (2 : Int32)), (.ref b37)])) rfl rfl (hb hby at_113)
    refine own_go st40 ?_
    replace Pq10_0 := (Pq10_0.other W40 (ne_b1_b37))
    have N40 := Fr.snoc X40 N39 g_b37
    have Z40 : n0 ≤ h40.size := Nat.le_trans Z39 (Keep.of_wr W40).1
    have KK40 := KK39.wr W40 (Or.inr sz_b37)
    obtain ⟨f2, hf2⟩ : ∃ z, z = (own_set f1 2 (t5 2)) := ⟨_, rfl⟩
    rw [← hf2] at B40
    refine own_go (T' := T40) (f' := (mkF m 135 #[.val (.long q0), .second, .val (.long q1), .second, .val (.long q2), .second, .val (.long q3), .second, .val (.long q4), .second, .val (.int p5), .val (.ref b1), .val (.int (3 : Int32)), .val (.ref b37), .unset, .unset, .unset, .unset] [(.int (((p5.toUInt32 >>> ((3 : Int32) &&& 31).toUInt32).toInt32) &&& (7 : Int32)))])) (fun t kt => ?_) ?_
    · show Steps p.tables e below (T40.setTop (mkF m 114 #[.val (.long q0), .second, .val (.long q1), .second, .val (.long q2), .second, .val (.long q3), .second, .val (.long q4), .second, .val (.int p5), .val (.ref b1), .val (.int (3 : Int32)), .val (.ref b37), .unset, .unset, .unset, .unset] [])) t
      refine XS.iload X40.here hx rfl (hb hby at_114) rfl ?_
      show Steps p.tables e below (T40.setTop (mkF m 116 #[.val (.long q0), .second, .val (.long q1), .second, .val (.long q2), .second, .val (.long q3), .second, .val (.long q4), .second, .val (.int p5), .val (.ref b1), .val (.int (3 : Int32)), .val (.ref b37), .unset, .unset, .unset, .unset] [(.int (3 : Int32))])) t
      refine XS.iconst X40.here hx rfl (hb hby at_116) ?_
      show Steps p.tables e below (T40.setTop (mkF m 117 #[.val (.long q0), .second, .val (.long q1), .second, .val (.long q2), .second, .val (.long q3), .second, .val (.long q4), .second, .val (.int p5), .val (.ref b1), .val (.int (3 : Int32)), .val (.ref b37), .unset, .unset, .unset, .unset] [(.int (3 : Int32)), (.int (3 : Int32))])) t
      refine XS.icmpYes X40.here hx rfl (pc0 := 117) (pc' := 128) rfl (hb hby at_117) rfl (by decide) (by decide) (by decide) ?_
      show Steps p.tables e below (T40.setTop (mkF m 128 #[.val (.long q0), .second, .val (.long q1), .second, .val (.long q2), .second, .val (.long q3), .second, .val (.long q4), .second, .val (.int p5), .val (.ref b1), .val (.int (3 : Int32)), .val (.ref b37), .unset, .unset, .unset, .unset] [])) t
      refine XS.iload X40.here hx rfl (hb hby at_128) rfl ?_
      show Steps p.tables e below (T40.setTop (mkF m 130 #[.val (.long q0), .second, .val (.long q1), .second, .val (.long q2), .second, .val (.long q3), .second, .val (.long q4), .second, .val (.int p5), .val (.ref b1), .val (.int (3 : Int32)), .val (.ref b37), .unset, .unset, .unset, .unset] [(.int p5)])) t
      refine XS.iconst X40.here hx rfl (hb hby at_130) ?_
      show Steps p.tables e below (T40.setTop (mkF m 131 #[.val (.long q0), .second, .val (.long q1), .second, .val (.long q2), .second, .val (.long q3), .second, .val (.long q4), .second, .val (.int p5), .val (.ref b1), .val (.int (3 : Int32)), .val (.ref b37), .unset, .unset, .unset, .unset] [(.int (3 : Int32)), (.int p5)])) t
      refine XS.iushr X40.here hx rfl (hb hby at_131) rfl ?_
      show Steps p.tables e below (T40.setTop (mkF m 132 #[.val (.long q0), .second, .val (.long q1), .second, .val (.long q2), .second, .val (.long q3), .second, .val (.long q4), .second, .val (.int p5), .val (.ref b1), .val (.int (3 : Int32)), .val (.ref b37), .unset, .unset, .unset, .unset] [(.int ((p5.toUInt32 >>> ((3 : Int32) &&& 31).toUInt32).toInt32))])) t
      refine XS.bipush X40.here hx rfl (hb hby at_132) ?_
      show Steps p.tables e below (T40.setTop (mkF m 134 #[.val (.long q0), .second, .val (.long q1), .second, .val (.long q2), .second, .val (.long q3), .second, .val (.long q4), .second, .val (.int p5), .val (.ref b1), .val (.int (3 : Int32)), .val (.ref b37), .unset, .unset, .unset, .unset] [(.int (7 : Int32)), (.int ((p5.toUInt32 >>> ((3 : Int32) &&& 31).toUInt32).toInt32))])) t
      refine XS.iand X40.here hx rfl (hb hby at_134) rfl ?_
      show Steps p.tables e below (T40.setTop (mkF m 135 #[.val (.long q0), .second, .val (.long q1), .second, .val (.long q2), .second, .val (.long q3), .second, .val (.long q4), .second, .val (.int p5), .val (.ref b1), .val (.int (3 : Int32)), .val (.ref b37), .unset, .unset, .unset, .unset] [(.int (((p5.toUInt32 >>> ((3 : Int32) &&& 31).toUInt32).toInt32) &&& (7 : Int32)))])) t
      exact kt
    obtain ⟨sel, hsel⟩ : ∃ z, z = (((p5.toUInt32 >>> ((3 : Int32) &&& 31).toUInt32).toInt32) &&& (7 : Int32)) := ⟨_, rfl⟩
    rw [← hsel]
    refine own_go (T' := T40) (f' := (mkF m 141 #[.val (.long q0), .second, .val (.long q1), .second, .val (.long q2), .second, .val (.long q3), .second, .val (.long q4), .second, .val (.int p5), .val (.ref b1), .val (.int (3 : Int32)), .val (.ref b37), .val (.int sel), .val (.long q4), .second, .unset] [])) (fun t kt => ?_) ?_
    · show Steps p.tables e below (T40.setTop (mkF m 135 #[.val (.long q0), .second, .val (.long q1), .second, .val (.long q2), .second, .val (.long q3), .second, .val (.long q4), .second, .val (.int p5), .val (.ref b1), .val (.int (3 : Int32)), .val (.ref b37), .unset, .unset, .unset, .unset] [(.int sel)])) t
      refine XS.istore X40.here hx rfl (hb hby at_135) rfl (l' := #[.val (.long q0), .second, .val (.long q1), .second, .val (.long q2), .second, .val (.long q3), .second, .val (.long q4), .second, .val (.int p5), .val (.ref b1), .val (.int (3 : Int32)), .val (.ref b37), .val (.int sel), .unset, .unset, .unset]) rfl ?_
      show Steps p.tables e below (T40.setTop (mkF m 137 #[.val (.long q0), .second, .val (.long q1), .second, .val (.long q2), .second, .val (.long q3), .second, .val (.long q4), .second, .val (.int p5), .val (.ref b1), .val (.int (3 : Int32)), .val (.ref b37), .val (.int sel), .unset, .unset, .unset] [])) t
      refine XS.lload X40.here hx rfl (hb hby at_137) rfl ?_
      show Steps p.tables e below (T40.setTop (mkF m 139 #[.val (.long q0), .second, .val (.long q1), .second, .val (.long q2), .second, .val (.long q3), .second, .val (.long q4), .second, .val (.int p5), .val (.ref b1), .val (.int (3 : Int32)), .val (.ref b37), .val (.int sel), .unset, .unset, .unset] [(.long q4)])) t
      refine XS.lstore X40.here hx rfl (hb hby at_139) rfl (l' := #[.val (.long q0), .second, .val (.long q1), .second, .val (.long q2), .second, .val (.long q3), .second, .val (.long q4), .second, .val (.int p5), .val (.ref b1), .val (.int (3 : Int32)), .val (.ref b37), .val (.int sel), .val (.long q4), .second, .unset]) rfl ?_
      show Steps p.tables e below (T40.setTop (mkF m 141 #[.val (.long q0), .second, .val (.long q1), .second, .val (.long q2), .second, .val (.long q3), .second, .val (.long q4), .second, .val (.int p5), .val (.ref b1), .val (.int (3 : Int32)), .val (.ref b37), .val (.int sel), .val (.long q4), .second, .unset] [])) t
      exact kt
    have J177 : ∀ (Tj41 : State) (lj41 : List Loc) (vv : Int64) (Xj41 : Stand p l e room_1 s m #[(.long q0), (.long q1), (.long q2), (.long q3), (.long q4), (.int p5)] below meth c Tj41 lj41 2 7) (Nj41 : Fr n0 lj41) (ej41 : Tj41.heap = h40), own_End p e below P Tj41 (mkF m 177 #[.val (.long q0), .second, .val (.long q1), .second, .val (.long q2), .second, .val (.long q3), .second, .val (.long q4), .second, .val (.int p5), .val (.ref b1), .val (.int (3 : Int32)), .val (.ref b37), .val (.int sel), .val (.long vv), .second, .unset] []) := by
      intro Tj41 lj41 vv Xj41 Nj41 ej41
      refine own_go (T' := Tj41) (f' := (mkF m 192 #[.val (.long q0), .second, .val (.long q1), .second, .val (.long q2), .second, .val (.long q3), .second, .val (.long q4), .second, .val (.int p5), .val (.ref b1), .val (.int (3 : Int32)), .val (.ref b37), .val (.int sel), .val (.long vv), .second, .val (.int (0 : Int32))] [(.int (lcmpW (f2 0) vv))])) (fun t kt => ?_) ?_
      · show Steps p.tables e below (Tj41.setTop (mkF m 177 #[.val (.long q0), .second, .val (.long q1), .second, .val (.long q2), .second, .val (.long q3), .second, .val (.long q4), .second, .val (.int p5), .val (.ref b1), .val (.int (3 : Int32)), .val (.ref b37), .val (.int sel), .val (.long vv), .second, .unset] [])) t
        refine XS.iconst Xj41.here hx rfl (hb hby at_177) ?_
        show Steps p.tables e below (Tj41.setTop (mkF m 178 #[.val (.long q0), .second, .val (.long q1), .second, .val (.long q2), .second, .val (.long q3), .second, .val (.long q4), .second, .val (.int p5), .val (.ref b1), .val (.int (3 : Int32)), .val (.ref b37), .val (.int sel), .val (.long vv), .second, .unset] [(.int (0 : Int32))])) t
        refine XS.istore Xj41.here hx rfl (hb hby at_178) rfl (l' := #[.val (.long q0), .second, .val (.long q1), .second, .val (.long q2), .second, .val (.long q3), .second, .val (.long q4), .second, .val (.int p5), .val (.ref b1), .val (.int (3 : Int32)), .val (.ref b37), .val (.int sel), .val (.long vv), .second, .val (.int (0 : Int32))]) rfl ?_
        show Steps p.tables e below (Tj41.setTop (mkF m 180 #[.val (.long q0), .second, .val (.long q1), .second, .val (.long q2), .second, .val (.long q3), .second, .val (.long q4), .second, .val (.int p5), .val (.ref b1), .val (.int (3 : Int32)), .val (.ref b37), .val (.int sel), .val (.long vv), .second, .val (.int (0 : Int32))] [])) t
        refine XS.iload Xj41.here hx rfl (hb hby at_180) rfl ?_
        show Steps p.tables e below (Tj41.setTop (mkF m 182 #[.val (.long q0), .second, .val (.long q1), .second, .val (.long q2), .second, .val (.long q3), .second, .val (.long q4), .second, .val (.int p5), .val (.ref b1), .val (.int (3 : Int32)), .val (.ref b37), .val (.int sel), .val (.long vv), .second, .val (.int (0 : Int32))] [(.int (3 : Int32))])) t
        refine XS.ifNo Xj41.here hx rfl (hb hby at_182) rfl (by decide) ?_
        show Steps p.tables e below (Tj41.setTop (mkF m 185 #[.val (.long q0), .second, .val (.long q1), .second, .val (.long q2), .second, .val (.long q3), .second, .val (.long q4), .second, .val (.int p5), .val (.ref b1), .val (.int (3 : Int32)), .val (.ref b37), .val (.int sel), .val (.long vv), .second, .val (.int (0 : Int32))] [])) t
        refine XS.aload Xj41.here hx rfl (hb hby at_185) rfl rfl ?_
        show Steps p.tables e below (Tj41.setTop (mkF m 187 #[.val (.long q0), .second, .val (.long q1), .second, .val (.long q2), .second, .val (.long q3), .second, .val (.long q4), .second, .val (.int p5), .val (.ref b1), .val (.int (3 : Int32)), .val (.ref b37), .val (.int sel), .val (.long vv), .second, .val (.int (0 : Int32))] [(.ref b37)])) t
        refine XS.iconst Xj41.here hx rfl (hb hby at_187) ?_
        show Steps p.tables e below (Tj41.setTop (mkF m 188 #[.val (.long q0), .second, .val (.long q1), .second, .val (.long q2), .second, .val (.long q3), .second, .val (.long q4), .second, .val (.int p5), .val (.ref b1), .val (.int (3 : Int32)), .val (.ref b37), .val (.int sel), .val (.long vv), .second, .val (.int (0 : Int32))] [(.int (0 : Int32)), (.ref b37)])) t
        refine own_laload Xj41 hx hZ ej41 B40 (i := 0) (by decide) (by decide) (g := (mkF m 188 #[.val (.long q0), .second, .val (.long q1), .second, .val (.long q2), .second, .val (.long q3), .second, .val (.long q4), .second, .val (.int p5), .val (.ref b1), .val (.int (3 : Int32)), .val (.ref b37), .val (.int sel), .val (.long vv), .second, .val (.int (0 : Int32))] [(.int (0 : Int32)), (.ref b37)])) rfl rfl (hb hby at_188) _ ?_
        show Steps p.tables e below (Tj41.setTop (mkF m 189 #[.val (.long q0), .second, .val (.long q1), .second, .val (.long q2), .second, .val (.long q3), .second, .val (.long q4), .second, .val (.int p5), .val (.ref b1), .val (.int (3 : Int32)), .val (.ref b37), .val (.int sel), .val (.long vv), .second, .val (.int (0 : Int32))] [(.long (f2 0))])) t
        refine XS.lload Xj41.here hx rfl (hb hby at_189) rfl ?_
        show Steps p.tables e below (Tj41.setTop (mkF m 191 #[.val (.long q0), .second, .val (.long q1), .second, .val (.long q2), .second, .val (.long q3), .second, .val (.long q4), .second, .val (.int p5), .val (.ref b1), .val (.int (3 : Int32)), .val (.ref b37), .val (.int sel), .val (.long vv), .second, .val (.int (0 : Int32))] [(.long vv), (.long (f2 0))])) t
        refine XS.lcmp Xj41.here hx rfl (hb hby at_191) rfl ?_
        show Steps p.tables e below (Tj41.setTop (mkF m 192 #[.val (.long q0), .second, .val (.long q1), .second, .val (.long q2), .second, .val (.long q3), .second, .val (.long q4), .second, .val (.int p5), .val (.ref b1), .val (.int (3 : Int32)), .val (.ref b37), .val (.int sel), .val (.long vv), .second, .val (.int (0 : Int32))] [(.int (lcmpW (f2 0) vv))])) t
        exact kt
      by_cases hc192_42 : (f2 0) < vv
      · refine own_go (T' := Tj41) (f' := (mkF m 211 #[.val (.long q0), .second, .val (.long q1), .second, .val (.long q2), .second, .val (.long q3), .second, .val (.long q4), .second, .val (.int p5), .val (.ref b1), .val (.int (3 : Int32)), .val (.ref b37), .val (.int sel), .val (.long vv), .second, .val (.int (1 : Int32))] [(.int (lcmpW (f2 1) vv))])) (fun t kt => ?_) ?_
        · show Steps p.tables e below (Tj41.setTop (mkF m 192 #[.val (.long q0), .second, .val (.long q1), .second, .val (.long q2), .second, .val (.long q3), .second, .val (.long q4), .second, .val (.int p5), .val (.ref b1), .val (.int (3 : Int32)), .val (.ref b37), .val (.int sel), .val (.long vv), .second, .val (.int (0 : Int32))] [(.int (lcmpW (f2 0) vv))])) t
          refine XS.ifNo Xj41.here hx rfl (hb hby at_192) rfl (own_lN_ge hc192_42) ?_
          show Steps p.tables e below (Tj41.setTop (mkF m 195 #[.val (.long q0), .second, .val (.long q1), .second, .val (.long q2), .second, .val (.long q3), .second, .val (.long q4), .second, .val (.int p5), .val (.ref b1), .val (.int (3 : Int32)), .val (.ref b37), .val (.int sel), .val (.long vv), .second, .val (.int (0 : Int32))] [])) t
          refine XS.iinc Xj41.here hx rfl (hb hby at_195) rfl (l' := #[.val (.long q0), .second, .val (.long q1), .second, .val (.long q2), .second, .val (.long q3), .second, .val (.long q4), .second, .val (.int p5), .val (.ref b1), .val (.int (3 : Int32)), .val (.ref b37), .val (.int sel), .val (.long vv), .second, .val (.int (1 : Int32))]) rfl ?_
          show Steps p.tables e below (Tj41.setTop (mkF m 198 #[.val (.long q0), .second, .val (.long q1), .second, .val (.long q2), .second, .val (.long q3), .second, .val (.long q4), .second, .val (.int p5), .val (.ref b1), .val (.int (3 : Int32)), .val (.ref b37), .val (.int sel), .val (.long vv), .second, .val (.int (1 : Int32))] [])) t
          refine XS.iload Xj41.here hx rfl (hb hby at_198) rfl ?_
          show Steps p.tables e below (Tj41.setTop (mkF m 200 #[.val (.long q0), .second, .val (.long q1), .second, .val (.long q2), .second, .val (.long q3), .second, .val (.long q4), .second, .val (.int p5), .val (.ref b1), .val (.int (3 : Int32)), .val (.ref b37), .val (.int sel), .val (.long vv), .second, .val (.int (1 : Int32))] [(.int (3 : Int32))])) t
          refine XS.iconst Xj41.here hx rfl (hb hby at_200) ?_
          show Steps p.tables e below (Tj41.setTop (mkF m 201 #[.val (.long q0), .second, .val (.long q1), .second, .val (.long q2), .second, .val (.long q3), .second, .val (.long q4), .second, .val (.int p5), .val (.ref b1), .val (.int (3 : Int32)), .val (.ref b37), .val (.int sel), .val (.long vv), .second, .val (.int (1 : Int32))] [(.int (1 : Int32)), (.int (3 : Int32))])) t
          refine XS.icmpNo Xj41.here hx rfl (hb hby at_201) rfl (by decide) ?_
          show Steps p.tables e below (Tj41.setTop (mkF m 204 #[.val (.long q0), .second, .val (.long q1), .second, .val (.long q2), .second, .val (.long q3), .second, .val (.long q4), .second, .val (.int p5), .val (.ref b1), .val (.int (3 : Int32)), .val (.ref b37), .val (.int sel), .val (.long vv), .second, .val (.int (1 : Int32))] [])) t
          refine XS.aload Xj41.here hx rfl (hb hby at_204) rfl rfl ?_
          show Steps p.tables e below (Tj41.setTop (mkF m 206 #[.val (.long q0), .second, .val (.long q1), .second, .val (.long q2), .second, .val (.long q3), .second, .val (.long q4), .second, .val (.int p5), .val (.ref b1), .val (.int (3 : Int32)), .val (.ref b37), .val (.int sel), .val (.long vv), .second, .val (.int (1 : Int32))] [(.ref b37)])) t
          refine XS.iconst Xj41.here hx rfl (hb hby at_206) ?_
          show Steps p.tables e below (Tj41.setTop (mkF m 207 #[.val (.long q0), .second, .val (.long q1), .second, .val (.long q2), .second, .val (.long q3), .second, .val (.long q4), .second, .val (.int p5), .val (.ref b1), .val (.int (3 : Int32)), .val (.ref b37), .val (.int sel), .val (.long vv), .second, .val (.int (1 : Int32))] [(.int (1 : Int32)), (.ref b37)])) t
          refine own_laload Xj41 hx hZ ej41 B40 (i := 1) (by decide) (by decide) (g := (mkF m 207 #[.val (.long q0), .second, .val (.long q1), .second, .val (.long q2), .second, .val (.long q3), .second, .val (.long q4), .second, .val (.int p5), .val (.ref b1), .val (.int (3 : Int32)), .val (.ref b37), .val (.int sel), .val (.long vv), .second, .val (.int (1 : Int32))] [(.int (1 : Int32)), (.ref b37)])) rfl rfl (hb hby at_207) _ ?_
          show Steps p.tables e below (Tj41.setTop (mkF m 208 #[.val (.long q0), .second, .val (.long q1), .second, .val (.long q2), .second, .val (.long q3), .second, .val (.long q4), .second, .val (.int p5), .val (.ref b1), .val (.int (3 : Int32)), .val (.ref b37), .val (.int sel), .val (.long vv), .second, .val (.int (1 : Int32))] [(.long (f2 1))])) t
          refine XS.lload Xj41.here hx rfl (hb hby at_208) rfl ?_
          show Steps p.tables e below (Tj41.setTop (mkF m 210 #[.val (.long q0), .second, .val (.long q1), .second, .val (.long q2), .second, .val (.long q3), .second, .val (.long q4), .second, .val (.int p5), .val (.ref b1), .val (.int (3 : Int32)), .val (.ref b37), .val (.int sel), .val (.long vv), .second, .val (.int (1 : Int32))] [(.long vv), (.long (f2 1))])) t
          refine XS.lcmp Xj41.here hx rfl (hb hby at_210) rfl ?_
          show Steps p.tables e below (Tj41.setTop (mkF m 211 #[.val (.long q0), .second, .val (.long q1), .second, .val (.long q2), .second, .val (.long q3), .second, .val (.long q4), .second, .val (.int p5), .val (.ref b1), .val (.int (3 : Int32)), .val (.ref b37), .val (.int sel), .val (.long vv), .second, .val (.int (1 : Int32))] [(.int (lcmpW (f2 1) vv))])) t
          exact kt
        by_cases hc211_43 : (f2 1) < vv
        · refine own_go (T' := Tj41) (f' := (mkF m 230 #[.val (.long q0), .second, .val (.long q1), .second, .val (.long q2), .second, .val (.long q3), .second, .val (.long q4), .second, .val (.int p5), .val (.ref b1), .val (.int (3 : Int32)), .val (.ref b37), .val (.int sel), .val (.long vv), .second, .val (.int (2 : Int32))] [(.int (lcmpW (f2 2) vv))])) (fun t kt => ?_) ?_
          · show Steps p.tables e below (Tj41.setTop (mkF m 211 #[.val (.long q0), .second, .val (.long q1), .second, .val (.long q2), .second, .val (.long q3), .second, .val (.long q4), .second, .val (.int p5), .val (.ref b1), .val (.int (3 : Int32)), .val (.ref b37), .val (.int sel), .val (.long vv), .second, .val (.int (1 : Int32))] [(.int (lcmpW (f2 1) vv))])) t
            refine XS.ifNo Xj41.here hx rfl (hb hby at_211) rfl (own_lN_ge hc211_43) ?_
            show Steps p.tables e below (Tj41.setTop (mkF m 214 #[.val (.long q0), .second, .val (.long q1), .second, .val (.long q2), .second, .val (.long q3), .second, .val (.long q4), .second, .val (.int p5), .val (.ref b1), .val (.int (3 : Int32)), .val (.ref b37), .val (.int sel), .val (.long vv), .second, .val (.int (1 : Int32))] [])) t
            refine XS.iinc Xj41.here hx rfl (hb hby at_214) rfl (l' := #[.val (.long q0), .second, .val (.long q1), .second, .val (.long q2), .second, .val (.long q3), .second, .val (.long q4), .second, .val (.int p5), .val (.ref b1), .val (.int (3 : Int32)), .val (.ref b37), .val (.int sel), .val (.long vv), .second, .val (.int (2 : Int32))]) rfl ?_
            show Steps p.tables e below (Tj41.setTop (mkF m 217 #[.val (.long q0), .second, .val (.long q1), .second, .val (.long q2), .second, .val (.long q3), .second, .val (.long q4), .second, .val (.int p5), .val (.ref b1), .val (.int (3 : Int32)), .val (.ref b37), .val (.int sel), .val (.long vv), .second, .val (.int (2 : Int32))] [])) t
            refine XS.iload Xj41.here hx rfl (hb hby at_217) rfl ?_
            show Steps p.tables e below (Tj41.setTop (mkF m 219 #[.val (.long q0), .second, .val (.long q1), .second, .val (.long q2), .second, .val (.long q3), .second, .val (.long q4), .second, .val (.int p5), .val (.ref b1), .val (.int (3 : Int32)), .val (.ref b37), .val (.int sel), .val (.long vv), .second, .val (.int (2 : Int32))] [(.int (3 : Int32))])) t
            refine XS.iconst Xj41.here hx rfl (hb hby at_219) ?_
            show Steps p.tables e below (Tj41.setTop (mkF m 220 #[.val (.long q0), .second, .val (.long q1), .second, .val (.long q2), .second, .val (.long q3), .second, .val (.long q4), .second, .val (.int p5), .val (.ref b1), .val (.int (3 : Int32)), .val (.ref b37), .val (.int sel), .val (.long vv), .second, .val (.int (2 : Int32))] [(.int (2 : Int32)), (.int (3 : Int32))])) t
            refine XS.icmpNo Xj41.here hx rfl (hb hby at_220) rfl (by decide) ?_
            show Steps p.tables e below (Tj41.setTop (mkF m 223 #[.val (.long q0), .second, .val (.long q1), .second, .val (.long q2), .second, .val (.long q3), .second, .val (.long q4), .second, .val (.int p5), .val (.ref b1), .val (.int (3 : Int32)), .val (.ref b37), .val (.int sel), .val (.long vv), .second, .val (.int (2 : Int32))] [])) t
            refine XS.aload Xj41.here hx rfl (hb hby at_223) rfl rfl ?_
            show Steps p.tables e below (Tj41.setTop (mkF m 225 #[.val (.long q0), .second, .val (.long q1), .second, .val (.long q2), .second, .val (.long q3), .second, .val (.long q4), .second, .val (.int p5), .val (.ref b1), .val (.int (3 : Int32)), .val (.ref b37), .val (.int sel), .val (.long vv), .second, .val (.int (2 : Int32))] [(.ref b37)])) t
            refine XS.iconst Xj41.here hx rfl (hb hby at_225) ?_
            show Steps p.tables e below (Tj41.setTop (mkF m 226 #[.val (.long q0), .second, .val (.long q1), .second, .val (.long q2), .second, .val (.long q3), .second, .val (.long q4), .second, .val (.int p5), .val (.ref b1), .val (.int (3 : Int32)), .val (.ref b37), .val (.int sel), .val (.long vv), .second, .val (.int (2 : Int32))] [(.int (2 : Int32)), (.ref b37)])) t
            refine own_laload Xj41 hx hZ ej41 B40 (i := 2) (by decide) (by decide) (g := (mkF m 226 #[.val (.long q0), .second, .val (.long q1), .second, .val (.long q2), .second, .val (.long q3), .second, .val (.long q4), .second, .val (.int p5), .val (.ref b1), .val (.int (3 : Int32)), .val (.ref b37), .val (.int sel), .val (.long vv), .second, .val (.int (2 : Int32))] [(.int (2 : Int32)), (.ref b37)])) rfl rfl (hb hby at_226) _ ?_
            show Steps p.tables e below (Tj41.setTop (mkF m 227 #[.val (.long q0), .second, .val (.long q1), .second, .val (.long q2), .second, .val (.long q3), .second, .val (.long q4), .second, .val (.int p5), .val (.ref b1), .val (.int (3 : Int32)), .val (.ref b37), .val (.int sel), .val (.long vv), .second, .val (.int (2 : Int32))] [(.long (f2 2))])) t
            refine XS.lload Xj41.here hx rfl (hb hby at_227) rfl ?_
            show Steps p.tables e below (Tj41.setTop (mkF m 229 #[.val (.long q0), .second, .val (.long q1), .second, .val (.long q2), .second, .val (.long q3), .second, .val (.long q4), .second, .val (.int p5), .val (.ref b1), .val (.int (3 : Int32)), .val (.ref b37), .val (.int sel), .val (.long vv), .second, .val (.int (2 : Int32))] [(.long vv), (.long (f2 2))])) t
            refine XS.lcmp Xj41.here hx rfl (hb hby at_229) rfl ?_
            show Steps p.tables e below (Tj41.setTop (mkF m 230 #[.val (.long q0), .second, .val (.long q1), .second, .val (.long q2), .second, .val (.long q3), .second, .val (.long q4), .second, .val (.int p5), .val (.ref b1), .val (.int (3 : Int32)), .val (.ref b37), .val (.int sel), .val (.long vv), .second, .val (.int (2 : Int32))] [(.int (lcmpW (f2 2) vv))])) t
            exact kt
          by_cases hc230_44 : (f2 2) < vv
          · refine own_go (T' := Tj41) (f' := (mkF m 259 #[.val (.long q0), .second, .val (.long q1), .second, .val (.long q2), .second, .val (.long q3), .second, .val (.long q4), .second, .val (.int p5), .val (.ref b1), .val (.int (3 : Int32)), .val (.ref b37), .val (.int sel), .val (.long vv), .second, .val (.int (3 : Int32))] [(.long vv), (.ref b37)])) (fun t kt => ?_) ?_
            · show Steps p.tables e below (Tj41.setTop (mkF m 230 #[.val (.long q0), .second, .val (.long q1), .second, .val (.long q2), .second, .val (.long q3), .second, .val (.long q4), .second, .val (.int p5), .val (.ref b1), .val (.int (3 : Int32)), .val (.ref b37), .val (.int sel), .val (.long vv), .second, .val (.int (2 : Int32))] [(.int (lcmpW (f2 2) vv))])) t
              refine XS.ifNo Xj41.here hx rfl (hb hby at_230) rfl (own_lN_ge hc230_44) ?_
              show Steps p.tables e below (Tj41.setTop (mkF m 233 #[.val (.long q0), .second, .val (.long q1), .second, .val (.long q2), .second, .val (.long q3), .second, .val (.long q4), .second, .val (.int p5), .val (.ref b1), .val (.int (3 : Int32)), .val (.ref b37), .val (.int sel), .val (.long vv), .second, .val (.int (2 : Int32))] [])) t
              refine XS.iinc Xj41.here hx rfl (hb hby at_233) rfl (l' := #[.val (.long q0), .second, .val (.long q1), .second, .val (.long q2), .second, .val (.long q3), .second, .val (.long q4), .second, .val (.int p5), .val (.ref b1), .val (.int (3 : Int32)), .val (.ref b37), .val (.int sel), .val (.long vv), .second, .val (.int (3 : Int32))]) rfl ?_
              show Steps p.tables e below (Tj41.setTop (mkF m 236 #[.val (.long q0), .second, .val (.long q1), .second, .val (.long q2), .second, .val (.long q3), .second, .val (.long q4), .second, .val (.int p5), .val (.ref b1), .val (.int (3 : Int32)), .val (.ref b37), .val (.int sel), .val (.long vv), .second, .val (.int (3 : Int32))] [])) t
              refine XS.iload Xj41.here hx rfl (hb hby at_236) rfl ?_
              show Steps p.tables e below (Tj41.setTop (mkF m 238 #[.val (.long q0), .second, .val (.long q1), .second, .val (.long q2), .second, .val (.long q3), .second, .val (.long q4), .second, .val (.int p5), .val (.ref b1), .val (.int (3 : Int32)), .val (.ref b37), .val (.int sel), .val (.long vv), .second, .val (.int (3 : Int32))] [(.int (3 : Int32))])) t
              refine XS.iconst Xj41.here hx rfl (hb hby at_238) ?_
              show Steps p.tables e below (Tj41.setTop (mkF m 239 #[.val (.long q0), .second, .val (.long q1), .second, .val (.long q2), .second, .val (.long q3), .second, .val (.long q4), .second, .val (.int p5), .val (.ref b1), .val (.int (3 : Int32)), .val (.ref b37), .val (.int sel), .val (.long vv), .second, .val (.int (3 : Int32))] [(.int (3 : Int32)), (.int (3 : Int32))])) t
              refine XS.icmpYes Xj41.here hx rfl (pc0 := 239) (pc' := 255) rfl (hb hby at_239) rfl (by decide) (by decide) (by decide) ?_
              show Steps p.tables e below (Tj41.setTop (mkF m 255 #[.val (.long q0), .second, .val (.long q1), .second, .val (.long q2), .second, .val (.long q3), .second, .val (.long q4), .second, .val (.int p5), .val (.ref b1), .val (.int (3 : Int32)), .val (.ref b37), .val (.int sel), .val (.long vv), .second, .val (.int (3 : Int32))] [])) t
              refine XS.aload Xj41.here hx rfl (hb hby at_255) rfl rfl ?_
              show Steps p.tables e below (Tj41.setTop (mkF m 257 #[.val (.long q0), .second, .val (.long q1), .second, .val (.long q2), .second, .val (.long q3), .second, .val (.long q4), .second, .val (.int p5), .val (.ref b1), .val (.int (3 : Int32)), .val (.ref b37), .val (.int sel), .val (.long vv), .second, .val (.int (3 : Int32))] [(.ref b37)])) t
              refine XS.lload Xj41.here hx rfl (hb hby at_257) rfl ?_
              show Steps p.tables e below (Tj41.setTop (mkF m 259 #[.val (.long q0), .second, .val (.long q1), .second, .val (.long q2), .second, .val (.long q3), .second, .val (.long q4), .second, .val (.int p5), .val (.ref b1), .val (.int (3 : Int32)), .val (.ref b37), .val (.int sel), .val (.long vv), .second, .val (.int (3 : Int32))] [(.long vv), (.ref b37)])) t
              exact kt
            refine own_callSp Xj41 hx hZ hown ej41 (hw _ (List.mem_of_getElem? (i := 5) rfl)) (hw _ (List.mem_of_getElem? (i := 6) rfl)) (hw _ (List.mem_of_getElem? (i := 7) rfl)) (hw _ (List.mem_of_getElem? (i := 8) rfl)) (by decide) (rm2 l Z aw hw b37 vv 3 f2 (3 : Int32) h40 n0 Z40 B40 (by decide) (by decide) (own_p3 hf0 hf1 hf2 (own_net ht1 ht2 ht3 ht4 ht5))) (g := (mkF m 259 #[.val (.long q0), .second, .val (.long q1), .second, .val (.long q2), .second, .val (.long q3), .second, .val (.long q4), .second, .val (.int p5), .val (.ref b1), .val (.int (3 : Int32)), .val (.ref b37), .val (.int sel), .val (.long vv), .second, .val (.int (3 : Int32))] [(.long vv), (.ref b37)])) rfl (by rw [hml]; rfl) (argsL := [(.ref b37), (.long vv)]) (rest := []) (lenOf pd_1 rfl) rfl rfl (W := 0) (by show 2 * 0 + _ ≤ _; exact Nat.le_of_eq rfl) (hb hby at_259) (by decide) (by decide) (by decide) (by decide) ?_
            intro T45 X45 e45
            refine own_go (T' := T45) (f' := (mkF m 272 #[.val (.long q0), .second, .val (.long q1), .second, .val (.long q2), .second, .val (.long q3), .second, .val (.long q4), .second, .val (.int p5), .val (.ref b1), .val (.int (3 : Int32)), .val (.ref b37), .val (.int sel), .val (.long vv), .second, .val (.int (3 : Int32))] [(.int (1 : Int32))])) (fun t kt => ?_) ?_
            · show Steps p.tables e below (T45.setTop (mkF m 262 #[.val (.long q0), .second, .val (.long q1), .second, .val (.long q2), .second, .val (.long q3), .second, .val (.long q4), .second, .val (.int p5), .val (.ref b1), .val (.int (3 : Int32)), .val (.ref b37), .val (.int sel), .val (.long vv), .second, .val (.int (3 : Int32))] [(.int (Int32.ofNat (own_cnt 3 f2 vv)))])) t
              refine XS.iload X45.here hx rfl (hb hby at_262) rfl ?_
              show Steps p.tables e below (T45.setTop (mkF m 264 #[.val (.long q0), .second, .val (.long q1), .second, .val (.long q2), .second, .val (.long q3), .second, .val (.long q4), .second, .val (.int p5), .val (.ref b1), .val (.int (3 : Int32)), .val (.ref b37), .val (.int sel), .val (.long vv), .second, .val (.int (3 : Int32))] [(.int (3 : Int32)), (.int (Int32.ofNat (own_cnt 3 f2 vv)))])) t
              refine XS.icmpNo X45.here hx rfl (hb hby at_264) rfl (teq (show (Int32.ofNat (own_cnt 3 f2 vv)) = (3 : Int32) from by simp only [own_cnt, if_pos hc192_42, if_pos hc211_43, if_pos hc230_44]; rfl)).2 ?_
              show Steps p.tables e below (T45.setTop (mkF m 267 #[.val (.long q0), .second, .val (.long q1), .second, .val (.long q2), .second, .val (.long q3), .second, .val (.long q4), .second, .val (.int p5), .val (.ref b1), .val (.int (3 : Int32)), .val (.ref b37), .val (.int sel), .val (.long vv), .second, .val (.int (3 : Int32))] [])) t
              refine XS.iconst X45.here hx rfl (hb hby at_267) ?_
              show Steps p.tables e below (T45.setTop (mkF m 268 #[.val (.long q0), .second, .val (.long q1), .second, .val (.long q2), .second, .val (.long q3), .second, .val (.long q4), .second, .val (.int p5), .val (.ref b1), .val (.int (3 : Int32)), .val (.ref b37), .val (.int sel), .val (.long vv), .second, .val (.int (3 : Int32))] [(.int (1 : Int32))])) t
              refine XS.goto X45.here hx rfl (pc0 := 268) (pc' := 272) rfl (hb hby at_268) (by decide) (by decide) ?_
              show Steps p.tables e below (T45.setTop (mkF m 272 #[.val (.long q0), .second, .val (.long q1), .second, .val (.long q2), .second, .val (.long q3), .second, .val (.long q4), .second, .val (.int p5), .val (.ref b1), .val (.int (3 : Int32)), .val (.ref b37), .val (.int sel), .val (.long vv), .second, .val (.int (3 : Int32))] [(.int (1 : Int32))])) t
              exact kt
            exact own_retN X45 hP hx hlk e45 (t := .boolean) hret (by simp) (hb hby at_272) (by decide) (by decide) (z' := (1 : Int32)) rfl ⟨rfl, Nj41⟩
          · refine own_go (T' := Tj41) (f' := (mkF m 259 #[.val (.long q0), .second, .val (.long q1), .second, .val (.long q2), .second, .val (.long q3), .second, .val (.long q4), .second, .val (.int p5), .val (.ref b1), .val (.int (3 : Int32)), .val (.ref b37), .val (.int sel), .val (.long vv), .second, .val (.int (2 : Int32))] [(.long vv), (.ref b37)])) (fun t kt => ?_) ?_
            · show Steps p.tables e below (Tj41.setTop (mkF m 230 #[.val (.long q0), .second, .val (.long q1), .second, .val (.long q2), .second, .val (.long q3), .second, .val (.long q4), .second, .val (.int p5), .val (.ref b1), .val (.int (3 : Int32)), .val (.ref b37), .val (.int sel), .val (.long vv), .second, .val (.int (2 : Int32))] [(.int (lcmpW (f2 2) vv))])) t
              refine XS.ifYes Xj41.here hx rfl (pc0 := 230) (pc' := 236) rfl (hb hby at_230) rfl (own_lY_ge hc230_44) (by decide) (by decide) ?_
              show Steps p.tables e below (Tj41.setTop (mkF m 236 #[.val (.long q0), .second, .val (.long q1), .second, .val (.long q2), .second, .val (.long q3), .second, .val (.long q4), .second, .val (.int p5), .val (.ref b1), .val (.int (3 : Int32)), .val (.ref b37), .val (.int sel), .val (.long vv), .second, .val (.int (2 : Int32))] [])) t
              refine XS.iload Xj41.here hx rfl (hb hby at_236) rfl ?_
              show Steps p.tables e below (Tj41.setTop (mkF m 238 #[.val (.long q0), .second, .val (.long q1), .second, .val (.long q2), .second, .val (.long q3), .second, .val (.long q4), .second, .val (.int p5), .val (.ref b1), .val (.int (3 : Int32)), .val (.ref b37), .val (.int sel), .val (.long vv), .second, .val (.int (2 : Int32))] [(.int (3 : Int32))])) t
              refine XS.iconst Xj41.here hx rfl (hb hby at_238) ?_
              show Steps p.tables e below (Tj41.setTop (mkF m 239 #[.val (.long q0), .second, .val (.long q1), .second, .val (.long q2), .second, .val (.long q3), .second, .val (.long q4), .second, .val (.int p5), .val (.ref b1), .val (.int (3 : Int32)), .val (.ref b37), .val (.int sel), .val (.long vv), .second, .val (.int (2 : Int32))] [(.int (3 : Int32)), (.int (3 : Int32))])) t
              refine XS.icmpYes Xj41.here hx rfl (pc0 := 239) (pc' := 255) rfl (hb hby at_239) rfl (by decide) (by decide) (by decide) ?_
              show Steps p.tables e below (Tj41.setTop (mkF m 255 #[.val (.long q0), .second, .val (.long q1), .second, .val (.long q2), .second, .val (.long q3), .second, .val (.long q4), .second, .val (.int p5), .val (.ref b1), .val (.int (3 : Int32)), .val (.ref b37), .val (.int sel), .val (.long vv), .second, .val (.int (2 : Int32))] [])) t
              refine XS.aload Xj41.here hx rfl (hb hby at_255) rfl rfl ?_
              show Steps p.tables e below (Tj41.setTop (mkF m 257 #[.val (.long q0), .second, .val (.long q1), .second, .val (.long q2), .second, .val (.long q3), .second, .val (.long q4), .second, .val (.int p5), .val (.ref b1), .val (.int (3 : Int32)), .val (.ref b37), .val (.int sel), .val (.long vv), .second, .val (.int (2 : Int32))] [(.ref b37)])) t
              refine XS.lload Xj41.here hx rfl (hb hby at_257) rfl ?_
              show Steps p.tables e below (Tj41.setTop (mkF m 259 #[.val (.long q0), .second, .val (.long q1), .second, .val (.long q2), .second, .val (.long q3), .second, .val (.long q4), .second, .val (.int p5), .val (.ref b1), .val (.int (3 : Int32)), .val (.ref b37), .val (.int sel), .val (.long vv), .second, .val (.int (2 : Int32))] [(.long vv), (.ref b37)])) t
              exact kt
            refine own_callSp Xj41 hx hZ hown ej41 (hw _ (List.mem_of_getElem? (i := 5) rfl)) (hw _ (List.mem_of_getElem? (i := 6) rfl)) (hw _ (List.mem_of_getElem? (i := 7) rfl)) (hw _ (List.mem_of_getElem? (i := 8) rfl)) (by decide) (rm2 l Z aw hw b37 vv 3 f2 (3 : Int32) h40 n0 Z40 B40 (by decide) (by decide) (own_p3 hf0 hf1 hf2 (own_net ht1 ht2 ht3 ht4 ht5))) (g := (mkF m 259 #[.val (.long q0), .second, .val (.long q1), .second, .val (.long q2), .second, .val (.long q3), .second, .val (.long q4), .second, .val (.int p5), .val (.ref b1), .val (.int (3 : Int32)), .val (.ref b37), .val (.int sel), .val (.long vv), .second, .val (.int (2 : Int32))] [(.long vv), (.ref b37)])) rfl (by rw [hml]; rfl) (argsL := [(.ref b37), (.long vv)]) (rest := []) (lenOf pd_1 rfl) rfl rfl (W := 0) (by show 2 * 0 + _ ≤ _; exact Nat.le_of_eq rfl) (hb hby at_259) (by decide) (by decide) (by decide) (by decide) ?_
            intro T46 X46 e46
            refine own_go (T' := T46) (f' := (mkF m 272 #[.val (.long q0), .second, .val (.long q1), .second, .val (.long q2), .second, .val (.long q3), .second, .val (.long q4), .second, .val (.int p5), .val (.ref b1), .val (.int (3 : Int32)), .val (.ref b37), .val (.int sel), .val (.long vv), .second, .val (.int (2 : Int32))] [(.int (1 : Int32))])) (fun t kt => ?_) ?_
            · show Steps p.tables e below (T46.setTop (mkF m 262 #[.val (.long q0), .second, .val (.long q1), .second, .val (.long q2), .second, .val (.long q3), .second, .val (.long q4), .second, .val (.int p5), .val (.ref b1), .val (.int (3 : Int32)), .val (.ref b37), .val (.int sel), .val (.long vv), .second, .val (.int (2 : Int32))] [(.int (Int32.ofNat (own_cnt 3 f2 vv)))])) t
              refine XS.iload X46.here hx rfl (hb hby at_262) rfl ?_
              show Steps p.tables e below (T46.setTop (mkF m 264 #[.val (.long q0), .second, .val (.long q1), .second, .val (.long q2), .second, .val (.long q3), .second, .val (.long q4), .second, .val (.int p5), .val (.ref b1), .val (.int (3 : Int32)), .val (.ref b37), .val (.int sel), .val (.long vv), .second, .val (.int (2 : Int32))] [(.int (2 : Int32)), (.int (Int32.ofNat (own_cnt 3 f2 vv)))])) t
              refine XS.icmpNo X46.here hx rfl (hb hby at_264) rfl (teq (show (Int32.ofNat (own_cnt 3 f2 vv)) = (2 : Int32) from by simp only [own_cnt, if_pos hc192_42, if_pos hc211_43, if_neg hc230_44]; rfl)).2 ?_
              show Steps p.tables e below (T46.setTop (mkF m 267 #[.val (.long q0), .second, .val (.long q1), .second, .val (.long q2), .second, .val (.long q3), .second, .val (.long q4), .second, .val (.int p5), .val (.ref b1), .val (.int (3 : Int32)), .val (.ref b37), .val (.int sel), .val (.long vv), .second, .val (.int (2 : Int32))] [])) t
              refine XS.iconst X46.here hx rfl (hb hby at_267) ?_
              show Steps p.tables e below (T46.setTop (mkF m 268 #[.val (.long q0), .second, .val (.long q1), .second, .val (.long q2), .second, .val (.long q3), .second, .val (.long q4), .second, .val (.int p5), .val (.ref b1), .val (.int (3 : Int32)), .val (.ref b37), .val (.int sel), .val (.long vv), .second, .val (.int (2 : Int32))] [(.int (1 : Int32))])) t
              refine XS.goto X46.here hx rfl (pc0 := 268) (pc' := 272) rfl (hb hby at_268) (by decide) (by decide) ?_
              show Steps p.tables e below (T46.setTop (mkF m 272 #[.val (.long q0), .second, .val (.long q1), .second, .val (.long q2), .second, .val (.long q3), .second, .val (.long q4), .second, .val (.int p5), .val (.ref b1), .val (.int (3 : Int32)), .val (.ref b37), .val (.int sel), .val (.long vv), .second, .val (.int (2 : Int32))] [(.int (1 : Int32))])) t
              exact kt
            exact own_retN X46 hP hx hlk e46 (t := .boolean) hret (by simp) (hb hby at_272) (by decide) (by decide) (z' := (1 : Int32)) rfl ⟨rfl, Nj41⟩
        · refine own_go (T' := Tj41) (f' := (mkF m 230 #[.val (.long q0), .second, .val (.long q1), .second, .val (.long q2), .second, .val (.long q3), .second, .val (.long q4), .second, .val (.int p5), .val (.ref b1), .val (.int (3 : Int32)), .val (.ref b37), .val (.int sel), .val (.long vv), .second, .val (.int (1 : Int32))] [(.int (lcmpW (f2 2) vv))])) (fun t kt => ?_) ?_
          · show Steps p.tables e below (Tj41.setTop (mkF m 211 #[.val (.long q0), .second, .val (.long q1), .second, .val (.long q2), .second, .val (.long q3), .second, .val (.long q4), .second, .val (.int p5), .val (.ref b1), .val (.int (3 : Int32)), .val (.ref b37), .val (.int sel), .val (.long vv), .second, .val (.int (1 : Int32))] [(.int (lcmpW (f2 1) vv))])) t
            refine XS.ifYes Xj41.here hx rfl (pc0 := 211) (pc' := 217) rfl (hb hby at_211) rfl (own_lY_ge hc211_43) (by decide) (by decide) ?_
            show Steps p.tables e below (Tj41.setTop (mkF m 217 #[.val (.long q0), .second, .val (.long q1), .second, .val (.long q2), .second, .val (.long q3), .second, .val (.long q4), .second, .val (.int p5), .val (.ref b1), .val (.int (3 : Int32)), .val (.ref b37), .val (.int sel), .val (.long vv), .second, .val (.int (1 : Int32))] [])) t
            refine XS.iload Xj41.here hx rfl (hb hby at_217) rfl ?_
            show Steps p.tables e below (Tj41.setTop (mkF m 219 #[.val (.long q0), .second, .val (.long q1), .second, .val (.long q2), .second, .val (.long q3), .second, .val (.long q4), .second, .val (.int p5), .val (.ref b1), .val (.int (3 : Int32)), .val (.ref b37), .val (.int sel), .val (.long vv), .second, .val (.int (1 : Int32))] [(.int (3 : Int32))])) t
            refine XS.iconst Xj41.here hx rfl (hb hby at_219) ?_
            show Steps p.tables e below (Tj41.setTop (mkF m 220 #[.val (.long q0), .second, .val (.long q1), .second, .val (.long q2), .second, .val (.long q3), .second, .val (.long q4), .second, .val (.int p5), .val (.ref b1), .val (.int (3 : Int32)), .val (.ref b37), .val (.int sel), .val (.long vv), .second, .val (.int (1 : Int32))] [(.int (2 : Int32)), (.int (3 : Int32))])) t
            refine XS.icmpNo Xj41.here hx rfl (hb hby at_220) rfl (by decide) ?_
            show Steps p.tables e below (Tj41.setTop (mkF m 223 #[.val (.long q0), .second, .val (.long q1), .second, .val (.long q2), .second, .val (.long q3), .second, .val (.long q4), .second, .val (.int p5), .val (.ref b1), .val (.int (3 : Int32)), .val (.ref b37), .val (.int sel), .val (.long vv), .second, .val (.int (1 : Int32))] [])) t
            refine XS.aload Xj41.here hx rfl (hb hby at_223) rfl rfl ?_
            show Steps p.tables e below (Tj41.setTop (mkF m 225 #[.val (.long q0), .second, .val (.long q1), .second, .val (.long q2), .second, .val (.long q3), .second, .val (.long q4), .second, .val (.int p5), .val (.ref b1), .val (.int (3 : Int32)), .val (.ref b37), .val (.int sel), .val (.long vv), .second, .val (.int (1 : Int32))] [(.ref b37)])) t
            refine XS.iconst Xj41.here hx rfl (hb hby at_225) ?_
            show Steps p.tables e below (Tj41.setTop (mkF m 226 #[.val (.long q0), .second, .val (.long q1), .second, .val (.long q2), .second, .val (.long q3), .second, .val (.long q4), .second, .val (.int p5), .val (.ref b1), .val (.int (3 : Int32)), .val (.ref b37), .val (.int sel), .val (.long vv), .second, .val (.int (1 : Int32))] [(.int (2 : Int32)), (.ref b37)])) t
            refine own_laload Xj41 hx hZ ej41 B40 (i := 2) (by decide) (by decide) (g := (mkF m 226 #[.val (.long q0), .second, .val (.long q1), .second, .val (.long q2), .second, .val (.long q3), .second, .val (.long q4), .second, .val (.int p5), .val (.ref b1), .val (.int (3 : Int32)), .val (.ref b37), .val (.int sel), .val (.long vv), .second, .val (.int (1 : Int32))] [(.int (2 : Int32)), (.ref b37)])) rfl rfl (hb hby at_226) _ ?_
            show Steps p.tables e below (Tj41.setTop (mkF m 227 #[.val (.long q0), .second, .val (.long q1), .second, .val (.long q2), .second, .val (.long q3), .second, .val (.long q4), .second, .val (.int p5), .val (.ref b1), .val (.int (3 : Int32)), .val (.ref b37), .val (.int sel), .val (.long vv), .second, .val (.int (1 : Int32))] [(.long (f2 2))])) t
            refine XS.lload Xj41.here hx rfl (hb hby at_227) rfl ?_
            show Steps p.tables e below (Tj41.setTop (mkF m 229 #[.val (.long q0), .second, .val (.long q1), .second, .val (.long q2), .second, .val (.long q3), .second, .val (.long q4), .second, .val (.int p5), .val (.ref b1), .val (.int (3 : Int32)), .val (.ref b37), .val (.int sel), .val (.long vv), .second, .val (.int (1 : Int32))] [(.long vv), (.long (f2 2))])) t
            refine XS.lcmp Xj41.here hx rfl (hb hby at_229) rfl ?_
            show Steps p.tables e below (Tj41.setTop (mkF m 230 #[.val (.long q0), .second, .val (.long q1), .second, .val (.long q2), .second, .val (.long q3), .second, .val (.long q4), .second, .val (.int p5), .val (.ref b1), .val (.int (3 : Int32)), .val (.ref b37), .val (.int sel), .val (.long vv), .second, .val (.int (1 : Int32))] [(.int (lcmpW (f2 2) vv))])) t
            exact kt
          by_cases hc230_47 : (f2 2) < vv
          · refine own_go (T' := Tj41) (f' := (mkF m 259 #[.val (.long q0), .second, .val (.long q1), .second, .val (.long q2), .second, .val (.long q3), .second, .val (.long q4), .second, .val (.int p5), .val (.ref b1), .val (.int (3 : Int32)), .val (.ref b37), .val (.int sel), .val (.long vv), .second, .val (.int (2 : Int32))] [(.long vv), (.ref b37)])) (fun t kt => ?_) ?_
            · show Steps p.tables e below (Tj41.setTop (mkF m 230 #[.val (.long q0), .second, .val (.long q1), .second, .val (.long q2), .second, .val (.long q3), .second, .val (.long q4), .second, .val (.int p5), .val (.ref b1), .val (.int (3 : Int32)), .val (.ref b37), .val (.int sel), .val (.long vv), .second, .val (.int (1 : Int32))] [(.int (lcmpW (f2 2) vv))])) t
              refine XS.ifNo Xj41.here hx rfl (hb hby at_230) rfl (own_lN_ge hc230_47) ?_
              show Steps p.tables e below (Tj41.setTop (mkF m 233 #[.val (.long q0), .second, .val (.long q1), .second, .val (.long q2), .second, .val (.long q3), .second, .val (.long q4), .second, .val (.int p5), .val (.ref b1), .val (.int (3 : Int32)), .val (.ref b37), .val (.int sel), .val (.long vv), .second, .val (.int (1 : Int32))] [])) t
              refine XS.iinc Xj41.here hx rfl (hb hby at_233) rfl (l' := #[.val (.long q0), .second, .val (.long q1), .second, .val (.long q2), .second, .val (.long q3), .second, .val (.long q4), .second, .val (.int p5), .val (.ref b1), .val (.int (3 : Int32)), .val (.ref b37), .val (.int sel), .val (.long vv), .second, .val (.int (2 : Int32))]) rfl ?_
              show Steps p.tables e below (Tj41.setTop (mkF m 236 #[.val (.long q0), .second, .val (.long q1), .second, .val (.long q2), .second, .val (.long q3), .second, .val (.long q4), .second, .val (.int p5), .val (.ref b1), .val (.int (3 : Int32)), .val (.ref b37), .val (.int sel), .val (.long vv), .second, .val (.int (2 : Int32))] [])) t
              refine XS.iload Xj41.here hx rfl (hb hby at_236) rfl ?_
              show Steps p.tables e below (Tj41.setTop (mkF m 238 #[.val (.long q0), .second, .val (.long q1), .second, .val (.long q2), .second, .val (.long q3), .second, .val (.long q4), .second, .val (.int p5), .val (.ref b1), .val (.int (3 : Int32)), .val (.ref b37), .val (.int sel), .val (.long vv), .second, .val (.int (2 : Int32))] [(.int (3 : Int32))])) t
              refine XS.iconst Xj41.here hx rfl (hb hby at_238) ?_
              show Steps p.tables e below (Tj41.setTop (mkF m 239 #[.val (.long q0), .second, .val (.long q1), .second, .val (.long q2), .second, .val (.long q3), .second, .val (.long q4), .second, .val (.int p5), .val (.ref b1), .val (.int (3 : Int32)), .val (.ref b37), .val (.int sel), .val (.long vv), .second, .val (.int (2 : Int32))] [(.int (3 : Int32)), (.int (3 : Int32))])) t
              refine XS.icmpYes Xj41.here hx rfl (pc0 := 239) (pc' := 255) rfl (hb hby at_239) rfl (by decide) (by decide) (by decide) ?_
              show Steps p.tables e below (Tj41.setTop (mkF m 255 #[.val (.long q0), .second, .val (.long q1), .second, .val (.long q2), .second, .val (.long q3), .second, .val (.long q4), .second, .val (.int p5), .val (.ref b1), .val (.int (3 : Int32)), .val (.ref b37), .val (.int sel), .val (.long vv), .second, .val (.int (2 : Int32))] [])) t
              refine XS.aload Xj41.here hx rfl (hb hby at_255) rfl rfl ?_
              show Steps p.tables e below (Tj41.setTop (mkF m 257 #[.val (.long q0), .second, .val (.long q1), .second, .val (.long q2), .second, .val (.long q3), .second, .val (.long q4), .second, .val (.int p5), .val (.ref b1), .val (.int (3 : Int32)), .val (.ref b37), .val (.int sel), .val (.long vv), .second, .val (.int (2 : Int32))] [(.ref b37)])) t
              refine XS.lload Xj41.here hx rfl (hb hby at_257) rfl ?_
              show Steps p.tables e below (Tj41.setTop (mkF m 259 #[.val (.long q0), .second, .val (.long q1), .second, .val (.long q2), .second, .val (.long q3), .second, .val (.long q4), .second, .val (.int p5), .val (.ref b1), .val (.int (3 : Int32)), .val (.ref b37), .val (.int sel), .val (.long vv), .second, .val (.int (2 : Int32))] [(.long vv), (.ref b37)])) t
              exact kt
            refine own_callSp Xj41 hx hZ hown ej41 (hw _ (List.mem_of_getElem? (i := 5) rfl)) (hw _ (List.mem_of_getElem? (i := 6) rfl)) (hw _ (List.mem_of_getElem? (i := 7) rfl)) (hw _ (List.mem_of_getElem? (i := 8) rfl)) (by decide) (rm2 l Z aw hw b37 vv 3 f2 (3 : Int32) h40 n0 Z40 B40 (by decide) (by decide) (own_p3 hf0 hf1 hf2 (own_net ht1 ht2 ht3 ht4 ht5))) (g := (mkF m 259 #[.val (.long q0), .second, .val (.long q1), .second, .val (.long q2), .second, .val (.long q3), .second, .val (.long q4), .second, .val (.int p5), .val (.ref b1), .val (.int (3 : Int32)), .val (.ref b37), .val (.int sel), .val (.long vv), .second, .val (.int (2 : Int32))] [(.long vv), (.ref b37)])) rfl (by rw [hml]; rfl) (argsL := [(.ref b37), (.long vv)]) (rest := []) (lenOf pd_1 rfl) rfl rfl (W := 0) (by show 2 * 0 + _ ≤ _; exact Nat.le_of_eq rfl) (hb hby at_259) (by decide) (by decide) (by decide) (by decide) ?_
            intro T48 X48 e48
            refine own_go (T' := T48) (f' := (mkF m 272 #[.val (.long q0), .second, .val (.long q1), .second, .val (.long q2), .second, .val (.long q3), .second, .val (.long q4), .second, .val (.int p5), .val (.ref b1), .val (.int (3 : Int32)), .val (.ref b37), .val (.int sel), .val (.long vv), .second, .val (.int (2 : Int32))] [(.int (1 : Int32))])) (fun t kt => ?_) ?_
            · show Steps p.tables e below (T48.setTop (mkF m 262 #[.val (.long q0), .second, .val (.long q1), .second, .val (.long q2), .second, .val (.long q3), .second, .val (.long q4), .second, .val (.int p5), .val (.ref b1), .val (.int (3 : Int32)), .val (.ref b37), .val (.int sel), .val (.long vv), .second, .val (.int (2 : Int32))] [(.int (Int32.ofNat (own_cnt 3 f2 vv)))])) t
              refine XS.iload X48.here hx rfl (hb hby at_262) rfl ?_
              show Steps p.tables e below (T48.setTop (mkF m 264 #[.val (.long q0), .second, .val (.long q1), .second, .val (.long q2), .second, .val (.long q3), .second, .val (.long q4), .second, .val (.int p5), .val (.ref b1), .val (.int (3 : Int32)), .val (.ref b37), .val (.int sel), .val (.long vv), .second, .val (.int (2 : Int32))] [(.int (2 : Int32)), (.int (Int32.ofNat (own_cnt 3 f2 vv)))])) t
              refine XS.icmpNo X48.here hx rfl (hb hby at_264) rfl (teq (show (Int32.ofNat (own_cnt 3 f2 vv)) = (2 : Int32) from by simp only [own_cnt, if_pos hc192_42, if_neg hc211_43, if_pos hc230_47]; rfl)).2 ?_
              show Steps p.tables e below (T48.setTop (mkF m 267 #[.val (.long q0), .second, .val (.long q1), .second, .val (.long q2), .second, .val (.long q3), .second, .val (.long q4), .second, .val (.int p5), .val (.ref b1), .val (.int (3 : Int32)), .val (.ref b37), .val (.int sel), .val (.long vv), .second, .val (.int (2 : Int32))] [])) t
              refine XS.iconst X48.here hx rfl (hb hby at_267) ?_
              show Steps p.tables e below (T48.setTop (mkF m 268 #[.val (.long q0), .second, .val (.long q1), .second, .val (.long q2), .second, .val (.long q3), .second, .val (.long q4), .second, .val (.int p5), .val (.ref b1), .val (.int (3 : Int32)), .val (.ref b37), .val (.int sel), .val (.long vv), .second, .val (.int (2 : Int32))] [(.int (1 : Int32))])) t
              refine XS.goto X48.here hx rfl (pc0 := 268) (pc' := 272) rfl (hb hby at_268) (by decide) (by decide) ?_
              show Steps p.tables e below (T48.setTop (mkF m 272 #[.val (.long q0), .second, .val (.long q1), .second, .val (.long q2), .second, .val (.long q3), .second, .val (.long q4), .second, .val (.int p5), .val (.ref b1), .val (.int (3 : Int32)), .val (.ref b37), .val (.int sel), .val (.long vv), .second, .val (.int (2 : Int32))] [(.int (1 : Int32))])) t
              exact kt
            exact own_retN X48 hP hx hlk e48 (t := .boolean) hret (by simp) (hb hby at_272) (by decide) (by decide) (z' := (1 : Int32)) rfl ⟨rfl, Nj41⟩
          · refine own_go (T' := Tj41) (f' := (mkF m 259 #[.val (.long q0), .second, .val (.long q1), .second, .val (.long q2), .second, .val (.long q3), .second, .val (.long q4), .second, .val (.int p5), .val (.ref b1), .val (.int (3 : Int32)), .val (.ref b37), .val (.int sel), .val (.long vv), .second, .val (.int (1 : Int32))] [(.long vv), (.ref b37)])) (fun t kt => ?_) ?_
            · show Steps p.tables e below (Tj41.setTop (mkF m 230 #[.val (.long q0), .second, .val (.long q1), .second, .val (.long q2), .second, .val (.long q3), .second, .val (.long q4), .second, .val (.int p5), .val (.ref b1), .val (.int (3 : Int32)), .val (.ref b37), .val (.int sel), .val (.long vv), .second, .val (.int (1 : Int32))] [(.int (lcmpW (f2 2) vv))])) t
              refine XS.ifYes Xj41.here hx rfl (pc0 := 230) (pc' := 236) rfl (hb hby at_230) rfl (own_lY_ge hc230_47) (by decide) (by decide) ?_
              show Steps p.tables e below (Tj41.setTop (mkF m 236 #[.val (.long q0), .second, .val (.long q1), .second, .val (.long q2), .second, .val (.long q3), .second, .val (.long q4), .second, .val (.int p5), .val (.ref b1), .val (.int (3 : Int32)), .val (.ref b37), .val (.int sel), .val (.long vv), .second, .val (.int (1 : Int32))] [])) t
              refine XS.iload Xj41.here hx rfl (hb hby at_236) rfl ?_
              show Steps p.tables e below (Tj41.setTop (mkF m 238 #[.val (.long q0), .second, .val (.long q1), .second, .val (.long q2), .second, .val (.long q3), .second, .val (.long q4), .second, .val (.int p5), .val (.ref b1), .val (.int (3 : Int32)), .val (.ref b37), .val (.int sel), .val (.long vv), .second, .val (.int (1 : Int32))] [(.int (3 : Int32))])) t
              refine XS.iconst Xj41.here hx rfl (hb hby at_238) ?_
              show Steps p.tables e below (Tj41.setTop (mkF m 239 #[.val (.long q0), .second, .val (.long q1), .second, .val (.long q2), .second, .val (.long q3), .second, .val (.long q4), .second, .val (.int p5), .val (.ref b1), .val (.int (3 : Int32)), .val (.ref b37), .val (.int sel), .val (.long vv), .second, .val (.int (1 : Int32))] [(.int (3 : Int32)), (.int (3 : Int32))])) t
              refine XS.icmpYes Xj41.here hx rfl (pc0 := 239) (pc' := 255) rfl (hb hby at_239) rfl (by decide) (by decide) (by decide) ?_
              show Steps p.tables e below (Tj41.setTop (mkF m 255 #[.val (.long q0), .second, .val (.long q1), .second, .val (.long q2), .second, .val (.long q3), .second, .val (.long q4), .second, .val (.int p5), .val (.ref b1), .val (.int (3 : Int32)), .val (.ref b37), .val (.int sel), .val (.long vv), .second, .val (.int (1 : Int32))] [])) t
              refine XS.aload Xj41.here hx rfl (hb hby at_255) rfl rfl ?_
              show Steps p.tables e below (Tj41.setTop (mkF m 257 #[.val (.long q0), .second, .val (.long q1), .second, .val (.long q2), .second, .val (.long q3), .second, .val (.long q4), .second, .val (.int p5), .val (.ref b1), .val (.int (3 : Int32)), .val (.ref b37), .val (.int sel), .val (.long vv), .second, .val (.int (1 : Int32))] [(.ref b37)])) t
              refine XS.lload Xj41.here hx rfl (hb hby at_257) rfl ?_
              show Steps p.tables e below (Tj41.setTop (mkF m 259 #[.val (.long q0), .second, .val (.long q1), .second, .val (.long q2), .second, .val (.long q3), .second, .val (.long q4), .second, .val (.int p5), .val (.ref b1), .val (.int (3 : Int32)), .val (.ref b37), .val (.int sel), .val (.long vv), .second, .val (.int (1 : Int32))] [(.long vv), (.ref b37)])) t
              exact kt
            refine own_callSp Xj41 hx hZ hown ej41 (hw _ (List.mem_of_getElem? (i := 5) rfl)) (hw _ (List.mem_of_getElem? (i := 6) rfl)) (hw _ (List.mem_of_getElem? (i := 7) rfl)) (hw _ (List.mem_of_getElem? (i := 8) rfl)) (by decide) (rm2 l Z aw hw b37 vv 3 f2 (3 : Int32) h40 n0 Z40 B40 (by decide) (by decide) (own_p3 hf0 hf1 hf2 (own_net ht1 ht2 ht3 ht4 ht5))) (g := (mkF m 259 #[.val (.long q0), .second, .val (.long q1), .second, .val (.long q2), .second, .val (.long q3), .second, .val (.long q4), .second, .val (.int p5), .val (.ref b1), .val (.int (3 : Int32)), .val (.ref b37), .val (.int sel), .val (.long vv), .second, .val (.int (1 : Int32))] [(.long vv), (.ref b37)])) rfl (by rw [hml]; rfl) (argsL := [(.ref b37), (.long vv)]) (rest := []) (lenOf pd_1 rfl) rfl rfl (W := 0) (by show 2 * 0 + _ ≤ _; exact Nat.le_of_eq rfl) (hb hby at_259) (by decide) (by decide) (by decide) (by decide) ?_
            intro T49 X49 e49
            refine own_go (T' := T49) (f' := (mkF m 272 #[.val (.long q0), .second, .val (.long q1), .second, .val (.long q2), .second, .val (.long q3), .second, .val (.long q4), .second, .val (.int p5), .val (.ref b1), .val (.int (3 : Int32)), .val (.ref b37), .val (.int sel), .val (.long vv), .second, .val (.int (1 : Int32))] [(.int (1 : Int32))])) (fun t kt => ?_) ?_
            · show Steps p.tables e below (T49.setTop (mkF m 262 #[.val (.long q0), .second, .val (.long q1), .second, .val (.long q2), .second, .val (.long q3), .second, .val (.long q4), .second, .val (.int p5), .val (.ref b1), .val (.int (3 : Int32)), .val (.ref b37), .val (.int sel), .val (.long vv), .second, .val (.int (1 : Int32))] [(.int (Int32.ofNat (own_cnt 3 f2 vv)))])) t
              refine XS.iload X49.here hx rfl (hb hby at_262) rfl ?_
              show Steps p.tables e below (T49.setTop (mkF m 264 #[.val (.long q0), .second, .val (.long q1), .second, .val (.long q2), .second, .val (.long q3), .second, .val (.long q4), .second, .val (.int p5), .val (.ref b1), .val (.int (3 : Int32)), .val (.ref b37), .val (.int sel), .val (.long vv), .second, .val (.int (1 : Int32))] [(.int (1 : Int32)), (.int (Int32.ofNat (own_cnt 3 f2 vv)))])) t
              refine XS.icmpNo X49.here hx rfl (hb hby at_264) rfl (teq (show (Int32.ofNat (own_cnt 3 f2 vv)) = (1 : Int32) from by simp only [own_cnt, if_pos hc192_42, if_neg hc211_43, if_neg hc230_47]; rfl)).2 ?_
              show Steps p.tables e below (T49.setTop (mkF m 267 #[.val (.long q0), .second, .val (.long q1), .second, .val (.long q2), .second, .val (.long q3), .second, .val (.long q4), .second, .val (.int p5), .val (.ref b1), .val (.int (3 : Int32)), .val (.ref b37), .val (.int sel), .val (.long vv), .second, .val (.int (1 : Int32))] [])) t
              refine XS.iconst X49.here hx rfl (hb hby at_267) ?_
              show Steps p.tables e below (T49.setTop (mkF m 268 #[.val (.long q0), .second, .val (.long q1), .second, .val (.long q2), .second, .val (.long q3), .second, .val (.long q4), .second, .val (.int p5), .val (.ref b1), .val (.int (3 : Int32)), .val (.ref b37), .val (.int sel), .val (.long vv), .second, .val (.int (1 : Int32))] [(.int (1 : Int32))])) t
              refine XS.goto X49.here hx rfl (pc0 := 268) (pc' := 272) rfl (hb hby at_268) (by decide) (by decide) ?_
              show Steps p.tables e below (T49.setTop (mkF m 272 #[.val (.long q0), .second, .val (.long q1), .second, .val (.long q2), .second, .val (.long q3), .second, .val (.long q4), .second, .val (.int p5), .val (.ref b1), .val (.int (3 : Int32)), .val (.ref b37), .val (.int sel), .val (.long vv), .second, .val (.int (1 : Int32))] [(.int (1 : Int32))])) t
              exact kt
            exact own_retN X49 hP hx hlk e49 (t := .boolean) hret (by simp) (hb hby at_272) (by decide) (by decide) (z' := (1 : Int32)) rfl ⟨rfl, Nj41⟩
      · refine own_go (T' := Tj41) (f' := (mkF m 211 #[.val (.long q0), .second, .val (.long q1), .second, .val (.long q2), .second, .val (.long q3), .second, .val (.long q4), .second, .val (.int p5), .val (.ref b1), .val (.int (3 : Int32)), .val (.ref b37), .val (.int sel), .val (.long vv), .second, .val (.int (0 : Int32))] [(.int (lcmpW (f2 1) vv))])) (fun t kt => ?_) ?_
        · show Steps p.tables e below (Tj41.setTop (mkF m 192 #[.val (.long q0), .second, .val (.long q1), .second, .val (.long q2), .second, .val (.long q3), .second, .val (.long q4), .second, .val (.int p5), .val (.ref b1), .val (.int (3 : Int32)), .val (.ref b37), .val (.int sel), .val (.long vv), .second, .val (.int (0 : Int32))] [(.int (lcmpW (f2 0) vv))])) t
          refine XS.ifYes Xj41.here hx rfl (pc0 := 192) (pc' := 198) rfl (hb hby at_192) rfl (own_lY_ge hc192_42) (by decide) (by decide) ?_
          show Steps p.tables e below (Tj41.setTop (mkF m 198 #[.val (.long q0), .second, .val (.long q1), .second, .val (.long q2), .second, .val (.long q3), .second, .val (.long q4), .second, .val (.int p5), .val (.ref b1), .val (.int (3 : Int32)), .val (.ref b37), .val (.int sel), .val (.long vv), .second, .val (.int (0 : Int32))] [])) t
          refine XS.iload Xj41.here hx rfl (hb hby at_198) rfl ?_
          show Steps p.tables e below (Tj41.setTop (mkF m 200 #[.val (.long q0), .second, .val (.long q1), .second, .val (.long q2), .second, .val (.long q3), .second, .val (.long q4), .second, .val (.int p5), .val (.ref b1), .val (.int (3 : Int32)), .val (.ref b37), .val (.int sel), .val (.long vv), .second, .val (.int (0 : Int32))] [(.int (3 : Int32))])) t
          refine XS.iconst Xj41.here hx rfl (hb hby at_200) ?_
          show Steps p.tables e below (Tj41.setTop (mkF m 201 #[.val (.long q0), .second, .val (.long q1), .second, .val (.long q2), .second, .val (.long q3), .second, .val (.long q4), .second, .val (.int p5), .val (.ref b1), .val (.int (3 : Int32)), .val (.ref b37), .val (.int sel), .val (.long vv), .second, .val (.int (0 : Int32))] [(.int (1 : Int32)), (.int (3 : Int32))])) t
          refine XS.icmpNo Xj41.here hx rfl (hb hby at_201) rfl (by decide) ?_
          show Steps p.tables e below (Tj41.setTop (mkF m 204 #[.val (.long q0), .second, .val (.long q1), .second, .val (.long q2), .second, .val (.long q3), .second, .val (.long q4), .second, .val (.int p5), .val (.ref b1), .val (.int (3 : Int32)), .val (.ref b37), .val (.int sel), .val (.long vv), .second, .val (.int (0 : Int32))] [])) t
          refine XS.aload Xj41.here hx rfl (hb hby at_204) rfl rfl ?_
          show Steps p.tables e below (Tj41.setTop (mkF m 206 #[.val (.long q0), .second, .val (.long q1), .second, .val (.long q2), .second, .val (.long q3), .second, .val (.long q4), .second, .val (.int p5), .val (.ref b1), .val (.int (3 : Int32)), .val (.ref b37), .val (.int sel), .val (.long vv), .second, .val (.int (0 : Int32))] [(.ref b37)])) t
          refine XS.iconst Xj41.here hx rfl (hb hby at_206) ?_
          show Steps p.tables e below (Tj41.setTop (mkF m 207 #[.val (.long q0), .second, .val (.long q1), .second, .val (.long q2), .second, .val (.long q3), .second, .val (.long q4), .second, .val (.int p5), .val (.ref b1), .val (.int (3 : Int32)), .val (.ref b37), .val (.int sel), .val (.long vv), .second, .val (.int (0 : Int32))] [(.int (1 : Int32)), (.ref b37)])) t
          refine own_laload Xj41 hx hZ ej41 B40 (i := 1) (by decide) (by decide) (g := (mkF m 207 #[.val (.long q0), .second, .val (.long q1), .second, .val (.long q2), .second, .val (.long q3), .second, .val (.long q4), .second, .val (.int p5), .val (.ref b1), .val (.int (3 : Int32)), .val (.ref b37), .val (.int sel), .val (.long vv), .second, .val (.int (0 : Int32))] [(.int (1 : Int32)), (.ref b37)])) rfl rfl (hb hby at_207) _ ?_
          show Steps p.tables e below (Tj41.setTop (mkF m 208 #[.val (.long q0), .second, .val (.long q1), .second, .val (.long q2), .second, .val (.long q3), .second, .val (.long q4), .second, .val (.int p5), .val (.ref b1), .val (.int (3 : Int32)), .val (.ref b37), .val (.int sel), .val (.long vv), .second, .val (.int (0 : Int32))] [(.long (f2 1))])) t
          refine XS.lload Xj41.here hx rfl (hb hby at_208) rfl ?_
          show Steps p.tables e below (Tj41.setTop (mkF m 210 #[.val (.long q0), .second, .val (.long q1), .second, .val (.long q2), .second, .val (.long q3), .second, .val (.long q4), .second, .val (.int p5), .val (.ref b1), .val (.int (3 : Int32)), .val (.ref b37), .val (.int sel), .val (.long vv), .second, .val (.int (0 : Int32))] [(.long vv), (.long (f2 1))])) t
          refine XS.lcmp Xj41.here hx rfl (hb hby at_210) rfl ?_
          show Steps p.tables e below (Tj41.setTop (mkF m 211 #[.val (.long q0), .second, .val (.long q1), .second, .val (.long q2), .second, .val (.long q3), .second, .val (.long q4), .second, .val (.int p5), .val (.ref b1), .val (.int (3 : Int32)), .val (.ref b37), .val (.int sel), .val (.long vv), .second, .val (.int (0 : Int32))] [(.int (lcmpW (f2 1) vv))])) t
          exact kt
        by_cases hc211_50 : (f2 1) < vv
        · refine own_go (T' := Tj41) (f' := (mkF m 230 #[.val (.long q0), .second, .val (.long q1), .second, .val (.long q2), .second, .val (.long q3), .second, .val (.long q4), .second, .val (.int p5), .val (.ref b1), .val (.int (3 : Int32)), .val (.ref b37), .val (.int sel), .val (.long vv), .second, .val (.int (1 : Int32))] [(.int (lcmpW (f2 2) vv))])) (fun t kt => ?_) ?_
          · show Steps p.tables e below (Tj41.setTop (mkF m 211 #[.val (.long q0), .second, .val (.long q1), .second, .val (.long q2), .second, .val (.long q3), .second, .val (.long q4), .second, .val (.int p5), .val (.ref b1), .val (.int (3 : Int32)), .val (.ref b37), .val (.int sel), .val (.long vv), .second, .val (.int (0 : Int32))] [(.int (lcmpW (f2 1) vv))])) t
            refine XS.ifNo Xj41.here hx rfl (hb hby at_211) rfl (own_lN_ge hc211_50) ?_
            show Steps p.tables e below (Tj41.setTop (mkF m 214 #[.val (.long q0), .second, .val (.long q1), .second, .val (.long q2), .second, .val (.long q3), .second, .val (.long q4), .second, .val (.int p5), .val (.ref b1), .val (.int (3 : Int32)), .val (.ref b37), .val (.int sel), .val (.long vv), .second, .val (.int (0 : Int32))] [])) t
            refine XS.iinc Xj41.here hx rfl (hb hby at_214) rfl (l' := #[.val (.long q0), .second, .val (.long q1), .second, .val (.long q2), .second, .val (.long q3), .second, .val (.long q4), .second, .val (.int p5), .val (.ref b1), .val (.int (3 : Int32)), .val (.ref b37), .val (.int sel), .val (.long vv), .second, .val (.int (1 : Int32))]) rfl ?_
            show Steps p.tables e below (Tj41.setTop (mkF m 217 #[.val (.long q0), .second, .val (.long q1), .second, .val (.long q2), .second, .val (.long q3), .second, .val (.long q4), .second, .val (.int p5), .val (.ref b1), .val (.int (3 : Int32)), .val (.ref b37), .val (.int sel), .val (.long vv), .second, .val (.int (1 : Int32))] [])) t
            refine XS.iload Xj41.here hx rfl (hb hby at_217) rfl ?_
            show Steps p.tables e below (Tj41.setTop (mkF m 219 #[.val (.long q0), .second, .val (.long q1), .second, .val (.long q2), .second, .val (.long q3), .second, .val (.long q4), .second, .val (.int p5), .val (.ref b1), .val (.int (3 : Int32)), .val (.ref b37), .val (.int sel), .val (.long vv), .second, .val (.int (1 : Int32))] [(.int (3 : Int32))])) t
            refine XS.iconst Xj41.here hx rfl (hb hby at_219) ?_
            show Steps p.tables e below (Tj41.setTop (mkF m 220 #[.val (.long q0), .second, .val (.long q1), .second, .val (.long q2), .second, .val (.long q3), .second, .val (.long q4), .second, .val (.int p5), .val (.ref b1), .val (.int (3 : Int32)), .val (.ref b37), .val (.int sel), .val (.long vv), .second, .val (.int (1 : Int32))] [(.int (2 : Int32)), (.int (3 : Int32))])) t
            refine XS.icmpNo Xj41.here hx rfl (hb hby at_220) rfl (by decide) ?_
            show Steps p.tables e below (Tj41.setTop (mkF m 223 #[.val (.long q0), .second, .val (.long q1), .second, .val (.long q2), .second, .val (.long q3), .second, .val (.long q4), .second, .val (.int p5), .val (.ref b1), .val (.int (3 : Int32)), .val (.ref b37), .val (.int sel), .val (.long vv), .second, .val (.int (1 : Int32))] [])) t
            refine XS.aload Xj41.here hx rfl (hb hby at_223) rfl rfl ?_
            show Steps p.tables e below (Tj41.setTop (mkF m 225 #[.val (.long q0), .second, .val (.long q1), .second, .val (.long q2), .second, .val (.long q3), .second, .val (.long q4), .second, .val (.int p5), .val (.ref b1), .val (.int (3 : Int32)), .val (.ref b37), .val (.int sel), .val (.long vv), .second, .val (.int (1 : Int32))] [(.ref b37)])) t
            refine XS.iconst Xj41.here hx rfl (hb hby at_225) ?_
            show Steps p.tables e below (Tj41.setTop (mkF m 226 #[.val (.long q0), .second, .val (.long q1), .second, .val (.long q2), .second, .val (.long q3), .second, .val (.long q4), .second, .val (.int p5), .val (.ref b1), .val (.int (3 : Int32)), .val (.ref b37), .val (.int sel), .val (.long vv), .second, .val (.int (1 : Int32))] [(.int (2 : Int32)), (.ref b37)])) t
            refine own_laload Xj41 hx hZ ej41 B40 (i := 2) (by decide) (by decide) (g := (mkF m 226 #[.val (.long q0), .second, .val (.long q1), .second, .val (.long q2), .second, .val (.long q3), .second, .val (.long q4), .second, .val (.int p5), .val (.ref b1), .val (.int (3 : Int32)), .val (.ref b37), .val (.int sel), .val (.long vv), .second, .val (.int (1 : Int32))] [(.int (2 : Int32)), (.ref b37)])) rfl rfl (hb hby at_226) _ ?_
            show Steps p.tables e below (Tj41.setTop (mkF m 227 #[.val (.long q0), .second, .val (.long q1), .second, .val (.long q2), .second, .val (.long q3), .second, .val (.long q4), .second, .val (.int p5), .val (.ref b1), .val (.int (3 : Int32)), .val (.ref b37), .val (.int sel), .val (.long vv), .second, .val (.int (1 : Int32))] [(.long (f2 2))])) t
            refine XS.lload Xj41.here hx rfl (hb hby at_227) rfl ?_
            show Steps p.tables e below (Tj41.setTop (mkF m 229 #[.val (.long q0), .second, .val (.long q1), .second, .val (.long q2), .second, .val (.long q3), .second, .val (.long q4), .second, .val (.int p5), .val (.ref b1), .val (.int (3 : Int32)), .val (.ref b37), .val (.int sel), .val (.long vv), .second, .val (.int (1 : Int32))] [(.long vv), (.long (f2 2))])) t
            refine XS.lcmp Xj41.here hx rfl (hb hby at_229) rfl ?_
            show Steps p.tables e below (Tj41.setTop (mkF m 230 #[.val (.long q0), .second, .val (.long q1), .second, .val (.long q2), .second, .val (.long q3), .second, .val (.long q4), .second, .val (.int p5), .val (.ref b1), .val (.int (3 : Int32)), .val (.ref b37), .val (.int sel), .val (.long vv), .second, .val (.int (1 : Int32))] [(.int (lcmpW (f2 2) vv))])) t
            exact kt
          by_cases hc230_51 : (f2 2) < vv
          · refine own_go (T' := Tj41) (f' := (mkF m 259 #[.val (.long q0), .second, .val (.long q1), .second, .val (.long q2), .second, .val (.long q3), .second, .val (.long q4), .second, .val (.int p5), .val (.ref b1), .val (.int (3 : Int32)), .val (.ref b37), .val (.int sel), .val (.long vv), .second, .val (.int (2 : Int32))] [(.long vv), (.ref b37)])) (fun t kt => ?_) ?_
            · show Steps p.tables e below (Tj41.setTop (mkF m 230 #[.val (.long q0), .second, .val (.long q1), .second, .val (.long q2), .second, .val (.long q3), .second, .val (.long q4), .second, .val (.int p5), .val (.ref b1), .val (.int (3 : Int32)), .val (.ref b37), .val (.int sel), .val (.long vv), .second, .val (.int (1 : Int32))] [(.int (lcmpW (f2 2) vv))])) t
              refine XS.ifNo Xj41.here hx rfl (hb hby at_230) rfl (own_lN_ge hc230_51) ?_
              show Steps p.tables e below (Tj41.setTop (mkF m 233 #[.val (.long q0), .second, .val (.long q1), .second, .val (.long q2), .second, .val (.long q3), .second, .val (.long q4), .second, .val (.int p5), .val (.ref b1), .val (.int (3 : Int32)), .val (.ref b37), .val (.int sel), .val (.long vv), .second, .val (.int (1 : Int32))] [])) t
              refine XS.iinc Xj41.here hx rfl (hb hby at_233) rfl (l' := #[.val (.long q0), .second, .val (.long q1), .second, .val (.long q2), .second, .val (.long q3), .second, .val (.long q4), .second, .val (.int p5), .val (.ref b1), .val (.int (3 : Int32)), .val (.ref b37), .val (.int sel), .val (.long vv), .second, .val (.int (2 : Int32))]) rfl ?_
              show Steps p.tables e below (Tj41.setTop (mkF m 236 #[.val (.long q0), .second, .val (.long q1), .second, .val (.long q2), .second, .val (.long q3), .second, .val (.long q4), .second, .val (.int p5), .val (.ref b1), .val (.int (3 : Int32)), .val (.ref b37), .val (.int sel), .val (.long vv), .second, .val (.int (2 : Int32))] [])) t
              refine XS.iload Xj41.here hx rfl (hb hby at_236) rfl ?_
              show Steps p.tables e below (Tj41.setTop (mkF m 238 #[.val (.long q0), .second, .val (.long q1), .second, .val (.long q2), .second, .val (.long q3), .second, .val (.long q4), .second, .val (.int p5), .val (.ref b1), .val (.int (3 : Int32)), .val (.ref b37), .val (.int sel), .val (.long vv), .second, .val (.int (2 : Int32))] [(.int (3 : Int32))])) t
              refine XS.iconst Xj41.here hx rfl (hb hby at_238) ?_
              show Steps p.tables e below (Tj41.setTop (mkF m 239 #[.val (.long q0), .second, .val (.long q1), .second, .val (.long q2), .second, .val (.long q3), .second, .val (.long q4), .second, .val (.int p5), .val (.ref b1), .val (.int (3 : Int32)), .val (.ref b37), .val (.int sel), .val (.long vv), .second, .val (.int (2 : Int32))] [(.int (3 : Int32)), (.int (3 : Int32))])) t
              refine XS.icmpYes Xj41.here hx rfl (pc0 := 239) (pc' := 255) rfl (hb hby at_239) rfl (by decide) (by decide) (by decide) ?_
              show Steps p.tables e below (Tj41.setTop (mkF m 255 #[.val (.long q0), .second, .val (.long q1), .second, .val (.long q2), .second, .val (.long q3), .second, .val (.long q4), .second, .val (.int p5), .val (.ref b1), .val (.int (3 : Int32)), .val (.ref b37), .val (.int sel), .val (.long vv), .second, .val (.int (2 : Int32))] [])) t
              refine XS.aload Xj41.here hx rfl (hb hby at_255) rfl rfl ?_
              show Steps p.tables e below (Tj41.setTop (mkF m 257 #[.val (.long q0), .second, .val (.long q1), .second, .val (.long q2), .second, .val (.long q3), .second, .val (.long q4), .second, .val (.int p5), .val (.ref b1), .val (.int (3 : Int32)), .val (.ref b37), .val (.int sel), .val (.long vv), .second, .val (.int (2 : Int32))] [(.ref b37)])) t
              refine XS.lload Xj41.here hx rfl (hb hby at_257) rfl ?_
              show Steps p.tables e below (Tj41.setTop (mkF m 259 #[.val (.long q0), .second, .val (.long q1), .second, .val (.long q2), .second, .val (.long q3), .second, .val (.long q4), .second, .val (.int p5), .val (.ref b1), .val (.int (3 : Int32)), .val (.ref b37), .val (.int sel), .val (.long vv), .second, .val (.int (2 : Int32))] [(.long vv), (.ref b37)])) t
              exact kt
            refine own_callSp Xj41 hx hZ hown ej41 (hw _ (List.mem_of_getElem? (i := 5) rfl)) (hw _ (List.mem_of_getElem? (i := 6) rfl)) (hw _ (List.mem_of_getElem? (i := 7) rfl)) (hw _ (List.mem_of_getElem? (i := 8) rfl)) (by decide) (rm2 l Z aw hw b37 vv 3 f2 (3 : Int32) h40 n0 Z40 B40 (by decide) (by decide) (own_p3 hf0 hf1 hf2 (own_net ht1 ht2 ht3 ht4 ht5))) (g := (mkF m 259 #[.val (.long q0), .second, .val (.long q1), .second, .val (.long q2), .second, .val (.long q3), .second, .val (.long q4), .second, .val (.int p5), .val (.ref b1), .val (.int (3 : Int32)), .val (.ref b37), .val (.int sel), .val (.long vv), .second, .val (.int (2 : Int32))] [(.long vv), (.ref b37)])) rfl (by rw [hml]; rfl) (argsL := [(.ref b37), (.long vv)]) (rest := []) (lenOf pd_1 rfl) rfl rfl (W := 0) (by show 2 * 0 + _ ≤ _; exact Nat.le_of_eq rfl) (hb hby at_259) (by decide) (by decide) (by decide) (by decide) ?_
            intro T52 X52 e52
            refine own_go (T' := T52) (f' := (mkF m 272 #[.val (.long q0), .second, .val (.long q1), .second, .val (.long q2), .second, .val (.long q3), .second, .val (.long q4), .second, .val (.int p5), .val (.ref b1), .val (.int (3 : Int32)), .val (.ref b37), .val (.int sel), .val (.long vv), .second, .val (.int (2 : Int32))] [(.int (1 : Int32))])) (fun t kt => ?_) ?_
            · show Steps p.tables e below (T52.setTop (mkF m 262 #[.val (.long q0), .second, .val (.long q1), .second, .val (.long q2), .second, .val (.long q3), .second, .val (.long q4), .second, .val (.int p5), .val (.ref b1), .val (.int (3 : Int32)), .val (.ref b37), .val (.int sel), .val (.long vv), .second, .val (.int (2 : Int32))] [(.int (Int32.ofNat (own_cnt 3 f2 vv)))])) t
              refine XS.iload X52.here hx rfl (hb hby at_262) rfl ?_
              show Steps p.tables e below (T52.setTop (mkF m 264 #[.val (.long q0), .second, .val (.long q1), .second, .val (.long q2), .second, .val (.long q3), .second, .val (.long q4), .second, .val (.int p5), .val (.ref b1), .val (.int (3 : Int32)), .val (.ref b37), .val (.int sel), .val (.long vv), .second, .val (.int (2 : Int32))] [(.int (2 : Int32)), (.int (Int32.ofNat (own_cnt 3 f2 vv)))])) t
              refine XS.icmpNo X52.here hx rfl (hb hby at_264) rfl (teq (show (Int32.ofNat (own_cnt 3 f2 vv)) = (2 : Int32) from by simp only [own_cnt, if_neg hc192_42, if_pos hc211_50, if_pos hc230_51]; rfl)).2 ?_
              show Steps p.tables e below (T52.setTop (mkF m 267 #[.val (.long q0), .second, .val (.long q1), .second, .val (.long q2), .second, .val (.long q3), .second, .val (.long q4), .second, .val (.int p5), .val (.ref b1), .val (.int (3 : Int32)), .val (.ref b37), .val (.int sel), .val (.long vv), .second, .val (.int (2 : Int32))] [])) t
              refine XS.iconst X52.here hx rfl (hb hby at_267) ?_
              show Steps p.tables e below (T52.setTop (mkF m 268 #[.val (.long q0), .second, .val (.long q1), .second, .val (.long q2), .second, .val (.long q3), .second, .val (.long q4), .second, .val (.int p5), .val (.ref b1), .val (.int (3 : Int32)), .val (.ref b37), .val (.int sel), .val (.long vv), .second, .val (.int (2 : Int32))] [(.int (1 : Int32))])) t
              refine XS.goto X52.here hx rfl (pc0 := 268) (pc' := 272) rfl (hb hby at_268) (by decide) (by decide) ?_
              show Steps p.tables e below (T52.setTop (mkF m 272 #[.val (.long q0), .second, .val (.long q1), .second, .val (.long q2), .second, .val (.long q3), .second, .val (.long q4), .second, .val (.int p5), .val (.ref b1), .val (.int (3 : Int32)), .val (.ref b37), .val (.int sel), .val (.long vv), .second, .val (.int (2 : Int32))] [(.int (1 : Int32))])) t
              exact kt
            exact own_retN X52 hP hx hlk e52 (t := .boolean) hret (by simp) (hb hby at_272) (by decide) (by decide) (z' := (1 : Int32)) rfl ⟨rfl, Nj41⟩
          · refine own_go (T' := Tj41) (f' := (mkF m 259 #[.val (.long q0), .second, .val (.long q1), .second, .val (.long q2), .second, .val (.long q3), .second, .val (.long q4), .second, .val (.int p5), .val (.ref b1), .val (.int (3 : Int32)), .val (.ref b37), .val (.int sel), .val (.long vv), .second, .val (.int (1 : Int32))] [(.long vv), (.ref b37)])) (fun t kt => ?_) ?_
            · show Steps p.tables e below (Tj41.setTop (mkF m 230 #[.val (.long q0), .second, .val (.long q1), .second, .val (.long q2), .second, .val (.long q3), .second, .val (.long q4), .second, .val (.int p5), .val (.ref b1), .val (.int (3 : Int32)), .val (.ref b37), .val (.int sel), .val (.long vv), .second, .val (.int (1 : Int32))] [(.int (lcmpW (f2 2) vv))])) t
              refine XS.ifYes Xj41.here hx rfl (pc0 := 230) (pc' := 236) rfl (hb hby at_230) rfl (own_lY_ge hc230_51) (by decide) (by decide) ?_
              show Steps p.tables e below (Tj41.setTop (mkF m 236 #[.val (.long q0), .second, .val (.long q1), .second, .val (.long q2), .second, .val (.long q3), .second, .val (.long q4), .second, .val (.int p5), .val (.ref b1), .val (.int (3 : Int32)), .val (.ref b37), .val (.int sel), .val (.long vv), .second, .val (.int (1 : Int32))] [])) t
              refine XS.iload Xj41.here hx rfl (hb hby at_236) rfl ?_
              show Steps p.tables e below (Tj41.setTop (mkF m 238 #[.val (.long q0), .second, .val (.long q1), .second, .val (.long q2), .second, .val (.long q3), .second, .val (.long q4), .second, .val (.int p5), .val (.ref b1), .val (.int (3 : Int32)), .val (.ref b37), .val (.int sel), .val (.long vv), .second, .val (.int (1 : Int32))] [(.int (3 : Int32))])) t
              refine XS.iconst Xj41.here hx rfl (hb hby at_238) ?_
              show Steps p.tables e below (Tj41.setTop (mkF m 239 #[.val (.long q0), .second, .val (.long q1), .second, .val (.long q2), .second, .val (.long q3), .second, .val (.long q4), .second, .val (.int p5), .val (.ref b1), .val (.int (3 : Int32)), .val (.ref b37), .val (.int sel), .val (.long vv), .second, .val (.int (1 : Int32))] [(.int (3 : Int32)), (.int (3 : Int32))])) t
              refine XS.icmpYes Xj41.here hx rfl (pc0 := 239) (pc' := 255) rfl (hb hby at_239) rfl (by decide) (by decide) (by decide) ?_
              show Steps p.tables e below (Tj41.setTop (mkF m 255 #[.val (.long q0), .second, .val (.long q1), .second, .val (.long q2), .second, .val (.long q3), .second, .val (.long q4), .second, .val (.int p5), .val (.ref b1), .val (.int (3 : Int32)), .val (.ref b37), .val (.int sel), .val (.long vv), .second, .val (.int (1 : Int32))] [])) t
              refine XS.aload Xj41.here hx rfl (hb hby at_255) rfl rfl ?_
              show Steps p.tables e below (Tj41.setTop (mkF m 257 #[.val (.long q0), .second, .val (.long q1), .second, .val (.long q2), .second, .val (.long q3), .second, .val (.long q4), .second, .val (.int p5), .val (.ref b1), .val (.int (3 : Int32)), .val (.ref b37), .val (.int sel), .val (.long vv), .second, .val (.int (1 : Int32))] [(.ref b37)])) t
              refine XS.lload Xj41.here hx rfl (hb hby at_257) rfl ?_
              show Steps p.tables e below (Tj41.setTop (mkF m 259 #[.val (.long q0), .second, .val (.long q1), .second, .val (.long q2), .second, .val (.long q3), .second, .val (.long q4), .second, .val (.int p5), .val (.ref b1), .val (.int (3 : Int32)), .val (.ref b37), .val (.int sel), .val (.long vv), .second, .val (.int (1 : Int32))] [(.long vv), (.ref b37)])) t
              exact kt
            refine own_callSp Xj41 hx hZ hown ej41 (hw _ (List.mem_of_getElem? (i := 5) rfl)) (hw _ (List.mem_of_getElem? (i := 6) rfl)) (hw _ (List.mem_of_getElem? (i := 7) rfl)) (hw _ (List.mem_of_getElem? (i := 8) rfl)) (by decide) (rm2 l Z aw hw b37 vv 3 f2 (3 : Int32) h40 n0 Z40 B40 (by decide) (by decide) (own_p3 hf0 hf1 hf2 (own_net ht1 ht2 ht3 ht4 ht5))) (g := (mkF m 259 #[.val (.long q0), .second, .val (.long q1), .second, .val (.long q2), .second, .val (.long q3), .second, .val (.long q4), .second, .val (.int p5), .val (.ref b1), .val (.int (3 : Int32)), .val (.ref b37), .val (.int sel), .val (.long vv), .second, .val (.int (1 : Int32))] [(.long vv), (.ref b37)])) rfl (by rw [hml]; rfl) (argsL := [(.ref b37), (.long vv)]) (rest := []) (lenOf pd_1 rfl) rfl rfl (W := 0) (by show 2 * 0 + _ ≤ _; exact Nat.le_of_eq rfl) (hb hby at_259) (by decide) (by decide) (by decide) (by decide) ?_
            intro T53 X53 e53
            refine own_go (T' := T53) (f' := (mkF m 272 #[.val (.long q0), .second, .val (.long q1), .second, .val (.long q2), .second, .val (.long q3), .second, .val (.long q4), .second, .val (.int p5), .val (.ref b1), .val (.int (3 : Int32)), .val (.ref b37), .val (.int sel), .val (.long vv), .second, .val (.int (1 : Int32))] [(.int (1 : Int32))])) (fun t kt => ?_) ?_
            · show Steps p.tables e below (T53.setTop (mkF m 262 #[.val (.long q0), .second, .val (.long q1), .second, .val (.long q2), .second, .val (.long q3), .second, .val (.long q4), .second, .val (.int p5), .val (.ref b1), .val (.int (3 : Int32)), .val (.ref b37), .val (.int sel), .val (.long vv), .second, .val (.int (1 : Int32))] [(.int (Int32.ofNat (own_cnt 3 f2 vv)))])) t
              refine XS.iload X53.here hx rfl (hb hby at_262) rfl ?_
              show Steps p.tables e below (T53.setTop (mkF m 264 #[.val (.long q0), .second, .val (.long q1), .second, .val (.long q2), .second, .val (.long q3), .second, .val (.long q4), .second, .val (.int p5), .val (.ref b1), .val (.int (3 : Int32)), .val (.ref b37), .val (.int sel), .val (.long vv), .second, .val (.int (1 : Int32))] [(.int (1 : Int32)), (.int (Int32.ofNat (own_cnt 3 f2 vv)))])) t
              refine XS.icmpNo X53.here hx rfl (hb hby at_264) rfl (teq (show (Int32.ofNat (own_cnt 3 f2 vv)) = (1 : Int32) from by simp only [own_cnt, if_neg hc192_42, if_pos hc211_50, if_neg hc230_51]; rfl)).2 ?_
              show Steps p.tables e below (T53.setTop (mkF m 267 #[.val (.long q0), .second, .val (.long q1), .second, .val (.long q2), .second, .val (.long q3), .second, .val (.long q4), .second, .val (.int p5), .val (.ref b1), .val (.int (3 : Int32)), .val (.ref b37), .val (.int sel), .val (.long vv), .second, .val (.int (1 : Int32))] [])) t
              refine XS.iconst X53.here hx rfl (hb hby at_267) ?_
              show Steps p.tables e below (T53.setTop (mkF m 268 #[.val (.long q0), .second, .val (.long q1), .second, .val (.long q2), .second, .val (.long q3), .second, .val (.long q4), .second, .val (.int p5), .val (.ref b1), .val (.int (3 : Int32)), .val (.ref b37), .val (.int sel), .val (.long vv), .second, .val (.int (1 : Int32))] [(.int (1 : Int32))])) t
              refine XS.goto X53.here hx rfl (pc0 := 268) (pc' := 272) rfl (hb hby at_268) (by decide) (by decide) ?_
              show Steps p.tables e below (T53.setTop (mkF m 272 #[.val (.long q0), .second, .val (.long q1), .second, .val (.long q2), .second, .val (.long q3), .second, .val (.long q4), .second, .val (.int p5), .val (.ref b1), .val (.int (3 : Int32)), .val (.ref b37), .val (.int sel), .val (.long vv), .second, .val (.int (1 : Int32))] [(.int (1 : Int32))])) t
              exact kt
            exact own_retN X53 hP hx hlk e53 (t := .boolean) hret (by simp) (hb hby at_272) (by decide) (by decide) (z' := (1 : Int32)) rfl ⟨rfl, Nj41⟩
        · refine own_go (T' := Tj41) (f' := (mkF m 230 #[.val (.long q0), .second, .val (.long q1), .second, .val (.long q2), .second, .val (.long q3), .second, .val (.long q4), .second, .val (.int p5), .val (.ref b1), .val (.int (3 : Int32)), .val (.ref b37), .val (.int sel), .val (.long vv), .second, .val (.int (0 : Int32))] [(.int (lcmpW (f2 2) vv))])) (fun t kt => ?_) ?_
          · show Steps p.tables e below (Tj41.setTop (mkF m 211 #[.val (.long q0), .second, .val (.long q1), .second, .val (.long q2), .second, .val (.long q3), .second, .val (.long q4), .second, .val (.int p5), .val (.ref b1), .val (.int (3 : Int32)), .val (.ref b37), .val (.int sel), .val (.long vv), .second, .val (.int (0 : Int32))] [(.int (lcmpW (f2 1) vv))])) t
            refine XS.ifYes Xj41.here hx rfl (pc0 := 211) (pc' := 217) rfl (hb hby at_211) rfl (own_lY_ge hc211_50) (by decide) (by decide) ?_
            show Steps p.tables e below (Tj41.setTop (mkF m 217 #[.val (.long q0), .second, .val (.long q1), .second, .val (.long q2), .second, .val (.long q3), .second, .val (.long q4), .second, .val (.int p5), .val (.ref b1), .val (.int (3 : Int32)), .val (.ref b37), .val (.int sel), .val (.long vv), .second, .val (.int (0 : Int32))] [])) t
            refine XS.iload Xj41.here hx rfl (hb hby at_217) rfl ?_
            show Steps p.tables e below (Tj41.setTop (mkF m 219 #[.val (.long q0), .second, .val (.long q1), .second, .val (.long q2), .second, .val (.long q3), .second, .val (.long q4), .second, .val (.int p5), .val (.ref b1), .val (.int (3 : Int32)), .val (.ref b37), .val (.int sel), .val (.long vv), .second, .val (.int (0 : Int32))] [(.int (3 : Int32))])) t
            refine XS.iconst Xj41.here hx rfl (hb hby at_219) ?_
            show Steps p.tables e below (Tj41.setTop (mkF m 220 #[.val (.long q0), .second, .val (.long q1), .second, .val (.long q2), .second, .val (.long q3), .second, .val (.long q4), .second, .val (.int p5), .val (.ref b1), .val (.int (3 : Int32)), .val (.ref b37), .val (.int sel), .val (.long vv), .second, .val (.int (0 : Int32))] [(.int (2 : Int32)), (.int (3 : Int32))])) t
            refine XS.icmpNo Xj41.here hx rfl (hb hby at_220) rfl (by decide) ?_
            show Steps p.tables e below (Tj41.setTop (mkF m 223 #[.val (.long q0), .second, .val (.long q1), .second, .val (.long q2), .second, .val (.long q3), .second, .val (.long q4), .second, .val (.int p5), .val (.ref b1), .val (.int (3 : Int32)), .val (.ref b37), .val (.int sel), .val (.long vv), .second, .val (.int (0 : Int32))] [])) t
            refine XS.aload Xj41.here hx rfl (hb hby at_223) rfl rfl ?_
            show Steps p.tables e below (Tj41.setTop (mkF m 225 #[.val (.long q0), .second, .val (.long q1), .second, .val (.long q2), .second, .val (.long q3), .second, .val (.long q4), .second, .val (.int p5), .val (.ref b1), .val (.int (3 : Int32)), .val (.ref b37), .val (.int sel), .val (.long vv), .second, .val (.int (0 : Int32))] [(.ref b37)])) t
            refine XS.iconst Xj41.here hx rfl (hb hby at_225) ?_
            show Steps p.tables e below (Tj41.setTop (mkF m 226 #[.val (.long q0), .second, .val (.long q1), .second, .val (.long q2), .second, .val (.long q3), .second, .val (.long q4), .second, .val (.int p5), .val (.ref b1), .val (.int (3 : Int32)), .val (.ref b37), .val (.int sel), .val (.long vv), .second, .val (.int (0 : Int32))] [(.int (2 : Int32)), (.ref b37)])) t
            refine own_laload Xj41 hx hZ ej41 B40 (i := 2) (by decide) (by decide) (g := (mkF m 226 #[.val (.long q0), .second, .val (.long q1), .second, .val (.long q2), .second, .val (.long q3), .second, .val (.long q4), .second, .val (.int p5), .val (.ref b1), .val (.int (3 : Int32)), .val (.ref b37), .val (.int sel), .val (.long vv), .second, .val (.int (0 : Int32))] [(.int (2 : Int32)), (.ref b37)])) rfl rfl (hb hby at_226) _ ?_
            show Steps p.tables e below (Tj41.setTop (mkF m 227 #[.val (.long q0), .second, .val (.long q1), .second, .val (.long q2), .second, .val (.long q3), .second, .val (.long q4), .second, .val (.int p5), .val (.ref b1), .val (.int (3 : Int32)), .val (.ref b37), .val (.int sel), .val (.long vv), .second, .val (.int (0 : Int32))] [(.long (f2 2))])) t
            refine XS.lload Xj41.here hx rfl (hb hby at_227) rfl ?_
            show Steps p.tables e below (Tj41.setTop (mkF m 229 #[.val (.long q0), .second, .val (.long q1), .second, .val (.long q2), .second, .val (.long q3), .second, .val (.long q4), .second, .val (.int p5), .val (.ref b1), .val (.int (3 : Int32)), .val (.ref b37), .val (.int sel), .val (.long vv), .second, .val (.int (0 : Int32))] [(.long vv), (.long (f2 2))])) t
            refine XS.lcmp Xj41.here hx rfl (hb hby at_229) rfl ?_
            show Steps p.tables e below (Tj41.setTop (mkF m 230 #[.val (.long q0), .second, .val (.long q1), .second, .val (.long q2), .second, .val (.long q3), .second, .val (.long q4), .second, .val (.int p5), .val (.ref b1), .val (.int (3 : Int32)), .val (.ref b37), .val (.int sel), .val (.long vv), .second, .val (.int (0 : Int32))] [(.int (lcmpW (f2 2) vv))])) t
            exact kt
          by_cases hc230_54 : (f2 2) < vv
          · refine own_go (T' := Tj41) (f' := (mkF m 259 #[.val (.long q0), .second, .val (.long q1), .second, .val (.long q2), .second, .val (.long q3), .second, .val (.long q4), .second, .val (.int p5), .val (.ref b1), .val (.int (3 : Int32)), .val (.ref b37), .val (.int sel), .val (.long vv), .second, .val (.int (1 : Int32))] [(.long vv), (.ref b37)])) (fun t kt => ?_) ?_
            · show Steps p.tables e below (Tj41.setTop (mkF m 230 #[.val (.long q0), .second, .val (.long q1), .second, .val (.long q2), .second, .val (.long q3), .second, .val (.long q4), .second, .val (.int p5), .val (.ref b1), .val (.int (3 : Int32)), .val (.ref b37), .val (.int sel), .val (.long vv), .second, .val (.int (0 : Int32))] [(.int (lcmpW (f2 2) vv))])) t
              refine XS.ifNo Xj41.here hx rfl (hb hby at_230) rfl (own_lN_ge hc230_54) ?_
              show Steps p.tables e below (Tj41.setTop (mkF m 233 #[.val (.long q0), .second, .val (.long q1), .second, .val (.long q2), .second, .val (.long q3), .second, .val (.long q4), .second, .val (.int p5), .val (.ref b1), .val (.int (3 : Int32)), .val (.ref b37), .val (.int sel), .val (.long vv), .second, .val (.int (0 : Int32))] [])) t
              refine XS.iinc Xj41.here hx rfl (hb hby at_233) rfl (l' := #[.val (.long q0), .second, .val (.long q1), .second, .val (.long q2), .second, .val (.long q3), .second, .val (.long q4), .second, .val (.int p5), .val (.ref b1), .val (.int (3 : Int32)), .val (.ref b37), .val (.int sel), .val (.long vv), .second, .val (.int (1 : Int32))]) rfl ?_
              show Steps p.tables e below (Tj41.setTop (mkF m 236 #[.val (.long q0), .second, .val (.long q1), .second, .val (.long q2), .second, .val (.long q3), .second, .val (.long q4), .second, .val (.int p5), .val (.ref b1), .val (.int (3 : Int32)), .val (.ref b37), .val (.int sel), .val (.long vv), .second, .val (.int (1 : Int32))] [])) t
              refine XS.iload Xj41.here hx rfl (hb hby at_236) rfl ?_
              show Steps p.tables e below (Tj41.setTop (mkF m 238 #[.val (.long q0), .second, .val (.long q1), .second, .val (.long q2), .second, .val (.long q3), .second, .val (.long q4), .second, .val (.int p5), .val (.ref b1), .val (.int (3 : Int32)), .val (.ref b37), .val (.int sel), .val (.long vv), .second, .val (.int (1 : Int32))] [(.int (3 : Int32))])) t
              refine XS.iconst Xj41.here hx rfl (hb hby at_238) ?_
              show Steps p.tables e below (Tj41.setTop (mkF m 239 #[.val (.long q0), .second, .val (.long q1), .second, .val (.long q2), .second, .val (.long q3), .second, .val (.long q4), .second, .val (.int p5), .val (.ref b1), .val (.int (3 : Int32)), .val (.ref b37), .val (.int sel), .val (.long vv), .second, .val (.int (1 : Int32))] [(.int (3 : Int32)), (.int (3 : Int32))])) t
              refine XS.icmpYes Xj41.here hx rfl (pc0 := 239) (pc' := 255) rfl (hb hby at_239) rfl (by decide) (by decide) (by decide) ?_
              show Steps p.tables e below (Tj41.setTop (mkF m 255 #[.val (.long q0), .second, .val (.long q1), .second, .val (.long q2), .second, .val (.long q3), .second, .val (.long q4), .second, .val (.int p5), .val (.ref b1), .val (.int (3 : Int32)), .val (.ref b37), .val (.int sel), .val (.long vv), .second, .val (.int (1 : Int32))] [])) t
              refine XS.aload Xj41.here hx rfl (hb hby at_255) rfl rfl ?_
              show Steps p.tables e below (Tj41.setTop (mkF m 257 #[.val (.long q0), .second, .val (.long q1), .second, .val (.long q2), .second, .val (.long q3), .second, .val (.long q4), .second, .val (.int p5), .val (.ref b1), .val (.int (3 : Int32)), .val (.ref b37), .val (.int sel), .val (.long vv), .second, .val (.int (1 : Int32))] [(.ref b37)])) t
              refine XS.lload Xj41.here hx rfl (hb hby at_257) rfl ?_
              show Steps p.tables e below (Tj41.setTop (mkF m 259 #[.val (.long q0), .second, .val (.long q1), .second, .val (.long q2), .second, .val (.long q3), .second, .val (.long q4), .second, .val (.int p5), .val (.ref b1), .val (.int (3 : Int32)), .val (.ref b37), .val (.int sel), .val (.long vv), .second, .val (.int (1 : Int32))] [(.long vv), (.ref b37)])) t
              exact kt
            refine own_callSp Xj41 hx hZ hown ej41 (hw _ (List.mem_of_getElem? (i := 5) rfl)) (hw _ (List.mem_of_getElem? (i := 6) rfl)) (hw _ (List.mem_of_getElem? (i := 7) rfl)) (hw _ (List.mem_of_getElem? (i := 8) rfl)) (by decide) (rm2 l Z aw hw b37 vv 3 f2 (3 : Int32) h40 n0 Z40 B40 (by decide) (by decide) (own_p3 hf0 hf1 hf2 (own_net ht1 ht2 ht3 ht4 ht5))) (g := (mkF m 259 #[.val (.long q0), .second, .val (.long q1), .second, .val (.long q2), .second, .val (.long q3), .second, .val (.long q4), .second, .val (.int p5), .val (.ref b1), .val (.int (3 : Int32)), .val (.ref b37), .val (.int sel), .val (.long vv), .second, .val (.int (1 : Int32))] [(.long vv), (.ref b37)])) rfl (by rw [hml]; rfl) (argsL := [(.ref b37), (.long vv)]) (rest := []) (lenOf pd_1 rfl) rfl rfl (W := 0) (by show 2 * 0 + _ ≤ _; exact Nat.le_of_eq rfl) (hb hby at_259) (by decide) (by decide) (by decide) (by decide) ?_
            intro T55 X55 e55
            refine own_go (T' := T55) (f' := (mkF m 272 #[.val (.long q0), .second, .val (.long q1), .second, .val (.long q2), .second, .val (.long q3), .second, .val (.long q4), .second, .val (.int p5), .val (.ref b1), .val (.int (3 : Int32)), .val (.ref b37), .val (.int sel), .val (.long vv), .second, .val (.int (1 : Int32))] [(.int (1 : Int32))])) (fun t kt => ?_) ?_
            · show Steps p.tables e below (T55.setTop (mkF m 262 #[.val (.long q0), .second, .val (.long q1), .second, .val (.long q2), .second, .val (.long q3), .second, .val (.long q4), .second, .val (.int p5), .val (.ref b1), .val (.int (3 : Int32)), .val (.ref b37), .val (.int sel), .val (.long vv), .second, .val (.int (1 : Int32))] [(.int (Int32.ofNat (own_cnt 3 f2 vv)))])) t
              refine XS.iload X55.here hx rfl (hb hby at_262) rfl ?_
              show Steps p.tables e below (T55.setTop (mkF m 264 #[.val (.long q0), .second, .val (.long q1), .second, .val (.long q2), .second, .val (.long q3), .second, .val (.long q4), .second, .val (.int p5), .val (.ref b1), .val (.int (3 : Int32)), .val (.ref b37), .val (.int sel), .val (.long vv), .second, .val (.int (1 : Int32))] [(.int (1 : Int32)), (.int (Int32.ofNat (own_cnt 3 f2 vv)))])) t
              refine XS.icmpNo X55.here hx rfl (hb hby at_264) rfl (teq (show (Int32.ofNat (own_cnt 3 f2 vv)) = (1 : Int32) from by simp only [own_cnt, if_neg hc192_42, if_neg hc211_50, if_pos hc230_54]; rfl)).2 ?_
              show Steps p.tables e below (T55.setTop (mkF m 267 #[.val (.long q0), .second, .val (.long q1), .second, .val (.long q2), .second, .val (.long q3), .second, .val (.long q4), .second, .val (.int p5), .val (.ref b1), .val (.int (3 : Int32)), .val (.ref b37), .val (.int sel), .val (.long vv), .second, .val (.int (1 : Int32))] [])) t
              refine XS.iconst X55.here hx rfl (hb hby at_267) ?_
              show Steps p.tables e below (T55.setTop (mkF m 268 #[.val (.long q0), .second, .val (.long q1), .second, .val (.long q2), .second, .val (.long q3), .second, .val (.long q4), .second, .val (.int p5), .val (.ref b1), .val (.int (3 : Int32)), .val (.ref b37), .val (.int sel), .val (.long vv), .second, .val (.int (1 : Int32))] [(.int (1 : Int32))])) t
              refine XS.goto X55.here hx rfl (pc0 := 268) (pc' := 272) rfl (hb hby at_268) (by decide) (by decide) ?_
              show Steps p.tables e below (T55.setTop (mkF m 272 #[.val (.long q0), .second, .val (.long q1), .second, .val (.long q2), .second, .val (.long q3), .second, .val (.long q4), .second, .val (.int p5), .val (.ref b1), .val (.int (3 : Int32)), .val (.ref b37), .val (.int sel), .val (.long vv), .second, .val (.int (1 : Int32))] [(.int (1 : Int32))])) t
              exact kt
            exact own_retN X55 hP hx hlk e55 (t := .boolean) hret (by simp) (hb hby at_272) (by decide) (by decide) (z' := (1 : Int32)) rfl ⟨rfl, Nj41⟩
          · refine own_go (T' := Tj41) (f' := (mkF m 259 #[.val (.long q0), .second, .val (.long q1), .second, .val (.long q2), .second, .val (.long q3), .second, .val (.long q4), .second, .val (.int p5), .val (.ref b1), .val (.int (3 : Int32)), .val (.ref b37), .val (.int sel), .val (.long vv), .second, .val (.int (0 : Int32))] [(.long vv), (.ref b37)])) (fun t kt => ?_) ?_
            · show Steps p.tables e below (Tj41.setTop (mkF m 230 #[.val (.long q0), .second, .val (.long q1), .second, .val (.long q2), .second, .val (.long q3), .second, .val (.long q4), .second, .val (.int p5), .val (.ref b1), .val (.int (3 : Int32)), .val (.ref b37), .val (.int sel), .val (.long vv), .second, .val (.int (0 : Int32))] [(.int (lcmpW (f2 2) vv))])) t
              refine XS.ifYes Xj41.here hx rfl (pc0 := 230) (pc' := 236) rfl (hb hby at_230) rfl (own_lY_ge hc230_54) (by decide) (by decide) ?_
              show Steps p.tables e below (Tj41.setTop (mkF m 236 #[.val (.long q0), .second, .val (.long q1), .second, .val (.long q2), .second, .val (.long q3), .second, .val (.long q4), .second, .val (.int p5), .val (.ref b1), .val (.int (3 : Int32)), .val (.ref b37), .val (.int sel), .val (.long vv), .second, .val (.int (0 : Int32))] [])) t
              refine XS.iload Xj41.here hx rfl (hb hby at_236) rfl ?_
              show Steps p.tables e below (Tj41.setTop (mkF m 238 #[.val (.long q0), .second, .val (.long q1), .second, .val (.long q2), .second, .val (.long q3), .second, .val (.long q4), .second, .val (.int p5), .val (.ref b1), .val (.int (3 : Int32)), .val (.ref b37), .val (.int sel), .val (.long vv), .second, .val (.int (0 : Int32))] [(.int (3 : Int32))])) t
              refine XS.iconst Xj41.here hx rfl (hb hby at_238) ?_
              show Steps p.tables e below (Tj41.setTop (mkF m 239 #[.val (.long q0), .second, .val (.long q1), .second, .val (.long q2), .second, .val (.long q3), .second, .val (.long q4), .second, .val (.int p5), .val (.ref b1), .val (.int (3 : Int32)), .val (.ref b37), .val (.int sel), .val (.long vv), .second, .val (.int (0 : Int32))] [(.int (3 : Int32)), (.int (3 : Int32))])) t
              refine XS.icmpYes Xj41.here hx rfl (pc0 := 239) (pc' := 255) rfl (hb hby at_239) rfl (by decide) (by decide) (by decide) ?_
              show Steps p.tables e below (Tj41.setTop (mkF m 255 #[.val (.long q0), .second, .val (.long q1), .second, .val (.long q2), .second, .val (.long q3), .second, .val (.long q4), .second, .val (.int p5), .val (.ref b1), .val (.int (3 : Int32)), .val (.ref b37), .val (.int sel), .val (.long vv), .second, .val (.int (0 : Int32))] [])) t
              refine XS.aload Xj41.here hx rfl (hb hby at_255) rfl rfl ?_
              show Steps p.tables e below (Tj41.setTop (mkF m 257 #[.val (.long q0), .second, .val (.long q1), .second, .val (.long q2), .second, .val (.long q3), .second, .val (.long q4), .second, .val (.int p5), .val (.ref b1), .val (.int (3 : Int32)), .val (.ref b37), .val (.int sel), .val (.long vv), .second, .val (.int (0 : Int32))] [(.ref b37)])) t
              refine XS.lload Xj41.here hx rfl (hb hby at_257) rfl ?_
              show Steps p.tables e below (Tj41.setTop (mkF m 259 #[.val (.long q0), .second, .val (.long q1), .second, .val (.long q2), .second, .val (.long q3), .second, .val (.long q4), .second, .val (.int p5), .val (.ref b1), .val (.int (3 : Int32)), .val (.ref b37), .val (.int sel), .val (.long vv), .second, .val (.int (0 : Int32))] [(.long vv), (.ref b37)])) t
              exact kt
            refine own_callSp Xj41 hx hZ hown ej41 (hw _ (List.mem_of_getElem? (i := 5) rfl)) (hw _ (List.mem_of_getElem? (i := 6) rfl)) (hw _ (List.mem_of_getElem? (i := 7) rfl)) (hw _ (List.mem_of_getElem? (i := 8) rfl)) (by decide) (rm2 l Z aw hw b37 vv 3 f2 (3 : Int32) h40 n0 Z40 B40 (by decide) (by decide) (own_p3 hf0 hf1 hf2 (own_net ht1 ht2 ht3 ht4 ht5))) (g := (mkF m 259 #[.val (.long q0), .second, .val (.long q1), .second, .val (.long q2), .second, .val (.long q3), .second, .val (.long q4), .second, .val (.int p5), .val (.ref b1), .val (.int (3 : Int32)), .val (.ref b37), .val (.int sel), .val (.long vv), .second, .val (.int (0 : Int32))] [(.long vv), (.ref b37)])) rfl (by rw [hml]; rfl) (argsL := [(.ref b37), (.long vv)]) (rest := []) (lenOf pd_1 rfl) rfl rfl (W := 0) (by show 2 * 0 + _ ≤ _; exact Nat.le_of_eq rfl) (hb hby at_259) (by decide) (by decide) (by decide) (by decide) ?_
            intro T56 X56 e56
            refine own_go (T' := T56) (f' := (mkF m 272 #[.val (.long q0), .second, .val (.long q1), .second, .val (.long q2), .second, .val (.long q3), .second, .val (.long q4), .second, .val (.int p5), .val (.ref b1), .val (.int (3 : Int32)), .val (.ref b37), .val (.int sel), .val (.long vv), .second, .val (.int (0 : Int32))] [(.int (1 : Int32))])) (fun t kt => ?_) ?_
            · show Steps p.tables e below (T56.setTop (mkF m 262 #[.val (.long q0), .second, .val (.long q1), .second, .val (.long q2), .second, .val (.long q3), .second, .val (.long q4), .second, .val (.int p5), .val (.ref b1), .val (.int (3 : Int32)), .val (.ref b37), .val (.int sel), .val (.long vv), .second, .val (.int (0 : Int32))] [(.int (Int32.ofNat (own_cnt 3 f2 vv)))])) t
              refine XS.iload X56.here hx rfl (hb hby at_262) rfl ?_
              show Steps p.tables e below (T56.setTop (mkF m 264 #[.val (.long q0), .second, .val (.long q1), .second, .val (.long q2), .second, .val (.long q3), .second, .val (.long q4), .second, .val (.int p5), .val (.ref b1), .val (.int (3 : Int32)), .val (.ref b37), .val (.int sel), .val (.long vv), .second, .val (.int (0 : Int32))] [(.int (0 : Int32)), (.int (Int32.ofNat (own_cnt 3 f2 vv)))])) t
              refine XS.icmpNo X56.here hx rfl (hb hby at_264) rfl (teq (show (Int32.ofNat (own_cnt 3 f2 vv)) = (0 : Int32) from by simp only [own_cnt, if_neg hc192_42, if_neg hc211_50, if_neg hc230_54]; rfl)).2 ?_
              show Steps p.tables e below (T56.setTop (mkF m 267 #[.val (.long q0), .second, .val (.long q1), .second, .val (.long q2), .second, .val (.long q3), .second, .val (.long q4), .second, .val (.int p5), .val (.ref b1), .val (.int (3 : Int32)), .val (.ref b37), .val (.int sel), .val (.long vv), .second, .val (.int (0 : Int32))] [])) t
              refine XS.iconst X56.here hx rfl (hb hby at_267) ?_
              show Steps p.tables e below (T56.setTop (mkF m 268 #[.val (.long q0), .second, .val (.long q1), .second, .val (.long q2), .second, .val (.long q3), .second, .val (.long q4), .second, .val (.int p5), .val (.ref b1), .val (.int (3 : Int32)), .val (.ref b37), .val (.int sel), .val (.long vv), .second, .val (.int (0 : Int32))] [(.int (1 : Int32))])) t
              refine XS.goto X56.here hx rfl (pc0 := 268) (pc' := 272) rfl (hb hby at_268) (by decide) (by decide) ?_
              show Steps p.tables e below (T56.setTop (mkF m 272 #[.val (.long q0), .second, .val (.long q1), .second, .val (.long q2), .second, .val (.long q3), .second, .val (.long q4), .second, .val (.int p5), .val (.ref b1), .val (.int (3 : Int32)), .val (.ref b37), .val (.int sel), .val (.long vv), .second, .val (.int (0 : Int32))] [(.int (1 : Int32))])) t
              exact kt
            exact own_retN X56 hP hx hlk e56 (t := .boolean) hret (by simp) (hb hby at_272) (by decide) (by decide) (z' := (1 : Int32)) rfl ⟨rfl, Nj41⟩
    refine own_go (T' := T40) (f' := (mkF m 144 #[.val (.long q0), .second, .val (.long q1), .second, .val (.long q2), .second, .val (.long q3), .second, .val (.long q4), .second, .val (.int p5), .val (.ref b1), .val (.int (3 : Int32)), .val (.ref b37), .val (.int sel), .val (.long q4), .second, .unset] [(.int (4 : Int32)), (.int sel)])) (fun t kt => ?_) ?_
    · show Steps p.tables e below (T40.setTop (mkF m 141 #[.val (.long q0), .second, .val (.long q1), .second, .val (.long q2), .second, .val (.long q3), .second, .val (.long q4), .second, .val (.int p5), .val (.ref b1), .val (.int (3 : Int32)), .val (.ref b37), .val (.int sel), .val (.long q4), .second, .unset] [])) t
      refine XS.iload X40.here hx rfl (hb hby at_141) rfl ?_
      show Steps p.tables e below (T40.setTop (mkF m 143 #[.val (.long q0), .second, .val (.long q1), .second, .val (.long q2), .second, .val (.long q3), .second, .val (.long q4), .second, .val (.int p5), .val (.ref b1), .val (.int (3 : Int32)), .val (.ref b37), .val (.int sel), .val (.long q4), .second, .unset] [(.int sel)])) t
      refine XS.iconst X40.here hx rfl (hb hby at_143) ?_
      show Steps p.tables e below (T40.setTop (mkF m 144 #[.val (.long q0), .second, .val (.long q1), .second, .val (.long q2), .second, .val (.long q3), .second, .val (.long q4), .second, .val (.int p5), .val (.ref b1), .val (.int (3 : Int32)), .val (.ref b37), .val (.int sel), .val (.long q4), .second, .unset] [(.int (4 : Int32)), (.int sel)])) t
      exact kt
    by_cases hc144_57 : sel < (4 : Int32)
    · refine own_go (T' := T40) (f' := (mkF m 177 #[.val (.long q0), .second, .val (.long q1), .second, .val (.long q2), .second, .val (.long q3), .second, .val (.long q4), .second, .val (.int p5), .val (.ref b1), .val (.int (3 : Int32)), .val (.ref b37), .val (.int sel), .val (.long (t5 sel.toInt.toNat)), .second, .unset] [])) (fun t kt => ?_) ?_
      · show Steps p.tables e below (T40.setTop (mkF m 144 #[.val (.long q0), .second, .val (.long q1), .second, .val (.long q2), .second, .val (.long q3), .second, .val (.long q4), .second, .val (.int p5), .val (.ref b1), .val (.int (3 : Int32)), .val (.ref b37), .val (.int sel), .val (.long q4), .second, .unset] [(.int (4 : Int32)), (.int sel)])) t
        refine XS.icmpNo X40.here hx rfl (hb hby at_144) rfl (tlt hc144_57).2.1 ?_
        show Steps p.tables e below (T40.setTop (mkF m 147 #[.val (.long q0), .second, .val (.long q1), .second, .val (.long q2), .second, .val (.long q3), .second, .val (.long q4), .second, .val (.int p5), .val (.ref b1), .val (.int (3 : Int32)), .val (.ref b37), .val (.int sel), .val (.long q4), .second, .unset] [])) t
        refine XS.aload X40.here hx rfl (hb hby at_147) rfl rfl ?_
        show Steps p.tables e below (T40.setTop (mkF m 149 #[.val (.long q0), .second, .val (.long q1), .second, .val (.long q2), .second, .val (.long q3), .second, .val (.long q4), .second, .val (.int p5), .val (.ref b1), .val (.int (3 : Int32)), .val (.ref b37), .val (.int sel), .val (.long q4), .second, .unset] [(.ref b1)])) t
        refine XS.iload X40.here hx rfl (hb hby at_149) rfl ?_
        show Steps p.tables e below (T40.setTop (mkF m 151 #[.val (.long q0), .second, .val (.long q1), .second, .val (.long q2), .second, .val (.long q3), .second, .val (.long q4), .second, .val (.int p5), .val (.ref b1), .val (.int (3 : Int32)), .val (.ref b37), .val (.int sel), .val (.long q4), .second, .unset] [(.int sel), (.ref b1)])) t
        refine own_laload X40 hx hZ e40 Pq10_0 (i := sel.toInt.toNat) (own_sel hsel hc144_57).1 (own_sel hsel hc144_57).2 (g := (mkF m 151 #[.val (.long q0), .second, .val (.long q1), .second, .val (.long q2), .second, .val (.long q3), .second, .val (.long q4), .second, .val (.int p5), .val (.ref b1), .val (.int (3 : Int32)), .val (.ref b37), .val (.int sel), .val (.long q4), .second, .unset] [(.int sel), (.ref b1)])) rfl rfl (hb hby at_151) _ ?_
        show Steps p.tables e below (T40.setTop (mkF m 152 #[.val (.long q0), .second, .val (.long q1), .second, .val (.long q2), .second, .val (.long q3), .second, .val (.long q4), .second, .val (.int p5), .val (.ref b1), .val (.int (3 : Int32)), .val (.ref b37), .val (.int sel), .val (.long q4), .second, .unset] [(.long (t5 sel.toInt.toNat))])) t
        refine XS.lstore X40.here hx rfl (hb hby at_152) rfl (l' := #[.val (.long q0), .second, .val (.long q1), .second, .val (.long q2), .second, .val (.long q3), .second, .val (.long q4), .second, .val (.int p5), .val (.ref b1), .val (.int (3 : Int32)), .val (.ref b37), .val (.int sel), .val (.long (t5 sel.toInt.toNat)), .second, .unset]) rfl ?_
        show Steps p.tables e below (T40.setTop (mkF m 154 #[.val (.long q0), .second, .val (.long q1), .second, .val (.long q2), .second, .val (.long q3), .second, .val (.long q4), .second, .val (.int p5), .val (.ref b1), .val (.int (3 : Int32)), .val (.ref b37), .val (.int sel), .val (.long (t5 sel.toInt.toNat)), .second, .unset] [])) t
        refine XS.goto X40.here hx rfl (pc0 := 154) (pc' := 177) rfl (hb hby at_154) (by decide) (by decide) ?_
        show Steps p.tables e below (T40.setTop (mkF m 177 #[.val (.long q0), .second, .val (.long q1), .second, .val (.long q2), .second, .val (.long q3), .second, .val (.long q4), .second, .val (.int p5), .val (.ref b1), .val (.int (3 : Int32)), .val (.ref b37), .val (.int sel), .val (.long (t5 sel.toInt.toNat)), .second, .unset] [])) t
        exact kt
      exact J177 T40 _ (t5 sel.toInt.toNat) X40 N40 e40
    · refine own_go (T' := T40) (f' := (mkF m 160 #[.val (.long q0), .second, .val (.long q1), .second, .val (.long q2), .second, .val (.long q3), .second, .val (.long q4), .second, .val (.int p5), .val (.ref b1), .val (.int (3 : Int32)), .val (.ref b37), .val (.int sel), .val (.long q4), .second, .unset] [(.int (4 : Int32)), (.int sel)])) (fun t kt => ?_) ?_
      · show Steps p.tables e below (T40.setTop (mkF m 144 #[.val (.long q0), .second, .val (.long q1), .second, .val (.long q2), .second, .val (.long q3), .second, .val (.long q4), .second, .val (.int p5), .val (.ref b1), .val (.int (3 : Int32)), .val (.ref b37), .val (.int sel), .val (.long q4), .second, .unset] [(.int (4 : Int32)), (.int sel)])) t
        refine XS.icmpYes X40.here hx rfl (pc0 := 144) (pc' := 157) rfl (hb hby at_144) rfl (flt hc144_57).2.1 (by decide) (by decide) ?_
        show Steps p.tables e below (T40.setTop (mkF m 157 #[.val (.long q0), .second, .val (.long q1), .second, .val (.long q2), .second, .val (.long q3), .second, .val (.long q4), .second, .val (.int p5), .val (.ref b1), .val (.int (3 : Int32)), .val (.ref b37), .val (.int sel), .val (.long q4), .second, .unset] [])) t
        refine XS.iload X40.here hx rfl (hb hby at_157) rfl ?_
        show Steps p.tables e below (T40.setTop (mkF m 159 #[.val (.long q0), .second, .val (.long q1), .second, .val (.long q2), .second, .val (.long q3), .second, .val (.long q4), .second, .val (.int p5), .val (.ref b1), .val (.int (3 : Int32)), .val (.ref b37), .val (.int sel), .val (.long q4), .second, .unset] [(.int sel)])) t
        refine XS.iconst X40.here hx rfl (hb hby at_159) ?_
        show Steps p.tables e below (T40.setTop (mkF m 160 #[.val (.long q0), .second, .val (.long q1), .second, .val (.long q2), .second, .val (.long q3), .second, .val (.long q4), .second, .val (.int p5), .val (.ref b1), .val (.int (3 : Int32)), .val (.ref b37), .val (.int sel), .val (.long q4), .second, .unset] [(.int (4 : Int32)), (.int sel)])) t
        exact kt
      by_cases hc160_58 : sel = (4 : Int32)
      · refine own_go (T' := T40) (f' := (mkF m 177 #[.val (.long q0), .second, .val (.long q1), .second, .val (.long q2), .second, .val (.long q3), .second, .val (.long q4), .second, .val (.int p5), .val (.ref b1), .val (.int (3 : Int32)), .val (.ref b37), .val (.int sel), .val (.long ((t5 (((p5.toUInt32 >>> ((6 : Int32) &&& 31).toUInt32).toInt32) &&& (3 : Int32)).toInt.toNat) + (1 : Int64))), .second, .unset] [])) (fun t kt => ?_) ?_
        · show Steps p.tables e below (T40.setTop (mkF m 160 #[.val (.long q0), .second, .val (.long q1), .second, .val (.long q2), .second, .val (.long q3), .second, .val (.long q4), .second, .val (.int p5), .val (.ref b1), .val (.int (3 : Int32)), .val (.ref b37), .val (.int sel), .val (.long q4), .second, .unset] [(.int (4 : Int32)), (.int sel)])) t
          refine XS.icmpNo X40.here hx rfl (hb hby at_160) rfl (teq hc160_58).2 ?_
          show Steps p.tables e below (T40.setTop (mkF m 163 #[.val (.long q0), .second, .val (.long q1), .second, .val (.long q2), .second, .val (.long q3), .second, .val (.long q4), .second, .val (.int p5), .val (.ref b1), .val (.int (3 : Int32)), .val (.ref b37), .val (.int sel), .val (.long q4), .second, .unset] [])) t
          refine XS.aload X40.here hx rfl (hb hby at_163) rfl rfl ?_
          show Steps p.tables e below (T40.setTop (mkF m 165 #[.val (.long q0), .second, .val (.long q1), .second, .val (.long q2), .second, .val (.long q3), .second, .val (.long q4), .second, .val (.int p5), .val (.ref b1), .val (.int (3 : Int32)), .val (.ref b37), .val (.int sel), .val (.long q4), .second, .unset] [(.ref b1)])) t
          refine XS.iload X40.here hx rfl (hb hby at_165) rfl ?_
          show Steps p.tables e below (T40.setTop (mkF m 167 #[.val (.long q0), .second, .val (.long q1), .second, .val (.long q2), .second, .val (.long q3), .second, .val (.long q4), .second, .val (.int p5), .val (.ref b1), .val (.int (3 : Int32)), .val (.ref b37), .val (.int sel), .val (.long q4), .second, .unset] [(.int p5), (.ref b1)])) t
          refine XS.bipush X40.here hx rfl (hb hby at_167) ?_
          show Steps p.tables e below (T40.setTop (mkF m 169 #[.val (.long q0), .second, .val (.long q1), .second, .val (.long q2), .second, .val (.long q3), .second, .val (.long q4), .second, .val (.int p5), .val (.ref b1), .val (.int (3 : Int32)), .val (.ref b37), .val (.int sel), .val (.long q4), .second, .unset] [(.int (6 : Int32)), (.int p5), (.ref b1)])) t
          refine XS.iushr X40.here hx rfl (hb hby at_169) rfl ?_
          show Steps p.tables e below (T40.setTop (mkF m 170 #[.val (.long q0), .second, .val (.long q1), .second, .val (.long q2), .second, .val (.long q3), .second, .val (.long q4), .second, .val (.int p5), .val (.ref b1), .val (.int (3 : Int32)), .val (.ref b37), .val (.int sel), .val (.long q4), .second, .unset] [(.int ((p5.toUInt32 >>> ((6 : Int32) &&& 31).toUInt32).toInt32)), (.ref b1)])) t
          refine XS.iconst X40.here hx rfl (hb hby at_170) ?_
          show Steps p.tables e below (T40.setTop (mkF m 171 #[.val (.long q0), .second, .val (.long q1), .second, .val (.long q2), .second, .val (.long q3), .second, .val (.long q4), .second, .val (.int p5), .val (.ref b1), .val (.int (3 : Int32)), .val (.ref b37), .val (.int sel), .val (.long q4), .second, .unset] [(.int (3 : Int32)), (.int ((p5.toUInt32 >>> ((6 : Int32) &&& 31).toUInt32).toInt32)), (.ref b1)])) t
          refine XS.iand X40.here hx rfl (hb hby at_171) rfl ?_
          show Steps p.tables e below (T40.setTop (mkF m 172 #[.val (.long q0), .second, .val (.long q1), .second, .val (.long q2), .second, .val (.long q3), .second, .val (.long q4), .second, .val (.int p5), .val (.ref b1), .val (.int (3 : Int32)), .val (.ref b37), .val (.int sel), .val (.long q4), .second, .unset] [(.int (((p5.toUInt32 >>> ((6 : Int32) &&& 31).toUInt32).toInt32) &&& (3 : Int32))), (.ref b1)])) t
          refine own_laload X40 hx hZ e40 Pq10_0 (i := (((p5.toUInt32 >>> ((6 : Int32) &&& 31).toUInt32).toInt32) &&& (3 : Int32)).toInt.toNat) (own_ix3 ((p5.toUInt32 >>> ((6 : Int32) &&& 31).toUInt32).toInt32)).1 (own_ix3 ((p5.toUInt32 >>> ((6 : Int32) &&& 31).toUInt32).toInt32)).2 (g := (mkF m 172 #[.val (.long q0), .second, .val (.long q1), .second, .val (.long q2), .second, .val (.long q3), .second, .val (.long q4), .second, .val (.int p5), .val (.ref b1), .val (.int (3 : Int32)), .val (.ref b37), .val (.int sel), .val (.long q4), .second, .unset] [(.int (((p5.toUInt32 >>> ((6 : Int32) &&& 31).toUInt32).toInt32) &&& (3 : Int32))), (.ref b1)])) rfl rfl (hb hby at_172) _ ?_
          show Steps p.tables e below (T40.setTop (mkF m 173 #[.val (.long q0), .second, .val (.long q1), .second, .val (.long q2), .second, .val (.long q3), .second, .val (.long q4), .second, .val (.int p5), .val (.ref b1), .val (.int (3 : Int32)), .val (.ref b37), .val (.int sel), .val (.long q4), .second, .unset] [(.long (t5 (((p5.toUInt32 >>> ((6 : Int32) &&& 31).toUInt32).toInt32) &&& (3 : Int32)).toInt.toNat))])) t
          refine XS.lconst X40.here hx rfl (hb hby at_173) ?_
          show Steps p.tables e below (T40.setTop (mkF m 174 #[.val (.long q0), .second, .val (.long q1), .second, .val (.long q2), .second, .val (.long q3), .second, .val (.long q4), .second, .val (.int p5), .val (.ref b1), .val (.int (3 : Int32)), .val (.ref b37), .val (.int sel), .val (.long q4), .second, .unset] [(.long (1 : Int64)), (.long (t5 (((p5.toUInt32 >>> ((6 : Int32) &&& 31).toUInt32).toInt32) &&& (3 : Int32)).toInt.toNat))])) t
          refine XS.ladd X40.here hx rfl (hb hby at_174) rfl ?_
          show Steps p.tables e below (T40.setTop (mkF m 175 #[.val (.long q0), .second, .val (.long q1), .second, .val (.long q2), .second, .val (.long q3), .second, .val (.long q4), .second, .val (.int p5), .val (.ref b1), .val (.int (3 : Int32)), .val (.ref b37), .val (.int sel), .val (.long q4), .second, .unset] [(.long ((t5 (((p5.toUInt32 >>> ((6 : Int32) &&& 31).toUInt32).toInt32) &&& (3 : Int32)).toInt.toNat) + (1 : Int64)))])) t
          refine XS.lstore X40.here hx rfl (hb hby at_175) rfl (l' := #[.val (.long q0), .second, .val (.long q1), .second, .val (.long q2), .second, .val (.long q3), .second, .val (.long q4), .second, .val (.int p5), .val (.ref b1), .val (.int (3 : Int32)), .val (.ref b37), .val (.int sel), .val (.long ((t5 (((p5.toUInt32 >>> ((6 : Int32) &&& 31).toUInt32).toInt32) &&& (3 : Int32)).toInt.toNat) + (1 : Int64))), .second, .unset]) rfl ?_
          show Steps p.tables e below (T40.setTop (mkF m 177 #[.val (.long q0), .second, .val (.long q1), .second, .val (.long q2), .second, .val (.long q3), .second, .val (.long q4), .second, .val (.int p5), .val (.ref b1), .val (.int (3 : Int32)), .val (.ref b37), .val (.int sel), .val (.long ((t5 (((p5.toUInt32 >>> ((6 : Int32) &&& 31).toUInt32).toInt32) &&& (3 : Int32)).toInt.toNat) + (1 : Int64))), .second, .unset] [])) t
          exact kt
        exact J177 T40 _ ((t5 (((p5.toUInt32 >>> ((6 : Int32) &&& 31).toUInt32).toInt32) &&& (3 : Int32)).toInt.toNat) + (1 : Int64)) X40 N40 e40
      · refine own_go (T' := T40) (f' := (mkF m 177 #[.val (.long q0), .second, .val (.long q1), .second, .val (.long q2), .second, .val (.long q3), .second, .val (.long q4), .second, .val (.int p5), .val (.ref b1), .val (.int (3 : Int32)), .val (.ref b37), .val (.int sel), .val (.long q4), .second, .unset] [])) (fun t kt => ?_) ?_
        · show Steps p.tables e below (T40.setTop (mkF m 160 #[.val (.long q0), .second, .val (.long q1), .second, .val (.long q2), .second, .val (.long q3), .second, .val (.long q4), .second, .val (.int p5), .val (.ref b1), .val (.int (3 : Int32)), .val (.ref b37), .val (.int sel), .val (.long q4), .second, .unset] [(.int (4 : Int32)), (.int sel)])) t
          refine XS.icmpYes X40.here hx rfl (pc0 := 160) (pc' := 177) rfl (hb hby at_160) rfl (feq hc160_58).2 (by decide) (by decide) ?_
          show Steps p.tables e below (T40.setTop (mkF m 177 #[.val (.long q0), .second, .val (.long q1), .second, .val (.long q2), .second, .val (.long q3), .second, .val (.long q4), .second, .val (.int p5), .val (.ref b1), .val (.int (3 : Int32)), .val (.ref b37), .val (.int sel), .val (.long q4), .second, .unset] [])) t
          exact kt
        exact J177 T40 _ q4 X40 N40 e40
  · rw [hn5]
    refine own_go (T' := T10) (f' := (mkF m 69 #[.val (.long q0), .second, .val (.long q1), .second, .val (.long q2), .second, .val (.long q3), .second, .val (.long q4), .second, .val (.int p5), .val (.ref b1), .val (.int (4 : Int32)), .unset, .unset, .unset, .unset, .unset] [(.int (4 : Int32))])) (fun t kt => ?_) ?_
    · show Steps p.tables e below (T10.setTop (mkF m 65 #[.val (.long q0), .second, .val (.long q1), .second, .val (.long q2), .second, .val (.long q3), .second, .val (.long q4), .second, .val (.int p5), .val (.ref b1), .unset, .unset, .unset, .unset, .unset, .unset] [(.int (4 : Int32))])) t
      refine XS.istore X10.here hx rfl (hb hby at_65) rfl (l' := #[.val (.long q0), .second, .val (.long q1), .second, .val (.long q2), .second, .val (.long q3), .second, .val (.long q4), .second, .val (.int p5), .val (.ref b1), .val (.int (4 : Int32)), .unset, .unset, .unset, .unset, .unset]) rfl ?_
      show Steps p.tables e below (T10.setTop (mkF m 67 #[.val (.long q0), .second, .val (.long q1), .second, .val (.long q2), .second, .val (.long q3), .second, .val (.long q4), .second, .val (.int p5), .val (.ref b1), .val (.int (4 : Int32)), .unset, .unset, .unset, .unset, .unset] [])) t
      refine XS.iload X10.here hx rfl (hb hby at_67) rfl ?_
      show Steps p.tables e below (T10.setTop (mkF m 69 #[.val (.long q0), .second, .val (.long q1), .second, .val (.long q2), .second, .val (.long q3), .second, .val (.long q4), .second, .val (.int p5), .val (.ref b1), .val (.int (4 : Int32)), .unset, .unset, .unset, .unset, .unset] [(.int (4 : Int32))])) t
      exact kt
    obtain ⟨T59, h59, k59, X59, e59, E59, A59, st59⟩ := newP X10 hx hZ (hw _ (List.mem_of_getElem? (i := 0) rfl)) rfl (g := (mkF m 69 #[.val (.long q0), .second, .val (.long q1), .second, .val (.long q2), .second, .val (.long q3), .second, .val (.long q4), .second, .val (.int p5), .val (.ref b1), .val (.int (4 : Int32)), .unset, .unset, .unset, .unset, .unset] [(.int (4 : Int32))])) rfl (hb hby at_69) rfl (by decide) (cap := 4) (by decide) (by decide) (by decide) (by decide)
    obtain ⟨b59, y59⟩ : ∃ z, z = T10.heap.size := ⟨_, rfl⟩
    rw [← y59] at A59 st59
    have ne_b1_b59 : b1 ≠ b59 := Nat.ne_of_lt (Nat.lt_of_lt_of_le Pq10_0.lt (Nat.le_of_eq y59.symm))
    have ne_b59_b1 := ne_b1_b59.symm
    have g_b59 : n0 ≤ b59 := Nat.le_trans ZKq10 (Nat.le_of_eq y59.symm)
    have sz_b59 : h0.size ≤ b59 := Nat.le_trans KKKq10.1 (Nat.le_of_eq y59.symm)
    replace Pq10_0 := (Pq10_0.ext E59)
    have ZE59 : n0 ≤ h59.size := Nat.le_trans ZKq10 E59.1
    have KKE59 := KKKq10.ext E59
    refine own_go st59 ?_
    have Ar_b59 : own_AJ Z h59 b59 4 (fun _ => (0 : Int64)) := own_A_new A59 (by decide)
    refine own_go (T' := T59) (f' := (mkF m 85 #[.val (.long q0), .second, .val (.long q1), .second, .val (.long q2), .second, .val (.long q3), .second, .val (.long q4), .second, .val (.int p5), .val (.ref b1), .val (.int (4 : Int32)), .val (.ref b59), .unset, .unset, .unset, .unset] [(.long (t5 0)), (.int (0 : Int32)), (.ref b59)])) (fun t kt => ?_) ?_
    · show Steps p.tables e below (T59.setTop (mkF m 71 #[.val (.long q0), .second, .val (.long q1), .second, .val (.long q2), .second, .val (.long q3), .second, .val (.long q4), .second, .val (.int p5), .val (.ref b1), .val (.int (4 : Int32)), .unset, .unset, .unset, .unset, .unset] [(.ref b59)])) t
      refine XS.astore X59.here hx rfl (hb hby at_71) rfl rfl (l' := #[.val (.long q0), .second, .val (.long q1), .second, .val (.long q2), .second, .val (.long q3), .second, .val (.long q4), .second, .val (.int p5), .val (.ref b1), .val (.int (4 : Int32)), .val (.ref b59), .unset, .unset, .unset, .unset]) rfl ?_
      show Steps p.tables e below (T59.setTop (mkF m 73 #[.val (.long q0), .second, .val (.long q1), .second, .val (.long q2), .second, .val (.long q3), .second, .val (.long q4), .second, .val (.int p5), .val (.ref b1), .val (.int (4 : Int32)), .val (.ref b59), .unset, .unset, .unset, .unset] [])) t
      refine XS.iload X59.here hx rfl (hb hby at_73) rfl ?_
      show Steps p.tables e below (T59.setTop (mkF m 75 #[.val (.long q0), .second, .val (.long q1), .second, .val (.long q2), .second, .val (.long q3), .second, .val (.long q4), .second, .val (.int p5), .val (.ref b1), .val (.int (4 : Int32)), .val (.ref b59), .unset, .unset, .unset, .unset] [(.int (4 : Int32))])) t
      refine XS.ifNo X59.here hx rfl (hb hby at_75) rfl (by decide) ?_
      show Steps p.tables e below (T59.setTop (mkF m 78 #[.val (.long q0), .second, .val (.long q1), .second, .val (.long q2), .second, .val (.long q3), .second, .val (.long q4), .second, .val (.int p5), .val (.ref b1), .val (.int (4 : Int32)), .val (.ref b59), .unset, .unset, .unset, .unset] [])) t
      refine XS.aload X59.here hx rfl (hb hby at_78) rfl rfl ?_
      show Steps p.tables e below (T59.setTop (mkF m 80 #[.val (.long q0), .second, .val (.long q1), .second, .val (.long q2), .second, .val (.long q3), .second, .val (.long q4), .second, .val (.int p5), .val (.ref b1), .val (.int (4 : Int32)), .val (.ref b59), .unset, .unset, .unset, .unset] [(.ref b59)])) t
      refine XS.iconst X59.here hx rfl (hb hby at_80) ?_
      show Steps p.tables e below (T59.setTop (mkF m 81 #[.val (.long q0), .second, .val (.long q1), .second, .val (.long q2), .second, .val (.long q3), .second, .val (.long q4), .second, .val (.int p5), .val (.ref b1), .val (.int (4 : Int32)), .val (.ref b59), .unset, .unset, .unset, .unset] [(.int (0 : Int32)), (.ref b59)])) t
      refine XS.aload X59.here hx rfl (hb hby at_81) rfl rfl ?_
      show Steps p.tables e below (T59.setTop (mkF m 83 #[.val (.long q0), .second, .val (.long q1), .second, .val (.long q2), .second, .val (.long q3), .second, .val (.long q4), .second, .val (.int p5), .val (.ref b1), .val (.int (4 : Int32)), .val (.ref b59), .unset, .unset, .unset, .unset] [(.ref b1), (.int (0 : Int32)), (.ref b59)])) t
      refine XS.iconst X59.here hx rfl (hb hby at_83) ?_
      show Steps p.tables e below (T59.setTop (mkF m 84 #[.val (.long q0), .second, .val (.long q1), .second, .val (.long q2), .second, .val (.long q3), .second, .val (.long q4), .second, .val (.int p5), .val (.ref b1), .val (.int (4 : Int32)), .val (.ref b59), .unset, .unset, .unset, .unset] [(.int (0 : Int32)), (.ref b1), (.int (0 : Int32)), (.ref b59)])) t
      refine own_laload X59 hx hZ e59 Pq10_0 (i := 0) (by decide) (by decide) (g := (mkF m 84 #[.val (.long q0), .second, .val (.long q1), .second, .val (.long q2), .second, .val (.long q3), .second, .val (.long q4), .second, .val (.int p5), .val (.ref b1), .val (.int (4 : Int32)), .val (.ref b59), .unset, .unset, .unset, .unset] [(.int (0 : Int32)), (.ref b1), (.int (0 : Int32)), (.ref b59)])) rfl rfl (hb hby at_84) _ ?_
      show Steps p.tables e below (T59.setTop (mkF m 85 #[.val (.long q0), .second, .val (.long q1), .second, .val (.long q2), .second, .val (.long q3), .second, .val (.long q4), .second, .val (.int p5), .val (.ref b1), .val (.int (4 : Int32)), .val (.ref b59), .unset, .unset, .unset, .unset] [(.long (t5 0)), (.int (0 : Int32)), (.ref b59)])) t
      exact kt
    obtain ⟨T60, h60, X60, e60, W60, B60, st60⟩ := own_lastore X59 hx hZ e59 Ar_b59 (i := 0) (by decide) (by decide) (g := (mkF m 85 #[.val (.long q0), .second, .val (.long q1), .second, .val (.long q2), .second, .val (.long q3), .second, .val (.long q4), .second, .val (.int p5), .val (.ref b1), .val (.int (4 : Int32)), .val (.ref b59), .unset, .unset, .unset, .unset] [(.long (t5 0)), (.int (0 : Int32)), (.ref b59)])) rfl rfl (hb hby at_85)
    refine own_go st60 ?_
    replace Pq10_0 := (Pq10_0.other W60 (ne_b1_b59))
    have N60 := Fr.snoc X60 N10 g_b59
    have Z60 : n0 ≤ h60.size := Nat.le_trans ZE59 (Keep.of_wr W60).1
    have KK60 := KKE59.wr W60 (Or.inr sz_b59)
    obtain ⟨f0, hf0⟩ : ∃ z, z = (own_set (fun _ => (0 : Int64)) 0 (t5 0)) := ⟨_, rfl⟩
    rw [← hf0] at B60
    refine own_go (T' := T60) (f' := (mkF m 99 #[.val (.long q0), .second, .val (.long q1), .second, .val (.long q2), .second, .val (.long q3), .second, .val (.long q4), .second, .val (.int p5), .val (.ref b1), .val (.int (4 : Int32)), .val (.ref b59), .unset, .unset, .unset, .unset] [(.long (t5 1)), (.int (1 : Int32)), (.ref b59)])) (fun t kt => ?_) ?_
    · show Steps p.tables e below (T60.setTop (mkF m 86 #[.val (.long q0), .second, .val (.long q1), .second, .val (.long q2), .second, .val (.long q3), .second, .val (.long q4), .second, .val (.int p5), .val (.ref b1), .val (.int (4 : Int32)), .val (.ref b59), .unset, .unset, .unset, .unset] [])) t
      refine XS.iload X60.here hx rfl (hb hby at_86) rfl ?_
      show Steps p.tables e below (T60.setTop (mkF m 88 #[.val (.long q0), .second, .val (.long q1), .second, .val (.long q2), .second, .val (.long q3), .second, .val (.long q4), .second, .val (.int p5), .val (.ref b1), .val (.int (4 : Int32)), .val (.ref b59), .unset, .unset, .unset, .unset] [(.int (4 : Int32))])) t
      refine XS.iconst X60.here hx rfl (hb hby at_88) ?_
      show Steps p.tables e below (T60.setTop (mkF m 89 #[.val (.long q0), .second, .val (.long q1), .second, .val (.long q2), .second, .val (.long q3), .second, .val (.long q4), .second, .val (.int p5), .val (.ref b1), .val (.int (4 : Int32)), .val (.ref b59), .unset, .unset, .unset, .unset] [(.int (1 : Int32)), (.int (4 : Int32))])) t
      refine XS.icmpNo X60.here hx rfl (hb hby at_89) rfl (by decide) ?_
      show Steps p.tables e below (T60.setTop (mkF m 92 #[.val (.long q0), .second, .val (.long q1), .second, .val (.long q2), .second, .val (.long q3), .second, .val (.long q4), .second, .val (.int p5), .val (.ref b1), .val (.int (4 : Int32)), .val (.ref b59), .unset, .unset, .unset, .unset] [])) t
      refine XS.aload X60.here hx rfl (hb hby at_92) rfl rfl ?_
      show Steps p.tables e below (T60.setTop (mkF m 94 #[.val (.long q0), .second, .val (.long q1), .second, .val (.long q2), .second, .val (.long q3), .second, .val (.long q4), .second, .val (.int p5), .val (.ref b1), .val (.int (4 : Int32)), .val (.ref b59), .unset, .unset, .unset, .unset] [(.ref b59)])) t
      refine XS.iconst X60.here hx rfl (hb hby at_94) ?_
      show Steps p.tables e below (T60.setTop (mkF m 95 #[.val (.long q0), .second, .val (.long q1), .second, .val (.long q2), .second, .val (.long q3), .second, .val (.long q4), .second, .val (.int p5), .val (.ref b1), .val (.int (4 : Int32)), .val (.ref b59), .unset, .unset, .unset, .unset] [(.int (1 : Int32)), (.ref b59)])) t
      refine XS.aload X60.here hx rfl (hb hby at_95) rfl rfl ?_
      show Steps p.tables e below (T60.setTop (mkF m 97 #[.val (.long q0), .second, .val (.long q1), .second, .val (.long q2), .second, .val (.long q3), .second, .val (.long q4), .second, .val (.int p5), .val (.ref b1), .val (.int (4 : Int32)), .val (.ref b59), .unset, .unset, .unset, .unset] [(.ref b1), (.int (1 : Int32)), (.ref b59)])) t
      refine XS.iconst X60.here hx rfl (hb hby at_97) ?_
      show Steps p.tables e below (T60.setTop (mkF m 98 #[.val (.long q0), .second, .val (.long q1), .second, .val (.long q2), .second, .val (.long q3), .second, .val (.long q4), .second, .val (.int p5), .val (.ref b1), .val (.int (4 : Int32)), .val (.ref b59), .unset, .unset, .unset, .unset] [(.int (1 : Int32)), (.ref b1), (.int (1 : Int32)), (.ref b59)])) t
      refine own_laload X60 hx hZ e60 Pq10_0 (i := 1) (by decide) (by decide) (g := (mkF m 98 #[.val (.long q0), .second, .val (.long q1), .second, .val (.long q2), .second, .val (.long q3), .second, .val (.long q4), .second, .val (.int p5), .val (.ref b1), .val (.int (4 : Int32)), .val (.ref b59), .unset, .unset, .unset, .unset] [(.int (1 : Int32)), (.ref b1), (.int (1 : Int32)), (.ref b59)])) rfl rfl (hb hby at_98) _ ?_
      show Steps p.tables e below (T60.setTop (mkF m 99 #[.val (.long q0), .second, .val (.long q1), .second, .val (.long q2), .second, .val (.long q3), .second, .val (.long q4), .second, .val (.int p5), .val (.ref b1), .val (.int (4 : Int32)), .val (.ref b59), .unset, .unset, .unset, .unset] [(.long (t5 1)), (.int (1 : Int32)), (.ref b59)])) t
      exact kt
    obtain ⟨T61, h61, X61, e61, W61, B61, st61⟩ := own_lastore X60 hx hZ e60 B60 (i := 1) (by decide) (by decide) (g := (mkF m 99 #[.val (.long q0), .second, .val (.long q1), .second, .val (.long q2), .second, .val (.long q3), .second, .val (.long q4), .second, .val (.int p5), .val (.ref b1), .val (.int (4 : Int32)), .val (.ref b59), .unset, .unset, .unset, .unset] [(.long (t5 1)), (.int (1 : Int32)), (.ref b59)])) rfl rfl (hb hby at_99)
    refine own_go st61 ?_
    replace Pq10_0 := (Pq10_0.other W61 (ne_b1_b59))
    have N61 := Fr.snoc X61 N60 g_b59
    have Z61 : n0 ≤ h61.size := Nat.le_trans Z60 (Keep.of_wr W61).1
    have KK61 := KK60.wr W61 (Or.inr sz_b59)
    obtain ⟨f1, hf1⟩ : ∃ z, z = (own_set f0 1 (t5 1)) := ⟨_, rfl⟩
    rw [← hf1] at B61
    refine own_go (T' := T61) (f' := (mkF m 113 #[.val (.long q0), .second, .val (.long q1), .second, .val (.long q2), .second, .val (.long q3), .second, .val (.long q4), .second, .val (.int p5), .val (.ref b1), .val (.int (4 : Int32)), .val (.ref b59), .unset, .unset, .unset, .unset] [(.long (t5 2)), (.int (2 : Int32)), (.ref b59)])) (fun t kt => ?_) ?_
    · show Steps p.tables e below (T61.setTop (mkF m 100 #[.val (.long q0), .second, .val (.long q1), .second, .val (.long q2), .second, .val (.long q3), .second, .val (.long q4), .second, .val (.int p5), .val (.ref b1), .val (.int (4 : Int32)), .val (.ref b59), .unset, .unset, .unset, .unset] [])) t
      refine XS.iload X61.here hx rfl (hb hby at_100) rfl ?_
      show Steps p.tables e below (T61.setTop (mkF m 102 #[.val (.long q0), .second, .val (.long q1), .second, .val (.long q2), .second, .val (.long q3), .second, .val (.long q4), .second, .val (.int p5), .val (.ref b1), .val (.int (4 : Int32)), .val (.ref b59), .unset, .unset, .unset, .unset] [(.int (4 : Int32))])) t
      refine XS.iconst X61.here hx rfl (hb hby at_102) ?_
      show Steps p.tables e below (T61.setTop (mkF m 103 #[.val (.long q0), .second, .val (.long q1), .second, .val (.long q2), .second, .val (.long q3), .second, .val (.long q4), .second, .val (.int p5), .val (.ref b1), .val (.int (4 : Int32)), .val (.ref b59), .unset, .unset, .unset, .unset] [(.int (2 : Int32)), (.int (4 : Int32))])) t
      refine XS.icmpNo X61.here hx rfl (hb hby at_103) rfl (by decide) ?_
      show Steps p.tables e below (T61.setTop (mkF m 106 #[.val (.long q0), .second, .val (.long q1), .second, .val (.long q2), .second, .val (.long q3), .second, .val (.long q4), .second, .val (.int p5), .val (.ref b1), .val (.int (4 : Int32)), .val (.ref b59), .unset, .unset, .unset, .unset] [])) t
      refine XS.aload X61.here hx rfl (hb hby at_106) rfl rfl ?_
      show Steps p.tables e below (T61.setTop (mkF m 108 #[.val (.long q0), .second, .val (.long q1), .second, .val (.long q2), .second, .val (.long q3), .second, .val (.long q4), .second, .val (.int p5), .val (.ref b1), .val (.int (4 : Int32)), .val (.ref b59), .unset, .unset, .unset, .unset] [(.ref b59)])) t
      refine XS.iconst X61.here hx rfl (hb hby at_108) ?_
      show Steps p.tables e below (T61.setTop (mkF m 109 #[.val (.long q0), .second, .val (.long q1), .second, .val (.long q2), .second, .val (.long q3), .second, .val (.long q4), .second, .val (.int p5), .val (.ref b1), .val (.int (4 : Int32)), .val (.ref b59), .unset, .unset, .unset, .unset] [(.int (2 : Int32)), (.ref b59)])) t
      refine XS.aload X61.here hx rfl (hb hby at_109) rfl rfl ?_
      show Steps p.tables e below (T61.setTop (mkF m 111 #[.val (.long q0), .second, .val (.long q1), .second, .val (.long q2), .second, .val (.long q3), .second, .val (.long q4), .second, .val (.int p5), .val (.ref b1), .val (.int (4 : Int32)), .val (.ref b59), .unset, .unset, .unset, .unset] [(.ref b1), (.int (2 : Int32)), (.ref b59)])) t
      refine XS.iconst X61.here hx rfl (hb hby at_111) ?_
      show Steps p.tables e below (T61.setTop (mkF m 112 #[.val (.long q0), .second, .val (.long q1), .second, .val (.long q2), .second, .val (.long q3), .second, .val (.long q4), .second, .val (.int p5), .val (.ref b1), .val (.int (4 : Int32)), .val (.ref b59), .unset, .unset, .unset, .unset] [(.int (2 : Int32)), (.ref b1), (.int (2 : Int32)), (.ref b59)])) t
      refine own_laload X61 hx hZ e61 Pq10_0 (i := 2) (by decide) (by decide) (g := (mkF m 112 #[.val (.long q0), .second, .val (.long q1), .second, .val (.long q2), .second, .val (.long q3), .second, .val (.long q4), .second, .val (.int p5), .val (.ref b1), .val (.int (4 : Int32)), .val (.ref b59), .unset, .unset, .unset, .unset] [(.int (2 : Int32)), (.ref b1), (.int (2 : Int32)), (.ref b59)])) rfl rfl (hb hby at_112) _ ?_
      show Steps p.tables e below (T61.setTop (mkF m 113 #[.val (.long q0), .second, .val (.long q1), .second, .val (.long q2), .second, .val (.long q3), .second, .val (.long q4), .second, .val (.int p5), .val (.ref b1), .val (.int (4 : Int32)), .val (.ref b59), .unset, .unset, .unset, .unset] [(.long (t5 2)), (.int (2 : Int32)), (.ref b59)])) t
      exact kt
    obtain ⟨T62, h62, X62, e62, W62, B62, st62⟩ := own_lastore X61 hx hZ e61 B61 (i := 2) (by decide) (by decide) (g := (mkF m 113 #[.val (.long q0), .second, .val (.long q1), .second, .val (.long q2), .second, .val (.long q3), .second, .val (.long q4), .second, .val (.int p5), .val (.ref b1), .val (.int (4 : Int32)), .val (.ref b59), .unset, .unset, .unset, .unset] [(.long (t5 2)), (.int (2 : Int32)), (.ref b59)])) rfl rfl (hb hby at_113)
    refine own_go st62 ?_
    replace Pq10_0 := (Pq10_0.other W62 (ne_b1_b59))
    have N62 := Fr.snoc X62 N61 g_b59
    have Z62 : n0 ≤ h62.size := Nat.le_trans Z61 (Keep.of_wr W62).1
    have KK62 := KK61.wr W62 (Or.inr sz_b59)
    obtain ⟨f2, hf2⟩ : ∃ z, z = (own_set f1 2 (t5 2)) := ⟨_, rfl⟩
    rw [← hf2] at B62
    refine own_go (T' := T62) (f' := (mkF m 127 #[.val (.long q0), .second, .val (.long q1), .second, .val (.long q2), .second, .val (.long q3), .second, .val (.long q4), .second, .val (.int p5), .val (.ref b1), .val (.int (4 : Int32)), .val (.ref b59), .unset, .unset, .unset, .unset] [(.long (t5 3)), (.int (3 : Int32)), (.ref b59)])) (fun t kt => ?_) ?_
    · show Steps p.tables e below (T62.setTop (mkF m 114 #[.val (.long q0), .second, .val (.long q1), .second, .val (.long q2), .second, .val (.long q3), .second, .val (.long q4), .second, .val (.int p5), .val (.ref b1), .val (.int (4 : Int32)), .val (.ref b59), .unset, .unset, .unset, .unset] [])) t
      refine XS.iload X62.here hx rfl (hb hby at_114) rfl ?_
      show Steps p.tables e below (T62.setTop (mkF m 116 #[.val (.long q0), .second, .val (.long q1), .second, .val (.long q2), .second, .val (.long q3), .second, .val (.long q4), .second, .val (.int p5), .val (.ref b1), .val (.int (4 : Int32)), .val (.ref b59), .unset, .unset, .unset, .unset] [(.int (4 : Int32))])) t
      refine XS.iconst X62.here hx rfl (hb hby at_116) ?_
      show Steps p.tables e below (T62.setTop (mkF m 117 #[.val (.long q0), .second, .val (.long q1), .second, .val (.long q2), .second, .val (.long q3), .second, .val (.long q4), .second, .val (.int p5), .val (.ref b1), .val (.int (4 : Int32)), .val (.ref b59), .unset, .unset, .unset, .unset] [(.int (3 : Int32)), (.int (4 : Int32))])) t
      refine XS.icmpNo X62.here hx rfl (hb hby at_117) rfl (by decide) ?_
      show Steps p.tables e below (T62.setTop (mkF m 120 #[.val (.long q0), .second, .val (.long q1), .second, .val (.long q2), .second, .val (.long q3), .second, .val (.long q4), .second, .val (.int p5), .val (.ref b1), .val (.int (4 : Int32)), .val (.ref b59), .unset, .unset, .unset, .unset] [])) t
      refine XS.aload X62.here hx rfl (hb hby at_120) rfl rfl ?_
      show Steps p.tables e below (T62.setTop (mkF m 122 #[.val (.long q0), .second, .val (.long q1), .second, .val (.long q2), .second, .val (.long q3), .second, .val (.long q4), .second, .val (.int p5), .val (.ref b1), .val (.int (4 : Int32)), .val (.ref b59), .unset, .unset, .unset, .unset] [(.ref b59)])) t
      refine XS.iconst X62.here hx rfl (hb hby at_122) ?_
      show Steps p.tables e below (T62.setTop (mkF m 123 #[.val (.long q0), .second, .val (.long q1), .second, .val (.long q2), .second, .val (.long q3), .second, .val (.long q4), .second, .val (.int p5), .val (.ref b1), .val (.int (4 : Int32)), .val (.ref b59), .unset, .unset, .unset, .unset] [(.int (3 : Int32)), (.ref b59)])) t
      refine XS.aload X62.here hx rfl (hb hby at_123) rfl rfl ?_
      show Steps p.tables e below (T62.setTop (mkF m 125 #[.val (.long q0), .second, .val (.long q1), .second, .val (.long q2), .second, .val (.long q3), .second, .val (.long q4), .second, .val (.int p5), .val (.ref b1), .val (.int (4 : Int32)), .val (.ref b59), .unset, .unset, .unset, .unset] [(.ref b1), (.int (3 : Int32)), (.ref b59)])) t
      refine XS.iconst X62.here hx rfl (hb hby at_125) ?_
      show Steps p.tables e below (T62.setTop (mkF m 126 #[.val (.long q0), .second, .val (.long q1), .second, .val (.long q2), .second, .val (.long q3), .second, .val (.long q4), .second, .val (.int p5), .val (.ref b1), .val (.int (4 : Int32)), .val (.ref b59), .unset, .unset, .unset, .unset] [(.int (3 : Int32)), (.ref b1), (.int (3 : Int32)), (.ref b59)])) t
      refine own_laload X62 hx hZ e62 Pq10_0 (i := 3) (by decide) (by decide) (g := (mkF m 126 #[.val (.long q0), .second, .val (.long q1), .second, .val (.long q2), .second, .val (.long q3), .second, .val (.long q4), .second, .val (.int p5), .val (.ref b1), .val (.int (4 : Int32)), .val (.ref b59), .unset, .unset, .unset, .unset] [(.int (3 : Int32)), (.ref b1), (.int (3 : Int32)), (.ref b59)])) rfl rfl (hb hby at_126) _ ?_
      show Steps p.tables e below (T62.setTop (mkF m 127 #[.val (.long q0), .second, .val (.long q1), .second, .val (.long q2), .second, .val (.long q3), .second, .val (.long q4), .second, .val (.int p5), .val (.ref b1), .val (.int (4 : Int32)), .val (.ref b59), .unset, .unset, .unset, .unset] [(.long (t5 3)), (.int (3 : Int32)), (.ref b59)])) t
      exact kt
    obtain ⟨T63, h63, X63, e63, W63, B63, st63⟩ := own_lastore X62 hx hZ e62 B62 (i := 3) (by decide) (by decide) (g := (mkF m 127 #[.val (.long q0), .second, .val (.long q1), .second, .val (.long q2), .second, .val (.long q3), .second, .val (.long q4), .second, .val (.int p5), .val (.ref b1), .val (.int (4 : Int32)), .val (.ref b59), .unset, .unset, .unset, .unset] [(.long (t5 3)), (.int (3 : Int32)), (.ref b59)])) rfl rfl (hb hby at_127)
    refine own_go st63 ?_
    replace Pq10_0 := (Pq10_0.other W63 (ne_b1_b59))
    have N63 := Fr.snoc X63 N62 g_b59
    have Z63 : n0 ≤ h63.size := Nat.le_trans Z62 (Keep.of_wr W63).1
    have KK63 := KK62.wr W63 (Or.inr sz_b59)
    obtain ⟨f3, hf3⟩ : ∃ z, z = (own_set f2 3 (t5 3)) := ⟨_, rfl⟩
    rw [← hf3] at B63
    refine own_go (T' := T63) (f' := (mkF m 135 #[.val (.long q0), .second, .val (.long q1), .second, .val (.long q2), .second, .val (.long q3), .second, .val (.long q4), .second, .val (.int p5), .val (.ref b1), .val (.int (4 : Int32)), .val (.ref b59), .unset, .unset, .unset, .unset] [(.int (((p5.toUInt32 >>> ((3 : Int32) &&& 31).toUInt32).toInt32) &&& (7 : Int32)))])) (fun t kt => ?_) ?_
    · show Steps p.tables e below (T63.setTop (mkF m 128 #[.val (.long q0), .second, .val (.long q1), .second, .val (.long q2), .second, .val (.long q3), .second, .val (.long q4), .second, .val (.int p5), .val (.ref b1), .val (.int (4 : Int32)), .val (.ref b59), .unset, .unset, .unset, .unset] [])) t
      refine XS.iload X63.here hx rfl (hb hby at_128) rfl ?_
      show Steps p.tables e below (T63.setTop (mkF m 130 #[.val (.long q0), .second, .val (.long q1), .second, .val (.long q2), .second, .val (.long q3), .second, .val (.long q4), .second, .val (.int p5), .val (.ref b1), .val (.int (4 : Int32)), .val (.ref b59), .unset, .unset, .unset, .unset] [(.int p5)])) t
      refine XS.iconst X63.here hx rfl (hb hby at_130) ?_
      show Steps p.tables e below (T63.setTop (mkF m 131 #[.val (.long q0), .second, .val (.long q1), .second, .val (.long q2), .second, .val (.long q3), .second, .val (.long q4), .second, .val (.int p5), .val (.ref b1), .val (.int (4 : Int32)), .val (.ref b59), .unset, .unset, .unset, .unset] [(.int (3 : Int32)), (.int p5)])) t
      refine XS.iushr X63.here hx rfl (hb hby at_131) rfl ?_
      show Steps p.tables e below (T63.setTop (mkF m 132 #[.val (.long q0), .second, .val (.long q1), .second, .val (.long q2), .second, .val (.long q3), .second, .val (.long q4), .second, .val (.int p5), .val (.ref b1), .val (.int (4 : Int32)), .val (.ref b59), .unset, .unset, .unset, .unset] [(.int ((p5.toUInt32 >>> ((3 : Int32) &&& 31).toUInt32).toInt32))])) t
      refine XS.bipush X63.here hx rfl (hb hby at_132) ?_
      show Steps p.tables e below (T63.setTop (mkF m 134 #[.val (.long q0), .second, .val (.long q1), .second, .val (.long q2), .second, .val (.long q3), .second, .val (.long q4), .second, .val (.int p5), .val (.ref b1), .val (.int (4 : Int32)), .val (.ref b59), .unset, .unset, .unset, .unset] [(.int (7 : Int32)), (.int ((p5.toUInt32 >>> ((3 : Int32) &&& 31).toUInt32).toInt32))])) t
      refine XS.iand X63.here hx rfl (hb hby at_134) rfl ?_
      show Steps p.tables e below (T63.setTop (mkF m 135 #[.val (.long q0), .second, .val (.long q1), .second, .val (.long q2), .second, .val (.long q3), .second, .val (.long q4), .second, .val (.int p5), .val (.ref b1), .val (.int (4 : Int32)), .val (.ref b59), .unset, .unset, .unset, .unset] [(.int (((p5.toUInt32 >>> ((3 : Int32) &&& 31).toUInt32).toInt32) &&& (7 : Int32)))])) t
      exact kt
    obtain ⟨sel, hsel⟩ : ∃ z, z = (((p5.toUInt32 >>> ((3 : Int32) &&& 31).toUInt32).toInt32) &&& (7 : Int32)) := ⟨_, rfl⟩
    rw [← hsel]
    refine own_go (T' := T63) (f' := (mkF m 141 #[.val (.long q0), .second, .val (.long q1), .second, .val (.long q2), .second, .val (.long q3), .second, .val (.long q4), .second, .val (.int p5), .val (.ref b1), .val (.int (4 : Int32)), .val (.ref b59), .val (.int sel), .val (.long q4), .second, .unset] [])) (fun t kt => ?_) ?_
    · show Steps p.tables e below (T63.setTop (mkF m 135 #[.val (.long q0), .second, .val (.long q1), .second, .val (.long q2), .second, .val (.long q3), .second, .val (.long q4), .second, .val (.int p5), .val (.ref b1), .val (.int (4 : Int32)), .val (.ref b59), .unset, .unset, .unset, .unset] [(.int sel)])) t
      refine XS.istore X63.here hx rfl (hb hby at_135) rfl (l' := #[.val (.long q0), .second, .val (.long q1), .second, .val (.long q2), .second, .val (.long q3), .second, .val (.long q4), .second, .val (.int p5), .val (.ref b1), .val (.int (4 : Int32)), .val (.ref b59), .val (.int sel), .unset, .unset, .unset]) rfl ?_
      show Steps p.tables e below (T63.setTop (mkF m 137 #[.val (.long q0), .second, .val (.long q1), .second, .val (.long q2), .second, .val (.long q3), .second, .val (.long q4), .second, .val (.int p5), .val (.ref b1), .val (.int (4 : Int32)), .val (.ref b59), .val (.int sel), .unset, .unset, .unset] [])) t
      refine XS.lload X63.here hx rfl (hb hby at_137) rfl ?_
      show Steps p.tables e below (T63.setTop (mkF m 139 #[.val (.long q0), .second, .val (.long q1), .second, .val (.long q2), .second, .val (.long q3), .second, .val (.long q4), .second, .val (.int p5), .val (.ref b1), .val (.int (4 : Int32)), .val (.ref b59), .val (.int sel), .unset, .unset, .unset] [(.long q4)])) t
      refine XS.lstore X63.here hx rfl (hb hby at_139) rfl (l' := #[.val (.long q0), .second, .val (.long q1), .second, .val (.long q2), .second, .val (.long q3), .second, .val (.long q4), .second, .val (.int p5), .val (.ref b1), .val (.int (4 : Int32)), .val (.ref b59), .val (.int sel), .val (.long q4), .second, .unset]) rfl ?_
      show Steps p.tables e below (T63.setTop (mkF m 141 #[.val (.long q0), .second, .val (.long q1), .second, .val (.long q2), .second, .val (.long q3), .second, .val (.long q4), .second, .val (.int p5), .val (.ref b1), .val (.int (4 : Int32)), .val (.ref b59), .val (.int sel), .val (.long q4), .second, .unset] [])) t
      exact kt
    have J177 : ∀ (Tj64 : State) (lj64 : List Loc) (vv : Int64) (Xj64 : Stand p l e room_1 s m #[(.long q0), (.long q1), (.long q2), (.long q3), (.long q4), (.int p5)] below meth c Tj64 lj64 2 8) (Nj64 : Fr n0 lj64) (ej64 : Tj64.heap = h63), own_End p e below P Tj64 (mkF m 177 #[.val (.long q0), .second, .val (.long q1), .second, .val (.long q2), .second, .val (.long q3), .second, .val (.long q4), .second, .val (.int p5), .val (.ref b1), .val (.int (4 : Int32)), .val (.ref b59), .val (.int sel), .val (.long vv), .second, .unset] []) := by
      intro Tj64 lj64 vv Xj64 Nj64 ej64
      refine own_go (T' := Tj64) (f' := (mkF m 192 #[.val (.long q0), .second, .val (.long q1), .second, .val (.long q2), .second, .val (.long q3), .second, .val (.long q4), .second, .val (.int p5), .val (.ref b1), .val (.int (4 : Int32)), .val (.ref b59), .val (.int sel), .val (.long vv), .second, .val (.int (0 : Int32))] [(.int (lcmpW (f3 0) vv))])) (fun t kt => ?_) ?_
      · show Steps p.tables e below (Tj64.setTop (mkF m 177 #[.val (.long q0), .second, .val (.long q1), .second, .val (.long q2), .second, .val (.long q3), .second, .val (.long q4), .second, .val (.int p5), .val (.ref b1), .val (.int (4 : Int32)), .val (.ref b59), .val (.int sel), .val (.long vv), .second, .unset] [])) t
        refine XS.iconst Xj64.here hx rfl (hb hby at_177) ?_
        show Steps p.tables e below (Tj64.setTop (mkF m 178 #[.val (.long q0), .second, .val (.long q1), .second, .val (.long q2), .second, .val (.long q3), .second, .val (.long q4), .second, .val (.int p5), .val (.ref b1), .val (.int (4 : Int32)), .val (.ref b59), .val (.int sel), .val (.long vv), .second, .unset] [(.int (0 : Int32))])) t
        refine XS.istore Xj64.here hx rfl (hb hby at_178) rfl (l' := #[.val (.long q0), .second, .val (.long q1), .second, .val (.long q2), .second, .val (.long q3), .second, .val (.long q4), .second, .val (.int p5), .val (.ref b1), .val (.int (4 : Int32)), .val (.ref b59), .val (.int sel), .val (.long vv), .second, .val (.int (0 : Int32))]) rfl ?_
        show Steps p.tables e below (Tj64.setTop (mkF m 180 #[.val (.long q0), .second, .val (.long q1), .second, .val (.long q2), .second, .val (.long q3), .second, .val (.long q4), .second, .val (.int p5), .val (.ref b1), .val (.int (4 : Int32)), .val (.ref b59), .val (.int sel), .val (.long vv), .second, .val (.int (0 : Int32))] [])) t
        refine XS.iload Xj64.here hx rfl (hb hby at_180) rfl ?_
        show Steps p.tables e below (Tj64.setTop (mkF m 182 #[.val (.long q0), .second, .val (.long q1), .second, .val (.long q2), .second, .val (.long q3), .second, .val (.long q4), .second, .val (.int p5), .val (.ref b1), .val (.int (4 : Int32)), .val (.ref b59), .val (.int sel), .val (.long vv), .second, .val (.int (0 : Int32))] [(.int (4 : Int32))])) t
        refine XS.ifNo Xj64.here hx rfl (hb hby at_182) rfl (by decide) ?_
        show Steps p.tables e below (Tj64.setTop (mkF m 185 #[.val (.long q0), .second, .val (.long q1), .second, .val (.long q2), .second, .val (.long q3), .second, .val (.long q4), .second, .val (.int p5), .val (.ref b1), .val (.int (4 : Int32)), .val (.ref b59), .val (.int sel), .val (.long vv), .second, .val (.int (0 : Int32))] [])) t
        refine XS.aload Xj64.here hx rfl (hb hby at_185) rfl rfl ?_
        show Steps p.tables e below (Tj64.setTop (mkF m 187 #[.val (.long q0), .second, .val (.long q1), .second, .val (.long q2), .second, .val (.long q3), .second, .val (.long q4), .second, .val (.int p5), .val (.ref b1), .val (.int (4 : Int32)), .val (.ref b59), .val (.int sel), .val (.long vv), .second, .val (.int (0 : Int32))] [(.ref b59)])) t
        refine XS.iconst Xj64.here hx rfl (hb hby at_187) ?_
        show Steps p.tables e below (Tj64.setTop (mkF m 188 #[.val (.long q0), .second, .val (.long q1), .second, .val (.long q2), .second, .val (.long q3), .second, .val (.long q4), .second, .val (.int p5), .val (.ref b1), .val (.int (4 : Int32)), .val (.ref b59), .val (.int sel), .val (.long vv), .second, .val (.int (0 : Int32))] [(.int (0 : Int32)), (.ref b59)])) t
        refine own_laload Xj64 hx hZ ej64 B63 (i := 0) (by decide) (by decide) (g := (mkF m 188 #[.val (.long q0), .second, .val (.long q1), .second, .val (.long q2), .second, .val (.long q3), .second, .val (.long q4), .second, .val (.int p5), .val (.ref b1), .val (.int (4 : Int32)), .val (.ref b59), .val (.int sel), .val (.long vv), .second, .val (.int (0 : Int32))] [(.int (0 : Int32)), (.ref b59)])) rfl rfl (hb hby at_188) _ ?_
        show Steps p.tables e below (Tj64.setTop (mkF m 189 #[.val (.long q0), .second, .val (.long q1), .second, .val (.long q2), .second, .val (.long q3), .second, .val (.long q4), .second, .val (.int p5), .val (.ref b1), .val (.int (4 : Int32)), .val (.ref b59), .val (.int sel), .val (.long vv), .second, .val (.int (0 : Int32))] [(.long (f3 0))])) t
        refine XS.lload Xj64.here hx rfl (hb hby at_189) rfl ?_
        show Steps p.tables e below (Tj64.setTop (mkF m 191 #[.val (.long q0), .second, .val (.long q1), .second, .val (.long q2), .second, .val (.long q3), .second, .val (.long q4), .second, .val (.int p5), .val (.ref b1), .val (.int (4 : Int32)), .val (.ref b59), .val (.int sel), .val (.long vv), .second, .val (.int (0 : Int32))] [(.long vv), (.long (f3 0))])) t
        refine XS.lcmp Xj64.here hx rfl (hb hby at_191) rfl ?_
        show Steps p.tables e below (Tj64.setTop (mkF m 192 #[.val (.long q0), .second, .val (.long q1), .second, .val (.long q2), .second, .val (.long q3), .second, .val (.long q4), .second, .val (.int p5), .val (.ref b1), .val (.int (4 : Int32)), .val (.ref b59), .val (.int sel), .val (.long vv), .second, .val (.int (0 : Int32))] [(.int (lcmpW (f3 0) vv))])) t
        exact kt
      by_cases hc192_65 : (f3 0) < vv
      · refine own_go (T' := Tj64) (f' := (mkF m 211 #[.val (.long q0), .second, .val (.long q1), .second, .val (.long q2), .second, .val (.long q3), .second, .val (.long q4), .second, .val (.int p5), .val (.ref b1), .val (.int (4 : Int32)), .val (.ref b59), .val (.int sel), .val (.long vv), .second, .val (.int (1 : Int32))] [(.int (lcmpW (f3 1) vv))])) (fun t kt => ?_) ?_
        · show Steps p.tables e below (Tj64.setTop (mkF m 192 #[.val (.long q0), .second, .val (.long q1), .second, .val (.long q2), .second, .val (.long q3), .second, .val (.long q4), .second, .val (.int p5), .val (.ref b1), .val (.int (4 : Int32)), .val (.ref b59), .val (.int sel), .val (.long vv), .second, .val (.int (0 : Int32))] [(.int (lcmpW (f3 0) vv))])) t
          refine XS.ifNo Xj64.here hx rfl (hb hby at_192) rfl (own_lN_ge hc192_65) ?_
          show Steps p.tables e below (Tj64.setTop (mkF m 195 #[.val (.long q0), .second, .val (.long q1), .second, .val (.long q2), .second, .val (.long q3), .second, .val (.long q4), .second, .val (.int p5), .val (.ref b1), .val (.int (4 : Int32)), .val (.ref b59), .val (.int sel), .val (.long vv), .second, .val (.int (0 : Int32))] [])) t
          refine XS.iinc Xj64.here hx rfl (hb hby at_195) rfl (l' := #[.val (.long q0), .second, .val (.long q1), .second, .val (.long q2), .second, .val (.long q3), .second, .val (.long q4), .second, .val (.int p5), .val (.ref b1), .val (.int (4 : Int32)), .val (.ref b59), .val (.int sel), .val (.long vv), .second, .val (.int (1 : Int32))]) rfl ?_
          show Steps p.tables e below (Tj64.setTop (mkF m 198 #[.val (.long q0), .second, .val (.long q1), .second, .val (.long q2), .second, .val (.long q3), .second, .val (.long q4), .second, .val (.int p5), .val (.ref b1), .val (.int (4 : Int32)), .val (.ref b59), .val (.int sel), .val (.long vv), .second, .val (.int (1 : Int32))] [])) t
          refine XS.iload Xj64.here hx rfl (hb hby at_198) rfl ?_
          show Steps p.tables e below (Tj64.setTop (mkF m 200 #[.val (.long q0), .second, .val (.long q1), .second, .val (.long q2), .second, .val (.long q3), .second, .val (.long q4), .second, .val (.int p5), .val (.ref b1), .val (.int (4 : Int32)), .val (.ref b59), .val (.int sel), .val (.long vv), .second, .val (.int (1 : Int32))] [(.int (4 : Int32))])) t
          refine XS.iconst Xj64.here hx rfl (hb hby at_200) ?_
          show Steps p.tables e below (Tj64.setTop (mkF m 201 #[.val (.long q0), .second, .val (.long q1), .second, .val (.long q2), .second, .val (.long q3), .second, .val (.long q4), .second, .val (.int p5), .val (.ref b1), .val (.int (4 : Int32)), .val (.ref b59), .val (.int sel), .val (.long vv), .second, .val (.int (1 : Int32))] [(.int (1 : Int32)), (.int (4 : Int32))])) t
          refine XS.icmpNo Xj64.here hx rfl (hb hby at_201) rfl (by decide) ?_
          show Steps p.tables e below (Tj64.setTop (mkF m 204 #[.val (.long q0), .second, .val (.long q1), .second, .val (.long q2), .second, .val (.long q3), .second, .val (.long q4), .second, .val (.int p5), .val (.ref b1), .val (.int (4 : Int32)), .val (.ref b59), .val (.int sel), .val (.long vv), .second, .val (.int (1 : Int32))] [])) t
          refine XS.aload Xj64.here hx rfl (hb hby at_204) rfl rfl ?_
          show Steps p.tables e below (Tj64.setTop (mkF m 206 #[.val (.long q0), .second, .val (.long q1), .second, .val (.long q2), .second, .val (.long q3), .second, .val (.long q4), .second, .val (.int p5), .val (.ref b1), .val (.int (4 : Int32)), .val (.ref b59), .val (.int sel), .val (.long vv), .second, .val (.int (1 : Int32))] [(.ref b59)])) t
          refine XS.iconst Xj64.here hx rfl (hb hby at_206) ?_
          show Steps p.tables e below (Tj64.setTop (mkF m 207 #[.val (.long q0), .second, .val (.long q1), .second, .val (.long q2), .second, .val (.long q3), .second, .val (.long q4), .second, .val (.int p5), .val (.ref b1), .val (.int (4 : Int32)), .val (.ref b59), .val (.int sel), .val (.long vv), .second, .val (.int (1 : Int32))] [(.int (1 : Int32)), (.ref b59)])) t
          refine own_laload Xj64 hx hZ ej64 B63 (i := 1) (by decide) (by decide) (g := (mkF m 207 #[.val (.long q0), .second, .val (.long q1), .second, .val (.long q2), .second, .val (.long q3), .second, .val (.long q4), .second, .val (.int p5), .val (.ref b1), .val (.int (4 : Int32)), .val (.ref b59), .val (.int sel), .val (.long vv), .second, .val (.int (1 : Int32))] [(.int (1 : Int32)), (.ref b59)])) rfl rfl (hb hby at_207) _ ?_
          show Steps p.tables e below (Tj64.setTop (mkF m 208 #[.val (.long q0), .second, .val (.long q1), .second, .val (.long q2), .second, .val (.long q3), .second, .val (.long q4), .second, .val (.int p5), .val (.ref b1), .val (.int (4 : Int32)), .val (.ref b59), .val (.int sel), .val (.long vv), .second, .val (.int (1 : Int32))] [(.long (f3 1))])) t
          refine XS.lload Xj64.here hx rfl (hb hby at_208) rfl ?_
          show Steps p.tables e below (Tj64.setTop (mkF m 210 #[.val (.long q0), .second, .val (.long q1), .second, .val (.long q2), .second, .val (.long q3), .second, .val (.long q4), .second, .val (.int p5), .val (.ref b1), .val (.int (4 : Int32)), .val (.ref b59), .val (.int sel), .val (.long vv), .second, .val (.int (1 : Int32))] [(.long vv), (.long (f3 1))])) t
          refine XS.lcmp Xj64.here hx rfl (hb hby at_210) rfl ?_
          show Steps p.tables e below (Tj64.setTop (mkF m 211 #[.val (.long q0), .second, .val (.long q1), .second, .val (.long q2), .second, .val (.long q3), .second, .val (.long q4), .second, .val (.int p5), .val (.ref b1), .val (.int (4 : Int32)), .val (.ref b59), .val (.int sel), .val (.long vv), .second, .val (.int (1 : Int32))] [(.int (lcmpW (f3 1) vv))])) t
          exact kt
        by_cases hc211_66 : (f3 1) < vv
        · refine own_go (T' := Tj64) (f' := (mkF m 230 #[.val (.long q0), .second, .val (.long q1), .second, .val (.long q2), .second, .val (.long q3), .second, .val (.long q4), .second, .val (.int p5), .val (.ref b1), .val (.int (4 : Int32)), .val (.ref b59), .val (.int sel), .val (.long vv), .second, .val (.int (2 : Int32))] [(.int (lcmpW (f3 2) vv))])) (fun t kt => ?_) ?_
          · show Steps p.tables e below (Tj64.setTop (mkF m 211 #[.val (.long q0), .second, .val (.long q1), .second, .val (.long q2), .second, .val (.long q3), .second, .val (.long q4), .second, .val (.int p5), .val (.ref b1), .val (.int (4 : Int32)), .val (.ref b59), .val (.int sel), .val (.long vv), .second, .val (.int (1 : Int32))] [(.int (lcmpW (f3 1) vv))])) t
            refine XS.ifNo Xj64.here hx rfl (hb hby at_211) rfl (own_lN_ge hc211_66) ?_
            show Steps p.tables e below (Tj64.setTop (mkF m 214 #[.val (.long q0), .second, .val (.long q1), .second, .val (.long q2), .second, .val (.long q3), .second, .val (.long q4), .second, .val (.int p5), .val (.ref b1), .val (.int (4 : Int32)), .val (.ref b59), .val (.int sel), .val (.long vv), .second, .val (.int (1 : Int32))] [])) t
            refine XS.iinc Xj64.here hx rfl (hb hby at_214) rfl (l' := #[.val (.long q0), .second, .val (.long q1), .second, .val (.long q2), .second, .val (.long q3), .second, .val (.long q4), .second, .val (.int p5), .val (.ref b1), .val (.int (4 : Int32)), .val (.ref b59), .val (.int sel), .val (.long vv), .second, .val (.int (2 : Int32))]) rfl ?_
            show Steps p.tables e below (Tj64.setTop (mkF m 217 #[.val (.long q0), .second, .val (.long q1), .second, .val (.long q2), .second, .val (.long q3), .second, .val (.long q4), .second, .val (.int p5), .val (.ref b1), .val (.int (4 : Int32)), .val (.ref b59), .val (.int sel), .val (.long vv), .second, .val (.int (2 : Int32))] [])) t
            refine XS.iload Xj64.here hx rfl (hb hby at_217) rfl ?_
            show Steps p.tables e below (Tj64.setTop (mkF m 219 #[.val (.long q0), .second, .val (.long q1), .second, .val (.long q2), .second, .val (.long q3), .second, .val (.long q4), .second, .val (.int p5), .val (.ref b1), .val (.int (4 : Int32)), .val (.ref b59), .val (.int sel), .val (.long vv), .second, .val (.int (2 : Int32))] [(.int (4 : Int32))])) t
            refine XS.iconst Xj64.here hx rfl (hb hby at_219) ?_
            show Steps p.tables e below (Tj64.setTop (mkF m 220 #[.val (.long q0), .second, .val (.long q1), .second, .val (.long q2), .second, .val (.long q3), .second, .val (.long q4), .second, .val (.int p5), .val (.ref b1), .val (.int (4 : Int32)), .val (.ref b59), .val (.int sel), .val (.long vv), .second, .val (.int (2 : Int32))] [(.int (2 : Int32)), (.int (4 : Int32))])) t
            refine XS.icmpNo Xj64.here hx rfl (hb hby at_220) rfl (by decide) ?_
            show Steps p.tables e below (Tj64.setTop (mkF m 223 #[.val (.long q0), .second, .val (.long q1), .second, .val (.long q2), .second, .val (.long q3), .second, .val (.long q4), .second, .val (.int p5), .val (.ref b1), .val (.int (4 : Int32)), .val (.ref b59), .val (.int sel), .val (.long vv), .second, .val (.int (2 : Int32))] [])) t
            refine XS.aload Xj64.here hx rfl (hb hby at_223) rfl rfl ?_
            show Steps p.tables e below (Tj64.setTop (mkF m 225 #[.val (.long q0), .second, .val (.long q1), .second, .val (.long q2), .second, .val (.long q3), .second, .val (.long q4), .second, .val (.int p5), .val (.ref b1), .val (.int (4 : Int32)), .val (.ref b59), .val (.int sel), .val (.long vv), .second, .val (.int (2 : Int32))] [(.ref b59)])) t
            refine XS.iconst Xj64.here hx rfl (hb hby at_225) ?_
            show Steps p.tables e below (Tj64.setTop (mkF m 226 #[.val (.long q0), .second, .val (.long q1), .second, .val (.long q2), .second, .val (.long q3), .second, .val (.long q4), .second, .val (.int p5), .val (.ref b1), .val (.int (4 : Int32)), .val (.ref b59), .val (.int sel), .val (.long vv), .second, .val (.int (2 : Int32))] [(.int (2 : Int32)), (.ref b59)])) t
            refine own_laload Xj64 hx hZ ej64 B63 (i := 2) (by decide) (by decide) (g := (mkF m 226 #[.val (.long q0), .second, .val (.long q1), .second, .val (.long q2), .second, .val (.long q3), .second, .val (.long q4), .second, .val (.int p5), .val (.ref b1), .val (.int (4 : Int32)), .val (.ref b59), .val (.int sel), .val (.long vv), .second, .val (.int (2 : Int32))] [(.int (2 : Int32)), (.ref b59)])) rfl rfl (hb hby at_226) _ ?_
            show Steps p.tables e below (Tj64.setTop (mkF m 227 #[.val (.long q0), .second, .val (.long q1), .second, .val (.long q2), .second, .val (.long q3), .second, .val (.long q4), .second, .val (.int p5), .val (.ref b1), .val (.int (4 : Int32)), .val (.ref b59), .val (.int sel), .val (.long vv), .second, .val (.int (2 : Int32))] [(.long (f3 2))])) t
            refine XS.lload Xj64.here hx rfl (hb hby at_227) rfl ?_
            show Steps p.tables e below (Tj64.setTop (mkF m 229 #[.val (.long q0), .second, .val (.long q1), .second, .val (.long q2), .second, .val (.long q3), .second, .val (.long q4), .second, .val (.int p5), .val (.ref b1), .val (.int (4 : Int32)), .val (.ref b59), .val (.int sel), .val (.long vv), .second, .val (.int (2 : Int32))] [(.long vv), (.long (f3 2))])) t
            refine XS.lcmp Xj64.here hx rfl (hb hby at_229) rfl ?_
            show Steps p.tables e below (Tj64.setTop (mkF m 230 #[.val (.long q0), .second, .val (.long q1), .second, .val (.long q2), .second, .val (.long q3), .second, .val (.long q4), .second, .val (.int p5), .val (.ref b1), .val (.int (4 : Int32)), .val (.ref b59), .val (.int sel), .val (.long vv), .second, .val (.int (2 : Int32))] [(.int (lcmpW (f3 2) vv))])) t
            exact kt
          by_cases hc230_67 : (f3 2) < vv
          · refine own_go (T' := Tj64) (f' := (mkF m 249 #[.val (.long q0), .second, .val (.long q1), .second, .val (.long q2), .second, .val (.long q3), .second, .val (.long q4), .second, .val (.int p5), .val (.ref b1), .val (.int (4 : Int32)), .val (.ref b59), .val (.int sel), .val (.long vv), .second, .val (.int (3 : Int32))] [(.int (lcmpW (f3 3) vv))])) (fun t kt => ?_) ?_
            · show Steps p.tables e below (Tj64.setTop (mkF m 230 #[.val (.long q0), .second, .val (.long q1), .second, .val (.long q2), .second, .val (.long q3), .second, .val (.long q4), .second, .val (.int p5), .val (.ref b1), .val (.int (4 : Int32)), .val (.ref b59), .val (.int sel), .val (.long vv), .second, .val (.int (2 : Int32))] [(.int (lcmpW (f3 2) vv))])) t
              refine XS.ifNo Xj64.here hx rfl (hb hby at_230) rfl (own_lN_ge hc230_67) ?_
              show Steps p.tables e below (Tj64.setTop (mkF m 233 #[.val (.long q0), .second, .val (.long q1), .second, .val (.long q2), .second, .val (.long q3), .second, .val (.long q4), .second, .val (.int p5), .val (.ref b1), .val (.int (4 : Int32)), .val (.ref b59), .val (.int sel), .val (.long vv), .second, .val (.int (2 : Int32))] [])) t
              refine XS.iinc Xj64.here hx rfl (hb hby at_233) rfl (l' := #[.val (.long q0), .second, .val (.long q1), .second, .val (.long q2), .second, .val (.long q3), .second, .val (.long q4), .second, .val (.int p5), .val (.ref b1), .val (.int (4 : Int32)), .val (.ref b59), .val (.int sel), .val (.long vv), .second, .val (.int (3 : Int32))]) rfl ?_
              show Steps p.tables e below (Tj64.setTop (mkF m 236 #[.val (.long q0), .second, .val (.long q1), .second, .val (.long q2), .second, .val (.long q3), .second, .val (.long q4), .second, .val (.int p5), .val (.ref b1), .val (.int (4 : Int32)), .val (.ref b59), .val (.int sel), .val (.long vv), .second, .val (.int (3 : Int32))] [])) t
              refine XS.iload Xj64.here hx rfl (hb hby at_236) rfl ?_
              show Steps p.tables e below (Tj64.setTop (mkF m 238 #[.val (.long q0), .second, .val (.long q1), .second, .val (.long q2), .second, .val (.long q3), .second, .val (.long q4), .second, .val (.int p5), .val (.ref b1), .val (.int (4 : Int32)), .val (.ref b59), .val (.int sel), .val (.long vv), .second, .val (.int (3 : Int32))] [(.int (4 : Int32))])) t
              refine XS.iconst Xj64.here hx rfl (hb hby at_238) ?_
              show Steps p.tables e below (Tj64.setTop (mkF m 239 #[.val (.long q0), .second, .val (.long q1), .second, .val (.long q2), .second, .val (.long q3), .second, .val (.long q4), .second, .val (.int p5), .val (.ref b1), .val (.int (4 : Int32)), .val (.ref b59), .val (.int sel), .val (.long vv), .second, .val (.int (3 : Int32))] [(.int (3 : Int32)), (.int (4 : Int32))])) t
              refine XS.icmpNo Xj64.here hx rfl (hb hby at_239) rfl (by decide) ?_
              show Steps p.tables e below (Tj64.setTop (mkF m 242 #[.val (.long q0), .second, .val (.long q1), .second, .val (.long q2), .second, .val (.long q3), .second, .val (.long q4), .second, .val (.int p5), .val (.ref b1), .val (.int (4 : Int32)), .val (.ref b59), .val (.int sel), .val (.long vv), .second, .val (.int (3 : Int32))] [])) t
              refine XS.aload Xj64.here hx rfl (hb hby at_242) rfl rfl ?_
              show Steps p.tables e below (Tj64.setTop (mkF m 244 #[.val (.long q0), .second, .val (.long q1), .second, .val (.long q2), .second, .val (.long q3), .second, .val (.long q4), .second, .val (.int p5), .val (.ref b1), .val (.int (4 : Int32)), .val (.ref b59), .val (.int sel), .val (.long vv), .second, .val (.int (3 : Int32))] [(.ref b59)])) t
              refine XS.iconst Xj64.here hx rfl (hb hby at_244) ?_
              show Steps p.tables e below (Tj64.setTop (mkF m 245 #[.val (.long q0), .second, .val (.long q1), .second, .val (.long q2), .second, .val (.long q3), .second, .val (.long q4), .second, .val (.int p5), .val (.ref b1), .val (.int (4 : Int32)), .val (.ref b59), .val (.int sel), .val (.long vv), .second, .val (.int (3 : Int32))] [(.int (3 : Int32)), (.ref b59)])) t
              refine own_laload Xj64 hx hZ ej64 B63 (i := 3) (by decide) (by decide) (g := (mkF m 245 #[.val (.long q0), .second, .val (.long q1), .second, .val (.long q2), .second, .val (.long q3), .second, .val (.long q4), .second, .val (.int p5), .val (.ref b1), .val (.int (4 : Int32)), .val (.ref b59), .val (.int sel), .val (.long vv), .second, .val (.int (3 : Int32))] [(.int (3 : Int32)), (.ref b59)])) rfl rfl (hb hby at_245) _ ?_
              show Steps p.tables e below (Tj64.setTop (mkF m 246 #[.val (.long q0), .second, .val (.long q1), .second, .val (.long q2), .second, .val (.long q3), .second, .val (.long q4), .second, .val (.int p5), .val (.ref b1), .val (.int (4 : Int32)), .val (.ref b59), .val (.int sel), .val (.long vv), .second, .val (.int (3 : Int32))] [(.long (f3 3))])) t
              refine XS.lload Xj64.here hx rfl (hb hby at_246) rfl ?_
              show Steps p.tables e below (Tj64.setTop (mkF m 248 #[.val (.long q0), .second, .val (.long q1), .second, .val (.long q2), .second, .val (.long q3), .second, .val (.long q4), .second, .val (.int p5), .val (.ref b1), .val (.int (4 : Int32)), .val (.ref b59), .val (.int sel), .val (.long vv), .second, .val (.int (3 : Int32))] [(.long vv), (.long (f3 3))])) t
              refine XS.lcmp Xj64.here hx rfl (hb hby at_248) rfl ?_
              show Steps p.tables e below (Tj64.setTop (mkF m 249 #[.val (.long q0), .second, .val (.long q1), .second, .val (.long q2), .second, .val (.long q3), .second, .val (.long q4), .second, .val (.int p5), .val (.ref b1), .val (.int (4 : Int32)), .val (.ref b59), .val (.int sel), .val (.long vv), .second, .val (.int (3 : Int32))] [(.int (lcmpW (f3 3) vv))])) t
              exact kt
            by_cases hc249_68 : (f3 3) < vv
            · refine own_go (T' := Tj64) (f' := (mkF m 259 #[.val (.long q0), .second, .val (.long q1), .second, .val (.long q2), .second, .val (.long q3), .second, .val (.long q4), .second, .val (.int p5), .val (.ref b1), .val (.int (4 : Int32)), .val (.ref b59), .val (.int sel), .val (.long vv), .second, .val (.int (4 : Int32))] [(.long vv), (.ref b59)])) (fun t kt => ?_) ?_
              · show Steps p.tables e below (Tj64.setTop (mkF m 249 #[.val (.long q0), .second, .val (.long q1), .second, .val (.long q2), .second, .val (.long q3), .second, .val (.long q4), .second, .val (.int p5), .val (.ref b1), .val (.int (4 : Int32)), .val (.ref b59), .val (.int sel), .val (.long vv), .second, .val (.int (3 : Int32))] [(.int (lcmpW (f3 3) vv))])) t
                refine XS.ifNo Xj64.here hx rfl (hb hby at_249) rfl (own_lN_ge hc249_68) ?_
                show Steps p.tables e below (Tj64.setTop (mkF m 252 #[.val (.long q0), .second, .val (.long q1), .second, .val (.long q2), .second, .val (.long q3), .second, .val (.long q4), .second, .val (.int p5), .val (.ref b1), .val (.int (4 : Int32)), .val (.ref b59), .val (.int sel), .val (.long vv), .second, .val (.int (3 : Int32))] [])) t
                refine XS.iinc Xj64.here hx rfl (hb hby at_252) rfl (l' := #[.val (.long q0), .second, .val (.long q1), .second, .val (.long q2), .second, .val (.long q3), .second, .val (.long q4), .second, .val (.int p5), .val (.ref b1), .val (.int (4 : Int32)), .val (.ref b59), .val (.int sel), .val (.long vv), .second, .val (.int (4 : Int32))]) rfl ?_
                show Steps p.tables e below (Tj64.setTop (mkF m 255 #[.val (.long q0), .second, .val (.long q1), .second, .val (.long q2), .second, .val (.long q3), .second, .val (.long q4), .second, .val (.int p5), .val (.ref b1), .val (.int (4 : Int32)), .val (.ref b59), .val (.int sel), .val (.long vv), .second, .val (.int (4 : Int32))] [])) t
                refine XS.aload Xj64.here hx rfl (hb hby at_255) rfl rfl ?_
                show Steps p.tables e below (Tj64.setTop (mkF m 257 #[.val (.long q0), .second, .val (.long q1), .second, .val (.long q2), .second, .val (.long q3), .second, .val (.long q4), .second, .val (.int p5), .val (.ref b1), .val (.int (4 : Int32)), .val (.ref b59), .val (.int sel), .val (.long vv), .second, .val (.int (4 : Int32))] [(.ref b59)])) t
                refine XS.lload Xj64.here hx rfl (hb hby at_257) rfl ?_
                show Steps p.tables e below (Tj64.setTop (mkF m 259 #[.val (.long q0), .second, .val (.long q1), .second, .val (.long q2), .second, .val (.long q3), .second, .val (.long q4), .second, .val (.int p5), .val (.ref b1), .val (.int (4 : Int32)), .val (.ref b59), .val (.int sel), .val (.long vv), .second, .val (.int (4 : Int32))] [(.long vv), (.ref b59)])) t
                exact kt
              refine own_callSp Xj64 hx hZ hown ej64 (hw _ (List.mem_of_getElem? (i := 5) rfl)) (hw _ (List.mem_of_getElem? (i := 6) rfl)) (hw _ (List.mem_of_getElem? (i := 7) rfl)) (hw _ (List.mem_of_getElem? (i := 8) rfl)) (by decide) (rm2 l Z aw hw b59 vv 4 f3 (4 : Int32) h63 n0 Z63 B63 (by decide) (by decide) (own_p4 hf0 hf1 hf2 hf3 (own_net ht1 ht2 ht3 ht4 ht5))) (g := (mkF m 259 #[.val (.long q0), .second, .val (.long q1), .second, .val (.long q2), .second, .val (.long q3), .second, .val (.long q4), .second, .val (.int p5), .val (.ref b1), .val (.int (4 : Int32)), .val (.ref b59), .val (.int sel), .val (.long vv), .second, .val (.int (4 : Int32))] [(.long vv), (.ref b59)])) rfl (by rw [hml]; rfl) (argsL := [(.ref b59), (.long vv)]) (rest := []) (lenOf pd_1 rfl) rfl rfl (W := 0) (by show 2 * 0 + _ ≤ _; exact Nat.le_of_eq rfl) (hb hby at_259) (by decide) (by decide) (by decide) (by decide) ?_
              intro T69 X69 e69
              refine own_go (T' := T69) (f' := (mkF m 272 #[.val (.long q0), .second, .val (.long q1), .second, .val (.long q2), .second, .val (.long q3), .second, .val (.long q4), .second, .val (.int p5), .val (.ref b1), .val (.int (4 : Int32)), .val (.ref b59), .val (.int sel), .val (.long vv), .second, .val (.int (4 : Int32))] [(.int (1 : Int32))])) (fun t kt => ?_) ?_
              · show Steps p.tables e below (T69.setTop (mkF m 262 #[.val (.long q0), .second, .val (.long q1), .second, .val (.long q2), .second, .val (.long q3), .second, .val (.long q4), .second, .val (.int p5), .val (.ref b1), .val (.int (4 : Int32)), .val (.ref b59), .val (.int sel), .val (.long vv), .second, .val (.int (4 : Int32))] [(.int (Int32.ofNat (own_cnt 4 f3 vv)))])) t
                refine XS.iload X69.here hx rfl (hb hby at_262) rfl ?_
                show Steps p.tables e below (T69.setTop (mkF m 264 #[.val (.long q0), .second, .val (.long q1), .second, .val (.long q2), .second, .val (.long q3), .second, .val (.long q4), .second, .val (.int p5), .val (.ref b1), .val (.int (4 : Int32)), .val (.ref b59), .val (.int sel), .val (.long vv), .second, .val (.int (4 : Int32))] [(.int (4 : Int32)), (.int (Int32.ofNat (own_cnt 4 f3 vv)))])) t
                refine XS.icmpNo X69.here hx rfl (hb hby at_264) rfl (teq (show (Int32.ofNat (own_cnt 4 f3 vv)) = (4 : Int32) from by simp only [own_cnt, if_pos hc192_65, if_pos hc211_66, if_pos hc230_67, if_pos hc249_68]; rfl)).2 ?_
                show Steps p.tables e below (T69.setTop (mkF m 267 #[.val (.long q0), .second, .val (.long q1), .second, .val (.long q2), .second, .val (.long q3), .second, .val (.long q4), .second, .val (.int p5), .val (.ref b1), .val (.int (4 : Int32)), .val (.ref b59), .val (.int sel), .val (.long vv), .second, .val (.int (4 : Int32))] [])) t
                refine XS.iconst X69.here hx rfl (hb hby at_267) ?_
                show Steps p.tables e below (T69.setTop (mkF m 268 #[.val (.long q0), .second, .val (.long q1), .second, .val (.long q2), .second, .val (.long q3), .second, .val (.long q4), .second, .val (.int p5), .val (.ref b1), .val (.int (4 : Int32)), .val (.ref b59), .val (.int sel), .val (.long vv), .second, .val (.int (4 : Int32))] [(.int (1 : Int32))])) t
                refine XS.goto X69.here hx rfl (pc0 := 268) (pc' := 272) rfl (hb hby at_268) (by decide) (by decide) ?_
                show Steps p.tables e below (T69.setTop (mkF m 272 #[.val (.long q0), .second, .val (.long q1), .second, .val (.long q2), .second, .val (.long q3), .second, .val (.long q4), .second, .val (.int p5), .val (.ref b1), .val (.int (4 : Int32)), .val (.ref b59), .val (.int sel), .val (.long vv), .second, .val (.int (4 : Int32))] [(.int (1 : Int32))])) t
                exact kt
              exact own_retN X69 hP hx hlk e69 (t := .boolean) hret (by simp) (hb hby at_272) (by decide) (by decide) (z' := (1 : Int32)) rfl ⟨rfl, Nj64⟩
            · refine own_go (T' := Tj64) (f' := (mkF m 259 #[.val (.long q0), .second, .val (.long q1), .second, .val (.long q2), .second, .val (.long q3), .second, .val (.long q4), .second, .val (.int p5), .val (.ref b1), .val (.int (4 : Int32)), .val (.ref b59), .val (.int sel), .val (.long vv), .second, .val (.int (3 : Int32))] [(.long vv), (.ref b59)])) (fun t kt => ?_) ?_
              · show Steps p.tables e below (Tj64.setTop (mkF m 249 #[.val (.long q0), .second, .val (.long q1), .second, .val (.long q2), .second, .val (.long q3), .second, .val (.long q4), .second, .val (.int p5), .val (.ref b1), .val (.int (4 : Int32)), .val (.ref b59), .val (.int sel), .val (.long vv), .second, .val (.int (3 : Int32))] [(.int (lcmpW (f3 3) vv))])) t
                refine XS.ifYes Xj64.here hx rfl (pc0 := 249) (pc' := 255) rfl (hb hby at_249) rfl (own_lY_ge hc249_68) (by decide) (by decide) ?_
                show Steps p.tables e below (Tj64.setTop (mkF m 255 #[.val (.long q0), .second, .val (.long q1), .second, .val (.long q2), .second, .val (.long q3), .second, .val (.long q4), .second, .val (.int p5), .val (.ref b1), .val (.int (4 : Int32)), .val (.ref b59), .val (.int sel), .val (.long vv), .second, .val (.int (3 : Int32))] [])) t
                refine XS.aload Xj64.here hx rfl (hb hby at_255) rfl rfl ?_
                show Steps p.tables e below (Tj64.setTop (mkF m 257 #[.val (.long q0), .second, .val (.long q1), .second, .val (.long q2), .second, .val (.long q3), .second, .val (.long q4), .second, .val (.int p5), .val (.ref b1), .val (.int (4 : Int32)), .val (.ref b59), .val (.int sel), .val (.long vv), .second, .val (.int (3 : Int32))] [(.ref b59)])) t
                refine XS.lload Xj64.here hx rfl (hb hby at_257) rfl ?_
                show Steps p.tables e below (Tj64.setTop (mkF m 259 #[.val (.long q0), .second, .val (.long q1), .second, .val (.long q2), .second, .val (.long q3), .second, .val (.long q4), .second, .val (.int p5), .val (.ref b1), .val (.int (4 : Int32)), .val (.ref b59), .val (.int sel), .val (.long vv), .second, .val (.int (3 : Int32))] [(.long vv), (.ref b59)])) t
                exact kt
              refine own_callSp Xj64 hx hZ hown ej64 (hw _ (List.mem_of_getElem? (i := 5) rfl)) (hw _ (List.mem_of_getElem? (i := 6) rfl)) (hw _ (List.mem_of_getElem? (i := 7) rfl)) (hw _ (List.mem_of_getElem? (i := 8) rfl)) (by decide) (rm2 l Z aw hw b59 vv 4 f3 (4 : Int32) h63 n0 Z63 B63 (by decide) (by decide) (own_p4 hf0 hf1 hf2 hf3 (own_net ht1 ht2 ht3 ht4 ht5))) (g := (mkF m 259 #[.val (.long q0), .second, .val (.long q1), .second, .val (.long q2), .second, .val (.long q3), .second, .val (.long q4), .second, .val (.int p5), .val (.ref b1), .val (.int (4 : Int32)), .val (.ref b59), .val (.int sel), .val (.long vv), .second, .val (.int (3 : Int32))] [(.long vv), (.ref b59)])) rfl (by rw [hml]; rfl) (argsL := [(.ref b59), (.long vv)]) (rest := []) (lenOf pd_1 rfl) rfl rfl (W := 0) (by show 2 * 0 + _ ≤ _; exact Nat.le_of_eq rfl) (hb hby at_259) (by decide) (by decide) (by decide) (by decide) ?_
              intro T70 X70 e70
              refine own_go (T' := T70) (f' := (mkF m 272 #[.val (.long q0), .second, .val (.long q1), .second, .val (.long q2), .second, .val (.long q3), .second, .val (.long q4), .second, .val (.int p5), .val (.ref b1), .val (.int (4 : Int32)), .val (.ref b59), .val (.int sel), .val (.long vv), .second, .val (.int (3 : Int32))] [(.int (1 : Int32))])) (fun t kt => ?_) ?_
              · show Steps p.tables e below (T70.setTop (mkF m 262 #[.val (.long q0), .second, .val (.long q1), .second, .val (.long q2), .second, .val (.long q3), .second, .val (.long q4), .second, .val (.int p5), .val (.ref b1), .val (.int (4 : Int32)), .val (.ref b59), .val (.int sel), .val (.long vv), .second, .val (.int (3 : Int32))] [(.int (Int32.ofNat (own_cnt 4 f3 vv)))])) t
                refine XS.iload X70.here hx rfl (hb hby at_262) rfl ?_
                show Steps p.tables e below (T70.setTop (mkF m 264 #[.val (.long q0), .second, .val (.long q1), .second, .val (.long q2), .second, .val (.long q3), .second, .val (.long q4), .second, .val (.int p5), .val (.ref b1), .val (.int (4 : Int32)), .val (.ref b59), .val (.int sel), .val (.long vv), .second, .val (.int (3 : Int32))] [(.int (3 : Int32)), (.int (Int32.ofNat (own_cnt 4 f3 vv)))])) t
                refine XS.icmpNo X70.here hx rfl (hb hby at_264) rfl (teq (show (Int32.ofNat (own_cnt 4 f3 vv)) = (3 : Int32) from by simp only [own_cnt, if_pos hc192_65, if_pos hc211_66, if_pos hc230_67, if_neg hc249_68]; rfl)).2 ?_
                show Steps p.tables e below (T70.setTop (mkF m 267 #[.val (.long q0), .second, .val (.long q1), .second, .val (.long q2), .second, .val (.long q3), .second, .val (.long q4), .second, .val (.int p5), .val (.ref b1), .val (.int (4 : Int32)), .val (.ref b59), .val (.int sel), .val (.long vv), .second, .val (.int (3 : Int32))] [])) t
                refine XS.iconst X70.here hx rfl (hb hby at_267) ?_
                show Steps p.tables e below (T70.setTop (mkF m 268 #[.val (.long q0), .second, .val (.long q1), .second, .val (.long q2), .second, .val (.long q3), .second, .val (.long q4), .second, .val (.int p5), .val (.ref b1), .val (.int (4 : Int32)), .val (.ref b59), .val (.int sel), .val (.long vv), .second, .val (.int (3 : Int32))] [(.int (1 : Int32))])) t
                refine XS.goto X70.here hx rfl (pc0 := 268) (pc' := 272) rfl (hb hby at_268) (by decide) (by decide) ?_
                show Steps p.tables e below (T70.setTop (mkF m 272 #[.val (.long q0), .second, .val (.long q1), .second, .val (.long q2), .second, .val (.long q3), .second, .val (.long q4), .second, .val (.int p5), .val (.ref b1), .val (.int (4 : Int32)), .val (.ref b59), .val (.int sel), .val (.long vv), .second, .val (.int (3 : Int32))] [(.int (1 : Int32))])) t
                exact kt
              exact own_retN X70 hP hx hlk e70 (t := .boolean) hret (by simp) (hb hby at_272) (by decide) (by decide) (z' := (1 : Int32)) rfl ⟨rfl, Nj64⟩
          · refine own_go (T' := Tj64) (f' := (mkF m 249 #[.val (.long q0), .second, .val (.long q1), .second, .val (.long q2), .second, .val (.long q3), .second, .val (.long q4), .second, .val (.int p5), .val (.ref b1), .val (.int (4 : Int32)), .val (.ref b59), .val (.int sel), .val (.long vv), .second, .val (.int (2 : Int32))] [(.int (lcmpW (f3 3) vv))])) (fun t kt => ?_) ?_
            · show Steps p.tables e below (Tj64.setTop (mkF m 230 #[.val (.long q0), .second, .val (.long q1), .second, .val (.long q2), .second, .val (.long q3), .second, .val (.long q4), .second, .val (.int p5), .val (.ref b1), .val (.int (4 : Int32)), .val (.ref b59), .val (.int sel), .val (.long vv), .second, .val (.int (2 : Int32))] [(.int (lcmpW (f3 2) vv))])) t
              refine XS.ifYes Xj64.here hx rfl (pc0 := 230) (pc' := 236) rfl (hb hby at_230) rfl (own_lY_ge hc230_67) (by decide) (by decide) ?_
              show Steps p.tables e below (Tj64.setTop (mkF m 236 #[.val (.long q0), .second, .val (.long q1), .second, .val (.long q2), .second, .val (.long q3), .second, .val (.long q4), .second, .val (.int p5), .val (.ref b1), .val (.int (4 : Int32)), .val (.ref b59), .val (.int sel), .val (.long vv), .second, .val (.int (2 : Int32))] [])) t
              refine XS.iload Xj64.here hx rfl (hb hby at_236) rfl ?_
              show Steps p.tables e below (Tj64.setTop (mkF m 238 #[.val (.long q0), .second, .val (.long q1), .second, .val (.long q2), .second, .val (.long q3), .second, .val (.long q4), .second, .val (.int p5), .val (.ref b1), .val (.int (4 : Int32)), .val (.ref b59), .val (.int sel), .val (.long vv), .second, .val (.int (2 : Int32))] [(.int (4 : Int32))])) t
              refine XS.iconst Xj64.here hx rfl (hb hby at_238) ?_
              show Steps p.tables e below (Tj64.setTop (mkF m 239 #[.val (.long q0), .second, .val (.long q1), .second, .val (.long q2), .second, .val (.long q3), .second, .val (.long q4), .second, .val (.int p5), .val (.ref b1), .val (.int (4 : Int32)), .val (.ref b59), .val (.int sel), .val (.long vv), .second, .val (.int (2 : Int32))] [(.int (3 : Int32)), (.int (4 : Int32))])) t
              refine XS.icmpNo Xj64.here hx rfl (hb hby at_239) rfl (by decide) ?_
              show Steps p.tables e below (Tj64.setTop (mkF m 242 #[.val (.long q0), .second, .val (.long q1), .second, .val (.long q2), .second, .val (.long q3), .second, .val (.long q4), .second, .val (.int p5), .val (.ref b1), .val (.int (4 : Int32)), .val (.ref b59), .val (.int sel), .val (.long vv), .second, .val (.int (2 : Int32))] [])) t
              refine XS.aload Xj64.here hx rfl (hb hby at_242) rfl rfl ?_
              show Steps p.tables e below (Tj64.setTop (mkF m 244 #[.val (.long q0), .second, .val (.long q1), .second, .val (.long q2), .second, .val (.long q3), .second, .val (.long q4), .second, .val (.int p5), .val (.ref b1), .val (.int (4 : Int32)), .val (.ref b59), .val (.int sel), .val (.long vv), .second, .val (.int (2 : Int32))] [(.ref b59)])) t
              refine XS.iconst Xj64.here hx rfl (hb hby at_244) ?_
              show Steps p.tables e below (Tj64.setTop (mkF m 245 #[.val (.long q0), .second, .val (.long q1), .second, .val (.long q2), .second, .val (.long q3), .second, .val (.long q4), .second, .val (.int p5), .val (.ref b1), .val (.int (4 : Int32)), .val (.ref b59), .val (.int sel), .val (.long vv), .second, .val (.int (2 : Int32))] [(.int (3 : Int32)), (.ref b59)])) t
              refine own_laload Xj64 hx hZ ej64 B63 (i := 3) (by decide) (by decide) (g := (mkF m 245 #[.val (.long q0), .second, .val (.long q1), .second, .val (.long q2), .second, .val (.long q3), .second, .val (.long q4), .second, .val (.int p5), .val (.ref b1), .val (.int (4 : Int32)), .val (.ref b59), .val (.int sel), .val (.long vv), .second, .val (.int (2 : Int32))] [(.int (3 : Int32)), (.ref b59)])) rfl rfl (hb hby at_245) _ ?_
              show Steps p.tables e below (Tj64.setTop (mkF m 246 #[.val (.long q0), .second, .val (.long q1), .second, .val (.long q2), .second, .val (.long q3), .second, .val (.long q4), .second, .val (.int p5), .val (.ref b1), .val (.int (4 : Int32)), .val (.ref b59), .val (.int sel), .val (.long vv), .second, .val (.int (2 : Int32))] [(.long (f3 3))])) t
              refine XS.lload Xj64.here hx rfl (hb hby at_246) rfl ?_
              show Steps p.tables e below (Tj64.setTop (mkF m 248 #[.val (.long q0), .second, .val (.long q1), .second, .val (.long q2), .second, .val (.long q3), .second, .val (.long q4), .second, .val (.int p5), .val (.ref b1), .val (.int (4 : Int32)), .val (.ref b59), .val (.int sel), .val (.long vv), .second, .val (.int (2 : Int32))] [(.long vv), (.long (f3 3))])) t
              refine XS.lcmp Xj64.here hx rfl (hb hby at_248) rfl ?_
              show Steps p.tables e below (Tj64.setTop (mkF m 249 #[.val (.long q0), .second, .val (.long q1), .second, .val (.long q2), .second, .val (.long q3), .second, .val (.long q4), .second, .val (.int p5), .val (.ref b1), .val (.int (4 : Int32)), .val (.ref b59), .val (.int sel), .val (.long vv), .second, .val (.int (2 : Int32))] [(.int (lcmpW (f3 3) vv))])) t
              exact kt
            by_cases hc249_71 : (f3 3) < vv
            · refine own_go (T' := Tj64) (f' := (mkF m 259 #[.val (.long q0), .second, .val (.long q1), .second, .val (.long q2), .second, .val (.long q3), .second, .val (.long q4), .second, .val (.int p5), .val (.ref b1), .val (.int (4 : Int32)), .val (.ref b59), .val (.int sel), .val (.long vv), .second, .val (.int (3 : Int32))] [(.long vv), (.ref b59)])) (fun t kt => ?_) ?_
              · show Steps p.tables e below (Tj64.setTop (mkF m 249 #[.val (.long q0), .second, .val (.long q1), .second, .val (.long q2), .second, .val (.long q3), .second, .val (.long q4), .second, .val (.int p5), .val (.ref b1), .val (.int (4 : Int32)), .val (.ref b59), .val (.int sel), .val (.long vv), .second, .val (.int (2 : Int32))] [(.int (lcmpW (f3 3) vv))])) t
                refine XS.ifNo Xj64.here hx rfl (hb hby at_249) rfl (own_lN_ge hc249_71) ?_
                show Steps p.tables e below (Tj64.setTop (mkF m 252 #[.val (.long q0), .second, .val (.long q1), .second, .val (.long q2), .second, .val (.long q3), .second, .val (.long q4), .second, .val (.int p5), .val (.ref b1), .val (.int (4 : Int32)), .val (.ref b59), .val (.int sel), .val (.long vv), .second, .val (.int (2 : Int32))] [])) t
                refine XS.iinc Xj64.here hx rfl (hb hby at_252) rfl (l' := #[.val (.long q0), .second, .val (.long q1), .second, .val (.long q2), .second, .val (.long q3), .second, .val (.long q4), .second, .val (.int p5), .val (.ref b1), .val (.int (4 : Int32)), .val (.ref b59), .val (.int sel), .val (.long vv), .second, .val (.int (3 : Int32))]) rfl ?_
                show Steps p.tables e below (Tj64.setTop (mkF m 255 #[.val (.long q0), .second, .val (.long q1), .second, .val (.long q2), .second, .val (.long q3), .second, .val (.long q4), .second, .val (.int p5), .val (.ref b1), .val (.int (4 : Int32)), .val (.ref b59), .val (.int sel), .val (.long vv), .second, .val (.int (3 : Int32))] [])) t
                refine XS.aload Xj64.here hx rfl (hb hby at_255) rfl rfl ?_
                show Steps p.tables e below (Tj64.setTop (mkF m 257 #[.val (.long q0), .second, .val (.long q1), .second, .val (.long q2), .second, .val (.long q3), .second, .val (.long q4), .second, .val (.int p5), .val (.ref b1), .val (.int (4 : Int32)), .val (.ref b59), .val (.int sel), .val (.long vv), .second, .val (.int (3 : Int32))] [(.ref b59)])) t
                refine XS.lload Xj64.here hx rfl (hb hby at_257) rfl ?_
                show Steps p.tables e below (Tj64.setTop (mkF m 259 #[.val (.long q0), .second, .val (.long q1), .second, .val (.long q2), .second, .val (.long q3), .second, .val (.long q4), .second, .val (.int p5), .val (.ref b1), .val (.int (4 : Int32)), .val (.ref b59), .val (.int sel), .val (.long vv), .second, .val (.int (3 : Int32))] [(.long vv), (.ref b59)])) t
                exact kt
              refine own_callSp Xj64 hx hZ hown ej64 (hw _ (List.mem_of_getElem? (i := 5) rfl)) (hw _ (List.mem_of_getElem? (i := 6) rfl)) (hw _ (List.mem_of_getElem? (i := 7) rfl)) (hw _ (List.mem_of_getElem? (i := 8) rfl)) (by decide) (rm2 l Z aw hw b59 vv 4 f3 (4 : Int32) h63 n0 Z63 B63 (by decide) (by decide) (own_p4 hf0 hf1 hf2 hf3 (own_net ht1 ht2 ht3 ht4 ht5))) (g := (mkF m 259 #[.val (.long q0), .second, .val (.long q1), .second, .val (.long q2), .second, .val (.long q3), .second, .val (.long q4), .second, .val (.int p5), .val (.ref b1), .val (.int (4 : Int32)), .val (.ref b59), .val (.int sel), .val (.long vv), .second, .val (.int (3 : Int32))] [(.long vv), (.ref b59)])) rfl (by rw [hml]; rfl) (argsL := [(.ref b59), (.long vv)]) (rest := []) (lenOf pd_1 rfl) rfl rfl (W := 0) (by show 2 * 0 + _ ≤ _; exact Nat.le_of_eq rfl) (hb hby at_259) (by decide) (by decide) (by decide) (by decide) ?_
              intro T72 X72 e72
              refine own_go (T' := T72) (f' := (mkF m 272 #[.val (.long q0), .second, .val (.long q1), .second, .val (.long q2), .second, .val (.long q3), .second, .val (.long q4), .second, .val (.int p5), .val (.ref b1), .val (.int (4 : Int32)), .val (.ref b59), .val (.int sel), .val (.long vv), .second, .val (.int (3 : Int32))] [(.int (1 : Int32))])) (fun t kt => ?_) ?_
              · show Steps p.tables e below (T72.setTop (mkF m 262 #[.val (.long q0), .second, .val (.long q1), .second, .val (.long q2), .second, .val (.long q3), .second, .val (.long q4), .second, .val (.int p5), .val (.ref b1), .val (.int (4 : Int32)), .val (.ref b59), .val (.int sel), .val (.long vv), .second, .val (.int (3 : Int32))] [(.int (Int32.ofNat (own_cnt 4 f3 vv)))])) t
                refine XS.iload X72.here hx rfl (hb hby at_262) rfl ?_
                show Steps p.tables e below (T72.setTop (mkF m 264 #[.val (.long q0), .second, .val (.long q1), .second, .val (.long q2), .second, .val (.long q3), .second, .val (.long q4), .second, .val (.int p5), .val (.ref b1), .val (.int (4 : Int32)), .val (.ref b59), .val (.int sel), .val (.long vv), .second, .val (.int (3 : Int32))] [(.int (3 : Int32)), (.int (Int32.ofNat (own_cnt 4 f3 vv)))])) t
                refine XS.icmpNo X72.here hx rfl (hb hby at_264) rfl (teq (show (Int32.ofNat (own_cnt 4 f3 vv)) = (3 : Int32) from by simp only [own_cnt, if_pos hc192_65, if_pos hc211_66, if_neg hc230_67, if_pos hc249_71]; rfl)).2 ?_
                show Steps p.tables e below (T72.setTop (mkF m 267 #[.val (.long q0), .second, .val (.long q1), .second, .val (.long q2), .second, .val (.long q3), .second, .val (.long q4), .second, .val (.int p5), .val (.ref b1), .val (.int (4 : Int32)), .val (.ref b59), .val (.int sel), .val (.long vv), .second, .val (.int (3 : Int32))] [])) t
                refine XS.iconst X72.here hx rfl (hb hby at_267) ?_
                show Steps p.tables e below (T72.setTop (mkF m 268 #[.val (.long q0), .second, .val (.long q1), .second, .val (.long q2), .second, .val (.long q3), .second, .val (.long q4), .second, .val (.int p5), .val (.ref b1), .val (.int (4 : Int32)), .val (.ref b59), .val (.int sel), .val (.long vv), .second, .val (.int (3 : Int32))] [(.int (1 : Int32))])) t
                refine XS.goto X72.here hx rfl (pc0 := 268) (pc' := 272) rfl (hb hby at_268) (by decide) (by decide) ?_
                show Steps p.tables e below (T72.setTop (mkF m 272 #[.val (.long q0), .second, .val (.long q1), .second, .val (.long q2), .second, .val (.long q3), .second, .val (.long q4), .second, .val (.int p5), .val (.ref b1), .val (.int (4 : Int32)), .val (.ref b59), .val (.int sel), .val (.long vv), .second, .val (.int (3 : Int32))] [(.int (1 : Int32))])) t
                exact kt
              exact own_retN X72 hP hx hlk e72 (t := .boolean) hret (by simp) (hb hby at_272) (by decide) (by decide) (z' := (1 : Int32)) rfl ⟨rfl, Nj64⟩
            · refine own_go (T' := Tj64) (f' := (mkF m 259 #[.val (.long q0), .second, .val (.long q1), .second, .val (.long q2), .second, .val (.long q3), .second, .val (.long q4), .second, .val (.int p5), .val (.ref b1), .val (.int (4 : Int32)), .val (.ref b59), .val (.int sel), .val (.long vv), .second, .val (.int (2 : Int32))] [(.long vv), (.ref b59)])) (fun t kt => ?_) ?_
              · show Steps p.tables e below (Tj64.setTop (mkF m 249 #[.val (.long q0), .second, .val (.long q1), .second, .val (.long q2), .second, .val (.long q3), .second, .val (.long q4), .second, .val (.int p5), .val (.ref b1), .val (.int (4 : Int32)), .val (.ref b59), .val (.int sel), .val (.long vv), .second, .val (.int (2 : Int32))] [(.int (lcmpW (f3 3) vv))])) t
                refine XS.ifYes Xj64.here hx rfl (pc0 := 249) (pc' := 255) rfl (hb hby at_249) rfl (own_lY_ge hc249_71) (by decide) (by decide) ?_
                show Steps p.tables e below (Tj64.setTop (mkF m 255 #[.val (.long q0), .second, .val (.long q1), .second, .val (.long q2), .second, .val (.long q3), .second, .val (.long q4), .second, .val (.int p5), .val (.ref b1), .val (.int (4 : Int32)), .val (.ref b59), .val (.int sel), .val (.long vv), .second, .val (.int (2 : Int32))] [])) t
                refine XS.aload Xj64.here hx rfl (hb hby at_255) rfl rfl ?_
                show Steps p.tables e below (Tj64.setTop (mkF m 257 #[.val (.long q0), .second, .val (.long q1), .second, .val (.long q2), .second, .val (.long q3), .second, .val (.long q4), .second, .val (.int p5), .val (.ref b1), .val (.int (4 : Int32)), .val (.ref b59), .val (.int sel), .val (.long vv), .second, .val (.int (2 : Int32))] [(.ref b59)])) t
                refine XS.lload Xj64.here hx rfl (hb hby at_257) rfl ?_
                show Steps p.tables e below (Tj64.setTop (mkF m 259 #[.val (.long q0), .second, .val (.long q1), .second, .val (.long q2), .second, .val (.long q3), .second, .val (.long q4), .second, .val (.int p5), .val (.ref b1), .val (.int (4 : Int32)), .val (.ref b59), .val (.int sel), .val (.long vv), .second, .val (.int (2 : Int32))] [(.long vv), (.ref b59)])) t
                exact kt
              refine own_callSp Xj64 hx hZ hown ej64 (hw _ (List.mem_of_getElem? (i := 5) rfl)) (hw _ (List.mem_of_getElem? (i := 6) rfl)) (hw _ (List.mem_of_getElem? (i := 7) rfl)) (hw _ (List.mem_of_getElem? (i := 8) rfl)) (by decide) (rm2 l Z aw hw b59 vv 4 f3 (4 : Int32) h63 n0 Z63 B63 (by decide) (by decide) (own_p4 hf0 hf1 hf2 hf3 (own_net ht1 ht2 ht3 ht4 ht5))) (g := (mkF m 259 #[.val (.long q0), .second, .val (.long q1), .second, .val (.long q2), .second, .val (.long q3), .second, .val (.long q4), .second, .val (.int p5), .val (.ref b1), .val (.int (4 : Int32)), .val (.ref b59), .val (.int sel), .val (.long vv), .second, .val (.int (2 : Int32))] [(.long vv), (.ref b59)])) rfl (by rw [hml]; rfl) (argsL := [(.ref b59), (.long vv)]) (rest := []) (lenOf pd_1 rfl) rfl rfl (W := 0) (by show 2 * 0 + _ ≤ _; exact Nat.le_of_eq rfl) (hb hby at_259) (by decide) (by decide) (by decide) (by decide) ?_
              intro T73 X73 e73
              refine own_go (T' := T73) (f' := (mkF m 272 #[.val (.long q0), .second, .val (.long q1), .second, .val (.long q2), .second, .val (.long q3), .second, .val (.long q4), .second, .val (.int p5), .val (.ref b1), .val (.int (4 : Int32)), .val (.ref b59), .val (.int sel), .val (.long vv), .second, .val (.int (2 : Int32))] [(.int (1 : Int32))])) (fun t kt => ?_) ?_
              · show Steps p.tables e below (T73.setTop (mkF m 262 #[.val (.long q0), .second, .val (.long q1), .second, .val (.long q2), .second, .val (.long q3), .second, .val (.long q4), .second, .val (.int p5), .val (.ref b1), .val (.int (4 : Int32)), .val (.ref b59), .val (.int sel), .val (.long vv), .second, .val (.int (2 : Int32))] [(.int (Int32.ofNat (own_cnt 4 f3 vv)))])) t
                refine XS.iload X73.here hx rfl (hb hby at_262) rfl ?_
                show Steps p.tables e below (T73.setTop (mkF m 264 #[.val (.long q0), .second, .val (.long q1), .second, .val (.long q2), .second, .val (.long q3), .second, .val (.long q4), .second, .val (.int p5), .val (.ref b1), .val (.int (4 : Int32)), .val (.ref b59), .val (.int sel), .val (.long vv), .second, .val (.int (2 : Int32))] [(.int (2 : Int32)), (.int (Int32.ofNat (own_cnt 4 f3 vv)))])) t
                refine XS.icmpNo X73.here hx rfl (hb hby at_264) rfl (teq (show (Int32.ofNat (own_cnt 4 f3 vv)) = (2 : Int32) from by simp only [own_cnt, if_pos hc192_65, if_pos hc211_66, if_neg hc230_67, if_neg hc249_71]; rfl)).2 ?_
                show Steps p.tables e below (T73.setTop (mkF m 267 #[.val (.long q0), .second, .val (.long q1), .second, .val (.long q2), .second, .val (.long q3), .second, .val (.long q4), .second, .val (.int p5), .val (.ref b1), .val (.int (4 : Int32)), .val (.ref b59), .val (.int sel), .val (.long vv), .second, .val (.int (2 : Int32))] [])) t
                refine XS.iconst X73.here hx rfl (hb hby at_267) ?_
                show Steps p.tables e below (T73.setTop (mkF m 268 #[.val (.long q0), .second, .val (.long q1), .second, .val (.long q2), .second, .val (.long q3), .second, .val (.long q4), .second, .val (.int p5), .val (.ref b1), .val (.int (4 : Int32)), .val (.ref b59), .val (.int sel), .val (.long vv), .second, .val (.int (2 : Int32))] [(.int (1 : Int32))])) t
                refine XS.goto X73.here hx rfl (pc0 := 268) (pc' := 272) rfl (hb hby at_268) (by decide) (by decide) ?_
                show Steps p.tables e below (T73.setTop (mkF m 272 #[.val (.long q0), .second, .val (.long q1), .second, .val (.long q2), .second, .val (.long q3), .second, .val (.long q4), .second, .val (.int p5), .val (.ref b1), .val (.int (4 : Int32)), .val (.ref b59), .val (.int sel), .val (.long vv), .second, .val (.int (2 : Int32))] [(.int (1 : Int32))])) t
                exact kt
              exact own_retN X73 hP hx hlk e73 (t := .boolean) hret (by simp) (hb hby at_272) (by decide) (by decide) (z' := (1 : Int32)) rfl ⟨rfl, Nj64⟩
        · refine own_go (T' := Tj64) (f' := (mkF m 230 #[.val (.long q0), .second, .val (.long q1), .second, .val (.long q2), .second, .val (.long q3), .second, .val (.long q4), .second, .val (.int p5), .val (.ref b1), .val (.int (4 : Int32)), .val (.ref b59), .val (.int sel), .val (.long vv), .second, .val (.int (1 : Int32))] [(.int (lcmpW (f3 2) vv))])) (fun t kt => ?_) ?_
          · show Steps p.tables e below (Tj64.setTop (mkF m 211 #[.val (.long q0), .second, .val (.long q1), .second, .val (.long q2), .second, .val (.long q3), .second, .val (.long q4), .second, .val (.int p5), .val (.ref b1), .val (.int (4 : Int32)), .val (.ref b59), .val (.int sel), .val (.long vv), .second, .val (.int (1 : Int32))] [(.int (lcmpW (f3 1) vv))])) t
            refine XS.ifYes Xj64.here hx rfl (pc0 := 211) (pc' := 217) rfl (hb hby at_211) rfl (own_lY_ge hc211_66) (by decide) (by decide) ?_
            show Steps p.tables e below (Tj64.setTop (mkF m 217 #[.val (.long q0), .second, .val (.long q1), .second, .val (.long q2), .second, .val (.long q3), .second, .val (.long q4), .second, .val (.int p5), .val (.ref b1), .val (.int (4 : Int32)), .val (.ref b59), .val (.int sel), .val (.long vv), .second, .val (.int (1 : Int32))] [])) t
            refine XS.iload Xj64.here hx rfl (hb hby at_217) rfl ?_
            show Steps p.tables e below (Tj64.setTop (mkF m 219 #[.val (.long q0), .second, .val (.long q1), .second, .val (.long q2), .second, .val (.long q3), .second, .val (.long q4), .second, .val (.int p5), .val (.ref b1), .val (.int (4 : Int32)), .val (.ref b59), .val (.int sel), .val (.long vv), .second, .val (.int (1 : Int32))] [(.int (4 : Int32))])) t
            refine XS.iconst Xj64.here hx rfl (hb hby at_219) ?_
            show Steps p.tables e below (Tj64.setTop (mkF m 220 #[.val (.long q0), .second, .val (.long q1), .second, .val (.long q2), .second, .val (.long q3), .second, .val (.long q4), .second, .val (.int p5), .val (.ref b1), .val (.int (4 : Int32)), .val (.ref b59), .val (.int sel), .val (.long vv), .second, .val (.int (1 : Int32))] [(.int (2 : Int32)), (.int (4 : Int32))])) t
            refine XS.icmpNo Xj64.here hx rfl (hb hby at_220) rfl (by decide) ?_
            show Steps p.tables e below (Tj64.setTop (mkF m 223 #[.val (.long q0), .second, .val (.long q1), .second, .val (.long q2), .second, .val (.long q3), .second, .val (.long q4), .second, .val (.int p5), .val (.ref b1), .val (.int (4 : Int32)), .val (.ref b59), .val (.int sel), .val (.long vv), .second, .val (.int (1 : Int32))] [])) t
            refine XS.aload Xj64.here hx rfl (hb hby at_223) rfl rfl ?_
            show Steps p.tables e below (Tj64.setTop (mkF m 225 #[.val (.long q0), .second, .val (.long q1), .second, .val (.long q2), .second, .val (.long q3), .second, .val (.long q4), .second, .val (.int p5), .val (.ref b1), .val (.int (4 : Int32)), .val (.ref b59), .val (.int sel), .val (.long vv), .second, .val (.int (1 : Int32))] [(.ref b59)])) t
            refine XS.iconst Xj64.here hx rfl (hb hby at_225) ?_
            show Steps p.tables e below (Tj64.setTop (mkF m 226 #[.val (.long q0), .second, .val (.long q1), .second, .val (.long q2), .second, .val (.long q3), .second, .val (.long q4), .second, .val (.int p5), .val (.ref b1), .val (.int (4 : Int32)), .val (.ref b59), .val (.int sel), .val (.long vv), .second, .val (.int (1 : Int32))] [(.int (2 : Int32)), (.ref b59)])) t
            refine own_laload Xj64 hx hZ ej64 B63 (i := 2) (by decide) (by decide) (g := (mkF m 226 #[.val (.long q0), .second, .val (.long q1), .second, .val (.long q2), .second, .val (.long q3), .second, .val (.long q4), .second, .val (.int p5), .val (.ref b1), .val (.int (4 : Int32)), .val (.ref b59), .val (.int sel), .val (.long vv), .second, .val (.int (1 : Int32))] [(.int (2 : Int32)), (.ref b59)])) rfl rfl (hb hby at_226) _ ?_
            show Steps p.tables e below (Tj64.setTop (mkF m 227 #[.val (.long q0), .second, .val (.long q1), .second, .val (.long q2), .second, .val (.long q3), .second, .val (.long q4), .second, .val (.int p5), .val (.ref b1), .val (.int (4 : Int32)), .val (.ref b59), .val (.int sel), .val (.long vv), .second, .val (.int (1 : Int32))] [(.long (f3 2))])) t
            refine XS.lload Xj64.here hx rfl (hb hby at_227) rfl ?_
            show Steps p.tables e below (Tj64.setTop (mkF m 229 #[.val (.long q0), .second, .val (.long q1), .second, .val (.long q2), .second, .val (.long q3), .second, .val (.long q4), .second, .val (.int p5), .val (.ref b1), .val (.int (4 : Int32)), .val (.ref b59), .val (.int sel), .val (.long vv), .second, .val (.int (1 : Int32))] [(.long vv), (.long (f3 2))])) t
            refine XS.lcmp Xj64.here hx rfl (hb hby at_229) rfl ?_
            show Steps p.tables e below (Tj64.setTop (mkF m 230 #[.val (.long q0), .second, .val (.long q1), .second, .val (.long q2), .second, .val (.long q3), .second, .val (.long q4), .second, .val (.int p5), .val (.ref b1), .val (.int (4 : Int32)), .val (.ref b59), .val (.int sel), .val (.long vv), .second, .val (.int (1 : Int32))] [(.int (lcmpW (f3 2) vv))])) t
            exact kt
          by_cases hc230_74 : (f3 2) < vv
          · refine own_go (T' := Tj64) (f' := (mkF m 249 #[.val (.long q0), .second, .val (.long q1), .second, .val (.long q2), .second, .val (.long q3), .second, .val (.long q4), .second, .val (.int p5), .val (.ref b1), .val (.int (4 : Int32)), .val (.ref b59), .val (.int sel), .val (.long vv), .second, .val (.int (2 : Int32))] [(.int (lcmpW (f3 3) vv))])) (fun t kt => ?_) ?_
            · show Steps p.tables e below (Tj64.setTop (mkF m 230 #[.val (.long q0), .second, .val (.long q1), .second, .val (.long q2), .second, .val (.long q3), .second, .val (.long q4), .second, .val (.int p5), .val (.ref b1), .val (.int (4 : Int32)), .val (.ref b59), .val (.int sel), .val (.long vv), .second, .val (.int (1 : Int32))] [(.int (lcmpW (f3 2) vv))])) t
              refine XS.ifNo Xj64.here hx rfl (hb hby at_230) rfl (own_lN_ge hc230_74) ?_
              show Steps p.tables e below (Tj64.setTop (mkF m 233 #[.val (.long q0), .second, .val (.long q1), .second, .val (.long q2), .second, .val (.long q3), .second, .val (.long q4), .second, .val (.int p5), .val (.ref b1), .val (.int (4 : Int32)), .val (.ref b59), .val (.int sel), .val (.long vv), .second, .val (.int (1 : Int32))] [])) t
              refine XS.iinc Xj64.here hx rfl (hb hby at_233) rfl (l' := #[.val (.long q0), .second, .val (.long q1), .second, .val (.long q2), .second, .val (.long q3), .second, .val (.long q4), .second, .val (.int p5), .val (.ref b1), .val (.int (4 : Int32)), .val (.ref b59), .val (.int sel), .val (.long vv), .second, .val (.int (2 : Int32))]) rfl ?_
              show Steps p.tables e below (Tj64.setTop (mkF m 236 #[.val (.long q0), .second, .val (.long q1), .second, .val (.long q2), .second, .val (.long q3), .second, .val (.long q4), .second, .val (.int p5), .val (.ref b1), .val (.int (4 : Int32)), .val (.ref b59), .val (.int sel), .val (.long vv), .second, .val (.int (2 : Int32))] [])) t
              refine XS.iload Xj64.here hx rfl (hb hby at_236) rfl ?_
              show Steps p.tables e below (Tj64.setTop (mkF m 238 #[.val (.long q0), .second, .val (.long q1), .second, .val (.long q2), .second, .val (.long q3), .second, .val (.long q4), .second, .val (.int p5), .val (.ref b1), .val (.int (4 : Int32)), .val (.ref b59), .val (.int sel), .val (.long vv), .second, .val (.int (2 : Int32))] [(.int (4 : Int32))])) t
              refine XS.iconst Xj64.here hx rfl (hb hby at_238) ?_
              show Steps p.tables e below (Tj64.setTop (mkF m 239 #[.val (.long q0), .second, .val (.long q1), .second, .val (.long q2), .second, .val (.long q3), .second, .val (.long q4), .second, .val (.int p5), .val (.ref b1), .val (.int (4 : Int32)), .val (.ref b59), .val (.int sel), .val (.long vv), .second, .val (.int (2 : Int32))] [(.int (3 : Int32)), (.int (4 : Int32))])) t
              refine XS.icmpNo Xj64.here hx rfl (hb hby at_239) rfl (by decide) ?_
              show Steps p.tables e below (Tj64.setTop (mkF m 242 #[.val (.long q0), .second, .val (.long q1), .second, .val (.long q2), .second, .val (.long q3), .second, .val (.long q4), .second, .val (.int p5), .val (.ref b1), .val (.int (4 : Int32)), .val (.ref b59), .val (.int sel), .val (.long vv), .second, .val (.int (2 : Int32))] [])) t
              refine XS.aload Xj64.here hx rfl (hb hby at_242) rfl rfl ?_
              show Steps p.tables e below (Tj64.setTop (mkF m 244 #[.val (.long q0), .second, .val (.long q1), .second, .val (.long q2), .second, .val (.long q3), .second, .val (.long q4), .second, .val (.int p5), .val (.ref b1), .val (.int (4 : Int32)), .val (.ref b59), .val (.int sel), .val (.long vv), .second, .val (.int (2 : Int32))] [(.ref b59)])) t
              refine XS.iconst Xj64.here hx rfl (hb hby at_244) ?_
              show Steps p.tables e below (Tj64.setTop (mkF m 245 #[.val (.long q0), .second, .val (.long q1), .second, .val (.long q2), .second, .val (.long q3), .second, .val (.long q4), .second, .val (.int p5), .val (.ref b1), .val (.int (4 : Int32)), .val (.ref b59), .val (.int sel), .val (.long vv), .second, .val (.int (2 : Int32))] [(.int (3 : Int32)), (.ref b59)])) t
              refine own_laload Xj64 hx hZ ej64 B63 (i := 3) (by decide) (by decide) (g := (mkF m 245 #[.val (.long q0), .second, .val (.long q1), .second, .val (.long q2), .second, .val (.long q3), .second, .val (.long q4), .second, .val (.int p5), .val (.ref b1), .val (.int (4 : Int32)), .val (.ref b59), .val (.int sel), .val (.long vv), .second, .val (.int (2 : Int32))] [(.int (3 : Int32)), (.ref b59)])) rfl rfl (hb hby at_245) _ ?_
              show Steps p.tables e below (Tj64.setTop (mkF m 246 #[.val (.long q0), .second, .val (.long q1), .second, .val (.long q2), .second, .val (.long q3), .second, .val (.long q4), .second, .val (.int p5), .val (.ref b1), .val (.int (4 : Int32)), .val (.ref b59), .val (.int sel), .val (.long vv), .second, .val (.int (2 : Int32))] [(.long (f3 3))])) t
              refine XS.lload Xj64.here hx rfl (hb hby at_246) rfl ?_
              show Steps p.tables e below (Tj64.setTop (mkF m 248 #[.val (.long q0), .second, .val (.long q1), .second, .val (.long q2), .second, .val (.long q3), .second, .val (.long q4), .second, .val (.int p5), .val (.ref b1), .val (.int (4 : Int32)), .val (.ref b59), .val (.int sel), .val (.long vv), .second, .val (.int (2 : Int32))] [(.long vv), (.long (f3 3))])) t
              refine XS.lcmp Xj64.here hx rfl (hb hby at_248) rfl ?_
              show Steps p.tables e below (Tj64.setTop (mkF m 249 #[.val (.long q0), .second, .val (.long q1), .second, .val (.long q2), .second, .val (.long q3), .second, .val (.long q4), .second, .val (.int p5), .val (.ref b1), .val (.int (4 : Int32)), .val (.ref b59), .val (.int sel), .val (.long vv), .second, .val (.int (2 : Int32))] [(.int (lcmpW (f3 3) vv))])) t
              exact kt
            by_cases hc249_75 : (f3 3) < vv
            · refine own_go (T' := Tj64) (f' := (mkF m 259 #[.val (.long q0), .second, .val (.long q1), .second, .val (.long q2), .second, .val (.long q3), .second, .val (.long q4), .second, .val (.int p5), .val (.ref b1), .val (.int (4 : Int32)), .val (.ref b59), .val (.int sel), .val (.long vv), .second, .val (.int (3 : Int32))] [(.long vv), (.ref b59)])) (fun t kt => ?_) ?_
              · show Steps p.tables e below (Tj64.setTop (mkF m 249 #[.val (.long q0), .second, .val (.long q1), .second, .val (.long q2), .second, .val (.long q3), .second, .val (.long q4), .second, .val (.int p5), .val (.ref b1), .val (.int (4 : Int32)), .val (.ref b59), .val (.int sel), .val (.long vv), .second, .val (.int (2 : Int32))] [(.int (lcmpW (f3 3) vv))])) t
                refine XS.ifNo Xj64.here hx rfl (hb hby at_249) rfl (own_lN_ge hc249_75) ?_
                show Steps p.tables e below (Tj64.setTop (mkF m 252 #[.val (.long q0), .second, .val (.long q1), .second, .val (.long q2), .second, .val (.long q3), .second, .val (.long q4), .second, .val (.int p5), .val (.ref b1), .val (.int (4 : Int32)), .val (.ref b59), .val (.int sel), .val (.long vv), .second, .val (.int (2 : Int32))] [])) t
                refine XS.iinc Xj64.here hx rfl (hb hby at_252) rfl (l' := #[.val (.long q0), .second, .val (.long q1), .second, .val (.long q2), .second, .val (.long q3), .second, .val (.long q4), .second, .val (.int p5), .val (.ref b1), .val (.int (4 : Int32)), .val (.ref b59), .val (.int sel), .val (.long vv), .second, .val (.int (3 : Int32))]) rfl ?_
                show Steps p.tables e below (Tj64.setTop (mkF m 255 #[.val (.long q0), .second, .val (.long q1), .second, .val (.long q2), .second, .val (.long q3), .second, .val (.long q4), .second, .val (.int p5), .val (.ref b1), .val (.int (4 : Int32)), .val (.ref b59), .val (.int sel), .val (.long vv), .second, .val (.int (3 : Int32))] [])) t
                refine XS.aload Xj64.here hx rfl (hb hby at_255) rfl rfl ?_
                show Steps p.tables e below (Tj64.setTop (mkF m 257 #[.val (.long q0), .second, .val (.long q1), .second, .val (.long q2), .second, .val (.long q3), .second, .val (.long q4), .second, .val (.int p5), .val (.ref b1), .val (.int (4 : Int32)), .val (.ref b59), .val (.int sel), .val (.long vv), .second, .val (.int (3 : Int32))] [(.ref b59)])) t
                refine XS.lload Xj64.here hx rfl (hb hby at_257) rfl ?_
                show Steps p.tables e below (Tj64.setTop (mkF m 259 #[.val (.long q0), .second, .val (.long q1), .second, .val (.long q2), .second, .val (.long q3), .second, .val (.long q4), .second, .val (.int p5), .val (.ref b1), .val (.int (4 : Int32)), .val (.ref b59), .val (.int sel), .val (.long vv), .second, .val (.int (3 : Int32))] [(.long vv), (.ref b59)])) t
                exact kt
              refine own_callSp Xj64 hx hZ hown ej64 (hw _ (List.mem_of_getElem? (i := 5) rfl)) (hw _ (List.mem_of_getElem? (i := 6) rfl)) (hw _ (List.mem_of_getElem? (i := 7) rfl)) (hw _ (List.mem_of_getElem? (i := 8) rfl)) (by decide) (rm2 l Z aw hw b59 vv 4 f3 (4 : Int32) h63 n0 Z63 B63 (by decide) (by decide) (own_p4 hf0 hf1 hf2 hf3 (own_net ht1 ht2 ht3 ht4 ht5))) (g := (mkF m 259 #[.val (.long q0), .second, .val (.long q1), .second, .val (.long q2), .second, .val (.long q3), .second, .val (.long q4), .second, .val (.int p5), .val (.ref b1), .val (.int (4 : Int32)), .val (.ref b59), .val (.int sel), .val (.long vv), .second, .val (.int (3 : Int32))] [(.long vv), (.ref b59)])) rfl (by rw [hml]; rfl) (argsL := [(.ref b59), (.long vv)]) (rest := []) (lenOf pd_1 rfl) rfl rfl (W := 0) (by show 2 * 0 + _ ≤ _; exact Nat.le_of_eq rfl) (hb hby at_259) (by decide) (by decide) (by decide) (by decide) ?_
              intro T76 X76 e76
              refine own_go (T' := T76) (f' := (mkF m 272 #[.val (.long q0), .second, .val (.long q1), .second, .val (.long q2), .second, .val (.long q3), .second, .val (.long q4), .second, .val (.int p5), .val (.ref b1), .val (.int (4 : Int32)), .val (.ref b59), .val (.int sel), .val (.long vv), .second, .val (.int (3 : Int32))] [(.int (1 : Int32))])) (fun t kt => ?_) ?_
              · show Steps p.tables e below (T76.setTop (mkF m 262 #[.val (.long q0), .second, .val (.long q1), .second, .val (.long q2), .second, .val (.long q3), .second, .val (.long q4), .second, .val (.int p5), .val (.ref b1), .val (.int (4 : Int32)), .val (.ref b59), .val (.int sel), .val (.long vv), .second, .val (.int (3 : Int32))] [(.int (Int32.ofNat (own_cnt 4 f3 vv)))])) t
                refine XS.iload X76.here hx rfl (hb hby at_262) rfl ?_
                show Steps p.tables e below (T76.setTop (mkF m 264 #[.val (.long q0), .second, .val (.long q1), .second, .val (.long q2), .second, .val (.long q3), .second, .val (.long q4), .second, .val (.int p5), .val (.ref b1), .val (.int (4 : Int32)), .val (.ref b59), .val (.int sel), .val (.long vv), .second, .val (.int (3 : Int32))] [(.int (3 : Int32)), (.int (Int32.ofNat (own_cnt 4 f3 vv)))])) t
                refine XS.icmpNo X76.here hx rfl (hb hby at_264) rfl (teq (show (Int32.ofNat (own_cnt 4 f3 vv)) = (3 : Int32) from by simp only [own_cnt, if_pos hc192_65, if_neg hc211_66, if_pos hc230_74, if_pos hc249_75]; rfl)).2 ?_
                show Steps p.tables e below (T76.setTop (mkF m 267 #[.val (.long q0), .second, .val (.long q1), .second, .val (.long q2), .second, .val (.long q3), .second, .val (.long q4), .second, .val (.int p5), .val (.ref b1), .val (.int (4 : Int32)), .val (.ref b59), .val (.int sel), .val (.long vv), .second, .val (.int (3 : Int32))] [])) t
                refine XS.iconst X76.here hx rfl (hb hby at_267) ?_
                show Steps p.tables e below (T76.setTop (mkF m 268 #[.val (.long q0), .second, .val (.long q1), .second, .val (.long q2), .second, .val (.long q3), .second, .val (.long q4), .second, .val (.int p5), .val (.ref b1), .val (.int (4 : Int32)), .val (.ref b59), .val (.int sel), .val (.long vv), .second, .val (.int (3 : Int32))] [(.int (1 : Int32))])) t
                refine XS.goto X76.here hx rfl (pc0 := 268) (pc' := 272) rfl (hb hby at_268) (by decide) (by decide) ?_
                show Steps p.tables e below (T76.setTop (mkF m 272 #[.val (.long q0), .second, .val (.long q1), .second, .val (.long q2), .second, .val (.long q3), .second, .val (.long q4), .second, .val (.int p5), .val (.ref b1), .val (.int (4 : Int32)), .val (.ref b59), .val (.int sel), .val (.long vv), .second, .val (.int (3 : Int32))] [(.int (1 : Int32))])) t
                exact kt
              exact own_retN X76 hP hx hlk e76 (t := .boolean) hret (by simp) (hb hby at_272) (by decide) (by decide) (z' := (1 : Int32)) rfl ⟨rfl, Nj64⟩
            · refine own_go (T' := Tj64) (f' := (mkF m 259 #[.val (.long q0), .second, .val (.long q1), .second, .val (.long q2), .second, .val (.long q3), .second, .val (.long q4), .second, .val (.int p5), .val (.ref b1), .val (.int (4 : Int32)), .val (.ref b59), .val (.int sel), .val (.long vv), .second, .val (.int (2 : Int32))] [(.long vv), (.ref b59)])) (fun t kt => ?_) ?_
              · show Steps p.tables e below (Tj64.setTop (mkF m 249 #[.val (.long q0), .second, .val (.long q1), .second, .val (.long q2), .second, .val (.long q3), .second, .val (.long q4), .second, .val (.int p5), .val (.ref b1), .val (.int (4 : Int32)), .val (.ref b59), .val (.int sel), .val (.long vv), .second, .val (.int (2 : Int32))] [(.int (lcmpW (f3 3) vv))])) t
                refine XS.ifYes Xj64.here hx rfl (pc0 := 249) (pc' := 255) rfl (hb hby at_249) rfl (own_lY_ge hc249_75) (by decide) (by decide) ?_
                show Steps p.tables e below (Tj64.setTop (mkF m 255 #[.val (.long q0), .second, .val (.long q1), .second, .val (.long q2), .second, .val (.long q3), .second, .val (.long q4), .second, .val (.int p5), .val (.ref b1), .val (.int (4 : Int32)), .val (.ref b59), .val (.int sel), .val (.long vv), .second, .val (.int (2 : Int32))] [])) t
                refine XS.aload Xj64.here hx rfl (hb hby at_255) rfl rfl ?_
                show Steps p.tables e below (Tj64.setTop (mkF m 257 #[.val (.long q0), .second, .val (.long q1), .second, .val (.long q2), .second, .val (.long q3), .second, .val (.long q4), .second, .val (.int p5), .val (.ref b1), .val (.int (4 : Int32)), .val (.ref b59), .val (.int sel), .val (.long vv), .second, .val (.int (2 : Int32))] [(.ref b59)])) t
                refine XS.lload Xj64.here hx rfl (hb hby at_257) rfl ?_
                show Steps p.tables e below (Tj64.setTop (mkF m 259 #[.val (.long q0), .second, .val (.long q1), .second, .val (.long q2), .second, .val (.long q3), .second, .val (.long q4), .second, .val (.int p5), .val (.ref b1), .val (.int (4 : Int32)), .val (.ref b59), .val (.int sel), .val (.long vv), .second, .val (.int (2 : Int32))] [(.long vv), (.ref b59)])) t
                exact kt
              refine own_callSp Xj64 hx hZ hown ej64 (hw _ (List.mem_of_getElem? (i := 5) rfl)) (hw _ (List.mem_of_getElem? (i := 6) rfl)) (hw _ (List.mem_of_getElem? (i := 7) rfl)) (hw _ (List.mem_of_getElem? (i := 8) rfl)) (by decide) (rm2 l Z aw hw b59 vv 4 f3 (4 : Int32) h63 n0 Z63 B63 (by decide) (by decide) (own_p4 hf0 hf1 hf2 hf3 (own_net ht1 ht2 ht3 ht4 ht5))) (g := (mkF m 259 #[.val (.long q0), .second, .val (.long q1), .second, .val (.long q2), .second, .val (.long q3), .second, .val (.long q4), .second, .val (.int p5), .val (.ref b1), .val (.int (4 : Int32)), .val (.ref b59), .val (.int sel), .val (.long vv), .second, .val (.int (2 : Int32))] [(.long vv), (.ref b59)])) rfl (by rw [hml]; rfl) (argsL := [(.ref b59), (.long vv)]) (rest := []) (lenOf pd_1 rfl) rfl rfl (W := 0) (by show 2 * 0 + _ ≤ _; exact Nat.le_of_eq rfl) (hb hby at_259) (by decide) (by decide) (by decide) (by decide) ?_
              intro T77 X77 e77
              refine own_go (T' := T77) (f' := (mkF m 272 #[.val (.long q0), .second, .val (.long q1), .second, .val (.long q2), .second, .val (.long q3), .second, .val (.long q4), .second, .val (.int p5), .val (.ref b1), .val (.int (4 : Int32)), .val (.ref b59), .val (.int sel), .val (.long vv), .second, .val (.int (2 : Int32))] [(.int (1 : Int32))])) (fun t kt => ?_) ?_
              · show Steps p.tables e below (T77.setTop (mkF m 262 #[.val (.long q0), .second, .val (.long q1), .second, .val (.long q2), .second, .val (.long q3), .second, .val (.long q4), .second, .val (.int p5), .val (.ref b1), .val (.int (4 : Int32)), .val (.ref b59), .val (.int sel), .val (.long vv), .second, .val (.int (2 : Int32))] [(.int (Int32.ofNat (own_cnt 4 f3 vv)))])) t
                refine XS.iload X77.here hx rfl (hb hby at_262) rfl ?_
                show Steps p.tables e below (T77.setTop (mkF m 264 #[.val (.long q0), .second, .val (.long q1), .second, .val (.long q2), .second, .val (.long q3), .second, .val (.long q4), .second, .val (.int p5), .val (.ref b1), .val (.int (4 : Int32)), .val (.ref b59), .val (.int sel), .val (.long vv), .second, .val (.int (2 : Int32))] [(.int (2 : Int32)), (.int (Int32.ofNat (own_cnt 4 f3 vv)))])) t
                refine XS.icmpNo X77.here hx rfl (hb hby at_264) rfl (teq (show (Int32.ofNat (own_cnt 4 f3 vv)) = (2 : Int32) from by simp only [own_cnt, if_pos hc192_65, if_neg hc211_66, if_pos hc230_74, if_neg hc249_75]; rfl)).2 ?_
                show Steps p.tables e below (T77.setTop (mkF m 267 #[.val (.long q0), .second, .val (.long q1), .second, .val (.long q2), .second, .val (.long q3), .second, .val (.long q4), .second, .val (.int p5), .val (.ref b1), .val (.int (4 : Int32)), .val (.ref b59), .val (.int sel), .val (.long vv), .second, .val (.int (2 : Int32))] [])) t
                refine XS.iconst X77.here hx rfl (hb hby at_267) ?_
                show Steps p.tables e below (T77.setTop (mkF m 268 #[.val (.long q0), .second, .val (.long q1), .second, .val (.long q2), .second, .val (.long q3), .second, .val (.long q4), .second, .val (.int p5), .val (.ref b1), .val (.int (4 : Int32)), .val (.ref b59), .val (.int sel), .val (.long vv), .second, .val (.int (2 : Int32))] [(.int (1 : Int32))])) t
                refine XS.goto X77.here hx rfl (pc0 := 268) (pc' := 272) rfl (hb hby at_268) (by decide) (by decide) ?_
                show Steps p.tables e below (T77.setTop (mkF m 272 #[.val (.long q0), .second, .val (.long q1), .second, .val (.long q2), .second, .val (.long q3), .second, .val (.long q4), .second, .val (.int p5), .val (.ref b1), .val (.int (4 : Int32)), .val (.ref b59), .val (.int sel), .val (.long vv), .second, .val (.int (2 : Int32))] [(.int (1 : Int32))])) t
                exact kt
              exact own_retN X77 hP hx hlk e77 (t := .boolean) hret (by simp) (hb hby at_272) (by decide) (by decide) (z' := (1 : Int32)) rfl ⟨rfl, Nj64⟩
          · refine own_go (T' := Tj64) (f' := (mkF m 249 #[.val (.long q0), .second, .val (.long q1), .second, .val (.long q2), .second, .val (.long q3), .second, .val (.long q4), .second, .val (.int p5), .val (.ref b1), .val (.int (4 : Int32)), .val (.ref b59), .val (.int sel), .val (.long vv), .second, .val (.int (1 : Int32))] [(.int (lcmpW (f3 3) vv))])) (fun t kt => ?_) ?_
            · show Steps p.tables e below (Tj64.setTop (mkF m 230 #[.val (.long q0), .second, .val (.long q1), .second, .val (.long q2), .second, .val (.long q3), .second, .val (.long q4), .second, .val (.int p5), .val (.ref b1), .val (.int (4 : Int32)), .val (.ref b59), .val (.int sel), .val (.long vv), .second, .val (.int (1 : Int32))] [(.int (lcmpW (f3 2) vv))])) t
              refine XS.ifYes Xj64.here hx rfl (pc0 := 230) (pc' := 236) rfl (hb hby at_230) rfl (own_lY_ge hc230_74) (by decide) (by decide) ?_
              show Steps p.tables e below (Tj64.setTop (mkF m 236 #[.val (.long q0), .second, .val (.long q1), .second, .val (.long q2), .second, .val (.long q3), .second, .val (.long q4), .second, .val (.int p5), .val (.ref b1), .val (.int (4 : Int32)), .val (.ref b59), .val (.int sel), .val (.long vv), .second, .val (.int (1 : Int32))] [])) t
              refine XS.iload Xj64.here hx rfl (hb hby at_236) rfl ?_
              show Steps p.tables e below (Tj64.setTop (mkF m 238 #[.val (.long q0), .second, .val (.long q1), .second, .val (.long q2), .second, .val (.long q3), .second, .val (.long q4), .second, .val (.int p5), .val (.ref b1), .val (.int (4 : Int32)), .val (.ref b59), .val (.int sel), .val (.long vv), .second, .val (.int (1 : Int32))] [(.int (4 : Int32))])) t
              refine XS.iconst Xj64.here hx rfl (hb hby at_238) ?_
              show Steps p.tables e below (Tj64.setTop (mkF m 239 #[.val (.long q0), .second, .val (.long q1), .second, .val (.long q2), .second, .val (.long q3), .second, .val (.long q4), .second, .val (.int p5), .val (.ref b1), .val (.int (4 : Int32)), .val (.ref b59), .val (.int sel), .val (.long vv), .second, .val (.int (1 : Int32))] [(.int (3 : Int32)), (.int (4 : Int32))])) t
              refine XS.icmpNo Xj64.here hx rfl (hb hby at_239) rfl (by decide) ?_
              show Steps p.tables e below (Tj64.setTop (mkF m 242 #[.val (.long q0), .second, .val (.long q1), .second, .val (.long q2), .second, .val (.long q3), .second, .val (.long q4), .second, .val (.int p5), .val (.ref b1), .val (.int (4 : Int32)), .val (.ref b59), .val (.int sel), .val (.long vv), .second, .val (.int (1 : Int32))] [])) t
              refine XS.aload Xj64.here hx rfl (hb hby at_242) rfl rfl ?_
              show Steps p.tables e below (Tj64.setTop (mkF m 244 #[.val (.long q0), .second, .val (.long q1), .second, .val (.long q2), .second, .val (.long q3), .second, .val (.long q4), .second, .val (.int p5), .val (.ref b1), .val (.int (4 : Int32)), .val (.ref b59), .val (.int sel), .val (.long vv), .second, .val (.int (1 : Int32))] [(.ref b59)])) t
              refine XS.iconst Xj64.here hx rfl (hb hby at_244) ?_
              show Steps p.tables e below (Tj64.setTop (mkF m 245 #[.val (.long q0), .second, .val (.long q1), .second, .val (.long q2), .second, .val (.long q3), .second, .val (.long q4), .second, .val (.int p5), .val (.ref b1), .val (.int (4 : Int32)), .val (.ref b59), .val (.int sel), .val (.long vv), .second, .val (.int (1 : Int32))] [(.int (3 : Int32)), (.ref b59)])) t
              refine own_laload Xj64 hx hZ ej64 B63 (i := 3) (by decide) (by decide) (g := (mkF m 245 #[.val (.long q0), .second, .val (.long q1), .second, .val (.long q2), .second, .val (.long q3), .second, .val (.long q4), .second, .val (.int p5), .val (.ref b1), .val (.int (4 : Int32)), .val (.ref b59), .val (.int sel), .val (.long vv), .second, .val (.int (1 : Int32))] [(.int (3 : Int32)), (.ref b59)])) rfl rfl (hb hby at_245) _ ?_
              show Steps p.tables e below (Tj64.setTop (mkF m 246 #[.val (.long q0), .second, .val (.long q1), .second, .val (.long q2), .second, .val (.long q3), .second, .val (.long q4), .second, .val (.int p5), .val (.ref b1), .val (.int (4 : Int32)), .val (.ref b59), .val (.int sel), .val (.long vv), .second, .val (.int (1 : Int32))] [(.long (f3 3))])) t
              refine XS.lload Xj64.here hx rfl (hb hby at_246) rfl ?_
              show Steps p.tables e below (Tj64.setTop (mkF m 248 #[.val (.long q0), .second, .val (.long q1), .second, .val (.long q2), .second, .val (.long q3), .second, .val (.long q4), .second, .val (.int p5), .val (.ref b1), .val (.int (4 : Int32)), .val (.ref b59), .val (.int sel), .val (.long vv), .second, .val (.int (1 : Int32))] [(.long vv), (.long (f3 3))])) t
              refine XS.lcmp Xj64.here hx rfl (hb hby at_248) rfl ?_
              show Steps p.tables e below (Tj64.setTop (mkF m 249 #[.val (.long q0), .second, .val (.long q1), .second, .val (.long q2), .second, .val (.long q3), .second, .val (.long q4), .second, .val (.int p5), .val (.ref b1), .val (.int (4 : Int32)), .val (.ref b59), .val (.int sel), .val (.long vv), .second, .val (.int (1 : Int32))] [(.int (lcmpW (f3 3) vv))])) t
              exact kt
            by_cases hc249_78 : (f3 3) < vv
            · refine own_go (T' := Tj64) (f' := (mkF m 259 #[.val (.long q0), .second, .val (.long q1), .second, .val (.long q2), .second, .val (.long q3), .second, .val (.long q4), .second, .val (.int p5), .val (.ref b1), .val (.int (4 : Int32)), .val (.ref b59), .val (.int sel), .val (.long vv), .second, .val (.int (2 : Int32))] [(.long vv), (.ref b59)])) (fun t kt => ?_) ?_
              · show Steps p.tables e below (Tj64.setTop (mkF m 249 #[.val (.long q0), .second, .val (.long q1), .second, .val (.long q2), .second, .val (.long q3), .second, .val (.long q4), .second, .val (.int p5), .val (.ref b1), .val (.int (4 : Int32)), .val (.ref b59), .val (.int sel), .val (.long vv), .second, .val (.int (1 : Int32))] [(.int (lcmpW (f3 3) vv))])) t
                refine XS.ifNo Xj64.here hx rfl (hb hby at_249) rfl (own_lN_ge hc249_78) ?_
                show Steps p.tables e below (Tj64.setTop (mkF m 252 #[.val (.long q0), .second, .val (.long q1), .second, .val (.long q2), .second, .val (.long q3), .second, .val (.long q4), .second, .val (.int p5), .val (.ref b1), .val (.int (4 : Int32)), .val (.ref b59), .val (.int sel), .val (.long vv), .second, .val (.int (1 : Int32))] [])) t
                refine XS.iinc Xj64.here hx rfl (hb hby at_252) rfl (l' := #[.val (.long q0), .second, .val (.long q1), .second, .val (.long q2), .second, .val (.long q3), .second, .val (.long q4), .second, .val (.int p5), .val (.ref b1), .val (.int (4 : Int32)), .val (.ref b59), .val (.int sel), .val (.long vv), .second, .val (.int (2 : Int32))]) rfl ?_
                show Steps p.tables e below (Tj64.setTop (mkF m 255 #[.val (.long q0), .second, .val (.long q1), .second, .val (.long q2), .second, .val (.long q3), .second, .val (.long q4), .second, .val (.int p5), .val (.ref b1), .val (.int (4 : Int32)), .val (.ref b59), .val (.int sel), .val (.long vv), .second, .val (.int (2 : Int32))] [])) t
                refine XS.aload Xj64.here hx rfl (hb hby at_255) rfl rfl ?_
                show Steps p.tables e below (Tj64.setTop (mkF m 257 #[.val (.long q0), .second, .val (.long q1), .second, .val (.long q2), .second, .val (.long q3), .second, .val (.long q4), .second, .val (.int p5), .val (.ref b1), .val (.int (4 : Int32)), .val (.ref b59), .val (.int sel), .val (.long vv), .second, .val (.int (2 : Int32))] [(.ref b59)])) t
                refine XS.lload Xj64.here hx rfl (hb hby at_257) rfl ?_
                show Steps p.tables e below (Tj64.setTop (mkF m 259 #[.val (.long q0), .second, .val (.long q1), .second, .val (.long q2), .second, .val (.long q3), .second, .val (.long q4), .second, .val (.int p5), .val (.ref b1), .val (.int (4 : Int32)), .val (.ref b59), .val (.int sel), .val (.long vv), .second, .val (.int (2 : Int32))] [(.long vv), (.ref b59)])) t
                exact kt
              refine own_callSp Xj64 hx hZ hown ej64 (hw _ (List.mem_of_getElem? (i := 5) rfl)) (hw _ (List.mem_of_getElem? (i := 6) rfl)) (hw _ (List.mem_of_getElem? (i := 7) rfl)) (hw _ (List.mem_of_getElem? (i := 8) rfl)) (by decide) (rm2 l Z aw hw b59 vv 4 f3 (4 : Int32) h63 n0 Z63 B63 (by decide) (by decide) (own_p4 hf0 hf1 hf2 hf3 (own_net ht1 ht2 ht3 ht4 ht5))) (g := (mkF m 259 #[.val (.long q0), .second, .val (.long q1), .second, .val (.long q2), .second, .val (.long q3), .second, .val (.long q4), .second, .val (.int p5), .val (.ref b1), .val (.int (4 : Int32)), .val (.ref b59), .val (.int sel), .val (.long vv), .second, .val (.int (2 : Int32))] [(.long vv), (.ref b59)])) rfl (by rw [hml]; rfl) (argsL := [(.ref b59), (.long vv)]) (rest := []) (lenOf pd_1 rfl) rfl rfl (W := 0) (by show 2 * 0 + _ ≤ _; exact Nat.le_of_eq rfl) (hb hby at_259) (by decide) (by decide) (by decide) (by decide) ?_
              intro T79 X79 e79
              refine own_go (T' := T79) (f' := (mkF m 272 #[.val (.long q0), .second, .val (.long q1), .second, .val (.long q2), .second, .val (.long q3), .second, .val (.long q4), .second, .val (.int p5), .val (.ref b1), .val (.int (4 : Int32)), .val (.ref b59), .val (.int sel), .val (.long vv), .second, .val (.int (2 : Int32))] [(.int (1 : Int32))])) (fun t kt => ?_) ?_
              · show Steps p.tables e below (T79.setTop (mkF m 262 #[.val (.long q0), .second, .val (.long q1), .second, .val (.long q2), .second, .val (.long q3), .second, .val (.long q4), .second, .val (.int p5), .val (.ref b1), .val (.int (4 : Int32)), .val (.ref b59), .val (.int sel), .val (.long vv), .second, .val (.int (2 : Int32))] [(.int (Int32.ofNat (own_cnt 4 f3 vv)))])) t
                refine XS.iload X79.here hx rfl (hb hby at_262) rfl ?_
                show Steps p.tables e below (T79.setTop (mkF m 264 #[.val (.long q0), .second, .val (.long q1), .second, .val (.long q2), .second, .val (.long q3), .second, .val (.long q4), .second, .val (.int p5), .val (.ref b1), .val (.int (4 : Int32)), .val (.ref b59), .val (.int sel), .val (.long vv), .second, .val (.int (2 : Int32))] [(.int (2 : Int32)), (.int (Int32.ofNat (own_cnt 4 f3 vv)))])) t
                refine XS.icmpNo X79.here hx rfl (hb hby at_264) rfl (teq (show (Int32.ofNat (own_cnt 4 f3 vv)) = (2 : Int32) from by simp only [own_cnt, if_pos hc192_65, if_neg hc211_66, if_neg hc230_74, if_pos hc249_78]; rfl)).2 ?_
                show Steps p.tables e below (T79.setTop (mkF m 267 #[.val (.long q0), .second, .val (.long q1), .second, .val (.long q2), .second, .val (.long q3), .second, .val (.long q4), .second, .val (.int p5), .val (.ref b1), .val (.int (4 : Int32)), .val (.ref b59), .val (.int sel), .val (.long vv), .second, .val (.int (2 : Int32))] [])) t
                refine XS.iconst X79.here hx rfl (hb hby at_267) ?_
                show Steps p.tables e below (T79.setTop (mkF m 268 #[.val (.long q0), .second, .val (.long q1), .second, .val (.long q2), .second, .val (.long q3), .second, .val (.long q4), .second, .val (.int p5), .val (.ref b1), .val (.int (4 : Int32)), .val (.ref b59), .val (.int sel), .val (.long vv), .second, .val (.int (2 : Int32))] [(.int (1 : Int32))])) t
                refine XS.goto X79.here hx rfl (pc0 := 268) (pc' := 272) rfl (hb hby at_268) (by decide) (by decide) ?_
                show Steps p.tables e below (T79.setTop (mkF m 272 #[.val (.long q0), .second, .val (.long q1), .second, .val (.long q2), .second, .val (.long q3), .second, .val (.long q4), .second, .val (.int p5), .val (.ref b1), .val (.int (4 : Int32)), .val (.ref b59), .val (.int sel), .val (.long vv), .second, .val (.int (2 : Int32))] [(.int (1 : Int32))])) t
                exact kt
              exact own_retN X79 hP hx hlk e79 (t := .boolean) hret (by simp) (hb hby at_272) (by decide) (by decide) (z' := (1 : Int32)) rfl ⟨rfl, Nj64⟩
            · refine own_go (T' := Tj64) (f' := (mkF m 259 #[.val (.long q0), .second, .val (.long q1), .second, .val (.long q2), .second, .val (.long q3), .second, .val (.long q4), .second, .val (.int p5), .val (.ref b1), .val (.int (4 : Int32)), .val (.ref b59), .val (.int sel), .val (.long vv), .second, .val (.int (1 : Int32))] [(.long vv), (.ref b59)])) (fun t kt => ?_) ?_
              · show Steps p.tables e below (Tj64.setTop (mkF m 249 #[.val (.long q0), .second, .val (.long q1), .second, .val (.long q2), .second, .val (.long q3), .second, .val (.long q4), .second, .val (.int p5), .val (.ref b1), .val (.int (4 : Int32)), .val (.ref b59), .val (.int sel), .val (.long vv), .second, .val (.int (1 : Int32))] [(.int (lcmpW (f3 3) vv))])) t
                refine XS.ifYes Xj64.here hx rfl (pc0 := 249) (pc' := 255) rfl (hb hby at_249) rfl (own_lY_ge hc249_78) (by decide) (by decide) ?_
                show Steps p.tables e below (Tj64.setTop (mkF m 255 #[.val (.long q0), .second, .val (.long q1), .second, .val (.long q2), .second, .val (.long q3), .second, .val (.long q4), .second, .val (.int p5), .val (.ref b1), .val (.int (4 : Int32)), .val (.ref b59), .val (.int sel), .val (.long vv), .second, .val (.int (1 : Int32))] [])) t
                refine XS.aload Xj64.here hx rfl (hb hby at_255) rfl rfl ?_
                show Steps p.tables e below (Tj64.setTop (mkF m 257 #[.val (.long q0), .second, .val (.long q1), .second, .val (.long q2), .second, .val (.long q3), .second, .val (.long q4), .second, .val (.int p5), .val (.ref b1), .val (.int (4 : Int32)), .val (.ref b59), .val (.int sel), .val (.long vv), .second, .val (.int (1 : Int32))] [(.ref b59)])) t
                refine XS.lload Xj64.here hx rfl (hb hby at_257) rfl ?_
                show Steps p.tables e below (Tj64.setTop (mkF m 259 #[.val (.long q0), .second, .val (.long q1), .second, .val (.long q2), .second, .val (.long q3), .second, .val (.long q4), .second, .val (.int p5), .val (.ref b1), .val (.int (4 : Int32)), .val (.ref b59), .val (.int sel), .val (.long vv), .second, .val (.int (1 : Int32))] [(.long vv), (.ref b59)])) t
                exact kt
              refine own_callSp Xj64 hx hZ hown ej64 (hw _ (List.mem_of_getElem? (i := 5) rfl)) (hw _ (List.mem_of_getElem? (i := 6) rfl)) (hw _ (List.mem_of_getElem? (i := 7) rfl)) (hw _ (List.mem_of_getElem? (i := 8) rfl)) (by decide) (rm2 l Z aw hw b59 vv 4 f3 (4 : Int32) h63 n0 Z63 B63 (by decide) (by decide) (own_p4 hf0 hf1 hf2 hf3 (own_net ht1 ht2 ht3 ht4 ht5))) (g := (mkF m 259 #[.val (.long q0), .second, .val (.long q1), .second, .val (.long q2), .second, .val (.long q3), .second, .val (.long q4), .second, .val (.int p5), .val (.ref b1), .val (.int (4 : Int32)), .val (.ref b59), .val (.int sel), .val (.long vv), .second, .val (.int (1 : Int32))] [(.long vv), (.ref b59)])) rfl (by rw [hml]; rfl) (argsL := [(.ref b59), (.long vv)]) (rest := []) (lenOf pd_1 rfl) rfl rfl (W := 0) (by show 2 * 0 + _ ≤ _; exact Nat.le_of_eq rfl) (hb hby at_259) (by decide) (by decide) (by decide) (by decide) ?_
              intro T80 X80 e80
              refine own_go (T' := T80) (f' := (mkF m 272 #[.val (.long q0), .second, .val (.long q1), .second, .val (.long q2), .second, .val (.long q3), .second, .val (.long q4), .second, .val (.int p5), .val (.ref b1), .val (.int (4 : Int32)), .val (.ref b59), .val (.int sel), .val (.long vv), .second, .val (.int (1 : Int32))] [(.int (1 : Int32))])) (fun t kt => ?_) ?_
              · show Steps p.tables e below (T80.setTop (mkF m 262 #[.val (.long q0), .second, .val (.long q1), .second, .val (.long q2), .second, .val (.long q3), .second, .val (.long q4), .second, .val (.int p5), .val (.ref b1), .val (.int (4 : Int32)), .val (.ref b59), .val (.int sel), .val (.long vv), .second, .val (.int (1 : Int32))] [(.int (Int32.ofNat (own_cnt 4 f3 vv)))])) t
                refine XS.iload X80.here hx rfl (hb hby at_262) rfl ?_
                show Steps p.tables e below (T80.setTop (mkF m 264 #[.val (.long q0), .second, .val (.long q1), .second, .val (.long q2), .second, .val (.long q3), .second, .val (.long q4), .second, .val (.int p5), .val (.ref b1), .val (.int (4 : Int32)), .val (.ref b59), .val (.int sel), .val (.long vv), .second, .val (.int (1 : Int32))] [(.int (1 : Int32)), (.int (Int32.ofNat (own_cnt 4 f3 vv)))])) t
                refine XS.icmpNo X80.here hx rfl (hb hby at_264) rfl (teq (show (Int32.ofNat (own_cnt 4 f3 vv)) = (1 : Int32) from by simp only [own_cnt, if_pos hc192_65, if_neg hc211_66, if_neg hc230_74, if_neg hc249_78]; rfl)).2 ?_
                show Steps p.tables e below (T80.setTop (mkF m 267 #[.val (.long q0), .second, .val (.long q1), .second, .val (.long q2), .second, .val (.long q3), .second, .val (.long q4), .second, .val (.int p5), .val (.ref b1), .val (.int (4 : Int32)), .val (.ref b59), .val (.int sel), .val (.long vv), .second, .val (.int (1 : Int32))] [])) t
                refine XS.iconst X80.here hx rfl (hb hby at_267) ?_
                show Steps p.tables e below (T80.setTop (mkF m 268 #[.val (.long q0), .second, .val (.long q1), .second, .val (.long q2), .second, .val (.long q3), .second, .val (.long q4), .second, .val (.int p5), .val (.ref b1), .val (.int (4 : Int32)), .val (.ref b59), .val (.int sel), .val (.long vv), .second, .val (.int (1 : Int32))] [(.int (1 : Int32))])) t
                refine XS.goto X80.here hx rfl (pc0 := 268) (pc' := 272) rfl (hb hby at_268) (by decide) (by decide) ?_
                show Steps p.tables e below (T80.setTop (mkF m 272 #[.val (.long q0), .second, .val (.long q1), .second, .val (.long q2), .second, .val (.long q3), .second, .val (.long q4), .second, .val (.int p5), .val (.ref b1), .val (.int (4 : Int32)), .val (.ref b59), .val (.int sel), .val (.long vv), .second, .val (.int (1 : Int32))] [(.int (1 : Int32))])) t
                exact kt
              exact own_retN X80 hP hx hlk e80 (t := .boolean) hret (by simp) (hb hby at_272) (by decide) (by decide) (z' := (1 : Int32)) rfl ⟨rfl, Nj64⟩
      · refine own_go (T' := Tj64) (f' := (mkF m 211 #[.val (.long q0), .second, .val (.long q1), .second, .val (.long q2), .second, .val (.long q3), .second, .val (.long q4), .second, .val (.int p5), .val (.ref b1), .val (.int (4 : Int32)), .val (.ref b59), .val (.int sel), .val (.long vv), .second, .val (.int (0 : Int32))] [(.int (lcmpW (f3 1) vv))])) (fun t kt => ?_) ?_
        · show Steps p.tables e below (Tj64.setTop (mkF m 192 #[.val (.long q0), .second, .val (.long q1), .second, .val (.long q2), .second, .val (.long q3), .second, .val (.long q4), .second, .val (.int p5), .val (.ref b1), .val (.int (4 : Int32)), .val (.ref b59), .val (.int sel), .val (.long vv), .second, .val (.int (0 : Int32))] [(.int (lcmpW (f3 0) vv))])) t
          refine XS.ifYes Xj64.here hx rfl (pc0 := 192) (pc' := 198) rfl (hb hby at_192) rfl (own_lY_ge hc192_65) (by decide) (by decide) ?_
          show Steps p.tables e below (Tj64.setTop (mkF m 198 #[.val (.long q0), .second, .val (.long q1), .second, .val (.long q2), .second, .val (.long q3), .second, .val (.long q4), .second, .val (.int p5), .val (.ref b1), .val (.int (4 : Int32)), .val (.ref b59), .val (.int sel), .val (.long vv), .second, .val (.int (0 : Int32))] [])) t
          refine XS.iload Xj64.here hx rfl (hb hby at_198) rfl ?_
          show Steps p.tables e below (Tj64.setTop (mkF m 200 #[.val (.long q0), .second, .val (.long q1), .second, .val (.long q2), .second, .val (.long q3), .second, .val (.long q4), .second, .val (.int p5), .val (.ref b1), .val (.int (4 : Int32)), .val (.ref b59), .val (.int sel), .val (.long vv), .second, .val (.int (0 : Int32))] [(.int (4 : Int32))])) t
          refine XS.iconst Xj64.here hx rfl (hb hby at_200) ?_
          show Steps p.tables e below (Tj64.setTop (mkF m 201 #[.val (.long q0), .second, .val (.long q1), .second, .val (.long q2), .second, .val (.long q3), .second, .val (.long q4), .second, .val (.int p5), .val (.ref b1), .val (.int (4 : Int32)), .val (.ref b59), .val (.int sel), .val (.long vv), .second, .val (.int (0 : Int32))] [(.int (1 : Int32)), (.int (4 : Int32))])) t
          refine XS.icmpNo Xj64.here hx rfl (hb hby at_201) rfl (by decide) ?_
          show Steps p.tables e below (Tj64.setTop (mkF m 204 #[.val (.long q0), .second, .val (.long q1), .second, .val (.long q2), .second, .val (.long q3), .second, .val (.long q4), .second, .val (.int p5), .val (.ref b1), .val (.int (4 : Int32)), .val (.ref b59), .val (.int sel), .val (.long vv), .second, .val (.int (0 : Int32))] [])) t
          refine XS.aload Xj64.here hx rfl (hb hby at_204) rfl rfl ?_
          show Steps p.tables e below (Tj64.setTop (mkF m 206 #[.val (.long q0), .second, .val (.long q1), .second, .val (.long q2), .second, .val (.long q3), .second, .val (.long q4), .second, .val (.int p5), .val (.ref b1), .val (.int (4 : Int32)), .val (.ref b59), .val (.int sel), .val (.long vv), .second, .val (.int (0 : Int32))] [(.ref b59)])) t
          refine XS.iconst Xj64.here hx rfl (hb hby at_206) ?_
          show Steps p.tables e below (Tj64.setTop (mkF m 207 #[.val (.long q0), .second, .val (.long q1), .second, .val (.long q2), .second, .val (.long q3), .second, .val (.long q4), .second, .val (.int p5), .val (.ref b1), .val (.int (4 : Int32)), .val (.ref b59), .val (.int sel), .val (.long vv), .second, .val (.int (0 : Int32))] [(.int (1 : Int32)), (.ref b59)])) t
          refine own_laload Xj64 hx hZ ej64 B63 (i := 1) (by decide) (by decide) (g := (mkF m 207 #[.val (.long q0), .second, .val (.long q1), .second, .val (.long q2), .second, .val (.long q3), .second, .val (.long q4), .second, .val (.int p5), .val (.ref b1), .val (.int (4 : Int32)), .val (.ref b59), .val (.int sel), .val (.long vv), .second, .val (.int (0 : Int32))] [(.int (1 : Int32)), (.ref b59)])) rfl rfl (hb hby at_207) _ ?_
          show Steps p.tables e below (Tj64.setTop (mkF m 208 #[.val (.long q0), .second, .val (.long q1), .second, .val (.long q2), .second, .val (.long q3), .second, .val (.long q4), .second, .val (.int p5), .val (.ref b1), .val (.int (4 : Int32)), .val (.ref b59), .val (.int sel), .val (.long vv), .second, .val (.int (0 : Int32))] [(.long (f3 1))])) t
          refine XS.lload Xj64.here hx rfl (hb hby at_208) rfl ?_
          show Steps p.tables e below (Tj64.setTop (mkF m 210 #[.val (.long q0), .second, .val (.long q1), .second, .val (.long q2), .second, .val (.long q3), .second, .val (.long q4), .second, .val (.int p5), .val (.ref b1), .val (.int (4 : Int32)), .val (.ref b59), .val (.int sel), .val (.long vv), .second, .val (.int (0 : Int32))] [(.long vv), (.long (f3 1))])) t
          refine XS.lcmp Xj64.here hx rfl (hb hby at_210) rfl ?_
          show Steps p.tables e below (Tj64.setTop (mkF m 211 #[.val (.long q0), .second, .val (.long q1), .second, .val (.long q2), .second, .val (.long q3), .second, .val (.long q4), .second, .val (.int p5), .val (.ref b1), .val (.int (4 : Int32)), .val (.ref b59), .val (.int sel), .val (.long vv), .second, .val (.int (0 : Int32))] [(.int (lcmpW (f3 1) vv))])) t
          exact kt
        by_cases hc211_81 : (f3 1) < vv
        · refine own_go (T' := Tj64) (f' := (mkF m 230 #[.val (.long q0), .second, .val (.long q1), .second, .val (.long q2), .second, .val (.long q3), .second, .val (.long q4), .second, .val (.int p5), .val (.ref b1), .val (.int (4 : Int32)), .val (.ref b59), .val (.int sel), .val (.long vv), .second, .val (.int (1 : Int32))] [(.int (lcmpW (f3 2) vv))])) (fun t kt => ?_) ?_
          · show Steps p.tables e below (Tj64.setTop (mkF m 211 #[.val (.long q0), .second, .val (.long q1), .second, .val (.long q2), .second, .val (.long q3), .second, .val (.long q4), .second, .val (.int p5), .val (.ref b1), .val (.int (4 : Int32)), .val (.ref b59), .val (.int sel), .val (.long vv), .second, .val (.int (0 : Int32))] [(.int (lcmpW (f3 1) vv))])) t
            refine XS.ifNo Xj64.here hx rfl (hb hby at_211) rfl (own_lN_ge hc211_81) ?_
            show Steps p.tables e below (Tj64.setTop (mkF m 214 #[.val (.long q0), .second, .val (.long q1), .second, .val (.long q2), .second, .val (.long q3), .second, .val (.long q4), .second, .val (.int p5), .val (.ref b1), .val (.int (4 : Int32)), .val (.ref b59), .val (.int sel), .val (.long vv), .second, .val (.int (0 : Int32))] [])) t
            refine XS.iinc Xj64.here hx rfl (hb hby at_214) rfl (l' := #[.val (.long q0), .second, .val (.long q1), .second, .val (.long q2), .second, .val (.long q3), .second, .val (.long q4), .second, .val (.int p5), .val (.ref b1), .val (.int (4 : Int32)), .val (.ref b59), .val (.int sel), .val (.long vv), .second, .val (.int (1 : Int32))]) rfl ?_
            show Steps p.tables e below (Tj64.setTop (mkF m 217 #[.val (.long q0), .second, .val (.long q1), .second, .val (.long q2), .second, .val (.long q3), .second, .val (.long q4), .second, .val (.int p5), .val (.ref b1), .val (.int (4 : Int32)), .val (.ref b59), .val (.int sel), .val (.long vv), .second, .val (.int (1 : Int32))] [])) t
            refine XS.iload Xj64.here hx rfl (hb hby at_217) rfl ?_
            show Steps p.tables e below (Tj64.setTop (mkF m 219 #[.val (.long q0), .second, .val (.long q1), .second, .val (.long q2), .second, .val (.long q3), .second, .val (.long q4), .second, .val (.int p5), .val (.ref b1), .val (.int (4 : Int32)), .val (.ref b59), .val (.int sel), .val (.long vv), .second, .val (.int (1 : Int32))] [(.int (4 : Int32))])) t
            refine XS.iconst Xj64.here hx rfl (hb hby at_219) ?_
            show Steps p.tables e below (Tj64.setTop (mkF m 220 #[.val (.long q0), .second, .val (.long q1), .second, .val (.long q2), .second, .val (.long q3), .second, .val (.long q4), .second, .val (.int p5), .val (.ref b1), .val (.int (4 : Int32)), .val (.ref b59), .val (.int sel), .val (.long vv), .second, .val (.int (1 : Int32))] [(.int (2 : Int32)), (.int (4 : Int32))])) t
            refine XS.icmpNo Xj64.here hx rfl (hb hby at_220) rfl (by decide) ?_
            show Steps p.tables e below (Tj64.setTop (mkF m 223 #[.val (.long q0), .second, .val (.long q1), .second, .val (.long q2), .second, .val (.long q3), .second, .val (.long q4), .second, .val (.int p5), .val (.ref b1), .val (.int (4 : Int32)), .val (.ref b59), .val (.int sel), .val (.long vv), .second, .val (.int (1 : Int32))] [])) t
            refine XS.aload Xj64.here hx rfl (hb hby at_223) rfl rfl ?_
            show Steps p.tables e below (Tj64.setTop (mkF m 225 #[.val (.long q0), .second, .val (.long q1), .second, .val (.long q2), .second, .val (.long q3), .second, .val (.long q4), .second, .val (.int p5), .val (.ref b1), .val (.int (4 : Int32)), .val (.ref b59), .val (.int sel), .val (.long vv), .second, .val (.int (1 : Int32))] [(.ref b59)])) t
            refine XS.iconst Xj64.here hx rfl (hb hby at_225) ?_
            show Steps p.tables e below (Tj64.setTop (mkF m 226 #[.val (.long q0), .second, .val (.long q1), .second, .val (.long q2), .second, .val (.long q3), .second, .val (.long q4), .second, .val (.int p5), .val (.ref b1), .val (.int (4 : Int32)), .val (.ref b59), .val (.int sel), .val (.long vv), .second, .val (.int (1 : Int32))] [(.int (2 : Int32)), (.ref b59)])) t
            refine own_laload Xj64 hx hZ ej64 B63 (i := 2) (by decide) (by decide) (g := (mkF m 226 #[.val (.long q0), .second, .val (.long q1), .second, .val (.long q2), .second, .val (.long q3), .second, .val (.long q4), .second, .val (.int p5), .val (.ref b1), .val (.int (4 : Int32)), .val (.ref b59), .val (.int sel), .val (.long vv), .second, .val (.int (1 : Int32))] [(.int (2 : Int32)), (.ref b59)])) rfl rfl (hb hby at_226) _ ?_
            show Steps p.tables e below (Tj64.setTop (mkF m 227 #[.val (.long q0), .second, .val (.long q1), .second, .val (.long q2), .second, .val (.long q3), .second, .val (.long q4), .second, .val (.int p5), .val (.ref b1), .val (.int (4 : Int32)), .val (.ref b59), .val (.int sel), .val (.long vv), .second, .val (.int (1 : Int32))] [(.long (f3 2))])) t
            refine XS.lload Xj64.here hx rfl (hb hby at_227) rfl ?_
            show Steps p.tables e below (Tj64.setTop (mkF m 229 #[.val (.long q0), .second, .val (.long q1), .second, .val (.long q2), .second, .val (.long q3), .second, .val (.long q4), .second, .val (.int p5), .val (.ref b1), .val (.int (4 : Int32)), .val (.ref b59), .val (.int sel), .val (.long vv), .second, .val (.int (1 : Int32))] [(.long vv), (.long (f3 2))])) t
            refine XS.lcmp Xj64.here hx rfl (hb hby at_229) rfl ?_
            show Steps p.tables e below (Tj64.setTop (mkF m 230 #[.val (.long q0), .second, .val (.long q1), .second, .val (.long q2), .second, .val (.long q3), .second, .val (.long q4), .second, .val (.int p5), .val (.ref b1), .val (.int (4 : Int32)), .val (.ref b59), .val (.int sel), .val (.long vv), .second, .val (.int (1 : Int32))] [(.int (lcmpW (f3 2) vv))])) t
            exact kt
          by_cases hc230_82 : (f3 2) < vv
          · refine own_go (T' := Tj64) (f' := (mkF m 249 #[.val (.long q0), .second, .val (.long q1), .second, .val (.long q2), .second, .val (.long q3), .second, .val (.long q4), .second, .val (.int p5), .val (.ref b1), .val (.int (4 : Int32)), .val (.ref b59), .val (.int sel), .val (.long vv), .second, .val (.int (2 : Int32))] [(.int (lcmpW (f3 3) vv))])) (fun t kt => ?_) ?_
            · show Steps p.tables e below (Tj64.setTop (mkF m 230 #[.val (.long q0), .second, .val (.long q1), .second, .val (.long q2), .second, .val (.long q3), .second, .val (.long q4), .second, .val (.int p5), .val (.ref b1), .val (.int (4 : Int32)), .val (.ref b59), .val (.int sel), .val (.long vv), .second, .val (.int (1 : Int32))] [(.int (lcmpW (f3 2) vv))])) t
              refine XS.ifNo Xj64.here hx rfl (hb hby at_230) rfl (own_lN_ge hc230_82) ?_
              show Steps p.tables e below (Tj64.setTop (mkF m 233 #[.val (.long q0), .second, .val (.long q1), .second, .val (.long q2), .second, .val (.long q3), .second, .val (.long q4), .second, .val (.int p5), .val (.ref b1), .val (.int (4 : Int32)), .val (.ref b59), .val (.int sel), .val (.long vv), .second, .val (.int (1 : Int32))] [])) t
              refine XS.iinc Xj64.here hx rfl (hb hby at_233) rfl (l' := #[.val (.long q0), .second, .val (.long q1), .second, .val (.long q2), .second, .val (.long q3), .second, .val (.long q4), .second, .val (.int p5), .val (.ref b1), .val (.int (4 : Int32)), .val (.ref b59), .val (.int sel), .val (.long vv), .second, .val (.int (2 : Int32))]) rfl ?_
              show Steps p.tables e below (Tj64.setTop (mkF m 236 #[.val (.long q0), .second, .val (.long q1), .second, .val (.long q2), .second, .val (.long q3), .second, .val (.long q4), .second, .val (.int p5), .val (.ref b1), .val (.int (4 : Int32)), .val (.ref b59), .val (.int sel), .val (.long vv), .second, .val (.int (2 : Int32))] [])) t
              refine XS.iload Xj64.here hx rfl (hb hby at_236) rfl ?_
              show Steps p.tables e below (Tj64.setTop (mkF m 238 #[.val (.long q0), .second, .val (.long q1), .second, .val (.long q2), .second, .val (.long q3), .second, .val (.long q4), .second, .val (.int p5), .val (.ref b1), .val (.int (4 : Int32)), .val (.ref b59), .val (.int sel), .val (.long vv), .second, .val (.int (2 : Int32))] [(.int (4 : Int32))])) t
              refine XS.iconst Xj64.here hx rfl (hb hby at_238) ?_
              show Steps p.tables e below (Tj64.setTop (mkF m 239 #[.val (.long q0), .second, .val (.long q1), .second, .val (.long q2), .second, .val (.long q3), .second, .val (.long q4), .second, .val (.int p5), .val (.ref b1), .val (.int (4 : Int32)), .val (.ref b59), .val (.int sel), .val (.long vv), .second, .val (.int (2 : Int32))] [(.int (3 : Int32)), (.int (4 : Int32))])) t
              refine XS.icmpNo Xj64.here hx rfl (hb hby at_239) rfl (by decide) ?_
              show Steps p.tables e below (Tj64.setTop (mkF m 242 #[.val (.long q0), .second, .val (.long q1), .second, .val (.long q2), .second, .val (.long q3), .second, .val (.long q4), .second, .val (.int p5), .val (.ref b1), .val (.int (4 : Int32)), .val (.ref b59), .val (.int sel), .val (.long vv), .second, .val (.int (2 : Int32))] [])) t
              refine XS.aload Xj64.here hx rfl (hb hby at_242) rfl rfl ?_
              show Steps p.tables e below (Tj64.setTop (mkF m 244 #[.val (.long q0), .second, .val (.long q1), .second, .val (.long q2), .second, .val (.long q3), .second, .val (.long q4), .second, .val (.int p5), .val (.ref b1), .val (.int (4 : Int32)), .val (.ref b59), .val (.int sel), .val (.long vv), .second, .val (.int (2 : Int32))] [(.ref b59)])) t
              refine XS.iconst Xj64.here hx rfl (hb hby at_244) ?_
              show Steps p.tables e below (Tj64.setTop (mkF m 245 #[.val (.long q0), .second, .val (.long q1), .second, .val (.long q2), .second, .val (.long q3), .second, .val (.long q4), .second, .val (.int p5), .val (.ref b1), .val (.int (4 : Int32)), .val (.ref b59), .val (.int sel), .val (.long vv), .second, .val (.int (2 : Int32))] [(.int (3 : Int32)), (.ref b59)])) t
              refine own_laload Xj64 hx hZ ej64 B63 (i := 3) (by decide) (by decide) (g := (mkF m 245 #[.val (.long q0), .second, .val (.long q1), .second, .val (.long q2), .second, .val (.long q3), .second, .val (.long q4), .second, .val (.int p5), .val (.ref b1), .val (.int (4 : Int32)), .val (.ref b59), .val (.int sel), .val (.long vv), .second, .val (.int (2 : Int32))] [(.int (3 : Int32)), (.ref b59)])) rfl rfl (hb hby at_245) _ ?_
              show Steps p.tables e below (Tj64.setTop (mkF m 246 #[.val (.long q0), .second, .val (.long q1), .second, .val (.long q2), .second, .val (.long q3), .second, .val (.long q4), .second, .val (.int p5), .val (.ref b1), .val (.int (4 : Int32)), .val (.ref b59), .val (.int sel), .val (.long vv), .second, .val (.int (2 : Int32))] [(.long (f3 3))])) t
              refine XS.lload Xj64.here hx rfl (hb hby at_246) rfl ?_
              show Steps p.tables e below (Tj64.setTop (mkF m 248 #[.val (.long q0), .second, .val (.long q1), .second, .val (.long q2), .second, .val (.long q3), .second, .val (.long q4), .second, .val (.int p5), .val (.ref b1), .val (.int (4 : Int32)), .val (.ref b59), .val (.int sel), .val (.long vv), .second, .val (.int (2 : Int32))] [(.long vv), (.long (f3 3))])) t
              refine XS.lcmp Xj64.here hx rfl (hb hby at_248) rfl ?_
              show Steps p.tables e below (Tj64.setTop (mkF m 249 #[.val (.long q0), .second, .val (.long q1), .second, .val (.long q2), .second, .val (.long q3), .second, .val (.long q4), .second, .val (.int p5), .val (.ref b1), .val (.int (4 : Int32)), .val (.ref b59), .val (.int sel), .val (.long vv), .second, .val (.int (2 : Int32))] [(.int (lcmpW (f3 3) vv))])) t
              exact kt
            by_cases hc249_83 : (f3 3) < vv
            · refine own_go (T' := Tj64) (f' := (mkF m 259 #[.val (.long q0), .second, .val (.long q1), .second, .val (.long q2), .second, .val (.long q3), .second, .val (.long q4), .second, .val (.int p5), .val (.ref b1), .val (.int (4 : Int32)), .val (.ref b59), .val (.int sel), .val (.long vv), .second, .val (.int (3 : Int32))] [(.long vv), (.ref b59)])) (fun t kt => ?_) ?_
              · show Steps p.tables e below (Tj64.setTop (mkF m 249 #[.val (.long q0), .second, .val (.long q1), .second, .val (.long q2), .second, .val (.long q3), .second, .val (.long q4), .second, .val (.int p5), .val (.ref b1), .val (.int (4 : Int32)), .val (.ref b59), .val (.int sel), .val (.long vv), .second, .val (.int (2 : Int32))] [(.int (lcmpW (f3 3) vv))])) t
                refine XS.ifNo Xj64.here hx rfl (hb hby at_249) rfl (own_lN_ge hc249_83) ?_
                show Steps p.tables e below (Tj64.setTop (mkF m 252 #[.val (.long q0), .second, .val (.long q1), .second, .val (.long q2), .second, .val (.long q3), .second, .val (.long q4), .second, .val (.int p5), .val (.ref b1), .val (.int (4 : Int32)), .val (.ref b59), .val (.int sel), .val (.long vv), .second, .val (.int (2 : Int32))] [])) t
                refine XS.iinc Xj64.here hx rfl (hb hby at_252) rfl (l' := #[.val (.long q0), .second, .val (.long q1), .second, .val (.long q2), .second, .val (.long q3), .second, .val (.long q4), .second, .val (.int p5), .val (.ref b1), .val (.int (4 : Int32)), .val (.ref b59), .val (.int sel), .val (.long vv), .second, .val (.int (3 : Int32))]) rfl ?_
                show Steps p.tables e below (Tj64.setTop (mkF m 255 #[.val (.long q0), .second, .val (.long q1), .second, .val (.long q2), .second, .val (.long q3), .second, .val (.long q4), .second, .val (.int p5), .val (.ref b1), .val (.int (4 : Int32)), .val (.ref b59), .val (.int sel), .val (.long vv), .second, .val (.int (3 : Int32))] [])) t
                refine XS.aload Xj64.here hx rfl (hb hby at_255) rfl rfl ?_
                show Steps p.tables e below (Tj64.setTop (mkF m 257 #[.val (.long q0), .second, .val (.long q1), .second, .val (.long q2), .second, .val (.long q3), .second, .val (.long q4), .second, .val (.int p5), .val (.ref b1), .val (.int (4 : Int32)), .val (.ref b59), .val (.int sel), .val (.long vv), .second, .val (.int (3 : Int32))] [(.ref b59)])) t
                refine XS.lload Xj64.here hx rfl (hb hby at_257) rfl ?_
                show Steps p.tables e below (Tj64.setTop (mkF m 259 #[.val (.long q0), .second, .val (.long q1), .second, .val (.long q2), .second, .val (.long q3), .second, .val (.long q4), .second, .val (.int p5), .val (.ref b1), .val (.int (4 : Int32)), .val (.ref b59), .val (.int sel), .val (.long vv), .second, .val (.int (3 : Int32))] [(.long vv), (.ref b59)])) t
                exact kt
              refine own_callSp Xj64 hx hZ hown ej64 (hw _ (List.mem_of_getElem? (i := 5) rfl)) (hw _ (List.mem_of_getElem? (i := 6) rfl)) (hw _ (List.mem_of_getElem? (i := 7) rfl)) (hw _ (List.mem_of_getElem? (i := 8) rfl)) (by decide) (rm2 l Z aw hw b59 vv 4 f3 (4 : Int32) h63 n0 Z63 B63 (by decide) (by decide) (own_p4 hf0 hf1 hf2 hf3 (own_net ht1 ht2 ht3 ht4 ht5))) (g := (mkF m 259 #[.val (.long q0), .second, .val (.long q1), .second, .val (.long q2), .second, .val (.long q3), .second, .val (.long q4), .second, .val (.int p5), .val (.ref b1), .val (.int (4 : Int32)), .val (.ref b59), .val (.int sel), .val (.long vv), .second, .val (.int (3 : Int32))] [(.long vv), (.ref b59)])) rfl (by rw [hml]; rfl) (argsL := [(.ref b59), (.long vv)]) (rest := []) (lenOf pd_1 rfl) rfl rfl (W := 0) (by show 2 * 0 + _ ≤ _; exact Nat.le_of_eq rfl) (hb hby at_259) (by decide) (by decide) (by decide) (by decide) ?_
              intro T84 X84 e84
              refine own_go (T' := T84) (f' := (mkF m 272 #[.val (.long q0), .second, .val (.long q1), .second, .val (.long q2), .second, .val (.long q3), .second, .val (.long q4), .second, .val (.int p5), .val (.ref b1), .val (.int (4 : Int32)), .val (.ref b59), .val (.int sel), .val (.long vv), .second, .val (.int (3 : Int32))] [(.int (1 : Int32))])) (fun t kt => ?_) ?_
              · show Steps p.tables e below (T84.setTop (mkF m 262 #[.val (.long q0), .second, .val (.long q1), .second, .val (.long q2), .second, .val (.long q3), .second, .val (.long q4), .second, .val (.int p5), .val (.ref b1), .val (.int (4 : Int32)), .val (.ref b59), .val (.int sel), .val (.long vv), .second, .val (.int (3 : Int32))] [(.int (Int32.ofNat (own_cnt 4 f3 vv)))])) t
                refine XS.iload X84.here hx rfl (hb hby at_262) rfl ?_
                show Steps p.tables e below (T84.setTop (mkF m 264 #[.val (.long q0), .second, .val (.long q1), .second, .val (.long q2), .second, .val (.long q3), .second, .val (.long q4), .second, .val (.int p5), .val (.ref b1), .val (.int (4 : Int32)), .val (.ref b59), .val (.int sel), .val (.long vv), .second, .val (.int (3 : Int32))] [(.int (3 : Int32)), (.int (Int32.ofNat (own_cnt 4 f3 vv)))])) t
                refine XS.icmpNo X84.here hx rfl (hb hby at_264) rfl (teq (show (Int32.ofNat (own_cnt 4 f3 vv)) = (3 : Int32) from by simp only [own_cnt, if_neg hc192_65, if_pos hc211_81, if_pos hc230_82, if_pos hc249_83]; rfl)).2 ?_
                show Steps p.tables e below (T84.setTop (mkF m 267 #[.val (.long q0), .second, .val (.long q1), .second, .val (.long q2), .second, .val (.long q3), .second, .val (.long q4), .second, .val (.int p5), .val (.ref b1), .val (.int (4 : Int32)), .val (.ref b59), .val (.int sel), .val (.long vv), .second, .val (.int (3 : Int32))] [])) t
                refine XS.iconst X84.here hx rfl (hb hby at_267) ?_
                show Steps p.tables e below (T84.setTop (mkF m 268 #[.val (.long q0), .second, .val (.long q1), .second, .val (.long q2), .second, .val (.long q3), .second, .val (.long q4), .second, .val (.int p5), .val (.ref b1), .val (.int (4 : Int32)), .val (.ref b59), .val (.int sel), .val (.long vv), .second, .val (.int (3 : Int32))] [(.int (1 : Int32))])) t
                refine XS.goto X84.here hx rfl (pc0 := 268) (pc' := 272) rfl (hb hby at_268) (by decide) (by decide) ?_
                show Steps p.tables e below (T84.setTop (mkF m 272 #[.val (.long q0), .second, .val (.long q1), .second, .val (.long q2), .second, .val (.long q3), .second, .val (.long q4), .second, .val (.int p5), .val (.ref b1), .val (.int (4 : Int32)), .val (.ref b59), .val (.int sel), .val (.long vv), .second, .val (.int (3 : Int32))] [(.int (1 : Int32))])) t
                exact kt
              exact own_retN X84 hP hx hlk e84 (t := .boolean) hret (by simp) (hb hby at_272) (by decide) (by decide) (z' := (1 : Int32)) rfl ⟨rfl, Nj64⟩
            · refine own_go (T' := Tj64) (f' := (mkF m 259 #[.val (.long q0), .second, .val (.long q1), .second, .val (.long q2), .second, .val (.long q3), .second, .val (.long q4), .second, .val (.int p5), .val (.ref b1), .val (.int (4 : Int32)), .val (.ref b59), .val (.int sel), .val (.long vv), .second, .val (.int (2 : Int32))] [(.long vv), (.ref b59)])) (fun t kt => ?_) ?_
              · show Steps p.tables e below (Tj64.setTop (mkF m 249 #[.val (.long q0), .second, .val (.long q1), .second, .val (.long q2), .second, .val (.long q3), .second, .val (.long q4), .second, .val (.int p5), .val (.ref b1), .val (.int (4 : Int32)), .val (.ref b59), .val (.int sel), .val (.long vv), .second, .val (.int (2 : Int32))] [(.int (lcmpW (f3 3) vv))])) t
                refine XS.ifYes Xj64.here hx rfl (pc0 := 249) (pc' := 255) rfl (hb hby at_249) rfl (own_lY_ge hc249_83) (by decide) (by decide) ?_
                show Steps p.tables e below (Tj64.setTop (mkF m 255 #[.val (.long q0), .second, .val (.long q1), .second, .val (.long q2), .second, .val (.long q3), .second, .val (.long q4), .second, .val (.int p5), .val (.ref b1), .val (.int (4 : Int32)), .val (.ref b59), .val (.int sel), .val (.long vv), .second, .val (.int (2 : Int32))] [])) t
                refine XS.aload Xj64.here hx rfl (hb hby at_255) rfl rfl ?_
                show Steps p.tables e below (Tj64.setTop (mkF m 257 #[.val (.long q0), .second, .val (.long q1), .second, .val (.long q2), .second, .val (.long q3), .second, .val (.long q4), .second, .val (.int p5), .val (.ref b1), .val (.int (4 : Int32)), .val (.ref b59), .val (.int sel), .val (.long vv), .second, .val (.int (2 : Int32))] [(.ref b59)])) t
                refine XS.lload Xj64.here hx rfl (hb hby at_257) rfl ?_
                show Steps p.tables e below (Tj64.setTop (mkF m 259 #[.val (.long q0), .second, .val (.long q1), .second, .val (.long q2), .second, .val (.long q3), .second, .val (.long q4), .second, .val (.int p5), .val (.ref b1), .val (.int (4 : Int32)), .val (.ref b59), .val (.int sel), .val (.long vv), .second, .val (.int (2 : Int32))] [(.long vv), (.ref b59)])) t
                exact kt
              refine own_callSp Xj64 hx hZ hown ej64 (hw _ (List.mem_of_getElem? (i := 5) rfl)) (hw _ (List.mem_of_getElem? (i := 6) rfl)) (hw _ (List.mem_of_getElem? (i := 7) rfl)) (hw _ (List.mem_of_getElem? (i := 8) rfl)) (by decide) (rm2 l Z aw hw b59 vv 4 f3 (4 : Int32) h63 n0 Z63 B63 (by decide) (by decide) (own_p4 hf0 hf1 hf2 hf3 (own_net ht1 ht2 ht3 ht4 ht5))) (g := (mkF m 259 #[.val (.long q0), .second, .val (.long q1), .second, .val (.long q2), .second, .val (.long q3), .second, .val (.long q4), .second, .val (.int p5), .val (.ref b1), .val (.int (4 : Int32)), .val (.ref b59), .val (.int sel), .val (.long vv), .second, .val (.int (2 : Int32))] [(.long vv), (.ref b59)])) rfl (by rw [hml]; rfl) (argsL := [(.ref b59), (.long vv)]) (rest := []) (lenOf pd_1 rfl) rfl rfl (W := 0) (by show 2 * 0 + _ ≤ _; exact Nat.le_of_eq rfl) (hb hby at_259) (by decide) (by decide) (by decide) (by decide) ?_
              intro T85 X85 e85
              refine own_go (T' := T85) (f' := (mkF m 272 #[.val (.long q0), .second, .val (.long q1), .second, .val (.long q2), .second, .val (.long q3), .second, .val (.long q4), .second, .val (.int p5), .val (.ref b1), .val (.int (4 : Int32)), .val (.ref b59), .val (.int sel), .val (.long vv), .second, .val (.int (2 : Int32))] [(.int (1 : Int32))])) (fun t kt => ?_) ?_
              · show Steps p.tables e below (T85.setTop (mkF m 262 #[.val (.long q0), .second, .val (.long q1), .second, .val (.long q2), .second, .val (.long q3), .second, .val (.long q4), .second, .val (.int p5), .val (.ref b1), .val (.int (4 : Int32)), .val (.ref b59), .val (.int sel), .val (.long vv), .second, .val (.int (2 : Int32))] [(.int (Int32.ofNat (own_cnt 4 f3 vv)))])) t
                refine XS.iload X85.here hx rfl (hb hby at_262) rfl ?_
                show Steps p.tables e below (T85.setTop (mkF m 264 #[.val (.long q0), .second, .val (.long q1), .second, .val (.long q2), .second, .val (.long q3), .second, .val (.long q4), .second, .val (.int p5), .val (.ref b1), .val (.int (4 : Int32)), .val (.ref b59), .val (.int sel), .val (.long vv), .second, .val (.int (2 : Int32))] [(.int (2 : Int32)), (.int (Int32.ofNat (own_cnt 4 f3 vv)))])) t
                refine XS.icmpNo X85.here hx rfl (hb hby at_264) rfl (teq (show (Int32.ofNat (own_cnt 4 f3 vv)) = (2 : Int32) from by simp only [own_cnt, if_neg hc192_65, if_pos hc211_81, if_pos hc230_82, if_neg hc249_83]; rfl)).2 ?_
                show Steps p.tables e below (T85.setTop (mkF m 267 #[.val (.long q0), .second, .val (.long q1), .second, .val (.long q2), .second, .val (.long q3), .second, .val (.long q4), .second, .val (.int p5), .val (.ref b1), .val (.int (4 : Int32)), .val (.ref b59), .val (.int sel), .val (.long vv), .second, .val (.int (2 : Int32))] [])) t
                refine XS.iconst X85.here hx rfl (hb hby at_267) ?_
                show Steps p.tables e below (T85.setTop (mkF m 268 #[.val (.long q0), .second, .val (.long q1), .second, .val (.long q2), .second, .val (.long q3), .second, .val (.long q4), .second, .val (.int p5), .val (.ref b1), .val (.int (4 : Int32)), .val (.ref b59), .val (.int sel), .val (.long vv), .second, .val (.int (2 : Int32))] [(.int (1 : Int32))])) t
                refine XS.goto X85.here hx rfl (pc0 := 268) (pc' := 272) rfl (hb hby at_268) (by decide) (by decide) ?_
                show Steps p.tables e below (T85.setTop (mkF m 272 #[.val (.long q0), .second, .val (.long q1), .second, .val (.long q2), .second, .val (.long q3), .second, .val (.long q4), .second, .val (.int p5), .val (.ref b1), .val (.int (4 : Int32)), .val (.ref b59), .val (.int sel), .val (.long vv), .second, .val (.int (2 : Int32))] [(.int (1 : Int32))])) t
                exact kt
              exact own_retN X85 hP hx hlk e85 (t := .boolean) hret (by simp) (hb hby at_272) (by decide) (by decide) (z' := (1 : Int32)) rfl ⟨rfl, Nj64⟩
          · refine own_go (T' := Tj64) (f' := (mkF m 249 #[.val (.long q0), .second, .val (.long q1), .second, .val (.long q2), .second, .val (.long q3), .second, .val (.long q4), .second, .val (.int p5), .val (.ref b1), .val (.int (4 : Int32)), .val (.ref b59), .val (.int sel), .val (.long vv), .second, .val (.int (1 : Int32))] [(.int (lcmpW (f3 3) vv))])) (fun t kt => ?_) ?_
            · show Steps p.tables e below (Tj64.setTop (mkF m 230 #[.val (.long q0), .second, .val (.long q1), .second, .val (.long q2), .second, .val (.long q3), .second, .val (.long q4), .second, .val (.int p5), .val (.ref b1), .val (.int (4 : Int32)), .val (.ref b59), .val (.int sel), .val (.long vv), .second, .val (.int (1 : Int32))] [(.int (lcmpW (f3 2) vv))])) t
              refine XS.ifYes Xj64.here hx rfl (pc0 := 230) (pc' := 236) rfl (hb hby at_230) rfl (own_lY_ge hc230_82) (by decide) (by decide) ?_
              show Steps p.tables e below (Tj64.setTop (mkF m 236 #[.val (.long q0), .second, .val (.long q1), .second, .val (.long q2), .second, .val (.long q3), .second, .val (.long q4), .second, .val (.int p5), .val (.ref b1), .val (.int (4 : Int32)), .val (.ref b59), .val (.int sel), .val (.long vv), .second, .val (.int (1 : Int32))] [])) t
              refine XS.iload Xj64.here hx rfl (hb hby at_236) rfl ?_
              show Steps p.tables e below (Tj64.setTop (mkF m 238 #[.val (.long q0), .second, .val (.long q1), .second, .val (.long q2), .second, .val (.long q3), .second, .val (.long q4), .second, .val (.int p5), .val (.ref b1), .val (.int (4 : Int32)), .val (.ref b59), .val (.int sel), .val (.long vv), .second, .val (.int (1 : Int32))] [(.int (4 : Int32))])) t
              refine XS.iconst Xj64.here hx rfl (hb hby at_238) ?_
              show Steps p.tables e below (Tj64.setTop (mkF m 239 #[.val (.long q0), .second, .val (.long q1), .second, .val (.long q2), .second, .val (.long q3), .second, .val (.long q4), .second, .val (.int p5), .val (.ref b1), .val (.int (4 : Int32)), .val (.ref b59), .val (.int sel), .val (.long vv), .second, .val (.int (1 : Int32))] [(.int (3 : Int32)), (.int (4 : Int32))])) t
              refine XS.icmpNo Xj64.here hx rfl (hb hby at_239) rfl (by decide) ?_
              show Steps p.tables e below (Tj64.setTop (mkF m 242 #[.val (.long q0), .second, .val (.long q1), .second, .val (.long q2), .second, .val (.long q3), .second, .val (.long q4), .second, .val (.int p5), .val (.ref b1), .val (.int (4 : Int32)), .val (.ref b59), .val (.int sel), .val (.long vv), .second, .val (.int (1 : Int32))] [])) t
              refine XS.aload Xj64.here hx rfl (hb hby at_242) rfl rfl ?_
              show Steps p.tables e below (Tj64.setTop (mkF m 244 #[.val (.long q0), .second, .val (.long q1), .second, .val (.long q2), .second, .val (.long q3), .second, .val (.long q4), .second, .val (.int p5), .val (.ref b1), .val (.int (4 : Int32)), .val (.ref b59), .val (.int sel), .val (.long vv), .second, .val (.int (1 : Int32))] [(.ref b59)])) t
              refine XS.iconst Xj64.here hx rfl (hb hby at_244) ?_
              show Steps p.tables e below (Tj64.setTop (mkF m 245 #[.val (.long q0), .second, .val (.long q1), .second, .val (.long q2), .second, .val (.long q3), .second, .val (.long q4), .second, .val (.int p5), .val (.ref b1), .val (.int (4 : Int32)), .val (.ref b59), .val (.int sel), .val (.long vv), .second, .val (.int (1 : Int32))] [(.int (3 : Int32)), (.ref b59)])) t
              refine own_laload Xj64 hx hZ ej64 B63 (i := 3) (by decide) (by decide) (g := (mkF m 245 #[.val (.long q0), .second, .val (.long q1), .second, .val (.long q2), .second, .val (.long q3), .second, .val (.long q4), .second, .val (.int p5), .val (.ref b1), .val (.int (4 : Int32)), .val (.ref b59), .val (.int sel), .val (.long vv), .second, .val (.int (1 : Int32))] [(.int (3 : Int32)), (.ref b59)])) rfl rfl (hb hby at_245) _ ?_
              show Steps p.tables e below (Tj64.setTop (mkF m 246 #[.val (.long q0), .second, .val (.long q1), .second, .val (.long q2), .second, .val (.long q3), .second, .val (.long q4), .second, .val (.int p5), .val (.ref b1), .val (.int (4 : Int32)), .val (.ref b59), .val (.int sel), .val (.long vv), .second, .val (.int (1 : Int32))] [(.long (f3 3))])) t
              refine XS.lload Xj64.here hx rfl (hb hby at_246) rfl ?_
              show Steps p.tables e below (Tj64.setTop (mkF m 248 #[.val (.long q0), .second, .val (.long q1), .second, .val (.long q2), .second, .val (.long q3), .second, .val (.long q4), .second, .val (.int p5), .val (.ref b1), .val (.int (4 : Int32)), .val (.ref b59), .val (.int sel), .val (.long vv), .second, .val (.int (1 : Int32))] [(.long vv), (.long (f3 3))])) t
              refine XS.lcmp Xj64.here hx rfl (hb hby at_248) rfl ?_
              show Steps p.tables e below (Tj64.setTop (mkF m 249 #[.val (.long q0), .second, .val (.long q1), .second, .val (.long q2), .second, .val (.long q3), .second, .val (.long q4), .second, .val (.int p5), .val (.ref b1), .val (.int (4 : Int32)), .val (.ref b59), .val (.int sel), .val (.long vv), .second, .val (.int (1 : Int32))] [(.int (lcmpW (f3 3) vv))])) t
              exact kt
            by_cases hc249_86 : (f3 3) < vv
            · refine own_go (T' := Tj64) (f' := (mkF m 259 #[.val (.long q0), .second, .val (.long q1), .second, .val (.long q2), .second, .val (.long q3), .second, .val (.long q4), .second, .val (.int p5), .val (.ref b1), .val (.int (4 : Int32)), .val (.ref b59), .val (.int sel), .val (.long vv), .second, .val (.int (2 : Int32))] [(.long vv), (.ref b59)])) (fun t kt => ?_) ?_
              · show Steps p.tables e below (Tj64.setTop (mkF m 249 #[.val (.long q0), .second, .val (.long q1), .second, .val (.long q2), .second, .val (.long q3), .second, .val (.long q4), .second, .val (.int p5), .val (.ref b1), .val (.int (4 : Int32)), .val (.ref b59), .val (.int sel), .val (.long vv), .second, .val (.int (1 : Int32))] [(.int (lcmpW (f3 3) vv))])) t
                refine XS.ifNo Xj64.here hx rfl (hb hby at_249) rfl (own_lN_ge hc249_86) ?_
                show Steps p.tables e below (Tj64.setTop (mkF m 252 #[.val (.long q0), .second, .val (.long q1), .second, .val (.long q2), .second, .val (.long q3), .second, .val (.long q4), .second, .val (.int p5), .val (.ref b1), .val (.int (4 : Int32)), .val (.ref b59), .val (.int sel), .val (.long vv), .second, .val (.int (1 : Int32))] [])) t
                refine XS.iinc Xj64.here hx rfl (hb hby at_252) rfl (l' := #[.val (.long q0), .second, .val (.long q1), .second, .val (.long q2), .second, .val (.long q3), .second, .val (.long q4), .second, .val (.int p5), .val (.ref b1), .val (.int (4 : Int32)), .val (.ref b59), .val (.int sel), .val (.long vv), .second, .val (.int (2 : Int32))]) rfl ?_
                show Steps p.tables e below (Tj64.setTop (mkF m 255 #[.val (.long q0), .second, .val (.long q1), .second, .val (.long q2), .second, .val (.long q3), .second, .val (.long q4), .second, .val (.int p5), .val (.ref b1), .val (.int (4 : Int32)), .val (.ref b59), .val (.int sel), .val (.long vv), .second, .val (.int (2 : Int32))] [])) t
                refine XS.aload Xj64.here hx rfl (hb hby at_255) rfl rfl ?_
                show Steps p.tables e below (Tj64.setTop (mkF m 257 #[.val (.long q0), .second, .val (.long q1), .second, .val (.long q2), .second, .val (.long q3), .second, .val (.long q4), .second, .val (.int p5), .val (.ref b1), .val (.int (4 : Int32)), .val (.ref b59), .val (.int sel), .val (.long vv), .second, .val (.int (2 : Int32))] [(.ref b59)])) t
                refine XS.lload Xj64.here hx rfl (hb hby at_257) rfl ?_
                show Steps p.tables e below (Tj64.setTop (mkF m 259 #[.val (.long q0), .second, .val (.long q1), .second, .val (.long q2), .second, .val (.long q3), .second, .val (.long q4), .second, .val (.int p5), .val (.ref b1), .val (.int (4 : Int32)), .val (.ref b59), .val (.int sel), .val (.long vv), .second, .val (.int (2 : Int32))] [(.long vv), (.ref b59)])) t
                exact kt
              refine own_callSp Xj64 hx hZ hown ej64 (hw _ (List.mem_of_getElem? (i := 5) rfl)) (hw _ (List.mem_of_getElem? (i := 6) rfl)) (hw _ (List.mem_of_getElem? (i := 7) rfl)) (hw _ (List.mem_of_getElem? (i := 8) rfl)) (by decide) (rm2 l Z aw hw b59 vv 4 f3 (4 : Int32) h63 n0 Z63 B63 (by decide) (by decide) (own_p4 hf0 hf1 hf2 hf3 (own_net ht1 ht2 ht3 ht4 ht5))) (g := (mkF m 259 #[.val (.long q0), .second, .val (.long q1), .second, .val (.long q2), .second, .val (.long q3), .second, .val (.long q4), .second, .val (.int p5), .val (.ref b1), .val (.int (4 : Int32)), .val (.ref b59), .val (.int sel), .val (.long vv), .second, .val (.int (2 : Int32))] [(.long vv), (.ref b59)])) rfl (by rw [hml]; rfl) (argsL := [(.ref b59), (.long vv)]) (rest := []) (lenOf pd_1 rfl) rfl rfl (W := 0) (by show 2 * 0 + _ ≤ _; exact Nat.le_of_eq rfl) (hb hby at_259) (by decide) (by decide) (by decide) (by decide) ?_
              intro T87 X87 e87
              refine own_go (T' := T87) (f' := (mkF m 272 #[.val (.long q0), .second, .val (.long q1), .second, .val (.long q2), .second, .val (.long q3), .second, .val (.long q4), .second, .val (.int p5), .val (.ref b1), .val (.int (4 : Int32)), .val (.ref b59), .val (.int sel), .val (.long vv), .second, .val (.int (2 : Int32))] [(.int (1 : Int32))])) (fun t kt => ?_) ?_
              · show Steps p.tables e below (T87.setTop (mkF m 262 #[.val (.long q0), .second, .val (.long q1), .second, .val (.long q2), .second, .val (.long q3), .second, .val (.long q4), .second, .val (.int p5), .val (.ref b1), .val (.int (4 : Int32)), .val (.ref b59), .val (.int sel), .val (.long vv), .second, .val (.int (2 : Int32))] [(.int (Int32.ofNat (own_cnt 4 f3 vv)))])) t
                refine XS.iload X87.here hx rfl (hb hby at_262) rfl ?_
                show Steps p.tables e below (T87.setTop (mkF m 264 #[.val (.long q0), .second, .val (.long q1), .second, .val (.long q2), .second, .val (.long q3), .second, .val (.long q4), .second, .val (.int p5), .val (.ref b1), .val (.int (4 : Int32)), .val (.ref b59), .val (.int sel), .val (.long vv), .second, .val (.int (2 : Int32))] [(.int (2 : Int32)), (.int (Int32.ofNat (own_cnt 4 f3 vv)))])) t
                refine XS.icmpNo X87.here hx rfl (hb hby at_264) rfl (teq (show (Int32.ofNat (own_cnt 4 f3 vv)) = (2 : Int32) from by simp only [own_cnt, if_neg hc192_65, if_pos hc211_81, if_neg hc230_82, if_pos hc249_86]; rfl)).2 ?_
                show Steps p.tables e below (T87.setTop (mkF m 267 #[.val (.long q0), .second, .val (.long q1), .second, .val (.long q2), .second, .val (.long q3), .second, .val (.long q4), .second, .val (.int p5), .val (.ref b1), .val (.int (4 : Int32)), .val (.ref b59), .val (.int sel), .val (.long vv), .second, .val (.int (2 : Int32))] [])) t
                refine XS.iconst X87.here hx rfl (hb hby at_267) ?_
                show Steps p.tables e below (T87.setTop (mkF m 268 #[.val (.long q0), .second, .val (.long q1), .second, .val (.long q2), .second, .val (.long q3), .second, .val (.long q4), .second, .val (.int p5), .val (.ref b1), .val (.int (4 : Int32)), .val (.ref b59), .val (.int sel), .val (.long vv), .second, .val (.int (2 : Int32))] [(.int (1 : Int32))])) t
                refine XS.goto X87.here hx rfl (pc0 := 268) (pc' := 272) rfl (hb hby at_268) (by decide) (by decide) ?_
                show Steps p.tables e below (T87.setTop (mkF m 272 #[.val (.long q0), .second, .val (.long q1), .second, .val (.long q2), .second, .val (.long q3), .second, .val (.long q4), .second, .val (.int p5), .val (.ref b1), .val (.int (4 : Int32)), .val (.ref b59), .val (.int sel), .val (.long vv), .second, .val (.int (2 : Int32))] [(.int (1 : Int32))])) t
                exact kt
              exact own_retN X87 hP hx hlk e87 (t := .boolean) hret (by simp) (hb hby at_272) (by decide) (by decide) (z' := (1 : Int32)) rfl ⟨rfl, Nj64⟩
            · refine own_go (T' := Tj64) (f' := (mkF m 259 #[.val (.long q0), .second, .val (.long q1), .second, .val (.long q2), .second, .val (.long q3), .second, .val (.long q4), .second, .val (.int p5), .val (.ref b1), .val (.int (4 : Int32)), .val (.ref b59), .val (.int sel), .val (.long vv), .second, .val (.int (1 : Int32))] [(.long vv), (.ref b59)])) (fun t kt => ?_) ?_
              · show Steps p.tables e below (Tj64.setTop (mkF m 249 #[.val (.long q0), .second, .val (.long q1), .second, .val (.long q2), .second, .val (.long q3), .second, .val (.long q4), .second, .val (.int p5), .val (.ref b1), .val (.int (4 : Int32)), .val (.ref b59), .val (.int sel), .val (.long vv), .second, .val (.int (1 : Int32))] [(.int (lcmpW (f3 3) vv))])) t
                refine XS.ifYes Xj64.here hx rfl (pc0 := 249) (pc' := 255) rfl (hb hby at_249) rfl (own_lY_ge hc249_86) (by decide) (by decide) ?_
                show Steps p.tables e below (Tj64.setTop (mkF m 255 #[.val (.long q0), .second, .val (.long q1), .second, .val (.long q2), .second, .val (.long q3), .second, .val (.long q4), .second, .val (.int p5), .val (.ref b1), .val (.int (4 : Int32)), .val (.ref b59), .val (.int sel), .val (.long vv), .second, .val (.int (1 : Int32))] [])) t
                refine XS.aload Xj64.here hx rfl (hb hby at_255) rfl rfl ?_
                show Steps p.tables e below (Tj64.setTop (mkF m 257 #[.val (.long q0), .second, .val (.long q1), .second, .val (.long q2), .second, .val (.long q3), .second, .val (.long q4), .second, .val (.int p5), .val (.ref b1), .val (.int (4 : Int32)), .val (.ref b59), .val (.int sel), .val (.long vv), .second, .val (.int (1 : Int32))] [(.ref b59)])) t
                refine XS.lload Xj64.here hx rfl (hb hby at_257) rfl ?_
                show Steps p.tables e below (Tj64.setTop (mkF m 259 #[.val (.long q0), .second, .val (.long q1), .second, .val (.long q2), .second, .val (.long q3), .second, .val (.long q4), .second, .val (.int p5), .val (.ref b1), .val (.int (4 : Int32)), .val (.ref b59), .val (.int sel), .val (.long vv), .second, .val (.int (1 : Int32))] [(.long vv), (.ref b59)])) t
                exact kt
              refine own_callSp Xj64 hx hZ hown ej64 (hw _ (List.mem_of_getElem? (i := 5) rfl)) (hw _ (List.mem_of_getElem? (i := 6) rfl)) (hw _ (List.mem_of_getElem? (i := 7) rfl)) (hw _ (List.mem_of_getElem? (i := 8) rfl)) (by decide) (rm2 l Z aw hw b59 vv 4 f3 (4 : Int32) h63 n0 Z63 B63 (by decide) (by decide) (own_p4 hf0 hf1 hf2 hf3 (own_net ht1 ht2 ht3 ht4 ht5))) (g := (mkF m 259 #[.val (.long q0), .second, .val (.long q1), .second, .val (.long q2), .second, .val (.long q3), .second, .val (.long q4), .second, .val (.int p5), .val (.ref b1), .val (.int (4 : Int32)), .val (.ref b59), .val (.int sel), .val (.long vv), .second, .val (.int (1 : Int32))] [(.long vv), (.ref b59)])) rfl (by rw [hml]; rfl) (argsL := [(.ref b59), (.long vv)]) (rest := []) (lenOf pd_1 rfl) rfl rfl (W := 0) (by show 2 * 0 + _ ≤ _; exact Nat.le_of_eq rfl) (hb hby at_259) (by decide) (by decide) (by decide) (by decide) ?_
              intro T88 X88 e88
              refine own_go (T' := T88) (f' := (mkF m 272 #[.val (.long q0), .second, .val (.long q1), .second, .val (.long q2), .second, .val (.long q3), .second, .val (.long q4), .second, .val (.int p5), .val (.ref b1), .val (.int (4 : Int32)), .val (.ref b59), .val (.int sel), .val (.long vv), .second, .val (.int (1 : Int32))] [(.int (1 : Int32))])) (fun t kt => ?_) ?_
              · show Steps p.tables e below (T88.setTop (mkF m 262 #[.val (.long q0), .second, .val (.long q1), .second, .val (.long q2), .second, .val (.long q3), .second, .val (.long q4), .second, .val (.int p5), .val (.ref b1), .val (.int (4 : Int32)), .val (.ref b59), .val (.int sel), .val (.long vv), .second, .val (.int (1 : Int32))] [(.int (Int32.ofNat (own_cnt 4 f3 vv)))])) t
                refine XS.iload X88.here hx rfl (hb hby at_262) rfl ?_
                show Steps p.tables e below (T88.setTop (mkF m 264 #[.val (.long q0), .second, .val (.long q1), .second, .val (.long q2), .second, .val (.long q3), .second, .val (.long q4), .second, .val (.int p5), .val (.ref b1), .val (.int (4 : Int32)), .val (.ref b59), .val (.int sel), .val (.long vv), .second, .val (.int (1 : Int32))] [(.int (1 : Int32)), (.int (Int32.ofNat (own_cnt 4 f3 vv)))])) t
                refine XS.icmpNo X88.here hx rfl (hb hby at_264) rfl (teq (show (Int32.ofNat (own_cnt 4 f3 vv)) = (1 : Int32) from by simp only [own_cnt, if_neg hc192_65, if_pos hc211_81, if_neg hc230_82, if_neg hc249_86]; rfl)).2 ?_
                show Steps p.tables e below (T88.setTop (mkF m 267 #[.val (.long q0), .second, .val (.long q1), .second, .val (.long q2), .second, .val (.long q3), .second, .val (.long q4), .second, .val (.int p5), .val (.ref b1), .val (.int (4 : Int32)), .val (.ref b59), .val (.int sel), .val (.long vv), .second, .val (.int (1 : Int32))] [])) t
                refine XS.iconst X88.here hx rfl (hb hby at_267) ?_
                show Steps p.tables e below (T88.setTop (mkF m 268 #[.val (.long q0), .second, .val (.long q1), .second, .val (.long q2), .second, .val (.long q3), .second, .val (.long q4), .second, .val (.int p5), .val (.ref b1), .val (.int (4 : Int32)), .val (.ref b59), .val (.int sel), .val (.long vv), .second, .val (.int (1 : Int32))] [(.int (1 : Int32))])) t
                refine XS.goto X88.here hx rfl (pc0 := 268) (pc' := 272) rfl (hb hby at_268) (by decide) (by decide) ?_
                show Steps p.tables e below (T88.setTop (mkF m 272 #[.val (.long q0), .second, .val (.long q1), .second, .val (.long q2), .second, .val (.long q3), .second, .val (.long q4), .second, .val (.int p5), .val (.ref b1), .val (.int (4 : Int32)), .val (.ref b59), .val (.int sel), .val (.long vv), .second, .val (.int (1 : Int32))] [(.int (1 : Int32))])) t
                exact kt
              exact own_retN X88 hP hx hlk e88 (t := .boolean) hret (by simp) (hb hby at_272) (by decide) (by decide) (z' := (1 : Int32)) rfl ⟨rfl, Nj64⟩
        · refine own_go (T' := Tj64) (f' := (mkF m 230 #[.val (.long q0), .second, .val (.long q1), .second, .val (.long q2), .second, .val (.long q3), .second, .val (.long q4), .second, .val (.int p5), .val (.ref b1), .val (.int (4 : Int32)), .val (.ref b59), .val (.int sel), .val (.long vv), .second, .val (.int (0 : Int32))] [(.int (lcmpW (f3 2) vv))])) (fun t kt => ?_) ?_
          · show Steps p.tables e below (Tj64.setTop (mkF m 211 #[.val (.long q0), .second, .val (.long q1), .second, .val (.long q2), .second, .val (.long q3), .second, .val (.long q4), .second, .val (.int p5), .val (.ref b1), .val (.int (4 : Int32)), .val (.ref b59), .val (.int sel), .val (.long vv), .second, .val (.int (0 : Int32))] [(.int (lcmpW (f3 1) vv))])) t
            refine XS.ifYes Xj64.here hx rfl (pc0 := 211) (pc' := 217) rfl (hb hby at_211) rfl (own_lY_ge hc211_81) (by decide) (by decide) ?_
            show Steps p.tables e below (Tj64.setTop (mkF m 217 #[.val (.long q0), .second, .val (.long q1), .second, .val (.long q2), .second, .val (.long q3), .second, .val (.long q4), .second, .val (.int p5), .val (.ref b1), .val (.int (4 : Int32)), .val (.ref b59), .val (.int sel), .val (.long vv), .second, .val (.int (0 : Int32))] [])) t
            refine XS.iload Xj64.here hx rfl (hb hby at_217) rfl ?_
            show Steps p.tables e below (Tj64.setTop (mkF m 219 #[.val (.long q0), .second, .val (.long q1), .second, .val (.long q2), .second, .val (.long q3), .second, .val (.long q4), .second, .val (.int p5), .val (.ref b1), .val (.int (4 : Int32)), .val (.ref b59), .val (.int sel), .val (.long vv), .second, .val (.int (0 : Int32))] [(.int (4 : Int32))])) t
            refine XS.iconst Xj64.here hx rfl (hb hby at_219) ?_
            show Steps p.tables e below (Tj64.setTop (mkF m 220 #[.val (.long q0), .second, .val (.long q1), .second, .val (.long q2), .second, .val (.long q3), .second, .val (.long q4), .second, .val (.int p5), .val (.ref b1), .val (.int (4 : Int32)), .val (.ref b59), .val (.int sel), .val (.long vv), .second, .val (.int (0 : Int32))] [(.int (2 : Int32)), (.int (4 : Int32))])) t
            refine XS.icmpNo Xj64.here hx rfl (hb hby at_220) rfl (by decide) ?_
            show Steps p.tables e below (Tj64.setTop (mkF m 223 #[.val (.long q0), .second, .val (.long q1), .second, .val (.long q2), .second, .val (.long q3), .second, .val (.long q4), .second, .val (.int p5), .val (.ref b1), .val (.int (4 : Int32)), .val (.ref b59), .val (.int sel), .val (.long vv), .second, .val (.int (0 : Int32))] [])) t
            refine XS.aload Xj64.here hx rfl (hb hby at_223) rfl rfl ?_
            show Steps p.tables e below (Tj64.setTop (mkF m 225 #[.val (.long q0), .second, .val (.long q1), .second, .val (.long q2), .second, .val (.long q3), .second, .val (.long q4), .second, .val (.int p5), .val (.ref b1), .val (.int (4 : Int32)), .val (.ref b59), .val (.int sel), .val (.long vv), .second, .val (.int (0 : Int32))] [(.ref b59)])) t
            refine XS.iconst Xj64.here hx rfl (hb hby at_225) ?_
            show Steps p.tables e below (Tj64.setTop (mkF m 226 #[.val (.long q0), .second, .val (.long q1), .second, .val (.long q2), .second, .val (.long q3), .second, .val (.long q4), .second, .val (.int p5), .val (.ref b1), .val (.int (4 : Int32)), .val (.ref b59), .val (.int sel), .val (.long vv), .second, .val (.int (0 : Int32))] [(.int (2 : Int32)), (.ref b59)])) t
            refine own_laload Xj64 hx hZ ej64 B63 (i := 2) (by decide) (by decide) (g := (mkF m 226 #[.val (.long q0), .second, .val (.long q1), .second, .val (.long q2), .second, .val (.long q3), .second, .val (.long q4), .second, .val (.int p5), .val (.ref b1), .val (.int (4 : Int32)), .val (.ref b59), .val (.int sel), .val (.long vv), .second, .val (.int (0 : Int32))] [(.int (2 : Int32)), (.ref b59)])) rfl rfl (hb hby at_226) _ ?_
            show Steps p.tables e below (Tj64.setTop (mkF m 227 #[.val (.long q0), .second, .val (.long q1), .second, .val (.long q2), .second, .val (.long q3), .second, .val (.long q4), .second, .val (.int p5), .val (.ref b1), .val (.int (4 : Int32)), .val (.ref b59), .val (.int sel), .val (.long vv), .second, .val (.int (0 : Int32))] [(.long (f3 2))])) t
            refine XS.lload Xj64.here hx rfl (hb hby at_227) rfl ?_
            show Steps p.tables e below (Tj64.setTop (mkF m 229 #[.val (.long q0), .second, .val (.long q1), .second, .val (.long q2), .second, .val (.long q3), .second, .val (.long q4), .second, .val (.int p5), .val (.ref b1), .val (.int (4 : Int32)), .val (.ref b59), .val (.int sel), .val (.long vv), .second, .val (.int (0 : Int32))] [(.long vv), (.long (f3 2))])) t
            refine XS.lcmp Xj64.here hx rfl (hb hby at_229) rfl ?_
            show Steps p.tables e below (Tj64.setTop (mkF m 230 #[.val (.long q0), .second, .val (.long q1), .second, .val (.long q2), .second, .val (.long q3), .second, .val (.long q4), .second, .val (.int p5), .val (.ref b1), .val (.int (4 : Int32)), .val (.ref b59), .val (.int sel), .val (.long vv), .second, .val (.int (0 : Int32))] [(.int (lcmpW (f3 2) vv))])) t
            exact kt
          by_cases hc230_89 : (f3 2) < vv
          · refine own_go (T' := Tj64) (f' := (mkF m 249 #[.val (.long q0), .second, .val (.long q1), .second, .val (.long q2), .second, .val (.long q3), .second, .val (.long q4), .second, .val (.int p5), .val (.ref b1), .val (.int (4 : Int32)), .val (.ref b59), .val (.int sel), .val (.long vv), .second, .val (.int (1 : Int32))] [(.int (lcmpW (f3 3) vv))])) (fun t kt => ?_) ?_
            · show Steps p.tables e below (Tj64.setTop (mkF m 230 #[.val (.long q0), .second, .val (.long q1), .second, .val (.long q2), .second, .val (.long q3), .second, .val (.long q4), .second, .val (.int p5), .val (.ref b1), .val (.int (4 : Int32)), .val (.ref b59), .val (.int sel), .val (.long vv), .second, .val (.int (0 : Int32))] [(.int (lcmpW (f3 2) vv))])) t
              refine XS.ifNo Xj64.here hx rfl (hb hby at_230) rfl (own_lN_ge hc230_89) ?_
              show Steps p.tables e below (Tj64.setTop (mkF m 233 #[.val (.long q0), .second, .val (.long q1), .second, .val (.long q2), .second, .val (.long q3), .second, .val (.long q4), .second, .val (.int p5), .val (.ref b1), .val (.int (4 : Int32)), .val (.ref b59), .val (.int sel), .val (.long vv), .second, .val (.int (0 : Int32))] [])) t
              refine XS.iinc Xj64.here hx rfl (hb hby at_233) rfl (l' := #[.val (.long q0), .second, .val (.long q1), .second, .val (.long q2), .second, .val (.long q3), .second, .val (.long q4), .second, .val (.int p5), .val (.ref b1), .val (.int (4 : Int32)), .val (.ref b59), .val (.int sel), .val (.long vv), .second, .val (.int (1 : Int32))]) rfl ?_
              show Steps p.tables e below (Tj64.setTop (mkF m 236 #[.val (.long q0), .second, .val (.long q1), .second, .val (.long q2), .second, .val (.long q3), .second, .val (.long q4), .second, .val (.int p5), .val (.ref b1), .val (.int (4 : Int32)), .val (.ref b59), .val (.int sel), .val (.long vv), .second, .val (.int (1 : Int32))] [])) t
              refine XS.iload Xj64.here hx rfl (hb hby at_236) rfl ?_
              show Steps p.tables e below (Tj64.setTop (mkF m 238 #[.val (.long q0), .second, .val (.long q1), .second, .val (.long q2), .second, .val (.long q3), .second, .val (.long q4), .second, .val (.int p5), .val (.ref b1), .val (.int (4 : Int32)), .val (.ref b59), .val (.int sel), .val (.long vv), .second, .val (.int (1 : Int32))] [(.int (4 : Int32))])) t
              refine XS.iconst Xj64.here hx rfl (hb hby at_238) ?_
              show Steps p.tables e below (Tj64.setTop (mkF m 239 #[.val (.long q0), .second, .val (.long q1), .second, .val (.long q2), .second, .val (.long q3), .second, .val (.long q4), .second, .val (.int p5), .val (.ref b1), .val (.int (4 : Int32)), .val (.ref b59), .val (.int sel), .val (.long vv), .second, .val (.int (1 : Int32))] [(.int (3 : Int32)), (.int (4 : Int32))])) t
              refine XS.icmpNo Xj64.here hx rfl (hb hby at_239) rfl (by decide) ?_
              show Steps p.tables e below (Tj64.setTop (mkF m 242 #[.val (.long q0), .second, .val (.long q1), .second, .val (.long q2), .second, .val (.long q3), .second, .val (.long q4), .second, .val (.int p5), .val (.ref b1), .val (.int (4 : Int32)), .val (.ref b59), .val (.int sel), .val (.long vv), .second, .val (.int (1 : Int32))] [])) t
              refine XS.aload Xj64.here hx rfl (hb hby at_242) rfl rfl ?_
              show Steps p.tables e below (Tj64.setTop (mkF m 244 #[.val (.long q0), .second, .val (.long q1), .second, .val (.long q2), .second, .val (.long q3), .second, .val (.long q4), .second, .val (.int p5), .val (.ref b1), .val (.int (4 : Int32)), .val (.ref b59), .val (.int sel), .val (.long vv), .second, .val (.int (1 : Int32))] [(.ref b59)])) t
              refine XS.iconst Xj64.here hx rfl (hb hby at_244) ?_
              show Steps p.tables e below (Tj64.setTop (mkF m 245 #[.val (.long q0), .second, .val (.long q1), .second, .val (.long q2), .second, .val (.long q3), .second, .val (.long q4), .second, .val (.int p5), .val (.ref b1), .val (.int (4 : Int32)), .val (.ref b59), .val (.int sel), .val (.long vv), .second, .val (.int (1 : Int32))] [(.int (3 : Int32)), (.ref b59)])) t
              refine own_laload Xj64 hx hZ ej64 B63 (i := 3) (by decide) (by decide) (g := (mkF m 245 #[.val (.long q0), .second, .val (.long q1), .second, .val (.long q2), .second, .val (.long q3), .second, .val (.long q4), .second, .val (.int p5), .val (.ref b1), .val (.int (4 : Int32)), .val (.ref b59), .val (.int sel), .val (.long vv), .second, .val (.int (1 : Int32))] [(.int (3 : Int32)), (.ref b59)])) rfl rfl (hb hby at_245) _ ?_
              show Steps p.tables e below (Tj64.setTop (mkF m 246 #[.val (.long q0), .second, .val (.long q1), .second, .val (.long q2), .second, .val (.long q3), .second, .val (.long q4), .second, .val (.int p5), .val (.ref b1), .val (.int (4 : Int32)), .val (.ref b59), .val (.int sel), .val (.long vv), .second, .val (.int (1 : Int32))] [(.long (f3 3))])) t
              refine XS.lload Xj64.here hx rfl (hb hby at_246) rfl ?_
              show Steps p.tables e below (Tj64.setTop (mkF m 248 #[.val (.long q0), .second, .val (.long q1), .second, .val (.long q2), .second, .val (.long q3), .second, .val (.long q4), .second, .val (.int p5), .val (.ref b1), .val (.int (4 : Int32)), .val (.ref b59), .val (.int sel), .val (.long vv), .second, .val (.int (1 : Int32))] [(.long vv), (.long (f3 3))])) t
              refine XS.lcmp Xj64.here hx rfl (hb hby at_248) rfl ?_
              show Steps p.tables e below (Tj64.setTop (mkF m 249 #[.val (.long q0), .second, .val (.long q1), .second, .val (.long q2), .second, .val (.long q3), .second, .val (.long q4), .second, .val (.int p5), .val (.ref b1), .val (.int (4 : Int32)), .val (.ref b59), .val (.int sel), .val (.long vv), .second, .val (.int (1 : Int32))] [(.int (lcmpW (f3 3) vv))])) t
              exact kt
            by_cases hc249_90 : (f3 3) < vv
            · refine own_go (T' := Tj64) (f' := (mkF m 259 #[.val (.long q0), .second, .val (.long q1), .second, .val (.long q2), .second, .val (.long q3), .second, .val (.long q4), .second, .val (.int p5), .val (.ref b1), .val (.int (4 : Int32)), .val (.ref b59), .val (.int sel), .val (.long vv), .second, .val (.int (2 : Int32))] [(.long vv), (.ref b59)])) (fun t kt => ?_) ?_
              · show Steps p.tables e below (Tj64.setTop (mkF m 249 #[.val (.long q0), .second, .val (.long q1), .second, .val (.long q2), .second, .val (.long q3), .second, .val (.long q4), .second, .val (.int p5), .val (.ref b1), .val (.int (4 : Int32)), .val (.ref b59), .val (.int sel), .val (.long vv), .second, .val (.int (1 : Int32))] [(.int (lcmpW (f3 3) vv))])) t
                refine XS.ifNo Xj64.here hx rfl (hb hby at_249) rfl (own_lN_ge hc249_90) ?_
                show Steps p.tables e below (Tj64.setTop (mkF m 252 #[.val (.long q0), .second, .val (.long q1), .second, .val (.long q2), .second, .val (.long q3), .second, .val (.long q4), .second, .val (.int p5), .val (.ref b1), .val (.int (4 : Int32)), .val (.ref b59), .val (.int sel), .val (.long vv), .second, .val (.int (1 : Int32))] [])) t
                refine XS.iinc Xj64.here hx rfl (hb hby at_252) rfl (l' := #[.val (.long q0), .second, .val (.long q1), .second, .val (.long q2), .second, .val (.long q3), .second, .val (.long q4), .second, .val (.int p5), .val (.ref b1), .val (.int (4 : Int32)), .val (.ref b59), .val (.int sel), .val (.long vv), .second, .val (.int (2 : Int32))]) rfl ?_
                show Steps p.tables e below (Tj64.setTop (mkF m 255 #[.val (.long q0), .second, .val (.long q1), .second, .val (.long q2), .second, .val (.long q3), .second, .val (.long q4), .second, .val (.int p5), .val (.ref b1), .val (.int (4 : Int32)), .val (.ref b59), .val (.int sel), .val (.long vv), .second, .val (.int (2 : Int32))] [])) t
                refine XS.aload Xj64.here hx rfl (hb hby at_255) rfl rfl ?_
                show Steps p.tables e below (Tj64.setTop (mkF m 257 #[.val (.long q0), .second, .val (.long q1), .second, .val (.long q2), .second, .val (.long q3), .second, .val (.long q4), .second, .val (.int p5), .val (.ref b1), .val (.int (4 : Int32)), .val (.ref b59), .val (.int sel), .val (.long vv), .second, .val (.int (2 : Int32))] [(.ref b59)])) t
                refine XS.lload Xj64.here hx rfl (hb hby at_257) rfl ?_
                show Steps p.tables e below (Tj64.setTop (mkF m 259 #[.val (.long q0), .second, .val (.long q1), .second, .val (.long q2), .second, .val (.long q3), .second, .val (.long q4), .second, .val (.int p5), .val (.ref b1), .val (.int (4 : Int32)), .val (.ref b59), .val (.int sel), .val (.long vv), .second, .val (.int (2 : Int32))] [(.long vv), (.ref b59)])) t
                exact kt
              refine own_callSp Xj64 hx hZ hown ej64 (hw _ (List.mem_of_getElem? (i := 5) rfl)) (hw _ (List.mem_of_getElem? (i := 6) rfl)) (hw _ (List.mem_of_getElem? (i := 7) rfl)) (hw _ (List.mem_of_getElem? (i := 8) rfl)) (by decide) (rm2 l Z aw hw b59 vv 4 f3 (4 : Int32) h63 n0 Z63 B63 (by decide) (by decide) (own_p4 hf0 hf1 hf2 hf3 (own_net ht1 ht2 ht3 ht4 ht5))) (g := (mkF m 259 #[.val (.long q0), .second, .val (.long q1), .second, .val (.long q2), .second, .val (.long q3), .second, .val (.long q4), .second, .val (.int p5), .val (.ref b1), .val (.int (4 : Int32)), .val (.ref b59), .val (.int sel), .val (.long vv), .second, .val (.int (2 : Int32))] [(.long vv), (.ref b59)])) rfl (by rw [hml]; rfl) (argsL := [(.ref b59), (.long vv)]) (rest := []) (lenOf pd_1 rfl) rfl rfl (W := 0) (by show 2 * 0 + _ ≤ _; exact Nat.le_of_eq rfl) (hb hby at_259) (by decide) (by decide) (by decide) (by decide) ?_
              intro T91 X91 e91
              refine own_go (T' := T91) (f' := (mkF m 272 #[.val (.long q0), .second, .val (.long q1), .second, .val (.long q2), .second, .val (.long q3), .second, .val (.long q4), .second, .val (.int p5), .val (.ref b1), .val (.int (4 : Int32)), .val (.ref b59), .val (.int sel), .val (.long vv), .second, .val (.int (2 : Int32))] [(.int (1 : Int32))])) (fun t kt => ?_) ?_
              · show Steps p.tables e below (T91.setTop (mkF m 262 #[.val (.long q0), .second, .val (.long q1), .second, .val (.long q2), .second, .val (.long q3), .second, .val (.long q4), .second, .val (.int p5), .val (.ref b1), .val (.int (4 : Int32)), .val (.ref b59), .val (.int sel), .val (.long vv), .second, .val (.int (2 : Int32))] [(.int (Int32.ofNat (own_cnt 4 f3 vv)))])) t
                refine XS.iload X91.here hx rfl (hb hby at_262) rfl ?_
                show Steps p.tables e below (T91.setTop (mkF m 264 #[.val (.long q0), .second, .val (.long q1), .second, .val (.long q2), .second, .val (.long q3), .second, .val (.long q4), .second, .val (.int p5), .val (.ref b1), .val (.int (4 : Int32)), .val (.ref b59), .val (.int sel), .val (.long vv), .second, .val (.int (2 : Int32))] [(.int (2 : Int32)), (.int (Int32.ofNat (own_cnt 4 f3 vv)))])) t
                refine XS.icmpNo X91.here hx rfl (hb hby at_264) rfl (teq (show (Int32.ofNat (own_cnt 4 f3 vv)) = (2 : Int32) from by simp only [own_cnt, if_neg hc192_65, if_neg hc211_81, if_pos hc230_89, if_pos hc249_90]; rfl)).2 ?_
                show Steps p.tables e below (T91.setTop (mkF m 267 #[.val (.long q0), .second, .val (.long q1), .second, .val (.long q2), .second, .val (.long q3), .second, .val (.long q4), .second, .val (.int p5), .val (.ref b1), .val (.int (4 : Int32)), .val (.ref b59), .val (.int sel), .val (.long vv), .second, .val (.int (2 : Int32))] [])) t
                refine XS.iconst X91.here hx rfl (hb hby at_267) ?_
                show Steps p.tables e below (T91.setTop (mkF m 268 #[.val (.long q0), .second, .val (.long q1), .second, .val (.long q2), .second, .val (.long q3), .second, .val (.long q4), .second, .val (.int p5), .val (.ref b1), .val (.int (4 : Int32)), .val (.ref b59), .val (.int sel), .val (.long vv), .second, .val (.int (2 : Int32))] [(.int (1 : Int32))])) t
                refine XS.goto X91.here hx rfl (pc0 := 268) (pc' := 272) rfl (hb hby at_268) (by decide) (by decide) ?_
                show Steps p.tables e below (T91.setTop (mkF m 272 #[.val (.long q0), .second, .val (.long q1), .second, .val (.long q2), .second, .val (.long q3), .second, .val (.long q4), .second, .val (.int p5), .val (.ref b1), .val (.int (4 : Int32)), .val (.ref b59), .val (.int sel), .val (.long vv), .second, .val (.int (2 : Int32))] [(.int (1 : Int32))])) t
                exact kt
              exact own_retN X91 hP hx hlk e91 (t := .boolean) hret (by simp) (hb hby at_272) (by decide) (by decide) (z' := (1 : Int32)) rfl ⟨rfl, Nj64⟩
            · refine own_go (T' := Tj64) (f' := (mkF m 259 #[.val (.long q0), .second, .val (.long q1), .second, .val (.long q2), .second, .val (.long q3), .second, .val (.long q4), .second, .val (.int p5), .val (.ref b1), .val (.int (4 : Int32)), .val (.ref b59), .val (.int sel), .val (.long vv), .second, .val (.int (1 : Int32))] [(.long vv), (.ref b59)])) (fun t kt => ?_) ?_
              · show Steps p.tables e below (Tj64.setTop (mkF m 249 #[.val (.long q0), .second, .val (.long q1), .second, .val (.long q2), .second, .val (.long q3), .second, .val (.long q4), .second, .val (.int p5), .val (.ref b1), .val (.int (4 : Int32)), .val (.ref b59), .val (.int sel), .val (.long vv), .second, .val (.int (1 : Int32))] [(.int (lcmpW (f3 3) vv))])) t
                refine XS.ifYes Xj64.here hx rfl (pc0 := 249) (pc' := 255) rfl (hb hby at_249) rfl (own_lY_ge hc249_90) (by decide) (by decide) ?_
                show Steps p.tables e below (Tj64.setTop (mkF m 255 #[.val (.long q0), .second, .val (.long q1), .second, .val (.long q2), .second, .val (.long q3), .second, .val (.long q4), .second, .val (.int p5), .val (.ref b1), .val (.int (4 : Int32)), .val (.ref b59), .val (.int sel), .val (.long vv), .second, .val (.int (1 : Int32))] [])) t
                refine XS.aload Xj64.here hx rfl (hb hby at_255) rfl rfl ?_
                show Steps p.tables e below (Tj64.setTop (mkF m 257 #[.val (.long q0), .second, .val (.long q1), .second, .val (.long q2), .second, .val (.long q3), .second, .val (.long q4), .second, .val (.int p5), .val (.ref b1), .val (.int (4 : Int32)), .val (.ref b59), .val (.int sel), .val (.long vv), .second, .val (.int (1 : Int32))] [(.ref b59)])) t
                refine XS.lload Xj64.here hx rfl (hb hby at_257) rfl ?_
                show Steps p.tables e below (Tj64.setTop (mkF m 259 #[.val (.long q0), .second, .val (.long q1), .second, .val (.long q2), .second, .val (.long q3), .second, .val (.long q4), .second, .val (.int p5), .val (.ref b1), .val (.int (4 : Int32)), .val (.ref b59), .val (.int sel), .val (.long vv), .second, .val (.int (1 : Int32))] [(.long vv), (.ref b59)])) t
                exact kt
              refine own_callSp Xj64 hx hZ hown ej64 (hw _ (List.mem_of_getElem? (i := 5) rfl)) (hw _ (List.mem_of_getElem? (i := 6) rfl)) (hw _ (List.mem_of_getElem? (i := 7) rfl)) (hw _ (List.mem_of_getElem? (i := 8) rfl)) (by decide) (rm2 l Z aw hw b59 vv 4 f3 (4 : Int32) h63 n0 Z63 B63 (by decide) (by decide) (own_p4 hf0 hf1 hf2 hf3 (own_net ht1 ht2 ht3 ht4 ht5))) (g := (mkF m 259 #[.val (.long q0), .second, .val (.long q1), .second, .val (.long q2), .second, .val (.long q3), .second, .val (.long q4), .second, .val (.int p5), .val (.ref b1), .val (.int (4 : Int32)), .val (.ref b59), .val (.int sel), .val (.long vv), .second, .val (.int (1 : Int32))] [(.long vv), (.ref b59)])) rfl (by rw [hml]; rfl) (argsL := [(.ref b59), (.long vv)]) (rest := []) (lenOf pd_1 rfl) rfl rfl (W := 0) (by show 2 * 0 + _ ≤ _; exact Nat.le_of_eq rfl) (hb hby at_259) (by decide) (by decide) (by decide) (by decide) ?_
              intro T92 X92 e92
              refine own_go (T' := T92) (f' := (mkF m 272 #[.val (.long q0), .second, .val (.long q1), .second, .val (.long q2), .second, .val (.long q3), .second, .val (.long q4), .second, .val (.int p5), .val (.ref b1), .val (.int (4 : Int32)), .val (.ref b59), .val (.int sel), .val (.long vv), .second, .val (.int (1 : Int32))] [(.int (1 : Int32))])) (fun t kt => ?_) ?_
              · show Steps p.tables e below (T92.setTop (mkF m 262 #[.val (.long q0), .second, .val (.long q1), .second, .val (.long q2), .second, .val (.long q3), .second, .val (.long q4), .second, .val (.int p5), .val (.ref b1), .val (.int (4 : Int32)), .val (.ref b59), .val (.int sel), .val (.long vv), .second, .val (.int (1 : Int32))] [(.int (Int32.ofNat (own_cnt 4 f3 vv)))])) t
                refine XS.iload X92.here hx rfl (hb hby at_262) rfl ?_
                show Steps p.tables e below (T92.setTop (mkF m 264 #[.val (.long q0), .second, .val (.long q1), .second, .val (.long q2), .second, .val (.long q3), .second, .val (.long q4), .second, .val (.int p5), .val (.ref b1), .val (.int (4 : Int32)), .val (.ref b59), .val (.int sel), .val (.long vv), .second, .val (.int (1 : Int32))] [(.int (1 : Int32)), (.int (Int32.ofNat (own_cnt 4 f3 vv)))])) t
                refine XS.icmpNo X92.here hx rfl (hb hby at_264) rfl (teq (show (Int32.ofNat (own_cnt 4 f3 vv)) = (1 : Int32) from by simp only [own_cnt, if_neg hc192_65, if_neg hc211_81, if_pos hc230_89, if_neg hc249_90]; rfl)).2 ?_
                show Steps p.tables e below (T92.setTop (mkF m 267 #[.val (.long q0), .second, .val (.long q1), .second, .val (.long q2), .second, .val (.long q3), .second, .val (.long q4), .second, .val (.int p5), .val (.ref b1), .val (.int (4 : Int32)), .val (.ref b59), .val (.int sel), .val (.long vv), .second, .val (.int (1 : Int32))] [])) t
                refine XS.iconst X92.here hx rfl (hb hby at_267) ?_
                show Steps p.tables e below (T92.setTop (mkF m 268 #[.val (.long q0), .second, .val (.long q1), .second, .val (.long q2), .second, .val (.long q3), .second, .val (.long q4), .second, .val (.int p5), .val (.ref b1), .val (.int (4 : Int32)), .val (.ref b59), .val (.int sel), .val (.long vv), .second, .val (.int (1 : Int32))] [(.int (1 : Int32))])) t
                refine XS.goto X92.here hx rfl (pc0 := 268) (pc' := 272) rfl (hb hby at_268) (by decide) (by decide) ?_
                show Steps p.tables e below (T92.setTop (mkF m 272 #[.val (.long q0), .second, .val (.long q1), .second, .val (.long q2), .second, .val (.long q3), .second, .val (.long q4), .second, .val (.int p5), .val (.ref b1), .val (.int (4 : Int32)), .val (.ref b59), .val (.int sel), .val (.long vv), .second, .val (.int (1 : Int32))] [(.int (1 : Int32))])) t
                exact kt
              exact own_retN X92 hP hx hlk e92 (t := .boolean) hret (by simp) (hb hby at_272) (by decide) (by decide) (z' := (1 : Int32)) rfl ⟨rfl, Nj64⟩
          · refine own_go (T' := Tj64) (f' := (mkF m 249 #[.val (.long q0), .second, .val (.long q1), .second, .val (.long q2), .second, .val (.long q3), .second, .val (.long q4), .second, .val (.int p5), .val (.ref b1), .val (.int (4 : Int32)), .val (.ref b59), .val (.int sel), .val (.long vv), .second, .val (.int (0 : Int32))] [(.int (lcmpW (f3 3) vv))])) (fun t kt => ?_) ?_
            · show Steps p.tables e below (Tj64.setTop (mkF m 230 #[.val (.long q0), .second, .val (.long q1), .second, .val (.long q2), .second, .val (.long q3), .second, .val (.long q4), .second, .val (.int p5), .val (.ref b1), .val (.int (4 : Int32)), .val (.ref b59), .val (.int sel), .val (.long vv), .second, .val (.int (0 : Int32))] [(.int (lcmpW (f3 2) vv))])) t
              refine XS.ifYes Xj64.here hx rfl (pc0 := 230) (pc' := 236) rfl (hb hby at_230) rfl (own_lY_ge hc230_89) (by decide) (by decide) ?_
              show Steps p.tables e below (Tj64.setTop (mkF m 236 #[.val (.long q0), .second, .val (.long q1), .second, .val (.long q2), .second, .val (.long q3), .second, .val (.long q4), .second, .val (.int p5), .val (.ref b1), .val (.int (4 : Int32)), .val (.ref b59), .val (.int sel), .val (.long vv), .second, .val (.int (0 : Int32))] [])) t
              refine XS.iload Xj64.here hx rfl (hb hby at_236) rfl ?_
              show Steps p.tables e below (Tj64.setTop (mkF m 238 #[.val (.long q0), .second, .val (.long q1), .second, .val (.long q2), .second, .val (.long q3), .second, .val (.long q4), .second, .val (.int p5), .val (.ref b1), .val (.int (4 : Int32)), .val (.ref b59), .val (.int sel), .val (.long vv), .second, .val (.int (0 : Int32))] [(.int (4 : Int32))])) t
              refine XS.iconst Xj64.here hx rfl (hb hby at_238) ?_
              show Steps p.tables e below (Tj64.setTop (mkF m 239 #[.val (.long q0), .second, .val (.long q1), .second, .val (.long q2), .second, .val (.long q3), .second, .val (.long q4), .second, .val (.int p5), .val (.ref b1), .val (.int (4 : Int32)), .val (.ref b59), .val (.int sel), .val (.long vv), .second, .val (.int (0 : Int32))] [(.int (3 : Int32)), (.int (4 : Int32))])) t
              refine XS.icmpNo Xj64.here hx rfl (hb hby at_239) rfl (by decide) ?_
              show Steps p.tables e below (Tj64.setTop (mkF m 242 #[.val (.long q0), .second, .val (.long q1), .second, .val (.long q2), .second, .val (.long q3), .second, .val (.long q4), .second, .val (.int p5), .val (.ref b1), .val (.int (4 : Int32)), .val (.ref b59), .val (.int sel), .val (.long vv), .second, .val (.int (0 : Int32))] [])) t
              refine XS.aload Xj64.here hx rfl (hb hby at_242) rfl rfl ?_
              show Steps p.tables e below (Tj64.setTop (mkF m 244 #[.val (.long q0), .second, .val (.long q1), .second, .val (.long q2), .second, .val (.long q3), .second, .val (.long q4), .second, .val (.int p5), .val (.ref b1), .val (.int (4 : Int32)), .val (.ref b59), .val (.int sel), .val (.long vv), .second, .val (.int (0 : Int32))] [(.ref b59)])) t
              refine XS.iconst Xj64.here hx rfl (hb hby at_244) ?_
              show Steps p.tables e below (Tj64.setTop (mkF m 245 #[.val (.long q0), .second, .val (.long q1), .second, .val (.long q2), .second, .val (.long q3), .second, .val (.long q4), .second, .val (.int p5), .val (.ref b1), .val (.int (4 : Int32)), .val (.ref b59), .val (.int sel), .val (.long vv), .second, .val (.int (0 : Int32))] [(.int (3 : Int32)), (.ref b59)])) t
              refine own_laload Xj64 hx hZ ej64 B63 (i := 3) (by decide) (by decide) (g := (mkF m 245 #[.val (.long q0), .second, .val (.long q1), .second, .val (.long q2), .second, .val (.long q3), .second, .val (.long q4), .second, .val (.int p5), .val (.ref b1), .val (.int (4 : Int32)), .val (.ref b59), .val (.int sel), .val (.long vv), .second, .val (.int (0 : Int32))] [(.int (3 : Int32)), (.ref b59)])) rfl rfl (hb hby at_245) _ ?_
              show Steps p.tables e below (Tj64.setTop (mkF m 246 #[.val (.long q0), .second, .val (.long q1), .second, .val (.long q2), .second, .val (.long q3), .second, .val (.long q4), .second, .val (.int p5), .val (.ref b1), .val (.int (4 : Int32)), .val (.ref b59), .val (.int sel), .val (.long vv), .second, .val (.int (0 : Int32))] [(.long (f3 3))])) t
              refine XS.lload Xj64.here hx rfl (hb hby at_246) rfl ?_
              show Steps p.tables e below (Tj64.setTop (mkF m 248 #[.val (.long q0), .second, .val (.long q1), .second, .val (.long q2), .second, .val (.long q3), .second, .val (.long q4), .second, .val (.int p5), .val (.ref b1), .val (.int (4 : Int32)), .val (.ref b59), .val (.int sel), .val (.long vv), .second, .val (.int (0 : Int32))] [(.long vv), (.long (f3 3))])) t
              refine XS.lcmp Xj64.here hx rfl (hb hby at_248) rfl ?_
              show Steps p.tables e below (Tj64.setTop (mkF m 249 #[.val (.long q0), .second, .val (.long q1), .second, .val (.long q2), .second, .val (.long q3), .second, .val (.long q4), .second, .val (.int p5), .val (.ref b1), .val (.int (4 : Int32)), .val (.ref b59), .val (.int sel), .val (.long vv), .second, .val (.int (0 : Int32))] [(.int (lcmpW (f3 3) vv))])) t
              exact kt
            by_cases hc249_93 : (f3 3) < vv
            · refine own_go (T' := Tj64) (f' := (mkF m 259 #[.val (.long q0), .second, .val (.long q1), .second, .val (.long q2), .second, .val (.long q3), .second, .val (.long q4), .second, .val (.int p5), .val (.ref b1), .val (.int (4 : Int32)), .val (.ref b59), .val (.int sel), .val (.long vv), .second, .val (.int (1 : Int32))] [(.long vv), (.ref b59)])) (fun t kt => ?_) ?_
              · show Steps p.tables e below (Tj64.setTop (mkF m 249 #[.val (.long q0), .second, .val (.long q1), .second, .val (.long q2), .second, .val (.long q3), .second, .val (.long q4), .second, .val (.int p5), .val (.ref b1), .val (.int (4 : Int32)), .val (.ref b59), .val (.int sel), .val (.long vv), .second, .val (.int (0 : Int32))] [(.int (lcmpW (f3 3) vv))])) t
                refine XS.ifNo Xj64.here hx rfl (hb hby at_249) rfl (own_lN_ge hc249_93) ?_
                show Steps p.tables e below (Tj64.setTop (mkF m 252 #[.val (.long q0), .second, .val (.long q1), .second, .val (.long q2), .second, .val (.long q3), .second, .val (.long q4), .second, .val (.int p5), .val (.ref b1), .val (.int (4 : Int32)), .val (.ref b59), .val (.int sel), .val (.long vv), .second, .val (.int (0 : Int32))] [])) t
                refine XS.iinc Xj64.here hx rfl (hb hby at_252) rfl (l' := #[.val (.long q0), .second, .val (.long q1), .second, .val (.long q2), .second, .val (.long q3), .second, .val (.long q4), .second, .val (.int p5), .val (.ref b1), .val (.int (4 : Int32)), .val (.ref b59), .val (.int sel), .val (.long vv), .second, .val (.int (1 : Int32))]) rfl ?_
                show Steps p.tables e below (Tj64.setTop (mkF m 255 #[.val (.long q0), .second, .val (.long q1), .second, .val (.long q2), .second, .val (.long q3), .second, .val (.long q4), .second, .val (.int p5), .val (.ref b1), .val (.int (4 : Int32)), .val (.ref b59), .val (.int sel), .val (.long vv), .second, .val (.int (1 : Int32))] [])) t
                refine XS.aload Xj64.here hx rfl (hb hby at_255) rfl rfl ?_
                show Steps p.tables e below (Tj64.setTop (mkF m 257 #[.val (.long q0), .second, .val (.long q1), .second, .val (.long q2), .second, .val (.long q3), .second, .val (.long q4), .second, .val (.int p5), .val (.ref b1), .val (.int (4 : Int32)), .val (.ref b59), .val (.int sel), .val (.long vv), .second, .val (.int (1 : Int32))] [(.ref b59)])) t
                refine XS.lload Xj64.here hx rfl (hb hby at_257) rfl ?_
                show Steps p.tables e below (Tj64.setTop (mkF m 259 #[.val (.long q0), .second, .val (.long q1), .second, .val (.long q2), .second, .val (.long q3), .second, .val (.long q4), .second, .val (.int p5), .val (.ref b1), .val (.int (4 : Int32)), .val (.ref b59), .val (.int sel), .val (.long vv), .second, .val (.int (1 : Int32))] [(.long vv), (.ref b59)])) t
                exact kt
              refine own_callSp Xj64 hx hZ hown ej64 (hw _ (List.mem_of_getElem? (i := 5) rfl)) (hw _ (List.mem_of_getElem? (i := 6) rfl)) (hw _ (List.mem_of_getElem? (i := 7) rfl)) (hw _ (List.mem_of_getElem? (i := 8) rfl)) (by decide) (rm2 l Z aw hw b59 vv 4 f3 (4 : Int32) h63 n0 Z63 B63 (by decide) (by decide) (own_p4 hf0 hf1 hf2 hf3 (own_net ht1 ht2 ht3 ht4 ht5))) (g := (mkF m 259 #[.val (.long q0), .second, .val (.long q1), .second, .val (.long q2), .second, .val (.long q3), .second, .val (.long q4), .second, .val (.int p5), .val (.ref b1), .val (.int (4 : Int32)), .val (.ref b59), .val (.int sel), .val (.long vv), .second, .val (.int (1 : Int32))] [(.long vv), (.ref b59)])) rfl (by rw [hml]; rfl) (argsL := [(.ref b59), (.long vv)]) (rest := []) (lenOf pd_1 rfl) rfl rfl (W := 0) (by show 2 * 0 + _ ≤ _; exact Nat.le_of_eq rfl) (hb hby at_259) (by decide) (by decide) (by decide) (by decide) ?_
              intro T94 X94 e94
              refine own_go (T' := T94) (f' := (mkF m 272 #[.val (.long q0), .second, .val (.long q1), .second, .val (.long q2), .second, .val (.long q3), .second, .val (.long q4), .second, .val (.int p5), .val (.ref b1), .val (.int (4 : Int32)), .val (.ref b59), .val (.int sel), .val (.long vv), .second, .val (.int (1 : Int32))] [(.int (1 : Int32))])) (fun t kt => ?_) ?_
              · show Steps p.tables e below (T94.setTop (mkF m 262 #[.val (.long q0), .second, .val (.long q1), .second, .val (.long q2), .second, .val (.long q3), .second, .val (.long q4), .second, .val (.int p5), .val (.ref b1), .val (.int (4 : Int32)), .val (.ref b59), .val (.int sel), .val (.long vv), .second, .val (.int (1 : Int32))] [(.int (Int32.ofNat (own_cnt 4 f3 vv)))])) t
                refine XS.iload X94.here hx rfl (hb hby at_262) rfl ?_
                show Steps p.tables e below (T94.setTop (mkF m 264 #[.val (.long q0), .second, .val (.long q1), .second, .val (.long q2), .second, .val (.long q3), .second, .val (.long q4), .second, .val (.int p5), .val (.ref b1), .val (.int (4 : Int32)), .val (.ref b59), .val (.int sel), .val (.long vv), .second, .val (.int (1 : Int32))] [(.int (1 : Int32)), (.int (Int32.ofNat (own_cnt 4 f3 vv)))])) t
                refine XS.icmpNo X94.here hx rfl (hb hby at_264) rfl (teq (show (Int32.ofNat (own_cnt 4 f3 vv)) = (1 : Int32) from by simp only [own_cnt, if_neg hc192_65, if_neg hc211_81, if_neg hc230_89, if_pos hc249_93]; rfl)).2 ?_
                show Steps p.tables e below (T94.setTop (mkF m 267 #[.val (.long q0), .second, .val (.long q1), .second, .val (.long q2), .second, .val (.long q3), .second, .val (.long q4), .second, .val (.int p5), .val (.ref b1), .val (.int (4 : Int32)), .val (.ref b59), .val (.int sel), .val (.long vv), .second, .val (.int (1 : Int32))] [])) t
                refine XS.iconst X94.here hx rfl (hb hby at_267) ?_
                show Steps p.tables e below (T94.setTop (mkF m 268 #[.val (.long q0), .second, .val (.long q1), .second, .val (.long q2), .second, .val (.long q3), .second, .val (.long q4), .second, .val (.int p5), .val (.ref b1), .val (.int (4 : Int32)), .val (.ref b59), .val (.int sel), .val (.long vv), .second, .val (.int (1 : Int32))] [(.int (1 : Int32))])) t
                refine XS.goto X94.here hx rfl (pc0 := 268) (pc' := 272) rfl (hb hby at_268) (by decide) (by decide) ?_
                show Steps p.tables e below (T94.setTop (mkF m 272 #[.val (.long q0), .second, .val (.long q1), .second, .val (.long q2), .second, .val (.long q3), .second, .val (.long q4), .second, .val (.int p5), .val (.ref b1), .val (.int (4 : Int32)), .val (.ref b59), .val (.int sel), .val (.long vv), .second, .val (.int (1 : Int32))] [(.int (1 : Int32))])) t
                exact kt
              exact own_retN X94 hP hx hlk e94 (t := .boolean) hret (by simp) (hb hby at_272) (by decide) (by decide) (z' := (1 : Int32)) rfl ⟨rfl, Nj64⟩
            · refine own_go (T' := Tj64) (f' := (mkF m 259 #[.val (.long q0), .second, .val (.long q1), .second, .val (.long q2), .second, .val (.long q3), .second, .val (.long q4), .second, .val (.int p5), .val (.ref b1), .val (.int (4 : Int32)), .val (.ref b59), .val (.int sel), .val (.long vv), .second, .val (.int (0 : Int32))] [(.long vv), (.ref b59)])) (fun t kt => ?_) ?_
              · show Steps p.tables e below (Tj64.setTop (mkF m 249 #[.val (.long q0), .second, .val (.long q1), .second, .val (.long q2), .second, .val (.long q3), .second, .val (.long q4), .second, .val (.int p5), .val (.ref b1), .val (.int (4 : Int32)), .val (.ref b59), .val (.int sel), .val (.long vv), .second, .val (.int (0 : Int32))] [(.int (lcmpW (f3 3) vv))])) t
                refine XS.ifYes Xj64.here hx rfl (pc0 := 249) (pc' := 255) rfl (hb hby at_249) rfl (own_lY_ge hc249_93) (by decide) (by decide) ?_
                show Steps p.tables e below (Tj64.setTop (mkF m 255 #[.val (.long q0), .second, .val (.long q1), .second, .val (.long q2), .second, .val (.long q3), .second, .val (.long q4), .second, .val (.int p5), .val (.ref b1), .val (.int (4 : Int32)), .val (.ref b59), .val (.int sel), .val (.long vv), .second, .val (.int (0 : Int32))] [])) t
                refine XS.aload Xj64.here hx rfl (hb hby at_255) rfl rfl ?_
                show Steps p.tables e below (Tj64.setTop (mkF m 257 #[.val (.long q0), .second, .val (.long q1), .second, .val (.long q2), .second, .val (.long q3), .second, .val (.long q4), .second, .val (.int p5), .val (.ref b1), .val (.int (4 : Int32)), .val (.ref b59), .val (.int sel), .val (.long vv), .second, .val (.int (0 : Int32))] [(.ref b59)])) t
                refine XS.lload Xj64.here hx rfl (hb hby at_257) rfl ?_
                show Steps p.tables e below (Tj64.setTop (mkF m 259 #[.val (.long q0), .second, .val (.long q1), .second, .val (.long q2), .second, .val (.long q3), .second, .val (.long q4), .second, .val (.int p5), .val (.ref b1), .val (.int (4 : Int32)), .val (.ref b59), .val (.int sel), .val (.long vv), .second, .val (.int (0 : Int32))] [(.long vv), (.ref b59)])) t
                exact kt
              refine own_callSp Xj64 hx hZ hown ej64 (hw _ (List.mem_of_getElem? (i := 5) rfl)) (hw _ (List.mem_of_getElem? (i := 6) rfl)) (hw _ (List.mem_of_getElem? (i := 7) rfl)) (hw _ (List.mem_of_getElem? (i := 8) rfl)) (by decide) (rm2 l Z aw hw b59 vv 4 f3 (4 : Int32) h63 n0 Z63 B63 (by decide) (by decide) (own_p4 hf0 hf1 hf2 hf3 (own_net ht1 ht2 ht3 ht4 ht5))) (g := (mkF m 259 #[.val (.long q0), .second, .val (.long q1), .second, .val (.long q2), .second, .val (.long q3), .second, .val (.long q4), .second, .val (.int p5), .val (.ref b1), .val (.int (4 : Int32)), .val (.ref b59), .val (.int sel), .val (.long vv), .second, .val (.int (0 : Int32))] [(.long vv), (.ref b59)])) rfl (by rw [hml]; rfl) (argsL := [(.ref b59), (.long vv)]) (rest := []) (lenOf pd_1 rfl) rfl rfl (W := 0) (by show 2 * 0 + _ ≤ _; exact Nat.le_of_eq rfl) (hb hby at_259) (by decide) (by decide) (by decide) (by decide) ?_
              intro T95 X95 e95
              refine own_go (T' := T95) (f' := (mkF m 272 #[.val (.long q0), .second, .val (.long q1), .second, .val (.long q2), .second, .val (.long q3), .second, .val (.long q4), .second, .val (.int p5), .val (.ref b1), .val (.int (4 : Int32)), .val (.ref b59), .val (.int sel), .val (.long vv), .second, .val (.int (0 : Int32))] [(.int (1 : Int32))])) (fun t kt => ?_) ?_
              · show Steps p.tables e below (T95.setTop (mkF m 262 #[.val (.long q0), .second, .val (.long q1), .second, .val (.long q2), .second, .val (.long q3), .second, .val (.long q4), .second, .val (.int p5), .val (.ref b1), .val (.int (4 : Int32)), .val (.ref b59), .val (.int sel), .val (.long vv), .second, .val (.int (0 : Int32))] [(.int (Int32.ofNat (own_cnt 4 f3 vv)))])) t
                refine XS.iload X95.here hx rfl (hb hby at_262) rfl ?_
                show Steps p.tables e below (T95.setTop (mkF m 264 #[.val (.long q0), .second, .val (.long q1), .second, .val (.long q2), .second, .val (.long q3), .second, .val (.long q4), .second, .val (.int p5), .val (.ref b1), .val (.int (4 : Int32)), .val (.ref b59), .val (.int sel), .val (.long vv), .second, .val (.int (0 : Int32))] [(.int (0 : Int32)), (.int (Int32.ofNat (own_cnt 4 f3 vv)))])) t
                refine XS.icmpNo X95.here hx rfl (hb hby at_264) rfl (teq (show (Int32.ofNat (own_cnt 4 f3 vv)) = (0 : Int32) from by simp only [own_cnt, if_neg hc192_65, if_neg hc211_81, if_neg hc230_89, if_neg hc249_93]; rfl)).2 ?_
                show Steps p.tables e below (T95.setTop (mkF m 267 #[.val (.long q0), .second, .val (.long q1), .second, .val (.long q2), .second, .val (.long q3), .second, .val (.long q4), .second, .val (.int p5), .val (.ref b1), .val (.int (4 : Int32)), .val (.ref b59), .val (.int sel), .val (.long vv), .second, .val (.int (0 : Int32))] [])) t
                refine XS.iconst X95.here hx rfl (hb hby at_267) ?_
                show Steps p.tables e below (T95.setTop (mkF m 268 #[.val (.long q0), .second, .val (.long q1), .second, .val (.long q2), .second, .val (.long q3), .second, .val (.long q4), .second, .val (.int p5), .val (.ref b1), .val (.int (4 : Int32)), .val (.ref b59), .val (.int sel), .val (.long vv), .second, .val (.int (0 : Int32))] [(.int (1 : Int32))])) t
                refine XS.goto X95.here hx rfl (pc0 := 268) (pc' := 272) rfl (hb hby at_268) (by decide) (by decide) ?_
                show Steps p.tables e below (T95.setTop (mkF m 272 #[.val (.long q0), .second, .val (.long q1), .second, .val (.long q2), .second, .val (.long q3), .second, .val (.long q4), .second, .val (.int p5), .val (.ref b1), .val (.int (4 : Int32)), .val (.ref b59), .val (.int sel), .val (.long vv), .second, .val (.int (0 : Int32))] [(.int (1 : Int32))])) t
                exact kt
              exact own_retN X95 hP hx hlk e95 (t := .boolean) hret (by simp) (hb hby at_272) (by decide) (by decide) (z' := (1 : Int32)) rfl ⟨rfl, Nj64⟩
    refine own_go (T' := T63) (f' := (mkF m 144 #[.val (.long q0), .second, .val (.long q1), .second, .val (.long q2), .second, .val (.long q3), .second, .val (.long q4), .second, .val (.int p5), .val (.ref b1), .val (.int (4 : Int32)), .val (.ref b59), .val (.int sel), .val (.long q4), .second, .unset] [(.int (4 : Int32)), (.int sel)])) (fun t kt => ?_) ?_
    · show Steps p.tables e below (T63.setTop (mkF m 141 #[.val (.long q0), .second, .val (.long q1), .second, .val (.long q2), .second, .val (.long q3), .second, .val (.long q4), .second, .val (.int p5), .val (.ref b1), .val (.int (4 : Int32)), .val (.ref b59), .val (.int sel), .val (.long q4), .second, .unset] [])) t
      refine XS.iload X63.here hx rfl (hb hby at_141) rfl ?_
      show Steps p.tables e below (T63.setTop (mkF m 143 #[.val (.long q0), .second, .val (.long q1), .second, .val (.long q2), .second, .val (.long q3), .second, .val (.long q4), .second, .val (.int p5), .val (.ref b1), .val (.int (4 : Int32)), .val (.ref b59), .val (.int sel), .val (.long q4), .second, .unset] [(.int sel)])) t
      refine XS.iconst X63.here hx rfl (hb hby at_143) ?_
      show Steps p.tables e below (T63.setTop (mkF m 144 #[.val (.long q0), .second, .val (.long q1), .second, .val (.long q2), .second, .val (.long q3), .second, .val (.long q4), .second, .val (.int p5), .val (.ref b1), .val (.int (4 : Int32)), .val (.ref b59), .val (.int sel), .val (.long q4), .second, .unset] [(.int (4 : Int32)), (.int sel)])) t
      exact kt
    by_cases hc144_96 : sel < (4 : Int32)
    · refine own_go (T' := T63) (f' := (mkF m 177 #[.val (.long q0), .second, .val (.long q1), .second, .val (.long q2), .second, .val (.long q3), .second, .val (.long q4), .second, .val (.int p5), .val (.ref b1), .val (.int (4 : Int32)), .val (.ref b59), .val (.int sel), .val (.long (t5 sel.toInt.toNat)), .second, .unset] [])) (fun t kt => ?_) ?_
      · show Steps p.tables e below (T63.setTop (mkF m 144 #[.val (.long q0), .second, .val (.long q1), .second, .val (.long q2), .second, .val (.long q3), .second, .val (.long q4), .second, .val (.int p5), .val (.ref b1), .val (.int (4 : Int32)), .val (.ref b59), .val (.int sel), .val (.long q4), .second, .unset] [(.int (4 : Int32)), (.int sel)])) t
        refine XS.icmpNo X63.here hx rfl (hb hby at_144) rfl (tlt hc144_96).2.1 ?_
        show Steps p.tables e below (T63.setTop (mkF m 147 #[.val (.long q0), .second, .val (.long q1), .second, .val (.long q2), .second, .val (.long q3), .second, .val (.long q4), .second, .val (.int p5), .val (.ref b1), .val (.int (4 : Int32)), .val (.ref b59), .val (.int sel), .val (.long q4), .second, .unset] [])) t
        refine XS.aload X63.here hx rfl (hb hby at_147) rfl rfl ?_
        show Steps p.tables e below (T63.setTop (mkF m 149 #[.val (.long q0), .second, .val (.long q1), .second, .val (.long q2), .second, .val (.long q3), .second, .val (.long q4), .second, .val (.int p5), .val (.ref b1), .val (.int (4 : Int32)), .val (.ref b59), .val (.int sel), .val (.long q4), .second, .unset] [(.ref b1)])) t
        refine XS.iload X63.here hx rfl (hb hby at_149) rfl ?_
        show Steps p.tables e below (T63.setTop (mkF m 151 #[.val (.long q0), .second, .val (.long q1), .second, .val (.long q2), .second, .val (.long q3), .second, .val (.long q4), .second, .val (.int p5), .val (.ref b1), .val (.int (4 : Int32)), .val (.ref b59), .val (.int sel), .val (.long q4), .second, .unset] [(.int sel), (.ref b1)])) t
        refine own_laload X63 hx hZ e63 Pq10_0 (i := sel.toInt.toNat) (own_sel hsel hc144_96).1 (own_sel hsel hc144_96).2 (g := (mkF m 151 #[.val (.long q0), .second, .val (.long q1), .second, .val (.long q2), .second, .val (.long q3), .second, .val (.long q4), .second, .val (.int p5), .val (.ref b1), .val (.int (4 : Int32)), .val (.ref b59), .val (.int sel), .val (.long q4), .second, .unset] [(.int sel), (.ref b1)])) rfl rfl (hb hby at_151) _ ?_
        show Steps p.tables e below (T63.setTop (mkF m 152 #[.val (.long q0), .second, .val (.long q1), .second, .val (.long q2), .second, .val (.long q3), .second, .val (.long q4), .second, .val (.int p5), .val (.ref b1), .val (.int (4 : Int32)), .val (.ref b59), .val (.int sel), .val (.long q4), .second, .unset] [(.long (t5 sel.toInt.toNat))])) t
        refine XS.lstore X63.here hx rfl (hb hby at_152) rfl (l' := #[.val (.long q0), .second, .val (.long q1), .second, .val (.long q2), .second, .val (.long q3), .second, .val (.long q4), .second, .val (.int p5), .val (.ref b1), .val (.int (4 : Int32)), .val (.ref b59), .val (.int sel), .val (.long (t5 sel.toInt.toNat)), .second, .unset]) rfl ?_
        show Steps p.tables e below (T63.setTop (mkF m 154 #[.val (.long q0), .second, .val (.long q1), .second, .val (.long q2), .second, .val (.long q3), .second, .val (.long q4), .second, .val (.int p5), .val (.ref b1), .val (.int (4 : Int32)), .val (.ref b59), .val (.int sel), .val (.long (t5 sel.toInt.toNat)), .second, .unset] [])) t
        refine XS.goto X63.here hx rfl (pc0 := 154) (pc' := 177) rfl (hb hby at_154) (by decide) (by decide) ?_
        show Steps p.tables e below (T63.setTop (mkF m 177 #[.val (.long q0), .second, .val (.long q1), .second, .val (.long q2), .second, .val (.long q3), .second, .val (.long q4), .second, .val (.int p5), .val (.ref b1), .val (.int (4 : Int32)), .val (.ref b59), .val (.int sel), .val (.long (t5 sel.toInt.toNat)), .second, .unset] [])) t
        exact kt
      exact J177 T63 _ (t5 sel.toInt.toNat) X63 N63 e63
    · refine own_go (T' := T63) (f' := (mkF m 160 #[.val (.long q0), .second, .val (.long q1), .second, .val (.long q2), .second, .val (.long q3), .second, .val (.long q4), .second, .val (.int p5), .val (.ref b1), .val (.int (4 : Int32)), .val (.ref b59), .val (.int sel), .val (.long q4), .second, .unset] [(.int (4 : Int32)), (.int sel)])) (fun t kt => ?_) ?_
      · show Steps p.tables e below (T63.setTop (mkF m 144 #[.val (.long q0), .second, .val (.long q1), .second, .val (.long q2), .second, .val (.long q3), .second, .val (.long q4), .second, .val (.int p5), .val (.ref b1), .val (.int (4 : Int32)), .val (.ref b59), .val (.int sel), .val (.long q4), .second, .unset] [(.int (4 : Int32)), (.int sel)])) t
        refine XS.icmpYes X63.here hx rfl (pc0 := 144) (pc' := 157) rfl (hb hby at_144) rfl (flt hc144_96).2.1 (by decide) (by decide) ?_
        show Steps p.tables e below (T63.setTop (mkF m 157 #[.val (.long q0), .second, .val (.long q1), .second, .val (.long q2), .second, .val (.long q3), .second, .val (.long q4), .second, .val (.int p5), .val (.ref b1), .val (.int (4 : Int32)), .val (.ref b59), .val (.int sel), .val (.long q4), .second, .unset] [])) t
        refine XS.iload X63.here hx rfl (hb hby at_157) rfl ?_
        show Steps p.tables e below (T63.setTop (mkF m 159 #[.val (.long q0), .second, .val (.long q1), .second, .val (.long q2), .second, .val (.long q3), .second, .val (.long q4), .second, .val (.int p5), .val (.ref b1), .val (.int (4 : Int32)), .val (.ref b59), .val (.int sel), .val (.long q4), .second, .unset] [(.int sel)])) t
        refine XS.iconst X63.here hx rfl (hb hby at_159) ?_
        show Steps p.tables e below (T63.setTop (mkF m 160 #[.val (.long q0), .second, .val (.long q1), .second, .val (.long q2), .second, .val (.long q3), .second, .val (.long q4), .second, .val (.int p5), .val (.ref b1), .val (.int (4 : Int32)), .val (.ref b59), .val (.int sel), .val (.long q4), .second, .unset] [(.int (4 : Int32)), (.int sel)])) t
        exact kt
      by_cases hc160_97 : sel = (4 : Int32)
      · refine own_go (T' := T63) (f' := (mkF m 177 #[.val (.long q0), .second, .val (.long q1), .second, .val (.long q2), .second, .val (.long q3), .second, .val (.long q4), .second, .val (.int p5), .val (.ref b1), .val (.int (4 : Int32)), .val (.ref b59), .val (.int sel), .val (.long ((t5 (((p5.toUInt32 >>> ((6 : Int32) &&& 31).toUInt32).toInt32) &&& (3 : Int32)).toInt.toNat) + (1 : Int64))), .second, .unset] [])) (fun t kt => ?_) ?_
        · show Steps p.tables e below (T63.setTop (mkF m 160 #[.val (.long q0), .second, .val (.long q1), .second, .val (.long q2), .second, .val (.long q3), .second, .val (.long q4), .second, .val (.int p5), .val (.ref b1), .val (.int (4 : Int32)), .val (.ref b59), .val (.int sel), .val (.long q4), .second, .unset] [(.int (4 : Int32)), (.int sel)])) t
          refine XS.icmpNo X63.here hx rfl (hb hby at_160) rfl (teq hc160_97).2 ?_
          show Steps p.tables e below (T63.setTop (mkF m 163 #[.val (.long q0), .second, .val (.long q1), .second, .val (.long q2), .second, .val (.long q3), .second, .val (.long q4), .second, .val (.int p5), .val (.ref b1), .val (.int (4 : Int32)), .val (.ref b59), .val (.int sel), .val (.long q4), .second, .unset] [])) t
          refine XS.aload X63.here hx rfl (hb hby at_163) rfl rfl ?_
          show Steps p.tables e below (T63.setTop (mkF m 165 #[.val (.long q0), .second, .val (.long q1), .second, .val (.long q2), .second, .val (.long q3), .second, .val (.long q4), .second, .val (.int p5), .val (.ref b1), .val (.int (4 : Int32)), .val (.ref b59), .val (.int sel), .val (.long q4), .second, .unset] [(.ref b1)])) t
          refine XS.iload X63.here hx rfl (hb hby at_165) rfl ?_
          show Steps p.tables e below (T63.setTop (mkF m 167 #[.val (.long q0), .second, .val (.long q1), .second, .val (.long q2), .second, .val (.long q3), .second, .val (.long q4), .second, .val (.int p5), .val (.ref b1), .val (.int (4 : Int32)), .val (.ref b59), .val (.int sel), .val (.long q4), .second, .unset] [(.int p5), (.ref b1)])) t
          refine XS.bipush X63.here hx rfl (hb hby at_167) ?_
          show Steps p.tables e below (T63.setTop (mkF m 169 #[.val (.long q0), .second, .val (.long q1), .second, .val (.long q2), .second, .val (.long q3), .second, .val (.long q4), .second, .val (.int p5), .val (.ref b1), .val (.int (4 : Int32)), .val (.ref b59), .val (.int sel), .val (.long q4), .second, .unset] [(.int (6 : Int32)), (.int p5), (.ref b1)])) t
          refine XS.iushr X63.here hx rfl (hb hby at_169) rfl ?_
          show Steps p.tables e below (T63.setTop (mkF m 170 #[.val (.long q0), .second, .val (.long q1), .second, .val (.long q2), .second, .val (.long q3), .second, .val (.long q4), .second, .val (.int p5), .val (.ref b1), .val (.int (4 : Int32)), .val (.ref b59), .val (.int sel), .val (.long q4), .second, .unset] [(.int ((p5.toUInt32 >>> ((6 : Int32) &&& 31).toUInt32).toInt32)), (.ref b1)])) t
          refine XS.iconst X63.here hx rfl (hb hby at_170) ?_
          show Steps p.tables e below (T63.setTop (mkF m 171 #[.val (.long q0), .second, .val (.long q1), .second, .val (.long q2), .second, .val (.long q3), .second, .val (.long q4), .second, .val (.int p5), .val (.ref b1), .val (.int (4 : Int32)), .val (.ref b59), .val (.int sel), .val (.long q4), .second, .unset] [(.int (3 : Int32)), (.int ((p5.toUInt32 >>> ((6 : Int32) &&& 31).toUInt32).toInt32)), (.ref b1)])) t
          refine XS.iand X63.here hx rfl (hb hby at_171) rfl ?_
          show Steps p.tables e below (T63.setTop (mkF m 172 #[.val (.long q0), .second, .val (.long q1), .second, .val (.long q2), .second, .val (.long q3), .second, .val (.long q4), .second, .val (.int p5), .val (.ref b1), .val (.int (4 : Int32)), .val (.ref b59), .val (.int sel), .val (.long q4), .second, .unset] [(.int (((p5.toUInt32 >>> ((6 : Int32) &&& 31).toUInt32).toInt32) &&& (3 : Int32))), (.ref b1)])) t
          refine own_laload X63 hx hZ e63 Pq10_0 (i := (((p5.toUInt32 >>> ((6 : Int32) &&& 31).toUInt32).toInt32) &&& (3 : Int32)).toInt.toNat) (own_ix3 ((p5.toUInt32 >>> ((6 : Int32) &&& 31).toUInt32).toInt32)).1 (own_ix3 ((p5.toUInt32 >>> ((6 : Int32) &&& 31).toUInt32).toInt32)).2 (g := (mkF m 172 #[.val (.long q0), .second, .val (.long q1), .second, .val (.long q2), .second, .val (.long q3), .second, .val (.long q4), .second, .val (.int p5), .val (.ref b1), .val (.int (4 : Int32)), .val (.ref b59), .val (.int sel), .val (.long q4), .second, .unset] [(.int (((p5.toUInt32 >>> ((6 : Int32) &&& 31).toUInt32).toInt32) &&& (3 : Int32))), (.ref b1)])) rfl rfl (hb hby at_172) _ ?_
          show Steps p.tables e below (T63.setTop (mkF m 173 #[.val (.long q0), .second, .val (.long q1), .second, .val (.long q2), .second, .val (.long q3), .second, .val (.long q4), .second, .val (.int p5), .val (.ref b1), .val (.int (4 : Int32)), .val (.ref b59), .val (.int sel), .val (.long q4), .second, .unset] [(.long (t5 (((p5.toUInt32 >>> ((6 : Int32) &&& 31).toUInt32).toInt32) &&& (3 : Int32)).toInt.toNat))])) t
          refine XS.lconst X63.here hx rfl (hb hby at_173) ?_
          show Steps p.tables e below (T63.setTop (mkF m 174 #[.val (.long q0), .second, .val (.long q1), .second, .val (.long q2), .second, .val (.long q3), .second, .val (.long q4), .second, .val (.int p5), .val (.ref b1), .val (.int (4 : Int32)), .val (.ref b59), .val (.int sel), .val (.long q4), .second, .unset] [(.long (1 : Int64)), (.long (t5 (((p5.toUInt32 >>> ((6 : Int32) &&& 31).toUInt32).toInt32) &&& (3 : Int32)).toInt.toNat))])) t
          refine XS.ladd X63.here hx rfl (hb hby at_174) rfl ?_
          show Steps p.tables e below (T63.setTop (mkF m 175 #[.val (.long q0), .second, .val (.long q1), .second, .val (.long q2), .second, .val (.long q3), .second, .val (.long q4), .second, .val (.int p5), .val (.ref b1), .val (.int (4 : Int32)), .val (.ref b59), .val (.int sel), .val (.long q4), .second, .unset] [(.long ((t5 (((p5.toUInt32 >>> ((6 : Int32) &&& 31).toUInt32).toInt32) &&& (3 : Int32)).toInt.toNat) + (1 : Int64)))])) t
          refine XS.lstore X63.here hx rfl (hb hby at_175) rfl (l' := #[.val (.long q0), .second, .val (.long q1), .second, .val (.long q2), .second, .val (.long q3), .second, .val (.long q4), .second, .val (.int p5), .val (.ref b1), .val (.int (4 : Int32)), .val (.ref b59), .val (.int sel), .val (.long ((t5 (((p5.toUInt32 >>> ((6 : Int32) &&& 31).toUInt32).toInt32) &&& (3 : Int32)).toInt.toNat) + (1 : Int64))), .second, .unset]) rfl ?_
          show Steps p.tables e below (T63.setTop (mkF m 177 #[.val (.long q0), .second, .val (.long q1), .second, .val (.long q2), .second, .val (.long q3), .second, .val (.long q4), .second, .val (.int p5), .val (.ref b1), .val (.int (4 : Int32)), .val (.ref b59), .val (.int sel), .val (.long ((t5 (((p5.toUInt32 >>> ((6 : Int32) &&& 31).toUInt32).toInt32) &&& (3 : Int32)).toInt.toNat) + (1 : Int64))), .second, .unset] [])) t
          exact kt
        exact J177 T63 _ ((t5 (((p5.toUInt32 >>> ((6 : Int32) &&& 31).toUInt32).toInt32) &&& (3 : Int32)).toInt.toNat) + (1 : Int64)) X63 N63 e63
      · refine own_go (T' := T63) (f' := (mkF m 177 #[.val (.long q0), .second, .val (.long q1), .second, .val (.long q2), .second, .val (.long q3), .second, .val (.long q4), .second, .val (.int p5), .val (.ref b1), .val (.int (4 : Int32)), .val (.ref b59), .val (.int sel), .val (.long q4), .second, .unset] [])) (fun t kt => ?_) ?_
        · show Steps p.tables e below (T63.setTop (mkF m 160 #[.val (.long q0), .second, .val (.long q1), .second, .val (.long q2), .second, .val (.long q3), .second, .val (.long q4), .second, .val (.int p5), .val (.ref b1), .val (.int (4 : Int32)), .val (.ref b59), .val (.int sel), .val (.long q4), .second, .unset] [(.int (4 : Int32)), (.int sel)])) t
          refine XS.icmpYes X63.here hx rfl (pc0 := 160) (pc' := 177) rfl (hb hby at_160) rfl (feq hc160_97).2 (by decide) (by decide) ?_
          show Steps p.tables e below (T63.setTop (mkF m 177 #[.val (.long q0), .second, .val (.long q1), .second, .val (.long q2), .second, .val (.long q3), .second, .val (.long q4), .second, .val (.int p5), .val (.ref b1), .val (.int (4 : Int32)), .val (.ref b59), .val (.int sel), .val (.long q4), .second, .unset] [])) t
          exact kt
        exact J177 T63 _ q4 X63 N63 e63
set_option maxRecDepth 65536 in
set_option maxHeartbeats 40000000 in
theorem comes_1 {Post : Tables → Env → Array Value → State → Outcome → State → Prop} (hpost : ∀ tb e args s v u, (limb_1_1.after args s (.returned v) u = true ∧ limb_1_2.after args s (.returned v) u = true ∧ True) → FrameEnd s (.returned v) u (Jvm.fieldLocs frame_1_writes args s ++ Jvm.arrayLocs frame_1_arrays args s ++ Jvm.staticLocs frame_1_statics s) 16 128 → Post tb e args s (.returned v) u) :
    ArmFor flags0 classFile x code maxLocals ret World_1 tables_1 room_1 Calls_1 rest_1 Pre_1 Post := by
  intro l hfl _ _ p e ha hc hk s m args below hf hA hF happ hP
  obtain ⟨hcalls, hrest, hpre⟩ := hP
  obtain ⟨-, -, -, hnamed, -, -, -, hat⟩ := (Spec.applies_iff hf).mp happ
  obtain ⟨hg, hn⟩ := and_e (Cond.before_iff.mp (show (Jvm.Cond.and given_1 narrow_1).before args s = true from hpre))
  obtain ⟨k1, k2⟩ := and_e hg
  obtain ⟨k3, k4⟩ := and_e k2
  obtain ⟨k5, k6⟩ := and_e k4
  obtain ⟨k7, k8⟩ := and_e k6
  obtain ⟨k9, k10⟩ := and_e k8
  obtain ⟨k11, k12⟩ := and_e k10
  obtain ⟨w0, w1, w2, w3, w4, w5, rfl⟩ : ∃ w0 w1 w2 w3 w4 w5 : Value, args = #[w0, w1, w2, w3, w4, w5] := by
    have hs : args.size = 6 := by simpa [Cond.value, given_1] using k1
    obtain ⟨L⟩ := args
    match L, hs with
    | [w0, w1, w2, w3, w4, w5], _ => exact ⟨w0, w1, w2, w3, w4, w5, rfl⟩
  have hw := fun d (hd : d ∈ tables_1) => atoms_spec (ws := Jvm.Cond.code x code maxLocals ret :: tables_1) hat d (List.mem_cons_of_mem _ hd)
  obtain ⟨i0, ei0⟩ := isL_v k3
  obtain rfl : w0 = (.long i0) := Option.some.inj ei0
  obtain ⟨i1, ei1⟩ := isL_v k5
  obtain rfl : w1 = (.long i1) := Option.some.inj ei1
  obtain ⟨i2, ei2⟩ := isL_v k7
  obtain rfl : w2 = (.long i2) := Option.some.inj ei2
  obtain ⟨i3, ei3⟩ := isL_v k9
  obtain rfl : w3 = (.long i3) := Option.some.inj ei3
  obtain ⟨i4, ei4⟩ := isL_v k11
  obtain rfl : w4 = (.long i4) := Option.some.inj ei4
  obtain ⟨i5, ei5⟩ := is_v k12
  obtain rfl : w5 = (.int i5) := Option.some.inj ei5
  obtain ⟨n, o, h1, h2, h3, _, L, rfl, ⟨rfl, N⟩, hq⟩ := rm0 l s _ hw (ws := tables_1) i0 i1 i2 i3 i4 i5 s.heap s.heap.size (Nat.le_refl _)  p e ha hc hk s m _ below hf ((Spec.applies_iff_loose hf).mp happ).1 ⟨rfl, State.Warmed39.refl s, rfl⟩ trivial
  refine ⟨n, _, h1, h2, h3, hpost _ _ _ _ _ _ ⟨Cond.after_iff.mpr rfl, Cond.after_iff.mpr (eq_i res_at (Term.int_eval (1)) rfl), trivial⟩ ⟨hq.1, hq.2.1, (hq.2.2.sift fun y hy => Or.inr (N y hy)).mono (by decide) (by decide)⟩⟩
theorem main_1_1 : Claimed_1_1 := comes_1 fun _ _ _ _ _ _ h hF => ⟨h.1, hF⟩
theorem main_1_2 : Claimed_1_2 := comes_1 fun _ _ _ _ _ _ h hF => ⟨h.2.1, hF⟩
end Jvm.Pilot.@@N@@
namespace Jvm.Pilot.@@N@@
open Jvm Jvm.ClassFile Sem Op Lib Jvm.Free Jvm.Stand Jvm.Pilot.@@N@@.Jvm.D
/-! MADE BY PROGRAM (witnessworld.py) out of the Statement's table words and the real class files: 11 classes; the members and pool entries that the words name. The judged class is class 1, her method 1. -/
namespace start1
open Jvm.ClassFile
def u (s : String) : CpInfo := .utf8 (stringToUtf16 s)
/-- a pool by its gaps: so many unusable entries, then the entry; so many at the end -/
def gap : Nat → List CpInfo → List CpInfo
  | 0, r => r
  | n + 1, r => .unusable :: gap n r
def poolList (es : List (Nat × CpInfo)) (last : Nat) : List CpInfo := es.foldr (fun e r => gap e.1 (e.2 :: r)) (gap last [])
def pool (es : List (Nat × CpInfo)) (last : Nat) : Array CpInfo := ⟨poolList es last⟩
def fileOf (pool : Array CpInfo) (this : Nat) (attrs : Array Attribute := #[]) (ms : Array MethodInfo := #[]) (fl : Nat := 33) (sup : Nat := 0) (ifs : Array Nat := #[]) (fds : Array FieldInfo := #[]) : ClassFile where
  minorVersion := 0
  majorVersion := 65
  constantPool := pool
  accessFlags := fl
  thisClass := this
  superClass := sup
  interfaces := ifs
  fields := fds
  methods := ms
  attributes := attrs
def plain (name : String) (sup : Option ClassId) : Class where
  name := name
  kind := .ordinary
  loader := none
  accessFlags := 33
  super := sup
  interfaces := #[]
  cf := none
  fields := #[]
  methods := #[]
  instanceTypes := #[]
  staticTypes := #[]
  resolved := #[]
  callSites := []
  init := .initialized
  statics := none
  mirror := none

def pool0 : Array CpInfo := pool [(5, u "<init>"), (0, u "()V"), (1, .class_ 10), (1, u "java/lang/Object")] 113

def k0m0 : Method := { name := "<init>", desc := "()V", sig := { parameters := [], returnType := none }, accessFlags := 1, code := none }
/-- java/lang/Object -/
def k0 : Class := { plain "java/lang/Object" none with
  accessFlags := 33
  interfaces := #[]
  cf := some (fileOf pool0 8 #[] #[{ accessFlags := 1, nameIndex := 5, descriptorIndex := 6, attributes := #[] }] 33 0 #[] #[])
  fields := #[]
  methods := #[k0m0]
  instanceTypes := #[]
  staticTypes := #[]
  resolved := Array.replicate 124 none
  statics := none }

def pool1 : Array CpInfo := pool [(2, .class_ 4), (1, u "java/lang/Object"), (0, u "<init>"), (0, u "()V"), (0, .methodref 8 9), (0, .class_ 10), (0, .nameAndType 11 12), (0, u "com/example/humble_grid/humblegrid/PackedPairsCountBelowPinLaw"), (0, u "cs"), (0, u "([JII)V"), (0, .methodref 14 15), (0, .class_ 16), (0, .nameAndType 17 18), (0, u "com/example/humble_grid/humblegrid/PackedPairs"), (0, u "countBelow"), (0, u "([JJ)I"), (2, u "law"), (0, u "(JJJJJI)Z")] 5

def k1m0 : Method := { name := "<init>", desc := "()V", sig := { parameters := [], returnType := none }, accessFlags := 1, code := none }
def k1c1 : Code := { maxStack := 5, maxLocals := 18, code := code, exceptionTable := #[], attributes := #[] }
def k1m1 : Method := { name := "law", desc := "(JJJJJI)Z", sig := { parameters := [.long, .long, .long, .long, .long, .int], returnType := some .boolean }, accessFlags := 9, code := some k1c1 }
def k1c2 : Code := { maxStack := 4, maxLocals := 5, code := method_3_code, exceptionTable := #[], attributes := #[] }
def k1m2 : Method := { name := "cs", desc := "([JII)V", sig := { parameters := [(.array .long), .int, .int], returnType := none }, accessFlags := 10, code := some k1c2 }
/-- com/example/humble_grid/humblegrid/PackedPairsCountBelowPinLaw -/
def k1 : Class := { plain "com/example/humble_grid/humblegrid/PackedPairsCountBelowPinLaw" (some 0) with
  accessFlags := 49
  interfaces := #[]
  cf := some (fileOf pool1 8 #[] #[{ accessFlags := 1, nameIndex := 5, descriptorIndex := 6, attributes := #[] }, { accessFlags := 9, nameIndex := 21, descriptorIndex := 22, attributes := #[] }, { accessFlags := 10, nameIndex := 11, descriptorIndex := 12, attributes := #[] }] 49 2 #[] #[])
  fields := #[]
  methods := #[k1m0, k1m1, k1m2]
  instanceTypes := #[]
  staticTypes := #[]
  resolved := Array.replicate 28 none
  statics := none }

def pool2 : Array CpInfo := pool [(2, .class_ 4), (1, u "java/lang/Object"), (0, u "<init>"), (0, u "()V"), (11, .class_ 20), (1, u "com/example/humble_grid/humblegrid/PackedPairs"), (0, u "countBelow"), (0, u "([JJ)I")] 11

def k2m0 : Method := { name := "<init>", desc := "()V", sig := { parameters := [], returnType := none }, accessFlags := 2, code := none }
def k2c1 : Code := { maxStack := 4, maxLocals := 6, code := prog_72_method_5_code, exceptionTable := #[], attributes := #[] }
def k2m1 : Method := { name := "countBelow", desc := "([JJ)I", sig := { parameters := [(.array .long), .long], returnType := some .int }, accessFlags := 8, code := some k2c1 }
/-- com/example/humble_grid/humblegrid/PackedPairs -/
def k2 : Class := { plain "com/example/humble_grid/humblegrid/PackedPairs" (some 0) with
  accessFlags := 32
  interfaces := #[]
  cf := some (fileOf pool2 18 #[] #[{ accessFlags := 2, nameIndex := 5, descriptorIndex := 6, attributes := #[] }, { accessFlags := 8, nameIndex := 21, descriptorIndex := 22, attributes := #[] }] 32 2 #[] #[])
  fields := #[]
  methods := #[k2m0, k2m1]
  instanceTypes := #[]
  staticTypes := #[]
  resolved := Array.replicate 34 none
  statics := none }

def pool3 : Array CpInfo := pool [(1, u "java/lang/Cloneable"), (0, .class_ 1), (0, u "java/lang/Object"), (0, .class_ 3)] 3

/-- java/lang/Cloneable -/
def k3 : Class := { plain "java/lang/Cloneable" (some 0) with
  accessFlags := 1537
  interfaces := #[]
  cf := some (fileOf pool3 2 #[] #[] 1537 4 #[] #[])
  fields := #[]
  methods := #[]
  instanceTypes := #[]
  staticTypes := #[]
  resolved := Array.replicate 8 none
  statics := none }

def pool4 : Array CpInfo := pool [(1, u "java/io/Serializable"), (0, .class_ 1), (0, u "java/lang/Object"), (0, .class_ 3)] 3

/-- java/io/Serializable -/
def k4 : Class := { plain "java/io/Serializable" (some 0) with
  accessFlags := 1537
  interfaces := #[]
  cf := some (fileOf pool4 2 #[] #[] 1537 4 #[] #[])
  fields := #[]
  methods := #[]
  instanceTypes := #[]
  staticTypes := #[]
  resolved := Array.replicate 8 none
  statics := none }

/-- the primitive byte -/
def k5 : Class := { plain "byte" none with kind := .primitive 'B', accessFlags := 0x411 }
/-- [B -/
def k6 : Class := { plain "[B" (some 0) with kind := .array 5 .byte, interfaces := #[3, 4], accessFlags := 1041 }

/-- the primitive int -/
def k7 : Class := { plain "int" none with kind := .primitive 'I', accessFlags := 0x411 }
/-- [I -/
def k8 : Class := { plain "[I" (some 0) with kind := .array 7 .int, interfaces := #[3, 4], accessFlags := 1041 }

/-- the primitive long -/
def k9 : Class := { plain "long" none with kind := .primitive 'J', accessFlags := 0x411 }
/-- [J -/
def k10 : Class := { plain "[J" (some 0) with kind := .array 9 .long, interfaces := #[3, 4], accessFlags := 1041 }

def heap : Heap := #[]
def classes : Array Class := #[k0, k1, k2, k3, k4, k5, k6, k7, k8, k9, k10]
def interned : List (Array UInt16 × Addr) := []
def slotsUsed : Nat := 0
def theMethod : MethodId := ⟨1, 1⟩
def args0 : Array Value := #[.long 0, .long 1, .long 2, .long 3, .long 4, .int 9]
def aboutOver (below : List Frame) : State where
  vm := { classes := classes, interned := interned.toArray }
  heap := heap
  slotsUsed := slotsUsed
  threads := #[{ frames := .invoking theMethod args0 :: below }]
def below0 : List Frame := [.native { method := ⟨0, 0⟩, args := #[] }]
def about1 : State := aboutOver below0
def p0 : Program := .bare "" "" ""
def e0 : Env := launch0.env 0 0 0
theorem w_frames : about1.frames = Frame.invoking theMethod args0 :: below0 := rfl
set_option maxRecDepth 65536 in
theorem w_args : argsFit about1.vm theMethod args0 = true := by decide +kernel
set_option maxRecDepth 65536 in
theorem w_heap : heapFits about1 = true := by decide +kernel
set_option maxRecDepth 65536 in
theorem w_runnable : about1.curStatus? = some .runnable := by decide +kernel
set_option maxRecDepth 65536 in
theorem w_alone : about1.alone = true := by decide +kernel
set_option maxRecDepth 65536 in
theorem w_named : about1.methodNamed? x = some theMethod := by decide +kernel
set_option maxRecDepth 65536 in
theorem w_hears : about1.hears theMethod below0 = true := by decide +kernel
set_option maxRecDepth 65536 in
theorem w_ripe : about1.ripe theMethod args0 below0 = true := by decide +kernel
theorem w_running : about1.status = .running := rfl
set_option maxRecDepth 65536 in
theorem w_room : about1.hasRoom e0.platform room_1 = true :=
  launch0.hasRoom_least _ room_1 (by decide +kernel) (by decide +kernel) (by decide +kernel) (by decide +kernel) (by decide +kernel) (by decide +kernel)
theorem allAtoms_all (ts : List Jvm.Cond) (a : Array Jvm.Value) (st : Jvm.State) : (allAtoms ts).before a st = ts.all (fun c => c.before a st) := by
  induction ts with
  | nil => rfl
  | cons c t ih =>
    show (Jvm.Cond.and c (allAtoms t)).before a st = _
    rw [Jvm.Cond.before_and, ih, List.all_cons]
def words1 : List Jvm.Cond := Jvm.Cond.code x code maxLocals ret :: tables_1
/-- a 'code' word, met by the world's own term for the bytes: nothing is compared byte by byte -/
theorem code_word {y : MethodName} {bytes : ByteArray} {mx : Nat} {rt : Option FieldType} {a : Array Value} {s : State} {m : MethodId} {meth : Method} {c : Code} (h1 : s.methodNamed? y = some m) (h2 : s.vm.method? m = some meth) (h3 : meth.code = some c) (h4 : c.code = bytes)
    (h5 : (c.maxLocals == mx && c.exceptionTable.isEmpty && decide (c.maxStack ≤ mostOperands) && decide (meth.sig.returnType = rt) && !meth.locks && decide (parseMethodDescriptor y.desc = some meth.sig)) = true) : (Jvm.Cond.code y bytes mx rt).before a s = true := by
  simp only [Bool.and_eq_true, beq_iff_eq, Bool.not_eq_true', decide_eq_true_eq] at h5
  obtain ⟨⟨⟨⟨⟨g1, g2⟩, g3⟩, g4⟩, g5⟩, g6⟩ := h5
  simp [Cond.before, Cond.holds, Cond.value, h1, h2, h3, h4, g1, g2, g3, g4, g5, g6]
def isCode : Jvm.Cond → Bool
  | .code _ _ _ _ => true
  | _ => false
theorem all_split {L : List Jvm.Cond} {P : Jvm.Cond → Bool} (h1 : L.all (fun c => isCode c || P c) = true) (h2 : ∀ c ∈ L.filter isCode, P c = true) : L.all P = true := by
  refine List.all_eq_true.mpr fun c hc => ?_
  have h := List.all_eq_true.mp h1 c hc
  rcases Bool.eq_false_or_eq_true (isCode c) with hi | hi
  · exact h2 c (List.mem_filter.mpr ⟨hc, hi⟩)
  · simpa [hi] using h
set_option maxRecDepth 65536 in
theorem w_c0 : (Jvm.Cond.code x code maxLocals ret).before args0 about1 = true := code_word (m := ⟨1, 1⟩) (meth := k1m1) (c := k1c1) (by decide +kernel) rfl rfl rfl (by decide +kernel)
set_option maxRecDepth 65536 in
theorem w_c1 : (Jvm.Cond.code ({ cls := "com/example/humble_grid/humblegrid/PackedPairsCountBelowPinLaw", name := "cs", desc := "([JII)V" } : Jvm.MethodName) method_3_code (5 : Nat) (Option.none : Option Jvm.ClassFile.FieldType)).before args0 about1 = true := code_word (m := ⟨1, 2⟩) (meth := k1m2) (c := k1c2) (by decide +kernel) rfl rfl rfl (by decide +kernel)
set_option maxRecDepth 65536 in
theorem w_c2 : (Jvm.Cond.code ({ cls := "com/example/humble_grid/humblegrid/PackedPairs", name := "countBelow", desc := "([JJ)I" } : Jvm.MethodName) prog_72_method_5_code (6 : Nat) (Option.some Jvm.ClassFile.FieldType.int)).before args0 about1 = true := code_word (m := ⟨2, 1⟩) (meth := k2m1) (c := k2c1) (by decide +kernel) rfl rfl rfl (by decide +kernel)
def codes1 : List Jvm.Cond := [Jvm.Cond.code x code maxLocals ret, Jvm.Cond.code ({ cls := "com/example/humble_grid/humblegrid/PackedPairsCountBelowPinLaw", name := "cs", desc := "([JII)V" } : Jvm.MethodName) method_3_code (5 : Nat) (Option.none : Option Jvm.ClassFile.FieldType), Jvm.Cond.code ({ cls := "com/example/humble_grid/humblegrid/PackedPairs", name := "countBelow", desc := "([JJ)I" } : Jvm.MethodName) prog_72_method_5_code (6 : Nat) (Option.some Jvm.ClassFile.FieldType.int)]
set_option maxRecDepth 65536 in
theorem codes_eq : words1.filter isCode = codes1 := rfl
theorem w_codes : ∀ c ∈ words1.filter isCode, c.before args0 about1 = true := by
  rw [codes_eq]
  intro c hc
  simp only [codes1, List.mem_cons, List.not_mem_nil, or_false] at hc
  rcases hc with rfl | rfl | rfl
  · exact w_c0
  · exact w_c1
  · exact w_c2
set_option maxRecDepth 65536 in
theorem w_t1 : words1.all (fun c => isCode c || c.before args0 about1) = true := by decide +kernel
theorem w_tables : (allAtoms (Jvm.Cond.code x code maxLocals ret :: tables_1)).before args0 about1 = true := by
  rw [allAtoms_all]
  show words1.all (fun c => c.before args0 about1) = true
  refine all_split ?_ w_codes
  rw [w_t1]
set_option maxRecDepth 65536 in
theorem w_case : (Jvm.Cond.and given_1 narrow_1).before args0 about1 = true := by decide +kernel
theorem w_applies : (headSpec (Jvm.Cond.code x code maxLocals ret :: tables_1) room_1).applies x e0.platform about1 = true :=
  (Spec.applies_iff w_frames).mpr ⟨w_running, w_runnable, w_alone, w_named, w_hears, w_ripe, w_room, w_tables⟩
theorem atStart : AtStart classFile x code maxLocals ret World_1 tables_1 room_1 Calls_1 rest_1 Pre_1 launch0 p0 e0 about1 theMethod args0 below0 :=
  ⟨lists_1, trivial, launch0.admits_env _ _ _, launch0.least_env, fairChoices_fair.cas, fairChoices_fair.clock, w_frames, w_args, w_heap, w_applies, trivial, trivial, w_case⟩
end start1
theorem witness_1 : WitnessClaimed_1 := ⟨start1.p0, start1.e0, start1.about1, start1.theMethod, start1.args0, start1.below0, start1.atStart⟩
end Jvm.Pilot.@@N@@
