import JvmDerived
import JvmDerived.Pilot.@@N@@Statement
import JvmDerived.Pilot.@@N@@Code
set_option linter.unusedVariables false
set_option linter.unusedSimpArgs false
@@BLOCK:NumsL.lean.txt@@
namespace Jvm.Pilot.@@N@@
open Jvm Jvm.ClassFile Sem Op Lib Jvm.Free Jvm.Stand Jvm.LawKit Jvm.RoadKit Bundle Jvm.Pilot.@@N@@.Jvm.D
/-! own layer: the run from here ends, and Q holds of what it returned, of the heap and of the places written -/
def own_End (p : Program) (e : Env) (below : List Frame) (P : State → Outcome → Prop) (T : State) (f : JFrame) : Prop := ∃ s₂ o, Steps p.tables e below (T.setTop f) s₂ ∧ P s₂ o
def own_P (below : List Frame) (s : State) (Q : Option Value → Heap → List Loc → Prop) (kc ns : Nat) : State → Outcome → Prop := fun s₂ o => s₂.status = .running ∧ Ended s₂ below o ∧ ∃ v L, o = .returned v ∧ Q v s₂.heap L ∧ FrameEnd s o s₂ L kc ns
def own_Met (l : Launch) (Z : State) (y : MethodName) (bytes : ByteArray) (maxL : Nat) (ret : Option FieldType) (ws : List Jvm.Cond) (rm : Room) (as' : Array Value) (h : Heap) (Q : Option Value → Heap → List Loc → Prop) : Prop :=
  MetFree l y (head1 (Jvm.Cond.code y bytes maxL ret :: ws) rm) (fun a U => a = as' ∧ Z.Warmed39 U.vm ∧ U.heap = h) (fun _ _ _ _ _ => True) (fun _ U o U' => ∃ v L, o = .returned v ∧ Q v U'.heap L ∧ FrameEnd U o U' L rm.cells rm.slots)
section OwnSteps
variable {p : Program} {l : Launch} {e : Env} {R : Room} {s : State} {m : MethodId} {args : Array Value} {below : List Frame} {meth : Method} {c : Code} {T : State} {locs : List Loc} {cells slots : Nat} {P : State → Outcome → Prop} {Q : Option Value → Heap → List Loc → Prop} {kc ns : Nat} {Z : State} {a0 : Array Value} {h : Heap} {f : JFrame}
theorem own_go {T' : State} {f' : JFrame} (st : ∀ t, Steps p.tables e below (T'.setTop f') t → Steps p.tables e below (T.setTop f) t) (k : own_End p e below P T' f') : own_End p e below P T f := by
  obtain ⟨s₂, o, h1, h2⟩ := k
  exact ⟨s₂, o, st _ h1, h2⟩
theorem own_via {T' : State} {f' : JFrame} (st : Steps p.tables e below (T.setTop f) (T'.setTop f')) (k : own_End p e below P T' f') : own_End p e below P T f := own_go (fun _ h => st.trans h) k
theorem own_exf (h : False) : own_End p e below P T f := h.elim
theorem own_body {y : MethodName} {bytes : ByteArray} {maxL : Nat} {ret : Option FieldType} {ws : List Jvm.Cond} {rm : Room} {as' : Array Value} (hpl : plainFor y = true)
    (body : ∀ (p : Program) (e : Env) (s : State) (m : MethodId) (below : List Frame) (meth : Method) (c : Code) (s₁ : State), p.tables.exec = Jvm.exec → Z.Warmed39 s.vm → c.code = bytes → c.maxLocals = maxL → s.vm.findClass y.cls = some m.cls → meth.name = y.name → meth.sig.returnType = ret → meth.locks = false →
      Stand p l e rm s m as' below meth c s₁ [] 0 0 → s₁.heap = h → own_End p e below (own_P below s Q rm.cells rm.slots) s₁ (entryFrame m as' maxL)) : own_Met l Z y bytes maxL ret ws rm as' h Q := by
  refine MetFree.of_bodySF hpl hisR ?_
  intro p e s m args below meth c s₁ Bd hml0 hP hK
  obtain ⟨rfl, hZ, hh⟩ := hP
  exact body p e s m below meth c s₁ Bd.exec hZ Bd.bytes hml0 (findClass_of_methodNamed Bd.named) (name_of_methodNamed Bd.named Bd.method).1 Bd.returns Bd.notSynchronized (Stand.of_body Bd) (by rw [← hh, Bd.state]; rfl)
theorem own_cast {g g' : JFrame} (q : g = g') (k : own_End p e below P T g') : own_End p e below P T g := q ▸ k
theorem own_ret (X : Stand p l e R s m args below meth c T locs cells slots) (hP : P = own_P below s Q kc ns) (hlk : meth.locks = false) (eT : T.heap = h) {v : Option Value} (hv : meth.sig.returnType = none → v = none) (hk : cells ≤ kc) (hn : slots ≤ ns) (hQ : Q v h locs)
    (st : ∀ fs, (∀ (f : JFrame) (acts : List Action), f.method = m → f.locked = none → f.entered = [] → (doReturn e (T.setTop f) acts v).1 = T.setFrames fs) → Steps p.tables e below (T.setTop f) (T.setFrames fs)) : own_End p e below P T f := by
  obtain ⟨fs, hr, hrun, hended, hW, hsame⟩ := X.leave hv hlk
  subst hP
  exact ⟨_, _, st fs hr, hrun, hended, _, _, rfl, (eT ▸ hQ : Q v T.heap locs), ⟨_, rfl⟩, hW, hsame.mono hk hn⟩
theorem own_retV (X : Stand p l e R s m args below meth c T locs cells slots) (hP : P = own_P below s Q kc ns) (hx : p.tables.exec = Jvm.exec) (hlk : meth.locks = false) (eT : T.heap = h) {pc : Nat} {Ls : Array Slot} (hret : meth.sig.returnType = none) (hd : decode c.code pc = .ok (.return_, 1)) (hk : cells ≤ kc) (hn : slots ≤ ns) (hQ : Q none h locs) :
    own_End p e below P T (mkF m pc Ls []) := own_ret X hP hlk eT (fun _ => rfl) hk hn hQ fun _ hr => X.returnOut hx hret hd hr
theorem own_retI (X : Stand p l e R s m args below meth c T locs cells slots) (hP : P = own_P below s Q kc ns) (hx : p.tables.exec = Jvm.exec) (hlk : meth.locks = false) (eT : T.heap = h) {pc : Nat} {Ls : Array Slot} {z : Int32} {rest : List Value} (hret : meth.sig.returnType = some .int) (hd : decode c.code pc = .ok (.ireturn, 1)) (hk : cells ≤ kc) (hn : slots ≤ ns) (hQ : Q (some (.int z)) h locs) :
    own_End p e below P T (mkF m pc Ls (.int z :: rest)) := own_ret X hP hlk eT (fun h => by rw [hret] at h; cases h) hk hn hQ fun fs hr => retOut X hx hret rfl (Or.inl ⟨rfl, Or.inl rfl, z, rfl⟩) hd hr
theorem own_retN (X : Stand p l e R s m args below meth c T locs cells slots) (hP : P = own_P below s Q kc ns) (hx : p.tables.exec = Jvm.exec) (hlk : meth.locks = false) (eT : T.heap = h) {pc : Nat} {Ls : Array Slot} {z : Int32} {rest : List Value} {t : FieldType} (hret : meth.sig.returnType = some t) (ht : t = .boolean ∨ t = .byte ∨ t = .char ∨ t = .short) (hd : decode c.code pc = .ok (.ireturn, 1)) (hk : cells ≤ kc) (hn : slots ≤ ns) {z' : Int32} (hz : nar t z = z') (hQ : Q (some (.int z')) h locs) :
    own_End p e below P T (mkF m pc Ls (.int z :: rest)) := by
  subst hz
  exact own_ret X hP hlk eT (fun h => by rw [hret] at h; cases h) hk hn hQ fun fs hr => retN X hx hret ht hd hr
theorem own_retJ (X : Stand p l e R s m args below meth c T locs cells slots) (hP : P = own_P below s Q kc ns) (hx : p.tables.exec = Jvm.exec) (hlk : meth.locks = false) (eT : T.heap = h) {pc : Nat} {Ls : Array Slot} {z : Int64} {rest : List Value} (hret : meth.sig.returnType = some .long) (hd : decode c.code pc = .ok (.lreturn, 1)) (hk : cells ≤ kc) (hn : slots ≤ ns) (hQ : Q (some (.long z)) h locs) :
    own_End p e below P T (mkF m pc Ls (.long z :: rest)) := own_ret X hP hlk eT (fun h => by rw [hret] at h; cases h) hk hn hQ fun fs hr => retOut X hx hret rfl (Or.inr (Or.inl ⟨rfl, rfl, z, rfl⟩)) hd hr
theorem own_retA (X : Stand p l e R s m args below meth c T locs cells slots) (hP : P = own_P below s Q kc ns) (hx : p.tables.exec = Jvm.exec) (hlk : meth.locks = false) (eT : T.heap = h) {pc : Nat} {Ls : Array Slot} {w : Value} {rest : List Value} {t : FieldType} (hret : meth.sig.returnType = some t) (ht : t.isReference = true) (hw : w.isRef = true) (hnr : narrow t w = w) (hd : decode c.code pc = .ok (.areturn, 1)) (hk : cells ≤ kc) (hn : slots ≤ ns) (hQ : Q (some w) h locs) :
    own_End p e below P T (mkF m pc Ls (w :: rest)) := own_ret X hP hlk eT (fun h => by rw [hret] at h; cases h) hk hn hQ fun fs hr => retOut X hx hret hnr (Or.inr (Or.inr (Or.inr (Or.inr ⟨rfl, ht, hw⟩)))) hd hr
theorem own_callS (X : Stand p l e R s m args below meth c T locs cells slots) (hx : p.tables.exec = Jvm.exec) (hZ : Z.Warmed39 s.vm) {own : String} (hown : s.vm.findClass own = some m.cls) (eT : T.heap = h) {index : Nat} {y : MethodName} {bytes : ByteArray} {maxL : Nat} {ret : Option FieldType} {rm : Room} {as' : Array Value} {Q' : Option Value → Heap → List Loc → Prop}
    (w1 : (Cond.methodLink own index y).before a0 Z = true) (w2 : (Cond.static y).before a0 Z = true) (w3 : (Cond.initialized y.cls).before a0 Z = true) (w4 : (Cond.code y bytes maxL ret).before a0 Z = true) (hy : y.cls ≠ "java/lang/invoke/MethodHandle" ∧ y.cls ≠ "java/lang/invoke/VarHandle")
    (hM : own_Met l Z y bytes maxL ret [] rm as' h Q') {g : JFrame} (hg : g.method = m) (hsize : g.locals.size = c.maxLocals) {argsL rest : List Value} (hlen : ∀ sig, parseMethodDescriptor y.desc = some sig → argsL.length = sig.parameters.length) (hstack : g.stack = argsL.reverse ++ rest) (has : argsL.toArray = as') {W : Nat} (hW : 2 * g.monitorRoom + (rest.map fun v => v.category).sum ≤ W) (hdg : decode c.code g.pc = .ok (.invokestatic index, 3))
    (hf : rm.frames + 1 ≤ R.frames) (hl : W + (maxL + 11) + rm.locals ≤ R.locals) (hc : cells + rm.cells ≤ R.cells) (hs : slots + rm.slots ≤ R.slots)
    (k : ∀ v T' L, Stand p l e R s m args below meth c T' (locs ++ L) (cells + rm.cells) (slots + rm.slots) → Q' v T'.heap L → own_End p e below P T' { g with pc := g.pc + 3, stack := v.toList ++ rest }) : own_End p e below P T g := by
  obtain ⟨v, vm1, ⟨T', L1, k1, n1⟩, -, X', ⟨L, hQ, l1, y1, z1⟩, st⟩ := Jvm.LawKit.callS X hx (y := y) hown (mvT hZ w1) (mvT hZ w2) (mvT hZ w3) (mvT hZ w4) hy (backOf (W := W) hM hZ w4 w3 hf hl) hg hsize hlen hstack hW hdg (fun _ _ => ⟨has, eT, hc, hs⟩)
  dsimp only [Pt.U, Pt.locs, Pt.cells, Pt.slots] at X' l1 y1 z1 st hQ
  subst l1 y1 z1
  exact own_go st (k v T' L X' hQ)
theorem own_callC (X : Stand p l e R s m args below meth c T locs cells slots) (hx : p.tables.exec = Jvm.exec) (hZ : Z.Warmed39 s.vm) {own : String} (hown : s.vm.findClass own = some m.cls) (eT : T.heap = h) {index : Nat} {y : MethodName} {bytes : ByteArray} {maxL : Nat} {rm : Room} {as' : Array Value} {Q' : Option Value → Heap → List Loc → Prop}
    (hyi : y.name = "<init>") (w1 : (Cond.methodLink own index y).before a0 Z = true) (w2 : (Cond.instanceMethod y).before a0 Z = true) (w3 : (Cond.initialized y.cls).before a0 Z = true) (w4 : (Cond.code y bytes maxL none).before a0 Z = true) (hy : y.cls ≠ "java/lang/invoke/MethodHandle" ∧ y.cls ≠ "java/lang/invoke/VarHandle")
    (hM : own_Met l Z y bytes maxL none [] rm as' h Q') {g : JFrame} (hg : g.method = m) (hsize : g.locals.size = c.maxLocals) {a : Addr} {argsL rest : List Value} (hlen : ∀ sig, parseMethodDescriptor y.desc = some sig → argsL.length = sig.parameters.length) (hstack : g.stack = argsL.reverse ++ .ref a :: rest) (has : (.ref a :: argsL).toArray = as') {W : Nat} (hW : 2 * g.monitorRoom + (rest.map fun v => v.category).sum ≤ W) (hdg : decode c.code g.pc = .ok (.invokespecial index, 3))
    (hf : rm.frames + 1 ≤ R.frames) (hl : W + (maxL + 11) + rm.locals ≤ R.locals) (hc : cells + rm.cells ≤ R.cells) (hs : slots + rm.slots ≤ R.slots)
    (k : ∀ v T' L, Stand p l e R s m args below meth c T' (locs ++ L) (cells + rm.cells) (slots + rm.slots) → Q' v T'.heap L → own_End p e below P T' { g with pc := g.pc + 3, stack := v.toList ++ rest }) : own_End p e below P T g := by
  obtain ⟨v, vm1, ⟨T', L1, k1, n1⟩, -, X', ⟨L, hQ, l1, y1, z1⟩, st⟩ := X.specialBack hx (y := y) hyi hown (mvT hZ w1) (mvT hZ w2) (mvT hZ w4) hy (backOf (W := W) hM hZ w4 w3 hf hl) hg hsize (Steps.refl _) (a := a) hlen hstack hW hdg (fun _ _ => ⟨has, eT, hc, hs⟩)
  dsimp only [Pt.U, Pt.locs, Pt.cells, Pt.slots] at X' l1 y1 z1 st hQ
  subst l1 y1 z1
  exact own_via st (k v T' L X' hQ)
theorem own_callV (X : Stand p l e R s m args below meth c T locs cells slots) (hx : p.tables.exec = Jvm.exec) (hZ : Z.Warmed39 s.vm) {own : String} (hown : s.vm.findClass own = some m.cls) (eT : T.heap = h) {index : Nat} {C : String} {y z : MethodName} {bytes : ByteArray} {maxL : Nat} {ret : Option FieldType} {rm : Room} {as' : Array Value} {Q' : Option Value → Heap → List Loc → Prop}
    (w1 : (Cond.methodLink own index y).before a0 Z = true) (wd : (Cond.declares y).before a0 Z = true) (hnf : NotFace s y) (wsel : (Cond.selects C y z).before a0 Z = true) (w2 : (Cond.instanceMethod z).before a0 Z = true) (w3 : (Cond.initialized z.cls).before a0 Z = true) (w4 : (Cond.code z bytes maxL ret).before a0 Z = true) (hy : y.cls ≠ "java/lang/invoke/MethodHandle" ∧ y.cls ≠ "java/lang/invoke/VarHandle")
    (hM : own_Met l Z z bytes maxL ret [] rm as' h Q') {a : Addr} (E : Exa Z h a C) {g : JFrame} (hg : g.method = m) (hsize : g.locals.size = c.maxLocals) {argsL rest : List Value} (hlen : ∀ sig, parseMethodDescriptor y.desc = some sig → argsL.length = sig.parameters.length) (hstack : g.stack = argsL.reverse ++ .ref a :: rest) (has : (.ref a :: argsL).toArray = as') {W : Nat} (hW : 2 * g.monitorRoom + (rest.map fun v => v.category).sum ≤ W) (hdg : decode c.code g.pc = .ok (.invokevirtual index, 3))
    (hf : rm.frames + 1 ≤ R.frames) (hl : W + (maxL + 11) + rm.locals ≤ R.locals) (hc : cells + rm.cells ≤ R.cells) (hs : slots + rm.slots ≤ R.slots)
    (k : ∀ v T' L, Stand p l e R s m args below meth c T' (locs ++ L) (cells + rm.cells) (slots + rm.slots) → Q' v T'.heap L → own_End p e below P T' { g with pc := g.pc + 3, stack := v.toList ++ rest }) : own_End p e below P T g := by
  obtain ⟨cB, kB, q1, q2, q3⟩ := isOf (T := T) hZ eT E
  obtain ⟨v, vm1, ⟨T', L1, k1, n1⟩, -, X', ⟨L, hQ, l1, y1, z1⟩, st⟩ := X.virtualBack hx (y := y) (z := z) hown (mvT hZ w1) (mvT hZ wd) hnf (mvT hZ wsel) (mvT hZ w2) hy (backOf (W := W) hM hZ w4 w3 hf hl) q1 q3 hg hsize (Steps.refl _) hlen hstack hW hdg (fun _ _ => ⟨has, eT, hc, hs⟩)
  dsimp only [Pt.U, Pt.locs, Pt.cells, Pt.slots] at X' l1 y1 z1 st hQ
  subst l1 y1 z1
  exact own_via st (k v T' L X' hQ)
theorem own_selP {C : String} {x' y y' : MethodName} (wz : (Cond.selects C x' y').before args s = true) (hc : y'.cls = y.cls) (hpriv : s.PrivateAt y) (hinst : (Cond.instanceMethod y).before args s = true) (hy : y.cls ≠ "java/lang/invoke/MethodHandle" ∧ y.cls ≠ "java/lang/invoke/VarHandle") : (Cond.selects y.cls y y).before args s = true := by
  obtain ⟨_, _, m2, -, -, q3, -, kP, hkP, hkPi⟩ := Cond.selects_spec wz
  exact selects_self_of_private (by rw [← hc]; exact findClass_of_methodNamed q3) hkP hkPi hpriv hinst hy
theorem own_callP (X : Stand p l e R s m args below meth c T locs cells slots) (hx : p.tables.exec = Jvm.exec) (hZ : Z.Warmed39 s.vm) {own : String} (hown : s.vm.findClass own = some m.cls) (eT : T.heap = h) {index : Nat} {y : MethodName} {bytes : ByteArray} {maxL : Nat} {ret : Option FieldType} {rm : Room} {as' : Array Value} {Q' : Option Value → Heap → List Loc → Prop}
    (w1 : (Cond.methodLink own index y).before a0 Z = true) (w2 : (Cond.instanceMethod y).before a0 Z = true) (wsel : (Cond.selects y.cls y y).before args s = true) (wp : (Cond.privateMethod y).before a0 Z = true) (w3 : (Cond.initialized y.cls).before a0 Z = true) (w4 : (Cond.code y bytes maxL ret).before a0 Z = true) (hy : y.cls ≠ "java/lang/invoke/MethodHandle" ∧ y.cls ≠ "java/lang/invoke/VarHandle")
    (hM : own_Met l Z y bytes maxL ret [] rm as' h Q') {C : String} {a : Addr} (E : Exa Z h a C) {g : JFrame} (hg : g.method = m) (hsize : g.locals.size = c.maxLocals) {argsL rest : List Value} (hlen : ∀ sig, parseMethodDescriptor y.desc = some sig → argsL.length = sig.parameters.length) (hstack : g.stack = argsL.reverse ++ .ref a :: rest) (has : (.ref a :: argsL).toArray = as') {W : Nat} (hW : 2 * g.monitorRoom + (rest.map fun v => v.category).sum ≤ W) (hdg : decode c.code g.pc = .ok (.invokevirtual index, 3))
    (hf : rm.frames + 1 ≤ R.frames) (hl : W + (maxL + 11) + rm.locals ≤ R.locals) (hc : cells + rm.cells ≤ R.cells) (hs : slots + rm.slots ≤ R.slots)
    (k : ∀ v T' L, Stand p l e R s m args below meth c T' (locs ++ L) (cells + rm.cells) (slots + rm.slots) → Q' v T'.heap L → own_End p e below P T' { g with pc := g.pc + 3, stack := v.toList ++ rest }) : own_End p e below P T g := by
  obtain ⟨cq, q1, q2⟩ := E.cell
  obtain ⟨v, vm1, ⟨T', L1, k1, n1⟩, -, X', ⟨L, hQ, l1, y1, z1⟩, st⟩ := X.privateBack hx (y := y) hown (mvT hZ w1) (mvT hZ w2) wsel (Cond.privateMethod_at (mvP hZ wp (args := #[]))) (mvT hZ w4) hy (backOf (W := W) hM hZ w4 w3 hf hl) hg hsize (Steps.refl _) (a := a) (by rw [eT]; exact q1) q2 hlen hstack hW hdg (fun _ _ => ⟨has, eT, hc, hs⟩)
  dsimp only [Pt.U, Pt.locs, Pt.cells, Pt.slots] at X' l1 y1 z1 st hQ
  subst l1 y1 z1
  exact own_via st (k v T' L X' hQ)
end OwnSteps
/-! own: a truth as an int; comparisons of longs -/
def own_z (P : Prop) [Decidable P] : Int32 := if P then 1 else 0
section OwnTruth
variable {P : Prop} [Decidable P] {x y : Int64}
theorem own_z_t (h : P) : own_z P = 1 := if_pos h
theorem own_z_f (h : ¬ P) : own_z P = 0 := if_neg h
theorem own_z_nar : nar .boolean (own_z P) = own_z P := by unfold own_z; split <;> decide
theorem own_z_congr {P' : Prop} [Decidable P'] (h : P ↔ P') : own_z P = own_z P' := by unfold own_z; by_cases q : P <;> simp [q, h.symm, h.mp] <;> simp_all
theorem own_z_inj {P' : Prop} [Decidable P'] (h : own_z P = own_z P') : P ↔ P' := by
  unfold own_z at h; by_cases q : P <;> by_cases q' : P' <;> simp_all
theorem own_zY_eq (h : ¬ P) : ifCond.holds .eq (own_z P) = true := by rw [own_z_f h]; rfl
theorem own_zN_eq (h : P) : ifCond.holds .eq (own_z P) = false := by rw [own_z_t h]; rfl
theorem own_zY_ne (h : P) : ifCond.holds .ne (own_z P) = true := by rw [own_z_t h]; rfl
theorem own_zN_ne (h : ¬ P) : ifCond.holds .ne (own_z P) = false := by rw [own_z_f h]; rfl
theorem own_lY_lt (h : x < y) : ifCond.holds .lt (lcmpW x y) = true := (if0 _ _).trans (tlt ((lw_lt x y).mpr h)).1
theorem own_lN_lt (h : ¬ x < y) : ifCond.holds .lt (lcmpW x y) = false := (if0 _ _).trans (flt (mt (lw_lt x y).mp h)).1
theorem own_lY_ge (h : ¬ x < y) : ifCond.holds .ge (lcmpW x y) = true := (if0 _ _).trans (flt (mt (lw_lt x y).mp h)).2.1
theorem own_lN_ge (h : x < y) : ifCond.holds .ge (lcmpW x y) = false := (if0 _ _).trans (tlt ((lw_lt x y).mpr h)).2.1
theorem own_lY_gt (h : y < x) : ifCond.holds .gt (lcmpW x y) = true := (if0 _ _).trans (tlt ((lw_gt x y).mpr h)).2.2.1
theorem own_lN_gt (h : ¬ y < x) : ifCond.holds .gt (lcmpW x y) = false := (if0 _ _).trans (flt (mt (lw_gt x y).mp h)).2.2.1
theorem own_lY_le (h : ¬ y < x) : ifCond.holds .le (lcmpW x y) = true := (if0 _ _).trans (flt (mt (lw_gt x y).mp h)).2.2.2
theorem own_lN_le (h : y < x) : ifCond.holds .le (lcmpW x y) = false := (if0 _ _).trans (tlt ((lw_gt x y).mpr h)).2.2.2
theorem own_lY_eq (h : x = y) : ifCond.holds .eq (lcmpW x y) = true := (if0 _ _).trans (teq ((lw_eq x y).mpr h)).1
theorem own_lN_eq (h : ¬ x = y) : ifCond.holds .eq (lcmpW x y) = false := (if0 _ _).trans (feq (mt (lw_eq x y).mp h)).1
theorem own_lY_ne (h : ¬ x = y) : ifCond.holds .ne (lcmpW x y) = true := (if0 _ _).trans (feq (mt (lw_eq x y).mp h)).2
theorem own_lN_ne (h : x = y) : ifCond.holds .ne (lcmpW x y) = false := (if0 _ _).trans (teq ((lw_eq x y).mpr h)).2
end OwnTruth
/-! own: a callee that writes nothing -/
def own_Pq (val : Option Value) (h : Heap) : Option Value → Heap → List Loc → Prop := fun v h' L => v = val ∧ L = [] ∧ h' = h
section OwnPure
variable {p : Program} {l : Launch} {e : Env} {R : Room} {s : State} {m : MethodId} {args : Array Value} {below : List Frame} {meth : Method} {c : Code} {T : State} {locs : List Loc} {cells slots : Nat} {P : State → Outcome → Prop} {Q : Option Value → Heap → List Loc → Prop} {kc ns : Nat} {Z : State} {a0 : Array Value} {h : Heap} {f : JFrame}
theorem own_callSp (X : Stand p l e R s m args below meth c T locs cells slots) (hx : p.tables.exec = Jvm.exec) (hZ : Z.Warmed39 s.vm) {own : String} (hown : s.vm.findClass own = some m.cls) (eT : T.heap = h) {index : Nat} {y : MethodName} {bytes : ByteArray} {maxL : Nat} {ret : Option FieldType} {fr lo : Nat} {as' : Array Value} {val : Option Value}
    (w1 : (Cond.methodLink own index y).before a0 Z = true) (w2 : (Cond.static y).before a0 Z = true) (w3 : (Cond.initialized y.cls).before a0 Z = true) (w4 : (Cond.code y bytes maxL ret).before a0 Z = true) (hy : y.cls ≠ "java/lang/invoke/MethodHandle" ∧ y.cls ≠ "java/lang/invoke/VarHandle")
    (hM : own_Met l Z y bytes maxL ret [] { frames := fr, cells := 0, slots := 0, locals := lo } as' h (own_Pq val h)) {g : JFrame} (hg : g.method = m) (hsize : g.locals.size = c.maxLocals) {argsL rest : List Value} (hlen : ∀ sig, parseMethodDescriptor y.desc = some sig → argsL.length = sig.parameters.length) (hstack : g.stack = argsL.reverse ++ rest) (has : argsL.toArray = as') {W : Nat} (hW : 2 * g.monitorRoom + (rest.map fun v => v.category).sum ≤ W) (hdg : decode c.code g.pc = .ok (.invokestatic index, 3))
    (hf : fr + 1 ≤ R.frames) (hl : W + (maxL + 11) + lo ≤ R.locals) (hc : cells ≤ R.cells) (hs : slots ≤ R.slots)
    (k : ∀ T', Stand p l e R s m args below meth c T' locs cells slots → T'.heap = h → own_End p e below P T' { g with pc := g.pc + 3, stack := val.toList ++ rest }) : own_End p e below P T g :=
  own_callS X hx hZ hown eT w1 w2 w3 w4 hy hM hg hsize hlen hstack has hW hdg hf hl hc hs fun v T' L X' ⟨q1, q2, q3⟩ => by
    subst q1 q2
    rw [List.append_nil] at X'
    exact k T' X' q3
theorem own_callCp (X : Stand p l e R s m args below meth c T locs cells slots) (hx : p.tables.exec = Jvm.exec) (hZ : Z.Warmed39 s.vm) {own : String} (hown : s.vm.findClass own = some m.cls) (eT : T.heap = h) {index : Nat} {y : MethodName} {bytes : ByteArray} {maxL : Nat} {fr lo : Nat} {as' : Array Value} {val : Option Value}
    (hyi : y.name = "<init>") (w1 : (Cond.methodLink own index y).before a0 Z = true) (w2 : (Cond.instanceMethod y).before a0 Z = true) (w3 : (Cond.initialized y.cls).before a0 Z = true) (w4 : (Cond.code y bytes maxL none).before a0 Z = true) (hy : y.cls ≠ "java/lang/invoke/MethodHandle" ∧ y.cls ≠ "java/lang/invoke/VarHandle")
    (hM : own_Met l Z y bytes maxL none [] { frames := fr, cells := 0, slots := 0, locals := lo } as' h (own_Pq val h)) {g : JFrame} (hg : g.method = m) (hsize : g.locals.size = c.maxLocals) {a : Addr} {argsL rest : List Value} (hlen : ∀ sig, parseMethodDescriptor y.desc = some sig → argsL.length = sig.parameters.length) (hstack : g.stack = argsL.reverse ++ .ref a :: rest) (has : (.ref a :: argsL).toArray = as') {W : Nat} (hW : 2 * g.monitorRoom + (rest.map fun v => v.category).sum ≤ W) (hdg : decode c.code g.pc = .ok (.invokespecial index, 3))
    (hf : fr + 1 ≤ R.frames) (hl : W + (maxL + 11) + lo ≤ R.locals) (hc : cells ≤ R.cells) (hs : slots ≤ R.slots)
    (k : ∀ T', Stand p l e R s m args below meth c T' locs cells slots → T'.heap = h → own_End p e below P T' { g with pc := g.pc + 3, stack := val.toList ++ rest }) : own_End p e below P T g :=
  own_callC X hx hZ hown eT hyi w1 w2 w3 w4 hy hM hg hsize hlen hstack has hW hdg hf hl hc hs fun v T' L X' ⟨q1, q2, q3⟩ => by
    subst q1 q2
    rw [List.append_nil] at X'
    exact k T' X' q3
theorem own_callVp (X : Stand p l e R s m args below meth c T locs cells slots) (hx : p.tables.exec = Jvm.exec) (hZ : Z.Warmed39 s.vm) {own : String} (hown : s.vm.findClass own = some m.cls) (eT : T.heap = h) {index : Nat} {C : String} {y z : MethodName} {bytes : ByteArray} {maxL : Nat} {ret : Option FieldType} {fr lo : Nat} {as' : Array Value} {val : Option Value}
    (w1 : (Cond.methodLink own index y).before a0 Z = true) (wd : (Cond.declares y).before a0 Z = true) (hnf : NotFace s y) (wsel : (Cond.selects C y z).before a0 Z = true) (w2 : (Cond.instanceMethod z).before a0 Z = true) (w3 : (Cond.initialized z.cls).before a0 Z = true) (w4 : (Cond.code z bytes maxL ret).before a0 Z = true) (hy : y.cls ≠ "java/lang/invoke/MethodHandle" ∧ y.cls ≠ "java/lang/invoke/VarHandle")
    (hM : own_Met l Z z bytes maxL ret [] { frames := fr, cells := 0, slots := 0, locals := lo } as' h (own_Pq val h)) {a : Addr} (E : Exa Z h a C) {g : JFrame} (hg : g.method = m) (hsize : g.locals.size = c.maxLocals) {argsL rest : List Value} (hlen : ∀ sig, parseMethodDescriptor y.desc = some sig → argsL.length = sig.parameters.length) (hstack : g.stack = argsL.reverse ++ .ref a :: rest) (has : (.ref a :: argsL).toArray = as') {W : Nat} (hW : 2 * g.monitorRoom + (rest.map fun v => v.category).sum ≤ W) (hdg : decode c.code g.pc = .ok (.invokevirtual index, 3))
    (hf : fr + 1 ≤ R.frames) (hl : W + (maxL + 11) + lo ≤ R.locals) (hc : cells ≤ R.cells) (hs : slots ≤ R.slots)
    (k : ∀ T', Stand p l e R s m args below meth c T' locs cells slots → T'.heap = h → own_End p e below P T' { g with pc := g.pc + 3, stack := val.toList ++ rest }) : own_End p e below P T g :=
  own_callV X hx hZ hown eT w1 wd hnf wsel w2 w3 w4 hy hM E hg hsize hlen hstack has hW hdg hf hl hc hs fun v T' L X' ⟨q1, q2, q3⟩ => by
    subst q1 q2
    rw [List.append_nil] at X'
    exact k T' X' q3
theorem own_callPp (X : Stand p l e R s m args below meth c T locs cells slots) (hx : p.tables.exec = Jvm.exec) (hZ : Z.Warmed39 s.vm) {own : String} (hown : s.vm.findClass own = some m.cls) (eT : T.heap = h) {index : Nat} {y : MethodName} {bytes : ByteArray} {maxL : Nat} {ret : Option FieldType} {fr lo : Nat} {as' : Array Value} {val : Option Value}
    (w1 : (Cond.methodLink own index y).before a0 Z = true) (w2 : (Cond.instanceMethod y).before a0 Z = true) (wsel : (Cond.selects y.cls y y).before args s = true) (wp : (Cond.privateMethod y).before a0 Z = true) (w3 : (Cond.initialized y.cls).before a0 Z = true) (w4 : (Cond.code y bytes maxL ret).before a0 Z = true) (hy : y.cls ≠ "java/lang/invoke/MethodHandle" ∧ y.cls ≠ "java/lang/invoke/VarHandle")
    (hM : own_Met l Z y bytes maxL ret [] { frames := fr, cells := 0, slots := 0, locals := lo } as' h (own_Pq val h)) {C : String} {a : Addr} (E : Exa Z h a C) {g : JFrame} (hg : g.method = m) (hsize : g.locals.size = c.maxLocals) {argsL rest : List Value} (hlen : ∀ sig, parseMethodDescriptor y.desc = some sig → argsL.length = sig.parameters.length) (hstack : g.stack = argsL.reverse ++ .ref a :: rest) (has : (.ref a :: argsL).toArray = as') {W : Nat} (hW : 2 * g.monitorRoom + (rest.map fun v => v.category).sum ≤ W) (hdg : decode c.code g.pc = .ok (.invokevirtual index, 3))
    (hf : fr + 1 ≤ R.frames) (hl : W + (maxL + 11) + lo ≤ R.locals) (hc : cells ≤ R.cells) (hs : slots ≤ R.slots)
    (k : ∀ T', Stand p l e R s m args below meth c T' locs cells slots → T'.heap = h → own_End p e below P T' { g with pc := g.pc + 3, stack := val.toList ++ rest }) : own_End p e below P T g :=
  own_callP X hx hZ hown eT w1 w2 wsel wp w3 w4 hy hM E hg hsize hlen hstack has hW hdg hf hl hc hs fun v T' L X' ⟨q1, q2, q3⟩ => by
    subst q1 q2
    rw [List.append_nil] at X'
    exact k T' X' q3
end OwnPure
/-! own: a cell that is known -/
def own_K (h : Heap) (a : Addr) : Prop := ∃ cell : Cell, h[a]? = some cell ∧ cell.vm ≠ .unknown
theorem own_K_ext {h h' : Heap} {a : Addr} (K : own_K h a) (E : Ext h h') : own_K h' a := by obtain ⟨c, h1, h2⟩ := K; exact ⟨c, E.2 _ _ h1, h2⟩
theorem own_K_wr {h h' : Heap} {a b : Addr} {sl : Nat} {v : Value} (K : own_K h b) (W : Wr h h' a sl v) : own_K h' b := by
  obtain ⟨c, h1, h2⟩ := K
  obtain ⟨c', e1, -, e3, -⟩ := wr_at W h1
  exact ⟨c', e1, by rw [e3]; exact h2⟩
theorem own_K_keep {h h' : Heap} {a : Addr} {ws : List Addr} (K : own_K h a) (E : Keep h h' ws) : own_K h' a := by
  obtain ⟨c, h1, h2⟩ := K
  obtain ⟨c', e1, -, e3, -⟩ := E.2.2 _ _ h1
  exact ⟨c', e1, by rw [e3]; exact h2⟩
theorem own_K_new {h : Heap} {a : Addr} (U : ∃ cell : Cell, h[a]? = some cell ∧ cell.vm = .none ∧ cell.monitor = {}) : own_K h a := by
  obtain ⟨c, h1, h2, -⟩ := U
  exact ⟨c, h1, by rw [h2]; simp⟩
/-! own: an array of n places, place i holds f i -/
def own_A (Z : State) (h : Heap) (a : Addr) (ty : FieldType) (n : Nat) (f : Nat → Value) : Prop := ∃ c : Cell, Arr Z h a c ty ∧ c.slots.size = n ∧ n < 2147483648 ∧ ∀ i, i < n → c.slots[i]? = some (f i)
abbrev own_AJ (Z : State) (h : Heap) (a : Addr) (n : Nat) (f : Nat → Int64) : Prop := own_A Z h a .long n (fun i => .long (f i))
abbrev own_AI (Z : State) (h : Heap) (a : Addr) (n : Nat) (f : Nat → Int32) : Prop := own_A Z h a .int n (fun i => .int (f i))
abbrev own_AB (Z : State) (h : Heap) (a : Addr) (n : Nat) (f : Nat → Int32) : Prop := own_A Z h a .byte n (fun i => .int (f i))
def own_set {α : Type} (f : Nat → α) (i : Nat) (x : α) : Nat → α := fun k => if k = i then x else f k
theorem own_set_eq {α : Type} {f : Nat → α} {i k : Nat} {x : α} (h : k = i) : own_set f i x k = x := if_pos h
theorem own_set_ne {α : Type} {f : Nat → α} {i k : Nat} {x : α} (h : k ≠ i) : own_set f i x k = f k := if_neg h
section OwnArr
variable {Z : State} {h h' : Heap} {a b : Addr} {ty : FieldType} {n : Nat} {f f' : Nat → Value}
theorem own_A.lt (A : own_A Z h a ty n f) : a < h.size := by obtain ⟨c, A, -⟩ := A; exact A.lt
theorem own_A.ext (A : own_A Z h a ty n f) (E : Ext h h') : own_A Z h' a ty n f := by obtain ⟨c, A, r⟩ := A; exact ⟨c, A.ext E, r⟩
theorem own_A.other {sl : Nat} {v : Value} (A : own_A Z h b ty n f) (W : Wr h h' a sl v) (q : b ≠ a) : own_A Z h' b ty n f := by obtain ⟨c, A, r⟩ := A; exact ⟨c, A.other W q, r⟩
theorem own_A.keep {ws : List Addr} (A : own_A Z h a ty n f) (K : Keep h h' ws) (q : a ∉ ws) : own_A Z h' a ty n f := by obtain ⟨c, A, r⟩ := A; exact ⟨c, ⟨K.2.1 a c A.1 q, A.2⟩, r⟩
theorem own_A.congr (A : own_A Z h a ty n f) (q : ∀ i, i < n → f i = f' i) : own_A Z h a ty n f' := by obtain ⟨c, A, r1, r2, r3⟩ := A; exact ⟨c, A, r1, r2, fun i hi => by rw [← q i hi]; exact r3 i hi⟩
theorem own_nat {j : Int32} {i : Nat} (hj : j.toInt = (i : Int)) : j.toNatClampNeg = i := by
  show j.toInt.toNat = i
  rw [hj]; rfl
theorem own_in {c : Cell} {j : Int32} {i : Nat} (S : c.slots.size = n) (hj : j.toInt = (i : Int)) (hi : i < n) : ¬ (j < 0 ∨ c.slots.size ≤ j.toNatClampNeg) := by
  rw [own_nat hj, S, Int32.lt_iff_toInt_lt, hj, show (0 : Int32).toInt = 0 from rfl]; omega
theorem own_A_new {cA : ClassId} {z : Int32} (A : Arr Z h a (newA cA ty z) ty) (hz : z.toInt = (n : Int)) : own_A Z h a ty n (fun _ => defaultValue ty) := by
  have hn : z.toNatClampNeg = n := own_nat hz
  have hl := z.toInt_lt
  refine ⟨_, A, by rw [sz_new]; exact hn, by omega, fun i hi => ?_⟩
  simp [newA, hn, hi]
theorem own_A_set {j : Int32} {i : Nat} {v : Value} (A : own_A Z h a ty n f) (W : Wr h h' a j.toNatClampNeg v) (hj : j.toInt = (i : Int)) (hi : i < n) : own_A Z h' a ty n (own_set f i v) := by
  obtain ⟨c, A, r1, r2, r3⟩ := A
  rw [own_nat hj] at W
  refine ⟨_, A.same W, by rw [sz_set]; exact r1, r2, fun k hk => ?_⟩
  show (c.slots.setIfInBounds i v)[k]? = some (if k = i then v else f k)
  by_cases q : k = i
  · subst q; rw [if_pos rfl]; simp [r1, hi]
  · rw [if_neg q, Array.getElem?_setIfInBounds_ne (Ne.symm q)]; exact r3 k hk
end OwnArr
section OwnArrSteps
variable {p : Program} {l : Launch} {e : Env} {R : Room} {s : State} {m : MethodId} {args : Array Value} {below : List Frame} {meth : Method} {c : Code} {T : State} {locs : List Loc} {cells slots : Nat} {Z : State} {a0 : Array Value} {h : Heap} {a : Addr} {n i : Nat} {j : Int32} {g : JFrame} {rest : List Value}
theorem own_laload (X : Stand p l e R s m args below meth c T locs cells slots) (hx : p.tables.exec = Jvm.exec) (hZ : Z.Warmed39 s.vm) (eT : T.heap = h) {f : Nat → Int64} (A : own_AJ Z h a n f) (hj : j.toInt = (i : Int)) (hi : i < n) (hg : g.method = m) (hs : g.stack = .int j :: .ref a :: rest) (hd : decode c.code g.pc = .ok (.laload, 1)) :
    ∀ target, Steps p.tables e below (T.setTop { g with pc := g.pc + 1, stack := .long (f i) :: rest }) target → Steps p.tables e below (T.setTop g) target := by
  obtain ⟨cl, A, r1, r2, r3⟩ := A
  exact X.laload hx (j := j) (v := .long (f i)) (by rw [eT]; exact A.1) (State.isArrayOf_alike hZ.alike A.2.1) A.2.2 (own_in r1 hj hi) (by rw [own_nat hj]; exact r3 i hi) hg hs hd
theorem own_iaload (X : Stand p l e R s m args below meth c T locs cells slots) (hx : p.tables.exec = Jvm.exec) (hZ : Z.Warmed39 s.vm) (eT : T.heap = h) {f : Nat → Int32} (A : own_AI Z h a n f) (hj : j.toInt = (i : Int)) (hi : i < n) (hg : g.method = m) (hs : g.stack = .int j :: .ref a :: rest) (hd : decode c.code g.pc = .ok (.iaload, 1)) :
    ∀ target, Steps p.tables e below (T.setTop { g with pc := g.pc + 1, stack := .int (f i) :: rest }) target → Steps p.tables e below (T.setTop g) target := by
  obtain ⟨cl, A, r1, r2, r3⟩ := A
  exact X.iaload hx (j := j) (v := .int (f i)) (by rw [eT]; exact A.1) (State.isArrayOf_alike hZ.alike A.2.1) A.2.2 (own_in r1 hj hi) (by rw [own_nat hj]; exact r3 i hi) hg hs hd
theorem own_baload (X : Stand p l e R s m args below meth c T locs cells slots) (hx : p.tables.exec = Jvm.exec) (hZ : Z.Warmed39 s.vm) (eT : T.heap = h) {f : Nat → Int32} (A : own_AB Z h a n f) (hj : j.toInt = (i : Int)) (hi : i < n) (hg : g.method = m) (hs : g.stack = .int j :: .ref a :: rest) (hd : decode c.code g.pc = .ok (.baload, 1)) :
    ∀ target, Steps p.tables e below (T.setTop { g with pc := g.pc + 1, stack := .int (f i) :: rest }) target → Steps p.tables e below (T.setTop g) target := by
  obtain ⟨cl, A, r1, r2, r3⟩ := A
  exact X.baloadBytes hx (j := j) (v := .int (f i)) (by rw [eT]; exact A.1) (State.isArrayOf_alike hZ.alike A.2.1) A.2.2 (own_in r1 hj hi) (by rw [own_nat hj]; exact r3 i hi) hg hs hd
theorem own_length (X : Stand p l e R s m args below meth c T locs cells slots) (hx : p.tables.exec = Jvm.exec) (hZ : Z.Warmed39 s.vm) (eT : T.heap = h) {ty : FieldType} {f : Nat → Value} (A : own_A Z h a ty n f) {z : Int32} (hz : z.toInt = (n : Int)) (hg : g.method = m) (hs : g.stack = .ref a :: rest) (hd : decode c.code g.pc = .ok (.arraylength, 1)) :
    ∀ target, Steps p.tables e below (T.setTop { g with pc := g.pc + 1, stack := .int z :: rest }) target → Steps p.tables e below (T.setTop g) target := by
  obtain ⟨cl, A, r1, r2, -⟩ := A
  intro target k
  refine X.arraylength hx (by rw [eT]; exact A.1) (State.isArrayOf_alike hZ.alike A.2.1) hg hs hd _ ?_
  have q : cl.slots.size.toInt32 = z := Int32.toInt_inj.mp (by rw [r1, hz]; exact Int32.toInt_ofNat_of_lt (by omega))
  rw [q]; exact k
theorem own_lastore (X : Stand p l e R s m args below meth c T locs cells slots) (hx : p.tables.exec = Jvm.exec) (hZ : Z.Warmed39 s.vm) (eT : T.heap = h) {f : Nat → Int64} {x : Int64} (A : own_AJ Z h a n f) (hj : j.toInt = (i : Int)) (hi : i < n) (hg : g.method = m) (hs : g.stack = .long x :: .int j :: .ref a :: rest) (hd : decode c.code g.pc = .ok (.lastore, 1)) :
    ∃ T' h', Stand p l e R s m args below meth c T' (locs ++ [⟨a, j.toNatClampNeg⟩]) cells slots ∧ T'.heap = h' ∧ Wr h h' a j.toNatClampNeg (.long x) ∧ own_AJ Z h' a n (own_set f i x) ∧ ∀ target, Steps p.tables e below (T'.setTop { g with pc := g.pc + 1, stack := rest }) target → Steps p.tables e below (T.setTop g) target := by
  obtain ⟨cl, B, r1, r2, r3⟩ := A
  obtain ⟨T', h', X', e', W, st⟩ := stJ X hx hZ eT B (own_in r1 hj hi) hg hs hd
  exact ⟨T', h', X', e', W, (own_A_set ⟨cl, B, r1, r2, r3⟩ W hj hi).congr fun k _ => by unfold own_set; split <;> rfl, st⟩
theorem own_iastore (X : Stand p l e R s m args below meth c T locs cells slots) (hx : p.tables.exec = Jvm.exec) (hZ : Z.Warmed39 s.vm) (eT : T.heap = h) {f : Nat → Int32} {x : Int32} (A : own_AI Z h a n f) (hj : j.toInt = (i : Int)) (hi : i < n) (hg : g.method = m) (hs : g.stack = .int x :: .int j :: .ref a :: rest) (hd : decode c.code g.pc = .ok (.iastore, 1)) :
    ∃ T' h', Stand p l e R s m args below meth c T' (locs ++ [⟨a, j.toNatClampNeg⟩]) cells slots ∧ T'.heap = h' ∧ Wr h h' a j.toNatClampNeg (.int x) ∧ own_AI Z h' a n (own_set f i x) ∧ ∀ target, Steps p.tables e below (T'.setTop { g with pc := g.pc + 1, stack := rest }) target → Steps p.tables e below (T.setTop g) target := by
  obtain ⟨cl, B, r1, r2, r3⟩ := A
  obtain ⟨T', h', X', e', W, st⟩ := stI X hx hZ eT B (own_in r1 hj hi) hg hs hd
  exact ⟨T', h', X', e', W, (own_A_set ⟨cl, B, r1, r2, r3⟩ W hj hi).congr fun k _ => by unfold own_set; split <;> rfl, st⟩
theorem own_bastore (X : Stand p l e R s m args below meth c T locs cells slots) (hx : p.tables.exec = Jvm.exec) (hZ : Z.Warmed39 s.vm) (eT : T.heap = h) {f : Nat → Int32} {x : Int32} (A : own_AB Z h a n f) (hj : j.toInt = (i : Int)) (hi : i < n) (hg : g.method = m) (hs : g.stack = .int x :: .int j :: .ref a :: rest) (hd : decode c.code g.pc = .ok (.bastore, 1)) :
    ∃ T' h', Stand p l e R s m args below meth c T' (locs ++ [⟨a, j.toNatClampNeg⟩]) cells slots ∧ T'.heap = h' ∧ Wr h h' a j.toNatClampNeg (.int (nar .byte x)) ∧ own_AB Z h' a n (own_set f i (x.toInt8.toInt32)) ∧ ∀ target, Steps p.tables e below (T'.setTop { g with pc := g.pc + 1, stack := rest }) target → Steps p.tables e below (T.setTop g) target := by
  obtain ⟨cl, B, r1, r2, r3⟩ := A
  obtain ⟨T', h', X', e', W, st⟩ := stB X hx hZ eT B (own_in r1 hj hi) hg hs hd
  exact ⟨T', h', X', e', W, (own_A_set ⟨cl, B, r1, r2, r3⟩ W hj hi).congr fun k _ => by unfold own_set; split <;> rfl, st⟩
end OwnArrSteps

def own_lb (x : Nat) : Nat := (Int32.ofNat x &&& -(Int32.ofNat x)).toInt.toNat
def own_cov (i x : Nat) : Prop := x - own_lb x < i ∧ i ≤ x
theorem own_lb1 : ∀ x, x < 17 → 0 < x → 1 ≤ own_lb x ∧ own_lb x ≤ x ∧ (Int32.ofNat x &&& -(Int32.ofNat x)).toInt = (own_lb x : Int) := by decide +kernel
theorem own_cov1 : ∀ k, k < 17 → 0 < k → ∀ x, x < 17 → ((x - own_lb x < k ∧ k ≤ x) ↔ (x = k ∨ (x - own_lb x < k + own_lb k ∧ k + own_lb k ≤ x))) := by decide +kernel
theorem own_of {i : Int32} {k : Nat} (h : i.toInt = (k : Int)) : i = Int32.ofNat k := by
  apply Int32.toInt_inj.mp
  have := i.toInt_lt
  rw [Int32.toInt_ofNat_of_lt (by omega)]; exact h
theorem own_lbi {i : Int32} {k : Nat} (h : i.toInt = (k : Int)) (h0 : 0 < k) (h1 : k < 17) : (i &&& (-i)).toInt = (own_lb k : Int) := by
  rw [own_of h]; exact (own_lb1 k h1 h0).2.2
def own_ite (P : Prop) [Decidable P] (c : Int32) : Int32 := if P then c else 0
def own_add (f : Nat → Int32) (i : Nat) (c : Int32) : Nat → Int32 := fun x => f x + own_ite (x - own_lb x < i ∧ i ≤ x) c
theorem own_up {i : Int32} {k : Nat} (h : i.toInt = (k : Int)) (h0 : 0 < k) (h1 : k < 17) : (i + (i &&& (-i))).toInt = ((k + own_lb k : Nat) : Int) ∧ k < k + own_lb k ∧ k + own_lb k ≤ 32 := by
  have e := own_lbi h h0 h1
  have b := own_lb1 k h1 h0
  refine ⟨?_, by omega, by omega⟩
  rw [Jvm.Kit.i32_add (by omega) (by omega), e, h]; omega
theorem own_dn {i : Int32} {k : Nat} (h : i.toInt = (k : Int)) (h0 : 0 < k) (h1 : k < 17) : (i - (i &&& (-i))).toInt = ((k - own_lb k : Nat) : Int) ∧ k - own_lb k < k := by
  have e := own_lbi h h0 h1
  have b := own_lb1 k h1 h0
  refine ⟨?_, by omega⟩
  rw [Jvm.Kit.i32_sub (by omega) (by omega), e, h]; omega
theorem own_turn {f : Nat → Int32} {k : Nat} {c : Int32} (h0 : 0 < k) (h1 : k < 17) (x : Nat) (hx : x < 17) : own_add (own_set f k (f k + c)) (k + own_lb k) c x = own_add f k c x := by
  unfold own_add own_ite
  have q := own_cov1 k h1 h0 x hx
  have b := own_lb1 k h1 h0
  by_cases e : x = k
  · subst e
    rw [own_set_eq rfl, if_pos (q.mpr (Or.inl rfl)), if_neg (by omega), Int32.add_zero]
  · rw [own_set_ne e]
    by_cases r : x - own_lb x < k + own_lb k ∧ k + own_lb k ≤ x
    · rw [if_pos r, if_pos (q.mpr (Or.inr r))]
    · rw [if_neg r, if_neg (fun z => (q.mp z).elim e r)]
theorem own_done {f : Nat → Int32} {k x : Nat} {c : Int32} (h : x < k) : own_add f k c x = f x := by
  unfold own_add own_ite
  rw [if_neg (by omega), Int32.add_zero]
def own_cb (a b : Nat) (c d : Int32) (q : Nat) : Int32 := own_ite (0 < a ∧ a ≤ q) c + own_ite (0 < b ∧ b ≤ q) d
theorem own_cb1 {k : Nat} (a : Nat) (c : Int32) (h0 : 0 < k) (h1 : k < 17) (ha : 0 < a) : own_ite (0 < a ∧ a ≤ k) c = own_ite (k - own_lb k < a ∧ a ≤ k) c + own_ite (0 < a ∧ a ≤ k - own_lb k) c := by
  have b := own_lb1 k h1 h0
  unfold own_ite
  by_cases q : a ≤ k
  · rw [if_pos ⟨ha, q⟩]
    by_cases r : k - own_lb k < a
    · rw [if_pos ⟨r, q⟩, if_neg (by omega), Int32.add_zero]
    · rw [if_neg (by omega), if_pos ⟨ha, by omega⟩, Int32.zero_add]
  · rw [if_neg (by omega), if_neg (by omega), if_neg (by omega)]; rfl
theorem own_add4 (a b c d : Int32) : (a + b) + (c + d) = (a + c) + (b + d) := by rw [Int32.add_assoc, ← Int32.add_assoc b, Int32.add_comm b c, Int32.add_assoc c, ← Int32.add_assoc a]
theorem own_cb2 {f : Nat → Int32} {a b k : Nat} {c d : Int32} (h0 : 0 < k) (h1 : k < 17) (ha : 0 < a) (hb : 0 < b) (hf : f k = own_add (own_add (fun _ => 0) a c) b d k) : f k + own_cb a b c d (k - own_lb k) = own_cb a b c d k := by
  rw [hf]
  unfold own_add own_cb
  rw [Int32.zero_add, own_add4, ← own_cb1 a c h0 h1 ha, ← own_cb1 b d h0 h1 hb]
theorem own_cb0 (a b : Nat) (c d : Int32) : own_cb a b c d 0 = 0 := by
  unfold own_cb own_ite
  rw [if_neg (by omega), if_neg (by omega)]; rfl
def own_exp (a b c d q : Int32) : Int32 := if a < q then (if b < q then (((0 : Int32) + c) + d) else ((0 : Int32) + c)) else (if b < q then ((0 : Int32) + d) else (0 : Int32))
theorem own_nn {x nn : Int32} (h : nn = ((x &&& (15 : Int32)) + (1 : Int32))) : 1 ≤ nn.toInt ∧ nn.toInt ≤ 16 := by
  have e := Jvm.Kit.i32_mask x 15 (k := 4) (by decide) (by decide)
  have o : (1 : Int32).toInt = 1 := rfl
  have e2 : ((x &&& 15) + 1).toInt = (x &&& 15).toInt + 1 := by rw [Jvm.Kit.i32_add] <;> rw [o] <;> omega
  rw [← h] at e2
  omega
theorem own_nn1 {nn : Int32} (h : 1 ≤ nn.toInt ∧ nn.toInt ≤ 16) : (nn + (1 : Int32)).toInt = nn.toInt + 1 := by
  have o : (1 : Int32).toInt = 1 := rfl
  rw [Jvm.Kit.i32_add] <;> rw [o] <;> omega
theorem own_nz {nn : Int32} (h : 1 ≤ nn.toInt) : ¬ nn = (0 : Int32) := fun q => by rw [q, show (0 : Int32).toInt = 0 from rfl] at h; omega
theorem own_len {nn : Int32} (h : 1 ≤ nn.toInt ∧ nn.toInt ≤ 16) : (nn + (1 : Int32)).toInt = ((nn.toInt.toNat + 1 : Nat) : Int) := by rw [own_nn1 h]; omega
theorem own_neg {z : Int32} (h : 0 ≤ z.toInt) : ¬ z < (0 : Int32) := by rw [Int32.lt_iff_toInt_lt, show (0 : Int32).toInt = 0 from rfl]; omega
theorem own_rm {y z v : Int32} (h : v = ((y &&& (255 : Int32)) % z)) (hz : 1 ≤ z.toInt) : 0 ≤ v.toInt ∧ v.toInt < z.toInt := by
  have e := Jvm.Kit.i32_mask y 255 (k := 8) (by decide) (by decide)
  have e2 : ((y &&& 255) % z).toInt = (y &&& 255).toInt % z.toInt := Jvm.Kit.i32_rem_nonneg (by omega)
  rw [← h] at e2
  rw [e2]
  exact ⟨Int.emod_nonneg _ (by omega), Int.emod_lt_of_pos _ (by omega)⟩
theorem own_cbx {a b q : Int32} {c d : Int32} (ha : 0 ≤ a.toInt) (hb : 0 ≤ b.toInt) (hq : 0 ≤ q.toInt) : own_cb (a.toInt.toNat + 1) (b.toInt.toNat + 1) c d q.toInt.toNat = own_exp a b c d q := by
  have e1 : (0 < a.toInt.toNat + 1 ∧ a.toInt.toNat + 1 ≤ q.toInt.toNat) ↔ a < q := by rw [Int32.lt_iff_toInt_lt]; omega
  have e2 : (0 < b.toInt.toNat + 1 ∧ b.toInt.toNat + 1 ≤ q.toInt.toNat) ↔ b < q := by rw [Int32.lt_iff_toInt_lt]; omega
  unfold own_cb own_exp own_ite
  simp only [e1, e2]
  by_cases p1 : a < q <;> by_cases p2 : b < q <;> simp [p1, p2]
theorem own_tot {a b n : Int32} {c d : Int32} (ha : 0 ≤ a.toInt ∧ a.toInt < n.toInt) (hb : 0 ≤ b.toInt ∧ b.toInt < n.toInt) : own_cb (a.toInt.toNat + 1) (b.toInt.toNat + 1) c d n.toInt.toNat = (c + d) := by
  rw [own_cbx ha.1 hb.1 (by omega)]
  unfold own_exp
  rw [if_pos (Int32.lt_iff_toInt_lt.mpr ha.2), if_pos (Int32.lt_iff_toInt_lt.mpr hb.2), Int32.zero_add]
theorem own_ltz {i : Int32} {k : Nat} (h : i.toInt = (k : Int)) : (0 : Int32) < i ↔ 0 < k := by rw [Int32.lt_iff_toInt_lt, show (0 : Int32).toInt = 0 from rfl]; omega
theorem own_ltn {i z : Int32} {k n : Nat} (h : i.toInt = (k : Int)) (hz : z.toInt = (n : Int)) : i < z ↔ k < n := by rw [Int32.lt_iff_toInt_lt]; omega

theorem pn_0 : plainName "com/example/humble_grid/humblegrid/RowCounts" = true := by first | (simp [plainName, overriddenIn]; done) | decide +kernel
theorem d1_0 : decode prog_83_method_1_code 0 = .ok (.aload_n 0, 1) := by decide +kernel
theorem d1_1 : decode prog_83_method_1_code 1 = .ok (.invokespecial 1, 3) := by decide +kernel
theorem d1_4 : decode prog_83_method_1_code 4 = .ok (.aload_n 0, 1) := by decide +kernel
theorem d1_5 : decode prog_83_method_1_code 5 = .ok (.iload_n 1, 1) := by decide +kernel
theorem d1_6 : decode prog_83_method_1_code 6 = .ok (.iconst 1, 1) := by decide +kernel
theorem d1_7 : decode prog_83_method_1_code 7 = .ok (.iadd, 1) := by decide +kernel
theorem d1_8 : decode prog_83_method_1_code 8 = .ok (.newarray .int, 2) := by decide +kernel
theorem d1_10 : decode prog_83_method_1_code 10 = .ok (.putfield 7, 3) := by decide +kernel
theorem d1_13 : decode prog_83_method_1_code 13 = .ok (.return_, 1) := by decide +kernel
set_option maxRecDepth 65536 in
set_option maxHeartbeats 4000000 in
theorem ef_1 (m : MethodId) (a0 : Addr) (p1 : Int32) : entryFrame m #[(.ref a0), (.int p1)] 2 = mkF m 0 #[.val (.ref a0), .val (.int p1)] [] := by first | (simp [entryFrame, mkF, argsToLocals, Value.category]; done) | rfl
set_option maxRecDepth 65536 in
set_option maxHeartbeats 40000000 in
theorem rm1 (l : Launch) (Z : State) (aw : Array Value) (hw : ∀ d ∈ tables_1, d.before aw Z = true) {ws : List Jvm.Cond} (a0 : Addr) (p1 : Int32)  (h0 : Heap) (n0 : Nat) (Z0 : n0 ≤ h0.size) (E_a0 : Exa Z h0 a0 "com/example/humble_grid/humblegrid/RowCounts") (K_a0 : own_K h0 a0) (g_a0 : n0 ≤ a0) (hp : 1 ≤ p1.toInt ∧ p1.toInt ≤ 16) :
    own_Met l Z (⟨"com/example/humble_grid/humblegrid/RowCounts", "<init>", "(I)V"⟩ : MethodName) prog_83_method_1_code 2 none ws ({ frames := 1, cells := 1, slots := 17, locals := 12 } : Room) #[(.ref a0), (.int p1)] h0 (fun v h L => v = none ∧ Fr n0 L ∧ Keep h0 h [a0] ∧ Exa Z h a0 "com/example/humble_grid/humblegrid/RowCounts" ∧ ∃ r, n0 ≤ r ∧ h0.size ≤ r ∧ Fld Z h a0 "com/example/humble_grid/humblegrid/RowCounts" "tree" "[I" (.ref r) ∧ own_AI Z h r (p1.toInt.toNat + 1) (fun _ => (0 : Int32))) := by
  refine own_body (plainFor_of_name pn_0) ?_
  intro p e s m below meth c s₁ hx hZ hby hml hown hnm hret hlk X0 e0
  replace hown : s.vm.findClass "com/example/humble_grid/humblegrid/RowCounts" = some m.cls := hown
  replace hml : c.maxLocals = 2 := hml
  have N0 := Fr.nil n0
  have K0 := Keep.refl h0 [a0]
  obtain ⟨P, hP⟩ : ∃ P, P = own_P below s (fun v h L => v = none ∧ Fr n0 L ∧ Keep h0 h [a0] ∧ Exa Z h a0 "com/example/humble_grid/humblegrid/RowCounts" ∧ ∃ r, n0 ≤ r ∧ h0.size ≤ r ∧ Fld Z h a0 "com/example/humble_grid/humblegrid/RowCounts" "tree" "[I" (.ref r) ∧ own_AI Z h r (p1.toInt.toNat + 1) (fun _ => (0 : Int32))) ({ frames := 1, cells := 1, slots := 17, locals := 12 } : Room).cells ({ frames := 1, cells := 1, slots := 17, locals := 12 } : Room).slots := ⟨_, rfl⟩
  rw [← hP]
  refine own_cast (ef_1 m a0 p1) ?_
  refine own_go (T' := s₁) (f' := (mkF m 1 #[.val (.ref a0), .val (.int p1)] [(.ref a0)])) (fun t kt => ?_) ?_
  · show Steps p.tables e below (s₁.setTop (mkF m 0 #[.val (.ref a0), .val (.int p1)] [])) t
    refine XS.aloadN X0.here hx rfl (hb hby d1_0) rfl rfl ?_
    show Steps p.tables e below (s₁.setTop (mkF m 1 #[.val (.ref a0), .val (.int p1)] [(.ref a0)])) t
    exact kt
  obtain ⟨T1, X1, e1, st1⟩ := initO X0 hx hZ hown (hw _ (List.mem_of_getElem? (i := 6) rfl)) (hw _ (List.mem_of_getElem? (i := 7) rfl)) (hw _ (List.mem_of_getElem? (i := 8) rfl)) e0 (g := (mkF m 1 #[.val (.ref a0), .val (.int p1)] [(.ref a0)])) rfl (by rw [hml]; rfl) rfl (hb hby d1_1) (by decide) (W := 0) (by show 2 * 0 + _ ≤ _; exact Nat.le_of_eq rfl) (by decide)
  refine own_go st1 ?_
  refine own_go (T' := T1) (f' := (mkF m 8 #[.val (.ref a0), .val (.int p1)] [(.int (p1 + (1 : Int32))), (.ref a0)])) (fun t kt => ?_) ?_
  · show Steps p.tables e below (T1.setTop (mkF m 4 #[.val (.ref a0), .val (.int p1)] [])) t
    refine XS.aloadN X1.here hx rfl (hb hby d1_4) rfl rfl ?_
    show Steps p.tables e below (T1.setTop (mkF m 5 #[.val (.ref a0), .val (.int p1)] [(.ref a0)])) t
    refine XS.iloadN X1.here hx rfl (hb hby d1_5) rfl ?_
    show Steps p.tables e below (T1.setTop (mkF m 6 #[.val (.ref a0), .val (.int p1)] [(.int p1), (.ref a0)])) t
    refine XS.iconst X1.here hx rfl (hb hby d1_6) ?_
    show Steps p.tables e below (T1.setTop (mkF m 7 #[.val (.ref a0), .val (.int p1)] [(.int (1 : Int32)), (.int p1), (.ref a0)])) t
    refine XS.iadd X1.here hx rfl (hb hby d1_7) rfl ?_
    show Steps p.tables e below (T1.setTop (mkF m 8 #[.val (.ref a0), .val (.int p1)] [(.int (p1 + (1 : Int32))), (.ref a0)])) t
    exact kt
  obtain ⟨T2, h2, k2, X2, e2, E2, A2, st2⟩ := newP X1 hx hZ (hw _ (List.mem_of_getElem? (i := 9) rfl)) e1 (g := (mkF m 8 #[.val (.ref a0), .val (.int p1)] [(.int (p1 + (1 : Int32))), (.ref a0)])) rfl (hb hby d1_8) rfl (own_neg (by rw [own_nn1 hp]; omega)) (cap := 17) (by rw [own_nat (own_len hp)]; omega) (by decide) (by decide) (by decide)
  obtain ⟨b2, y2⟩ : ∃ z, z = h0.size := ⟨_, rfl⟩
  rw [← y2] at A2 st2
  have ne_a0_b2 : a0 ≠ b2 := Nat.ne_of_lt (Nat.lt_of_lt_of_le E_a0.lt (Nat.le_of_eq y2.symm))
  have ne_b2_a0 := ne_a0_b2.symm
  have g_b2 : n0 ≤ b2 := Nat.le_trans Z0 (Nat.le_of_eq y2.symm)
  have sz_b2 : h0.size ≤ b2 := Nat.le_trans K0.1 (Nat.le_of_eq y2.symm)
  replace E_a0 := (E_a0.ext E2)
  replace K_a0 := own_K_ext K_a0 E2
  have ZE2 : n0 ≤ h2.size := Nat.le_trans Z0 E2.1
  have KKE2 := K0.ext E2
  refine own_go st2 ?_
  have Ar_b2 : own_AI Z h2 b2 (p1.toInt.toNat + 1) (fun _ => (0 : Int32)) := own_A_new A2 (own_len hp)
  obtain ⟨uv3, F3_tree⟩ := fld_laid E_a0 K_a0 (hw _ (List.mem_of_getElem? (i := 1) rfl)) (Or.inr (hw _ (List.mem_of_getElem? (i := 11) rfl)))
  obtain ⟨T3, h3, X3, e3, W3, st3⟩ := putF X2 hx hZ hown (host := "") (Or.inl (hw _ (List.mem_of_getElem? (i := 10) rfl))) Via.refl e2 F3_tree E_a0 (Or.inr ⟨(hw _ (List.mem_of_getElem? (i := 11) rfl)), rfl, hnm⟩) (hw _ (List.mem_of_getElem? (i := 1) rfl)) (ty := (.array .int)) (by decide) rfl rfl (g := (mkF m 10 #[.val (.ref a0), .val (.int p1)] [(.ref b2), (.ref a0)])) rfl rfl (hb hby d1_10)
  refine own_go st3 ?_
  replace E_a0 := (E_a0.wr W3)
  replace Ar_b2 := (Ar_b2.other W3 (ne_b2_a0))
  replace F3_tree := (F3_tree.same W3)
  replace K_a0 := own_K_wr K_a0 W3
  have N3 := Fr.snoc X3 N0 g_a0
  have Z3 : n0 ≤ h3.size := Nat.le_trans ZE2 (Keep.of_wr W3).1
  have KK3 := KKE2.wr W3 (Or.inl (by simp))
  exact own_retV X3 hP hx hlk e3 hret (hb hby d1_13) (by decide) (by decide) ⟨rfl, N3, KK3, E_a0, ⟨_, g_b2, sz_b2, F3_tree, Ar_b2⟩⟩
theorem d3_0 : decode prog_83_method_2_code 0 = .ok (.iload_n 1, 1) := by decide +kernel
theorem d3_1 : decode prog_83_method_2_code 1 = .ok (.iconst 1, 1) := by decide +kernel
theorem d3_2 : decode prog_83_method_2_code 2 = .ok (.iadd, 1) := by decide +kernel
theorem d3_3 : decode prog_83_method_2_code 3 = .ok (.istore_n 3, 1) := by decide +kernel
theorem d3_4 : decode prog_83_method_2_code 4 = .ok (.iload_n 3, 1) := by decide +kernel
theorem d3_5 : decode prog_83_method_2_code 5 = .ok (.aload_n 0, 1) := by decide +kernel
theorem d3_6 : decode prog_83_method_2_code 6 = .ok (.getfield 7, 3) := by decide +kernel
theorem d3_9 : decode prog_83_method_2_code 9 = .ok (.arraylength, 1) := by decide +kernel
theorem d3_10 : decode prog_83_method_2_code 10 = .ok (.if_icmp .ge 23, 3) := by decide +kernel
theorem d3_13 : decode prog_83_method_2_code 13 = .ok (.aload_n 0, 1) := by decide +kernel
theorem d3_14 : decode prog_83_method_2_code 14 = .ok (.getfield 7, 3) := by decide +kernel
theorem d3_17 : decode prog_83_method_2_code 17 = .ok (.iload_n 3, 1) := by decide +kernel
theorem d3_18 : decode prog_83_method_2_code 18 = .ok (.dup2, 1) := by decide +kernel
theorem d3_19 : decode prog_83_method_2_code 19 = .ok (.iaload, 1) := by decide +kernel
theorem d3_20 : decode prog_83_method_2_code 20 = .ok (.iload_n 2, 1) := by decide +kernel
theorem d3_21 : decode prog_83_method_2_code 21 = .ok (.iadd, 1) := by decide +kernel
theorem d3_22 : decode prog_83_method_2_code 22 = .ok (.iastore, 1) := by decide +kernel
theorem d3_23 : decode prog_83_method_2_code 23 = .ok (.iload_n 3, 1) := by decide +kernel
theorem d3_24 : decode prog_83_method_2_code 24 = .ok (.iload_n 3, 1) := by decide +kernel
theorem d3_25 : decode prog_83_method_2_code 25 = .ok (.iload_n 3, 1) := by decide +kernel
theorem d3_26 : decode prog_83_method_2_code 26 = .ok (.ineg, 1) := by decide +kernel
theorem d3_27 : decode prog_83_method_2_code 27 = .ok (.iand, 1) := by decide +kernel
theorem d3_28 : decode prog_83_method_2_code 28 = .ok (.iadd, 1) := by decide +kernel
theorem d3_29 : decode prog_83_method_2_code 29 = .ok (.istore_n 3, 1) := by decide +kernel
theorem d3_30 : decode prog_83_method_2_code 30 = .ok (.goto (-26), 3) := by decide +kernel
theorem d3_33 : decode prog_83_method_2_code 33 = .ok (.return_, 1) := by decide +kernel
set_option maxRecDepth 65536 in
set_option maxHeartbeats 4000000 in
theorem ef_3 (m : MethodId) (a0 : Addr) (p1 : Int32) (p2 : Int32) : entryFrame m #[(.ref a0), (.int p1), (.int p2)] 4 = mkF m 0 #[.val (.ref a0), .val (.int p1), .val (.int p2), .unset] [] := by first | (simp [entryFrame, mkF, argsToLocals, Value.category]; done) | rfl
set_option maxRecDepth 65536 in
set_option maxHeartbeats 40000000 in
theorem rm3 (l : Launch) (Z : State) (aw : Array Value) (hw : ∀ d ∈ tables_1, d.before aw Z = true) {ws : List Jvm.Cond} (a0 : Addr) (p1 : Int32) (p2 : Int32) (w0 : Addr) (n : Nat) (f : Nat → Int32) (i : Nat) (z : Int32) (h0 : Heap) (n0 : Nat) (Z0 : n0 ≤ h0.size) (F_a0_tree : Fld Z h0 a0 "com/example/humble_grid/humblegrid/RowCounts" "tree" "[I" (.ref w0)) (Ar_w0 : own_AI Z h0 w0 n f) (g_w0 : n0 ≤ w0) (hi : p1.toInt + 1 = (i : Int)) (h0i : 0 < i) (hi16 : i ≤ 16) (hn : n ≤ 17) (hz : z.toInt = (n : Int)) (ne_a0_w0 : a0 ≠ w0) :
    own_Met l Z (⟨"com/example/humble_grid/humblegrid/RowCounts", "add", "(II)V"⟩ : MethodName) prog_83_method_2_code 4 none ws ({ frames := 0, cells := 0, slots := 0, locals := 0 } : Room) #[(.ref a0), (.int p1), (.int p2)] h0 (fun v h L => v = none ∧ Fr n0 L ∧ Keep h0 h [w0] ∧ own_AI Z h w0 n (own_add f i p2)) := by
  refine own_body (plainFor_of_name pn_0) ?_
  intro p e s m below meth c s₁ hx hZ hby hml hown hnm hret hlk X0 e0
  replace hown : s.vm.findClass "com/example/humble_grid/humblegrid/RowCounts" = some m.cls := hown
  replace hml : c.maxLocals = 4 := hml
  have N0 := Fr.nil n0
  have K0 := Keep.refl h0 [w0]
  obtain ⟨P, hP⟩ : ∃ P, P = own_P below s (fun v h L => v = none ∧ Fr n0 L ∧ Keep h0 h [w0] ∧ own_AI Z h w0 n (own_add f i p2)) ({ frames := 0, cells := 0, slots := 0, locals := 0 } : Room).cells ({ frames := 0, cells := 0, slots := 0, locals := 0 } : Room).slots := ⟨_, rfl⟩
  rw [← hP]
  refine own_cast (ef_3 m a0 p1 p2) ?_
  refine own_go (T' := s₁) (f' := (mkF m 4 #[.val (.ref a0), .val (.int p1), .val (.int p2), .val (.int (p1 + (1 : Int32)))] [])) (fun t kt => ?_) ?_
  · show Steps p.tables e below (s₁.setTop (mkF m 0 #[.val (.ref a0), .val (.int p1), .val (.int p2), .unset] [])) t
    refine XS.iloadN X0.here hx rfl (hb hby d3_0) rfl ?_
    show Steps p.tables e below (s₁.setTop (mkF m 1 #[.val (.ref a0), .val (.int p1), .val (.int p2), .unset] [(.int p1)])) t
    refine XS.iconst X0.here hx rfl (hb hby d3_1) ?_
    show Steps p.tables e below (s₁.setTop (mkF m 2 #[.val (.ref a0), .val (.int p1), .val (.int p2), .unset] [(.int (1 : Int32)), (.int p1)])) t
    refine XS.iadd X0.here hx rfl (hb hby d3_2) rfl ?_
    show Steps p.tables e below (s₁.setTop (mkF m 3 #[.val (.ref a0), .val (.int p1), .val (.int p2), .unset] [(.int (p1 + (1 : Int32)))])) t
    refine XS.istoreN X0.here hx rfl (hb hby d3_3) rfl (l' := #[.val (.ref a0), .val (.int p1), .val (.int p2), .val (.int (p1 + (1 : Int32)))]) rfl ?_
    show Steps p.tables e below (s₁.setTop (mkF m 4 #[.val (.ref a0), .val (.int p1), .val (.int p2), .val (.int (p1 + (1 : Int32)))] [])) t
    exact kt
  have J4 : ∀ (mk : Nat) (Tj1 : State) (lj1 : List Loc) (hj1 : Heap) (fj : Nat → Int32) (ii : Int32) (kk : Nat) (Xj1 : Stand p l e ({ frames := 0, cells := 0, slots := 0, locals := 0 } : Room) s m #[(.ref a0), (.int p1), (.int p2)] below meth c Tj1 lj1 0 0) (Nj1 : Fr n0 lj1) (ej1 : Tj1.heap = hj1) (Zj1 : n0 ≤ hj1.size) (Kj1 : Keep h0 hj1 [w0]) (fj1_0 : Fld Z hj1 a0 "com/example/humble_grid/humblegrid/RowCounts" "tree" "[I" (.ref w0)) (fj1_1 : own_AI Z hj1 w0 n fj) (hii : ii.toInt = (kk : Int)) (h0k : 0 < kk) (hF : ∀ x, x < n → own_add fj kk p2 x = own_add f i p2 x) (hmk : mk = n - kk), own_End p e below P Tj1 (mkF m 4 #[.val (.ref a0), .val (.int p1), .val (.int p2), .val (.int ii)] []) := by
    intro mk
    induction mk using Nat.strongRecOn with
    | _ mk IHJ4 =>
    intro Tj1 lj1 hj1 fj ii kk Xj1 Nj1 ej1 Zj1 Kj1 fj1_0 fj1_1 hii h0k hF hmk
    refine own_go (T' := Tj1) (f' := (mkF m 6 #[.val (.ref a0), .val (.int p1), .val (.int p2), .val (.int ii)] [(.ref a0), (.int ii)])) (fun t kt => ?_) ?_
    · show Steps p.tables e below (Tj1.setTop (mkF m 4 #[.val (.ref a0), .val (.int p1), .val (.int p2), .val (.int ii)] [])) t
      refine XS.iloadN Xj1.here hx rfl (hb hby d3_4) rfl ?_
      show Steps p.tables e below (Tj1.setTop (mkF m 5 #[.val (.ref a0), .val (.int p1), .val (.int p2), .val (.int ii)] [(.int ii)])) t
      refine XS.aloadN Xj1.here hx rfl (hb hby d3_5) rfl rfl ?_
      show Steps p.tables e below (Tj1.setTop (mkF m 6 #[.val (.ref a0), .val (.int p1), .val (.int p2), .val (.int ii)] [(.ref a0), (.int ii)])) t
      exact kt
    obtain ⟨T2, X2, e2, st2⟩ := getF Xj1 hx hZ hown (host := "") (Or.inl (hw _ (List.mem_of_getElem? (i := 10) rfl))) Via.refl ej1 fj1_0 (g := (mkF m 6 #[.val (.ref a0), .val (.int p1), .val (.int p2), .val (.int ii)] [(.ref a0), (.int ii)])) rfl rfl (hb hby d3_6)
    refine own_go st2 ?_
    have st3 := own_length X2 hx hZ e2 fj1_1 (z := z) hz (g := (mkF m 9 #[.val (.ref a0), .val (.int p1), .val (.int p2), .val (.int ii)] [(.ref w0), (.int ii)])) rfl rfl (hb hby d3_9)
    refine own_go st3 ?_
    by_cases hc10_4 : ii < z
    · refine own_go (T' := T2) (f' := (mkF m 14 #[.val (.ref a0), .val (.int p1), .val (.int p2), .val (.int ii)] [(.ref a0)])) (fun t kt => ?_) ?_
      · show Steps p.tables e below (T2.setTop (mkF m 10 #[.val (.ref a0), .val (.int p1), .val (.int p2), .val (.int ii)] [(.int z), (.int ii)])) t
        refine XS.icmpNo X2.here hx rfl (hb hby d3_10) rfl (tlt hc10_4).2.1 ?_
        show Steps p.tables e below (T2.setTop (mkF m 13 #[.val (.ref a0), .val (.int p1), .val (.int p2), .val (.int ii)] [])) t
        refine XS.aloadN X2.here hx rfl (hb hby d3_13) rfl rfl ?_
        show Steps p.tables e below (T2.setTop (mkF m 14 #[.val (.ref a0), .val (.int p1), .val (.int p2), .val (.int ii)] [(.ref a0)])) t
        exact kt
      obtain ⟨T5, X5, e5, st5⟩ := getF X2 hx hZ hown (host := "") (Or.inl (hw _ (List.mem_of_getElem? (i := 10) rfl))) Via.refl e2 fj1_0 (g := (mkF m 14 #[.val (.ref a0), .val (.int p1), .val (.int p2), .val (.int ii)] [(.ref a0)])) rfl rfl (hb hby d3_14)
      refine own_go st5 ?_
      refine own_go (T' := T5) (f' := (mkF m 22 #[.val (.ref a0), .val (.int p1), .val (.int p2), .val (.int ii)] [(.int ((fj kk) + p2)), (.int ii), (.ref w0)])) (fun t kt => ?_) ?_
      · show Steps p.tables e below (T5.setTop (mkF m 17 #[.val (.ref a0), .val (.int p1), .val (.int p2), .val (.int ii)] [(.ref w0)])) t
        refine XS.iloadN X5.here hx rfl (hb hby d3_17) rfl ?_
        show Steps p.tables e below (T5.setTop (mkF m 18 #[.val (.ref a0), .val (.int p1), .val (.int p2), .val (.int ii)] [(.int ii), (.ref w0)])) t
        jvm_step X5.here [X5.here.top, hx, (hb hby d3_18), Value.category]
        show Steps p.tables e below (T5.setTop (mkF m 19 #[.val (.ref a0), .val (.int p1), .val (.int p2), .val (.int ii)] [(.int ii), (.ref w0), (.int ii), (.ref w0)])) t
        refine own_iaload X5 hx hZ e5 fj1_1 (i := kk) hii ((own_ltn hii hz).mp hc10_4) (g := (mkF m 19 #[.val (.ref a0), .val (.int p1), .val (.int p2), .val (.int ii)] [(.int ii), (.ref w0), (.int ii), (.ref w0)])) rfl rfl (hb hby d3_19) _ ?_
        show Steps p.tables e below (T5.setTop (mkF m 20 #[.val (.ref a0), .val (.int p1), .val (.int p2), .val (.int ii)] [(.int (fj kk)), (.int ii), (.ref w0)])) t
        refine XS.iloadN X5.here hx rfl (hb hby d3_20) rfl ?_
        show Steps p.tables e below (T5.setTop (mkF m 21 #[.val (.ref a0), .val (.int p1), .val (.int p2), .val (.int ii)] [(.int p2), (.int (fj kk)), (.int ii), (.ref w0)])) t
        refine XS.iadd X5.here hx rfl (hb hby d3_21) rfl ?_
        show Steps p.tables e below (T5.setTop (mkF m 22 #[.val (.ref a0), .val (.int p1), .val (.int p2), .val (.int ii)] [(.int ((fj kk) + p2)), (.int ii), (.ref w0)])) t
        exact kt
      obtain ⟨T6, h6, X6, e6, W6, B6, st6⟩ := own_iastore X5 hx hZ e5 fj1_1 (i := kk) hii ((own_ltn hii hz).mp hc10_4) (g := (mkF m 22 #[.val (.ref a0), .val (.int p1), .val (.int p2), .val (.int ii)] [(.int ((fj kk) + p2)), (.int ii), (.ref w0)])) rfl rfl (hb hby d3_22)
      refine own_go st6 ?_
      replace fj1_0 := (fj1_0.other W6 (Or.inl (ne_a0_w0)))
      have N6 := Fr.snoc X6 Nj1 g_w0
      have Z6 : n0 ≤ h6.size := Nat.le_trans Zj1 (Keep.of_wr W6).1
      have KK6 := Kj1.wr W6 (Or.inl (by simp))
      refine own_go (T' := T6) (f' := (mkF m 4 #[.val (.ref a0), .val (.int p1), .val (.int p2), .val (.int (ii + (ii &&& (-ii))))] [])) (fun t kt => ?_) ?_
      · show Steps p.tables e below (T6.setTop (mkF m 23 #[.val (.ref a0), .val (.int p1), .val (.int p2), .val (.int ii)] [])) t
        refine XS.iloadN X6.here hx rfl (hb hby d3_23) rfl ?_
        show Steps p.tables e below (T6.setTop (mkF m 24 #[.val (.ref a0), .val (.int p1), .val (.int p2), .val (.int ii)] [(.int ii)])) t
        refine XS.iloadN X6.here hx rfl (hb hby d3_24) rfl ?_
        show Steps p.tables e below (T6.setTop (mkF m 25 #[.val (.ref a0), .val (.int p1), .val (.int p2), .val (.int ii)] [(.int ii), (.int ii)])) t
        refine XS.iloadN X6.here hx rfl (hb hby d3_25) rfl ?_
        show Steps p.tables e below (T6.setTop (mkF m 26 #[.val (.ref a0), .val (.int p1), .val (.int p2), .val (.int ii)] [(.int ii), (.int ii), (.int ii)])) t
        refine XS.ineg X6.here hx rfl (hb hby d3_26) rfl ?_
        show Steps p.tables e below (T6.setTop (mkF m 27 #[.val (.ref a0), .val (.int p1), .val (.int p2), .val (.int ii)] [(.int (-ii)), (.int ii), (.int ii)])) t
        refine XS.iand X6.here hx rfl (hb hby d3_27) rfl ?_
        show Steps p.tables e below (T6.setTop (mkF m 28 #[.val (.ref a0), .val (.int p1), .val (.int p2), .val (.int ii)] [(.int (ii &&& (-ii))), (.int ii)])) t
        refine XS.iadd X6.here hx rfl (hb hby d3_28) rfl ?_
        show Steps p.tables e below (T6.setTop (mkF m 29 #[.val (.ref a0), .val (.int p1), .val (.int p2), .val (.int ii)] [(.int (ii + (ii &&& (-ii))))])) t
        refine XS.istoreN X6.here hx rfl (hb hby d3_29) rfl (l' := #[.val (.ref a0), .val (.int p1), .val (.int p2), .val (.int (ii + (ii &&& (-ii))))]) rfl ?_
        show Steps p.tables e below (T6.setTop (mkF m 30 #[.val (.ref a0), .val (.int p1), .val (.int p2), .val (.int (ii + (ii &&& (-ii))))] [])) t
        refine XS.goto X6.here hx rfl (pc0 := 30) (pc' := 4) rfl (hb hby d3_30) (by decide) (by decide) ?_
        show Steps p.tables e below (T6.setTop (mkF m 4 #[.val (.ref a0), .val (.int p1), .val (.int p2), .val (.int (ii + (ii &&& (-ii))))] [])) t
        exact kt
      exact IHJ4 (n - (kk + own_lb kk)) (by have q := ((own_ltn hii hz).mp hc10_4); have u := (own_up hii h0k (Nat.lt_of_lt_of_le q hn)).2.1; omega) T6 _ h6 (own_set fj kk ((fj kk) + p2)) (ii + (ii &&& (-ii))) (kk + own_lb kk) X6 N6 e6 Z6 KK6 fj1_0 B6 (own_up hii h0k (Nat.lt_of_lt_of_le ((own_ltn hii hz).mp hc10_4) hn)).1 (by omega) (fun x hx => (own_turn h0k (Nat.lt_of_lt_of_le ((own_ltn hii hz).mp hc10_4) hn) x (Nat.lt_of_lt_of_le hx hn)).trans (hF x hx)) rfl
    · refine own_go (T' := T2) (f' := (mkF m 33 #[.val (.ref a0), .val (.int p1), .val (.int p2), .val (.int ii)] [])) (fun t kt => ?_) ?_
      · show Steps p.tables e below (T2.setTop (mkF m 10 #[.val (.ref a0), .val (.int p1), .val (.int p2), .val (.int ii)] [(.int z), (.int ii)])) t
        refine XS.icmpYes X2.here hx rfl (pc0 := 10) (pc' := 33) rfl (hb hby d3_10) rfl (flt hc10_4).2.1 (by decide) (by decide) ?_
        show Steps p.tables e below (T2.setTop (mkF m 33 #[.val (.ref a0), .val (.int p1), .val (.int p2), .val (.int ii)] [])) t
        exact kt
      exact own_retV X2 hP hx hlk e2 hret (hb hby d3_33) (by decide) (by decide) ⟨rfl, Nj1, Kj1, (fj1_1.congr fun x hx => congrArg Value.int ((own_done (by have := hc10_4; rw [own_ltn hii hz] at this; omega)).symm.trans (hF x hx)))⟩
  exact J4 (n - i) s₁ _ h0 f (p1 + (1 : Int32)) i X0 N0 e0 Z0 K0 F_a0_tree Ar_w0 (by have o : (1 : Int32).toInt = 1 := rfl; rw [Jvm.Kit.i32_add (by omega) (by omega), o]; exact hi) h0i (fun x hx => rfl) rfl
theorem d4_0 : decode prog_83_method_3_code 0 = .ok (.iconst 0, 1) := by decide +kernel
theorem d4_1 : decode prog_83_method_3_code 1 = .ok (.istore_n 2, 1) := by decide +kernel
theorem d4_2 : decode prog_83_method_3_code 2 = .ok (.iload_n 1, 1) := by decide +kernel
theorem d4_3 : decode prog_83_method_3_code 3 = .ok (.istore_n 3, 1) := by decide +kernel
theorem d4_4 : decode prog_83_method_3_code 4 = .ok (.iload_n 3, 1) := by decide +kernel
theorem d4_5 : decode prog_83_method_3_code 5 = .ok (.ifCond .le 22, 3) := by decide +kernel
theorem d4_8 : decode prog_83_method_3_code 8 = .ok (.iload_n 2, 1) := by decide +kernel
theorem d4_9 : decode prog_83_method_3_code 9 = .ok (.aload_n 0, 1) := by decide +kernel
theorem d4_10 : decode prog_83_method_3_code 10 = .ok (.getfield 7, 3) := by decide +kernel
theorem d4_13 : decode prog_83_method_3_code 13 = .ok (.iload_n 3, 1) := by decide +kernel
theorem d4_14 : decode prog_83_method_3_code 14 = .ok (.iaload, 1) := by decide +kernel
theorem d4_15 : decode prog_83_method_3_code 15 = .ok (.iadd, 1) := by decide +kernel
theorem d4_16 : decode prog_83_method_3_code 16 = .ok (.istore_n 2, 1) := by decide +kernel
theorem d4_17 : decode prog_83_method_3_code 17 = .ok (.iload_n 3, 1) := by decide +kernel
theorem d4_18 : decode prog_83_method_3_code 18 = .ok (.iload_n 3, 1) := by decide +kernel
theorem d4_19 : decode prog_83_method_3_code 19 = .ok (.iload_n 3, 1) := by decide +kernel
theorem d4_20 : decode prog_83_method_3_code 20 = .ok (.ineg, 1) := by decide +kernel
theorem d4_21 : decode prog_83_method_3_code 21 = .ok (.iand, 1) := by decide +kernel
theorem d4_22 : decode prog_83_method_3_code 22 = .ok (.isub, 1) := by decide +kernel
theorem d4_23 : decode prog_83_method_3_code 23 = .ok (.istore_n 3, 1) := by decide +kernel
theorem d4_24 : decode prog_83_method_3_code 24 = .ok (.goto (-20), 3) := by decide +kernel
theorem d4_27 : decode prog_83_method_3_code 27 = .ok (.iload_n 2, 1) := by decide +kernel
theorem d4_28 : decode prog_83_method_3_code 28 = .ok (.ireturn, 1) := by decide +kernel
set_option maxRecDepth 65536 in
set_option maxHeartbeats 4000000 in
theorem ef_4 (m : MethodId) (a0 : Addr) (p1 : Int32) : entryFrame m #[(.ref a0), (.int p1)] 4 = mkF m 0 #[.val (.ref a0), .val (.int p1), .unset, .unset] [] := by first | (simp [entryFrame, mkF, argsToLocals, Value.category]; done) | rfl
set_option maxRecDepth 65536 in
set_option maxHeartbeats 40000000 in
theorem rm4 (l : Launch) (Z : State) (aw : Array Value) (hw : ∀ d ∈ tables_1, d.before aw Z = true) {ws : List Jvm.Cond} (a0 : Addr) (p1 : Int32) (w0 : Addr) (n : Nat) (f : Nat → Int32) (q : Nat) (a : Nat) (b : Nat) (ca : Int32) (cb : Int32) (h0 : Heap) (n0 : Nat) (Z0 : n0 ≤ h0.size) (F_a0_tree : Fld Z h0 a0 "com/example/humble_grid/humblegrid/RowCounts" "tree" "[I" (.ref w0)) (Ar_w0 : own_AI Z h0 w0 n f) (hq : p1.toInt = (q : Int)) (hqn : q < n) (hn : n ≤ 17) (ha : 0 < a) (hb' : 0 < b) (hF : f = own_add (own_add (fun _ => (0 : Int32)) a ca) b cb) :
    own_Met l Z (⟨"com/example/humble_grid/humblegrid/RowCounts", "countBelow", "(I)I"⟩ : MethodName) prog_83_method_3_code 4 (some .int) ws ({ frames := 0, cells := 0, slots := 0, locals := 0 } : Room) #[(.ref a0), (.int p1)] h0 (own_Pq (some (.int (own_cb a b ca cb q))) h0) := by
  refine own_body (plainFor_of_name pn_0) ?_
  intro p e s m below meth c s₁ hx hZ hby hml hown hnm hret hlk X0 e0
  replace hown : s.vm.findClass "com/example/humble_grid/humblegrid/RowCounts" = some m.cls := hown
  replace hml : c.maxLocals = 4 := hml
  obtain ⟨P, hP⟩ : ∃ P, P = own_P below s (own_Pq (some (.int (own_cb a b ca cb q))) h0) ({ frames := 0, cells := 0, slots := 0, locals := 0 } : Room).cells ({ frames := 0, cells := 0, slots := 0, locals := 0 } : Room).slots := ⟨_, rfl⟩
  rw [← hP]
  refine own_cast (ef_4 m a0 p1) ?_
  refine own_go (T' := s₁) (f' := (mkF m 4 #[.val (.ref a0), .val (.int p1), .val (.int (0 : Int32)), .val (.int p1)] [])) (fun t kt => ?_) ?_
  · show Steps p.tables e below (s₁.setTop (mkF m 0 #[.val (.ref a0), .val (.int p1), .unset, .unset] [])) t
    refine XS.iconst X0.here hx rfl (hb hby d4_0) ?_
    show Steps p.tables e below (s₁.setTop (mkF m 1 #[.val (.ref a0), .val (.int p1), .unset, .unset] [(.int (0 : Int32))])) t
    refine XS.istoreN X0.here hx rfl (hb hby d4_1) rfl (l' := #[.val (.ref a0), .val (.int p1), .val (.int (0 : Int32)), .unset]) rfl ?_
    show Steps p.tables e below (s₁.setTop (mkF m 2 #[.val (.ref a0), .val (.int p1), .val (.int (0 : Int32)), .unset] [])) t
    refine XS.iloadN X0.here hx rfl (hb hby d4_2) rfl ?_
    show Steps p.tables e below (s₁.setTop (mkF m 3 #[.val (.ref a0), .val (.int p1), .val (.int (0 : Int32)), .unset] [(.int p1)])) t
    refine XS.istoreN X0.here hx rfl (hb hby d4_3) rfl (l' := #[.val (.ref a0), .val (.int p1), .val (.int (0 : Int32)), .val (.int p1)]) rfl ?_
    show Steps p.tables e below (s₁.setTop (mkF m 4 #[.val (.ref a0), .val (.int p1), .val (.int (0 : Int32)), .val (.int p1)] [])) t
    exact kt
  have J4 : ∀ (mk : Nat) (Tj1 : State) (lj1 : List Loc) (ss : Int32) (ii : Int32) (kk : Nat) (Xj1 : Stand p l e ({ frames := 0, cells := 0, slots := 0, locals := 0 } : Room) s m #[(.ref a0), (.int p1)] below meth c Tj1 lj1 0 0) (Nj1 : lj1 = []) (ej1 : Tj1.heap = h0) (hii : ii.toInt = (kk : Int)) (hkq : kk ≤ q) (hs : ss + own_cb a b ca cb kk = own_cb a b ca cb q) (hmk : mk = kk), own_End p e below P Tj1 (mkF m 4 #[.val (.ref a0), .val (.int p1), .val (.int ss), .val (.int ii)] []) := by
    intro mk
    induction mk using Nat.strongRecOn with
    | _ mk IHJ4 =>
    intro Tj1 lj1 ss ii kk Xj1 Nj1 ej1 hii hkq hs hmk
    subst Nj1
    refine own_go (T' := Tj1) (f' := (mkF m 5 #[.val (.ref a0), .val (.int p1), .val (.int ss), .val (.int ii)] [(.int ii)])) (fun t kt => ?_) ?_
    · show Steps p.tables e below (Tj1.setTop (mkF m 4 #[.val (.ref a0), .val (.int p1), .val (.int ss), .val (.int ii)] [])) t
      refine XS.iloadN Xj1.here hx rfl (hb hby d4_4) rfl ?_
      show Steps p.tables e below (Tj1.setTop (mkF m 5 #[.val (.ref a0), .val (.int p1), .val (.int ss), .val (.int ii)] [(.int ii)])) t
      exact kt
    by_cases hc5_2 : (0 : Int32) < ii
    · refine own_go (T' := Tj1) (f' := (mkF m 10 #[.val (.ref a0), .val (.int p1), .val (.int ss), .val (.int ii)] [(.ref a0), (.int ss)])) (fun t kt => ?_) ?_
      · show Steps p.tables e below (Tj1.setTop (mkF m 5 #[.val (.ref a0), .val (.int p1), .val (.int ss), .val (.int ii)] [(.int ii)])) t
        refine XS.ifNo Xj1.here hx rfl (hb hby d4_5) rfl ((if0 _ _).trans (tlt hc5_2).2.2.2) ?_
        show Steps p.tables e below (Tj1.setTop (mkF m 8 #[.val (.ref a0), .val (.int p1), .val (.int ss), .val (.int ii)] [])) t
        refine XS.iloadN Xj1.here hx rfl (hb hby d4_8) rfl ?_
        show Steps p.tables e below (Tj1.setTop (mkF m 9 #[.val (.ref a0), .val (.int p1), .val (.int ss), .val (.int ii)] [(.int ss)])) t
        refine XS.aloadN Xj1.here hx rfl (hb hby d4_9) rfl rfl ?_
        show Steps p.tables e below (Tj1.setTop (mkF m 10 #[.val (.ref a0), .val (.int p1), .val (.int ss), .val (.int ii)] [(.ref a0), (.int ss)])) t
        exact kt
      obtain ⟨T3, X3, e3, st3⟩ := getF Xj1 hx hZ hown (host := "") (Or.inl (hw _ (List.mem_of_getElem? (i := 10) rfl))) Via.refl ej1 F_a0_tree (g := (mkF m 10 #[.val (.ref a0), .val (.int p1), .val (.int ss), .val (.int ii)] [(.ref a0), (.int ss)])) rfl rfl (hb hby d4_10)
      refine own_go st3 ?_
      refine own_go (T' := T3) (f' := (mkF m 4 #[.val (.ref a0), .val (.int p1), .val (.int (ss + (f kk))), .val (.int (ii - (ii &&& (-ii))))] [])) (fun t kt => ?_) ?_
      · show Steps p.tables e below (T3.setTop (mkF m 13 #[.val (.ref a0), .val (.int p1), .val (.int ss), .val (.int ii)] [(.ref w0), (.int ss)])) t
        refine XS.iloadN X3.here hx rfl (hb hby d4_13) rfl ?_
        show Steps p.tables e below (T3.setTop (mkF m 14 #[.val (.ref a0), .val (.int p1), .val (.int ss), .val (.int ii)] [(.int ii), (.ref w0), (.int ss)])) t
        refine own_iaload X3 hx hZ e3 Ar_w0 (i := kk) hii (Nat.lt_of_le_of_lt hkq hqn) (g := (mkF m 14 #[.val (.ref a0), .val (.int p1), .val (.int ss), .val (.int ii)] [(.int ii), (.ref w0), (.int ss)])) rfl rfl (hb hby d4_14) _ ?_
        show Steps p.tables e below (T3.setTop (mkF m 15 #[.val (.ref a0), .val (.int p1), .val (.int ss), .val (.int ii)] [(.int (f kk)), (.int ss)])) t
        refine XS.iadd X3.here hx rfl (hb hby d4_15) rfl ?_
        show Steps p.tables e below (T3.setTop (mkF m 16 #[.val (.ref a0), .val (.int p1), .val (.int ss), .val (.int ii)] [(.int (ss + (f kk)))])) t
        refine XS.istoreN X3.here hx rfl (hb hby d4_16) rfl (l' := #[.val (.ref a0), .val (.int p1), .val (.int (ss + (f kk))), .val (.int ii)]) rfl ?_
        show Steps p.tables e below (T3.setTop (mkF m 17 #[.val (.ref a0), .val (.int p1), .val (.int (ss + (f kk))), .val (.int ii)] [])) t
        refine XS.iloadN X3.here hx rfl (hb hby d4_17) rfl ?_
        show Steps p.tables e below (T3.setTop (mkF m 18 #[.val (.ref a0), .val (.int p1), .val (.int (ss + (f kk))), .val (.int ii)] [(.int ii)])) t
        refine XS.iloadN X3.here hx rfl (hb hby d4_18) rfl ?_
        show Steps p.tables e below (T3.setTop (mkF m 19 #[.val (.ref a0), .val (.int p1), .val (.int (ss + (f kk))), .val (.int ii)] [(.int ii), (.int ii)])) t
        refine XS.iloadN X3.here hx rfl (hb hby d4_19) rfl ?_
        show Steps p.tables e below (T3.setTop (mkF m 20 #[.val (.ref a0), .val (.int p1), .val (.int (ss + (f kk))), .val (.int ii)] [(.int ii), (.int ii), (.int ii)])) t
        refine XS.ineg X3.here hx rfl (hb hby d4_20) rfl ?_
        show Steps p.tables e below (T3.setTop (mkF m 21 #[.val (.ref a0), .val (.int p1), .val (.int (ss + (f kk))), .val (.int ii)] [(.int (-ii)), (.int ii), (.int ii)])) t
        refine XS.iand X3.here hx rfl (hb hby d4_21) rfl ?_
        show Steps p.tables e below (T3.setTop (mkF m 22 #[.val (.ref a0), .val (.int p1), .val (.int (ss + (f kk))), .val (.int ii)] [(.int (ii &&& (-ii))), (.int ii)])) t
        refine XS.isub X3.here hx rfl (hb hby d4_22) rfl ?_
        show Steps p.tables e below (T3.setTop (mkF m 23 #[.val (.ref a0), .val (.int p1), .val (.int (ss + (f kk))), .val (.int ii)] [(.int (ii - (ii &&& (-ii))))])) t
        refine XS.istoreN X3.here hx rfl (hb hby d4_23) rfl (l' := #[.val (.ref a0), .val (.int p1), .val (.int (ss + (f kk))), .val (.int (ii - (ii &&& (-ii))))]) rfl ?_
        show Steps p.tables e below (T3.setTop (mkF m 24 #[.val (.ref a0), .val (.int p1), .val (.int (ss + (f kk))), .val (.int (ii - (ii &&& (-ii))))] [])) t
        refine XS.goto X3.here hx rfl (pc0 := 24) (pc' := 4) rfl (hb hby d4_24) (by decide) (by decide) ?_
        show Steps p.tables e below (T3.setTop (mkF m 4 #[.val (.ref a0), .val (.int p1), .val (.int (ss + (f kk))), .val (.int (ii - (ii &&& (-ii))))] [])) t
        exact kt
      exact IHJ4 (kk - own_lb kk) (by have u := (own_dn hii ((own_ltz hii).mp hc5_2) (by omega)).2; omega) T3 _ (ss + (f kk)) (ii - (ii &&& (-ii))) (kk - own_lb kk) X3 rfl e3 (own_dn hii ((own_ltz hii).mp hc5_2) (by omega)).1 (by omega) (by rw [Int32.add_assoc, own_cb2 ((own_ltz hii).mp hc5_2) (by omega) ha hb' (by rw [hF])]; exact hs) rfl
    · refine own_go (T' := Tj1) (f' := (mkF m 28 #[.val (.ref a0), .val (.int p1), .val (.int ss), .val (.int ii)] [(.int ss)])) (fun t kt => ?_) ?_
      · show Steps p.tables e below (Tj1.setTop (mkF m 5 #[.val (.ref a0), .val (.int p1), .val (.int ss), .val (.int ii)] [(.int ii)])) t
        refine XS.ifYes Xj1.here hx rfl (pc0 := 5) (pc' := 27) rfl (hb hby d4_5) rfl ((if0 _ _).trans (flt hc5_2).2.2.2) (by decide) (by decide) ?_
        show Steps p.tables e below (Tj1.setTop (mkF m 27 #[.val (.ref a0), .val (.int p1), .val (.int ss), .val (.int ii)] [])) t
        refine XS.iloadN Xj1.here hx rfl (hb hby d4_27) rfl ?_
        show Steps p.tables e below (Tj1.setTop (mkF m 28 #[.val (.ref a0), .val (.int p1), .val (.int ss), .val (.int ii)] [(.int ss)])) t
        exact kt
      exact own_retI Xj1 hP hx hlk ej1 hret (hb hby d4_28) (by decide) (by decide) ⟨(congrArg (fun w => some (Value.int w)) (by have e : kk = 0 := (by have := hc5_2; rw [own_ltz hii] at this; omega); rw [e, own_cb0, Int32.add_zero] at hs; exact hs)), rfl, rfl⟩
  exact J4 q s₁ _ (0 : Int32) p1 q X0 rfl e0 hq (Nat.le_refl _) (Int32.zero_add _) rfl
theorem pn_1 : plainName "com/example/humble_grid/humblegrid/RowCountsAddPinLaw" = true := by first | (simp [plainName, overriddenIn]; done) | decide +kernel
theorem d5_0 : decode method_3_code 0 = .ok (.iconst 0, 1) := by decide +kernel
theorem d5_1 : decode method_3_code 1 = .ok (.istore 5, 2) := by decide +kernel
theorem d5_3 : decode method_3_code 3 = .ok (.iload_n 0, 1) := by decide +kernel
theorem d5_4 : decode method_3_code 4 = .ok (.iload 4, 2) := by decide +kernel
theorem d5_6 : decode method_3_code 6 = .ok (.if_icmp .ge 9, 3) := by decide +kernel
theorem d5_9 : decode method_3_code 9 = .ok (.iload 5, 2) := by decide +kernel
theorem d5_11 : decode method_3_code 11 = .ok (.iload_n 2, 1) := by decide +kernel
theorem d5_12 : decode method_3_code 12 = .ok (.iadd, 1) := by decide +kernel
theorem d5_13 : decode method_3_code 13 = .ok (.istore 5, 2) := by decide +kernel
theorem d5_15 : decode method_3_code 15 = .ok (.iload_n 1, 1) := by decide +kernel
theorem d5_16 : decode method_3_code 16 = .ok (.iload 4, 2) := by decide +kernel
theorem d5_18 : decode method_3_code 18 = .ok (.if_icmp .ge 9, 3) := by decide +kernel
theorem d5_21 : decode method_3_code 21 = .ok (.iload 5, 2) := by decide +kernel
theorem d5_23 : decode method_3_code 23 = .ok (.iload_n 3, 1) := by decide +kernel
theorem d5_24 : decode method_3_code 24 = .ok (.iadd, 1) := by decide +kernel
theorem d5_25 : decode method_3_code 25 = .ok (.istore 5, 2) := by decide +kernel
theorem d5_27 : decode method_3_code 27 = .ok (.iload 5, 2) := by decide +kernel
theorem d5_29 : decode method_3_code 29 = .ok (.ireturn, 1) := by decide +kernel
set_option maxRecDepth 65536 in
set_option maxHeartbeats 4000000 in
theorem ef_5 (m : MethodId) (p0 : Int32) (p1 : Int32) (p2 : Int32) (p3 : Int32) (p4 : Int32) : entryFrame m #[(.int p0), (.int p1), (.int p2), (.int p3), (.int p4)] 6 = mkF m 0 #[.val (.int p0), .val (.int p1), .val (.int p2), .val (.int p3), .val (.int p4), .unset] [] := by first | (simp [entryFrame, mkF, argsToLocals, Value.category]; done) | rfl
set_option maxRecDepth 65536 in
set_option maxHeartbeats 40000000 in
theorem rm5 (l : Launch) (Z : State) (aw : Array Value) (hw : ∀ d ∈ tables_1, d.before aw Z = true) {ws : List Jvm.Cond} (p0 : Int32) (p1 : Int32) (p2 : Int32) (p3 : Int32) (p4 : Int32)  (h0 : Heap) (n0 : Nat) (Z0 : n0 ≤ h0.size)  :
    own_Met l Z (⟨"com/example/humble_grid/humblegrid/RowCountsAddPinLaw", "expected", "(IIIII)I"⟩ : MethodName) method_3_code 6 (some .int) ws ({ frames := 0, cells := 0, slots := 0, locals := 0 } : Room) #[(.int p0), (.int p1), (.int p2), (.int p3), (.int p4)] h0 (own_Pq (some (.int (own_exp p0 p1 p2 p3 p4))) h0) := by
  refine own_body (plainFor_of_name pn_1) ?_
  intro p e s m below meth c s₁ hx hZ hby hml hown hnm hret hlk X0 e0
  replace hown : s.vm.findClass "com/example/humble_grid/humblegrid/RowCountsAddPinLaw" = some m.cls := hown
  replace hml : c.maxLocals = 6 := hml
  obtain ⟨P, hP⟩ : ∃ P, P = own_P below s (own_Pq (some (.int (own_exp p0 p1 p2 p3 p4))) h0) ({ frames := 0, cells := 0, slots := 0, locals := 0 } : Room).cells ({ frames := 0, cells := 0, slots := 0, locals := 0 } : Room).slots := ⟨_, rfl⟩
  rw [← hP]
  refine own_cast (ef_5 m p0 p1 p2 p3 p4) ?_
  refine own_go (T' := s₁) (f' := (mkF m 6 #[.val (.int p0), .val (.int p1), .val (.int p2), .val (.int p3), .val (.int p4), .val (.int (0 : Int32))] [(.int p4), (.int p0)])) (fun t kt => ?_) ?_
  · show Steps p.tables e below (s₁.setTop (mkF m 0 #[.val (.int p0), .val (.int p1), .val (.int p2), .val (.int p3), .val (.int p4), .unset] [])) t
    refine XS.iconst X0.here hx rfl (hb hby d5_0) ?_
    show Steps p.tables e below (s₁.setTop (mkF m 1 #[.val (.int p0), .val (.int p1), .val (.int p2), .val (.int p3), .val (.int p4), .unset] [(.int (0 : Int32))])) t
    refine XS.istore X0.here hx rfl (hb hby d5_1) rfl (l' := #[.val (.int p0), .val (.int p1), .val (.int p2), .val (.int p3), .val (.int p4), .val (.int (0 : Int32))]) rfl ?_
    show Steps p.tables e below (s₁.setTop (mkF m 3 #[.val (.int p0), .val (.int p1), .val (.int p2), .val (.int p3), .val (.int p4), .val (.int (0 : Int32))] [])) t
    refine XS.iloadN X0.here hx rfl (hb hby d5_3) rfl ?_
    show Steps p.tables e below (s₁.setTop (mkF m 4 #[.val (.int p0), .val (.int p1), .val (.int p2), .val (.int p3), .val (.int p4), .val (.int (0 : Int32))] [(.int p0)])) t
    refine XS.iload X0.here hx rfl (hb hby d5_4) rfl ?_
    show Steps p.tables e below (s₁.setTop (mkF m 6 #[.val (.int p0), .val (.int p1), .val (.int p2), .val (.int p3), .val (.int p4), .val (.int (0 : Int32))] [(.int p4), (.int p0)])) t
    exact kt
  by_cases hc6_1 : p0 < p4
  · refine own_go (T' := s₁) (f' := (mkF m 18 #[.val (.int p0), .val (.int p1), .val (.int p2), .val (.int p3), .val (.int p4), .val (.int ((0 : Int32) + p2))] [(.int p4), (.int p1)])) (fun t kt => ?_) ?_
    · show Steps p.tables e below (s₁.setTop (mkF m 6 #[.val (.int p0), .val (.int p1), .val (.int p2), .val (.int p3), .val (.int p4), .val (.int (0 : Int32))] [(.int p4), (.int p0)])) t
      refine XS.icmpNo X0.here hx rfl (hb hby d5_6) rfl (tlt hc6_1).2.1 ?_
      show Steps p.tables e below (s₁.setTop (mkF m 9 #[.val (.int p0), .val (.int p1), .val (.int p2), .val (.int p3), .val (.int p4), .val (.int (0 : Int32))] [])) t
      refine XS.iload X0.here hx rfl (hb hby d5_9) rfl ?_
      show Steps p.tables e below (s₁.setTop (mkF m 11 #[.val (.int p0), .val (.int p1), .val (.int p2), .val (.int p3), .val (.int p4), .val (.int (0 : Int32))] [(.int (0 : Int32))])) t
      refine XS.iloadN X0.here hx rfl (hb hby d5_11) rfl ?_
      show Steps p.tables e below (s₁.setTop (mkF m 12 #[.val (.int p0), .val (.int p1), .val (.int p2), .val (.int p3), .val (.int p4), .val (.int (0 : Int32))] [(.int p2), (.int (0 : Int32))])) t
      refine XS.iadd X0.here hx rfl (hb hby d5_12) rfl ?_
      show Steps p.tables e below (s₁.setTop (mkF m 13 #[.val (.int p0), .val (.int p1), .val (.int p2), .val (.int p3), .val (.int p4), .val (.int (0 : Int32))] [(.int ((0 : Int32) + p2))])) t
      refine XS.istore X0.here hx rfl (hb hby d5_13) rfl (l' := #[.val (.int p0), .val (.int p1), .val (.int p2), .val (.int p3), .val (.int p4), .val (.int ((0 : Int32) + p2))]) rfl ?_
      show Steps p.tables e below (s₁.setTop (mkF m 15 #[.val (.int p0), .val (.int p1), .val (.int p2), .val (.int p3), .val (.int p4), .val (.int ((0 : Int32) + p2))] [])) t
      refine XS.iloadN X0.here hx rfl (hb hby d5_15) rfl ?_
      show Steps p.tables e below (s₁.setTop (mkF m 16 #[.val (.int p0), .val (.int p1), .val (.int p2), .val (.int p3), .val (.int p4), .val (.int ((0 : Int32) + p2))] [(.int p1)])) t
      refine XS.iload X0.here hx rfl (hb hby d5_16) rfl ?_
      show Steps p.tables e below (s₁.setTop (mkF m 18 #[.val (.int p0), .val (.int p1), .val (.int p2), .val (.int p3), .val (.int p4), .val (.int ((0 : Int32) + p2))] [(.int p4), (.int p1)])) t
      exact kt
    by_cases hc18_2 : p1 < p4
    · refine own_go (T' := s₁) (f' := (mkF m 29 #[.val (.int p0), .val (.int p1), .val (.int p2), .val (.int p3), .val (.int p4), .val (.int (((0 : Int32) + p2) + p3))] [(.int (((0 : Int32) + p2) + p3))])) (fun t kt => ?_) ?_
      · show Steps p.tables e below (s₁.setTop (mkF m 18 #[.val (.int p0), .val (.int p1), .val (.int p2), .val (.int p3), .val (.int p4), .val (.int ((0 : Int32) + p2))] [(.int p4), (.int p1)])) t
        refine XS.icmpNo X0.here hx rfl (hb hby d5_18) rfl (tlt hc18_2).2.1 ?_
        show Steps p.tables e below (s₁.setTop (mkF m 21 #[.val (.int p0), .val (.int p1), .val (.int p2), .val (.int p3), .val (.int p4), .val (.int ((0 : Int32) + p2))] [])) t
        refine XS.iload X0.here hx rfl (hb hby d5_21) rfl ?_
        show Steps p.tables e below (s₁.setTop (mkF m 23 #[.val (.int p0), .val (.int p1), .val (.int p2), .val (.int p3), .val (.int p4), .val (.int ((0 : Int32) + p2))] [(.int ((0 : Int32) + p2))])) t
        refine XS.iloadN X0.here hx rfl (hb hby d5_23) rfl ?_
        show Steps p.tables e below (s₁.setTop (mkF m 24 #[.val (.int p0), .val (.int p1), .val (.int p2), .val (.int p3), .val (.int p4), .val (.int ((0 : Int32) + p2))] [(.int p3), (.int ((0 : Int32) + p2))])) t
        refine XS.iadd X0.here hx rfl (hb hby d5_24) rfl ?_
        show Steps p.tables e below (s₁.setTop (mkF m 25 #[.val (.int p0), .val (.int p1), .val (.int p2), .val (.int p3), .val (.int p4), .val (.int ((0 : Int32) + p2))] [(.int (((0 : Int32) + p2) + p3))])) t
        refine XS.istore X0.here hx rfl (hb hby d5_25) rfl (l' := #[.val (.int p0), .val (.int p1), .val (.int p2), .val (.int p3), .val (.int p4), .val (.int (((0 : Int32) + p2) + p3))]) rfl ?_
        show Steps p.tables e below (s₁.setTop (mkF m 27 #[.val (.int p0), .val (.int p1), .val (.int p2), .val (.int p3), .val (.int p4), .val (.int (((0 : Int32) + p2) + p3))] [])) t
        refine XS.iload X0.here hx rfl (hb hby d5_27) rfl ?_
        show Steps p.tables e below (s₁.setTop (mkF m 29 #[.val (.int p0), .val (.int p1), .val (.int p2), .val (.int p3), .val (.int p4), .val (.int (((0 : Int32) + p2) + p3))] [(.int (((0 : Int32) + p2) + p3))])) t
        exact kt
      exact own_retI X0 hP hx hlk e0 hret (hb hby d5_29) (by decide) (by decide) ⟨(by rw [own_exp, if_pos hc6_1, if_pos hc18_2]), rfl, rfl⟩
    · refine own_go (T' := s₁) (f' := (mkF m 29 #[.val (.int p0), .val (.int p1), .val (.int p2), .val (.int p3), .val (.int p4), .val (.int ((0 : Int32) + p2))] [(.int ((0 : Int32) + p2))])) (fun t kt => ?_) ?_
      · show Steps p.tables e below (s₁.setTop (mkF m 18 #[.val (.int p0), .val (.int p1), .val (.int p2), .val (.int p3), .val (.int p4), .val (.int ((0 : Int32) + p2))] [(.int p4), (.int p1)])) t
        refine XS.icmpYes X0.here hx rfl (pc0 := 18) (pc' := 27) rfl (hb hby d5_18) rfl (flt hc18_2).2.1 (by decide) (by decide) ?_
        show Steps p.tables e below (s₁.setTop (mkF m 27 #[.val (.int p0), .val (.int p1), .val (.int p2), .val (.int p3), .val (.int p4), .val (.int ((0 : Int32) + p2))] [])) t
        refine XS.iload X0.here hx rfl (hb hby d5_27) rfl ?_
        show Steps p.tables e below (s₁.setTop (mkF m 29 #[.val (.int p0), .val (.int p1), .val (.int p2), .val (.int p3), .val (.int p4), .val (.int ((0 : Int32) + p2))] [(.int ((0 : Int32) + p2))])) t
        exact kt
      exact own_retI X0 hP hx hlk e0 hret (hb hby d5_29) (by decide) (by decide) ⟨(by rw [own_exp, if_pos hc6_1, if_neg hc18_2]), rfl, rfl⟩
  · refine own_go (T' := s₁) (f' := (mkF m 18 #[.val (.int p0), .val (.int p1), .val (.int p2), .val (.int p3), .val (.int p4), .val (.int (0 : Int32))] [(.int p4), (.int p1)])) (fun t kt => ?_) ?_
    · show Steps p.tables e below (s₁.setTop (mkF m 6 #[.val (.int p0), .val (.int p1), .val (.int p2), .val (.int p3), .val (.int p4), .val (.int (0 : Int32))] [(.int p4), (.int p0)])) t
      refine XS.icmpYes X0.here hx rfl (pc0 := 6) (pc' := 15) rfl (hb hby d5_6) rfl (flt hc6_1).2.1 (by decide) (by decide) ?_
      show Steps p.tables e below (s₁.setTop (mkF m 15 #[.val (.int p0), .val (.int p1), .val (.int p2), .val (.int p3), .val (.int p4), .val (.int (0 : Int32))] [])) t
      refine XS.iloadN X0.here hx rfl (hb hby d5_15) rfl ?_
      show Steps p.tables e below (s₁.setTop (mkF m 16 #[.val (.int p0), .val (.int p1), .val (.int p2), .val (.int p3), .val (.int p4), .val (.int (0 : Int32))] [(.int p1)])) t
      refine XS.iload X0.here hx rfl (hb hby d5_16) rfl ?_
      show Steps p.tables e below (s₁.setTop (mkF m 18 #[.val (.int p0), .val (.int p1), .val (.int p2), .val (.int p3), .val (.int p4), .val (.int (0 : Int32))] [(.int p4), (.int p1)])) t
      exact kt
    by_cases hc18_3 : p1 < p4
    · refine own_go (T' := s₁) (f' := (mkF m 29 #[.val (.int p0), .val (.int p1), .val (.int p2), .val (.int p3), .val (.int p4), .val (.int ((0 : Int32) + p3))] [(.int ((0 : Int32) + p3))])) (fun t kt => ?_) ?_
      · show Steps p.tables e below (s₁.setTop (mkF m 18 #[.val (.int p0), .val (.int p1), .val (.int p2), .val (.int p3), .val (.int p4), .val (.int (0 : Int32))] [(.int p4), (.int p1)])) t
        refine XS.icmpNo X0.here hx rfl (hb hby d5_18) rfl (tlt hc18_3).2.1 ?_
        show Steps p.tables e below (s₁.setTop (mkF m 21 #[.val (.int p0), .val (.int p1), .val (.int p2), .val (.int p3), .val (.int p4), .val (.int (0 : Int32))] [])) t
        refine XS.iload X0.here hx rfl (hb hby d5_21) rfl ?_
        show Steps p.tables e below (s₁.setTop (mkF m 23 #[.val (.int p0), .val (.int p1), .val (.int p2), .val (.int p3), .val (.int p4), .val (.int (0 : Int32))] [(.int (0 : Int32))])) t
        refine XS.iloadN X0.here hx rfl (hb hby d5_23) rfl ?_
        show Steps p.tables e below (s₁.setTop (mkF m 24 #[.val (.int p0), .val (.int p1), .val (.int p2), .val (.int p3), .val (.int p4), .val (.int (0 : Int32))] [(.int p3), (.int (0 : Int32))])) t
        refine XS.iadd X0.here hx rfl (hb hby d5_24) rfl ?_
        show Steps p.tables e below (s₁.setTop (mkF m 25 #[.val (.int p0), .val (.int p1), .val (.int p2), .val (.int p3), .val (.int p4), .val (.int (0 : Int32))] [(.int ((0 : Int32) + p3))])) t
        refine XS.istore X0.here hx rfl (hb hby d5_25) rfl (l' := #[.val (.int p0), .val (.int p1), .val (.int p2), .val (.int p3), .val (.int p4), .val (.int ((0 : Int32) + p3))]) rfl ?_
        show Steps p.tables e below (s₁.setTop (mkF m 27 #[.val (.int p0), .val (.int p1), .val (.int p2), .val (.int p3), .val (.int p4), .val (.int ((0 : Int32) + p3))] [])) t
        refine XS.iload X0.here hx rfl (hb hby d5_27) rfl ?_
        show Steps p.tables e below (s₁.setTop (mkF m 29 #[.val (.int p0), .val (.int p1), .val (.int p2), .val (.int p3), .val (.int p4), .val (.int ((0 : Int32) + p3))] [(.int ((0 : Int32) + p3))])) t
        exact kt
      exact own_retI X0 hP hx hlk e0 hret (hb hby d5_29) (by decide) (by decide) ⟨(by rw [own_exp, if_neg hc6_1, if_pos hc18_3]), rfl, rfl⟩
    · refine own_go (T' := s₁) (f' := (mkF m 29 #[.val (.int p0), .val (.int p1), .val (.int p2), .val (.int p3), .val (.int p4), .val (.int (0 : Int32))] [(.int (0 : Int32))])) (fun t kt => ?_) ?_
      · show Steps p.tables e below (s₁.setTop (mkF m 18 #[.val (.int p0), .val (.int p1), .val (.int p2), .val (.int p3), .val (.int p4), .val (.int (0 : Int32))] [(.int p4), (.int p1)])) t
        refine XS.icmpYes X0.here hx rfl (pc0 := 18) (pc' := 27) rfl (hb hby d5_18) rfl (flt hc18_3).2.1 (by decide) (by decide) ?_
        show Steps p.tables e below (s₁.setTop (mkF m 27 #[.val (.int p0), .val (.int p1), .val (.int p2), .val (.int p3), .val (.int p4), .val (.int (0 : Int32))] [])) t
        refine XS.iload X0.here hx rfl (hb hby d5_27) rfl ?_
        show Steps p.tables e below (s₁.setTop (mkF m 29 #[.val (.int p0), .val (.int p1), .val (.int p2), .val (.int p3), .val (.int p4), .val (.int (0 : Int32))] [(.int (0 : Int32))])) t
        exact kt
      exact own_retI X0 hP hx hlk e0 hret (hb hby d5_29) (by decide) (by decide) ⟨(by rw [own_exp, if_neg hc6_1, if_neg hc18_3]), rfl, rfl⟩
theorem pd_0 : parseMethodDescriptor "(I)V" = some ⟨[.int], none⟩ := by decide +kernel
theorem pd_1 : parseMethodDescriptor "(II)V" = some ⟨[.int, .int], none⟩ := by decide +kernel
theorem pd_2 : parseMethodDescriptor "(I)I" = some ⟨[.int], some .int⟩ := by decide +kernel
theorem pd_3 : parseMethodDescriptor "(IIIII)I" = some ⟨[.int, .int, .int, .int, .int], some .int⟩ := by decide +kernel
set_option maxRecDepth 65536 in
set_option maxHeartbeats 4000000 in
theorem ef_0 (m : MethodId) (p0 : Int32) (p1 : Int32) (p2 : Int32) (p3 : Int32) (p4 : Int32) : entryFrame m #[(.int p0), (.int p1), (.int p2), (.int p3), (.int p4)] maxLocals = mkF m 0 #[.val (.int p0), .val (.int p1), .val (.int p2), .val (.int p3), .val (.int p4), .unset, .unset, .unset, .unset, .unset, .unset, .unset, .unset, .unset] [] := by first | (simp [entryFrame, mkF, argsToLocals, Value.category, maxLocals]; done) | rfl
set_option maxRecDepth 65536 in
set_option maxHeartbeats 40000000 in
theorem rm0 (l : Launch) (Z : State) (aw : Array Value) (hw : ∀ d ∈ tables_1, d.before aw Z = true) {ws : List Jvm.Cond} (p0 : Int32) (p1 : Int32) (p2 : Int32) (p3 : Int32) (p4 : Int32)  (h0 : Heap) (n0 : Nat) (Z0 : n0 ≤ h0.size)  :
    own_Met l Z x code maxLocals ret ws room_1 #[(.int p0), (.int p1), (.int p2), (.int p3), (.int p4)] h0 (fun v h L => v = some (.int 1) ∧ Fr n0 L) := by
  refine own_body (plainFor_of_name pn_1) ?_
  intro p e s m below meth c s₁ hx hZ hby hml hown hnm hret hlk X0 e0
  replace hown : s.vm.findClass "com/example/humble_grid/humblegrid/RowCountsAddPinLaw" = some m.cls := hown
  replace hml : c.maxLocals = 14 := hml
  have N0 := Fr.nil n0
  have K0 := Keep.refl h0 []
  obtain ⟨P, hP⟩ : ∃ P, P = own_P below s (fun v h L => v = some (.int 1) ∧ Fr n0 L) room_1.cells room_1.slots := ⟨_, rfl⟩
  rw [← hP]
  refine own_cast (ef_0 m p0 p1 p2 p3 p4) ?_
  refine own_go (T' := s₁) (f' := (mkF m 6 #[.val (.int p0), .val (.int p1), .val (.int p2), .val (.int p3), .val (.int p4), .unset, .unset, .unset, .unset, .unset, .unset, .unset, .unset, .unset] [(.int ((p0 &&& (15 : Int32)) + (1 : Int32)))])) (fun t kt => ?_) ?_
  · show Steps p.tables e below (s₁.setTop (mkF m 0 #[.val (.int p0), .val (.int p1), .val (.int p2), .val (.int p3), .val (.int p4), .unset, .unset, .unset, .unset, .unset, .unset, .unset, .unset, .unset] [])) t
    refine XS.iloadN X0.here hx rfl (hb hby at_0) rfl ?_
    show Steps p.tables e below (s₁.setTop (mkF m 1 #[.val (.int p0), .val (.int p1), .val (.int p2), .val (.int p3), .val (.int p4), .unset, .unset, .unset, .unset, .unset, .unset, .unset, .unset, .unset] [(.int p0)])) t
    refine XS.bipush X0.here hx rfl (hb hby at_1) ?_
    show Steps p.tables e below (s₁.setTop (mkF m 3 #[.val (.int p0), .val (.int p1), .val (.int p2), .val (.int p3), .val (.int p4), .unset, .unset, .unset, .unset, .unset, .unset, .unset, .unset, .unset] [(.int (15 : Int32)), (.int p0)])) t
    refine XS.iand X0.here hx rfl (hb hby at_3) rfl ?_
    show Steps p.tables e below (s₁.setTop (mkF m 4 #[.val (.int p0), .val (.int p1), .val (.int p2), .val (.int p3), .val (.int p4), .unset, .unset, .unset, .unset, .unset, .unset, .unset, .unset, .unset] [(.int (p0 &&& (15 : Int32)))])) t
    refine XS.iconst X0.here hx rfl (hb hby at_4) ?_
    show Steps p.tables e below (s₁.setTop (mkF m 5 #[.val (.int p0), .val (.int p1), .val (.int p2), .val (.int p3), .val (.int p4), .unset, .unset, .unset, .unset, .unset, .unset, .unset, .unset, .unset] [(.int (1 : Int32)), (.int (p0 &&& (15 : Int32)))])) t
    refine XS.iadd X0.here hx rfl (hb hby at_5) rfl ?_
    show Steps p.tables e below (s₁.setTop (mkF m 6 #[.val (.int p0), .val (.int p1), .val (.int p2), .val (.int p3), .val (.int p4), .unset, .unset, .unset, .unset, .unset, .unset, .unset, .unset, .unset] [(.int ((p0 &&& (15 : Int32)) + (1 : Int32)))])) t
    exact kt
  obtain ⟨nn, hnn⟩ : ∃ z, z = ((p0 &&& (15 : Int32)) + (1 : Int32)) := ⟨_, rfl⟩
  rw [← hnn]
  refine own_go (T' := s₁) (f' := (mkF m 16 #[.val (.int p0), .val (.int p1), .val (.int p2), .val (.int p3), .val (.int p4), .val (.int nn), .unset, .unset, .unset, .unset, .unset, .unset, .unset, .unset] [(.int ((p1 &&& (255 : Int32)) % nn))])) (fun t kt => ?_) ?_
  · show Steps p.tables e below (s₁.setTop (mkF m 6 #[.val (.int p0), .val (.int p1), .val (.int p2), .val (.int p3), .val (.int p4), .unset, .unset, .unset, .unset, .unset, .unset, .unset, .unset, .unset] [(.int nn)])) t
    refine XS.istore X0.here hx rfl (hb hby at_6) rfl (l' := #[.val (.int p0), .val (.int p1), .val (.int p2), .val (.int p3), .val (.int p4), .val (.int nn), .unset, .unset, .unset, .unset, .unset, .unset, .unset, .unset]) rfl ?_
    show Steps p.tables e below (s₁.setTop (mkF m 8 #[.val (.int p0), .val (.int p1), .val (.int p2), .val (.int p3), .val (.int p4), .val (.int nn), .unset, .unset, .unset, .unset, .unset, .unset, .unset, .unset] [])) t
    refine XS.iloadN X0.here hx rfl (hb hby at_8) rfl ?_
    show Steps p.tables e below (s₁.setTop (mkF m 9 #[.val (.int p0), .val (.int p1), .val (.int p2), .val (.int p3), .val (.int p4), .val (.int nn), .unset, .unset, .unset, .unset, .unset, .unset, .unset, .unset] [(.int p1)])) t
    refine XS.sipush X0.here hx rfl (hb hby at_9) ?_
    show Steps p.tables e below (s₁.setTop (mkF m 12 #[.val (.int p0), .val (.int p1), .val (.int p2), .val (.int p3), .val (.int p4), .val (.int nn), .unset, .unset, .unset, .unset, .unset, .unset, .unset, .unset] [(.int (255 : Int32)), (.int p1)])) t
    refine XS.iand X0.here hx rfl (hb hby at_12) rfl ?_
    show Steps p.tables e below (s₁.setTop (mkF m 13 #[.val (.int p0), .val (.int p1), .val (.int p2), .val (.int p3), .val (.int p4), .val (.int nn), .unset, .unset, .unset, .unset, .unset, .unset, .unset, .unset] [(.int (p1 &&& (255 : Int32)))])) t
    refine XS.iload X0.here hx rfl (hb hby at_13) rfl ?_
    show Steps p.tables e below (s₁.setTop (mkF m 15 #[.val (.int p0), .val (.int p1), .val (.int p2), .val (.int p3), .val (.int p4), .val (.int nn), .unset, .unset, .unset, .unset, .unset, .unset, .unset, .unset] [(.int nn), (.int (p1 &&& (255 : Int32)))])) t
    refine iremM X0 hx rfl (hb hby at_15) rfl (own_nz (own_nn hnn).1) ?_
    show Steps p.tables e below (s₁.setTop (mkF m 16 #[.val (.int p0), .val (.int p1), .val (.int p2), .val (.int p3), .val (.int p4), .val (.int nn), .unset, .unset, .unset, .unset, .unset, .unset, .unset, .unset] [(.int ((p1 &&& (255 : Int32)) % nn))])) t
    exact kt
  obtain ⟨va, hva⟩ : ∃ z, z = ((p1 &&& (255 : Int32)) % nn) := ⟨_, rfl⟩
  rw [← hva]
  refine own_go (T' := s₁) (f' := (mkF m 29 #[.val (.int p0), .val (.int p1), .val (.int p2), .val (.int p3), .val (.int p4), .val (.int nn), .val (.int va), .unset, .unset, .unset, .unset, .unset, .unset, .unset] [(.int ((((p1.toUInt32 >>> ((8 : Int32) &&& 31).toUInt32).toInt32) &&& (255 : Int32)) % nn))])) (fun t kt => ?_) ?_
  · show Steps p.tables e below (s₁.setTop (mkF m 16 #[.val (.int p0), .val (.int p1), .val (.int p2), .val (.int p3), .val (.int p4), .val (.int nn), .unset, .unset, .unset, .unset, .unset, .unset, .unset, .unset] [(.int va)])) t
    refine XS.istore X0.here hx rfl (hb hby at_16) rfl (l' := #[.val (.int p0), .val (.int p1), .val (.int p2), .val (.int p3), .val (.int p4), .val (.int nn), .val (.int va), .unset, .unset, .unset, .unset, .unset, .unset, .unset]) rfl ?_
    show Steps p.tables e below (s₁.setTop (mkF m 18 #[.val (.int p0), .val (.int p1), .val (.int p2), .val (.int p3), .val (.int p4), .val (.int nn), .val (.int va), .unset, .unset, .unset, .unset, .unset, .unset, .unset] [])) t
    refine XS.iloadN X0.here hx rfl (hb hby at_18) rfl ?_
    show Steps p.tables e below (s₁.setTop (mkF m 19 #[.val (.int p0), .val (.int p1), .val (.int p2), .val (.int p3), .val (.int p4), .val (.int nn), .val (.int va), .unset, .unset, .unset, .unset, .unset, .unset, .unset] [(.int p1)])) t
    refine XS.bipush X0.here hx rfl (hb hby at_19) ?_
    show Steps p.tables e below (s₁.setTop (mkF m 21 #[.val (.int p0), .val (.int p1), .val (.int p2), .val (.int p3), .val (.int p4), .val (.int nn), .val (.int va), .unset, .unset, .unset, .unset, .unset, .unset, .unset] [(.int (8 : Int32)), (.int p1)])) t
    refine XS.iushr X0.here hx rfl (hb hby at_21) rfl ?_
    show Steps p.tables e below (s₁.setTop (mkF m 22 #[.val (.int p0), .val (.int p1), .val (.int p2), .val (.int p3), .val (.int p4), .val (.int nn), .val (.int va), .unset, .unset, .unset, .unset, .unset, .unset, .unset] [(.int ((p1.toUInt32 >>> ((8 : Int32) &&& 31).toUInt32).toInt32))])) t
    refine XS.sipush X0.here hx rfl (hb hby at_22) ?_
    show Steps p.tables e below (s₁.setTop (mkF m 25 #[.val (.int p0), .val (.int p1), .val (.int p2), .val (.int p3), .val (.int p4), .val (.int nn), .val (.int va), .unset, .unset, .unset, .unset, .unset, .unset, .unset] [(.int (255 : Int32)), (.int ((p1.toUInt32 >>> ((8 : Int32) &&& 31).toUInt32).toInt32))])) t
    refine XS.iand X0.here hx rfl (hb hby at_25) rfl ?_
    show Steps p.tables e below (s₁.setTop (mkF m 26 #[.val (.int p0), .val (.int p1), .val (.int p2), .val (.int p3), .val (.int p4), .val (.int nn), .val (.int va), .unset, .unset, .unset, .unset, .unset, .unset, .unset] [(.int (((p1.toUInt32 >>> ((8 : Int32) &&& 31).toUInt32).toInt32) &&& (255 : Int32)))])) t
    refine XS.iload X0.here hx rfl (hb hby at_26) rfl ?_
    show Steps p.tables e below (s₁.setTop (mkF m 28 #[.val (.int p0), .val (.int p1), .val (.int p2), .val (.int p3), .val (.int p4), .val (.int nn), .val (.int va), .unset, .unset, .unset, .unset, .unset, .unset, .unset] [(.int nn), (.int (((p1.toUInt32 >>> ((8 : Int32) &&& 31).toUInt32).toInt32) &&& (255 : Int32)))])) t
    refine iremM X0 hx rfl (hb hby at_28) rfl (own_nz (own_nn hnn).1) ?_
    show Steps p.tables e below (s₁.setTop (mkF m 29 #[.val (.int p0), .val (.int p1), .val (.int p2), .val (.int p3), .val (.int p4), .val (.int nn), .val (.int va), .unset, .unset, .unset, .unset, .unset, .unset, .unset] [(.int ((((p1.toUInt32 >>> ((8 : Int32) &&& 31).toUInt32).toInt32) &&& (255 : Int32)) % nn))])) t
    exact kt
  obtain ⟨vb, hvb⟩ : ∃ z, z = ((((p1.toUInt32 >>> ((8 : Int32) &&& 31).toUInt32).toInt32) &&& (255 : Int32)) % nn) := ⟨_, rfl⟩
  rw [← hvb]
  refine own_go (T' := s₁) (f' := (mkF m 41 #[.val (.int p0), .val (.int p1), .val (.int p2), .val (.int p3), .val (.int p4), .val (.int nn), .val (.int va), .val (.int vb), .unset, .unset, .unset, .unset, .unset, .unset] [(.int ((p2 &&& (255 : Int32)) % (nn + (1 : Int32))))])) (fun t kt => ?_) ?_
  · show Steps p.tables e below (s₁.setTop (mkF m 29 #[.val (.int p0), .val (.int p1), .val (.int p2), .val (.int p3), .val (.int p4), .val (.int nn), .val (.int va), .unset, .unset, .unset, .unset, .unset, .unset, .unset] [(.int vb)])) t
    refine XS.istore X0.here hx rfl (hb hby at_29) rfl (l' := #[.val (.int p0), .val (.int p1), .val (.int p2), .val (.int p3), .val (.int p4), .val (.int nn), .val (.int va), .val (.int vb), .unset, .unset, .unset, .unset, .unset, .unset]) rfl ?_
    show Steps p.tables e below (s₁.setTop (mkF m 31 #[.val (.int p0), .val (.int p1), .val (.int p2), .val (.int p3), .val (.int p4), .val (.int nn), .val (.int va), .val (.int vb), .unset, .unset, .unset, .unset, .unset, .unset] [])) t
    refine XS.iloadN X0.here hx rfl (hb hby at_31) rfl ?_
    show Steps p.tables e below (s₁.setTop (mkF m 32 #[.val (.int p0), .val (.int p1), .val (.int p2), .val (.int p3), .val (.int p4), .val (.int nn), .val (.int va), .val (.int vb), .unset, .unset, .unset, .unset, .unset, .unset] [(.int p2)])) t
    refine XS.sipush X0.here hx rfl (hb hby at_32) ?_
    show Steps p.tables e below (s₁.setTop (mkF m 35 #[.val (.int p0), .val (.int p1), .val (.int p2), .val (.int p3), .val (.int p4), .val (.int nn), .val (.int va), .val (.int vb), .unset, .unset, .unset, .unset, .unset, .unset] [(.int (255 : Int32)), (.int p2)])) t
    refine XS.iand X0.here hx rfl (hb hby at_35) rfl ?_
    show Steps p.tables e below (s₁.setTop (mkF m 36 #[.val (.int p0), .val (.int p1), .val (.int p2), .val (.int p3), .val (.int p4), .val (.int nn), .val (.int va), .val (.int vb), .unset, .unset, .unset, .unset, .unset, .unset] [(.int (p2 &&& (255 : Int32)))])) t
    refine XS.iload X0.here hx rfl (hb hby at_36) rfl ?_
    show Steps p.tables e below (s₁.setTop (mkF m 38 #[.val (.int p0), .val (.int p1), .val (.int p2), .val (.int p3), .val (.int p4), .val (.int nn), .val (.int va), .val (.int vb), .unset, .unset, .unset, .unset, .unset, .unset] [(.int nn), (.int (p2 &&& (255 : Int32)))])) t
    refine XS.iconst X0.here hx rfl (hb hby at_38) ?_
    show Steps p.tables e below (s₁.setTop (mkF m 39 #[.val (.int p0), .val (.int p1), .val (.int p2), .val (.int p3), .val (.int p4), .val (.int nn), .val (.int va), .val (.int vb), .unset, .unset, .unset, .unset, .unset, .unset] [(.int (1 : Int32)), (.int nn), (.int (p2 &&& (255 : Int32)))])) t
    refine XS.iadd X0.here hx rfl (hb hby at_39) rfl ?_
    show Steps p.tables e below (s₁.setTop (mkF m 40 #[.val (.int p0), .val (.int p1), .val (.int p2), .val (.int p3), .val (.int p4), .val (.int nn), .val (.int va), .val (.int vb), .unset, .unset, .unset, .unset, .unset, .unset] [(.int (nn + (1 : Int32))), (.int (p2 &&& (255 : Int32)))])) t
    refine iremM X0 hx rfl (hb hby at_40) rfl (own_nz (by rw [own_nn1 (own_nn hnn)]; have := (own_nn hnn); omega)) ?_
    show Steps p.tables e below (s₁.setTop (mkF m 41 #[.val (.int p0), .val (.int p1), .val (.int p2), .val (.int p3), .val (.int p4), .val (.int nn), .val (.int va), .val (.int vb), .unset, .unset, .unset, .unset, .unset, .unset] [(.int ((p2 &&& (255 : Int32)) % (nn + (1 : Int32))))])) t
    exact kt
  obtain ⟨vq, hvq⟩ : ∃ z, z = ((p2 &&& (255 : Int32)) % (nn + (1 : Int32))) := ⟨_, rfl⟩
  rw [← hvq]
  refine own_go (T' := s₁) (f' := (mkF m 56 #[.val (.int p0), .val (.int p1), .val (.int p2), .val (.int p3), .val (.int p4), .val (.int nn), .val (.int va), .val (.int vb), .val (.int vq), .unset, .unset, .unset, .unset, .unset] [(.int ((((p2.toUInt32 >>> ((8 : Int32) &&& 31).toUInt32).toInt32) &&& (255 : Int32)) % (nn + (1 : Int32))))])) (fun t kt => ?_) ?_
  · show Steps p.tables e below (s₁.setTop (mkF m 41 #[.val (.int p0), .val (.int p1), .val (.int p2), .val (.int p3), .val (.int p4), .val (.int nn), .val (.int va), .val (.int vb), .unset, .unset, .unset, .unset, .unset, .unset] [(.int vq)])) t
    refine XS.istore X0.here hx rfl (hb hby at_41) rfl (l' := #[.val (.int p0), .val (.int p1), .val (.int p2), .val (.int p3), .val (.int p4), .val (.int nn), .val (.int va), .val (.int vb), .val (.int vq), .unset, .unset, .unset, .unset, .unset]) rfl ?_
    show Steps p.tables e below (s₁.setTop (mkF m 43 #[.val (.int p0), .val (.int p1), .val (.int p2), .val (.int p3), .val (.int p4), .val (.int nn), .val (.int va), .val (.int vb), .val (.int vq), .unset, .unset, .unset, .unset, .unset] [])) t
    refine XS.iloadN X0.here hx rfl (hb hby at_43) rfl ?_
    show Steps p.tables e below (s₁.setTop (mkF m 44 #[.val (.int p0), .val (.int p1), .val (.int p2), .val (.int p3), .val (.int p4), .val (.int nn), .val (.int va), .val (.int vb), .val (.int vq), .unset, .unset, .unset, .unset, .unset] [(.int p2)])) t
    refine XS.bipush X0.here hx rfl (hb hby at_44) ?_
    show Steps p.tables e below (s₁.setTop (mkF m 46 #[.val (.int p0), .val (.int p1), .val (.int p2), .val (.int p3), .val (.int p4), .val (.int nn), .val (.int va), .val (.int vb), .val (.int vq), .unset, .unset, .unset, .unset, .unset] [(.int (8 : Int32)), (.int p2)])) t
    refine XS.iushr X0.here hx rfl (hb hby at_46) rfl ?_
    show Steps p.tables e below (s₁.setTop (mkF m 47 #[.val (.int p0), .val (.int p1), .val (.int p2), .val (.int p3), .val (.int p4), .val (.int nn), .val (.int va), .val (.int vb), .val (.int vq), .unset, .unset, .unset, .unset, .unset] [(.int ((p2.toUInt32 >>> ((8 : Int32) &&& 31).toUInt32).toInt32))])) t
    refine XS.sipush X0.here hx rfl (hb hby at_47) ?_
    show Steps p.tables e below (s₁.setTop (mkF m 50 #[.val (.int p0), .val (.int p1), .val (.int p2), .val (.int p3), .val (.int p4), .val (.int nn), .val (.int va), .val (.int vb), .val (.int vq), .unset, .unset, .unset, .unset, .unset] [(.int (255 : Int32)), (.int ((p2.toUInt32 >>> ((8 : Int32) &&& 31).toUInt32).toInt32))])) t
    refine XS.iand X0.here hx rfl (hb hby at_50) rfl ?_
    show Steps p.tables e below (s₁.setTop (mkF m 51 #[.val (.int p0), .val (.int p1), .val (.int p2), .val (.int p3), .val (.int p4), .val (.int nn), .val (.int va), .val (.int vb), .val (.int vq), .unset, .unset, .unset, .unset, .unset] [(.int (((p2.toUInt32 >>> ((8 : Int32) &&& 31).toUInt32).toInt32) &&& (255 : Int32)))])) t
    refine XS.iload X0.here hx rfl (hb hby at_51) rfl ?_
    show Steps p.tables e below (s₁.setTop (mkF m 53 #[.val (.int p0), .val (.int p1), .val (.int p2), .val (.int p3), .val (.int p4), .val (.int nn), .val (.int va), .val (.int vb), .val (.int vq), .unset, .unset, .unset, .unset, .unset] [(.int nn), (.int (((p2.toUInt32 >>> ((8 : Int32) &&& 31).toUInt32).toInt32) &&& (255 : Int32)))])) t
    refine XS.iconst X0.here hx rfl (hb hby at_53) ?_
    show Steps p.tables e below (s₁.setTop (mkF m 54 #[.val (.int p0), .val (.int p1), .val (.int p2), .val (.int p3), .val (.int p4), .val (.int nn), .val (.int va), .val (.int vb), .val (.int vq), .unset, .unset, .unset, .unset, .unset] [(.int (1 : Int32)), (.int nn), (.int (((p2.toUInt32 >>> ((8 : Int32) &&& 31).toUInt32).toInt32) &&& (255 : Int32)))])) t
    refine XS.iadd X0.here hx rfl (hb hby at_54) rfl ?_
    show Steps p.tables e below (s₁.setTop (mkF m 55 #[.val (.int p0), .val (.int p1), .val (.int p2), .val (.int p3), .val (.int p4), .val (.int nn), .val (.int va), .val (.int vb), .val (.int vq), .unset, .unset, .unset, .unset, .unset] [(.int (nn + (1 : Int32))), (.int (((p2.toUInt32 >>> ((8 : Int32) &&& 31).toUInt32).toInt32) &&& (255 : Int32)))])) t
    refine iremM X0 hx rfl (hb hby at_55) rfl (own_nz (by rw [own_nn1 (own_nn hnn)]; have := (own_nn hnn); omega)) ?_
    show Steps p.tables e below (s₁.setTop (mkF m 56 #[.val (.int p0), .val (.int p1), .val (.int p2), .val (.int p3), .val (.int p4), .val (.int nn), .val (.int va), .val (.int vb), .val (.int vq), .unset, .unset, .unset, .unset, .unset] [(.int ((((p2.toUInt32 >>> ((8 : Int32) &&& 31).toUInt32).toInt32) &&& (255 : Int32)) % (nn + (1 : Int32))))])) t
    exact kt
  obtain ⟨vr, hvr⟩ : ∃ z, z = ((((p2.toUInt32 >>> ((8 : Int32) &&& 31).toUInt32).toInt32) &&& (255 : Int32)) % (nn + (1 : Int32))) := ⟨_, rfl⟩
  rw [← hvr]
  refine own_go (T' := s₁) (f' := (mkF m 58 #[.val (.int p0), .val (.int p1), .val (.int p2), .val (.int p3), .val (.int p4), .val (.int nn), .val (.int va), .val (.int vb), .val (.int vq), .val (.int vr), .unset, .unset, .unset, .unset] [])) (fun t kt => ?_) ?_
  · show Steps p.tables e below (s₁.setTop (mkF m 56 #[.val (.int p0), .val (.int p1), .val (.int p2), .val (.int p3), .val (.int p4), .val (.int nn), .val (.int va), .val (.int vb), .val (.int vq), .unset, .unset, .unset, .unset, .unset] [(.int vr)])) t
    refine XS.istore X0.here hx rfl (hb hby at_56) rfl (l' := #[.val (.int p0), .val (.int p1), .val (.int p2), .val (.int p3), .val (.int p4), .val (.int nn), .val (.int va), .val (.int vb), .val (.int vq), .val (.int vr), .unset, .unset, .unset, .unset]) rfl ?_
    show Steps p.tables e below (s₁.setTop (mkF m 58 #[.val (.int p0), .val (.int p1), .val (.int p2), .val (.int p3), .val (.int p4), .val (.int nn), .val (.int va), .val (.int vb), .val (.int vq), .val (.int vr), .unset, .unset, .unset, .unset] [])) t
    exact kt
  obtain ⟨T1, h1, X1, e1, E1, A1, D1, U1, st1⟩ := newO X0 hx hZ hown (hw _ (List.mem_of_getElem? (i := 0) rfl)) (hw _ (List.mem_of_getElem? (i := 1) rfl)) (hw _ (List.mem_of_getElem? (i := 2) rfl)) e0 (g := (mkF m 58 #[.val (.int p0), .val (.int p1), .val (.int p2), .val (.int p3), .val (.int p4), .val (.int nn), .val (.int va), .val (.int vb), .val (.int vq), .val (.int vr), .unset, .unset, .unset, .unset] [])) rfl (hb hby at_58) (by decide) (by decide)
  obtain ⟨b1, y1⟩ : ∃ z, z = h0.size := ⟨_, rfl⟩
  rw [← y1] at A1 D1 U1 st1
  have g_b1 : n0 ≤ b1 := Nat.le_trans Z0 (Nat.le_of_eq y1.symm)
  have sz_b1 : h0.size ≤ b1 := Nat.le_trans K0.1 (Nat.le_of_eq y1.symm)
  have ZE1 : n0 ≤ h1.size := Nat.le_trans Z0 E1.1
  have KKE1 := K0.ext E1
  refine own_go st1 ?_
  have K_b1 := own_K_new U1
  refine own_go (T' := T1) (f' := (mkF m 64 #[.val (.int p0), .val (.int p1), .val (.int p2), .val (.int p3), .val (.int p4), .val (.int nn), .val (.int va), .val (.int vb), .val (.int vq), .val (.int vr), .unset, .unset, .unset, .unset] [(.int nn), (.ref b1), (.ref b1)])) (fun t kt => ?_) ?_
  · show Steps p.tables e below (T1.setTop (mkF m 61 #[.val (.int p0), .val (.int p1), .val (.int p2), .val (.int p3), .val (.int p4), .val (.int nn), .val (.int va), .val (.int vb), .val (.int vq), .val (.int vr), .unset, .unset, .unset, .unset] [(.ref b1)])) t
    refine XS.dup X1.here hx rfl (hb hby at_61) rfl rfl ?_
    show Steps p.tables e below (T1.setTop (mkF m 62 #[.val (.int p0), .val (.int p1), .val (.int p2), .val (.int p3), .val (.int p4), .val (.int nn), .val (.int va), .val (.int vb), .val (.int vq), .val (.int vr), .unset, .unset, .unset, .unset] [(.ref b1), (.ref b1)])) t
    refine XS.iload X1.here hx rfl (hb hby at_62) rfl ?_
    show Steps p.tables e below (T1.setTop (mkF m 64 #[.val (.int p0), .val (.int p1), .val (.int p2), .val (.int p3), .val (.int p4), .val (.int nn), .val (.int va), .val (.int vb), .val (.int vq), .val (.int vr), .unset, .unset, .unset, .unset] [(.int nn), (.ref b1), (.ref b1)])) t
    exact kt
  have lt2_b1 := A1.lt
  refine own_callC X1 hx hZ hown e1 rfl (hw _ (List.mem_of_getElem? (i := 3) rfl)) (hw _ (List.mem_of_getElem? (i := 4) rfl)) (hw _ (List.mem_of_getElem? (i := 2) rfl)) (hw _ (List.mem_of_getElem? (i := 5) rfl)) (by decide) (rm1 l Z aw hw b1 nn h1 n0 ZE1 A1 K_b1 g_b1 (own_nn hnn)) (g := (mkF m 64 #[.val (.int p0), .val (.int p1), .val (.int p2), .val (.int p3), .val (.int p4), .val (.int nn), .val (.int va), .val (.int vb), .val (.int vq), .val (.int vr), .unset, .unset, .unset, .unset] [(.int nn), (.ref b1), (.ref b1)])) rfl (by rw [hml]; rfl) (argsL := [(.int nn)]) (rest := [(.ref b1)]) (lenOf pd_0 rfl) rfl rfl (W := 1) (by show 2 * 0 + _ ≤ _; exact Nat.le_of_eq rfl) (hb hby at_64) (by decide) (by decide) (by decide) (by decide) ?_
  rintro _ T2 L2 X2 ⟨rfl, Nq2, Kq2, Pq2_0, Pq2_1⟩
  have N2 := Fr.app N0 Nq2
  replace A1 := (A1.keep Kq2)
  replace K_b1 := own_K_keep K_b1 Kq2
  have ZKq2 : n0 ≤ T2.heap.size := Nat.le_trans ZE1 Kq2.1
  have KKKq2 := KKE1.trans Kq2 ((allS (Or.inr sz_b1) all0))
  obtain ⟨r2, g_r2, z_r2, F_r2, Ar_r2⟩ := Pq2_1
  have ne_b1_r2 : b1 ≠ r2 := Nat.ne_of_lt (Nat.lt_of_lt_of_le lt2_b1 z_r2)
  have ne_r2_b1 := ne_b1_r2.symm
  have sz_r2 : h0.size ≤ r2 := Nat.le_trans KKE1.1 z_r2
  refine own_go (T' := T2) (f' := (mkF m 74 #[.val (.int p0), .val (.int p1), .val (.int p2), .val (.int p3), .val (.int p4), .val (.int nn), .val (.int va), .val (.int vb), .val (.int vq), .val (.int vr), .val (.ref b1), .unset, .unset, .unset] [(.int p3), (.int va), (.ref b1)])) (fun t kt => ?_) ?_
  · show Steps p.tables e below (T2.setTop (mkF m 67 #[.val (.int p0), .val (.int p1), .val (.int p2), .val (.int p3), .val (.int p4), .val (.int nn), .val (.int va), .val (.int vb), .val (.int vq), .val (.int vr), .unset, .unset, .unset, .unset] [(.ref b1)])) t
    refine XS.astore X2.here hx rfl (hb hby at_67) rfl rfl (l' := #[.val (.int p0), .val (.int p1), .val (.int p2), .val (.int p3), .val (.int p4), .val (.int nn), .val (.int va), .val (.int vb), .val (.int vq), .val (.int vr), .val (.ref b1), .unset, .unset, .unset]) rfl ?_
    show Steps p.tables e below (T2.setTop (mkF m 69 #[.val (.int p0), .val (.int p1), .val (.int p2), .val (.int p3), .val (.int p4), .val (.int nn), .val (.int va), .val (.int vb), .val (.int vq), .val (.int vr), .val (.ref b1), .unset, .unset, .unset] [])) t
    refine XS.aload X2.here hx rfl (hb hby at_69) rfl rfl ?_
    show Steps p.tables e below (T2.setTop (mkF m 71 #[.val (.int p0), .val (.int p1), .val (.int p2), .val (.int p3), .val (.int p4), .val (.int nn), .val (.int va), .val (.int vb), .val (.int vq), .val (.int vr), .val (.ref b1), .unset, .unset, .unset] [(.ref b1)])) t
    refine XS.iload X2.here hx rfl (hb hby at_71) rfl ?_
    show Steps p.tables e below (T2.setTop (mkF m 73 #[.val (.int p0), .val (.int p1), .val (.int p2), .val (.int p3), .val (.int p4), .val (.int nn), .val (.int va), .val (.int vb), .val (.int vq), .val (.int vr), .val (.ref b1), .unset, .unset, .unset] [(.int va), (.ref b1)])) t
    refine XS.iloadN X2.here hx rfl (hb hby at_73) rfl ?_
    show Steps p.tables e below (T2.setTop (mkF m 74 #[.val (.int p0), .val (.int p1), .val (.int p2), .val (.int p3), .val (.int p4), .val (.int nn), .val (.int va), .val (.int vb), .val (.int vq), .val (.int vr), .val (.ref b1), .unset, .unset, .unset] [(.int p3), (.int va), (.ref b1)])) t
    exact kt
  refine own_callV X2 hx hZ hown rfl (hw _ (List.mem_of_getElem? (i := 12) rfl)) (hw _ (List.mem_of_getElem? (i := 13) rfl)) (notFace_of_selects (args := #[]) (mvT hZ (hw _ (List.mem_of_getElem? (i := 15) rfl)))) (hw _ (List.mem_of_getElem? (i := 15) rfl)) (hw _ (List.mem_of_getElem? (i := 14) rfl)) (hw _ (List.mem_of_getElem? (i := 2) rfl)) (hw _ (List.mem_of_getElem? (i := 16) rfl)) (by decide) (rm3 l Z aw hw b1 va p3 r2 (nn.toInt.toNat + 1) (fun _ => (0 : Int32)) (va.toInt.toNat + 1) (nn + (1 : Int32)) T2.heap n0 ZKq2 F_r2 Ar_r2 g_r2 (by have := (own_rm hva (own_nn hnn).1); omega) (Nat.succ_pos _) (by have := (own_rm hva (own_nn hnn).1); have := (own_nn hnn); omega) (by have := (own_nn hnn); omega) (own_len (own_nn hnn)) (ne_b1_r2)) Pq2_0 (g := (mkF m 74 #[.val (.int p0), .val (.int p1), .val (.int p2), .val (.int p3), .val (.int p4), .val (.int nn), .val (.int va), .val (.int vb), .val (.int vq), .val (.int vr), .val (.ref b1), .unset, .unset, .unset] [(.int p3), (.int va), (.ref b1)])) rfl (by rw [hml]; rfl) (argsL := [(.int va), (.int p3)]) (rest := []) (lenOf pd_1 rfl) rfl rfl (W := 0) (by show 2 * 0 + _ ≤ _; exact Nat.le_of_eq rfl) (hb hby at_74) (by decide) (by decide) (by decide) (by decide) ?_
  rintro _ T3 L3 X3 ⟨rfl, Nq3, Kq3, Pq3_0⟩
  have N3 := Fr.app N2 Nq3
  replace Pq2_0 := (Pq2_0.keep Kq3)
  replace F_r2 := (F_r2.keep Kq3 (ninS (ne_b1_r2) nin0))
  have ZKq3 : n0 ≤ T3.heap.size := Nat.le_trans ZKq2 Kq3.1
  have KKKq3 := KKKq2.trans Kq3 ((allS (Or.inr sz_r2) all0))
  obtain ⟨f1, hf1⟩ : ∃ z, z = (own_add (fun _ => (0 : Int32)) (va.toInt.toNat + 1) p3) := ⟨_, rfl⟩
  rw [← hf1] at Pq3_0
  refine own_go (T' := T3) (f' := (mkF m 83 #[.val (.int p0), .val (.int p1), .val (.int p2), .val (.int p3), .val (.int p4), .val (.int nn), .val (.int va), .val (.int vb), .val (.int vq), .val (.int vr), .val (.ref b1), .unset, .unset, .unset] [(.int p4), (.int vb), (.ref b1)])) (fun t kt => ?_) ?_
  · show Steps p.tables e below (T3.setTop (mkF m 77 #[.val (.int p0), .val (.int p1), .val (.int p2), .val (.int p3), .val (.int p4), .val (.int nn), .val (.int va), .val (.int vb), .val (.int vq), .val (.int vr), .val (.ref b1), .unset, .unset, .unset] [])) t
    refine XS.aload X3.here hx rfl (hb hby at_77) rfl rfl ?_
    show Steps p.tables e below (T3.setTop (mkF m 79 #[.val (.int p0), .val (.int p1), .val (.int p2), .val (.int p3), .val (.int p4), .val (.int nn), .val (.int va), .val (.int vb), .val (.int vq), .val (.int vr), .val (.ref b1), .unset, .unset, .unset] [(.ref b1)])) t
    refine XS.iload X3.here hx rfl (hb hby at_79) rfl ?_
    show Steps p.tables e below (T3.setTop (mkF m 81 #[.val (.int p0), .val (.int p1), .val (.int p2), .val (.int p3), .val (.int p4), .val (.int nn), .val (.int va), .val (.int vb), .val (.int vq), .val (.int vr), .val (.ref b1), .unset, .unset, .unset] [(.int vb), (.ref b1)])) t
    refine XS.iload X3.here hx rfl (hb hby at_81) rfl ?_
    show Steps p.tables e below (T3.setTop (mkF m 83 #[.val (.int p0), .val (.int p1), .val (.int p2), .val (.int p3), .val (.int p4), .val (.int nn), .val (.int va), .val (.int vb), .val (.int vq), .val (.int vr), .val (.ref b1), .unset, .unset, .unset] [(.int p4), (.int vb), (.ref b1)])) t
    exact kt
  refine own_callV X3 hx hZ hown rfl (hw _ (List.mem_of_getElem? (i := 12) rfl)) (hw _ (List.mem_of_getElem? (i := 13) rfl)) (notFace_of_selects (args := #[]) (mvT hZ (hw _ (List.mem_of_getElem? (i := 15) rfl)))) (hw _ (List.mem_of_getElem? (i := 15) rfl)) (hw _ (List.mem_of_getElem? (i := 14) rfl)) (hw _ (List.mem_of_getElem? (i := 2) rfl)) (hw _ (List.mem_of_getElem? (i := 16) rfl)) (by decide) (rm3 l Z aw hw b1 vb p4 r2 (nn.toInt.toNat + 1) f1 (vb.toInt.toNat + 1) (nn + (1 : Int32)) T3.heap n0 ZKq3 F_r2 Pq3_0 g_r2 (by have := (own_rm hvb (own_nn hnn).1); omega) (Nat.succ_pos _) (by have := (own_rm hvb (own_nn hnn).1); have := (own_nn hnn); omega) (by have := (own_nn hnn); omega) (own_len (own_nn hnn)) (ne_b1_r2)) Pq2_0 (g := (mkF m 83 #[.val (.int p0), .val (.int p1), .val (.int p2), .val (.int p3), .val (.int p4), .val (.int nn), .val (.int va), .val (.int vb), .val (.int vq), .val (.int vr), .val (.ref b1), .unset, .unset, .unset] [(.int p4), (.int vb), (.ref b1)])) rfl (by rw [hml]; rfl) (argsL := [(.int vb), (.int p4)]) (rest := []) (lenOf pd_1 rfl) rfl rfl (W := 0) (by show 2 * 0 + _ ≤ _; exact Nat.le_of_eq rfl) (hb hby at_83) (by decide) (by decide) (by decide) (by decide) ?_
  rintro _ T4 L4 X4 ⟨rfl, Nq4, Kq4, Pq4_0⟩
  have N4 := Fr.app N3 Nq4
  replace Pq2_0 := (Pq2_0.keep Kq4)
  replace F_r2 := (F_r2.keep Kq4 (ninS (ne_b1_r2) nin0))
  have ZKq4 : n0 ≤ T4.heap.size := Nat.le_trans ZKq3 Kq4.1
  have KKKq4 := KKKq3.trans Kq4 ((allS (Or.inr sz_r2) all0))
  obtain ⟨f2, hf2⟩ : ∃ z, z = (own_add f1 (vb.toInt.toNat + 1) p4) := ⟨_, rfl⟩
  rw [← hf2] at Pq4_0
  refine own_go (T' := T4) (f' := (mkF m 90 #[.val (.int p0), .val (.int p1), .val (.int p2), .val (.int p3), .val (.int p4), .val (.int nn), .val (.int va), .val (.int vb), .val (.int vq), .val (.int vr), .val (.ref b1), .unset, .unset, .unset] [(.int vq), (.ref b1)])) (fun t kt => ?_) ?_
  · show Steps p.tables e below (T4.setTop (mkF m 86 #[.val (.int p0), .val (.int p1), .val (.int p2), .val (.int p3), .val (.int p4), .val (.int nn), .val (.int va), .val (.int vb), .val (.int vq), .val (.int vr), .val (.ref b1), .unset, .unset, .unset] [])) t
    refine XS.aload X4.here hx rfl (hb hby at_86) rfl rfl ?_
    show Steps p.tables e below (T4.setTop (mkF m 88 #[.val (.int p0), .val (.int p1), .val (.int p2), .val (.int p3), .val (.int p4), .val (.int nn), .val (.int va), .val (.int vb), .val (.int vq), .val (.int vr), .val (.ref b1), .unset, .unset, .unset] [(.ref b1)])) t
    refine XS.iload X4.here hx rfl (hb hby at_88) rfl ?_
    show Steps p.tables e below (T4.setTop (mkF m 90 #[.val (.int p0), .val (.int p1), .val (.int p2), .val (.int p3), .val (.int p4), .val (.int nn), .val (.int va), .val (.int vb), .val (.int vq), .val (.int vr), .val (.ref b1), .unset, .unset, .unset] [(.int vq), (.ref b1)])) t
    exact kt
  refine own_callVp X4 hx hZ hown rfl (hw _ (List.mem_of_getElem? (i := 17) rfl)) (hw _ (List.mem_of_getElem? (i := 18) rfl)) (notFace_of_selects (args := #[]) (mvT hZ (hw _ (List.mem_of_getElem? (i := 20) rfl)))) (hw _ (List.mem_of_getElem? (i := 20) rfl)) (hw _ (List.mem_of_getElem? (i := 19) rfl)) (hw _ (List.mem_of_getElem? (i := 2) rfl)) (hw _ (List.mem_of_getElem? (i := 21) rfl)) (by decide) (rm4 l Z aw hw b1 vq r2 (nn.toInt.toNat + 1) f2 vq.toInt.toNat (va.toInt.toNat + 1) (vb.toInt.toNat + 1) p3 p4 T4.heap n0 ZKq4 F_r2 Pq4_0 (by have := (own_rm hvq (by rw [own_nn1 (own_nn hnn)]; have := (own_nn hnn); omega)); omega) (by have := (own_rm hvq (by rw [own_nn1 (own_nn hnn)]; have := (own_nn hnn); omega)); have := own_nn1 (own_nn hnn); have := (own_nn hnn); omega) (by have := (own_nn hnn); omega) (Nat.succ_pos _) (Nat.succ_pos _) (by rw [hf2, hf1])) Pq2_0 (g := (mkF m 90 #[.val (.int p0), .val (.int p1), .val (.int p2), .val (.int p3), .val (.int p4), .val (.int nn), .val (.int va), .val (.int vb), .val (.int vq), .val (.int vr), .val (.ref b1), .unset, .unset, .unset] [(.int vq), (.ref b1)])) rfl (by rw [hml]; rfl) (argsL := [(.int vq)]) (rest := []) (lenOf pd_2 rfl) rfl rfl (W := 0) (by show 2 * 0 + _ ≤ _; exact Nat.le_of_eq rfl) (hb hby at_90) (by decide) (by decide) (by decide) (by decide) ?_
  intro T5 X5 e5
  refine own_go (T' := T5) (f' := (mkF m 99 #[.val (.int p0), .val (.int p1), .val (.int p2), .val (.int p3), .val (.int p4), .val (.int nn), .val (.int va), .val (.int vb), .val (.int vq), .val (.int vr), .val (.ref b1), .val (.int (own_cb (va.toInt.toNat + 1) (vb.toInt.toNat + 1) p3 p4 vq.toInt.toNat)), .unset, .unset] [(.int vr), (.ref b1)])) (fun t kt => ?_) ?_
  · show Steps p.tables e below (T5.setTop (mkF m 93 #[.val (.int p0), .val (.int p1), .val (.int p2), .val (.int p3), .val (.int p4), .val (.int nn), .val (.int va), .val (.int vb), .val (.int vq), .val (.int vr), .val (.ref b1), .unset, .unset, .unset] [(.int (own_cb (va.toInt.toNat + 1) (vb.toInt.toNat + 1) p3 p4 vq.toInt.toNat))])) t
    refine XS.istore X5.here hx rfl (hb hby at_93) rfl (l' := #[.val (.int p0), .val (.int p1), .val (.int p2), .val (.int p3), .val (.int p4), .val (.int nn), .val (.int va), .val (.int vb), .val (.int vq), .val (.int vr), .val (.ref b1), .val (.int (own_cb (va.toInt.toNat + 1) (vb.toInt.toNat + 1) p3 p4 vq.toInt.toNat)), .unset, .unset]) rfl ?_
    show Steps p.tables e below (T5.setTop (mkF m 95 #[.val (.int p0), .val (.int p1), .val (.int p2), .val (.int p3), .val (.int p4), .val (.int nn), .val (.int va), .val (.int vb), .val (.int vq), .val (.int vr), .val (.ref b1), .val (.int (own_cb (va.toInt.toNat + 1) (vb.toInt.toNat + 1) p3 p4 vq.toInt.toNat)), .unset, .unset] [])) t
    refine XS.aload X5.here hx rfl (hb hby at_95) rfl rfl ?_
    show Steps p.tables e below (T5.setTop (mkF m 97 #[.val (.int p0), .val (.int p1), .val (.int p2), .val (.int p3), .val (.int p4), .val (.int nn), .val (.int va), .val (.int vb), .val (.int vq), .val (.int vr), .val (.ref b1), .val (.int (own_cb (va.toInt.toNat + 1) (vb.toInt.toNat + 1) p3 p4 vq.toInt.toNat)), .unset, .unset] [(.ref b1)])) t
    refine XS.iload X5.here hx rfl (hb hby at_97) rfl ?_
    show Steps p.tables e below (T5.setTop (mkF m 99 #[.val (.int p0), .val (.int p1), .val (.int p2), .val (.int p3), .val (.int p4), .val (.int nn), .val (.int va), .val (.int vb), .val (.int vq), .val (.int vr), .val (.ref b1), .val (.int (own_cb (va.toInt.toNat + 1) (vb.toInt.toNat + 1) p3 p4 vq.toInt.toNat)), .unset, .unset] [(.int vr), (.ref b1)])) t
    exact kt
  refine own_callVp X5 hx hZ hown e5 (hw _ (List.mem_of_getElem? (i := 17) rfl)) (hw _ (List.mem_of_getElem? (i := 18) rfl)) (notFace_of_selects (args := #[]) (mvT hZ (hw _ (List.mem_of_getElem? (i := 20) rfl)))) (hw _ (List.mem_of_getElem? (i := 20) rfl)) (hw _ (List.mem_of_getElem? (i := 19) rfl)) (hw _ (List.mem_of_getElem? (i := 2) rfl)) (hw _ (List.mem_of_getElem? (i := 21) rfl)) (by decide) (rm4 l Z aw hw b1 vr r2 (nn.toInt.toNat + 1) f2 vr.toInt.toNat (va.toInt.toNat + 1) (vb.toInt.toNat + 1) p3 p4 T4.heap n0 ZKq4 F_r2 Pq4_0 (by have := (own_rm hvr (by rw [own_nn1 (own_nn hnn)]; have := (own_nn hnn); omega)); omega) (by have := (own_rm hvr (by rw [own_nn1 (own_nn hnn)]; have := (own_nn hnn); omega)); have := own_nn1 (own_nn hnn); have := (own_nn hnn); omega) (by have := (own_nn hnn); omega) (Nat.succ_pos _) (Nat.succ_pos _) (by rw [hf2, hf1])) Pq2_0 (g := (mkF m 99 #[.val (.int p0), .val (.int p1), .val (.int p2), .val (.int p3), .val (.int p4), .val (.int nn), .val (.int va), .val (.int vb), .val (.int vq), .val (.int vr), .val (.ref b1), .val (.int (own_cb (va.toInt.toNat + 1) (vb.toInt.toNat + 1) p3 p4 vq.toInt.toNat)), .unset, .unset] [(.int vr), (.ref b1)])) rfl (by rw [hml]; rfl) (argsL := [(.int vr)]) (rest := []) (lenOf pd_2 rfl) rfl rfl (W := 0) (by show 2 * 0 + _ ≤ _; exact Nat.le_of_eq rfl) (hb hby at_99) (by decide) (by decide) (by decide) (by decide) ?_
  intro T6 X6 e6
  refine own_go (T' := T6) (f' := (mkF m 108 #[.val (.int p0), .val (.int p1), .val (.int p2), .val (.int p3), .val (.int p4), .val (.int nn), .val (.int va), .val (.int vb), .val (.int vq), .val (.int vr), .val (.ref b1), .val (.int (own_cb (va.toInt.toNat + 1) (vb.toInt.toNat + 1) p3 p4 vq.toInt.toNat)), .val (.int (own_cb (va.toInt.toNat + 1) (vb.toInt.toNat + 1) p3 p4 vr.toInt.toNat)), .unset] [(.int nn), (.ref b1)])) (fun t kt => ?_) ?_
  · show Steps p.tables e below (T6.setTop (mkF m 102 #[.val (.int p0), .val (.int p1), .val (.int p2), .val (.int p3), .val (.int p4), .val (.int nn), .val (.int va), .val (.int vb), .val (.int vq), .val (.int vr), .val (.ref b1), .val (.int (own_cb (va.toInt.toNat + 1) (vb.toInt.toNat + 1) p3 p4 vq.toInt.toNat)), .unset, .unset] [(.int (own_cb (va.toInt.toNat + 1) (vb.toInt.toNat + 1) p3 p4 vr.toInt.toNat))])) t
    refine XS.istore X6.here hx rfl (hb hby at_102) rfl (l' := #[.val (.int p0), .val (.int p1), .val (.int p2), .val (.int p3), .val (.int p4), .val (.int nn), .val (.int va), .val (.int vb), .val (.int vq), .val (.int vr), .val (.ref b1), .val (.int (own_cb (va.toInt.toNat + 1) (vb.toInt.toNat + 1) p3 p4 vq.toInt.toNat)), .val (.int (own_cb (va.toInt.toNat + 1) (vb.toInt.toNat + 1) p3 p4 vr.toInt.toNat)), .unset]) rfl ?_
    show Steps p.tables e below (T6.setTop (mkF m 104 #[.val (.int p0), .val (.int p1), .val (.int p2), .val (.int p3), .val (.int p4), .val (.int nn), .val (.int va), .val (.int vb), .val (.int vq), .val (.int vr), .val (.ref b1), .val (.int (own_cb (va.toInt.toNat + 1) (vb.toInt.toNat + 1) p3 p4 vq.toInt.toNat)), .val (.int (own_cb (va.toInt.toNat + 1) (vb.toInt.toNat + 1) p3 p4 vr.toInt.toNat)), .unset] [])) t
    refine XS.aload X6.here hx rfl (hb hby at_104) rfl rfl ?_
    show Steps p.tables e below (T6.setTop (mkF m 106 #[.val (.int p0), .val (.int p1), .val (.int p2), .val (.int p3), .val (.int p4), .val (.int nn), .val (.int va), .val (.int vb), .val (.int vq), .val (.int vr), .val (.ref b1), .val (.int (own_cb (va.toInt.toNat + 1) (vb.toInt.toNat + 1) p3 p4 vq.toInt.toNat)), .val (.int (own_cb (va.toInt.toNat + 1) (vb.toInt.toNat + 1) p3 p4 vr.toInt.toNat)), .unset] [(.ref b1)])) t
    refine XS.iload X6.here hx rfl (hb hby at_106) rfl ?_
    show Steps p.tables e below (T6.setTop (mkF m 108 #[.val (.int p0), .val (.int p1), .val (.int p2), .val (.int p3), .val (.int p4), .val (.int nn), .val (.int va), .val (.int vb), .val (.int vq), .val (.int vr), .val (.ref b1), .val (.int (own_cb (va.toInt.toNat + 1) (vb.toInt.toNat + 1) p3 p4 vq.toInt.toNat)), .val (.int (own_cb (va.toInt.toNat + 1) (vb.toInt.toNat + 1) p3 p4 vr.toInt.toNat)), .unset] [(.int nn), (.ref b1)])) t
    exact kt
  refine own_callVp X6 hx hZ hown e6 (hw _ (List.mem_of_getElem? (i := 17) rfl)) (hw _ (List.mem_of_getElem? (i := 18) rfl)) (notFace_of_selects (args := #[]) (mvT hZ (hw _ (List.mem_of_getElem? (i := 20) rfl)))) (hw _ (List.mem_of_getElem? (i := 20) rfl)) (hw _ (List.mem_of_getElem? (i := 19) rfl)) (hw _ (List.mem_of_getElem? (i := 2) rfl)) (hw _ (List.mem_of_getElem? (i := 21) rfl)) (by decide) (rm4 l Z aw hw b1 nn r2 (nn.toInt.toNat + 1) f2 nn.toInt.toNat (va.toInt.toNat + 1) (vb.toInt.toNat + 1) p3 p4 T4.heap n0 ZKq4 F_r2 Pq4_0 (by have := (⟨by have := (own_nn hnn); omega, by rw [own_nn1 (own_nn hnn)]; omega⟩ : 0 ≤ nn.toInt ∧ nn.toInt < (nn + 1).toInt); omega) (by have := (⟨by have := (own_nn hnn); omega, by rw [own_nn1 (own_nn hnn)]; omega⟩ : 0 ≤ nn.toInt ∧ nn.toInt < (nn + 1).toInt); have := own_nn1 (own_nn hnn); have := (own_nn hnn); omega) (by have := (own_nn hnn); omega) (Nat.succ_pos _) (Nat.succ_pos _) (by rw [hf2, hf1])) Pq2_0 (g := (mkF m 108 #[.val (.int p0), .val (.int p1), .val (.int p2), .val (.int p3), .val (.int p4), .val (.int nn), .val (.int va), .val (.int vb), .val (.int vq), .val (.int vr), .val (.ref b1), .val (.int (own_cb (va.toInt.toNat + 1) (vb.toInt.toNat + 1) p3 p4 vq.toInt.toNat)), .val (.int (own_cb (va.toInt.toNat + 1) (vb.toInt.toNat + 1) p3 p4 vr.toInt.toNat)), .unset] [(.int nn), (.ref b1)])) rfl (by rw [hml]; rfl) (argsL := [(.int nn)]) (rest := []) (lenOf pd_2 rfl) rfl rfl (W := 0) (by show 2 * 0 + _ ≤ _; exact Nat.le_of_eq rfl) (hb hby at_108) (by decide) (by decide) (by decide) (by decide) ?_
  intro T7 X7 e7
  refine own_go (T' := T7) (f' := (mkF m 124 #[.val (.int p0), .val (.int p1), .val (.int p2), .val (.int p3), .val (.int p4), .val (.int nn), .val (.int va), .val (.int vb), .val (.int vq), .val (.int vr), .val (.ref b1), .val (.int (own_cb (va.toInt.toNat + 1) (vb.toInt.toNat + 1) p3 p4 vq.toInt.toNat)), .val (.int (own_cb (va.toInt.toNat + 1) (vb.toInt.toNat + 1) p3 p4 vr.toInt.toNat)), .val (.int (own_cb (va.toInt.toNat + 1) (vb.toInt.toNat + 1) p3 p4 nn.toInt.toNat))] [(.int vq), (.int p4), (.int p3), (.int vb), (.int va), (.int (own_cb (va.toInt.toNat + 1) (vb.toInt.toNat + 1) p3 p4 vq.toInt.toNat))])) (fun t kt => ?_) ?_
  · show Steps p.tables e below (T7.setTop (mkF m 111 #[.val (.int p0), .val (.int p1), .val (.int p2), .val (.int p3), .val (.int p4), .val (.int nn), .val (.int va), .val (.int vb), .val (.int vq), .val (.int vr), .val (.ref b1), .val (.int (own_cb (va.toInt.toNat + 1) (vb.toInt.toNat + 1) p3 p4 vq.toInt.toNat)), .val (.int (own_cb (va.toInt.toNat + 1) (vb.toInt.toNat + 1) p3 p4 vr.toInt.toNat)), .unset] [(.int (own_cb (va.toInt.toNat + 1) (vb.toInt.toNat + 1) p3 p4 nn.toInt.toNat))])) t
    refine XS.istore X7.here hx rfl (hb hby at_111) rfl (l' := #[.val (.int p0), .val (.int p1), .val (.int p2), .val (.int p3), .val (.int p4), .val (.int nn), .val (.int va), .val (.int vb), .val (.int vq), .val (.int vr), .val (.ref b1), .val (.int (own_cb (va.toInt.toNat + 1) (vb.toInt.toNat + 1) p3 p4 vq.toInt.toNat)), .val (.int (own_cb (va.toInt.toNat + 1) (vb.toInt.toNat + 1) p3 p4 vr.toInt.toNat)), .val (.int (own_cb (va.toInt.toNat + 1) (vb.toInt.toNat + 1) p3 p4 nn.toInt.toNat))]) rfl ?_
    show Steps p.tables e below (T7.setTop (mkF m 113 #[.val (.int p0), .val (.int p1), .val (.int p2), .val (.int p3), .val (.int p4), .val (.int nn), .val (.int va), .val (.int vb), .val (.int vq), .val (.int vr), .val (.ref b1), .val (.int (own_cb (va.toInt.toNat + 1) (vb.toInt.toNat + 1) p3 p4 vq.toInt.toNat)), .val (.int (own_cb (va.toInt.toNat + 1) (vb.toInt.toNat + 1) p3 p4 vr.toInt.toNat)), .val (.int (own_cb (va.toInt.toNat + 1) (vb.toInt.toNat + 1) p3 p4 nn.toInt.toNat))] [])) t
    refine XS.iload X7.here hx rfl (hb hby at_113) rfl ?_
    show Steps p.tables e below (T7.setTop (mkF m 115 #[.val (.int p0), .val (.int p1), .val (.int p2), .val (.int p3), .val (.int p4), .val (.int nn), .val (.int va), .val (.int vb), .val (.int vq), .val (.int vr), .val (.ref b1), .val (.int (own_cb (va.toInt.toNat + 1) (vb.toInt.toNat + 1) p3 p4 vq.toInt.toNat)), .val (.int (own_cb (va.toInt.toNat + 1) (vb.toInt.toNat + 1) p3 p4 vr.toInt.toNat)), .val (.int (own_cb (va.toInt.toNat + 1) (vb.toInt.toNat + 1) p3 p4 nn.toInt.toNat))] [(.int (own_cb (va.toInt.toNat + 1) (vb.toInt.toNat + 1) p3 p4 vq.toInt.toNat))])) t
    refine XS.iload X7.here hx rfl (hb hby at_115) rfl ?_
    show Steps p.tables e below (T7.setTop (mkF m 117 #[.val (.int p0), .val (.int p1), .val (.int p2), .val (.int p3), .val (.int p4), .val (.int nn), .val (.int va), .val (.int vb), .val (.int vq), .val (.int vr), .val (.ref b1), .val (.int (own_cb (va.toInt.toNat + 1) (vb.toInt.toNat + 1) p3 p4 vq.toInt.toNat)), .val (.int (own_cb (va.toInt.toNat + 1) (vb.toInt.toNat + 1) p3 p4 vr.toInt.toNat)), .val (.int (own_cb (va.toInt.toNat + 1) (vb.toInt.toNat + 1) p3 p4 nn.toInt.toNat))] [(.int va), (.int (own_cb (va.toInt.toNat + 1) (vb.toInt.toNat + 1) p3 p4 vq.toInt.toNat))])) t
    refine XS.iload X7.here hx rfl (hb hby at_117) rfl ?_
    show Steps p.tables e below (T7.setTop (mkF m 119 #[.val (.int p0), .val (.int p1), .val (.int p2), .val (.int p3), .val (.int p4), .val (.int nn), .val (.int va), .val (.int vb), .val (.int vq), .val (.int vr), .val (.ref b1), .val (.int (own_cb (va.toInt.toNat + 1) (vb.toInt.toNat + 1) p3 p4 vq.toInt.toNat)), .val (.int (own_cb (va.toInt.toNat + 1) (vb.toInt.toNat + 1) p3 p4 vr.toInt.toNat)), .val (.int (own_cb (va.toInt.toNat + 1) (vb.toInt.toNat + 1) p3 p4 nn.toInt.toNat))] [(.int vb), (.int va), (.int (own_cb (va.toInt.toNat + 1) (vb.toInt.toNat + 1) p3 p4 vq.toInt.toNat))])) t
    refine XS.iloadN X7.here hx rfl (hb hby at_119) rfl ?_
    show Steps p.tables e below (T7.setTop (mkF m 120 #[.val (.int p0), .val (.int p1), .val (.int p2), .val (.int p3), .val (.int p4), .val (.int nn), .val (.int va), .val (.int vb), .val (.int vq), .val (.int vr), .val (.ref b1), .val (.int (own_cb (va.toInt.toNat + 1) (vb.toInt.toNat + 1) p3 p4 vq.toInt.toNat)), .val (.int (own_cb (va.toInt.toNat + 1) (vb.toInt.toNat + 1) p3 p4 vr.toInt.toNat)), .val (.int (own_cb (va.toInt.toNat + 1) (vb.toInt.toNat + 1) p3 p4 nn.toInt.toNat))] [(.int p3), (.int vb), (.int va), (.int (own_cb (va.toInt.toNat + 1) (vb.toInt.toNat + 1) p3 p4 vq.toInt.toNat))])) t
    refine XS.iload X7.here hx rfl (hb hby at_120) rfl ?_
    show Steps p.tables e below (T7.setTop (mkF m 122 #[.val (.int p0), .val (.int p1), .val (.int p2), .val (.int p3), .val (.int p4), .val (.int nn), .val (.int va), .val (.int vb), .val (.int vq), .val (.int vr), .val (.ref b1), .val (.int (own_cb (va.toInt.toNat + 1) (vb.toInt.toNat + 1) p3 p4 vq.toInt.toNat)), .val (.int (own_cb (va.toInt.toNat + 1) (vb.toInt.toNat + 1) p3 p4 vr.toInt.toNat)), .val (.int (own_cb (va.toInt.toNat + 1) (vb.toInt.toNat + 1) p3 p4 nn.toInt.toNat))] [(.int p4), (.int p3), (.int vb), (.int va), (.int (own_cb (va.toInt.toNat + 1) (vb.toInt.toNat + 1) p3 p4 vq.toInt.toNat))])) t
    refine XS.iload X7.here hx rfl (hb hby at_122) rfl ?_
    show Steps p.tables e below (T7.setTop (mkF m 124 #[.val (.int p0), .val (.int p1), .val (.int p2), .val (.int p3), .val (.int p4), .val (.int nn), .val (.int va), .val (.int vb), .val (.int vq), .val (.int vr), .val (.ref b1), .val (.int (own_cb (va.toInt.toNat + 1) (vb.toInt.toNat + 1) p3 p4 vq.toInt.toNat)), .val (.int (own_cb (va.toInt.toNat + 1) (vb.toInt.toNat + 1) p3 p4 vr.toInt.toNat)), .val (.int (own_cb (va.toInt.toNat + 1) (vb.toInt.toNat + 1) p3 p4 nn.toInt.toNat))] [(.int vq), (.int p4), (.int p3), (.int vb), (.int va), (.int (own_cb (va.toInt.toNat + 1) (vb.toInt.toNat + 1) p3 p4 vq.toInt.toNat))])) t
    exact kt
  refine own_callSp X7 hx hZ hown e7 (hw _ (List.mem_of_getElem? (i := 22) rfl)) (hw _ (List.mem_of_getElem? (i := 23) rfl)) (hw _ (List.mem_of_getElem? (i := 24) rfl)) (hw _ (List.mem_of_getElem? (i := 25) rfl)) (by decide) (rm5 l Z aw hw va vb p3 p4 vq T4.heap n0 ZKq4) (g := (mkF m 124 #[.val (.int p0), .val (.int p1), .val (.int p2), .val (.int p3), .val (.int p4), .val (.int nn), .val (.int va), .val (.int vb), .val (.int vq), .val (.int vr), .val (.ref b1), .val (.int (own_cb (va.toInt.toNat + 1) (vb.toInt.toNat + 1) p3 p4 vq.toInt.toNat)), .val (.int (own_cb (va.toInt.toNat + 1) (vb.toInt.toNat + 1) p3 p4 vr.toInt.toNat)), .val (.int (own_cb (va.toInt.toNat + 1) (vb.toInt.toNat + 1) p3 p4 nn.toInt.toNat))] [(.int vq), (.int p4), (.int p3), (.int vb), (.int va), (.int (own_cb (va.toInt.toNat + 1) (vb.toInt.toNat + 1) p3 p4 vq.toInt.toNat))])) rfl (by rw [hml]; rfl) (argsL := [(.int va), (.int vb), (.int p3), (.int p4), (.int vq)]) (rest := [(.int (own_cb (va.toInt.toNat + 1) (vb.toInt.toNat + 1) p3 p4 vq.toInt.toNat))]) (lenOf pd_3 rfl) rfl rfl (W := 1) (by show 2 * 0 + _ ≤ _; exact Nat.le_of_eq rfl) (hb hby at_124) (by decide) (by decide) (by decide) (by decide) ?_
  intro T8 X8 e8
  refine own_go (T' := T8) (f' := (mkF m 141 #[.val (.int p0), .val (.int p1), .val (.int p2), .val (.int p3), .val (.int p4), .val (.int nn), .val (.int va), .val (.int vb), .val (.int vq), .val (.int vr), .val (.ref b1), .val (.int (own_cb (va.toInt.toNat + 1) (vb.toInt.toNat + 1) p3 p4 vq.toInt.toNat)), .val (.int (own_cb (va.toInt.toNat + 1) (vb.toInt.toNat + 1) p3 p4 vr.toInt.toNat)), .val (.int (own_cb (va.toInt.toNat + 1) (vb.toInt.toNat + 1) p3 p4 nn.toInt.toNat))] [(.int vr), (.int p4), (.int p3), (.int vb), (.int va), (.int (own_cb (va.toInt.toNat + 1) (vb.toInt.toNat + 1) p3 p4 vr.toInt.toNat))])) (fun t kt => ?_) ?_
  · show Steps p.tables e below (T8.setTop (mkF m 127 #[.val (.int p0), .val (.int p1), .val (.int p2), .val (.int p3), .val (.int p4), .val (.int nn), .val (.int va), .val (.int vb), .val (.int vq), .val (.int vr), .val (.ref b1), .val (.int (own_cb (va.toInt.toNat + 1) (vb.toInt.toNat + 1) p3 p4 vq.toInt.toNat)), .val (.int (own_cb (va.toInt.toNat + 1) (vb.toInt.toNat + 1) p3 p4 vr.toInt.toNat)), .val (.int (own_cb (va.toInt.toNat + 1) (vb.toInt.toNat + 1) p3 p4 nn.toInt.toNat))] [(.int (own_exp va vb p3 p4 vq)), (.int (own_cb (va.toInt.toNat + 1) (vb.toInt.toNat + 1) p3 p4 vq.toInt.toNat))])) t
    refine XS.icmpNo X8.here hx rfl (hb hby at_127) rfl (teq (show (own_cb (va.toInt.toNat + 1) (vb.toInt.toNat + 1) p3 p4 vq.toInt.toNat) = (own_exp va vb p3 p4 vq) from own_cbx (own_rm hva (own_nn hnn).1).1 (own_rm hvb (own_nn hnn).1).1 (own_rm hvq (by rw [own_nn1 (own_nn hnn)]; have := (own_nn hnn); omega)).1)).2 ?_
    show Steps p.tables e below (T8.setTop (mkF m 130 #[.val (.int p0), .val (.int p1), .val (.int p2), .val (.int p3), .val (.int p4), .val (.int nn), .val (.int va), .val (.int vb), .val (.int vq), .val (.int vr), .val (.ref b1), .val (.int (own_cb (va.toInt.toNat + 1) (vb.toInt.toNat + 1) p3 p4 vq.toInt.toNat)), .val (.int (own_cb (va.toInt.toNat + 1) (vb.toInt.toNat + 1) p3 p4 vr.toInt.toNat)), .val (.int (own_cb (va.toInt.toNat + 1) (vb.toInt.toNat + 1) p3 p4 nn.toInt.toNat))] [])) t
    refine XS.iload X8.here hx rfl (hb hby at_130) rfl ?_
    show Steps p.tables e below (T8.setTop (mkF m 132 #[.val (.int p0), .val (.int p1), .val (.int p2), .val (.int p3), .val (.int p4), .val (.int nn), .val (.int va), .val (.int vb), .val (.int vq), .val (.int vr), .val (.ref b1), .val (.int (own_cb (va.toInt.toNat + 1) (vb.toInt.toNat + 1) p3 p4 vq.toInt.toNat)), .val (.int (own_cb (va.toInt.toNat + 1) (vb.toInt.toNat + 1) p3 p4 vr.toInt.toNat)), .val (.int (own_cb (va.toInt.toNat + 1) (vb.toInt.toNat + 1) p3 p4 nn.toInt.toNat))] [(.int (own_cb (va.toInt.toNat + 1) (vb.toInt.toNat + 1) p3 p4 vr.toInt.toNat))])) t
    refine XS.iload X8.here hx rfl (hb hby at_132) rfl ?_
    show Steps p.tables e below (T8.setTop (mkF m 134 #[.val (.int p0), .val (.int p1), .val (.int p2), .val (.int p3), .val (.int p4), .val (.int nn), .val (.int va), .val (.int vb), .val (.int vq), .val (.int vr), .val (.ref b1), .val (.int (own_cb (va.toInt.toNat + 1) (vb.toInt.toNat + 1) p3 p4 vq.toInt.toNat)), .val (.int (own_cb (va.toInt.toNat + 1) (vb.toInt.toNat + 1) p3 p4 vr.toInt.toNat)), .val (.int (own_cb (va.toInt.toNat + 1) (vb.toInt.toNat + 1) p3 p4 nn.toInt.toNat))] [(.int va), (.int (own_cb (va.toInt.toNat + 1) (vb.toInt.toNat + 1) p3 p4 vr.toInt.toNat))])) t
    refine XS.iload X8.here hx rfl (hb hby at_134) rfl ?_
    show Steps p.tables e below (T8.setTop (mkF m 136 #[.val (.int p0), .val (.int p1), .val (.int p2), .val (.int p3), .val (.int p4), .val (.int nn), .val (.int va), .val (.int vb), .val (.int vq), .val (.int vr), .val (.ref b1), .val (.int (own_cb (va.toInt.toNat + 1) (vb.toInt.toNat + 1) p3 p4 vq.toInt.toNat)), .val (.int (own_cb (va.toInt.toNat + 1) (vb.toInt.toNat + 1) p3 p4 vr.toInt.toNat)), .val (.int (own_cb (va.toInt.toNat + 1) (vb.toInt.toNat + 1) p3 p4 nn.toInt.toNat))] [(.int vb), (.int va), (.int (own_cb (va.toInt.toNat + 1) (vb.toInt.toNat + 1) p3 p4 vr.toInt.toNat))])) t
    refine XS.iloadN X8.here hx rfl (hb hby at_136) rfl ?_
    show Steps p.tables e below (T8.setTop (mkF m 137 #[.val (.int p0), .val (.int p1), .val (.int p2), .val (.int p3), .val (.int p4), .val (.int nn), .val (.int va), .val (.int vb), .val (.int vq), .val (.int vr), .val (.ref b1), .val (.int (own_cb (va.toInt.toNat + 1) (vb.toInt.toNat + 1) p3 p4 vq.toInt.toNat)), .val (.int (own_cb (va.toInt.toNat + 1) (vb.toInt.toNat + 1) p3 p4 vr.toInt.toNat)), .val (.int (own_cb (va.toInt.toNat + 1) (vb.toInt.toNat + 1) p3 p4 nn.toInt.toNat))] [(.int p3), (.int vb), (.int va), (.int (own_cb (va.toInt.toNat + 1) (vb.toInt.toNat + 1) p3 p4 vr.toInt.toNat))])) t
    refine XS.iload X8.here hx rfl (hb hby at_137) rfl ?_
    show Steps p.tables e below (T8.setTop (mkF m 139 #[.val (.int p0), .val (.int p1), .val (.int p2), .val (.int p3), .val (.int p4), .val (.int nn), .val (.int va), .val (.int vb), .val (.int vq), .val (.int vr), .val (.ref b1), .val (.int (own_cb (va.toInt.toNat + 1) (vb.toInt.toNat + 1) p3 p4 vq.toInt.toNat)), .val (.int (own_cb (va.toInt.toNat + 1) (vb.toInt.toNat + 1) p3 p4 vr.toInt.toNat)), .val (.int (own_cb (va.toInt.toNat + 1) (vb.toInt.toNat + 1) p3 p4 nn.toInt.toNat))] [(.int p4), (.int p3), (.int vb), (.int va), (.int (own_cb (va.toInt.toNat + 1) (vb.toInt.toNat + 1) p3 p4 vr.toInt.toNat))])) t
    refine XS.iload X8.here hx rfl (hb hby at_139) rfl ?_
    show Steps p.tables e below (T8.setTop (mkF m 141 #[.val (.int p0), .val (.int p1), .val (.int p2), .val (.int p3), .val (.int p4), .val (.int nn), .val (.int va), .val (.int vb), .val (.int vq), .val (.int vr), .val (.ref b1), .val (.int (own_cb (va.toInt.toNat + 1) (vb.toInt.toNat + 1) p3 p4 vq.toInt.toNat)), .val (.int (own_cb (va.toInt.toNat + 1) (vb.toInt.toNat + 1) p3 p4 vr.toInt.toNat)), .val (.int (own_cb (va.toInt.toNat + 1) (vb.toInt.toNat + 1) p3 p4 nn.toInt.toNat))] [(.int vr), (.int p4), (.int p3), (.int vb), (.int va), (.int (own_cb (va.toInt.toNat + 1) (vb.toInt.toNat + 1) p3 p4 vr.toInt.toNat))])) t
    exact kt
  refine own_callSp X8 hx hZ hown e8 (hw _ (List.mem_of_getElem? (i := 22) rfl)) (hw _ (List.mem_of_getElem? (i := 23) rfl)) (hw _ (List.mem_of_getElem? (i := 24) rfl)) (hw _ (List.mem_of_getElem? (i := 25) rfl)) (by decide) (rm5 l Z aw hw va vb p3 p4 vr T4.heap n0 ZKq4) (g := (mkF m 141 #[.val (.int p0), .val (.int p1), .val (.int p2), .val (.int p3), .val (.int p4), .val (.int nn), .val (.int va), .val (.int vb), .val (.int vq), .val (.int vr), .val (.ref b1), .val (.int (own_cb (va.toInt.toNat + 1) (vb.toInt.toNat + 1) p3 p4 vq.toInt.toNat)), .val (.int (own_cb (va.toInt.toNat + 1) (vb.toInt.toNat + 1) p3 p4 vr.toInt.toNat)), .val (.int (own_cb (va.toInt.toNat + 1) (vb.toInt.toNat + 1) p3 p4 nn.toInt.toNat))] [(.int vr), (.int p4), (.int p3), (.int vb), (.int va), (.int (own_cb (va.toInt.toNat + 1) (vb.toInt.toNat + 1) p3 p4 vr.toInt.toNat))])) rfl (by rw [hml]; rfl) (argsL := [(.int va), (.int vb), (.int p3), (.int p4), (.int vr)]) (rest := [(.int (own_cb (va.toInt.toNat + 1) (vb.toInt.toNat + 1) p3 p4 vr.toInt.toNat))]) (lenOf pd_3 rfl) rfl rfl (W := 1) (by show 2 * 0 + _ ≤ _; exact Nat.le_of_eq rfl) (hb hby at_141) (by decide) (by decide) (by decide) (by decide) ?_
  intro T9 X9 e9
  refine own_go (T' := T9) (f' := (mkF m 161 #[.val (.int p0), .val (.int p1), .val (.int p2), .val (.int p3), .val (.int p4), .val (.int nn), .val (.int va), .val (.int vb), .val (.int vq), .val (.int vr), .val (.ref b1), .val (.int (own_cb (va.toInt.toNat + 1) (vb.toInt.toNat + 1) p3 p4 vq.toInt.toNat)), .val (.int (own_cb (va.toInt.toNat + 1) (vb.toInt.toNat + 1) p3 p4 vr.toInt.toNat)), .val (.int (own_cb (va.toInt.toNat + 1) (vb.toInt.toNat + 1) p3 p4 nn.toInt.toNat))] [(.int (1 : Int32))])) (fun t kt => ?_) ?_
  · show Steps p.tables e below (T9.setTop (mkF m 144 #[.val (.int p0), .val (.int p1), .val (.int p2), .val (.int p3), .val (.int p4), .val (.int nn), .val (.int va), .val (.int vb), .val (.int vq), .val (.int vr), .val (.ref b1), .val (.int (own_cb (va.toInt.toNat + 1) (vb.toInt.toNat + 1) p3 p4 vq.toInt.toNat)), .val (.int (own_cb (va.toInt.toNat + 1) (vb.toInt.toNat + 1) p3 p4 vr.toInt.toNat)), .val (.int (own_cb (va.toInt.toNat + 1) (vb.toInt.toNat + 1) p3 p4 nn.toInt.toNat))] [(.int (own_exp va vb p3 p4 vr)), (.int (own_cb (va.toInt.toNat + 1) (vb.toInt.toNat + 1) p3 p4 vr.toInt.toNat))])) t
    refine XS.icmpNo X9.here hx rfl (hb hby at_144) rfl (teq (show (own_cb (va.toInt.toNat + 1) (vb.toInt.toNat + 1) p3 p4 vr.toInt.toNat) = (own_exp va vb p3 p4 vr) from own_cbx (own_rm hva (own_nn hnn).1).1 (own_rm hvb (own_nn hnn).1).1 (own_rm hvr (by rw [own_nn1 (own_nn hnn)]; have := (own_nn hnn); omega)).1)).2 ?_
    show Steps p.tables e below (T9.setTop (mkF m 147 #[.val (.int p0), .val (.int p1), .val (.int p2), .val (.int p3), .val (.int p4), .val (.int nn), .val (.int va), .val (.int vb), .val (.int vq), .val (.int vr), .val (.ref b1), .val (.int (own_cb (va.toInt.toNat + 1) (vb.toInt.toNat + 1) p3 p4 vq.toInt.toNat)), .val (.int (own_cb (va.toInt.toNat + 1) (vb.toInt.toNat + 1) p3 p4 vr.toInt.toNat)), .val (.int (own_cb (va.toInt.toNat + 1) (vb.toInt.toNat + 1) p3 p4 nn.toInt.toNat))] [])) t
    refine XS.iload X9.here hx rfl (hb hby at_147) rfl ?_
    show Steps p.tables e below (T9.setTop (mkF m 149 #[.val (.int p0), .val (.int p1), .val (.int p2), .val (.int p3), .val (.int p4), .val (.int nn), .val (.int va), .val (.int vb), .val (.int vq), .val (.int vr), .val (.ref b1), .val (.int (own_cb (va.toInt.toNat + 1) (vb.toInt.toNat + 1) p3 p4 vq.toInt.toNat)), .val (.int (own_cb (va.toInt.toNat + 1) (vb.toInt.toNat + 1) p3 p4 vr.toInt.toNat)), .val (.int (own_cb (va.toInt.toNat + 1) (vb.toInt.toNat + 1) p3 p4 nn.toInt.toNat))] [(.int (own_cb (va.toInt.toNat + 1) (vb.toInt.toNat + 1) p3 p4 nn.toInt.toNat))])) t
    refine XS.iloadN X9.here hx rfl (hb hby at_149) rfl ?_
    show Steps p.tables e below (T9.setTop (mkF m 150 #[.val (.int p0), .val (.int p1), .val (.int p2), .val (.int p3), .val (.int p4), .val (.int nn), .val (.int va), .val (.int vb), .val (.int vq), .val (.int vr), .val (.ref b1), .val (.int (own_cb (va.toInt.toNat + 1) (vb.toInt.toNat + 1) p3 p4 vq.toInt.toNat)), .val (.int (own_cb (va.toInt.toNat + 1) (vb.toInt.toNat + 1) p3 p4 vr.toInt.toNat)), .val (.int (own_cb (va.toInt.toNat + 1) (vb.toInt.toNat + 1) p3 p4 nn.toInt.toNat))] [(.int p3), (.int (own_cb (va.toInt.toNat + 1) (vb.toInt.toNat + 1) p3 p4 nn.toInt.toNat))])) t
    refine XS.iload X9.here hx rfl (hb hby at_150) rfl ?_
    show Steps p.tables e below (T9.setTop (mkF m 152 #[.val (.int p0), .val (.int p1), .val (.int p2), .val (.int p3), .val (.int p4), .val (.int nn), .val (.int va), .val (.int vb), .val (.int vq), .val (.int vr), .val (.ref b1), .val (.int (own_cb (va.toInt.toNat + 1) (vb.toInt.toNat + 1) p3 p4 vq.toInt.toNat)), .val (.int (own_cb (va.toInt.toNat + 1) (vb.toInt.toNat + 1) p3 p4 vr.toInt.toNat)), .val (.int (own_cb (va.toInt.toNat + 1) (vb.toInt.toNat + 1) p3 p4 nn.toInt.toNat))] [(.int p4), (.int p3), (.int (own_cb (va.toInt.toNat + 1) (vb.toInt.toNat + 1) p3 p4 nn.toInt.toNat))])) t
    refine XS.iadd X9.here hx rfl (hb hby at_152) rfl ?_
    show Steps p.tables e below (T9.setTop (mkF m 153 #[.val (.int p0), .val (.int p1), .val (.int p2), .val (.int p3), .val (.int p4), .val (.int nn), .val (.int va), .val (.int vb), .val (.int vq), .val (.int vr), .val (.ref b1), .val (.int (own_cb (va.toInt.toNat + 1) (vb.toInt.toNat + 1) p3 p4 vq.toInt.toNat)), .val (.int (own_cb (va.toInt.toNat + 1) (vb.toInt.toNat + 1) p3 p4 vr.toInt.toNat)), .val (.int (own_cb (va.toInt.toNat + 1) (vb.toInt.toNat + 1) p3 p4 nn.toInt.toNat))] [(.int (p3 + p4)), (.int (own_cb (va.toInt.toNat + 1) (vb.toInt.toNat + 1) p3 p4 nn.toInt.toNat))])) t
    refine XS.icmpNo X9.here hx rfl (hb hby at_153) rfl (teq (show (own_cb (va.toInt.toNat + 1) (vb.toInt.toNat + 1) p3 p4 nn.toInt.toNat) = (p3 + p4) from own_tot (own_rm hva (own_nn hnn).1) (own_rm hvb (own_nn hnn).1))).2 ?_
    show Steps p.tables e below (T9.setTop (mkF m 156 #[.val (.int p0), .val (.int p1), .val (.int p2), .val (.int p3), .val (.int p4), .val (.int nn), .val (.int va), .val (.int vb), .val (.int vq), .val (.int vr), .val (.ref b1), .val (.int (own_cb (va.toInt.toNat + 1) (vb.toInt.toNat + 1) p3 p4 vq.toInt.toNat)), .val (.int (own_cb (va.toInt.toNat + 1) (vb.toInt.toNat + 1) p3 p4 vr.toInt.toNat)), .val (.int (own_cb (va.toInt.toNat + 1) (vb.toInt.toNat + 1) p3 p4 nn.toInt.toNat))] [])) t
    refine XS.iconst X9.here hx rfl (hb hby at_156) ?_
    show Steps p.tables e below (T9.setTop (mkF m 157 #[.val (.int p0), .val (.int p1), .val (.int p2), .val (.int p3), .val (.int p4), .val (.int nn), .val (.int va), .val (.int vb), .val (.int vq), .val (.int vr), .val (.ref b1), .val (.int (own_cb (va.toInt.toNat + 1) (vb.toInt.toNat + 1) p3 p4 vq.toInt.toNat)), .val (.int (own_cb (va.toInt.toNat + 1) (vb.toInt.toNat + 1) p3 p4 vr.toInt.toNat)), .val (.int (own_cb (va.toInt.toNat + 1) (vb.toInt.toNat + 1) p3 p4 nn.toInt.toNat))] [(.int (1 : Int32))])) t
    refine XS.goto X9.here hx rfl (pc0 := 157) (pc' := 161) rfl (hb hby at_157) (by decide) (by decide) ?_
    show Steps p.tables e below (T9.setTop (mkF m 161 #[.val (.int p0), .val (.int p1), .val (.int p2), .val (.int p3), .val (.int p4), .val (.int nn), .val (.int va), .val (.int vb), .val (.int vq), .val (.int vr), .val (.ref b1), .val (.int (own_cb (va.toInt.toNat + 1) (vb.toInt.toNat + 1) p3 p4 vq.toInt.toNat)), .val (.int (own_cb (va.toInt.toNat + 1) (vb.toInt.toNat + 1) p3 p4 vr.toInt.toNat)), .val (.int (own_cb (va.toInt.toNat + 1) (vb.toInt.toNat + 1) p3 p4 nn.toInt.toNat))] [(.int (1 : Int32))])) t
    exact kt
  exact own_retN X9 hP hx hlk e9 (t := .boolean) hret (by simp) (hb hby at_161) (by decide) (by decide) (z' := (1 : Int32)) rfl ⟨rfl, N4⟩
set_option maxRecDepth 65536 in
set_option maxHeartbeats 40000000 in
theorem comes_1 {Post : Tables → Env → Array Value → State → Outcome → State → Prop} (hpost : ∀ tb e args s v u, (limb_1_1.after args s (.returned v) u = true ∧ limb_1_2.after args s (.returned v) u = true ∧ True) → FrameEnd s (.returned v) u (Jvm.fieldLocs frame_1_writes args s ++ Jvm.arrayLocs frame_1_arrays args s ++ Jvm.staticLocs frame_1_statics s) 16 128 → Post tb e args s (.returned v) u) :
    ArmFor flags0 classFile x code maxLocals ret World_1 tables_1 room_1 Calls_1 rest_1 Pre_1 Post := by
  intro l hfl _ _ p e ha hc hk s m args below hf hA hF happ hP
  obtain ⟨hcalls, hrest, hpre⟩ := hP
  obtain ⟨-, -, -, hnamed, -, -, -, hat⟩ := (Spec.applies_iff hf).mp happ
  obtain ⟨hg, hn⟩ := and_e (Cond.before_iff.mp (show (Jvm.Cond.and given_1 narrow_1).before args s = true from hpre))
  obtain ⟨k1, k2⟩ := and_e hg
  obtain ⟨k3, k4⟩ := and_e k2
  obtain ⟨k5, k6⟩ := and_e k4
  obtain ⟨k7, k8⟩ := and_e k6
  obtain ⟨k9, k10⟩ := and_e k8
  obtain ⟨w0, w1, w2, w3, w4, rfl⟩ : ∃ w0 w1 w2 w3 w4 : Value, args = #[w0, w1, w2, w3, w4] := by
    have hs : args.size = 5 := by simpa [Cond.value, given_1] using k1
    obtain ⟨L⟩ := args
    match L, hs with
    | [w0, w1, w2, w3, w4], _ => exact ⟨w0, w1, w2, w3, w4, rfl⟩
  have hw := fun d (hd : d ∈ tables_1) => atoms_spec (ws := Jvm.Cond.code x code maxLocals ret :: tables_1) hat d (List.mem_cons_of_mem _ hd)
  obtain ⟨i0, ei0⟩ := is_v k3
  obtain rfl : w0 = (.int i0) := Option.some.inj ei0
  obtain ⟨i1, ei1⟩ := is_v k5
  obtain rfl : w1 = (.int i1) := Option.some.inj ei1
  obtain ⟨i2, ei2⟩ := is_v k7
  obtain rfl : w2 = (.int i2) := Option.some.inj ei2
  obtain ⟨i3, ei3⟩ := is_v k9
  obtain rfl : w3 = (.int i3) := Option.some.inj ei3
  obtain ⟨i4, ei4⟩ := is_v k10
  obtain rfl : w4 = (.int i4) := Option.some.inj ei4
  obtain ⟨n, o, h1, h2, h3, _, L, rfl, ⟨rfl, N⟩, hq⟩ := rm0 l s _ hw (ws := tables_1) i0 i1 i2 i3 i4 s.heap s.heap.size (Nat.le_refl _)  p e ha hc hk s m _ below hf ((Spec.applies_iff_loose hf).mp happ).1 ⟨rfl, State.Warmed39.refl s, rfl⟩ trivial
  refine ⟨n, _, h1, h2, h3, hpost _ _ _ _ _ _ ⟨Cond.after_iff.mpr rfl, Cond.after_iff.mpr (eq_i res_at (Term.int_eval (1)) rfl), trivial⟩ ⟨hq.1, hq.2.1, (hq.2.2.sift fun y hy => Or.inr (N y hy)).mono (by decide) (by decide)⟩⟩
theorem main_1_1 : Claimed_1_1 := comes_1 fun _ _ _ _ _ _ h hF => ⟨h.1, hF⟩
theorem main_1_2 : Claimed_1_2 := comes_1 fun _ _ _ _ _ _ h hF => ⟨h.2.1, hF⟩
end Jvm.Pilot.@@N@@
namespace Jvm.Pilot.@@N@@
open Jvm Jvm.ClassFile Sem Op Lib Jvm.Free Jvm.Stand Jvm.Pilot.@@N@@.Jvm.D
/-! MADE BY PROGRAM (witnessworld.py) out of the Statement's table words and the real class files: 9 classes; the members and pool entries that the words name. The judged class is class 1, her method 1. -/
namespace start1
open Jvm.ClassFile
def u (s : String) : CpInfo := .utf8 (stringToUtf16 s)
/-- a pool by its gaps: so many unusable entries, then the entry; so many at the end -/
def gap : Nat → List CpInfo → List CpInfo
  | 0, r => r
  | n + 1, r => .unusable :: gap n r
def poolList (es : List (Nat × CpInfo)) (last : Nat) : List CpInfo := es.foldr (fun e r => gap e.1 (e.2 :: r)) (gap last [])
def pool (es : List (Nat × CpInfo)) (last : Nat) : Array CpInfo := ⟨poolList es last⟩
def fileOf (pool : Array CpInfo) (this : Nat) (attrs : Array Attribute := #[]) (ms : Array MethodInfo := #[]) (fl : Nat := 33) (sup : Nat := 0) (ifs : Array Nat := #[]) (fds : Array FieldInfo := #[]) : ClassFile where
  minorVersion := 0
  majorVersion := 65
  constantPool := pool
  accessFlags := fl
  thisClass := this
  superClass := sup
  interfaces := ifs
  fields := fds
  methods := ms
  attributes := attrs
def plain (name : String) (sup : Option ClassId) : Class where
  name := name
  kind := .ordinary
  loader := none
  accessFlags := 33
  super := sup
  interfaces := #[]
  cf := none
  fields := #[]
  methods := #[]
  instanceTypes := #[]
  staticTypes := #[]
  resolved := #[]
  callSites := []
  init := .initialized
  statics := none
  mirror := none

def pool0 : Array CpInfo := pool [(5, u "<init>"), (0, u "()V"), (1, .class_ 10), (1, u "java/lang/Object")] 113

def k0c0 : Code := { maxStack := 0, maxLocals := 1, code := object_method_1_code, exceptionTable := #[], attributes := #[] }
def k0m0 : Method := { name := "<init>", desc := "()V", sig := { parameters := [], returnType := none }, accessFlags := 1, code := some k0c0 }
/-- java/lang/Object -/
def k0 : Class := { plain "java/lang/Object" none with
  accessFlags := 33
  interfaces := #[]
  cf := some (fileOf pool0 8 #[] #[{ accessFlags := 1, nameIndex := 5, descriptorIndex := 6, attributes := #[] }] 33 0 #[] #[])
  fields := #[]
  methods := #[k0m0]
  instanceTypes := #[]
  staticTypes := #[]
  resolved := Array.replicate 124 none
  statics := none }

def pool1 : Array CpInfo := pool [(2, .class_ 4), (1, u "java/lang/Object"), (0, u "<init>"), (0, u "()V"), (0, .class_ 8), (0, u "com/example/humble_grid/humblegrid/RowCounts"), (0, .methodref 7 10), (0, .nameAndType 5 11), (0, u "(I)V"), (0, .methodref 7 13), (0, .nameAndType 14 15), (0, u "add"), (0, u "(II)V"), (0, .methodref 7 17), (0, .nameAndType 18 19), (0, u "countBelow"), (0, u "(I)I"), (0, .methodref 21 22), (0, .class_ 23), (0, .nameAndType 24 25), (0, u "com/example/humble_grid/humblegrid/RowCountsAddPinLaw"), (0, u "expected"), (0, u "(IIIII)I"), (2, u "law"), (0, u "(IIIII)Z")] 3

def k1m0 : Method := { name := "<init>", desc := "()V", sig := { parameters := [], returnType := none }, accessFlags := 1, code := none }
def k1c1 : Code := { maxStack := 6, maxLocals := 14, code := code, exceptionTable := #[], attributes := #[] }
def k1m1 : Method := { name := "law", desc := "(IIIII)Z", sig := { parameters := [.int, .int, .int, .int, .int], returnType := some .boolean }, accessFlags := 9, code := some k1c1 }
def k1c2 : Code := { maxStack := 2, maxLocals := 6, code := method_3_code, exceptionTable := #[], attributes := #[] }
def k1m2 : Method := { name := "expected", desc := "(IIIII)I", sig := { parameters := [.int, .int, .int, .int, .int], returnType := some .int }, accessFlags := 10, code := some k1c2 }
/-- com/example/humble_grid/humblegrid/RowCountsAddPinLaw -/
def k1 : Class := { plain "com/example/humble_grid/humblegrid/RowCountsAddPinLaw" (some 0) with
  accessFlags := 49
  interfaces := #[]
  cf := some (fileOf pool1 21 #[] #[{ accessFlags := 1, nameIndex := 5, descriptorIndex := 6, attributes := #[] }, { accessFlags := 9, nameIndex := 28, descriptorIndex := 29, attributes := #[] }, { accessFlags := 10, nameIndex := 24, descriptorIndex := 25, attributes := #[] }] 49 2 #[] #[])
  fields := #[]
  methods := #[k1m0, k1m1, k1m2]
  instanceTypes := #[]
  staticTypes := #[]
  resolved := Array.replicate 33 none
  statics := none }

def pool2 : Array CpInfo := pool [(1, .methodref 2 3), (0, .class_ 4), (0, .nameAndType 5 6), (0, u "java/lang/Object"), (0, u "<init>"), (0, u "()V"), (0, .fieldref 8 9), (0, .class_ 10), (0, .nameAndType 11 12), (0, u "com/example/humble_grid/humblegrid/RowCounts"), (0, u "tree"), (0, u "[I"), (0, u "(I)V"), (2, u "add"), (0, u "(II)V"), (1, u "countBelow"), (0, u "(I)I")] 2

def k2c0 : Code := { maxStack := 3, maxLocals := 2, code := prog_83_method_1_code, exceptionTable := #[], attributes := #[] }
def k2m0 : Method := { name := "<init>", desc := "(I)V", sig := { parameters := [.int], returnType := none }, accessFlags := 0, code := some k2c0 }
def k2c1 : Code := { maxStack := 4, maxLocals := 4, code := prog_83_method_2_code, exceptionTable := #[], attributes := #[] }
def k2m1 : Method := { name := "add", desc := "(II)V", sig := { parameters := [.int, .int], returnType := none }, accessFlags := 0, code := some k2c1 }
def k2c2 : Code := { maxStack := 3, maxLocals := 4, code := prog_83_method_3_code, exceptionTable := #[], attributes := #[] }
def k2m2 : Method := { name := "countBelow", desc := "(I)I", sig := { parameters := [.int], returnType := some .int }, accessFlags := 0, code := some k2c2 }
/-- com/example/humble_grid/humblegrid/RowCounts -/
def k2 : Class := { plain "com/example/humble_grid/humblegrid/RowCounts" (some 0) with
  accessFlags := 32
  interfaces := #[]
  cf := some (fileOf pool2 8 #[] #[{ accessFlags := 0, nameIndex := 5, descriptorIndex := 13, attributes := #[] }, { accessFlags := 0, nameIndex := 16, descriptorIndex := 17, attributes := #[] }, { accessFlags := 0, nameIndex := 19, descriptorIndex := 20, attributes := #[] }] 32 2 #[] #[{ accessFlags := 18, nameIndex := 11, descriptorIndex := 12, attributes := #[] }])
  fields := #[{ name := "tree", type := (.array .int), accessFlags := 18, slot := 0, constantValue := 0 }]
  methods := #[k2m0, k2m1, k2m2]
  instanceTypes := #[(.array .int)]
  staticTypes := #[]
  resolved := Array.replicate 23 none
  statics := none }

def pool3 : Array CpInfo := pool [(1, u "java/lang/Cloneable"), (0, .class_ 1), (0, u "java/lang/Object"), (0, .class_ 3)] 3

/-- java/lang/Cloneable -/
def k3 : Class := { plain "java/lang/Cloneable" (some 0) with
  accessFlags := 1537
  interfaces := #[]
  cf := some (fileOf pool3 2 #[] #[] 1537 4 #[] #[])
  fields := #[]
  methods := #[]
  instanceTypes := #[]
  staticTypes := #[]
  resolved := Array.replicate 8 none
  statics := none }

def pool4 : Array CpInfo := pool [(1, u "java/io/Serializable"), (0, .class_ 1), (0, u "java/lang/Object"), (0, .class_ 3)] 3

/-- java/io/Serializable -/
def k4 : Class := { plain "java/io/Serializable" (some 0) with
  accessFlags := 1537
  interfaces := #[]
  cf := some (fileOf pool4 2 #[] #[] 1537 4 #[] #[])
  fields := #[]
  methods := #[]
  instanceTypes := #[]
  staticTypes := #[]
  resolved := Array.replicate 8 none
  statics := none }

/-- the primitive byte -/
def k5 : Class := { plain "byte" none with kind := .primitive 'B', accessFlags := 0x411 }
/-- [B -/
def k6 : Class := { plain "[B" (some 0) with kind := .array 5 .byte, interfaces := #[3, 4], accessFlags := 1041 }

/-- the primitive int -/
def k7 : Class := { plain "int" none with kind := .primitive 'I', accessFlags := 0x411 }
/-- [I -/
def k8 : Class := { plain "[I" (some 0) with kind := .array 7 .int, interfaces := #[3, 4], accessFlags := 1041 }

def heap : Heap := #[]
def classes : Array Class := #[k0, k1, k2, k3, k4, k5, k6, k7, k8]
def interned : List (Array UInt16 × Addr) := []
def slotsUsed : Nat := 0
def theMethod : MethodId := ⟨1, 1⟩
def args0 : Array Value := #[.int 0, .int 1, .int 2, .int 3, .int 4]
def aboutOver (below : List Frame) : State where
  vm := { classes := classes, interned := interned.toArray }
  heap := heap
  slotsUsed := slotsUsed
  threads := #[{ frames := .invoking theMethod args0 :: below }]
def below0 : List Frame := [.native { method := ⟨0, 0⟩, args := #[] }]
def about1 : State := aboutOver below0
def p0 : Program := .bare "" "" ""
def e0 : Env := launch0.env 0 0 0
theorem w_frames : about1.frames = Frame.invoking theMethod args0 :: below0 := rfl
set_option maxRecDepth 65536 in
theorem w_args : argsFit about1.vm theMethod args0 = true := by decide +kernel
set_option maxRecDepth 65536 in
theorem w_heap : heapFits about1 = true := by decide +kernel
set_option maxRecDepth 65536 in
theorem w_runnable : about1.curStatus? = some .runnable := by decide +kernel
set_option maxRecDepth 65536 in
theorem w_alone : about1.alone = true := by decide +kernel
set_option maxRecDepth 65536 in
theorem w_named : about1.methodNamed? x = some theMethod := by decide +kernel
set_option maxRecDepth 65536 in
theorem w_hears : about1.hears theMethod below0 = true := by decide +kernel
set_option maxRecDepth 65536 in
theorem w_ripe : about1.ripe theMethod args0 below0 = true := by decide +kernel
theorem w_running : about1.status = .running := rfl
set_option maxRecDepth 65536 in
theorem w_room : about1.hasRoom e0.platform room_1 = true :=
  launch0.hasRoom_least _ room_1 (by decide +kernel) (by decide +kernel) (by decide +kernel) (by decide +kernel) (by decide +kernel) (by decide +kernel)
theorem allAtoms_all (ts : List Jvm.Cond) (a : Array Jvm.Value) (st : Jvm.State) : (allAtoms ts).before a st = ts.all (fun c => c.before a st) := by
  induction ts with
  | nil => rfl
  | cons c t ih =>
    show (Jvm.Cond.and c (allAtoms t)).before a st = _
    rw [Jvm.Cond.before_and, ih, List.all_cons]
def words1 : List Jvm.Cond := Jvm.Cond.code x code maxLocals ret :: tables_1
/-- a 'code' word, met by the world's own term for the bytes: nothing is compared byte by byte -/
theorem code_word {y : MethodName} {bytes : ByteArray} {mx : Nat} {rt : Option FieldType} {a : Array Value} {s : State} {m : MethodId} {meth : Method} {c : Code} (h1 : s.methodNamed? y = some m) (h2 : s.vm.method? m = some meth) (h3 : meth.code = some c) (h4 : c.code = bytes)
    (h5 : (c.maxLocals == mx && c.exceptionTable.isEmpty && decide (c.maxStack ≤ mostOperands) && decide (meth.sig.returnType = rt) && !meth.locks && decide (parseMethodDescriptor y.desc = some meth.sig)) = true) : (Jvm.Cond.code y bytes mx rt).before a s = true := by
  simp only [Bool.and_eq_true, beq_iff_eq, Bool.not_eq_true', decide_eq_true_eq] at h5
  obtain ⟨⟨⟨⟨⟨g1, g2⟩, g3⟩, g4⟩, g5⟩, g6⟩ := h5
  simp [Cond.before, Cond.holds, Cond.value, h1, h2, h3, h4, g1, g2, g3, g4, g5, g6]
def isCode : Jvm.Cond → Bool
  | .code _ _ _ _ => true
  | _ => false
theorem all_split {L : List Jvm.Cond} {P : Jvm.Cond → Bool} (h1 : L.all (fun c => isCode c || P c) = true) (h2 : ∀ c ∈ L.filter isCode, P c = true) : L.all P = true := by
  refine List.all_eq_true.mpr fun c hc => ?_
  have h := List.all_eq_true.mp h1 c hc
  rcases Bool.eq_false_or_eq_true (isCode c) with hi | hi
  · exact h2 c (List.mem_filter.mpr ⟨hc, hi⟩)
  · simpa [hi] using h
set_option maxRecDepth 65536 in
theorem w_c0 : (Jvm.Cond.code x code maxLocals ret).before args0 about1 = true := code_word (m := ⟨1, 1⟩) (meth := k1m1) (c := k1c1) (by decide +kernel) rfl rfl rfl (by decide +kernel)
set_option maxRecDepth 65536 in
theorem w_c1 : (Jvm.Cond.code ({ cls := "com/example/humble_grid/humblegrid/RowCounts", name := "<init>", desc := "(I)V" } : Jvm.MethodName) prog_83_method_1_code (2 : Nat) (Option.none : Option Jvm.ClassFile.FieldType)).before args0 about1 = true := code_word (m := ⟨2, 0⟩) (meth := k2m0) (c := k2c0) (by decide +kernel) rfl rfl rfl (by decide +kernel)
set_option maxRecDepth 65536 in
theorem w_c2 : (Jvm.Cond.code ({ cls := "java/lang/Object", name := "<init>", desc := "()V" } : Jvm.MethodName) object_method_1_code (1 : Nat) (Option.none : Option Jvm.ClassFile.FieldType)).before args0 about1 = true := code_word (m := ⟨0, 0⟩) (meth := k0m0) (c := k0c0) (by decide +kernel) rfl rfl rfl (by decide +kernel)
set_option maxRecDepth 65536 in
theorem w_c3 : (Jvm.Cond.code ({ cls := "com/example/humble_grid/humblegrid/RowCounts", name := "add", desc := "(II)V" } : Jvm.MethodName) prog_83_method_2_code (4 : Nat) (Option.none : Option Jvm.ClassFile.FieldType)).before args0 about1 = true := code_word (m := ⟨2, 1⟩) (meth := k2m1) (c := k2c1) (by decide +kernel) rfl rfl rfl (by decide +kernel)
set_option maxRecDepth 65536 in
theorem w_c4 : (Jvm.Cond.code ({ cls := "com/example/humble_grid/humblegrid/RowCounts", name := "countBelow", desc := "(I)I" } : Jvm.MethodName) prog_83_method_3_code (4 : Nat) (Option.some Jvm.ClassFile.FieldType.int)).before args0 about1 = true := code_word (m := ⟨2, 2⟩) (meth := k2m2) (c := k2c2) (by decide +kernel) rfl rfl rfl (by decide +kernel)
set_option maxRecDepth 65536 in
theorem w_c5 : (Jvm.Cond.code ({ cls := "com/example/humble_grid/humblegrid/RowCountsAddPinLaw", name := "expected", desc := "(IIIII)I" } : Jvm.MethodName) method_3_code (6 : Nat) (Option.some Jvm.ClassFile.FieldType.int)).before args0 about1 = true := code_word (m := ⟨1, 2⟩) (meth := k1m2) (c := k1c2) (by decide +kernel) rfl rfl rfl (by decide +kernel)
def codes1 : List Jvm.Cond := [Jvm.Cond.code x code maxLocals ret, Jvm.Cond.code ({ cls := "com/example/humble_grid/humblegrid/RowCounts", name := "<init>", desc := "(I)V" } : Jvm.MethodName) prog_83_method_1_code (2 : Nat) (Option.none : Option Jvm.ClassFile.FieldType), Jvm.Cond.code ({ cls := "java/lang/Object", name := "<init>", desc := "()V" } : Jvm.MethodName) object_method_1_code (1 : Nat) (Option.none : Option Jvm.ClassFile.FieldType), Jvm.Cond.code ({ cls := "com/example/humble_grid/humblegrid/RowCounts", name := "add", desc := "(II)V" } : Jvm.MethodName) prog_83_method_2_code (4 : Nat) (Option.none : Option Jvm.ClassFile.FieldType), Jvm.Cond.code ({ cls := "com/example/humble_grid/humblegrid/RowCounts", name := "countBelow", desc := "(I)I" } : Jvm.MethodName) prog_83_method_3_code (4 : Nat) (Option.some Jvm.ClassFile.FieldType.int), Jvm.Cond.code ({ cls := "com/example/humble_grid/humblegrid/RowCountsAddPinLaw", name := "expected", desc := "(IIIII)I" } : Jvm.MethodName) method_3_code (6 : Nat) (Option.some Jvm.ClassFile.FieldType.int)]
set_option maxRecDepth 65536 in
theorem codes_eq : words1.filter isCode = codes1 := rfl
theorem w_codes : ∀ c ∈ words1.filter isCode, c.before args0 about1 = true := by
  rw [codes_eq]
  intro c hc
  simp only [codes1, List.mem_cons, List.not_mem_nil, or_false] at hc
  rcases hc with rfl | rfl | rfl | rfl | rfl | rfl
  · exact w_c0
  · exact w_c1
  · exact w_c2
  · exact w_c3
  · exact w_c4
  · exact w_c5
set_option maxRecDepth 65536 in
theorem w_t1 : (words1.take 24).all (fun c => isCode c || c.before args0 about1) = true := by decide +kernel
set_option maxRecDepth 65536 in
theorem w_t2 : (words1.drop 24).all (fun c => isCode c || c.before args0 about1) = true := by decide +kernel
theorem w_tables : (allAtoms (Jvm.Cond.code x code maxLocals ret :: tables_1)).before args0 about1 = true := by
  rw [allAtoms_all]
  show words1.all (fun c => c.before args0 about1) = true
  refine all_split ?_ w_codes
  rw [← List.take_append_drop 24 words1, List.all_append, w_t1, w_t2]
  rfl
set_option maxRecDepth 65536 in
theorem w_case : (Jvm.Cond.and given_1 narrow_1).before args0 about1 = true := by decide +kernel
theorem w_applies : (headSpec (Jvm.Cond.code x code maxLocals ret :: tables_1) room_1).applies x e0.platform about1 = true :=
  (Spec.applies_iff w_frames).mpr ⟨w_running, w_runnable, w_alone, w_named, w_hears, w_ripe, w_room, w_tables⟩
theorem atStart : AtStart classFile x code maxLocals ret World_1 tables_1 room_1 Calls_1 rest_1 Pre_1 launch0 p0 e0 about1 theMethod args0 below0 :=
  ⟨lists_1, trivial, launch0.admits_env _ _ _, launch0.least_env, fairChoices_fair.cas, fairChoices_fair.clock, w_frames, w_args, w_heap, w_applies, trivial, trivial, w_case⟩
end start1
theorem witness_1 : WitnessClaimed_1 := ⟨start1.p0, start1.e0, start1.about1, start1.theMethod, start1.args0, start1.below0, start1.atStart⟩
end Jvm.Pilot.@@N@@
