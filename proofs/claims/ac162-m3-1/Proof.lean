import JvmDerived
import JvmDerived.Pilot.@@N@@Statement
import JvmDerived.Pilot.@@N@@Code
set_option linter.unusedVariables false
set_option linter.unusedSimpArgs false
@@BLOCK:NumsL.lean.txt@@
namespace Jvm.Pilot.@@N@@
open Jvm Jvm.ClassFile Sem Op Lib Jvm.Free Jvm.Stand Jvm.LawKit Jvm.RoadKit Bundle Jvm.Pilot.@@N@@.Jvm.D
/-! own layer: the run from here ends, and Q holds of what it returned, of the heap and of the places written -/
def own_End (p : Program) (e : Env) (below : List Frame) (P : State → Outcome → Prop) (T : State) (f : JFrame) : Prop := ∃ s₂ o, Steps p.tables e below (T.setTop f) s₂ ∧ P s₂ o
def own_P (below : List Frame) (s : State) (Q : Option Value → Heap → List Loc → Prop) (kc ns : Nat) : State → Outcome → Prop := fun s₂ o => s₂.status = .running ∧ Ended s₂ below o ∧ ∃ v L, o = .returned v ∧ Q v s₂.heap L ∧ FrameEnd s o s₂ L kc ns
def own_Met (l : Launch) (Z : State) (y : MethodName) (bytes : ByteArray) (maxL : Nat) (ret : Option FieldType) (ws : List Jvm.Cond) (rm : Room) (as' : Array Value) (h : Heap) (Q : Option Value → Heap → List Loc → Prop) : Prop :=
  MetFree l y (head1 (Jvm.Cond.code y bytes maxL ret :: ws) rm) (fun a U => a = as' ∧ Z.Warmed39 U.vm ∧ U.heap = h) (fun _ _ _ _ _ => True) (fun _ U o U' => ∃ v L, o = .returned v ∧ Q v U'.heap L ∧ FrameEnd U o U' L rm.cells rm.slots)
section OwnSteps
variable {p : Program} {l : Launch} {e : Env} {R : Room} {s : State} {m : MethodId} {args : Array Value} {below : List Frame} {meth : Method} {c : Code} {T : State} {locs : List Loc} {cells slots : Nat} {P : State → Outcome → Prop} {Q : Option Value → Heap → List Loc → Prop} {kc ns : Nat} {Z : State} {a0 : Array Value} {h : Heap} {f : JFrame}
theorem own_go {T' : State} {f' : JFrame} (st : ∀ t, Steps p.tables e below (T'.setTop f') t → Steps p.tables e below (T.setTop f) t) (k : own_End p e below P T' f') : own_End p e below P T f := by
  obtain ⟨s₂, o, h1, h2⟩ := k
  exact ⟨s₂, o, st _ h1, h2⟩
theorem own_via {T' : State} {f' : JFrame} (st : Steps p.tables e below (T.setTop f) (T'.setTop f')) (k : own_End p e below P T' f') : own_End p e below P T f := own_go (fun _ h => st.trans h) k
theorem own_exf (h : False) : own_End p e below P T f := h.elim
theorem own_body {y : MethodName} {bytes : ByteArray} {maxL : Nat} {ret : Option FieldType} {ws : List Jvm.Cond} {rm : Room} {as' : Array Value} (hpl : plainFor y = true)
    (body : ∀ (p : Program) (e : Env) (s : State) (m : MethodId) (below : List Frame) (meth : Method) (c : Code) (s₁ : State), p.tables.exec = Jvm.exec → Z.Warmed39 s.vm → c.code = bytes → c.maxLocals = maxL → s.vm.findClass y.cls = some m.cls → meth.name = y.name → meth.sig.returnType = ret → meth.locks = false →
      Stand p l e rm s m as' below meth c s₁ [] 0 0 → s₁.heap = h → own_End p e below (own_P below s Q rm.cells rm.slots) s₁ (entryFrame m as' maxL)) : own_Met l Z y bytes maxL ret ws rm as' h Q := by
  refine MetFree.of_bodySF hpl hisR ?_
  intro p e s m args below meth c s₁ Bd hml0 hP hK
  obtain ⟨rfl, hZ, hh⟩ := hP
  exact body p e s m below meth c s₁ Bd.exec hZ Bd.bytes hml0 (findClass_of_methodNamed Bd.named) (name_of_methodNamed Bd.named Bd.method).1 Bd.returns Bd.notSynchronized (Stand.of_body Bd) (by rw [← hh, Bd.state]; rfl)
theorem own_cast {g g' : JFrame} (q : g = g') (k : own_End p e below P T g') : own_End p e below P T g := q ▸ k
theorem own_ret (X : Stand p l e R s m args below meth c T locs cells slots) (hP : P = own_P below s Q kc ns) (hlk : meth.locks = false) (eT : T.heap = h) {v : Option Value} (hv : meth.sig.returnType = none → v = none) (hk : cells ≤ kc) (hn : slots ≤ ns) (hQ : Q v h locs)
    (st : ∀ fs, (∀ (f : JFrame) (acts : List Action), f.method = m → f.locked = none → f.entered = [] → (doReturn e (T.setTop f) acts v).1 = T.setFrames fs) → Steps p.tables e below (T.setTop f) (T.setFrames fs)) : own_End p e below P T f := by
  obtain ⟨fs, hr, hrun, hended, hW, hsame⟩ := X.leave hv hlk
  subst hP
  exact ⟨_, _, st fs hr, hrun, hended, _, _, rfl, (eT ▸ hQ : Q v T.heap locs), ⟨_, rfl⟩, hW, hsame.mono hk hn⟩
theorem own_retV (X : Stand p l e R s m args below meth c T locs cells slots) (hP : P = own_P below s Q kc ns) (hx : p.tables.exec = Jvm.exec) (hlk : meth.locks = false) (eT : T.heap = h) {pc : Nat} {Ls : Array Slot} (hret : meth.sig.returnType = none) (hd : decode c.code pc = .ok (.return_, 1)) (hk : cells ≤ kc) (hn : slots ≤ ns) (hQ : Q none h locs) :
    own_End p e below P T (mkF m pc Ls []) := own_ret X hP hlk eT (fun _ => rfl) hk hn hQ fun _ hr => X.returnOut hx hret hd hr
theorem own_retI (X : Stand p l e R s m args below meth c T locs cells slots) (hP : P = own_P below s Q kc ns) (hx : p.tables.exec = Jvm.exec) (hlk : meth.locks = false) (eT : T.heap = h) {pc : Nat} {Ls : Array Slot} {z : Int32} {rest : List Value} (hret : meth.sig.returnType = some .int) (hd : decode c.code pc = .ok (.ireturn, 1)) (hk : cells ≤ kc) (hn : slots ≤ ns) (hQ : Q (some (.int z)) h locs) :
    own_End p e below P T (mkF m pc Ls (.int z :: rest)) := own_ret X hP hlk eT (fun h => by rw [hret] at h; cases h) hk hn hQ fun fs hr => retOut X hx hret rfl (Or.inl ⟨rfl, Or.inl rfl, z, rfl⟩) hd hr
theorem own_retN (X : Stand p l e R s m args below meth c T locs cells slots) (hP : P = own_P below s Q kc ns) (hx : p.tables.exec = Jvm.exec) (hlk : meth.locks = false) (eT : T.heap = h) {pc : Nat} {Ls : Array Slot} {z : Int32} {rest : List Value} {t : FieldType} (hret : meth.sig.returnType = some t) (ht : t = .boolean ∨ t = .byte ∨ t = .char ∨ t = .short) (hd : decode c.code pc = .ok (.ireturn, 1)) (hk : cells ≤ kc) (hn : slots ≤ ns) {z' : Int32} (hz : nar t z = z') (hQ : Q (some (.int z')) h locs) :
    own_End p e below P T (mkF m pc Ls (.int z :: rest)) := by
  subst hz
  exact own_ret X hP hlk eT (fun h => by rw [hret] at h; cases h) hk hn hQ fun fs hr => retN X hx hret ht hd hr
theorem own_retJ (X : Stand p l e R s m args below meth c T locs cells slots) (hP : P = own_P below s Q kc ns) (hx : p.tables.exec = Jvm.exec) (hlk : meth.locks = false) (eT : T.heap = h) {pc : Nat} {Ls : Array Slot} {z : Int64} {rest : List Value} (hret : meth.sig.returnType = some .long) (hd : decode c.code pc = .ok (.lreturn, 1)) (hk : cells ≤ kc) (hn : slots ≤ ns) (hQ : Q (some (.long z)) h locs) :
    own_End p e below P T (mkF m pc Ls (.long z :: rest)) := own_ret X hP hlk eT (fun h => by rw [hret] at h; cases h) hk hn hQ fun fs hr => retOut X hx hret rfl (Or.inr (Or.inl ⟨rfl, rfl, z, rfl⟩)) hd hr
theorem own_retA (X : Stand p l e R s m args below meth c T locs cells slots) (hP : P = own_P below s Q kc ns) (hx : p.tables.exec = Jvm.exec) (hlk : meth.locks = false) (eT : T.heap = h) {pc : Nat} {Ls : Array Slot} {w : Value} {rest : List Value} {t : FieldType} (hret : meth.sig.returnType = some t) (ht : t.isReference = true) (hw : w.isRef = true) (hnr : narrow t w = w) (hd : decode c.code pc = .ok (.areturn, 1)) (hk : cells ≤ kc) (hn : slots ≤ ns) (hQ : Q (some w) h locs) :
    own_End p e below P T (mkF m pc Ls (w :: rest)) := own_ret X hP hlk eT (fun h => by rw [hret] at h; cases h) hk hn hQ fun fs hr => retOut X hx hret hnr (Or.inr (Or.inr (Or.inr (Or.inr ⟨rfl, ht, hw⟩)))) hd hr
theorem own_callS (X : Stand p l e R s m args below meth c T locs cells slots) (hx : p.tables.exec = Jvm.exec) (hZ : Z.Warmed39 s.vm) {own : String} (hown : s.vm.findClass own = some m.cls) (eT : T.heap = h) {index : Nat} {y : MethodName} {bytes : ByteArray} {maxL : Nat} {ret : Option FieldType} {rm : Room} {as' : Array Value} {Q' : Option Value → Heap → List Loc → Prop}
    (w1 : (Cond.methodLink own index y).before a0 Z = true) (w2 : (Cond.static y).before a0 Z = true) (w3 : (Cond.initialized y.cls).before a0 Z = true) (w4 : (Cond.code y bytes maxL ret).before a0 Z = true) (hy : y.cls ≠ "java/lang/invoke/MethodHandle" ∧ y.cls ≠ "java/lang/invoke/VarHandle")
    (hM : own_Met l Z y bytes maxL ret [] rm as' h Q') {g : JFrame} (hg : g.method = m) (hsize : g.locals.size = c.maxLocals) {argsL rest : List Value} (hlen : ∀ sig, parseMethodDescriptor y.desc = some sig → argsL.length = sig.parameters.length) (hstack : g.stack = argsL.reverse ++ rest) (has : argsL.toArray = as') {W : Nat} (hW : 2 * g.monitorRoom + (rest.map fun v => v.category).sum ≤ W) (hdg : decode c.code g.pc = .ok (.invokestatic index, 3))
    (hf : rm.frames + 1 ≤ R.frames) (hl : W + (maxL + 11) + rm.locals ≤ R.locals) (hc : cells + rm.cells ≤ R.cells) (hs : slots + rm.slots ≤ R.slots)
    (k : ∀ v T' L, Stand p l e R s m args below meth c T' (locs ++ L) (cells + rm.cells) (slots + rm.slots) → Q' v T'.heap L → own_End p e below P T' { g with pc := g.pc + 3, stack := v.toList ++ rest }) : own_End p e below P T g := by
  obtain ⟨v, vm1, ⟨T', L1, k1, n1⟩, -, X', ⟨L, hQ, l1, y1, z1⟩, st⟩ := Jvm.LawKit.callS X hx (y := y) hown (mvT hZ w1) (mvT hZ w2) (mvT hZ w3) (mvT hZ w4) hy (backOf (W := W) hM hZ w4 w3 hf hl) hg hsize hlen hstack hW hdg (fun _ _ => ⟨has, eT, hc, hs⟩)
  dsimp only [Pt.U, Pt.locs, Pt.cells, Pt.slots] at X' l1 y1 z1 st hQ
  subst l1 y1 z1
  exact own_go st (k v T' L X' hQ)
theorem own_callC (X : Stand p l e R s m args below meth c T locs cells slots) (hx : p.tables.exec = Jvm.exec) (hZ : Z.Warmed39 s.vm) {own : String} (hown : s.vm.findClass own = some m.cls) (eT : T.heap = h) {index : Nat} {y : MethodName} {bytes : ByteArray} {maxL : Nat} {rm : Room} {as' : Array Value} {Q' : Option Value → Heap → List Loc → Prop}
    (hyi : y.name = "<init>") (w1 : (Cond.methodLink own index y).before a0 Z = true) (w2 : (Cond.instanceMethod y).before a0 Z = true) (w3 : (Cond.initialized y.cls).before a0 Z = true) (w4 : (Cond.code y bytes maxL none).before a0 Z = true) (hy : y.cls ≠ "java/lang/invoke/MethodHandle" ∧ y.cls ≠ "java/lang/invoke/VarHandle")
    (hM : own_Met l Z y bytes maxL none [] rm as' h Q') {g : JFrame} (hg : g.method = m) (hsize : g.locals.size = c.maxLocals) {a : Addr} {argsL rest : List Value} (hlen : ∀ sig, parseMethodDescriptor y.desc = some sig → argsL.length = sig.parameters.length) (hstack : g.stack = argsL.reverse ++ .ref a :: rest) (has : (.ref a :: argsL).toArray = as') {W : Nat} (hW : 2 * g.monitorRoom + (rest.map fun v => v.category).sum ≤ W) (hdg : decode c.code g.pc = .ok (.invokespecial index, 3))
    (hf : rm.frames + 1 ≤ R.frames) (hl : W + (maxL + 11) + rm.locals ≤ R.locals) (hc : cells + rm.cells ≤ R.cells) (hs : slots + rm.slots ≤ R.slots)
    (k : ∀ v T' L, Stand p l e R s m args below meth c T' (locs ++ L) (cells + rm.cells) (slots + rm.slots) → Q' v T'.heap L → own_End p e below P T' { g with pc := g.pc + 3, stack := v.toList ++ rest }) : own_End p e below P T g := by
  obtain ⟨v, vm1, ⟨T', L1, k1, n1⟩, -, X', ⟨L, hQ, l1, y1, z1⟩, st⟩ := X.specialBack hx (y := y) hyi hown (mvT hZ w1) (mvT hZ w2) (mvT hZ w4) hy (backOf (W := W) hM hZ w4 w3 hf hl) hg hsize (Steps.refl _) (a := a) hlen hstack hW hdg (fun _ _ => ⟨has, eT, hc, hs⟩)
  dsimp only [Pt.U, Pt.locs, Pt.cells, Pt.slots] at X' l1 y1 z1 st hQ
  subst l1 y1 z1
  exact own_via st (k v T' L X' hQ)
theorem own_callV (X : Stand p l e R s m args below meth c T locs cells slots) (hx : p.tables.exec = Jvm.exec) (hZ : Z.Warmed39 s.vm) {own : String} (hown : s.vm.findClass own = some m.cls) (eT : T.heap = h) {index : Nat} {C : String} {y z : MethodName} {bytes : ByteArray} {maxL : Nat} {ret : Option FieldType} {rm : Room} {as' : Array Value} {Q' : Option Value → Heap → List Loc → Prop}
    (w1 : (Cond.methodLink own index y).before a0 Z = true) (wd : (Cond.declares y).before a0 Z = true) (hnf : NotFace s y) (wsel : (Cond.selects C y z).before a0 Z = true) (w2 : (Cond.instanceMethod z).before a0 Z = true) (w3 : (Cond.initialized z.cls).before a0 Z = true) (w4 : (Cond.code z bytes maxL ret).before a0 Z = true) (hy : y.cls ≠ "java/lang/invoke/MethodHandle" ∧ y.cls ≠ "java/lang/invoke/VarHandle")
    (hM : own_Met l Z z bytes maxL ret [] rm as' h Q') {a : Addr} (E : Exa Z h a C) {g : JFrame} (hg : g.method = m) (hsize : g.locals.size = c.maxLocals) {argsL rest : List Value} (hlen : ∀ sig, parseMethodDescriptor y.desc = some sig → argsL.length = sig.parameters.length) (hstack : g.stack = argsL.reverse ++ .ref a :: rest) (has : (.ref a :: argsL).toArray = as') {W : Nat} (hW : 2 * g.monitorRoom + (rest.map fun v => v.category).sum ≤ W) (hdg : decode c.code g.pc = .ok (.invokevirtual index, 3))
    (hf : rm.frames + 1 ≤ R.frames) (hl : W + (maxL + 11) + rm.locals ≤ R.locals) (hc : cells + rm.cells ≤ R.cells) (hs : slots + rm.slots ≤ R.slots)
    (k : ∀ v T' L, Stand p l e R s m args below meth c T' (locs ++ L) (cells + rm.cells) (slots + rm.slots) → Q' v T'.heap L → own_End p e below P T' { g with pc := g.pc + 3, stack := v.toList ++ rest }) : own_End p e below P T g := by
  obtain ⟨cB, kB, q1, q2, q3⟩ := isOf (T := T) hZ eT E
  obtain ⟨v, vm1, ⟨T', L1, k1, n1⟩, -, X', ⟨L, hQ, l1, y1, z1⟩, st⟩ := X.virtualBack hx (y := y) (z := z) hown (mvT hZ w1) (mvT hZ wd) hnf (mvT hZ wsel) (mvT hZ w2) hy (backOf (W := W) hM hZ w4 w3 hf hl) q1 q3 hg hsize (Steps.refl _) hlen hstack hW hdg (fun _ _ => ⟨has, eT, hc, hs⟩)
  dsimp only [Pt.U, Pt.locs, Pt.cells, Pt.slots] at X' l1 y1 z1 st hQ
  subst l1 y1 z1
  exact own_via st (k v T' L X' hQ)
theorem own_selP {C : String} {x' y y' : MethodName} (wz : (Cond.selects C x' y').before args s = true) (hc : y'.cls = y.cls) (hpriv : s.PrivateAt y) (hinst : (Cond.instanceMethod y).before args s = true) (hy : y.cls ≠ "java/lang/invoke/MethodHandle" ∧ y.cls ≠ "java/lang/invoke/VarHandle") : (Cond.selects y.cls y y).before args s = true := by
  obtain ⟨_, _, m2, -, -, q3, -, kP, hkP, hkPi⟩ := Cond.selects_spec wz
  exact selects_self_of_private (by rw [← hc]; exact findClass_of_methodNamed q3) hkP hkPi hpriv hinst hy
theorem own_callP (X : Stand p l e R s m args below meth c T locs cells slots) (hx : p.tables.exec = Jvm.exec) (hZ : Z.Warmed39 s.vm) {own : String} (hown : s.vm.findClass own = some m.cls) (eT : T.heap = h) {index : Nat} {y : MethodName} {bytes : ByteArray} {maxL : Nat} {ret : Option FieldType} {rm : Room} {as' : Array Value} {Q' : Option Value → Heap → List Loc → Prop}
    (w1 : (Cond.methodLink own index y).before a0 Z = true) (w2 : (Cond.instanceMethod y).before a0 Z = true) (wsel : (Cond.selects y.cls y y).before args s = true) (wp : (Cond.privateMethod y).before a0 Z = true) (w3 : (Cond.initialized y.cls).before a0 Z = true) (w4 : (Cond.code y bytes maxL ret).before a0 Z = true) (hy : y.cls ≠ "java/lang/invoke/MethodHandle" ∧ y.cls ≠ "java/lang/invoke/VarHandle")
    (hM : own_Met l Z y bytes maxL ret [] rm as' h Q') {C : String} {a : Addr} (E : Exa Z h a C) {g : JFrame} (hg : g.method = m) (hsize : g.locals.size = c.maxLocals) {argsL rest : List Value} (hlen : ∀ sig, parseMethodDescriptor y.desc = some sig → argsL.length = sig.parameters.length) (hstack : g.stack = argsL.reverse ++ .ref a :: rest) (has : (.ref a :: argsL).toArray = as') {W : Nat} (hW : 2 * g.monitorRoom + (rest.map fun v => v.category).sum ≤ W) (hdg : decode c.code g.pc = .ok (.invokevirtual index, 3))
    (hf : rm.frames + 1 ≤ R.frames) (hl : W + (maxL + 11) + rm.locals ≤ R.locals) (hc : cells + rm.cells ≤ R.cells) (hs : slots + rm.slots ≤ R.slots)
    (k : ∀ v T' L, Stand p l e R s m args below meth c T' (locs ++ L) (cells + rm.cells) (slots + rm.slots) → Q' v T'.heap L → own_End p e below P T' { g with pc := g.pc + 3, stack := v.toList ++ rest }) : own_End p e below P T g := by
  obtain ⟨cq, q1, q2⟩ := E.cell
  obtain ⟨v, vm1, ⟨T', L1, k1, n1⟩, -, X', ⟨L, hQ, l1, y1, z1⟩, st⟩ := X.privateBack hx (y := y) hown (mvT hZ w1) (mvT hZ w2) wsel (Cond.privateMethod_at (mvP hZ wp (args := #[]))) (mvT hZ w4) hy (backOf (W := W) hM hZ w4 w3 hf hl) hg hsize (Steps.refl _) (a := a) (by rw [eT]; exact q1) q2 hlen hstack hW hdg (fun _ _ => ⟨has, eT, hc, hs⟩)
  dsimp only [Pt.U, Pt.locs, Pt.cells, Pt.slots] at X' l1 y1 z1 st hQ
  subst l1 y1 z1
  exact own_via st (k v T' L X' hQ)
end OwnSteps
/-! own: a truth as an int; comparisons of longs -/
def own_z (P : Prop) [Decidable P] : Int32 := if P then 1 else 0
section OwnTruth
variable {P : Prop} [Decidable P] {x y : Int64}
theorem own_z_t (h : P) : own_z P = 1 := if_pos h
theorem own_z_f (h : ¬ P) : own_z P = 0 := if_neg h
theorem own_z_nar : nar .boolean (own_z P) = own_z P := by unfold own_z; split <;> decide
theorem own_z_congr {P' : Prop} [Decidable P'] (h : P ↔ P') : own_z P = own_z P' := by unfold own_z; by_cases q : P <;> simp [q, h.symm, h.mp] <;> simp_all
theorem own_z_inj {P' : Prop} [Decidable P'] (h : own_z P = own_z P') : P ↔ P' := by
  unfold own_z at h; by_cases q : P <;> by_cases q' : P' <;> simp_all
theorem own_zY_eq (h : ¬ P) : ifCond.holds .eq (own_z P) = true := by rw [own_z_f h]; rfl
theorem own_zN_eq (h : P) : ifCond.holds .eq (own_z P) = false := by rw [own_z_t h]; rfl
theorem own_zY_ne (h : P) : ifCond.holds .ne (own_z P) = true := by rw [own_z_t h]; rfl
theorem own_zN_ne (h : ¬ P) : ifCond.holds .ne (own_z P) = false := by rw [own_z_f h]; rfl
theorem own_lY_lt (h : x < y) : ifCond.holds .lt (lcmpW x y) = true := (if0 _ _).trans (tlt ((lw_lt x y).mpr h)).1
theorem own_lN_lt (h : ¬ x < y) : ifCond.holds .lt (lcmpW x y) = false := (if0 _ _).trans (flt (mt (lw_lt x y).mp h)).1
theorem own_lY_ge (h : ¬ x < y) : ifCond.holds .ge (lcmpW x y) = true := (if0 _ _).trans (flt (mt (lw_lt x y).mp h)).2.1
theorem own_lN_ge (h : x < y) : ifCond.holds .ge (lcmpW x y) = false := (if0 _ _).trans (tlt ((lw_lt x y).mpr h)).2.1
theorem own_lY_gt (h : y < x) : ifCond.holds .gt (lcmpW x y) = true := (if0 _ _).trans (tlt ((lw_gt x y).mpr h)).2.2.1
theorem own_lN_gt (h : ¬ y < x) : ifCond.holds .gt (lcmpW x y) = false := (if0 _ _).trans (flt (mt (lw_gt x y).mp h)).2.2.1
theorem own_lY_le (h : ¬ y < x) : ifCond.holds .le (lcmpW x y) = true := (if0 _ _).trans (flt (mt (lw_gt x y).mp h)).2.2.2
theorem own_lN_le (h : y < x) : ifCond.holds .le (lcmpW x y) = false := (if0 _ _).trans (tlt ((lw_gt x y).mpr h)).2.2.2
theorem own_lY_eq (h : x = y) : ifCond.holds .eq (lcmpW x y) = true := (if0 _ _).trans (teq ((lw_eq x y).mpr h)).1
theorem own_lN_eq (h : ¬ x = y) : ifCond.holds .eq (lcmpW x y) = false := (if0 _ _).trans (feq (mt (lw_eq x y).mp h)).1
theorem own_lY_ne (h : ¬ x = y) : ifCond.holds .ne (lcmpW x y) = true := (if0 _ _).trans (feq (mt (lw_eq x y).mp h)).2
theorem own_lN_ne (h : x = y) : ifCond.holds .ne (lcmpW x y) = false := (if0 _ _).trans (teq ((lw_eq x y).mpr h)).2
end OwnTruth
/-! own: a callee that writes nothing -/
def own_Pq (val : Option Value) (h : Heap) : Option Value → Heap → List Loc → Prop := fun v h' L => v = val ∧ L = [] ∧ h' = h
section OwnPure
variable {p : Program} {l : Launch} {e : Env} {R : Room} {s : State} {m : MethodId} {args : Array Value} {below : List Frame} {meth : Method} {c : Code} {T : State} {locs : List Loc} {cells slots : Nat} {P : State → Outcome → Prop} {Q : Option Value → Heap → List Loc → Prop} {kc ns : Nat} {Z : State} {a0 : Array Value} {h : Heap} {f : JFrame}
theorem own_callSp (X : Stand p l e R s m args below meth c T locs cells slots) (hx : p.tables.exec = Jvm.exec) (hZ : Z.Warmed39 s.vm) {own : String} (hown : s.vm.findClass own = some m.cls) (eT : T.heap = h) {index : Nat} {y : MethodName} {bytes : ByteArray} {maxL : Nat} {ret : Option FieldType} {fr lo : Nat} {as' : Array Value} {val : Option Value}
    (w1 : (Cond.methodLink own index y).before a0 Z = true) (w2 : (Cond.static y).before a0 Z = true) (w3 : (Cond.initialized y.cls).before a0 Z = true) (w4 : (Cond.code y bytes maxL ret).before a0 Z = true) (hy : y.cls ≠ "java/lang/invoke/MethodHandle" ∧ y.cls ≠ "java/lang/invoke/VarHandle")
    (hM : own_Met l Z y bytes maxL ret [] { frames := fr, cells := 0, slots := 0, locals := lo } as' h (own_Pq val h)) {g : JFrame} (hg : g.method = m) (hsize : g.locals.size = c.maxLocals) {argsL rest : List Value} (hlen : ∀ sig, parseMethodDescriptor y.desc = some sig → argsL.length = sig.parameters.length) (hstack : g.stack = argsL.reverse ++ rest) (has : argsL.toArray = as') {W : Nat} (hW : 2 * g.monitorRoom + (rest.map fun v => v.category).sum ≤ W) (hdg : decode c.code g.pc = .ok (.invokestatic index, 3))
    (hf : fr + 1 ≤ R.frames) (hl : W + (maxL + 11) + lo ≤ R.locals) (hc : cells ≤ R.cells) (hs : slots ≤ R.slots)
    (k : ∀ T', Stand p l e R s m args below meth c T' locs cells slots → T'.heap = h → own_End p e below P T' { g with pc := g.pc + 3, stack := val.toList ++ rest }) : own_End p e below P T g :=
  own_callS X hx hZ hown eT w1 w2 w3 w4 hy hM hg hsize hlen hstack has hW hdg hf hl hc hs fun v T' L X' ⟨q1, q2, q3⟩ => by
    subst q1 q2
    rw [List.append_nil] at X'
    exact k T' X' q3
theorem own_callCp (X : Stand p l e R s m args below meth c T locs cells slots) (hx : p.tables.exec = Jvm.exec) (hZ : Z.Warmed39 s.vm) {own : String} (hown : s.vm.findClass own = some m.cls) (eT : T.heap = h) {index : Nat} {y : MethodName} {bytes : ByteArray} {maxL : Nat} {fr lo : Nat} {as' : Array Value} {val : Option Value}
    (hyi : y.name = "<init>") (w1 : (Cond.methodLink own index y).before a0 Z = true) (w2 : (Cond.instanceMethod y).before a0 Z = true) (w3 : (Cond.initialized y.cls).before a0 Z = true) (w4 : (Cond.code y bytes maxL none).before a0 Z = true) (hy : y.cls ≠ "java/lang/invoke/MethodHandle" ∧ y.cls ≠ "java/lang/invoke/VarHandle")
    (hM : own_Met l Z y bytes maxL none [] { frames := fr, cells := 0, slots := 0, locals := lo } as' h (own_Pq val h)) {g : JFrame} (hg : g.method = m) (hsize : g.locals.size = c.maxLocals) {a : Addr} {argsL rest : List Value} (hlen : ∀ sig, parseMethodDescriptor y.desc = some sig → argsL.length = sig.parameters.length) (hstack : g.stack = argsL.reverse ++ .ref a :: rest) (has : (.ref a :: argsL).toArray = as') {W : Nat} (hW : 2 * g.monitorRoom + (rest.map fun v => v.category).sum ≤ W) (hdg : decode c.code g.pc = .ok (.invokespecial index, 3))
    (hf : fr + 1 ≤ R.frames) (hl : W + (maxL + 11) + lo ≤ R.locals) (hc : cells ≤ R.cells) (hs : slots ≤ R.slots)
    (k : ∀ T', Stand p l e R s m args below meth c T' locs cells slots → T'.heap = h → own_End p e below P T' { g with pc := g.pc + 3, stack := val.toList ++ rest }) : own_End p e below P T g :=
  own_callC X hx hZ hown eT hyi w1 w2 w3 w4 hy hM hg hsize hlen hstack has hW hdg hf hl hc hs fun v T' L X' ⟨q1, q2, q3⟩ => by
    subst q1 q2
    rw [List.append_nil] at X'
    exact k T' X' q3
theorem own_callVp (X : Stand p l e R s m args below meth c T locs cells slots) (hx : p.tables.exec = Jvm.exec) (hZ : Z.Warmed39 s.vm) {own : String} (hown : s.vm.findClass own = some m.cls) (eT : T.heap = h) {index : Nat} {C : String} {y z : MethodName} {bytes : ByteArray} {maxL : Nat} {ret : Option FieldType} {fr lo : Nat} {as' : Array Value} {val : Option Value}
    (w1 : (Cond.methodLink own index y).before a0 Z = true) (wd : (Cond.declares y).before a0 Z = true) (hnf : NotFace s y) (wsel : (Cond.selects C y z).before a0 Z = true) (w2 : (Cond.instanceMethod z).before a0 Z = true) (w3 : (Cond.initialized z.cls).before a0 Z = true) (w4 : (Cond.code z bytes maxL ret).before a0 Z = true) (hy : y.cls ≠ "java/lang/invoke/MethodHandle" ∧ y.cls ≠ "java/lang/invoke/VarHandle")
    (hM : own_Met l Z z bytes maxL ret [] { frames := fr, cells := 0, slots := 0, locals := lo } as' h (own_Pq val h)) {a : Addr} (E : Exa Z h a C) {g : JFrame} (hg : g.method = m) (hsize : g.locals.size = c.maxLocals) {argsL rest : List Value} (hlen : ∀ sig, parseMethodDescriptor y.desc = some sig → argsL.length = sig.parameters.length) (hstack : g.stack = argsL.reverse ++ .ref a :: rest) (has : (.ref a :: argsL).toArray = as') {W : Nat} (hW : 2 * g.monitorRoom + (rest.map fun v => v.category).sum ≤ W) (hdg : decode c.code g.pc = .ok (.invokevirtual index, 3))
    (hf : fr + 1 ≤ R.frames) (hl : W + (maxL + 11) + lo ≤ R.locals) (hc : cells ≤ R.cells) (hs : slots ≤ R.slots)
    (k : ∀ T', Stand p l e R s m args below meth c T' locs cells slots → T'.heap = h → own_End p e below P T' { g with pc := g.pc + 3, stack := val.toList ++ rest }) : own_End p e below P T g :=
  own_callV X hx hZ hown eT w1 wd hnf wsel w2 w3 w4 hy hM E hg hsize hlen hstack has hW hdg hf hl hc hs fun v T' L X' ⟨q1, q2, q3⟩ => by
    subst q1 q2
    rw [List.append_nil] at X'
    exact k T' X' q3
theorem own_callPp (X : Stand p l e R s m args below meth c T locs cells slots) (hx : p.tables.exec = Jvm.exec) (hZ : Z.Warmed39 s.vm) {own : String} (hown : s.vm.findClass own = some m.cls) (eT : T.heap = h) {index : Nat} {y : MethodName} {bytes : ByteArray} {maxL : Nat} {ret : Option FieldType} {fr lo : Nat} {as' : Array Value} {val : Option Value}
    (w1 : (Cond.methodLink own index y).before a0 Z = true) (w2 : (Cond.instanceMethod y).before a0 Z = true) (wsel : (Cond.selects y.cls y y).before args s = true) (wp : (Cond.privateMethod y).before a0 Z = true) (w3 : (Cond.initialized y.cls).before a0 Z = true) (w4 : (Cond.code y bytes maxL ret).before a0 Z = true) (hy : y.cls ≠ "java/lang/invoke/MethodHandle" ∧ y.cls ≠ "java/lang/invoke/VarHandle")
    (hM : own_Met l Z y bytes maxL ret [] { frames := fr, cells := 0, slots := 0, locals := lo } as' h (own_Pq val h)) {C : String} {a : Addr} (E : Exa Z h a C) {g : JFrame} (hg : g.method = m) (hsize : g.locals.size = c.maxLocals) {argsL rest : List Value} (hlen : ∀ sig, parseMethodDescriptor y.desc = some sig → argsL.length = sig.parameters.length) (hstack : g.stack = argsL.reverse ++ .ref a :: rest) (has : (.ref a :: argsL).toArray = as') {W : Nat} (hW : 2 * g.monitorRoom + (rest.map fun v => v.category).sum ≤ W) (hdg : decode c.code g.pc = .ok (.invokevirtual index, 3))
    (hf : fr + 1 ≤ R.frames) (hl : W + (maxL + 11) + lo ≤ R.locals) (hc : cells ≤ R.cells) (hs : slots ≤ R.slots)
    (k : ∀ T', Stand p l e R s m args below meth c T' locs cells slots → T'.heap = h → own_End p e below P T' { g with pc := g.pc + 3, stack := val.toList ++ rest }) : own_End p e below P T g :=
  own_callP X hx hZ hown eT w1 w2 wsel wp w3 w4 hy hM E hg hsize hlen hstack has hW hdg hf hl hc hs fun v T' L X' ⟨q1, q2, q3⟩ => by
    subst q1 q2
    rw [List.append_nil] at X'
    exact k T' X' q3
end OwnPure
/-! own: a cell that is known -/
def own_K (h : Heap) (a : Addr) : Prop := ∃ cell : Cell, h[a]? = some cell ∧ cell.vm ≠ .unknown
theorem own_K_ext {h h' : Heap} {a : Addr} (K : own_K h a) (E : Ext h h') : own_K h' a := by obtain ⟨c, h1, h2⟩ := K; exact ⟨c, E.2 _ _ h1, h2⟩
theorem own_K_wr {h h' : Heap} {a b : Addr} {sl : Nat} {v : Value} (K : own_K h b) (W : Wr h h' a sl v) : own_K h' b := by
  obtain ⟨c, h1, h2⟩ := K
  obtain ⟨c', e1, -, e3, -⟩ := wr_at W h1
  exact ⟨c', e1, by rw [e3]; exact h2⟩
theorem own_K_keep {h h' : Heap} {a : Addr} {ws : List Addr} (K : own_K h a) (E : Keep h h' ws) : own_K h' a := by
  obtain ⟨c, h1, h2⟩ := K
  obtain ⟨c', e1, -, e3, -⟩ := E.2.2 _ _ h1
  exact ⟨c', e1, by rw [e3]; exact h2⟩
theorem own_K_new {h : Heap} {a : Addr} (U : ∃ cell : Cell, h[a]? = some cell ∧ cell.vm = .none ∧ cell.monitor = {}) : own_K h a := by
  obtain ⟨c, h1, h2, -⟩ := U
  exact ⟨c, h1, by rw [h2]; simp⟩
/-! own: an array of n places, place i holds f i -/
def own_A (Z : State) (h : Heap) (a : Addr) (ty : FieldType) (n : Nat) (f : Nat → Value) : Prop := ∃ c : Cell, Arr Z h a c ty ∧ c.slots.size = n ∧ n < 2147483648 ∧ ∀ i, i < n → c.slots[i]? = some (f i)
abbrev own_AJ (Z : State) (h : Heap) (a : Addr) (n : Nat) (f : Nat → Int64) : Prop := own_A Z h a .long n (fun i => .long (f i))
abbrev own_AI (Z : State) (h : Heap) (a : Addr) (n : Nat) (f : Nat → Int32) : Prop := own_A Z h a .int n (fun i => .int (f i))
abbrev own_AB (Z : State) (h : Heap) (a : Addr) (n : Nat) (f : Nat → Int32) : Prop := own_A Z h a .byte n (fun i => .int (f i))
def own_set {α : Type} (f : Nat → α) (i : Nat) (x : α) : Nat → α := fun k => if k = i then x else f k
theorem own_set_eq {α : Type} {f : Nat → α} {i k : Nat} {x : α} (h : k = i) : own_set f i x k = x := if_pos h
theorem own_set_ne {α : Type} {f : Nat → α} {i k : Nat} {x : α} (h : k ≠ i) : own_set f i x k = f k := if_neg h
section OwnArr
variable {Z : State} {h h' : Heap} {a b : Addr} {ty : FieldType} {n : Nat} {f f' : Nat → Value}
theorem own_A.lt (A : own_A Z h a ty n f) : a < h.size := by obtain ⟨c, A, -⟩ := A; exact A.lt
theorem own_A.ext (A : own_A Z h a ty n f) (E : Ext h h') : own_A Z h' a ty n f := by obtain ⟨c, A, r⟩ := A; exact ⟨c, A.ext E, r⟩
theorem own_A.other {sl : Nat} {v : Value} (A : own_A Z h b ty n f) (W : Wr h h' a sl v) (q : b ≠ a) : own_A Z h' b ty n f := by obtain ⟨c, A, r⟩ := A; exact ⟨c, A.other W q, r⟩
theorem own_A.keep {ws : List Addr} (A : own_A Z h a ty n f) (K : Keep h h' ws) (q : a ∉ ws) : own_A Z h' a ty n f := by obtain ⟨c, A, r⟩ := A; exact ⟨c, ⟨K.2.1 a c A.1 q, A.2⟩, r⟩
theorem own_A.congr (A : own_A Z h a ty n f) (q : ∀ i, i < n → f i = f' i) : own_A Z h a ty n f' := by obtain ⟨c, A, r1, r2, r3⟩ := A; exact ⟨c, A, r1, r2, fun i hi => by rw [← q i hi]; exact r3 i hi⟩
theorem own_nat {j : Int32} {i : Nat} (hj : j.toInt = (i : Int)) : j.toNatClampNeg = i := by
  show j.toInt.toNat = i
  rw [hj]; rfl
theorem own_negn {z : Int32} {k : Nat} (h : z.toInt = (k : Int)) : ¬ z < (0 : Int32) := by rw [Int32.lt_iff_toInt_lt, h, show (0 : Int32).toInt = 0 from rfl]; omega
theorem own_capn {z : Int32} {k cap : Nat} (h : z.toInt = (k : Int)) (hk : k ≤ cap) : z.toNatClampNeg ≤ cap := by rw [own_nat h]; exact hk
theorem own_in {c : Cell} {j : Int32} {i : Nat} (S : c.slots.size = n) (hj : j.toInt = (i : Int)) (hi : i < n) : ¬ (j < 0 ∨ c.slots.size ≤ j.toNatClampNeg) := by
  rw [own_nat hj, S, Int32.lt_iff_toInt_lt, hj, show (0 : Int32).toInt = 0 from rfl]; omega
theorem own_A_new {cA : ClassId} {z : Int32} (A : Arr Z h a (newA cA ty z) ty) (hz : z.toInt = (n : Int)) : own_A Z h a ty n (fun _ => defaultValue ty) := by
  have hn : z.toNatClampNeg = n := own_nat hz
  have hl := z.toInt_lt
  refine ⟨_, A, by rw [sz_new]; exact hn, by omega, fun i hi => ?_⟩
  simp [newA, hn, hi]
theorem own_A_set {j : Int32} {i : Nat} {v : Value} (A : own_A Z h a ty n f) (W : Wr h h' a j.toNatClampNeg v) (hj : j.toInt = (i : Int)) (hi : i < n) : own_A Z h' a ty n (own_set f i v) := by
  obtain ⟨c, A, r1, r2, r3⟩ := A
  rw [own_nat hj] at W
  refine ⟨_, A.same W, by rw [sz_set]; exact r1, r2, fun k hk => ?_⟩
  show (c.slots.setIfInBounds i v)[k]? = some (if k = i then v else f k)
  by_cases q : k = i
  · subst q; rw [if_pos rfl]; simp [r1, hi]
  · rw [if_neg q, Array.getElem?_setIfInBounds_ne (Ne.symm q)]; exact r3 k hk
end OwnArr
section OwnArrSteps
variable {p : Program} {l : Launch} {e : Env} {R : Room} {s : State} {m : MethodId} {args : Array Value} {below : List Frame} {meth : Method} {c : Code} {T : State} {locs : List Loc} {cells slots : Nat} {Z : State} {a0 : Array Value} {h : Heap} {a : Addr} {n i : Nat} {j : Int32} {g : JFrame} {rest : List Value}
theorem own_laload (X : Stand p l e R s m args below meth c T locs cells slots) (hx : p.tables.exec = Jvm.exec) (hZ : Z.Warmed39 s.vm) (eT : T.heap = h) {f : Nat → Int64} (A : own_AJ Z h a n f) (hj : j.toInt = (i : Int)) (hi : i < n) (hg : g.method = m) (hs : g.stack = .int j :: .ref a :: rest) (hd : decode c.code g.pc = .ok (.laload, 1)) :
    ∀ target, Steps p.tables e below (T.setTop { g with pc := g.pc + 1, stack := .long (f i) :: rest }) target → Steps p.tables e below (T.setTop g) target := by
  obtain ⟨cl, A, r1, r2, r3⟩ := A
  exact X.laload hx (j := j) (v := .long (f i)) (by rw [eT]; exact A.1) (State.isArrayOf_alike hZ.alike A.2.1) A.2.2 (own_in r1 hj hi) (by rw [own_nat hj]; exact r3 i hi) hg hs hd
theorem own_iaload (X : Stand p l e R s m args below meth c T locs cells slots) (hx : p.tables.exec = Jvm.exec) (hZ : Z.Warmed39 s.vm) (eT : T.heap = h) {f : Nat → Int32} (A : own_AI Z h a n f) (hj : j.toInt = (i : Int)) (hi : i < n) (hg : g.method = m) (hs : g.stack = .int j :: .ref a :: rest) (hd : decode c.code g.pc = .ok (.iaload, 1)) :
    ∀ target, Steps p.tables e below (T.setTop { g with pc := g.pc + 1, stack := .int (f i) :: rest }) target → Steps p.tables e below (T.setTop g) target := by
  obtain ⟨cl, A, r1, r2, r3⟩ := A
  exact X.iaload hx (j := j) (v := .int (f i)) (by rw [eT]; exact A.1) (State.isArrayOf_alike hZ.alike A.2.1) A.2.2 (own_in r1 hj hi) (by rw [own_nat hj]; exact r3 i hi) hg hs hd
theorem own_baload (X : Stand p l e R s m args below meth c T locs cells slots) (hx : p.tables.exec = Jvm.exec) (hZ : Z.Warmed39 s.vm) (eT : T.heap = h) {f : Nat → Int32} (A : own_AB Z h a n f) (hj : j.toInt = (i : Int)) (hi : i < n) (hg : g.method = m) (hs : g.stack = .int j :: .ref a :: rest) (hd : decode c.code g.pc = .ok (.baload, 1)) :
    ∀ target, Steps p.tables e below (T.setTop { g with pc := g.pc + 1, stack := .int (f i) :: rest }) target → Steps p.tables e below (T.setTop g) target := by
  obtain ⟨cl, A, r1, r2, r3⟩ := A
  exact X.baloadBytes hx (j := j) (v := .int (f i)) (by rw [eT]; exact A.1) (State.isArrayOf_alike hZ.alike A.2.1) A.2.2 (own_in r1 hj hi) (by rw [own_nat hj]; exact r3 i hi) hg hs hd
theorem own_length (X : Stand p l e R s m args below meth c T locs cells slots) (hx : p.tables.exec = Jvm.exec) (hZ : Z.Warmed39 s.vm) (eT : T.heap = h) {ty : FieldType} {f : Nat → Value} (A : own_A Z h a ty n f) {z : Int32} (hz : z.toInt = (n : Int)) (hg : g.method = m) (hs : g.stack = .ref a :: rest) (hd : decode c.code g.pc = .ok (.arraylength, 1)) :
    ∀ target, Steps p.tables e below (T.setTop { g with pc := g.pc + 1, stack := .int z :: rest }) target → Steps p.tables e below (T.setTop g) target := by
  obtain ⟨cl, A, r1, r2, -⟩ := A
  intro target k
  refine X.arraylength hx (by rw [eT]; exact A.1) (State.isArrayOf_alike hZ.alike A.2.1) hg hs hd _ ?_
  have q : cl.slots.size.toInt32 = z := Int32.toInt_inj.mp (by rw [r1, hz]; exact Int32.toInt_ofNat_of_lt (by omega))
  rw [q]; exact k
theorem own_lastore (X : Stand p l e R s m args below meth c T locs cells slots) (hx : p.tables.exec = Jvm.exec) (hZ : Z.Warmed39 s.vm) (eT : T.heap = h) {f : Nat → Int64} {x : Int64} (A : own_AJ Z h a n f) (hj : j.toInt = (i : Int)) (hi : i < n) (hg : g.method = m) (hs : g.stack = .long x :: .int j :: .ref a :: rest) (hd : decode c.code g.pc = .ok (.lastore, 1)) :
    ∃ T' h', Stand p l e R s m args below meth c T' (locs ++ [⟨a, j.toNatClampNeg⟩]) cells slots ∧ T'.heap = h' ∧ Wr h h' a j.toNatClampNeg (.long x) ∧ own_AJ Z h' a n (own_set f i x) ∧ ∀ target, Steps p.tables e below (T'.setTop { g with pc := g.pc + 1, stack := rest }) target → Steps p.tables e below (T.setTop g) target := by
  obtain ⟨cl, B, r1, r2, r3⟩ := A
  obtain ⟨T', h', X', e', W, st⟩ := stJ X hx hZ eT B (own_in r1 hj hi) hg hs hd
  exact ⟨T', h', X', e', W, (own_A_set ⟨cl, B, r1, r2, r3⟩ W hj hi).congr fun k _ => by unfold own_set; split <;> rfl, st⟩
theorem own_iastore (X : Stand p l e R s m args below meth c T locs cells slots) (hx : p.tables.exec = Jvm.exec) (hZ : Z.Warmed39 s.vm) (eT : T.heap = h) {f : Nat → Int32} {x : Int32} (A : own_AI Z h a n f) (hj : j.toInt = (i : Int)) (hi : i < n) (hg : g.method = m) (hs : g.stack = .int x :: .int j :: .ref a :: rest) (hd : decode c.code g.pc = .ok (.iastore, 1)) :
    ∃ T' h', Stand p l e R s m args below meth c T' (locs ++ [⟨a, j.toNatClampNeg⟩]) cells slots ∧ T'.heap = h' ∧ Wr h h' a j.toNatClampNeg (.int x) ∧ own_AI Z h' a n (own_set f i x) ∧ ∀ target, Steps p.tables e below (T'.setTop { g with pc := g.pc + 1, stack := rest }) target → Steps p.tables e below (T.setTop g) target := by
  obtain ⟨cl, B, r1, r2, r3⟩ := A
  obtain ⟨T', h', X', e', W, st⟩ := stI X hx hZ eT B (own_in r1 hj hi) hg hs hd
  exact ⟨T', h', X', e', W, (own_A_set ⟨cl, B, r1, r2, r3⟩ W hj hi).congr fun k _ => by unfold own_set; split <;> rfl, st⟩
theorem own_bastore (X : Stand p l e R s m args below meth c T locs cells slots) (hx : p.tables.exec = Jvm.exec) (hZ : Z.Warmed39 s.vm) (eT : T.heap = h) {f : Nat → Int32} {x : Int32} (A : own_AB Z h a n f) (hj : j.toInt = (i : Int)) (hi : i < n) (hg : g.method = m) (hs : g.stack = .int x :: .int j :: .ref a :: rest) (hd : decode c.code g.pc = .ok (.bastore, 1)) :
    ∃ T' h', Stand p l e R s m args below meth c T' (locs ++ [⟨a, j.toNatClampNeg⟩]) cells slots ∧ T'.heap = h' ∧ Wr h h' a j.toNatClampNeg (.int (nar .byte x)) ∧ own_AB Z h' a n (own_set f i (x.toInt8.toInt32)) ∧ ∀ target, Steps p.tables e below (T'.setTop { g with pc := g.pc + 1, stack := rest }) target → Steps p.tables e below (T.setTop g) target := by
  obtain ⟨cl, B, r1, r2, r3⟩ := A
  obtain ⟨T', h', X', e', W, st⟩ := stB X hx hZ eT B (own_in r1 hj hi) hg hs hd
  exact ⟨T', h', X', e', W, (own_A_set ⟨cl, B, r1, r2, r3⟩ W hj hi).congr fun k _ => by unfold own_set; split <;> rfl, st⟩
end OwnArrSteps

def own_bit (x : Int64) (i : Nat) : Bool := x.toBitVec.getLsbD i
theorem own_sh {i : Int32} {k : Nat} (h : i.toInt = (k : Int)) (hk : k < 64) : (i &&& 0x3f).toInt64 = Int64.ofNat k := by
  have e : (i &&& 0x3f).toInt = i.toInt % 2 ^ 6 := Jvm.Kit.i32_mask i 0x3f (k := 6) (by decide) (by decide)
  apply Int64.toInt_inj.mp
  rw [Int32.toInt_toInt64, e, Int64.toInt_ofNat_of_lt (by omega)]; omega
theorem own_shu {i : Int32} {k : Nat} (h : i.toInt = (k : Int)) (hk : k < 64) (x : Int64) : ((x.toUInt64 >>> (i &&& 0x3f).toInt64.toUInt64).toInt64).toBitVec = x.toBitVec >>> k := by
  rw [own_sh h hk]
  show (x.toUInt64 >>> (Int64.ofNat k).toUInt64).toBitVec = _
  rw [UInt64.toBitVec_shiftRight]
  have e : ((Int64.ofNat k).toUInt64.toBitVec % 64) = BitVec.ofNat 64 k := by
    apply BitVec.eq_of_toNat_eq
    show ((Int64.ofNat k).toBitVec % 64).toNat = _
    rw [BitVec.toNat_umod]
    show (BitVec.ofNat 64 k).toNat % 64 = _
    rw [BitVec.toNat_ofNat, Nat.mod_eq_of_lt (by omega), Nat.mod_eq_of_lt (by omega)]
  rw [e]
  show x.toBitVec >>> (BitVec.ofNat 64 k) = _
  rw [BitVec.ushiftRight_eq', BitVec.toNat_ofNat, Nat.mod_eq_of_lt (by omega)]
theorem own_b0 {i : Int32} {k : Nat} (h : i.toInt = (k : Int)) (hk : k < 64) (x : Int64) : (((x.toUInt64 >>> (i &&& 0x3f).toInt64.toUInt64).toInt64) &&& (1 : Int64)) = (0 : Int64) ↔ own_bit x k = false := by
  rw [← Int64.toBitVec_inj, Int64.toBitVec_and, own_shu h hk]
  have e : x.toBitVec >>> k &&& (1 : Int64).toBitVec = BitVec.zeroExtend 64 (BitVec.ofBool (own_bit x k)) := by
    apply BitVec.eq_of_getLsbD_eq
    intro j hj
    rw [BitVec.getLsbD_and, BitVec.getLsbD_ushiftRight, show (1 : Int64).toBitVec = 1#64 from rfl, BitVec.getLsbD_one]
    by_cases q : j = 0
    · subst q; simp [own_bit]
    · simp [q]
  rw [e]
  cases own_bit x k <;> decide
theorem own_shl {i : Int32} {k : Nat} (h : i.toInt = (k : Int)) (hk : k < 64) : ((1 : Int64) <<< (i &&& 0x3f).toInt64).toBitVec = 1#64 <<< k := by
  rw [own_sh h hk, Int64.toBitVec_shiftLeft]
  have e : ((Int64.ofNat k).toBitVec.smod 64) = BitVec.ofNat 64 k := by
    have q : ∀ k, k < 64 → ((Int64.ofNat k).toBitVec.smod 64) = BitVec.ofNat 64 k := by decide +kernel
    exact q k hk
  rw [e, BitVec.shiftLeft_eq', BitVec.toNat_ofNat, Nat.mod_eq_of_lt (by omega)]; rfl
theorem own_bit_ext {x y : Int64} (h : ∀ i, i < 64 → own_bit x i = own_bit y i) : x = y := Int64.toBitVec_inj.mp (BitVec.eq_of_getLsbD_eq fun i hi => h i hi)
theorem own_bit_and (x y : Int64) (i : Nat) : own_bit (x &&& y) i = (own_bit x i && own_bit y i) := by unfold own_bit; rw [Int64.toBitVec_and, BitVec.getLsbD_and]
theorem own_bit_or (x y : Int64) (i : Nat) : own_bit (x ||| y) i = (own_bit x i || own_bit y i) := by unfold own_bit; rw [Int64.toBitVec_or, BitVec.getLsbD_or]
theorem own_bit_not (x : Int64) {i : Nat} (hi : i < 64) : own_bit (x ^^^ (-1 : Int64)) i = !(own_bit x i) := by
  unfold own_bit; rw [Int64.toBitVec_xor, BitVec.getLsbD_xor, show (-1 : Int64).toBitVec = BitVec.allOnes 64 from by decide, BitVec.getLsbD_allOnes]; simp [hi]
theorem own_bit_zero (i : Nat) : own_bit 0 i = false := by simp [own_bit]
theorem own_bit_m1 {i : Nat} (hi : i < 64) : own_bit (-1) i = true := by
  unfold own_bit; rw [show (-1 : Int64).toBitVec = BitVec.allOnes 64 from by decide, BitVec.getLsbD_allOnes]; simp [hi]
theorem own_shm {i : Int32} {k : Nat} (h : i.toInt % 64 = (k : Int)) : k < 64 ∧ (i &&& 0x3f).toInt64 = Int64.ofNat k := by
  have e : (i &&& 0x3f).toInt = i.toInt % 2 ^ 6 := Jvm.Kit.i32_mask i 0x3f (k := 6) (by decide) (by decide)
  refine ⟨by omega, ?_⟩
  apply Int64.toInt_inj.mp
  rw [Int32.toInt_toInt64, e, Int64.toInt_ofNat_of_lt (by omega)]; omega
theorem own_shlm {i : Int32} {k : Nat} (h : i.toInt % 64 = (k : Int)) (x : Int64) {b : Nat} (hb : b < 64) : own_bit (x <<< (i &&& 0x3f).toInt64) b = (decide (k ≤ b) && own_bit x (b - k)) := by
  obtain ⟨hk, e0⟩ := own_shm h
  unfold own_bit
  rw [e0, Int64.toBitVec_shiftLeft]
  have e : ((Int64.ofNat k).toBitVec.smod 64) = BitVec.ofNat 64 k := by
    have q : ∀ k, k < 64 → ((Int64.ofNat k).toBitVec.smod 64) = BitVec.ofNat 64 k := by decide +kernel
    exact q k hk
  rw [e, BitVec.shiftLeft_eq', BitVec.toNat_ofNat, Nat.mod_eq_of_lt (by omega), BitVec.getLsbD_shiftLeft]
  by_cases q : b < k
  · have : ¬ k ≤ b := by omega
    simp [q, this]
  · have : k ≤ b := by omega
    simp [q, this, hb]
theorem own_shum {i : Int32} {k : Nat} (h : i.toInt % 64 = (k : Int)) (x : Int64) (b : Nat) : own_bit ((x.toUInt64 >>> (i &&& 0x3f).toInt64.toUInt64).toInt64) b = own_bit x (k + b) := by
  obtain ⟨hk, e0⟩ := own_shm h
  have r : (Int32.ofNat k).toInt = (k : Int) := Int32.toInt_ofNat_of_lt (by omega)
  have s := own_shu r hk x
  rw [own_sh r hk] at s
  unfold own_bit
  rw [e0, s, BitVec.getLsbD_ushiftRight]
theorem own_b1 {i : Int32} {k : Nat} (h : i.toInt % 64 = (k : Int)) (x : Int64) : (x &&& ((1 : Int64) <<< (i &&& 0x3f).toInt64)) = (0 : Int64) ↔ own_bit x k = false := by
  obtain ⟨hk, -⟩ := own_shm h
  have one : ∀ j, own_bit 1 j = decide (j = 0) := fun j => by
    unfold own_bit; rw [show (1 : Int64).toBitVec = 1#64 from rfl, BitVec.getLsbD_one]; simp
  constructor
  · intro q
    have a := own_bit_and x ((1 : Int64) <<< (i &&& 0x3f).toInt64) k
    rw [q, own_bit_zero, own_shlm h _ hk, one] at a
    simp at a
    exact a
  · intro q
    apply own_bit_ext
    intro b hb
    rw [own_bit_and, own_shlm h _ hb, one, own_bit_zero]
    by_cases e : b = k
    · subst e; simp [q]
    · by_cases r : k ≤ b
      · have : ¬ (b - k = 0) := by omega
        simp [this]
      · simp [r]
theorem own_b2 {i : Int32} {k : Nat} (h : i.toInt % 64 = (k : Int)) (x : Int64) : (((x.toUInt64 >>> ((i &&& (63 : Int32)) &&& 0x3f).toInt64.toUInt64).toInt64) &&& (1 : Int64)) = (0 : Int64) ↔ own_bit x k = false := by
  have e : (i &&& (63 : Int32)).toInt = i.toInt % 2 ^ 6 := Jvm.Kit.i32_mask i 63 (k := 6) (by decide) (by decide)
  have hk : k < 64 := by omega
  exact own_b0 (i := i &&& (63 : Int32)) (k := k) (by omega) hk x
/-- words F to L, from bit a of F to bit b of L, hold the pattern's bits; all else is 0 -/
def own_lines (f : Nat → Int64) (F L a b : Nat) (pat : Int64) : Prop := ∀ w bt, bt < 64 → own_bit (f w) bt = (decide (F ≤ w ∧ w ≤ L ∧ (w = F → a ≤ bt) ∧ (w = L → bt ≤ b)) && own_bit pat bt)
def own_pt (f : Nat → Int64) (F k a : Nat) (pat : Int64) : Prop := ∀ w bt, bt < 64 → own_bit (f w) bt = (decide (F ≤ w ∧ w < k ∧ (w = F → a ≤ bt)) && own_bit pat bt)
theorem own_hi {to : Int32} {t : Nat} (ht : to.toInt = (t : Int)) (h1 : 1 ≤ t) {bt : Nat} (hb : bt < 64) : own_bit ((((-1 : Int64)).toUInt64 >>> ((-to) &&& 0x3f).toInt64.toUInt64).toInt64) bt = decide (bt ≤ (t - 1) % 64) := by
  have l := to.toInt_lt
  have e : (-to).toInt = -(t : Int) := by rw [Jvm.Kit.i32_neg (by omega), ht]
  obtain ⟨k, hk⟩ : ∃ k : Nat, (-to).toInt % 64 = (k : Int) := ⟨((-to).toInt % 64).toNat, by omega⟩
  rw [own_shum hk]
  by_cases q : k + bt < 64
  · rw [own_bit_m1 q]; simp; omega
  · have z : own_bit (-1) (k + bt) = false := by unfold own_bit; exact BitVec.getLsbD_of_ge _ _ (by omega)
    rw [z]; simp; omega
theorem own_lo {fr : Int32} {a : Nat} (ha : fr.toInt % 64 = (a : Int)) {bt : Nat} (hb : bt < 64) : own_bit ((-1 : Int64) <<< (fr &&& 0x3f).toInt64) bt = decide (a ≤ bt) := by
  rw [own_shlm ha _ hb]
  by_cases q : a ≤ bt
  · rw [own_bit_m1 (by omega)]; simp
  · simp [q]
theorem own_one {f : Nat → Int64} (h0 : f = fun _ => (0 : Int64)) {F a t : Nat} {fr to : Int32} {pat m : Int64} (ha : fr.toInt % 64 = (a : Int)) (ht : to.toInt = (t : Int)) (h1 : 1 ≤ t) (hm : m = ((pat &&& ((-1 : Int64) <<< (fr &&& 0x3f).toInt64)) &&& ((((-1 : Int64)).toUInt64 >>> ((-to) &&& 0x3f).toInt64.toUInt64).toInt64))) :
    own_lines (own_set f F (f F ||| m)) F F a ((t - 1) % 64) pat := fun w bt hb => by
  subst h0
  by_cases q : w = F
  · subst q
    rw [own_set_eq rfl, own_bit_or, own_bit_zero, hm, own_bit_and, own_bit_and, own_lo ha hb, own_hi ht h1 hb]
    cases own_bit pat bt <;> simp
  · rw [own_set_ne q, own_bit_zero]
    have : ¬ (F ≤ w ∧ w ≤ F) := by omega
    simp; omega
theorem own_fst {f : Nat → Int64} (h0 : f = fun _ => (0 : Int64)) {F a : Nat} {fr : Int32} {pat m : Int64} (ha : fr.toInt % 64 = (a : Int)) (hm : m = (pat &&& ((-1 : Int64) <<< (fr &&& 0x3f).toInt64))) : own_pt (own_set f F (f F ||| m)) F (F + 1) a pat := fun w bt hb => by
  subst h0
  by_cases q : w = F
  · subst q
    rw [own_set_eq rfl, own_bit_or, own_bit_zero, hm, own_bit_and, own_lo ha hb]
    cases own_bit pat bt <;> simp
  · rw [own_set_ne q, own_bit_zero]
    simp; omega
theorem own_mid {f : Nat → Int64} {F k a : Nat} {pat : Int64} (h : own_pt f F k a pat) (hk : F < k) : own_pt (own_set f k (f k ||| pat)) F (k + 1) a pat := fun w bt hb => by
  by_cases q : w = k
  · subst q
    rw [own_set_eq rfl, own_bit_or, h w bt hb]
    have e1 : ¬ w < w := Nat.lt_irrefl _
    have e2 : ¬ w = F := by omega
    have e3 : F ≤ w := by omega
    simp [e2, e3]
  · rw [own_set_ne q, h w bt hb]
    have : w < k + 1 ↔ w < k := by omega
    simp only [this]
theorem own_lst {f : Nat → Int64} {F L a t : Nat} {to : Int32} {pat m : Int64} (h : own_pt f F L a pat) (hL : F < L) (ht : to.toInt = (t : Int)) (h1 : 1 ≤ t) (hm : m = (pat &&& ((((-1 : Int64)).toUInt64 >>> ((-to) &&& 0x3f).toInt64.toUInt64).toInt64))) : own_lines (own_set f L (f L ||| m)) F L a ((t - 1) % 64) pat := fun w bt hb => by
  by_cases q : w = L
  · subst q
    rw [own_set_eq rfl, own_bit_or, h w bt hb, hm, own_bit_and, own_hi ht h1 hb]
    have e2 : ¬ w = F := by omega
    have e3 : F ≤ w := by omega
    cases own_bit pat bt <;> simp [e2, e3]
  · rw [own_set_ne q, h w bt hb]
    have : w < L ↔ w ≤ L := by omega
    simp [this, q]
/-- lines of W words each: word and bit tell line and place -/
theorem own_place {W l q F L a b x y : Nat} {fr t : Nat} (hW : W = 1 ∨ W = 2 ∨ W = 3 ∨ W = 4) (hF : F = l * W + fr / 64) (hL : L = l * W + (t - 1) / 64) (ha : a = fr % 64) (hb : b = (t - 1) % 64) (hft : fr < t) (hfr : fr / 64 < W) (ht : (t - 1) / 64 < W) (hx : x / 64 < W) (hy : y = q * W + x / 64) :
    (F ≤ y ∧ y ≤ L ∧ (y = F → a ≤ x % 64) ∧ (y = L → x % 64 ≤ b)) ↔ (q = l ∧ fr ≤ x ∧ x < t) := by
  rcases hW with rfl | rfl | rfl | rfl <;> omega
def own_wpl (p : Int32) : Int32 := ((((p + (64 : Int32)) - (1 : Int32)).toUInt32 >>> ((6 : Int32) &&& 31).toUInt32).toInt32)
theorem own_div {p : Int32} {x : Nat} (h : p.toInt = (x : Int)) (hx : x < 2147483648) : ((p.toUInt32 >>> ((6 : Int32) &&& 31).toUInt32).toInt32).toInt = ((x / 64 : Nat) : Int) := by
  rw [Jvm.Kit.i32_iushr (k := 6) (by rw [Int32.le_iff_toInt_le, h, show (0 : Int32).toInt = 0 from rfl]; omega) (by decide) (by decide), h]; omega
theorem own_wplv {p : Int32} {n : Nat} (h : p.toInt = (n : Int)) (hn : n ≤ 256) : (own_wpl p).toInt = (((n + 63) / 64 : Nat) : Int) := by
  unfold own_wpl
  have o : (64 : Int32).toInt = 64 := rfl
  have o1 : (1 : Int32).toInt = 1 := rfl
  have e1 : (p + 64).toInt = p.toInt + 64 := by rw [Jvm.Kit.i32_add] <;> rw [o] <;> omega
  have e2 : (p + 64 - 1).toInt = ((n + 63 : Nat) : Int) := by rw [Jvm.Kit.i32_sub (by omega) (by omega), e1, o1, h]; omega
  exact own_div e2 (by omega)
theorem own_mul {p q : Int32} {x y : Nat} (hp : p.toInt = (x : Int)) (hq : q.toInt = (y : Int)) (hx : x ≤ 4) (hy : y ≤ 4) : (p * q).toInt = ((x * y : Nat) : Int) ∧ x * y ≤ 16 := by
  have b : x * y ≤ 4 * 4 := Nat.mul_le_mul hx hy
  have e : p.toInt * q.toInt = ((x * y : Nat) : Int) := by rw [hp, hq]; exact (Int.natCast_mul _ _).symm
  exact ⟨by rw [Jvm.Kit.i32_mul (by omega) (by omega), e], b⟩
theorem own_mulL {p q : Int32} {x y : Nat} (hp : p.toInt = (x : Int)) (hq : q.toInt = (y : Int)) (hx : x ≤ 4) (hy : y ≤ 4) : (p.toInt64 * q.toInt64).toInt = ((x * y : Nat) : Int) ∧ x * y ≤ 16 := by
  have b : x * y ≤ 4 * 4 := Nat.mul_le_mul hx hy
  have e1 := Jvm.Kit.i64_of_i32 p
  have e2 := Jvm.Kit.i64_of_i32 q
  have e : p.toInt64.toInt * q.toInt64.toInt = ((x * y : Nat) : Int) := by rw [e1, e2, hp, hq]; exact (Int.natCast_mul _ _).symm
  exact ⟨by rw [Jvm.Kit.i64_mul (by omega) (by omega), e], b⟩
theorem own_mx {p q : Int32} {x y : Nat} (hp : p.toInt = (x : Int)) (hq : q.toInt = (y : Int)) (hx : x ≤ 4) (hy : y ≤ 4) : (((p.toInt64 * q.toInt64).toInt32).toInt64) = (p.toInt64 * q.toInt64) ∧ ((p.toInt64 * q.toInt64).toInt32).toInt = ((x * y : Nat) : Int) := by
  obtain ⟨e, b⟩ := own_mulL hp hq hx hy
  have e2 : ((p.toInt64 * q.toInt64).toInt32).toInt = ((x * y : Nat) : Int) := by rw [Jvm.Kit.i32_of_i64 (by omega) (by omega), e]
  exact ⟨Int64.toInt_inj.mp (by rw [Jvm.Kit.i64_of_i32, e2, e]), e2⟩
theorem own_idx {p q b : Int32} {l W x : Nat} (hp : p.toInt = (l : Int)) (hq : q.toInt = (W : Int)) (hb : b.toInt = (x : Int)) (hl : l ≤ 4) (hW : W ≤ 4) (hx : x ≤ 256) : ((p * q) + ((b.toUInt32 >>> ((6 : Int32) &&& 31).toUInt32).toInt32)).toInt = ((l * W + x / 64 : Nat) : Int) := by
  obtain ⟨e, c⟩ := own_mul hp hq hl hW
  have d := own_div hb (by omega)
  rw [Jvm.Kit.i32_add (by omega) (by omega), e, d]; omega
theorem own_neg {z : Int32} (h : 0 ≤ z.toInt) : ¬ z < (0 : Int32) := by rw [Int32.lt_iff_toInt_lt, show (0 : Int32).toInt = 0 from rfl]; omega
theorem own_ltn {i z : Int32} {k n : Nat} (h : i.toInt = (k : Int)) (hz : z.toInt = (n : Int)) : i < z ↔ k < n := by rw [Int32.lt_iff_toInt_lt]; omega
theorem own_inc {x : Int32} {k : Nat} (h : x.toInt = (k : Int)) (hk : k ≤ 64) : (x + (1 : Int32)).toInt = ((k + 1 : Nat) : Int) := by
  have o : (1 : Int32).toInt = 1 := rfl
  rw [Jvm.Kit.i32_add] <;> rw [o] <;> omega
theorem own_dec {x : Int32} {k : Nat} (h : x.toInt = (k : Int)) (hk : 1 ≤ k) : (x - (1 : Int32)).toInt = ((k - 1 : Nat) : Int) := by
  have o : (1 : Int32).toInt = 1 := rfl
  have l := x.toInt_lt
  rw [Jvm.Kit.i32_sub] <;> rw [o] <;> omega
theorem own_lt {l L W x : Nat} (h : l < L) (hx : x < W) : l * W + x < L * W := by
  have : (l + 1) * W ≤ L * W := Nat.mul_le_mul_right _ h
  rw [Nat.add_mul] at this; omega
theorem own_b1t {i : Int32} {k : Nat} (h : i.toInt % 64 = (k : Int)) {x : Int64} (q : ¬ (x &&& ((1 : Int64) <<< (i &&& 0x3f).toInt64)) = (0 : Int64)) : own_bit x k = true := by
  have r := mt (own_b1 h x).mpr q
  cases e : own_bit x k
  · exact absurd e r
  · rfl
theorem own_b1f {i : Int32} {k : Nat} (h : i.toInt % 64 = (k : Int)) {x : Int64} (q : (x &&& ((1 : Int64) <<< (i &&& 0x3f).toInt64)) = (0 : Int64)) : ¬ own_bit x k = true := by
  rw [(own_b1 h x).mp q]; decide
theorem own_m64 {i : Int32} {x : Nat} (h : i.toInt = (x : Int)) : i.toInt % 64 = ((x % 64 : Nat) : Int) := by omega
theorem own_one3 {y lc : Int32} (h : lc = ((1 : Int32) + (y &&& (3 : Int32)))) : 1 ≤ lc.toInt ∧ lc.toInt ≤ 4 := by
  have e := Jvm.Kit.i32_mask y 3 (k := 2) (by decide) (by decide)
  have o : (1 : Int32).toInt = 1 := rfl
  have e2 : (1 + (y &&& 3)).toInt = 1 + (y &&& 3).toInt := by rw [Jvm.Kit.i32_add] <;> rw [o] <;> omega
  rw [← h] at e2; omega
theorem own_one255 {y le : Int32} (h : le = ((1 : Int32) + (y &&& (255 : Int32)))) : 1 ≤ le.toInt ∧ le.toInt ≤ 256 := by
  have e := Jvm.Kit.i32_mask y 255 (k := 8) (by decide) (by decide)
  have o : (1 : Int32).toInt = 1 := rfl
  have e2 : (1 + (y &&& 255)).toInt = 1 + (y &&& 255).toInt := by rw [Jvm.Kit.i32_add] <;> rw [o] <;> omega
  rw [← h] at e2; omega
theorem own_rem {u z v : Int32} (h : v = (u % z)) (hu : 0 ≤ u.toInt) (hz : 1 ≤ z.toInt) : 0 ≤ v.toInt ∧ v.toInt < z.toInt := by
  have e2 : (u % z).toInt = u.toInt % z.toInt := Jvm.Kit.i32_rem_nonneg hu
  rw [← h] at e2
  rw [e2]
  exact ⟨Int.emod_nonneg _ (by omega), Int.emod_lt_of_pos _ (by omega)⟩
theorem own_msk31 (y : Int32) : 0 ≤ (y &&& (2147483647 : Int32)).toInt := by
  have e := Jvm.Kit.i32_mask y 2147483647 (k := 31) (by decide) (by decide)
  omega
theorem own_msk16 (y : Int32) : 0 ≤ (y &&& (65535 : Int32)).toInt := by
  have e := Jvm.Kit.i32_mask y 65535 (k := 16) (by decide) (by decide)
  omega
theorem own_msk8 (y : Int32) : 0 ≤ (y &&& (255 : Int32)).toInt := by
  have e := Jvm.Kit.i32_mask y 255 (k := 8) (by decide) (by decide)
  omega
theorem own_nz {z : Int32} (h : 1 ≤ z.toInt) : ¬ z = (0 : Int32) := fun q => by rw [q, show (0 : Int32).toInt = 0 from rfl] at h; omega
theorem own_sub {le fv : Int32} (h : 1 ≤ le.toInt ∧ le.toInt ≤ 256) (hf : 0 ≤ fv.toInt ∧ fv.toInt < le.toInt) : (le - fv).toInt = le.toInt - fv.toInt := Jvm.Kit.i32_sub (by omega) (by omega)
theorem own_to {u le fv tv : Int32} (h : 1 ≤ le.toInt ∧ le.toInt ≤ 256) (hf : 0 ≤ fv.toInt ∧ fv.toInt < le.toInt) (hu : 0 ≤ u.toInt) (ht : tv = ((fv + (1 : Int32)) + (u % (le - fv)))) : fv.toInt < tv.toInt ∧ tv.toInt ≤ le.toInt := by
  have s := own_sub h hf
  have r := own_rem (v := u % (le - fv)) rfl hu (by omega)
  have o : (1 : Int32).toInt = 1 := rfl
  have e1 : (fv + 1).toInt = fv.toInt + 1 := by rw [Jvm.Kit.i32_add] <;> rw [o] <;> omega
  have e2 : ((fv + 1) + (u % (le - fv))).toInt = fv.toInt + 1 + (u % (le - fv)).toInt := by rw [Jvm.Kit.i32_add] <;> rw [e1] <;> omega
  rw [← ht] at e2; omega
theorem own_natof {v : Int32} (h : 0 ≤ v.toInt) : ∃ k : Nat, v.toInt = (k : Int) := ⟨v.toInt.toNat, by omega⟩
theorem own_eqF {p wv p2 p3 fi la : Int32} {l W fr t : Nat} (hl : p.toInt = (l : Int)) (hlb : l ≤ 4) (hW : wv.toInt = (W : Int)) (hWb : W ≤ 4) (hf : p2.toInt = (fr : Int)) (ht : p3.toInt = (t : Int)) (hft : fr < t) (h256 : t ≤ 256) (hfi : fi = ((p * wv) + ((p2.toUInt32 >>> ((6 : Int32) &&& 31).toUInt32).toInt32))) (hla : la = ((p * wv) + (((p3 - (1 : Int32)).toUInt32 >>> ((6 : Int32) &&& 31).toUInt32).toInt32))) :
    fi.toInt = ((l * W + fr / 64 : Nat) : Int) ∧ la.toInt = ((l * W + (t - 1) / 64 : Nat) : Int) := by
  subst hfi hla
  exact ⟨own_idx hl hW hf hlb hWb (by omega), own_idx hl hW (own_dec ht (by omega)) hlb hWb (by omega)⟩
theorem own_fin {fl : Nat → Int64} {pat : Int64} {l n fr t q x W : Nat} {ln qv fv tv xv : Int32} (hfl : own_lines fl (l * W + fr / 64) (l * W + (t - 1) / 64) (fr % 64) ((t - 1) % 64) pat) (hW : W = (n + 63) / 64) (hn : 1 ≤ n) (hn2 : n ≤ 256) (hfr : fr < t) (htn : t ≤ n) (hx : x < n)
    (eln : ln.toInt = (l : Int)) (eqv : qv.toInt = (q : Int)) (efv : fv.toInt = (fr : Int)) (etv : tv.toInt = (t : Int)) (exv : xv.toInt = (x : Int)) :
    own_bit (fl (q * W + x / 64)) (x % 64) = true ↔ (qv = ln ∧ ¬ xv < fv ∧ xv < tv ∧ ¬ (((pat.toUInt64 >>> ((xv &&& (63 : Int32)) &&& 0x3f).toInt64.toUInt64).toInt64) &&& (1 : Int64)) = (0 : Int64)) := by
  rw [hfl _ _ (Nat.mod_lt _ (by decide)), own_b2 (own_m64 exv)]
  have pl := own_place (W := W) (l := l) (q := q) (x := x) (fr := fr) (t := t) (by omega) rfl rfl rfl rfl hfr (by omega) (by omega) (by omega) (y := q * W + x / 64) rfl
  have e1 : qv = ln ↔ q = l := by rw [← Int32.toInt_inj]; omega
  have e2 : ¬ xv < fv ↔ fr ≤ x := by rw [Int32.lt_iff_toInt_lt]; omega
  have e3 : xv < tv ↔ x < t := by rw [Int32.lt_iff_toInt_lt]; omega
  rw [Bool.and_eq_true, decide_eq_true_eq, pl, e1, e2, e3]
  cases own_bit pat (x % 64) <;> simp [and_assoc]

theorem d3_0 : decode jdk_29_method_28_code 0 = .ok (.iload_n 0, 1) := by decide +kernel
theorem d3_1 : decode jdk_29_method_28_code 1 = .ok (.i2l, 1) := by decide +kernel
theorem d3_2 : decode jdk_29_method_28_code 2 = .ok (.iload_n 1, 1) := by decide +kernel
theorem d3_3 : decode jdk_29_method_28_code 3 = .ok (.i2l, 1) := by decide +kernel
theorem d3_4 : decode jdk_29_method_28_code 4 = .ok (.lmul, 1) := by decide +kernel
theorem d3_5 : decode jdk_29_method_28_code 5 = .ok (.lstore_n 2, 1) := by decide +kernel
theorem d3_6 : decode jdk_29_method_28_code 6 = .ok (.lload_n 2, 1) := by decide +kernel
theorem d3_7 : decode jdk_29_method_28_code 7 = .ok (.l2i, 1) := by decide +kernel
theorem d3_8 : decode jdk_29_method_28_code 8 = .ok (.i2l, 1) := by decide +kernel
theorem d3_9 : decode jdk_29_method_28_code 9 = .ok (.lload_n 2, 1) := by decide +kernel
theorem d3_10 : decode jdk_29_method_28_code 10 = .ok (.lcmp, 1) := by decide +kernel
theorem d3_11 : decode jdk_29_method_28_code 11 = .ok (.ifCond .eq 13, 3) := by decide +kernel
theorem d3_24 : decode jdk_29_method_28_code 24 = .ok (.lload_n 2, 1) := by decide +kernel
theorem d3_25 : decode jdk_29_method_28_code 25 = .ok (.l2i, 1) := by decide +kernel
theorem d3_26 : decode jdk_29_method_28_code 26 = .ok (.ireturn, 1) := by decide +kernel
set_option maxRecDepth 65536 in
set_option maxHeartbeats 4000000 in
theorem ef_3 (m : MethodId) (p0 : Int32) (p1 : Int32) : entryFrame m #[(.int p0), (.int p1)] 4 = mkF m 0 #[.val (.int p0), .val (.int p1), .unset, .unset] [] := by first | (simp [entryFrame, mkF, argsToLocals, Value.category]; done) | rfl
set_option maxRecDepth 65536 in
set_option maxHeartbeats 40000000 in
theorem rm3 (l : Launch) (Z : State) (aw : Array Value) (hw : ∀ d ∈ tables_1, d.before aw Z = true) {ws : List Jvm.Cond} (p0 : Int32) (p1 : Int32)  (h0 : Heap) (n0 : Nat) (Z0 : n0 ≤ h0.size) (hh : (((p0.toInt64 * p1.toInt64).toInt32).toInt64) = (p0.toInt64 * p1.toInt64)) :
    own_Met l Z (⟨"java/lang/Math", "multiplyExact", "(II)I"⟩ : MethodName) jdk_29_method_28_code 4 (some .int) ws ({ frames := 0, cells := 0, slots := 0, locals := 0 } : Room) #[(.int p0), (.int p1)] h0 (own_Pq (some (.int ((p0.toInt64 * p1.toInt64).toInt32))) h0) := by
  refine own_body (Jvm.Free.JP.mathPlain rfl (by decide +kernel)) ?_
  intro p e s m below meth c s₁ hx hZ hby hml hown hnm hret hlk X0 e0
  replace hown : s.vm.findClass "java/lang/Math" = some m.cls := hown
  replace hml : c.maxLocals = 4 := hml
  obtain ⟨P, hP⟩ : ∃ P, P = own_P below s (own_Pq (some (.int ((p0.toInt64 * p1.toInt64).toInt32))) h0) ({ frames := 0, cells := 0, slots := 0, locals := 0 } : Room).cells ({ frames := 0, cells := 0, slots := 0, locals := 0 } : Room).slots := ⟨_, rfl⟩
  rw [← hP]
  refine own_cast (ef_3 m p0 p1) ?_
  refine own_go (T' := s₁) (f' := (mkF m 26 #[.val (.int p0), .val (.int p1), .val (.long ((p0.toInt64) * (p1.toInt64))), .second] [(.int (((p0.toInt64) * (p1.toInt64)).toInt32))])) (fun t kt => ?_) ?_
  · show Steps p.tables e below (s₁.setTop (mkF m 0 #[.val (.int p0), .val (.int p1), .unset, .unset] [])) t
    refine XS.iloadN X0.here hx rfl (hb hby d3_0) rfl ?_
    show Steps p.tables e below (s₁.setTop (mkF m 1 #[.val (.int p0), .val (.int p1), .unset, .unset] [(.int p0)])) t
    refine XS.i2l X0.here hx rfl (hb hby d3_1) rfl ?_
    show Steps p.tables e below (s₁.setTop (mkF m 2 #[.val (.int p0), .val (.int p1), .unset, .unset] [(.long (p0.toInt64))])) t
    refine XS.iloadN X0.here hx rfl (hb hby d3_2) rfl ?_
    show Steps p.tables e below (s₁.setTop (mkF m 3 #[.val (.int p0), .val (.int p1), .unset, .unset] [(.int p1), (.long (p0.toInt64))])) t
    refine XS.i2l X0.here hx rfl (hb hby d3_3) rfl ?_
    show Steps p.tables e below (s₁.setTop (mkF m 4 #[.val (.int p0), .val (.int p1), .unset, .unset] [(.long (p1.toInt64)), (.long (p0.toInt64))])) t
    refine XS.lmul X0.here hx rfl (hb hby d3_4) rfl ?_
    show Steps p.tables e below (s₁.setTop (mkF m 5 #[.val (.int p0), .val (.int p1), .unset, .unset] [(.long ((p0.toInt64) * (p1.toInt64)))])) t
    refine XS.lstoreN X0.here hx rfl (hb hby d3_5) rfl (l' := #[.val (.int p0), .val (.int p1), .val (.long ((p0.toInt64) * (p1.toInt64))), .second]) rfl ?_
    show Steps p.tables e below (s₁.setTop (mkF m 6 #[.val (.int p0), .val (.int p1), .val (.long ((p0.toInt64) * (p1.toInt64))), .second] [])) t
    refine XS.lloadN X0.here hx rfl (hb hby d3_6) rfl ?_
    show Steps p.tables e below (s₁.setTop (mkF m 7 #[.val (.int p0), .val (.int p1), .val (.long ((p0.toInt64) * (p1.toInt64))), .second] [(.long ((p0.toInt64) * (p1.toInt64)))])) t
    refine XS.l2i X0.here hx rfl (hb hby d3_7) rfl ?_
    show Steps p.tables e below (s₁.setTop (mkF m 8 #[.val (.int p0), .val (.int p1), .val (.long ((p0.toInt64) * (p1.toInt64))), .second] [(.int (((p0.toInt64) * (p1.toInt64)).toInt32))])) t
    refine XS.i2l X0.here hx rfl (hb hby d3_8) rfl ?_
    show Steps p.tables e below (s₁.setTop (mkF m 9 #[.val (.int p0), .val (.int p1), .val (.long ((p0.toInt64) * (p1.toInt64))), .second] [(.long ((((p0.toInt64) * (p1.toInt64)).toInt32).toInt64))])) t
    refine XS.lloadN X0.here hx rfl (hb hby d3_9) rfl ?_
    show Steps p.tables e below (s₁.setTop (mkF m 10 #[.val (.int p0), .val (.int p1), .val (.long ((p0.toInt64) * (p1.toInt64))), .second] [(.long ((p0.toInt64) * (p1.toInt64))), (.long ((((p0.toInt64) * (p1.toInt64)).toInt32).toInt64))])) t
    refine XS.lcmp X0.here hx rfl (hb hby d3_10) rfl ?_
    show Steps p.tables e below (s₁.setTop (mkF m 11 #[.val (.int p0), .val (.int p1), .val (.long ((p0.toInt64) * (p1.toInt64))), .second] [(.int (lcmpW ((((p0.toInt64) * (p1.toInt64)).toInt32).toInt64) ((p0.toInt64) * (p1.toInt64))))])) t
    refine XS.ifYes X0.here hx rfl (pc0 := 11) (pc' := 24) rfl (hb hby d3_11) rfl (own_lY_eq (show ((((p0.toInt64) * (p1.toInt64)).toInt32).toInt64) = ((p0.toInt64) * (p1.toInt64)) from hh)) (by decide) (by decide) ?_
    show Steps p.tables e below (s₁.setTop (mkF m 24 #[.val (.int p0), .val (.int p1), .val (.long ((p0.toInt64) * (p1.toInt64))), .second] [])) t
    refine XS.lloadN X0.here hx rfl (hb hby d3_24) rfl ?_
    show Steps p.tables e below (s₁.setTop (mkF m 25 #[.val (.int p0), .val (.int p1), .val (.long ((p0.toInt64) * (p1.toInt64))), .second] [(.long ((p0.toInt64) * (p1.toInt64)))])) t
    refine XS.l2i X0.here hx rfl (hb hby d3_25) rfl ?_
    show Steps p.tables e below (s₁.setTop (mkF m 26 #[.val (.int p0), .val (.int p1), .val (.long ((p0.toInt64) * (p1.toInt64))), .second] [(.int (((p0.toInt64) * (p1.toInt64)).toInt32))])) t
    exact kt
  exact own_retI X0 hP hx hlk e0 hret (hb hby d3_26) (by decide) (by decide) ⟨rfl, rfl, rfl⟩
theorem pd_0 : parseMethodDescriptor "(II)I" = some ⟨[.int, .int], some .int⟩ := by decide +kernel
theorem pn_0 : plainName "com/example/humble_grid/humblegrid/BitLines" = true := by first | (simp [plainName, overriddenIn]; done) | decide +kernel
theorem d1_0 : decode prog_3_method_1_code 0 = .ok (.aload_n 0, 1) := by decide +kernel
theorem d1_1 : decode prog_3_method_1_code 1 = .ok (.invokespecial 1, 3) := by decide +kernel
theorem d1_4 : decode prog_3_method_1_code 4 = .ok (.aload_n 0, 1) := by decide +kernel
theorem d1_5 : decode prog_3_method_1_code 5 = .ok (.iload_n 2, 1) := by decide +kernel
theorem d1_6 : decode prog_3_method_1_code 6 = .ok (.bipush 64, 2) := by decide +kernel
theorem d1_8 : decode prog_3_method_1_code 8 = .ok (.iadd, 1) := by decide +kernel
theorem d1_9 : decode prog_3_method_1_code 9 = .ok (.iconst 1, 1) := by decide +kernel
theorem d1_10 : decode prog_3_method_1_code 10 = .ok (.isub, 1) := by decide +kernel
theorem d1_11 : decode prog_3_method_1_code 11 = .ok (.bipush 6, 2) := by decide +kernel
theorem d1_13 : decode prog_3_method_1_code 13 = .ok (.iushr, 1) := by decide +kernel
theorem d1_14 : decode prog_3_method_1_code 14 = .ok (.putfield 11, 3) := by decide +kernel
theorem d1_17 : decode prog_3_method_1_code 17 = .ok (.aload_n 0, 1) := by decide +kernel
theorem d1_18 : decode prog_3_method_1_code 18 = .ok (.iload_n 1, 1) := by decide +kernel
theorem d1_19 : decode prog_3_method_1_code 19 = .ok (.aload_n 0, 1) := by decide +kernel
theorem d1_20 : decode prog_3_method_1_code 20 = .ok (.getfield 11, 3) := by decide +kernel
theorem d1_23 : decode prog_3_method_1_code 23 = .ok (.invokestatic 15, 3) := by decide +kernel
theorem d1_26 : decode prog_3_method_1_code 26 = .ok (.newarray .long, 2) := by decide +kernel
theorem d1_28 : decode prog_3_method_1_code 28 = .ok (.putfield 21, 3) := by decide +kernel
theorem d1_31 : decode prog_3_method_1_code 31 = .ok (.return_, 1) := by decide +kernel
set_option maxRecDepth 65536 in
set_option maxHeartbeats 4000000 in
theorem ef_1 (m : MethodId) (a0 : Addr) (p1 : Int32) (p2 : Int32) : entryFrame m #[(.ref a0), (.int p1), (.int p2)] 3 = mkF m 0 #[.val (.ref a0), .val (.int p1), .val (.int p2)] [] := by first | (simp [entryFrame, mkF, argsToLocals, Value.category]; done) | rfl
set_option maxRecDepth 65536 in
set_option maxHeartbeats 40000000 in
theorem rm1 (l : Launch) (Z : State) (aw : Array Value) (hw : ∀ d ∈ tables_1, d.before aw Z = true) {ws : List Jvm.Cond} (a0 : Addr) (p1 : Int32) (p2 : Int32) (LC : Nat) (n : Nat) (h0 : Heap) (n0 : Nat) (Z0 : n0 ≤ h0.size) (E_a0 : Exa Z h0 a0 "com/example/humble_grid/humblegrid/BitLines") (K_a0 : own_K h0 a0) (g_a0 : n0 ≤ a0) (hL : p1.toInt = (LC : Int)) (hLb : LC ≤ 4) (hn : p2.toInt = (n : Int)) (hnb : n ≤ 256) :
    own_Met l Z (⟨"com/example/humble_grid/humblegrid/BitLines", "<init>", "(II)V"⟩ : MethodName) prog_3_method_1_code 3 none ws ({ frames := 1, cells := 1, slots := 16, locals := 16 } : Room) #[(.ref a0), (.int p1), (.int p2)] h0 (fun v h L => v = none ∧ Fr n0 L ∧ Keep h0 h [a0] ∧ Exa Z h a0 "com/example/humble_grid/humblegrid/BitLines" ∧ Fld Z h a0 "com/example/humble_grid/humblegrid/BitLines" "wordsPerLine" "I" (.int (own_wpl p2)) ∧ ∃ r, n0 ≤ r ∧ h0.size ≤ r ∧ Fld Z h a0 "com/example/humble_grid/humblegrid/BitLines" "words" "[J" (.ref r) ∧ own_AJ Z h r (LC * ((n + 63) / 64)) (fun _ => (0 : Int64))) := by
  refine own_body (plainFor_of_name pn_0) ?_
  intro p e s m below meth c s₁ hx hZ hby hml hown hnm hret hlk X0 e0
  replace hown : s.vm.findClass "com/example/humble_grid/humblegrid/BitLines" = some m.cls := hown
  replace hml : c.maxLocals = 3 := hml
  have N0 := Fr.nil n0
  have K0 := Keep.refl h0 [a0]
  obtain ⟨P, hP⟩ : ∃ P, P = own_P below s (fun v h L => v = none ∧ Fr n0 L ∧ Keep h0 h [a0] ∧ Exa Z h a0 "com/example/humble_grid/humblegrid/BitLines" ∧ Fld Z h a0 "com/example/humble_grid/humblegrid/BitLines" "wordsPerLine" "I" (.int (own_wpl p2)) ∧ ∃ r, n0 ≤ r ∧ h0.size ≤ r ∧ Fld Z h a0 "com/example/humble_grid/humblegrid/BitLines" "words" "[J" (.ref r) ∧ own_AJ Z h r (LC * ((n + 63) / 64)) (fun _ => (0 : Int64))) ({ frames := 1, cells := 1, slots := 16, locals := 16 } : Room).cells ({ frames := 1, cells := 1, slots := 16, locals := 16 } : Room).slots := ⟨_, rfl⟩
  rw [← hP]
  refine own_cast (ef_1 m a0 p1 p2) ?_
  refine own_go (T' := s₁) (f' := (mkF m 1 #[.val (.ref a0), .val (.int p1), .val (.int p2)] [(.ref a0)])) (fun t kt => ?_) ?_
  · show Steps p.tables e below (s₁.setTop (mkF m 0 #[.val (.ref a0), .val (.int p1), .val (.int p2)] [])) t
    refine XS.aloadN X0.here hx rfl (hb hby d1_0) rfl rfl ?_
    show Steps p.tables e below (s₁.setTop (mkF m 1 #[.val (.ref a0), .val (.int p1), .val (.int p2)] [(.ref a0)])) t
    exact kt
  obtain ⟨T1, X1, e1, st1⟩ := initO X0 hx hZ hown (hw _ (List.mem_of_getElem? (i := 8) rfl)) (hw _ (List.mem_of_getElem? (i := 9) rfl)) (hw _ (List.mem_of_getElem? (i := 10) rfl)) e0 (g := (mkF m 1 #[.val (.ref a0), .val (.int p1), .val (.int p2)] [(.ref a0)])) rfl (by rw [hml]; rfl) rfl (hb hby d1_1) (by decide) (W := 0) (by show 2 * 0 + _ ≤ _; exact Nat.le_of_eq rfl) (by decide)
  refine own_go st1 ?_
  refine own_go (T' := T1) (f' := (mkF m 14 #[.val (.ref a0), .val (.int p1), .val (.int p2)] [(.int ((((p2 + (64 : Int32)) - (1 : Int32)).toUInt32 >>> ((6 : Int32) &&& 31).toUInt32).toInt32)), (.ref a0)])) (fun t kt => ?_) ?_
  · show Steps p.tables e below (T1.setTop (mkF m 4 #[.val (.ref a0), .val (.int p1), .val (.int p2)] [])) t
    refine XS.aloadN X1.here hx rfl (hb hby d1_4) rfl rfl ?_
    show Steps p.tables e below (T1.setTop (mkF m 5 #[.val (.ref a0), .val (.int p1), .val (.int p2)] [(.ref a0)])) t
    refine XS.iloadN X1.here hx rfl (hb hby d1_5) rfl ?_
    show Steps p.tables e below (T1.setTop (mkF m 6 #[.val (.ref a0), .val (.int p1), .val (.int p2)] [(.int p2), (.ref a0)])) t
    refine XS.bipush X1.here hx rfl (hb hby d1_6) ?_
    show Steps p.tables e below (T1.setTop (mkF m 8 #[.val (.ref a0), .val (.int p1), .val (.int p2)] [(.int (64 : Int32)), (.int p2), (.ref a0)])) t
    refine XS.iadd X1.here hx rfl (hb hby d1_8) rfl ?_
    show Steps p.tables e below (T1.setTop (mkF m 9 #[.val (.ref a0), .val (.int p1), .val (.int p2)] [(.int (p2 + (64 : Int32))), (.ref a0)])) t
    refine XS.iconst X1.here hx rfl (hb hby d1_9) ?_
    show Steps p.tables e below (T1.setTop (mkF m 10 #[.val (.ref a0), .val (.int p1), .val (.int p2)] [(.int (1 : Int32)), (.int (p2 + (64 : Int32))), (.ref a0)])) t
    refine XS.isub X1.here hx rfl (hb hby d1_10) rfl ?_
    show Steps p.tables e below (T1.setTop (mkF m 11 #[.val (.ref a0), .val (.int p1), .val (.int p2)] [(.int ((p2 + (64 : Int32)) - (1 : Int32))), (.ref a0)])) t
    refine XS.bipush X1.here hx rfl (hb hby d1_11) ?_
    show Steps p.tables e below (T1.setTop (mkF m 13 #[.val (.ref a0), .val (.int p1), .val (.int p2)] [(.int (6 : Int32)), (.int ((p2 + (64 : Int32)) - (1 : Int32))), (.ref a0)])) t
    refine XS.iushr X1.here hx rfl (hb hby d1_13) rfl ?_
    show Steps p.tables e below (T1.setTop (mkF m 14 #[.val (.ref a0), .val (.int p1), .val (.int p2)] [(.int ((((p2 + (64 : Int32)) - (1 : Int32)).toUInt32 >>> ((6 : Int32) &&& 31).toUInt32).toInt32)), (.ref a0)])) t
    exact kt
  obtain ⟨uv2, F2_wordsPerLine⟩ := fld_laid E_a0 K_a0 (hw _ (List.mem_of_getElem? (i := 3) rfl)) (Or.inr (hw _ (List.mem_of_getElem? (i := 12) rfl)))
  obtain ⟨T2, h2, X2, e2, W2, st2⟩ := putF X1 hx hZ hown (host := "") (Or.inl (hw _ (List.mem_of_getElem? (i := 11) rfl))) Via.refl e1 F2_wordsPerLine E_a0 (Or.inr ⟨(hw _ (List.mem_of_getElem? (i := 12) rfl)), rfl, hnm⟩) (hw _ (List.mem_of_getElem? (i := 3) rfl)) (ty := .int) (by decide) rfl rfl (g := (mkF m 14 #[.val (.ref a0), .val (.int p1), .val (.int p2)] [(.int ((((p2 + (64 : Int32)) - (1 : Int32)).toUInt32 >>> ((6 : Int32) &&& 31).toUInt32).toInt32)), (.ref a0)])) rfl rfl (hb hby d1_14)
  refine own_go st2 ?_
  replace E_a0 := (E_a0.wr W2)
  replace F2_wordsPerLine := (F2_wordsPerLine.same W2)
  replace K_a0 := own_K_wr K_a0 W2
  have N2 := Fr.snoc X2 N0 g_a0
  have Z2 : n0 ≤ h2.size := Nat.le_trans Z0 (Keep.of_wr W2).1
  have KK2 := K0.wr W2 (Or.inl (by simp))
  refine own_go (T' := T2) (f' := (mkF m 20 #[.val (.ref a0), .val (.int p1), .val (.int p2)] [(.ref a0), (.int p1), (.ref a0)])) (fun t kt => ?_) ?_
  · show Steps p.tables e below (T2.setTop (mkF m 17 #[.val (.ref a0), .val (.int p1), .val (.int p2)] [])) t
    refine XS.aloadN X2.here hx rfl (hb hby d1_17) rfl rfl ?_
    show Steps p.tables e below (T2.setTop (mkF m 18 #[.val (.ref a0), .val (.int p1), .val (.int p2)] [(.ref a0)])) t
    refine XS.iloadN X2.here hx rfl (hb hby d1_18) rfl ?_
    show Steps p.tables e below (T2.setTop (mkF m 19 #[.val (.ref a0), .val (.int p1), .val (.int p2)] [(.int p1), (.ref a0)])) t
    refine XS.aloadN X2.here hx rfl (hb hby d1_19) rfl rfl ?_
    show Steps p.tables e below (T2.setTop (mkF m 20 #[.val (.ref a0), .val (.int p1), .val (.int p2)] [(.ref a0), (.int p1), (.ref a0)])) t
    exact kt
  obtain ⟨T3, X3, e3, st3⟩ := getF X2 hx hZ hown (host := "") (Or.inl (hw _ (List.mem_of_getElem? (i := 11) rfl))) Via.refl e2 F2_wordsPerLine (g := (mkF m 20 #[.val (.ref a0), .val (.int p1), .val (.int p2)] [(.ref a0), (.int p1), (.ref a0)])) rfl rfl (hb hby d1_20)
  refine own_go st3 ?_
  refine own_callSp X3 hx hZ hown e3 (hw _ (List.mem_of_getElem? (i := 13) rfl)) (hw _ (List.mem_of_getElem? (i := 14) rfl)) (hw _ (List.mem_of_getElem? (i := 15) rfl)) (hw _ (List.mem_of_getElem? (i := 16) rfl)) (by decide) (rm3 l Z aw hw p1 ((((p2 + (64 : Int32)) - (1 : Int32)).toUInt32 >>> ((6 : Int32) &&& 31).toUInt32).toInt32) h2 n0 Z2 (own_mx hL (own_wplv hn hnb) hLb (by omega)).1) (g := (mkF m 23 #[.val (.ref a0), .val (.int p1), .val (.int p2)] [(.int ((((p2 + (64 : Int32)) - (1 : Int32)).toUInt32 >>> ((6 : Int32) &&& 31).toUInt32).toInt32)), (.int p1), (.ref a0)])) rfl (by rw [hml]; rfl) (argsL := [(.int p1), (.int ((((p2 + (64 : Int32)) - (1 : Int32)).toUInt32 >>> ((6 : Int32) &&& 31).toUInt32).toInt32))]) (rest := [(.ref a0)]) (lenOf pd_0 rfl) rfl rfl (W := 1) (by show 2 * 0 + _ ≤ _; exact Nat.le_of_eq rfl) (hb hby d1_23) (by decide) (by decide) (by decide) (by decide) ?_
  intro T4 X4 e4
  obtain ⟨T5, h5, k5, X5, e5, E5, A5, st5⟩ := newP X4 hx hZ (hw _ (List.mem_of_getElem? (i := 17) rfl)) e4 (g := (mkF m 26 #[.val (.ref a0), .val (.int p1), .val (.int p2)] [(.int ((p1.toInt64 * ((((p2 + (64 : Int32)) - (1 : Int32)).toUInt32 >>> ((6 : Int32) &&& 31).toUInt32).toInt32).toInt64).toInt32)), (.ref a0)])) rfl (hb hby d1_26) rfl (own_negn (own_mx hL (own_wplv hn hnb) hLb (by omega)).2) (cap := 16) (own_capn (own_mx hL (own_wplv hn hnb) hLb (by omega)).2 (own_mul hL (own_wplv hn hnb) hLb (by omega)).2) (by decide) (by decide) (by decide)
  obtain ⟨b5, y5⟩ : ∃ z, z = h2.size := ⟨_, rfl⟩
  rw [← y5] at A5 st5
  have ne_a0_b5 : a0 ≠ b5 := Nat.ne_of_lt (Nat.lt_of_lt_of_le E_a0.lt (Nat.le_of_eq y5.symm))
  have ne_b5_a0 := ne_a0_b5.symm
  have g_b5 : n0 ≤ b5 := Nat.le_trans Z2 (Nat.le_of_eq y5.symm)
  have sz_b5 : h0.size ≤ b5 := Nat.le_trans KK2.1 (Nat.le_of_eq y5.symm)
  replace E_a0 := (E_a0.ext E5)
  replace F2_wordsPerLine := (F2_wordsPerLine.ext E5)
  replace K_a0 := own_K_ext K_a0 E5
  have ZE5 : n0 ≤ h5.size := Nat.le_trans Z2 E5.1
  have KKE5 := KK2.ext E5
  refine own_go st5 ?_
  have Ar_b5 : own_AJ Z h5 b5 (LC * ((n + 63) / 64)) (fun _ => (0 : Int64)) := own_A_new A5 (own_mx hL (own_wplv hn hnb) hLb (by omega)).2
  obtain ⟨uv6, F6_words⟩ := fld_laid E_a0 K_a0 (hw _ (List.mem_of_getElem? (i := 3) rfl)) (Or.inr (hw _ (List.mem_of_getElem? (i := 19) rfl)))
  obtain ⟨T6, h6, X6, e6, W6, st6⟩ := putF X5 hx hZ hown (host := "") (Or.inl (hw _ (List.mem_of_getElem? (i := 18) rfl))) Via.refl e5 F6_words E_a0 (Or.inr ⟨(hw _ (List.mem_of_getElem? (i := 19) rfl)), rfl, hnm⟩) (hw _ (List.mem_of_getElem? (i := 3) rfl)) (ty := (.array .long)) (by decide) rfl rfl (g := (mkF m 28 #[.val (.ref a0), .val (.int p1), .val (.int p2)] [(.ref b5), (.ref a0)])) rfl rfl (hb hby d1_28)
  refine own_go st6 ?_
  replace E_a0 := (E_a0.wr W6)
  replace F2_wordsPerLine := (F2_wordsPerLine.other W6 (Or.inr (slot_ne (Or.inr (hw _ (List.mem_of_getElem? (i := 12) rfl))) (Or.inr (hw _ (List.mem_of_getElem? (i := 19) rfl))) (by decide) (t := .int) (t' := (.array .long)) (by decide) (by decide))))
  replace Ar_b5 := (Ar_b5.other W6 (ne_b5_a0))
  replace F6_words := (F6_words.same W6)
  replace K_a0 := own_K_wr K_a0 W6
  have N6 := Fr.snoc X6 N2 g_a0
  have Z6 : n0 ≤ h6.size := Nat.le_trans ZE5 (Keep.of_wr W6).1
  have KK6 := KKE5.wr W6 (Or.inl (by simp))
  exact own_retV X6 hP hx hlk e6 hret (hb hby d1_31) (by decide) (by decide) ⟨rfl, N6, KK6, E_a0, F2_wordsPerLine, ⟨_, g_b5, sz_b5, F6_words, Ar_b5⟩⟩
theorem d5_0 : decode prog_3_method_10_code 0 = .ok (.aload_n 0, 1) := by decide +kernel
theorem d5_1 : decode prog_3_method_10_code 1 = .ok (.getfield 21, 3) := by decide +kernel
theorem d5_4 : decode prog_3_method_10_code 4 = .ok (.iload_n 1, 1) := by decide +kernel
theorem d5_5 : decode prog_3_method_10_code 5 = .ok (.iload 4, 2) := by decide +kernel
theorem d5_7 : decode prog_3_method_10_code 7 = .ok (.ifCond .eq 14, 3) := by decide +kernel
theorem d5_10 : decode prog_3_method_10_code 10 = .ok (.aload_n 0, 1) := by decide +kernel
theorem d5_11 : decode prog_3_method_10_code 11 = .ok (.getfield 21, 3) := by decide +kernel
theorem d5_14 : decode prog_3_method_10_code 14 = .ok (.iload_n 1, 1) := by decide +kernel
theorem d5_15 : decode prog_3_method_10_code 15 = .ok (.laload, 1) := by decide +kernel
theorem d5_16 : decode prog_3_method_10_code 16 = .ok (.lload_n 2, 1) := by decide +kernel
theorem d5_17 : decode prog_3_method_10_code 17 = .ok (.lor, 1) := by decide +kernel
theorem d5_18 : decode prog_3_method_10_code 18 = .ok (.goto 15, 3) := by decide +kernel
theorem d5_33 : decode prog_3_method_10_code 33 = .ok (.lastore, 1) := by decide +kernel
theorem d5_34 : decode prog_3_method_10_code 34 = .ok (.return_, 1) := by decide +kernel
set_option maxRecDepth 65536 in
set_option maxHeartbeats 4000000 in
theorem ef_5 (m : MethodId) (a0 : Addr) (p1 : Int32) (q2 : Int64) (p3 : Int32) : entryFrame m #[(.ref a0), (.int p1), (.long q2), (.int p3)] 5 = mkF m 0 #[.val (.ref a0), .val (.int p1), .val (.long q2), .second, .val (.int p3)] [] := by first | (simp [entryFrame, mkF, argsToLocals, Value.category]; done) | rfl
set_option maxRecDepth 65536 in
set_option maxHeartbeats 40000000 in
theorem rm5 (l : Launch) (Z : State) (aw : Array Value) (hw : ∀ d ∈ tables_1, d.before aw Z = true) {ws : List Jvm.Cond} (a0 : Addr) (p1 : Int32) (q2 : Int64) (p3 : Int32) (w0 : Addr) (N : Nat) (f : Nat → Int64) (i : Nat) (h0 : Heap) (n0 : Nat) (Z0 : n0 ≤ h0.size) (F_a0_words : Fld Z h0 a0 "com/example/humble_grid/humblegrid/BitLines" "words" "[J" (.ref w0)) (Ar_w0 : own_AJ Z h0 w0 N f) (g_w0 : n0 ≤ w0) (ne_a0_w0 : a0 ≠ w0) (hi : p1.toInt = (i : Int)) (hiN : i < N) (hon : ¬ p3 = (0 : Int32)) :
    own_Met l Z (⟨"com/example/humble_grid/humblegrid/BitLines", "setBits", "(IJZ)V"⟩ : MethodName) prog_3_method_10_code 5 none ws ({ frames := 0, cells := 0, slots := 0, locals := 0 } : Room) #[(.ref a0), (.int p1), (.long q2), (.int p3)] h0 (fun v h L => v = none ∧ Fr n0 L ∧ Keep h0 h [w0] ∧ own_AJ Z h w0 N (own_set f i (f i ||| q2))) := by
  refine own_body (plainFor_of_name pn_0) ?_
  intro p e s m below meth c s₁ hx hZ hby hml hown hnm hret hlk X0 e0
  replace hown : s.vm.findClass "com/example/humble_grid/humblegrid/BitLines" = some m.cls := hown
  replace hml : c.maxLocals = 5 := hml
  have N0 := Fr.nil n0
  have K0 := Keep.refl h0 [w0]
  obtain ⟨P, hP⟩ : ∃ P, P = own_P below s (fun v h L => v = none ∧ Fr n0 L ∧ Keep h0 h [w0] ∧ own_AJ Z h w0 N (own_set f i (f i ||| q2))) ({ frames := 0, cells := 0, slots := 0, locals := 0 } : Room).cells ({ frames := 0, cells := 0, slots := 0, locals := 0 } : Room).slots := ⟨_, rfl⟩
  rw [← hP]
  refine own_cast (ef_5 m a0 p1 q2 p3) ?_
  refine own_go (T' := s₁) (f' := (mkF m 1 #[.val (.ref a0), .val (.int p1), .val (.long q2), .second, .val (.int p3)] [(.ref a0)])) (fun t kt => ?_) ?_
  · show Steps p.tables e below (s₁.setTop (mkF m 0 #[.val (.ref a0), .val (.int p1), .val (.long q2), .second, .val (.int p3)] [])) t
    refine XS.aloadN X0.here hx rfl (hb hby d5_0) rfl rfl ?_
    show Steps p.tables e below (s₁.setTop (mkF m 1 #[.val (.ref a0), .val (.int p1), .val (.long q2), .second, .val (.int p3)] [(.ref a0)])) t
    exact kt
  obtain ⟨T1, X1, e1, st1⟩ := getF X0 hx hZ hown (host := "") (Or.inl (hw _ (List.mem_of_getElem? (i := 18) rfl))) Via.refl e0 F_a0_words (g := (mkF m 1 #[.val (.ref a0), .val (.int p1), .val (.long q2), .second, .val (.int p3)] [(.ref a0)])) rfl rfl (hb hby d5_1)
  refine own_go st1 ?_
  refine own_go (T' := T1) (f' := (mkF m 11 #[.val (.ref a0), .val (.int p1), .val (.long q2), .second, .val (.int p3)] [(.ref a0), (.int p1), (.ref w0)])) (fun t kt => ?_) ?_
  · show Steps p.tables e below (T1.setTop (mkF m 4 #[.val (.ref a0), .val (.int p1), .val (.long q2), .second, .val (.int p3)] [(.ref w0)])) t
    refine XS.iloadN X1.here hx rfl (hb hby d5_4) rfl ?_
    show Steps p.tables e below (T1.setTop (mkF m 5 #[.val (.ref a0), .val (.int p1), .val (.long q2), .second, .val (.int p3)] [(.int p1), (.ref w0)])) t
    refine XS.iload X1.here hx rfl (hb hby d5_5) rfl ?_
    show Steps p.tables e below (T1.setTop (mkF m 7 #[.val (.ref a0), .val (.int p1), .val (.long q2), .second, .val (.int p3)] [(.int p3), (.int p1), (.ref w0)])) t
    refine XS.ifNo X1.here hx rfl (hb hby d5_7) rfl ((if0 _ _).trans (feq (show ¬ (p3 = (0 : Int32)) from hon)).1) ?_
    show Steps p.tables e below (T1.setTop (mkF m 10 #[.val (.ref a0), .val (.int p1), .val (.long q2), .second, .val (.int p3)] [(.int p1), (.ref w0)])) t
    refine XS.aloadN X1.here hx rfl (hb hby d5_10) rfl rfl ?_
    show Steps p.tables e below (T1.setTop (mkF m 11 #[.val (.ref a0), .val (.int p1), .val (.long q2), .second, .val (.int p3)] [(.ref a0), (.int p1), (.ref w0)])) t
    exact kt
  obtain ⟨T2, X2, e2, st2⟩ := getF X1 hx hZ hown (host := "") (Or.inl (hw _ (List.mem_of_getElem? (i := 18) rfl))) Via.refl e1 F_a0_words (g := (mkF m 11 #[.val (.ref a0), .val (.int p1), .val (.long q2), .second, .val (.int p3)] [(.ref a0), (.int p1), (.ref w0)])) rfl rfl (hb hby d5_11)
  refine own_go st2 ?_
  refine own_go (T' := T2) (f' := (mkF m 33 #[.val (.ref a0), .val (.int p1), .val (.long q2), .second, .val (.int p3)] [(.long ((f i) ||| q2)), (.int p1), (.ref w0)])) (fun t kt => ?_) ?_
  · show Steps p.tables e below (T2.setTop (mkF m 14 #[.val (.ref a0), .val (.int p1), .val (.long q2), .second, .val (.int p3)] [(.ref w0), (.int p1), (.ref w0)])) t
    refine XS.iloadN X2.here hx rfl (hb hby d5_14) rfl ?_
    show Steps p.tables e below (T2.setTop (mkF m 15 #[.val (.ref a0), .val (.int p1), .val (.long q2), .second, .val (.int p3)] [(.int p1), (.ref w0), (.int p1), (.ref w0)])) t
    refine own_laload X2 hx hZ e2 Ar_w0 (i := i) hi hiN (g := (mkF m 15 #[.val (.ref a0), .val (.int p1), .val (.long q2), .second, .val (.int p3)] [(.int p1), (.ref w0), (.int p1), (.ref w0)])) rfl rfl (hb hby d5_15) _ ?_
    show Steps p.tables e below (T2.setTop (mkF m 16 #[.val (.ref a0), .val (.int p1), .val (.long q2), .second, .val (.int p3)] [(.long (f i)), (.int p1), (.ref w0)])) t
    refine XS.lloadN X2.here hx rfl (hb hby d5_16) rfl ?_
    show Steps p.tables e below (T2.setTop (mkF m 17 #[.val (.ref a0), .val (.int p1), .val (.long q2), .second, .val (.int p3)] [(.long q2), (.long (f i)), (.int p1), (.ref w0)])) t
    refine XS.lor X2.here hx rfl (hb hby d5_17) rfl ?_
    show Steps p.tables e below (T2.setTop (mkF m 18 #[.val (.ref a0), .val (.int p1), .val (.long q2), .second, .val (.int p3)] [(.long ((f i) ||| q2)), (.int p1), (.ref w0)])) t
    refine XS.goto X2.here hx rfl (pc0 := 18) (pc' := 33) rfl (hb hby d5_18) (by decide) (by decide) ?_
    show Steps p.tables e below (T2.setTop (mkF m 33 #[.val (.ref a0), .val (.int p1), .val (.long q2), .second, .val (.int p3)] [(.long ((f i) ||| q2)), (.int p1), (.ref w0)])) t
    exact kt
  obtain ⟨T3, h3, X3, e3, W3, B3, st3⟩ := own_lastore X2 hx hZ e2 Ar_w0 (i := i) hi hiN (g := (mkF m 33 #[.val (.ref a0), .val (.int p1), .val (.long q2), .second, .val (.int p3)] [(.long ((f i) ||| q2)), (.int p1), (.ref w0)])) rfl rfl (hb hby d5_33)
  refine own_go st3 ?_
  replace F_a0_words := (F_a0_words.other W3 (Or.inl (ne_a0_w0)))
  have N3 := Fr.snoc X3 N0 g_w0
  have Z3 : n0 ≤ h3.size := Nat.le_trans Z0 (Keep.of_wr W3).1
  have KK3 := K0.wr W3 (Or.inl (by simp))
  exact own_retV X3 hP hx hlk e3 hret (hb hby d5_34) (by decide) (by decide) ⟨rfl, N3, KK3, B3⟩
theorem pd_1 : parseMethodDescriptor "(IJZ)V" = some ⟨[.int, .long, .boolean], none⟩ := by decide +kernel
theorem d7_0 : decode prog_3_method_9_code 0 = .ok (.aload_n 0, 1) := by decide +kernel
theorem d7_1 : decode prog_3_method_9_code 1 = .ok (.iload_n 1, 1) := by decide +kernel
theorem d7_2 : decode prog_3_method_9_code 2 = .ok (.lload 5, 2) := by decide +kernel
theorem d7_4 : decode prog_3_method_9_code 4 = .ok (.ldc2_w 25, 3) := by decide +kernel
theorem d7_7 : decode prog_3_method_9_code 7 = .ok (.iload_n 3, 1) := by decide +kernel
theorem d7_8 : decode prog_3_method_9_code 8 = .ok (.lshl, 1) := by decide +kernel
theorem d7_9 : decode prog_3_method_9_code 9 = .ok (.land, 1) := by decide +kernel
theorem d7_10 : decode prog_3_method_9_code 10 = .ok (.iload 7, 2) := by decide +kernel
theorem d7_12 : decode prog_3_method_9_code 12 = .ok (.invokevirtual 44, 3) := by decide +kernel
theorem d7_15 : decode prog_3_method_9_code 15 = .ok (.iload_n 1, 1) := by decide +kernel
theorem d7_16 : decode prog_3_method_9_code 16 = .ok (.iconst 1, 1) := by decide +kernel
theorem d7_17 : decode prog_3_method_9_code 17 = .ok (.iadd, 1) := by decide +kernel
theorem d7_18 : decode prog_3_method_9_code 18 = .ok (.istore 8, 2) := by decide +kernel
theorem d7_20 : decode prog_3_method_9_code 20 = .ok (.iload 8, 2) := by decide +kernel
theorem d7_22 : decode prog_3_method_9_code 22 = .ok (.iload_n 2, 1) := by decide +kernel
theorem d7_23 : decode prog_3_method_9_code 23 = .ok (.if_icmp .ge 19, 3) := by decide +kernel
theorem d7_26 : decode prog_3_method_9_code 26 = .ok (.aload_n 0, 1) := by decide +kernel
theorem d7_27 : decode prog_3_method_9_code 27 = .ok (.iload 8, 2) := by decide +kernel
theorem d7_29 : decode prog_3_method_9_code 29 = .ok (.lload 5, 2) := by decide +kernel
theorem d7_31 : decode prog_3_method_9_code 31 = .ok (.iload 7, 2) := by decide +kernel
theorem d7_33 : decode prog_3_method_9_code 33 = .ok (.invokevirtual 44, 3) := by decide +kernel
theorem d7_36 : decode prog_3_method_9_code 36 = .ok (.iinc 8 1, 3) := by decide +kernel
theorem d7_39 : decode prog_3_method_9_code 39 = .ok (.goto (-19), 3) := by decide +kernel
theorem d7_42 : decode prog_3_method_9_code 42 = .ok (.aload_n 0, 1) := by decide +kernel
theorem d7_43 : decode prog_3_method_9_code 43 = .ok (.iload_n 2, 1) := by decide +kernel
theorem d7_44 : decode prog_3_method_9_code 44 = .ok (.lload 5, 2) := by decide +kernel
theorem d7_46 : decode prog_3_method_9_code 46 = .ok (.ldc2_w 25, 3) := by decide +kernel
theorem d7_49 : decode prog_3_method_9_code 49 = .ok (.iload 4, 2) := by decide +kernel
theorem d7_51 : decode prog_3_method_9_code 51 = .ok (.ineg, 1) := by decide +kernel
theorem d7_52 : decode prog_3_method_9_code 52 = .ok (.lushr, 1) := by decide +kernel
theorem d7_53 : decode prog_3_method_9_code 53 = .ok (.land, 1) := by decide +kernel
theorem d7_54 : decode prog_3_method_9_code 54 = .ok (.iload 7, 2) := by decide +kernel
theorem d7_56 : decode prog_3_method_9_code 56 = .ok (.invokevirtual 44, 3) := by decide +kernel
theorem d7_59 : decode prog_3_method_9_code 59 = .ok (.return_, 1) := by decide +kernel
set_option maxRecDepth 65536 in
set_option maxHeartbeats 4000000 in
theorem ef_7 (m : MethodId) (a0 : Addr) (p1 : Int32) (p2 : Int32) (p3 : Int32) (p4 : Int32) (q5 : Int64) (p6 : Int32) : entryFrame m #[(.ref a0), (.int p1), (.int p2), (.int p3), (.int p4), (.long q5), (.int p6)] 9 = mkF m 0 #[.val (.ref a0), .val (.int p1), .val (.int p2), .val (.int p3), .val (.int p4), .val (.long q5), .second, .val (.int p6), .unset] [] := by first | (simp [entryFrame, mkF, argsToLocals, Value.category]; done) | rfl
set_option maxRecDepth 65536 in
set_option maxHeartbeats 40000000 in
theorem rm7 (l : Launch) (Z : State) (aw : Array Value) (hw : ∀ d ∈ tables_1, d.before aw Z = true) {ws : List Jvm.Cond} (a0 : Addr) (p1 : Int32) (p2 : Int32) (p3 : Int32) (p4 : Int32) (q5 : Int64) (p6 : Int32) (w0 : Addr) (N : Nat) (WF : Nat) (WL : Nat) (fr : Nat) (t : Nat) (h0 : Heap) (n0 : Nat) (Z0 : n0 ≤ h0.size) (E_a0 : Exa Z h0 a0 "com/example/humble_grid/humblegrid/BitLines") (F_a0_words : Fld Z h0 a0 "com/example/humble_grid/humblegrid/BitLines" "words" "[J" (.ref w0)) (Ar_w0 : own_AJ Z h0 w0 N (fun _ => (0 : Int64))) (g_w0 : n0 ≤ w0) (ne_a0_w0 : a0 ≠ w0) (hF : p1.toInt = (WF : Int)) (hL : p2.toInt = (WL : Int)) (hFL : WF < WL) (hLN : WL < N) (hN : N ≤ 16) (hf : p3.toInt = (fr : Int)) (ht : p4.toInt = (t : Int)) (h1t : 1 ≤ t) (hon : ¬ p6 = (0 : Int32)) :
    own_Met l Z (⟨"com/example/humble_grid/humblegrid/BitLines", "setAcross", "(IIIIJZ)V"⟩ : MethodName) prog_3_method_9_code 9 none ws ({ frames := 1, cells := 0, slots := 0, locals := 16 } : Room) #[(.ref a0), (.int p1), (.int p2), (.int p3), (.int p4), (.long q5), (.int p6)] h0 (fun v h L => v = none ∧ Fr n0 L ∧ Keep h0 h [w0] ∧ ∃ f', own_AJ Z h w0 N f' ∧ own_lines f' WF WL (fr % 64) ((t - 1) % 64) q5) := by
  refine own_body (plainFor_of_name pn_0) ?_
  intro p e s m below meth c s₁ hx hZ hby hml hown hnm hret hlk X0 e0
  replace hown : s.vm.findClass "com/example/humble_grid/humblegrid/BitLines" = some m.cls := hown
  replace hml : c.maxLocals = 9 := hml
  have N0 := Fr.nil n0
  have K0 := Keep.refl h0 [w0]
  obtain ⟨P, hP⟩ : ∃ P, P = own_P below s (fun v h L => v = none ∧ Fr n0 L ∧ Keep h0 h [w0] ∧ ∃ f', own_AJ Z h w0 N f' ∧ own_lines f' WF WL (fr % 64) ((t - 1) % 64) q5) ({ frames := 1, cells := 0, slots := 0, locals := 16 } : Room).cells ({ frames := 1, cells := 0, slots := 0, locals := 16 } : Room).slots := ⟨_, rfl⟩
  rw [← hP]
  refine own_cast (ef_7 m a0 p1 p2 p3 p4 q5 p6) ?_
  refine own_go (T' := s₁) (f' := (mkF m 10 #[.val (.ref a0), .val (.int p1), .val (.int p2), .val (.int p3), .val (.int p4), .val (.long q5), .second, .val (.int p6), .unset] [(.long (q5 &&& ((-1 : Int64) <<< (p3 &&& 0x3f).toInt64))), (.int p1), (.ref a0)])) (fun t kt => ?_) ?_
  · show Steps p.tables e below (s₁.setTop (mkF m 0 #[.val (.ref a0), .val (.int p1), .val (.int p2), .val (.int p3), .val (.int p4), .val (.long q5), .second, .val (.int p6), .unset] [])) t
    refine XS.aloadN X0.here hx rfl (hb hby d7_0) rfl rfl ?_
    show Steps p.tables e below (s₁.setTop (mkF m 1 #[.val (.ref a0), .val (.int p1), .val (.int p2), .val (.int p3), .val (.int p4), .val (.long q5), .second, .val (.int p6), .unset] [(.ref a0)])) t
    refine XS.iloadN X0.here hx rfl (hb hby d7_1) rfl ?_
    show Steps p.tables e below (s₁.setTop (mkF m 2 #[.val (.ref a0), .val (.int p1), .val (.int p2), .val (.int p3), .val (.int p4), .val (.long q5), .second, .val (.int p6), .unset] [(.int p1), (.ref a0)])) t
    refine XS.lload X0.here hx rfl (hb hby d7_2) rfl ?_
    show Steps p.tables e below (s₁.setTop (mkF m 4 #[.val (.ref a0), .val (.int p1), .val (.int p2), .val (.int p3), .val (.int p4), .val (.long q5), .second, .val (.int p6), .unset] [(.long q5), (.int p1), (.ref a0)])) t
    refine X0.ldc2Long hx hown (mvT hZ (hw _ (List.mem_of_getElem? (i := 25) rfl))) (g := (mkF m 4 #[.val (.ref a0), .val (.int p1), .val (.int p2), .val (.int p3), .val (.int p4), .val (.long q5), .second, .val (.int p6), .unset] [(.long q5), (.int p1), (.ref a0)])) rfl (hb hby d7_4) _ ?_
    show Steps p.tables e below (s₁.setTop (mkF m 7 #[.val (.ref a0), .val (.int p1), .val (.int p2), .val (.int p3), .val (.int p4), .val (.long q5), .second, .val (.int p6), .unset] [(.long (-1 : Int64)), (.long q5), (.int p1), (.ref a0)])) t
    refine XS.iloadN X0.here hx rfl (hb hby d7_7) rfl ?_
    show Steps p.tables e below (s₁.setTop (mkF m 8 #[.val (.ref a0), .val (.int p1), .val (.int p2), .val (.int p3), .val (.int p4), .val (.long q5), .second, .val (.int p6), .unset] [(.int p3), (.long (-1 : Int64)), (.long q5), (.int p1), (.ref a0)])) t
    refine XS.lshl X0.here hx rfl (hb hby d7_8) rfl ?_
    show Steps p.tables e below (s₁.setTop (mkF m 9 #[.val (.ref a0), .val (.int p1), .val (.int p2), .val (.int p3), .val (.int p4), .val (.long q5), .second, .val (.int p6), .unset] [(.long ((-1 : Int64) <<< (p3 &&& 0x3f).toInt64)), (.long q5), (.int p1), (.ref a0)])) t
    refine XS.land X0.here hx rfl (hb hby d7_9) rfl ?_
    show Steps p.tables e below (s₁.setTop (mkF m 10 #[.val (.ref a0), .val (.int p1), .val (.int p2), .val (.int p3), .val (.int p4), .val (.long q5), .second, .val (.int p6), .unset] [(.long (q5 &&& ((-1 : Int64) <<< (p3 &&& 0x3f).toInt64))), (.int p1), (.ref a0)])) t
    exact kt
  obtain ⟨ma, hma⟩ : ∃ z, z = (q5 &&& ((-1 : Int64) <<< (p3 &&& 0x3f).toInt64)) := ⟨_, rfl⟩
  rw [← hma]
  refine own_go (T' := s₁) (f' := (mkF m 12 #[.val (.ref a0), .val (.int p1), .val (.int p2), .val (.int p3), .val (.int p4), .val (.long q5), .second, .val (.int p6), .unset] [(.int p6), (.long ma), (.int p1), (.ref a0)])) (fun t kt => ?_) ?_
  · show Steps p.tables e below (s₁.setTop (mkF m 10 #[.val (.ref a0), .val (.int p1), .val (.int p2), .val (.int p3), .val (.int p4), .val (.long q5), .second, .val (.int p6), .unset] [(.long ma), (.int p1), (.ref a0)])) t
    refine XS.iload X0.here hx rfl (hb hby d7_10) rfl ?_
    show Steps p.tables e below (s₁.setTop (mkF m 12 #[.val (.ref a0), .val (.int p1), .val (.int p2), .val (.int p3), .val (.int p4), .val (.long q5), .second, .val (.int p6), .unset] [(.int p6), (.long ma), (.int p1), (.ref a0)])) t
    exact kt
  refine own_callP X0 hx hZ hown e0 (hw _ (List.mem_of_getElem? (i := 26) rfl)) (hw _ (List.mem_of_getElem? (i := 27) rfl)) (own_selP (mvT hZ (hw _ (List.mem_of_getElem? (i := 23) rfl))) rfl (Cond.privateMethod_at (mvP hZ (hw _ (List.mem_of_getElem? (i := 28) rfl)) (args := #[]))) (mvT hZ (hw _ (List.mem_of_getElem? (i := 27) rfl))) (by decide)) (hw _ (List.mem_of_getElem? (i := 28) rfl)) (hw _ (List.mem_of_getElem? (i := 4) rfl)) (hw _ (List.mem_of_getElem? (i := 29) rfl)) (by decide) (rm5 l Z aw hw a0 p1 ma p6 w0 N (fun _ => (0 : Int64)) WF h0 n0 Z0 F_a0_words Ar_w0 g_w0 (ne_a0_w0) hF (by omega) hon) E_a0 (g := (mkF m 12 #[.val (.ref a0), .val (.int p1), .val (.int p2), .val (.int p3), .val (.int p4), .val (.long q5), .second, .val (.int p6), .unset] [(.int p6), (.long ma), (.int p1), (.ref a0)])) rfl (by rw [hml]; rfl) (argsL := [(.int p1), (.long ma), (.int p6)]) (rest := []) (lenOf pd_1 rfl) rfl rfl (W := 0) (by show 2 * 0 + _ ≤ _; exact Nat.le_of_eq rfl) (hb hby d7_12) (by decide) (by decide) (by decide) (by decide) ?_
  rintro _ T1 L1 X1 ⟨rfl, Nq1, Kq1, Pq1_0⟩
  have N1 := Fr.app N0 Nq1
  replace E_a0 := (E_a0.keep Kq1)
  replace F_a0_words := (F_a0_words.keep Kq1 (ninS (ne_a0_w0) nin0))
  have ZKq1 : n0 ≤ T1.heap.size := Nat.le_trans Z0 Kq1.1
  have KKKq1 := K0.trans Kq1 ((allS (Or.inl (by simp)) all0))
  obtain ⟨f1, hf1⟩ : ∃ z, z = (own_set (fun _ => (0 : Int64)) WF ((fun _ => (0 : Int64)) WF ||| ma)) := ⟨_, rfl⟩
  rw [← hf1] at Pq1_0
  refine own_go (T' := T1) (f' := (mkF m 20 #[.val (.ref a0), .val (.int p1), .val (.int p2), .val (.int p3), .val (.int p4), .val (.long q5), .second, .val (.int p6), .val (.int (p1 + (1 : Int32)))] [])) (fun t kt => ?_) ?_
  · show Steps p.tables e below (T1.setTop (mkF m 15 #[.val (.ref a0), .val (.int p1), .val (.int p2), .val (.int p3), .val (.int p4), .val (.long q5), .second, .val (.int p6), .unset] [])) t
    refine XS.iloadN X1.here hx rfl (hb hby d7_15) rfl ?_
    show Steps p.tables e below (T1.setTop (mkF m 16 #[.val (.ref a0), .val (.int p1), .val (.int p2), .val (.int p3), .val (.int p4), .val (.long q5), .second, .val (.int p6), .unset] [(.int p1)])) t
    refine XS.iconst X1.here hx rfl (hb hby d7_16) ?_
    show Steps p.tables e below (T1.setTop (mkF m 17 #[.val (.ref a0), .val (.int p1), .val (.int p2), .val (.int p3), .val (.int p4), .val (.long q5), .second, .val (.int p6), .unset] [(.int (1 : Int32)), (.int p1)])) t
    refine XS.iadd X1.here hx rfl (hb hby d7_17) rfl ?_
    show Steps p.tables e below (T1.setTop (mkF m 18 #[.val (.ref a0), .val (.int p1), .val (.int p2), .val (.int p3), .val (.int p4), .val (.long q5), .second, .val (.int p6), .unset] [(.int (p1 + (1 : Int32)))])) t
    refine XS.istore X1.here hx rfl (hb hby d7_18) rfl (l' := #[.val (.ref a0), .val (.int p1), .val (.int p2), .val (.int p3), .val (.int p4), .val (.long q5), .second, .val (.int p6), .val (.int (p1 + (1 : Int32)))]) rfl ?_
    show Steps p.tables e below (T1.setTop (mkF m 20 #[.val (.ref a0), .val (.int p1), .val (.int p2), .val (.int p3), .val (.int p4), .val (.long q5), .second, .val (.int p6), .val (.int (p1 + (1 : Int32)))] [])) t
    exact kt
  have J20 : ∀ (mk : Nat) (Tj2 : State) (lj2 : List Loc) (hj2 : Heap) (fj : Nat → Int64) (ii : Int32) (kk : Nat) (Xj2 : Stand p l e ({ frames := 1, cells := 0, slots := 0, locals := 16 } : Room) s m #[(.ref a0), (.int p1), (.int p2), (.int p3), (.int p4), (.long q5), (.int p6)] below meth c Tj2 lj2 0 0) (Nj2 : Fr n0 lj2) (ej2 : Tj2.heap = hj2) (Zj2 : n0 ≤ hj2.size) (Kj2 : Keep h0 hj2 [w0]) (fj2_0 : Exa Z hj2 a0 "com/example/humble_grid/humblegrid/BitLines") (fj2_1 : Fld Z hj2 a0 "com/example/humble_grid/humblegrid/BitLines" "words" "[J" (.ref w0)) (fj2_2 : own_AJ Z hj2 w0 N fj) (hii : ii.toInt = (kk : Int)) (hFk : WF < kk) (hkL : kk ≤ WL) (hpt : own_pt fj WF kk (fr % 64) q5) (hmk : mk = WL - kk), own_End p e below P Tj2 (mkF m 20 #[.val (.ref a0), .val (.int p1), .val (.int p2), .val (.int p3), .val (.int p4), .val (.long q5), .second, .val (.int p6), .val (.int ii)] []) := by
    intro mk
    induction mk using Nat.strongRecOn with
    | _ mk IHJ20 =>
    intro Tj2 lj2 hj2 fj ii kk Xj2 Nj2 ej2 Zj2 Kj2 fj2_0 fj2_1 fj2_2 hii hFk hkL hpt hmk
    refine own_go (T' := Tj2) (f' := (mkF m 23 #[.val (.ref a0), .val (.int p1), .val (.int p2), .val (.int p3), .val (.int p4), .val (.long q5), .second, .val (.int p6), .val (.int ii)] [(.int p2), (.int ii)])) (fun t kt => ?_) ?_
    · show Steps p.tables e below (Tj2.setTop (mkF m 20 #[.val (.ref a0), .val (.int p1), .val (.int p2), .val (.int p3), .val (.int p4), .val (.long q5), .second, .val (.int p6), .val (.int ii)] [])) t
      refine XS.iload Xj2.here hx rfl (hb hby d7_20) rfl ?_
      show Steps p.tables e below (Tj2.setTop (mkF m 22 #[.val (.ref a0), .val (.int p1), .val (.int p2), .val (.int p3), .val (.int p4), .val (.long q5), .second, .val (.int p6), .val (.int ii)] [(.int ii)])) t
      refine XS.iloadN Xj2.here hx rfl (hb hby d7_22) rfl ?_
      show Steps p.tables e below (Tj2.setTop (mkF m 23 #[.val (.ref a0), .val (.int p1), .val (.int p2), .val (.int p3), .val (.int p4), .val (.long q5), .second, .val (.int p6), .val (.int ii)] [(.int p2), (.int ii)])) t
      exact kt
    by_cases hc23_3 : ii < p2
    · refine own_go (T' := Tj2) (f' := (mkF m 33 #[.val (.ref a0), .val (.int p1), .val (.int p2), .val (.int p3), .val (.int p4), .val (.long q5), .second, .val (.int p6), .val (.int ii)] [(.int p6), (.long q5), (.int ii), (.ref a0)])) (fun t kt => ?_) ?_
      · show Steps p.tables e below (Tj2.setTop (mkF m 23 #[.val (.ref a0), .val (.int p1), .val (.int p2), .val (.int p3), .val (.int p4), .val (.long q5), .second, .val (.int p6), .val (.int ii)] [(.int p2), (.int ii)])) t
        refine XS.icmpNo Xj2.here hx rfl (hb hby d7_23) rfl (tlt hc23_3).2.1 ?_
        show Steps p.tables e below (Tj2.setTop (mkF m 26 #[.val (.ref a0), .val (.int p1), .val (.int p2), .val (.int p3), .val (.int p4), .val (.long q5), .second, .val (.int p6), .val (.int ii)] [])) t
        refine XS.aloadN Xj2.here hx rfl (hb hby d7_26) rfl rfl ?_
        show Steps p.tables e below (Tj2.setTop (mkF m 27 #[.val (.ref a0), .val (.int p1), .val (.int p2), .val (.int p3), .val (.int p4), .val (.long q5), .second, .val (.int p6), .val (.int ii)] [(.ref a0)])) t
        refine XS.iload Xj2.here hx rfl (hb hby d7_27) rfl ?_
        show Steps p.tables e below (Tj2.setTop (mkF m 29 #[.val (.ref a0), .val (.int p1), .val (.int p2), .val (.int p3), .val (.int p4), .val (.long q5), .second, .val (.int p6), .val (.int ii)] [(.int ii), (.ref a0)])) t
        refine XS.lload Xj2.here hx rfl (hb hby d7_29) rfl ?_
        show Steps p.tables e below (Tj2.setTop (mkF m 31 #[.val (.ref a0), .val (.int p1), .val (.int p2), .val (.int p3), .val (.int p4), .val (.long q5), .second, .val (.int p6), .val (.int ii)] [(.long q5), (.int ii), (.ref a0)])) t
        refine XS.iload Xj2.here hx rfl (hb hby d7_31) rfl ?_
        show Steps p.tables e below (Tj2.setTop (mkF m 33 #[.val (.ref a0), .val (.int p1), .val (.int p2), .val (.int p3), .val (.int p4), .val (.long q5), .second, .val (.int p6), .val (.int ii)] [(.int p6), (.long q5), (.int ii), (.ref a0)])) t
        exact kt
      refine own_callP Xj2 hx hZ hown ej2 (hw _ (List.mem_of_getElem? (i := 26) rfl)) (hw _ (List.mem_of_getElem? (i := 27) rfl)) (own_selP (mvT hZ (hw _ (List.mem_of_getElem? (i := 23) rfl))) rfl (Cond.privateMethod_at (mvP hZ (hw _ (List.mem_of_getElem? (i := 28) rfl)) (args := #[]))) (mvT hZ (hw _ (List.mem_of_getElem? (i := 27) rfl))) (by decide)) (hw _ (List.mem_of_getElem? (i := 28) rfl)) (hw _ (List.mem_of_getElem? (i := 4) rfl)) (hw _ (List.mem_of_getElem? (i := 29) rfl)) (by decide) (rm5 l Z aw hw a0 ii q5 p6 w0 N fj kk hj2 n0 Zj2 fj2_1 fj2_2 g_w0 (ne_a0_w0) hii (by have := ((own_ltn hii hL).mp hc23_3); omega) hon) fj2_0 (g := (mkF m 33 #[.val (.ref a0), .val (.int p1), .val (.int p2), .val (.int p3), .val (.int p4), .val (.long q5), .second, .val (.int p6), .val (.int ii)] [(.int p6), (.long q5), (.int ii), (.ref a0)])) rfl (by rw [hml]; rfl) (argsL := [(.int ii), (.long q5), (.int p6)]) (rest := []) (lenOf pd_1 rfl) rfl rfl (W := 0) (by show 2 * 0 + _ ≤ _; exact Nat.le_of_eq rfl) (hb hby d7_33) (by decide) (by decide) (by decide) (by decide) ?_
      rintro _ T4 L4 X4 ⟨rfl, Nq4, Kq4, Pq4_0⟩
      have N4 := Fr.app Nj2 Nq4
      replace fj2_0 := (fj2_0.keep Kq4)
      replace fj2_1 := (fj2_1.keep Kq4 (ninS (ne_a0_w0) nin0))
      have ZKq4 : n0 ≤ T4.heap.size := Nat.le_trans Zj2 Kq4.1
      have KKKq4 := Kj2.trans Kq4 ((allS (Or.inl (by simp)) all0))
      obtain ⟨f2, hf2⟩ : ∃ z, z = (own_set fj kk (fj kk ||| q5)) := ⟨_, rfl⟩
      rw [← hf2] at Pq4_0
      refine own_go (T' := T4) (f' := (mkF m 20 #[.val (.ref a0), .val (.int p1), .val (.int p2), .val (.int p3), .val (.int p4), .val (.long q5), .second, .val (.int p6), .val (.int (ii + (1 : Int32)))] [])) (fun t kt => ?_) ?_
      · show Steps p.tables e below (T4.setTop (mkF m 36 #[.val (.ref a0), .val (.int p1), .val (.int p2), .val (.int p3), .val (.int p4), .val (.long q5), .second, .val (.int p6), .val (.int ii)] [])) t
        refine XS.iinc X4.here hx rfl (hb hby d7_36) rfl (l' := #[.val (.ref a0), .val (.int p1), .val (.int p2), .val (.int p3), .val (.int p4), .val (.long q5), .second, .val (.int p6), .val (.int (ii + (1 : Int32)))]) rfl ?_
        show Steps p.tables e below (T4.setTop (mkF m 39 #[.val (.ref a0), .val (.int p1), .val (.int p2), .val (.int p3), .val (.int p4), .val (.long q5), .second, .val (.int p6), .val (.int (ii + (1 : Int32)))] [])) t
        refine XS.goto X4.here hx rfl (pc0 := 39) (pc' := 20) rfl (hb hby d7_39) (by decide) (by decide) ?_
        show Steps p.tables e below (T4.setTop (mkF m 20 #[.val (.ref a0), .val (.int p1), .val (.int p2), .val (.int p3), .val (.int p4), .val (.long q5), .second, .val (.int p6), .val (.int (ii + (1 : Int32)))] [])) t
        exact kt
      exact IHJ20 (WL - (kk + 1)) (by have q := ((own_ltn hii hL).mp hc23_3); omega) T4 _ T4.heap f2 (ii + (1 : Int32)) (kk + 1) X4 N4 rfl ZKq4 KKKq4 fj2_0 fj2_1 Pq4_0 (own_inc hii (by omega)) (by omega) ((own_ltn hii hL).mp hc23_3) (by rw [hf2]; exact own_mid hpt hFk) rfl
    · refine own_go (T' := Tj2) (f' := (mkF m 54 #[.val (.ref a0), .val (.int p1), .val (.int p2), .val (.int p3), .val (.int p4), .val (.long q5), .second, .val (.int p6), .val (.int ii)] [(.long (q5 &&& (((-1 : Int64).toUInt64 >>> ((-p4) &&& 0x3f).toInt64.toUInt64).toInt64))), (.int p2), (.ref a0)])) (fun t kt => ?_) ?_
      · show Steps p.tables e below (Tj2.setTop (mkF m 23 #[.val (.ref a0), .val (.int p1), .val (.int p2), .val (.int p3), .val (.int p4), .val (.long q5), .second, .val (.int p6), .val (.int ii)] [(.int p2), (.int ii)])) t
        refine XS.icmpYes Xj2.here hx rfl (pc0 := 23) (pc' := 42) rfl (hb hby d7_23) rfl (flt hc23_3).2.1 (by decide) (by decide) ?_
        show Steps p.tables e below (Tj2.setTop (mkF m 42 #[.val (.ref a0), .val (.int p1), .val (.int p2), .val (.int p3), .val (.int p4), .val (.long q5), .second, .val (.int p6), .val (.int ii)] [])) t
        refine XS.aloadN Xj2.here hx rfl (hb hby d7_42) rfl rfl ?_
        show Steps p.tables e below (Tj2.setTop (mkF m 43 #[.val (.ref a0), .val (.int p1), .val (.int p2), .val (.int p3), .val (.int p4), .val (.long q5), .second, .val (.int p6), .val (.int ii)] [(.ref a0)])) t
        refine XS.iloadN Xj2.here hx rfl (hb hby d7_43) rfl ?_
        show Steps p.tables e below (Tj2.setTop (mkF m 44 #[.val (.ref a0), .val (.int p1), .val (.int p2), .val (.int p3), .val (.int p4), .val (.long q5), .second, .val (.int p6), .val (.int ii)] [(.int p2), (.ref a0)])) t
        refine XS.lload Xj2.here hx rfl (hb hby d7_44) rfl ?_
        show Steps p.tables e below (Tj2.setTop (mkF m 46 #[.val (.ref a0), .val (.int p1), .val (.int p2), .val (.int p3), .val (.int p4), .val (.long q5), .second, .val (.int p6), .val (.int ii)] [(.long q5), (.int p2), (.ref a0)])) t
        refine Xj2.ldc2Long hx hown (mvT hZ (hw _ (List.mem_of_getElem? (i := 25) rfl))) (g := (mkF m 46 #[.val (.ref a0), .val (.int p1), .val (.int p2), .val (.int p3), .val (.int p4), .val (.long q5), .second, .val (.int p6), .val (.int ii)] [(.long q5), (.int p2), (.ref a0)])) rfl (hb hby d7_46) _ ?_
        show Steps p.tables e below (Tj2.setTop (mkF m 49 #[.val (.ref a0), .val (.int p1), .val (.int p2), .val (.int p3), .val (.int p4), .val (.long q5), .second, .val (.int p6), .val (.int ii)] [(.long (-1 : Int64)), (.long q5), (.int p2), (.ref a0)])) t
        refine XS.iload Xj2.here hx rfl (hb hby d7_49) rfl ?_
        show Steps p.tables e below (Tj2.setTop (mkF m 51 #[.val (.ref a0), .val (.int p1), .val (.int p2), .val (.int p3), .val (.int p4), .val (.long q5), .second, .val (.int p6), .val (.int ii)] [(.int p4), (.long (-1 : Int64)), (.long q5), (.int p2), (.ref a0)])) t
        refine XS.ineg Xj2.here hx rfl (hb hby d7_51) rfl ?_
        show Steps p.tables e below (Tj2.setTop (mkF m 52 #[.val (.ref a0), .val (.int p1), .val (.int p2), .val (.int p3), .val (.int p4), .val (.long q5), .second, .val (.int p6), .val (.int ii)] [(.int (-p4)), (.long (-1 : Int64)), (.long q5), (.int p2), (.ref a0)])) t
        refine XS.lushr Xj2.here hx rfl (hb hby d7_52) rfl ?_
        show Steps p.tables e below (Tj2.setTop (mkF m 53 #[.val (.ref a0), .val (.int p1), .val (.int p2), .val (.int p3), .val (.int p4), .val (.long q5), .second, .val (.int p6), .val (.int ii)] [(.long (((-1 : Int64).toUInt64 >>> ((-p4) &&& 0x3f).toInt64.toUInt64).toInt64)), (.long q5), (.int p2), (.ref a0)])) t
        refine XS.land Xj2.here hx rfl (hb hby d7_53) rfl ?_
        show Steps p.tables e below (Tj2.setTop (mkF m 54 #[.val (.ref a0), .val (.int p1), .val (.int p2), .val (.int p3), .val (.int p4), .val (.long q5), .second, .val (.int p6), .val (.int ii)] [(.long (q5 &&& (((-1 : Int64).toUInt64 >>> ((-p4) &&& 0x3f).toInt64.toUInt64).toInt64))), (.int p2), (.ref a0)])) t
        exact kt
      obtain ⟨mb, hmb⟩ : ∃ z, z = (q5 &&& (((-1 : Int64).toUInt64 >>> ((-p4) &&& 0x3f).toInt64.toUInt64).toInt64)) := ⟨_, rfl⟩
      rw [← hmb]
      refine own_go (T' := Tj2) (f' := (mkF m 56 #[.val (.ref a0), .val (.int p1), .val (.int p2), .val (.int p3), .val (.int p4), .val (.long q5), .second, .val (.int p6), .val (.int ii)] [(.int p6), (.long mb), (.int p2), (.ref a0)])) (fun t kt => ?_) ?_
      · show Steps p.tables e below (Tj2.setTop (mkF m 54 #[.val (.ref a0), .val (.int p1), .val (.int p2), .val (.int p3), .val (.int p4), .val (.long q5), .second, .val (.int p6), .val (.int ii)] [(.long mb), (.int p2), (.ref a0)])) t
        refine XS.iload Xj2.here hx rfl (hb hby d7_54) rfl ?_
        show Steps p.tables e below (Tj2.setTop (mkF m 56 #[.val (.ref a0), .val (.int p1), .val (.int p2), .val (.int p3), .val (.int p4), .val (.long q5), .second, .val (.int p6), .val (.int ii)] [(.int p6), (.long mb), (.int p2), (.ref a0)])) t
        exact kt
      refine own_callP Xj2 hx hZ hown ej2 (hw _ (List.mem_of_getElem? (i := 26) rfl)) (hw _ (List.mem_of_getElem? (i := 27) rfl)) (own_selP (mvT hZ (hw _ (List.mem_of_getElem? (i := 23) rfl))) rfl (Cond.privateMethod_at (mvP hZ (hw _ (List.mem_of_getElem? (i := 28) rfl)) (args := #[]))) (mvT hZ (hw _ (List.mem_of_getElem? (i := 27) rfl))) (by decide)) (hw _ (List.mem_of_getElem? (i := 28) rfl)) (hw _ (List.mem_of_getElem? (i := 4) rfl)) (hw _ (List.mem_of_getElem? (i := 29) rfl)) (by decide) (rm5 l Z aw hw a0 p2 mb p6 w0 N fj WL hj2 n0 Zj2 fj2_1 fj2_2 g_w0 (ne_a0_w0) hL hLN hon) fj2_0 (g := (mkF m 56 #[.val (.ref a0), .val (.int p1), .val (.int p2), .val (.int p3), .val (.int p4), .val (.long q5), .second, .val (.int p6), .val (.int ii)] [(.int p6), (.long mb), (.int p2), (.ref a0)])) rfl (by rw [hml]; rfl) (argsL := [(.int p2), (.long mb), (.int p6)]) (rest := []) (lenOf pd_1 rfl) rfl rfl (W := 0) (by show 2 * 0 + _ ≤ _; exact Nat.le_of_eq rfl) (hb hby d7_56) (by decide) (by decide) (by decide) (by decide) ?_
      rintro _ T5 L5 X5 ⟨rfl, Nq5, Kq5, Pq5_0⟩
      have N5 := Fr.app Nj2 Nq5
      replace fj2_0 := (fj2_0.keep Kq5)
      replace fj2_1 := (fj2_1.keep Kq5 (ninS (ne_a0_w0) nin0))
      have ZKq5 : n0 ≤ T5.heap.size := Nat.le_trans Zj2 Kq5.1
      have KKKq5 := Kj2.trans Kq5 ((allS (Or.inl (by simp)) all0))
      obtain ⟨f3, hf3⟩ : ∃ z, z = (own_set fj WL (fj WL ||| mb)) := ⟨_, rfl⟩
      rw [← hf3] at Pq5_0
      exact own_retV X5 hP hx hlk rfl hret (hb hby d7_59) (by decide) (by decide) ⟨rfl, N5, KKKq5, ⟨_, Pq5_0, by rw [hf3]; exact own_lst (by have e : kk = WL := (by have := mt (own_ltn hii hL).mpr hc23_3; omega); rw [← e]; exact hpt) hFL ht h1t hmb⟩⟩
  exact J20 (WL - (WF + 1)) T1 _ T1.heap f1 (p1 + (1 : Int32)) (WF + 1) X1 N1 rfl ZKq1 KKKq1 E_a0 F_a0_words Pq1_0 (own_inc hF (by omega)) (by omega) (by omega) (by rw [hf1]; exact own_fst rfl (own_m64 hf) hma) rfl
theorem pd_2 : parseMethodDescriptor "(IIIIJZ)V" = some ⟨[.int, .int, .int, .int, .long, .boolean], none⟩ := by decide +kernel
theorem d4_0 : decode prog_3_method_8_code 0 = .ok (.iload_n 1, 1) := by decide +kernel
theorem d4_1 : decode prog_3_method_8_code 1 = .ok (.aload_n 0, 1) := by decide +kernel
theorem d4_2 : decode prog_3_method_8_code 2 = .ok (.getfield 11, 3) := by decide +kernel
theorem d4_5 : decode prog_3_method_8_code 5 = .ok (.imul, 1) := by decide +kernel
theorem d4_6 : decode prog_3_method_8_code 6 = .ok (.iload_n 2, 1) := by decide +kernel
theorem d4_7 : decode prog_3_method_8_code 7 = .ok (.bipush 6, 2) := by decide +kernel
theorem d4_9 : decode prog_3_method_8_code 9 = .ok (.iushr, 1) := by decide +kernel
theorem d4_10 : decode prog_3_method_8_code 10 = .ok (.iadd, 1) := by decide +kernel
theorem d4_11 : decode prog_3_method_8_code 11 = .ok (.istore 7, 2) := by decide +kernel
theorem d4_13 : decode prog_3_method_8_code 13 = .ok (.iload_n 1, 1) := by decide +kernel
theorem d4_14 : decode prog_3_method_8_code 14 = .ok (.aload_n 0, 1) := by decide +kernel
theorem d4_15 : decode prog_3_method_8_code 15 = .ok (.getfield 11, 3) := by decide +kernel
theorem d4_18 : decode prog_3_method_8_code 18 = .ok (.imul, 1) := by decide +kernel
theorem d4_19 : decode prog_3_method_8_code 19 = .ok (.iload_n 3, 1) := by decide +kernel
theorem d4_20 : decode prog_3_method_8_code 20 = .ok (.iconst 1, 1) := by decide +kernel
theorem d4_21 : decode prog_3_method_8_code 21 = .ok (.isub, 1) := by decide +kernel
theorem d4_22 : decode prog_3_method_8_code 22 = .ok (.bipush 6, 2) := by decide +kernel
theorem d4_24 : decode prog_3_method_8_code 24 = .ok (.iushr, 1) := by decide +kernel
theorem d4_25 : decode prog_3_method_8_code 25 = .ok (.iadd, 1) := by decide +kernel
theorem d4_26 : decode prog_3_method_8_code 26 = .ok (.istore 8, 2) := by decide +kernel
theorem d4_28 : decode prog_3_method_8_code 28 = .ok (.iload 7, 2) := by decide +kernel
theorem d4_30 : decode prog_3_method_8_code 30 = .ok (.iload 8, 2) := by decide +kernel
theorem d4_32 : decode prog_3_method_8_code 32 = .ok (.if_icmp .ne 29, 3) := by decide +kernel
theorem d4_35 : decode prog_3_method_8_code 35 = .ok (.aload_n 0, 1) := by decide +kernel
theorem d4_36 : decode prog_3_method_8_code 36 = .ok (.iload 7, 2) := by decide +kernel
theorem d4_38 : decode prog_3_method_8_code 38 = .ok (.lload 4, 2) := by decide +kernel
theorem d4_40 : decode prog_3_method_8_code 40 = .ok (.ldc2_w 25, 3) := by decide +kernel
theorem d4_43 : decode prog_3_method_8_code 43 = .ok (.iload_n 2, 1) := by decide +kernel
theorem d4_44 : decode prog_3_method_8_code 44 = .ok (.lshl, 1) := by decide +kernel
theorem d4_45 : decode prog_3_method_8_code 45 = .ok (.land, 1) := by decide +kernel
theorem d4_46 : decode prog_3_method_8_code 46 = .ok (.ldc2_w 25, 3) := by decide +kernel
theorem d4_49 : decode prog_3_method_8_code 49 = .ok (.iload_n 3, 1) := by decide +kernel
theorem d4_50 : decode prog_3_method_8_code 50 = .ok (.ineg, 1) := by decide +kernel
theorem d4_51 : decode prog_3_method_8_code 51 = .ok (.lushr, 1) := by decide +kernel
theorem d4_52 : decode prog_3_method_8_code 52 = .ok (.land, 1) := by decide +kernel
theorem d4_53 : decode prog_3_method_8_code 53 = .ok (.iload 6, 2) := by decide +kernel
theorem d4_55 : decode prog_3_method_8_code 55 = .ok (.invokevirtual 44, 3) := by decide +kernel
theorem d4_58 : decode prog_3_method_8_code 58 = .ok (.goto 17, 3) := by decide +kernel
theorem d4_61 : decode prog_3_method_8_code 61 = .ok (.aload_n 0, 1) := by decide +kernel
theorem d4_62 : decode prog_3_method_8_code 62 = .ok (.iload 7, 2) := by decide +kernel
theorem d4_64 : decode prog_3_method_8_code 64 = .ok (.iload 8, 2) := by decide +kernel
theorem d4_66 : decode prog_3_method_8_code 66 = .ok (.iload_n 2, 1) := by decide +kernel
theorem d4_67 : decode prog_3_method_8_code 67 = .ok (.iload_n 3, 1) := by decide +kernel
theorem d4_68 : decode prog_3_method_8_code 68 = .ok (.lload 4, 2) := by decide +kernel
theorem d4_70 : decode prog_3_method_8_code 70 = .ok (.iload 6, 2) := by decide +kernel
theorem d4_72 : decode prog_3_method_8_code 72 = .ok (.invokevirtual 48, 3) := by decide +kernel
theorem d4_75 : decode prog_3_method_8_code 75 = .ok (.return_, 1) := by decide +kernel
set_option maxRecDepth 65536 in
set_option maxHeartbeats 4000000 in
theorem ef_4 (m : MethodId) (a0 : Addr) (p1 : Int32) (p2 : Int32) (p3 : Int32) (q4 : Int64) (p5 : Int32) : entryFrame m #[(.ref a0), (.int p1), (.int p2), (.int p3), (.long q4), (.int p5)] 9 = mkF m 0 #[.val (.ref a0), .val (.int p1), .val (.int p2), .val (.int p3), .val (.long q4), .second, .val (.int p5), .unset, .unset] [] := by first | (simp [entryFrame, mkF, argsToLocals, Value.category]; done) | rfl
set_option maxRecDepth 65536 in
set_option maxHeartbeats 40000000 in
theorem rm4 (l : Launch) (Z : State) (aw : Array Value) (hw : ∀ d ∈ tables_1, d.before aw Z = true) {ws : List Jvm.Cond} (a0 : Addr) (p1 : Int32) (p2 : Int32) (p3 : Int32) (q4 : Int64) (p5 : Int32) (w0 : Addr) (wv : Int32) (N : Nat) (ll : Nat) (W : Nat) (fr : Nat) (t : Nat) (h0 : Heap) (n0 : Nat) (Z0 : n0 ≤ h0.size) (E_a0 : Exa Z h0 a0 "com/example/humble_grid/humblegrid/BitLines") (F_a0_wordsPerLine : Fld Z h0 a0 "com/example/humble_grid/humblegrid/BitLines" "wordsPerLine" "I" (.int wv)) (F_a0_words : Fld Z h0 a0 "com/example/humble_grid/humblegrid/BitLines" "words" "[J" (.ref w0)) (Ar_w0 : own_AJ Z h0 w0 N (fun _ => (0 : Int64))) (g_w0 : n0 ≤ w0) (ne_a0_w0 : a0 ≠ w0) (hl : p1.toInt = (ll : Int)) (hlb : ll ≤ 4) (hW : wv.toInt = (W : Int)) (hWb : W ≤ 4) (hf : p2.toInt = (fr : Int)) (ht : p3.toInt = (t : Int)) (hft : fr < t) (h256 : t ≤ 256) (hLN : ll * W + (t - 1) / 64 < N) (hN : N ≤ 16) (hon : ¬ p5 = (0 : Int32)) :
    own_Met l Z (⟨"com/example/humble_grid/humblegrid/BitLines", "set", "(IIIJZ)V"⟩ : MethodName) prog_3_method_8_code 9 none ws ({ frames := 2, cells := 0, slots := 0, locals := 36 } : Room) #[(.ref a0), (.int p1), (.int p2), (.int p3), (.long q4), (.int p5)] h0 (fun v h L => v = none ∧ Fr n0 L ∧ Keep h0 h [w0] ∧ ∃ f', own_AJ Z h w0 N f' ∧ own_lines f' (ll * W + fr / 64) (ll * W + (t - 1) / 64) (fr % 64) ((t - 1) % 64) q4) := by
  refine own_body (plainFor_of_name pn_0) ?_
  intro p e s m below meth c s₁ hx hZ hby hml hown hnm hret hlk X0 e0
  replace hown : s.vm.findClass "com/example/humble_grid/humblegrid/BitLines" = some m.cls := hown
  replace hml : c.maxLocals = 9 := hml
  have N0 := Fr.nil n0
  have K0 := Keep.refl h0 [w0]
  obtain ⟨P, hP⟩ : ∃ P, P = own_P below s (fun v h L => v = none ∧ Fr n0 L ∧ Keep h0 h [w0] ∧ ∃ f', own_AJ Z h w0 N f' ∧ own_lines f' (ll * W + fr / 64) (ll * W + (t - 1) / 64) (fr % 64) ((t - 1) % 64) q4) ({ frames := 2, cells := 0, slots := 0, locals := 36 } : Room).cells ({ frames := 2, cells := 0, slots := 0, locals := 36 } : Room).slots := ⟨_, rfl⟩
  rw [← hP]
  refine own_cast (ef_4 m a0 p1 p2 p3 q4 p5) ?_
  refine own_go (T' := s₁) (f' := (mkF m 2 #[.val (.ref a0), .val (.int p1), .val (.int p2), .val (.int p3), .val (.long q4), .second, .val (.int p5), .unset, .unset] [(.ref a0), (.int p1)])) (fun t kt => ?_) ?_
  · show Steps p.tables e below (s₁.setTop (mkF m 0 #[.val (.ref a0), .val (.int p1), .val (.int p2), .val (.int p3), .val (.long q4), .second, .val (.int p5), .unset, .unset] [])) t
    refine XS.iloadN X0.here hx rfl (hb hby d4_0) rfl ?_
    show Steps p.tables e below (s₁.setTop (mkF m 1 #[.val (.ref a0), .val (.int p1), .val (.int p2), .val (.int p3), .val (.long q4), .second, .val (.int p5), .unset, .unset] [(.int p1)])) t
    refine XS.aloadN X0.here hx rfl (hb hby d4_1) rfl rfl ?_
    show Steps p.tables e below (s₁.setTop (mkF m 2 #[.val (.ref a0), .val (.int p1), .val (.int p2), .val (.int p3), .val (.long q4), .second, .val (.int p5), .unset, .unset] [(.ref a0), (.int p1)])) t
    exact kt
  obtain ⟨T1, X1, e1, st1⟩ := getF X0 hx hZ hown (host := "") (Or.inl (hw _ (List.mem_of_getElem? (i := 11) rfl))) Via.refl e0 F_a0_wordsPerLine (g := (mkF m 2 #[.val (.ref a0), .val (.int p1), .val (.int p2), .val (.int p3), .val (.long q4), .second, .val (.int p5), .unset, .unset] [(.ref a0), (.int p1)])) rfl rfl (hb hby d4_2)
  refine own_go st1 ?_
  refine own_go (T' := T1) (f' := (mkF m 11 #[.val (.ref a0), .val (.int p1), .val (.int p2), .val (.int p3), .val (.long q4), .second, .val (.int p5), .unset, .unset] [(.int ((p1 * wv) + ((p2.toUInt32 >>> ((6 : Int32) &&& 31).toUInt32).toInt32)))])) (fun t kt => ?_) ?_
  · show Steps p.tables e below (T1.setTop (mkF m 5 #[.val (.ref a0), .val (.int p1), .val (.int p2), .val (.int p3), .val (.long q4), .second, .val (.int p5), .unset, .unset] [(.int wv), (.int p1)])) t
    refine XS.imul X1.here hx rfl (hb hby d4_5) rfl ?_
    show Steps p.tables e below (T1.setTop (mkF m 6 #[.val (.ref a0), .val (.int p1), .val (.int p2), .val (.int p3), .val (.long q4), .second, .val (.int p5), .unset, .unset] [(.int (p1 * wv))])) t
    refine XS.iloadN X1.here hx rfl (hb hby d4_6) rfl ?_
    show Steps p.tables e below (T1.setTop (mkF m 7 #[.val (.ref a0), .val (.int p1), .val (.int p2), .val (.int p3), .val (.long q4), .second, .val (.int p5), .unset, .unset] [(.int p2), (.int (p1 * wv))])) t
    refine XS.bipush X1.here hx rfl (hb hby d4_7) ?_
    show Steps p.tables e below (T1.setTop (mkF m 9 #[.val (.ref a0), .val (.int p1), .val (.int p2), .val (.int p3), .val (.long q4), .second, .val (.int p5), .unset, .unset] [(.int (6 : Int32)), (.int p2), (.int (p1 * wv))])) t
    refine XS.iushr X1.here hx rfl (hb hby d4_9) rfl ?_
    show Steps p.tables e below (T1.setTop (mkF m 10 #[.val (.ref a0), .val (.int p1), .val (.int p2), .val (.int p3), .val (.long q4), .second, .val (.int p5), .unset, .unset] [(.int ((p2.toUInt32 >>> ((6 : Int32) &&& 31).toUInt32).toInt32)), (.int (p1 * wv))])) t
    refine XS.iadd X1.here hx rfl (hb hby d4_10) rfl ?_
    show Steps p.tables e below (T1.setTop (mkF m 11 #[.val (.ref a0), .val (.int p1), .val (.int p2), .val (.int p3), .val (.long q4), .second, .val (.int p5), .unset, .unset] [(.int ((p1 * wv) + ((p2.toUInt32 >>> ((6 : Int32) &&& 31).toUInt32).toInt32)))])) t
    exact kt
  obtain ⟨fi, hfi⟩ : ∃ z, z = ((p1 * wv) + ((p2.toUInt32 >>> ((6 : Int32) &&& 31).toUInt32).toInt32)) := ⟨_, rfl⟩
  rw [← hfi]
  refine own_go (T' := T1) (f' := (mkF m 15 #[.val (.ref a0), .val (.int p1), .val (.int p2), .val (.int p3), .val (.long q4), .second, .val (.int p5), .val (.int fi), .unset] [(.ref a0), (.int p1)])) (fun t kt => ?_) ?_
  · show Steps p.tables e below (T1.setTop (mkF m 11 #[.val (.ref a0), .val (.int p1), .val (.int p2), .val (.int p3), .val (.long q4), .second, .val (.int p5), .unset, .unset] [(.int fi)])) t
    refine XS.istore X1.here hx rfl (hb hby d4_11) rfl (l' := #[.val (.ref a0), .val (.int p1), .val (.int p2), .val (.int p3), .val (.long q4), .second, .val (.int p5), .val (.int fi), .unset]) rfl ?_
    show Steps p.tables e below (T1.setTop (mkF m 13 #[.val (.ref a0), .val (.int p1), .val (.int p2), .val (.int p3), .val (.long q4), .second, .val (.int p5), .val (.int fi), .unset] [])) t
    refine XS.iloadN X1.here hx rfl (hb hby d4_13) rfl ?_
    show Steps p.tables e below (T1.setTop (mkF m 14 #[.val (.ref a0), .val (.int p1), .val (.int p2), .val (.int p3), .val (.long q4), .second, .val (.int p5), .val (.int fi), .unset] [(.int p1)])) t
    refine XS.aloadN X1.here hx rfl (hb hby d4_14) rfl rfl ?_
    show Steps p.tables e below (T1.setTop (mkF m 15 #[.val (.ref a0), .val (.int p1), .val (.int p2), .val (.int p3), .val (.long q4), .second, .val (.int p5), .val (.int fi), .unset] [(.ref a0), (.int p1)])) t
    exact kt
  obtain ⟨T2, X2, e2, st2⟩ := getF X1 hx hZ hown (host := "") (Or.inl (hw _ (List.mem_of_getElem? (i := 11) rfl))) Via.refl e1 F_a0_wordsPerLine (g := (mkF m 15 #[.val (.ref a0), .val (.int p1), .val (.int p2), .val (.int p3), .val (.long q4), .second, .val (.int p5), .val (.int fi), .unset] [(.ref a0), (.int p1)])) rfl rfl (hb hby d4_15)
  refine own_go st2 ?_
  refine own_go (T' := T2) (f' := (mkF m 26 #[.val (.ref a0), .val (.int p1), .val (.int p2), .val (.int p3), .val (.long q4), .second, .val (.int p5), .val (.int fi), .unset] [(.int ((p1 * wv) + (((p3 - (1 : Int32)).toUInt32 >>> ((6 : Int32) &&& 31).toUInt32).toInt32)))])) (fun t kt => ?_) ?_
  · show Steps p.tables e below (T2.setTop (mkF m 18 #[.val (.ref a0), .val (.int p1), .val (.int p2), .val (.int p3), .val (.long q4), .second, .val (.int p5), .val (.int fi), .unset] [(.int wv), (.int p1)])) t
    refine XS.imul X2.here hx rfl (hb hby d4_18) rfl ?_
    show Steps p.tables e below (T2.setTop (mkF m 19 #[.val (.ref a0), .val (.int p1), .val (.int p2), .val (.int p3), .val (.long q4), .second, .val (.int p5), .val (.int fi), .unset] [(.int (p1 * wv))])) t
    refine XS.iloadN X2.here hx rfl (hb hby d4_19) rfl ?_
    show Steps p.tables e below (T2.setTop (mkF m 20 #[.val (.ref a0), .val (.int p1), .val (.int p2), .val (.int p3), .val (.long q4), .second, .val (.int p5), .val (.int fi), .unset] [(.int p3), (.int (p1 * wv))])) t
    refine XS.iconst X2.here hx rfl (hb hby d4_20) ?_
    show Steps p.tables e below (T2.setTop (mkF m 21 #[.val (.ref a0), .val (.int p1), .val (.int p2), .val (.int p3), .val (.long q4), .second, .val (.int p5), .val (.int fi), .unset] [(.int (1 : Int32)), (.int p3), (.int (p1 * wv))])) t
    refine XS.isub X2.here hx rfl (hb hby d4_21) rfl ?_
    show Steps p.tables e below (T2.setTop (mkF m 22 #[.val (.ref a0), .val (.int p1), .val (.int p2), .val (.int p3), .val (.long q4), .second, .val (.int p5), .val (.int fi), .unset] [(.int (p3 - (1 : Int32))), (.int (p1 * wv))])) t
    refine XS.bipush X2.here hx rfl (hb hby d4_22) ?_
    show Steps p.tables e below (T2.setTop (mkF m 24 #[.val (.ref a0), .val (.int p1), .val (.int p2), .val (.int p3), .val (.long q4), .second, .val (.int p5), .val (.int fi), .unset] [(.int (6 : Int32)), (.int (p3 - (1 : Int32))), (.int (p1 * wv))])) t
    refine XS.iushr X2.here hx rfl (hb hby d4_24) rfl ?_
    show Steps p.tables e below (T2.setTop (mkF m 25 #[.val (.ref a0), .val (.int p1), .val (.int p2), .val (.int p3), .val (.long q4), .second, .val (.int p5), .val (.int fi), .unset] [(.int (((p3 - (1 : Int32)).toUInt32 >>> ((6 : Int32) &&& 31).toUInt32).toInt32)), (.int (p1 * wv))])) t
    refine XS.iadd X2.here hx rfl (hb hby d4_25) rfl ?_
    show Steps p.tables e below (T2.setTop (mkF m 26 #[.val (.ref a0), .val (.int p1), .val (.int p2), .val (.int p3), .val (.long q4), .second, .val (.int p5), .val (.int fi), .unset] [(.int ((p1 * wv) + (((p3 - (1 : Int32)).toUInt32 >>> ((6 : Int32) &&& 31).toUInt32).toInt32)))])) t
    exact kt
  obtain ⟨la, hla⟩ : ∃ z, z = ((p1 * wv) + (((p3 - (1 : Int32)).toUInt32 >>> ((6 : Int32) &&& 31).toUInt32).toInt32)) := ⟨_, rfl⟩
  rw [← hla]
  refine own_go (T' := T2) (f' := (mkF m 32 #[.val (.ref a0), .val (.int p1), .val (.int p2), .val (.int p3), .val (.long q4), .second, .val (.int p5), .val (.int fi), .val (.int la)] [(.int la), (.int fi)])) (fun t kt => ?_) ?_
  · show Steps p.tables e below (T2.setTop (mkF m 26 #[.val (.ref a0), .val (.int p1), .val (.int p2), .val (.int p3), .val (.long q4), .second, .val (.int p5), .val (.int fi), .unset] [(.int la)])) t
    refine XS.istore X2.here hx rfl (hb hby d4_26) rfl (l' := #[.val (.ref a0), .val (.int p1), .val (.int p2), .val (.int p3), .val (.long q4), .second, .val (.int p5), .val (.int fi), .val (.int la)]) rfl ?_
    show Steps p.tables e below (T2.setTop (mkF m 28 #[.val (.ref a0), .val (.int p1), .val (.int p2), .val (.int p3), .val (.long q4), .second, .val (.int p5), .val (.int fi), .val (.int la)] [])) t
    refine XS.iload X2.here hx rfl (hb hby d4_28) rfl ?_
    show Steps p.tables e below (T2.setTop (mkF m 30 #[.val (.ref a0), .val (.int p1), .val (.int p2), .val (.int p3), .val (.long q4), .second, .val (.int p5), .val (.int fi), .val (.int la)] [(.int fi)])) t
    refine XS.iload X2.here hx rfl (hb hby d4_30) rfl ?_
    show Steps p.tables e below (T2.setTop (mkF m 32 #[.val (.ref a0), .val (.int p1), .val (.int p2), .val (.int p3), .val (.long q4), .second, .val (.int p5), .val (.int fi), .val (.int la)] [(.int la), (.int fi)])) t
    exact kt
  by_cases hc32_3 : fi = la
  · refine own_go (T' := T2) (f' := (mkF m 53 #[.val (.ref a0), .val (.int p1), .val (.int p2), .val (.int p3), .val (.long q4), .second, .val (.int p5), .val (.int fi), .val (.int la)] [(.long ((q4 &&& ((-1 : Int64) <<< (p2 &&& 0x3f).toInt64)) &&& (((-1 : Int64).toUInt64 >>> ((-p3) &&& 0x3f).toInt64.toUInt64).toInt64))), (.int fi), (.ref a0)])) (fun t kt => ?_) ?_
    · show Steps p.tables e below (T2.setTop (mkF m 32 #[.val (.ref a0), .val (.int p1), .val (.int p2), .val (.int p3), .val (.long q4), .second, .val (.int p5), .val (.int fi), .val (.int la)] [(.int la), (.int fi)])) t
      refine XS.icmpNo X2.here hx rfl (hb hby d4_32) rfl (teq hc32_3).2 ?_
      show Steps p.tables e below (T2.setTop (mkF m 35 #[.val (.ref a0), .val (.int p1), .val (.int p2), .val (.int p3), .val (.long q4), .second, .val (.int p5), .val (.int fi), .val (.int la)] [])) t
      refine XS.aloadN X2.here hx rfl (hb hby d4_35) rfl rfl ?_
      show Steps p.tables e below (T2.setTop (mkF m 36 #[.val (.ref a0), .val (.int p1), .val (.int p2), .val (.int p3), .val (.long q4), .second, .val (.int p5), .val (.int fi), .val (.int la)] [(.ref a0)])) t
      refine XS.iload X2.here hx rfl (hb hby d4_36) rfl ?_
      show Steps p.tables e below (T2.setTop (mkF m 38 #[.val (.ref a0), .val (.int p1), .val (.int p2), .val (.int p3), .val (.long q4), .second, .val (.int p5), .val (.int fi), .val (.int la)] [(.int fi), (.ref a0)])) t
      refine XS.lload X2.here hx rfl (hb hby d4_38) rfl ?_
      show Steps p.tables e below (T2.setTop (mkF m 40 #[.val (.ref a0), .val (.int p1), .val (.int p2), .val (.int p3), .val (.long q4), .second, .val (.int p5), .val (.int fi), .val (.int la)] [(.long q4), (.int fi), (.ref a0)])) t
      refine X2.ldc2Long hx hown (mvT hZ (hw _ (List.mem_of_getElem? (i := 25) rfl))) (g := (mkF m 40 #[.val (.ref a0), .val (.int p1), .val (.int p2), .val (.int p3), .val (.long q4), .second, .val (.int p5), .val (.int fi), .val (.int la)] [(.long q4), (.int fi), (.ref a0)])) rfl (hb hby d4_40) _ ?_
      show Steps p.tables e below (T2.setTop (mkF m 43 #[.val (.ref a0), .val (.int p1), .val (.int p2), .val (.int p3), .val (.long q4), .second, .val (.int p5), .val (.int fi), .val (.int la)] [(.long (-1 : Int64)), (.long q4), (.int fi), (.ref a0)])) t
      refine XS.iloadN X2.here hx rfl (hb hby d4_43) rfl ?_
      show Steps p.tables e below (T2.setTop (mkF m 44 #[.val (.ref a0), .val (.int p1), .val (.int p2), .val (.int p3), .val (.long q4), .second, .val (.int p5), .val (.int fi), .val (.int la)] [(.int p2), (.long (-1 : Int64)), (.long q4), (.int fi), (.ref a0)])) t
      refine XS.lshl X2.here hx rfl (hb hby d4_44) rfl ?_
      show Steps p.tables e below (T2.setTop (mkF m 45 #[.val (.ref a0), .val (.int p1), .val (.int p2), .val (.int p3), .val (.long q4), .second, .val (.int p5), .val (.int fi), .val (.int la)] [(.long ((-1 : Int64) <<< (p2 &&& 0x3f).toInt64)), (.long q4), (.int fi), (.ref a0)])) t
      refine XS.land X2.here hx rfl (hb hby d4_45) rfl ?_
      show Steps p.tables e below (T2.setTop (mkF m 46 #[.val (.ref a0), .val (.int p1), .val (.int p2), .val (.int p3), .val (.long q4), .second, .val (.int p5), .val (.int fi), .val (.int la)] [(.long (q4 &&& ((-1 : Int64) <<< (p2 &&& 0x3f).toInt64))), (.int fi), (.ref a0)])) t
      refine X2.ldc2Long hx hown (mvT hZ (hw _ (List.mem_of_getElem? (i := 25) rfl))) (g := (mkF m 46 #[.val (.ref a0), .val (.int p1), .val (.int p2), .val (.int p3), .val (.long q4), .second, .val (.int p5), .val (.int fi), .val (.int la)] [(.long (q4 &&& ((-1 : Int64) <<< (p2 &&& 0x3f).toInt64))), (.int fi), (.ref a0)])) rfl (hb hby d4_46) _ ?_
      show Steps p.tables e below (T2.setTop (mkF m 49 #[.val (.ref a0), .val (.int p1), .val (.int p2), .val (.int p3), .val (.long q4), .second, .val (.int p5), .val (.int fi), .val (.int la)] [(.long (-1 : Int64)), (.long (q4 &&& ((-1 : Int64) <<< (p2 &&& 0x3f).toInt64))), (.int fi), (.ref a0)])) t
      refine XS.iloadN X2.here hx rfl (hb hby d4_49) rfl ?_
      show Steps p.tables e below (T2.setTop (mkF m 50 #[.val (.ref a0), .val (.int p1), .val (.int p2), .val (.int p3), .val (.long q4), .second, .val (.int p5), .val (.int fi), .val (.int la)] [(.int p3), (.long (-1 : Int64)), (.long (q4 &&& ((-1 : Int64) <<< (p2 &&& 0x3f).toInt64))), (.int fi), (.ref a0)])) t
      refine XS.ineg X2.here hx rfl (hb hby d4_50) rfl ?_
      show Steps p.tables e below (T2.setTop (mkF m 51 #[.val (.ref a0), .val (.int p1), .val (.int p2), .val (.int p3), .val (.long q4), .second, .val (.int p5), .val (.int fi), .val (.int la)] [(.int (-p3)), (.long (-1 : Int64)), (.long (q4 &&& ((-1 : Int64) <<< (p2 &&& 0x3f).toInt64))), (.int fi), (.ref a0)])) t
      refine XS.lushr X2.here hx rfl (hb hby d4_51) rfl ?_
      show Steps p.tables e below (T2.setTop (mkF m 52 #[.val (.ref a0), .val (.int p1), .val (.int p2), .val (.int p3), .val (.long q4), .second, .val (.int p5), .val (.int fi), .val (.int la)] [(.long (((-1 : Int64).toUInt64 >>> ((-p3) &&& 0x3f).toInt64.toUInt64).toInt64)), (.long (q4 &&& ((-1 : Int64) <<< (p2 &&& 0x3f).toInt64))), (.int fi), (.ref a0)])) t
      refine XS.land X2.here hx rfl (hb hby d4_52) rfl ?_
      show Steps p.tables e below (T2.setTop (mkF m 53 #[.val (.ref a0), .val (.int p1), .val (.int p2), .val (.int p3), .val (.long q4), .second, .val (.int p5), .val (.int fi), .val (.int la)] [(.long ((q4 &&& ((-1 : Int64) <<< (p2 &&& 0x3f).toInt64)) &&& (((-1 : Int64).toUInt64 >>> ((-p3) &&& 0x3f).toInt64.toUInt64).toInt64))), (.int fi), (.ref a0)])) t
      exact kt
    obtain ⟨msk, hmsk⟩ : ∃ z, z = ((q4 &&& ((-1 : Int64) <<< (p2 &&& 0x3f).toInt64)) &&& (((-1 : Int64).toUInt64 >>> ((-p3) &&& 0x3f).toInt64.toUInt64).toInt64)) := ⟨_, rfl⟩
    rw [← hmsk]
    refine own_go (T' := T2) (f' := (mkF m 55 #[.val (.ref a0), .val (.int p1), .val (.int p2), .val (.int p3), .val (.long q4), .second, .val (.int p5), .val (.int fi), .val (.int la)] [(.int p5), (.long msk), (.int fi), (.ref a0)])) (fun t kt => ?_) ?_
    · show Steps p.tables e below (T2.setTop (mkF m 53 #[.val (.ref a0), .val (.int p1), .val (.int p2), .val (.int p3), .val (.long q4), .second, .val (.int p5), .val (.int fi), .val (.int la)] [(.long msk), (.int fi), (.ref a0)])) t
      refine XS.iload X2.here hx rfl (hb hby d4_53) rfl ?_
      show Steps p.tables e below (T2.setTop (mkF m 55 #[.val (.ref a0), .val (.int p1), .val (.int p2), .val (.int p3), .val (.long q4), .second, .val (.int p5), .val (.int fi), .val (.int la)] [(.int p5), (.long msk), (.int fi), (.ref a0)])) t
      exact kt
    refine own_callP X2 hx hZ hown e2 (hw _ (List.mem_of_getElem? (i := 26) rfl)) (hw _ (List.mem_of_getElem? (i := 27) rfl)) (own_selP (mvT hZ (hw _ (List.mem_of_getElem? (i := 23) rfl))) rfl (Cond.privateMethod_at (mvP hZ (hw _ (List.mem_of_getElem? (i := 28) rfl)) (args := #[]))) (mvT hZ (hw _ (List.mem_of_getElem? (i := 27) rfl))) (by decide)) (hw _ (List.mem_of_getElem? (i := 28) rfl)) (hw _ (List.mem_of_getElem? (i := 4) rfl)) (hw _ (List.mem_of_getElem? (i := 29) rfl)) (by decide) (rm5 l Z aw hw a0 fi msk p5 w0 N (fun _ => (0 : Int64)) (ll * W + fr / 64) h0 n0 Z0 F_a0_words Ar_w0 g_w0 (ne_a0_w0) (own_eqF hl hlb hW hWb hf ht hft h256 hfi hla).1 (by have e := (Nat.div_le_div_right (c := 64) (show fr ≤ t - 1 by omega)); omega) hon) E_a0 (g := (mkF m 55 #[.val (.ref a0), .val (.int p1), .val (.int p2), .val (.int p3), .val (.long q4), .second, .val (.int p5), .val (.int fi), .val (.int la)] [(.int p5), (.long msk), (.int fi), (.ref a0)])) rfl (by rw [hml]; rfl) (argsL := [(.int fi), (.long msk), (.int p5)]) (rest := []) (lenOf pd_1 rfl) rfl rfl (W := 0) (by show 2 * 0 + _ ≤ _; exact Nat.le_of_eq rfl) (hb hby d4_55) (by decide) (by decide) (by decide) (by decide) ?_
    rintro _ T4 L4 X4 ⟨rfl, Nq4, Kq4, Pq4_0⟩
    have N4 := Fr.app N0 Nq4
    replace E_a0 := (E_a0.keep Kq4)
    replace F_a0_wordsPerLine := (F_a0_wordsPerLine.keep Kq4 (ninS (ne_a0_w0) nin0))
    replace F_a0_words := (F_a0_words.keep Kq4 (ninS (ne_a0_w0) nin0))
    have ZKq4 : n0 ≤ T4.heap.size := Nat.le_trans Z0 Kq4.1
    have KKKq4 := K0.trans Kq4 ((allS (Or.inl (by simp)) all0))
    obtain ⟨f1, hf1⟩ : ∃ z, z = (own_set (fun _ => (0 : Int64)) (ll * W + fr / 64) ((fun _ => (0 : Int64)) (ll * W + fr / 64) ||| msk)) := ⟨_, rfl⟩
    rw [← hf1] at Pq4_0
    refine own_go (T' := T4) (f' := (mkF m 75 #[.val (.ref a0), .val (.int p1), .val (.int p2), .val (.int p3), .val (.long q4), .second, .val (.int p5), .val (.int fi), .val (.int la)] [])) (fun t kt => ?_) ?_
    · show Steps p.tables e below (T4.setTop (mkF m 58 #[.val (.ref a0), .val (.int p1), .val (.int p2), .val (.int p3), .val (.long q4), .second, .val (.int p5), .val (.int fi), .val (.int la)] [])) t
      refine XS.goto X4.here hx rfl (pc0 := 58) (pc' := 75) rfl (hb hby d4_58) (by decide) (by decide) ?_
      show Steps p.tables e below (T4.setTop (mkF m 75 #[.val (.ref a0), .val (.int p1), .val (.int p2), .val (.int p3), .val (.long q4), .second, .val (.int p5), .val (.int fi), .val (.int la)] [])) t
      exact kt
    exact own_retV X4 hP hx hlk rfl hret (hb hby d4_75) (by decide) (by decide) ⟨rfl, N4, KKKq4, ⟨_, Pq4_0, by have e := (own_eqF hl hlb hW hWb hf ht hft h256 hfi hla); rw [hc32_3] at e; have e2 : ll * W + (t - 1) / 64 = ll * W + fr / 64 := (by omega); rw [hf1, e2]; exact own_one rfl (own_m64 hf) ht (by omega) hmsk⟩⟩
  · refine own_go (T' := T2) (f' := (mkF m 72 #[.val (.ref a0), .val (.int p1), .val (.int p2), .val (.int p3), .val (.long q4), .second, .val (.int p5), .val (.int fi), .val (.int la)] [(.int p5), (.long q4), (.int p3), (.int p2), (.int la), (.int fi), (.ref a0)])) (fun t kt => ?_) ?_
    · show Steps p.tables e below (T2.setTop (mkF m 32 #[.val (.ref a0), .val (.int p1), .val (.int p2), .val (.int p3), .val (.long q4), .second, .val (.int p5), .val (.int fi), .val (.int la)] [(.int la), (.int fi)])) t
      refine XS.icmpYes X2.here hx rfl (pc0 := 32) (pc' := 61) rfl (hb hby d4_32) rfl (feq hc32_3).2 (by decide) (by decide) ?_
      show Steps p.tables e below (T2.setTop (mkF m 61 #[.val (.ref a0), .val (.int p1), .val (.int p2), .val (.int p3), .val (.long q4), .second, .val (.int p5), .val (.int fi), .val (.int la)] [])) t
      refine XS.aloadN X2.here hx rfl (hb hby d4_61) rfl rfl ?_
      show Steps p.tables e below (T2.setTop (mkF m 62 #[.val (.ref a0), .val (.int p1), .val (.int p2), .val (.int p3), .val (.long q4), .second, .val (.int p5), .val (.int fi), .val (.int la)] [(.ref a0)])) t
      refine XS.iload X2.here hx rfl (hb hby d4_62) rfl ?_
      show Steps p.tables e below (T2.setTop (mkF m 64 #[.val (.ref a0), .val (.int p1), .val (.int p2), .val (.int p3), .val (.long q4), .second, .val (.int p5), .val (.int fi), .val (.int la)] [(.int fi), (.ref a0)])) t
      refine XS.iload X2.here hx rfl (hb hby d4_64) rfl ?_
      show Steps p.tables e below (T2.setTop (mkF m 66 #[.val (.ref a0), .val (.int p1), .val (.int p2), .val (.int p3), .val (.long q4), .second, .val (.int p5), .val (.int fi), .val (.int la)] [(.int la), (.int fi), (.ref a0)])) t
      refine XS.iloadN X2.here hx rfl (hb hby d4_66) rfl ?_
      show Steps p.tables e below (T2.setTop (mkF m 67 #[.val (.ref a0), .val (.int p1), .val (.int p2), .val (.int p3), .val (.long q4), .second, .val (.int p5), .val (.int fi), .val (.int la)] [(.int p2), (.int la), (.int fi), (.ref a0)])) t
      refine XS.iloadN X2.here hx rfl (hb hby d4_67) rfl ?_
      show Steps p.tables e below (T2.setTop (mkF m 68 #[.val (.ref a0), .val (.int p1), .val (.int p2), .val (.int p3), .val (.long q4), .second, .val (.int p5), .val (.int fi), .val (.int la)] [(.int p3), (.int p2), (.int la), (.int fi), (.ref a0)])) t
      refine XS.lload X2.here hx rfl (hb hby d4_68) rfl ?_
      show Steps p.tables e below (T2.setTop (mkF m 70 #[.val (.ref a0), .val (.int p1), .val (.int p2), .val (.int p3), .val (.long q4), .second, .val (.int p5), .val (.int fi), .val (.int la)] [(.long q4), (.int p3), (.int p2), (.int la), (.int fi), (.ref a0)])) t
      refine XS.iload X2.here hx rfl (hb hby d4_70) rfl ?_
      show Steps p.tables e below (T2.setTop (mkF m 72 #[.val (.ref a0), .val (.int p1), .val (.int p2), .val (.int p3), .val (.long q4), .second, .val (.int p5), .val (.int fi), .val (.int la)] [(.int p5), (.long q4), (.int p3), (.int p2), (.int la), (.int fi), (.ref a0)])) t
      exact kt
    refine own_callP X2 hx hZ hown e2 (hw _ (List.mem_of_getElem? (i := 35) rfl)) (hw _ (List.mem_of_getElem? (i := 36) rfl)) (own_selP (mvT hZ (hw _ (List.mem_of_getElem? (i := 23) rfl))) rfl (Cond.privateMethod_at (mvP hZ (hw _ (List.mem_of_getElem? (i := 37) rfl)) (args := #[]))) (mvT hZ (hw _ (List.mem_of_getElem? (i := 36) rfl))) (by decide)) (hw _ (List.mem_of_getElem? (i := 37) rfl)) (hw _ (List.mem_of_getElem? (i := 4) rfl)) (hw _ (List.mem_of_getElem? (i := 38) rfl)) (by decide) (rm7 l Z aw hw a0 fi la p2 p3 q4 p5 w0 N (ll * W + fr / 64) (ll * W + (t - 1) / 64) fr t h0 n0 Z0 E_a0 F_a0_words Ar_w0 g_w0 (ne_a0_w0) (own_eqF hl hlb hW hWb hf ht hft h256 hfi hla).1 (own_eqF hl hlb hW hWb hf ht hft h256 hfi hla).2 (by have e := (own_eqF hl hlb hW hWb hf ht hft h256 hfi hla); have n : fi.toInt ≠ la.toInt := fun q => hc32_3 (Int32.toInt_inj.mp q); have := (Nat.div_le_div_right (c := 64) (show fr ≤ t - 1 by omega)); omega) hLN hN hf ht (by omega) hon) E_a0 (g := (mkF m 72 #[.val (.ref a0), .val (.int p1), .val (.int p2), .val (.int p3), .val (.long q4), .second, .val (.int p5), .val (.int fi), .val (.int la)] [(.int p5), (.long q4), (.int p3), (.int p2), (.int la), (.int fi), (.ref a0)])) rfl (by rw [hml]; rfl) (argsL := [(.int fi), (.int la), (.int p2), (.int p3), (.long q4), (.int p5)]) (rest := []) (lenOf pd_2 rfl) rfl rfl (W := 0) (by show 2 * 0 + _ ≤ _; exact Nat.le_of_eq rfl) (hb hby d4_72) (by decide) (by decide) (by decide) (by decide) ?_
    rintro _ T5 L5 X5 ⟨rfl, Nq5, Kq5, Pq5_0⟩
    have N5 := Fr.app N0 Nq5
    replace E_a0 := (E_a0.keep Kq5)
    replace F_a0_wordsPerLine := (F_a0_wordsPerLine.keep Kq5 (ninS (ne_a0_w0) nin0))
    replace F_a0_words := (F_a0_words.keep Kq5 (ninS (ne_a0_w0) nin0))
    have ZKq5 : n0 ≤ T5.heap.size := Nat.le_trans Z0 Kq5.1
    have KKKq5 := K0.trans Kq5 ((allS (Or.inl (by simp)) all0))
    obtain ⟨fl5, Al5, hfl5⟩ := Pq5_0
    exact own_retV X5 hP hx hlk rfl hret (hb hby d4_75) (by decide) (by decide) ⟨rfl, N5, KKKq5, ⟨_, Al5, hfl5⟩⟩
theorem d6_0 : decode prog_3_method_2_code 0 = .ok (.aload_n 0, 1) := by decide +kernel
theorem d6_1 : decode prog_3_method_2_code 1 = .ok (.getfield 21, 3) := by decide +kernel
theorem d6_4 : decode prog_3_method_2_code 4 = .ok (.iload_n 1, 1) := by decide +kernel
theorem d6_5 : decode prog_3_method_2_code 5 = .ok (.aload_n 0, 1) := by decide +kernel
theorem d6_6 : decode prog_3_method_2_code 6 = .ok (.getfield 11, 3) := by decide +kernel
theorem d6_9 : decode prog_3_method_2_code 9 = .ok (.imul, 1) := by decide +kernel
theorem d6_10 : decode prog_3_method_2_code 10 = .ok (.iload_n 2, 1) := by decide +kernel
theorem d6_11 : decode prog_3_method_2_code 11 = .ok (.bipush 6, 2) := by decide +kernel
theorem d6_13 : decode prog_3_method_2_code 13 = .ok (.iushr, 1) := by decide +kernel
theorem d6_14 : decode prog_3_method_2_code 14 = .ok (.iadd, 1) := by decide +kernel
theorem d6_15 : decode prog_3_method_2_code 15 = .ok (.laload, 1) := by decide +kernel
theorem d6_16 : decode prog_3_method_2_code 16 = .ok (.lconst 1, 1) := by decide +kernel
theorem d6_17 : decode prog_3_method_2_code 17 = .ok (.iload_n 2, 1) := by decide +kernel
theorem d6_18 : decode prog_3_method_2_code 18 = .ok (.lshl, 1) := by decide +kernel
theorem d6_19 : decode prog_3_method_2_code 19 = .ok (.land, 1) := by decide +kernel
theorem d6_20 : decode prog_3_method_2_code 20 = .ok (.lconst 0, 1) := by decide +kernel
theorem d6_21 : decode prog_3_method_2_code 21 = .ok (.lcmp, 1) := by decide +kernel
theorem d6_22 : decode prog_3_method_2_code 22 = .ok (.ifCond .eq 7, 3) := by decide +kernel
theorem d6_25 : decode prog_3_method_2_code 25 = .ok (.iconst 1, 1) := by decide +kernel
theorem d6_26 : decode prog_3_method_2_code 26 = .ok (.goto 4, 3) := by decide +kernel
theorem d6_29 : decode prog_3_method_2_code 29 = .ok (.iconst 0, 1) := by decide +kernel
theorem d6_30 : decode prog_3_method_2_code 30 = .ok (.ireturn, 1) := by decide +kernel
set_option maxRecDepth 65536 in
set_option maxHeartbeats 4000000 in
theorem ef_6 (m : MethodId) (a0 : Addr) (p1 : Int32) (p2 : Int32) : entryFrame m #[(.ref a0), (.int p1), (.int p2)] 3 = mkF m 0 #[.val (.ref a0), .val (.int p1), .val (.int p2)] [] := by first | (simp [entryFrame, mkF, argsToLocals, Value.category]; done) | rfl
set_option maxRecDepth 65536 in
set_option maxHeartbeats 40000000 in
theorem rm6 (l : Launch) (Z : State) (aw : Array Value) (hw : ∀ d ∈ tables_1, d.before aw Z = true) {ws : List Jvm.Cond} (a0 : Addr) (p1 : Int32) (p2 : Int32) (w0 : Addr) (wv : Int32) (N : Nat) (f : Nat → Int64) (ll : Nat) (W : Nat) (x : Nat) (h0 : Heap) (n0 : Nat) (Z0 : n0 ≤ h0.size) (F_a0_wordsPerLine : Fld Z h0 a0 "com/example/humble_grid/humblegrid/BitLines" "wordsPerLine" "I" (.int wv)) (F_a0_words : Fld Z h0 a0 "com/example/humble_grid/humblegrid/BitLines" "words" "[J" (.ref w0)) (Ar_w0 : own_AJ Z h0 w0 N f) (hl : p1.toInt = (ll : Int)) (hlb : ll ≤ 4) (hW : wv.toInt = (W : Int)) (hWb : W ≤ 4) (hx' : p2.toInt = (x : Int)) (hxb : x ≤ 256) (hxN : ll * W + x / 64 < N) :
    own_Met l Z (⟨"com/example/humble_grid/humblegrid/BitLines", "get", "(II)Z"⟩ : MethodName) prog_3_method_2_code 3 (some .boolean) ws ({ frames := 0, cells := 0, slots := 0, locals := 0 } : Room) #[(.ref a0), (.int p1), (.int p2)] h0 (own_Pq (some (.int (own_z (own_bit (f (ll * W + x / 64)) (x % 64) = true)))) h0) := by
  refine own_body (plainFor_of_name pn_0) ?_
  intro p e s m below meth c s₁ hx hZ hby hml hown hnm hret hlk X0 e0
  replace hown : s.vm.findClass "com/example/humble_grid/humblegrid/BitLines" = some m.cls := hown
  replace hml : c.maxLocals = 3 := hml
  obtain ⟨P, hP⟩ : ∃ P, P = own_P below s (own_Pq (some (.int (own_z (own_bit (f (ll * W + x / 64)) (x % 64) = true)))) h0) ({ frames := 0, cells := 0, slots := 0, locals := 0 } : Room).cells ({ frames := 0, cells := 0, slots := 0, locals := 0 } : Room).slots := ⟨_, rfl⟩
  rw [← hP]
  refine own_cast (ef_6 m a0 p1 p2) ?_
  refine own_go (T' := s₁) (f' := (mkF m 1 #[.val (.ref a0), .val (.int p1), .val (.int p2)] [(.ref a0)])) (fun t kt => ?_) ?_
  · show Steps p.tables e below (s₁.setTop (mkF m 0 #[.val (.ref a0), .val (.int p1), .val (.int p2)] [])) t
    refine XS.aloadN X0.here hx rfl (hb hby d6_0) rfl rfl ?_
    show Steps p.tables e below (s₁.setTop (mkF m 1 #[.val (.ref a0), .val (.int p1), .val (.int p2)] [(.ref a0)])) t
    exact kt
  obtain ⟨T1, X1, e1, st1⟩ := getF X0 hx hZ hown (host := "") (Or.inl (hw _ (List.mem_of_getElem? (i := 18) rfl))) Via.refl e0 F_a0_words (g := (mkF m 1 #[.val (.ref a0), .val (.int p1), .val (.int p2)] [(.ref a0)])) rfl rfl (hb hby d6_1)
  refine own_go st1 ?_
  refine own_go (T' := T1) (f' := (mkF m 6 #[.val (.ref a0), .val (.int p1), .val (.int p2)] [(.ref a0), (.int p1), (.ref w0)])) (fun t kt => ?_) ?_
  · show Steps p.tables e below (T1.setTop (mkF m 4 #[.val (.ref a0), .val (.int p1), .val (.int p2)] [(.ref w0)])) t
    refine XS.iloadN X1.here hx rfl (hb hby d6_4) rfl ?_
    show Steps p.tables e below (T1.setTop (mkF m 5 #[.val (.ref a0), .val (.int p1), .val (.int p2)] [(.int p1), (.ref w0)])) t
    refine XS.aloadN X1.here hx rfl (hb hby d6_5) rfl rfl ?_
    show Steps p.tables e below (T1.setTop (mkF m 6 #[.val (.ref a0), .val (.int p1), .val (.int p2)] [(.ref a0), (.int p1), (.ref w0)])) t
    exact kt
  obtain ⟨T2, X2, e2, st2⟩ := getF X1 hx hZ hown (host := "") (Or.inl (hw _ (List.mem_of_getElem? (i := 11) rfl))) Via.refl e1 F_a0_wordsPerLine (g := (mkF m 6 #[.val (.ref a0), .val (.int p1), .val (.int p2)] [(.ref a0), (.int p1), (.ref w0)])) rfl rfl (hb hby d6_6)
  refine own_go st2 ?_
  refine own_go (T' := T2) (f' := (mkF m 22 #[.val (.ref a0), .val (.int p1), .val (.int p2)] [(.int (lcmpW ((f (ll * W + x / 64)) &&& ((1 : Int64) <<< (p2 &&& 0x3f).toInt64)) (0 : Int64)))])) (fun t kt => ?_) ?_
  · show Steps p.tables e below (T2.setTop (mkF m 9 #[.val (.ref a0), .val (.int p1), .val (.int p2)] [(.int wv), (.int p1), (.ref w0)])) t
    refine XS.imul X2.here hx rfl (hb hby d6_9) rfl ?_
    show Steps p.tables e below (T2.setTop (mkF m 10 #[.val (.ref a0), .val (.int p1), .val (.int p2)] [(.int (p1 * wv)), (.ref w0)])) t
    refine XS.iloadN X2.here hx rfl (hb hby d6_10) rfl ?_
    show Steps p.tables e below (T2.setTop (mkF m 11 #[.val (.ref a0), .val (.int p1), .val (.int p2)] [(.int p2), (.int (p1 * wv)), (.ref w0)])) t
    refine XS.bipush X2.here hx rfl (hb hby d6_11) ?_
    show Steps p.tables e below (T2.setTop (mkF m 13 #[.val (.ref a0), .val (.int p1), .val (.int p2)] [(.int (6 : Int32)), (.int p2), (.int (p1 * wv)), (.ref w0)])) t
    refine XS.iushr X2.here hx rfl (hb hby d6_13) rfl ?_
    show Steps p.tables e below (T2.setTop (mkF m 14 #[.val (.ref a0), .val (.int p1), .val (.int p2)] [(.int ((p2.toUInt32 >>> ((6 : Int32) &&& 31).toUInt32).toInt32)), (.int (p1 * wv)), (.ref w0)])) t
    refine XS.iadd X2.here hx rfl (hb hby d6_14) rfl ?_
    show Steps p.tables e below (T2.setTop (mkF m 15 #[.val (.ref a0), .val (.int p1), .val (.int p2)] [(.int ((p1 * wv) + ((p2.toUInt32 >>> ((6 : Int32) &&& 31).toUInt32).toInt32))), (.ref w0)])) t
    refine own_laload X2 hx hZ e2 Ar_w0 (i := (ll * W + x / 64)) (own_idx hl hW hx' hlb hWb hxb) hxN (g := (mkF m 15 #[.val (.ref a0), .val (.int p1), .val (.int p2)] [(.int ((p1 * wv) + ((p2.toUInt32 >>> ((6 : Int32) &&& 31).toUInt32).toInt32))), (.ref w0)])) rfl rfl (hb hby d6_15) _ ?_
    show Steps p.tables e below (T2.setTop (mkF m 16 #[.val (.ref a0), .val (.int p1), .val (.int p2)] [(.long (f (ll * W + x / 64)))])) t
    refine XS.lconst X2.here hx rfl (hb hby d6_16) ?_
    show Steps p.tables e below (T2.setTop (mkF m 17 #[.val (.ref a0), .val (.int p1), .val (.int p2)] [(.long (1 : Int64)), (.long (f (ll * W + x / 64)))])) t
    refine XS.iloadN X2.here hx rfl (hb hby d6_17) rfl ?_
    show Steps p.tables e below (T2.setTop (mkF m 18 #[.val (.ref a0), .val (.int p1), .val (.int p2)] [(.int p2), (.long (1 : Int64)), (.long (f (ll * W + x / 64)))])) t
    refine XS.lshl X2.here hx rfl (hb hby d6_18) rfl ?_
    show Steps p.tables e below (T2.setTop (mkF m 19 #[.val (.ref a0), .val (.int p1), .val (.int p2)] [(.long ((1 : Int64) <<< (p2 &&& 0x3f).toInt64)), (.long (f (ll * W + x / 64)))])) t
    refine XS.land X2.here hx rfl (hb hby d6_19) rfl ?_
    show Steps p.tables e below (T2.setTop (mkF m 20 #[.val (.ref a0), .val (.int p1), .val (.int p2)] [(.long ((f (ll * W + x / 64)) &&& ((1 : Int64) <<< (p2 &&& 0x3f).toInt64)))])) t
    refine XS.lconst X2.here hx rfl (hb hby d6_20) ?_
    show Steps p.tables e below (T2.setTop (mkF m 21 #[.val (.ref a0), .val (.int p1), .val (.int p2)] [(.long (0 : Int64)), (.long ((f (ll * W + x / 64)) &&& ((1 : Int64) <<< (p2 &&& 0x3f).toInt64)))])) t
    refine XS.lcmp X2.here hx rfl (hb hby d6_21) rfl ?_
    show Steps p.tables e below (T2.setTop (mkF m 22 #[.val (.ref a0), .val (.int p1), .val (.int p2)] [(.int (lcmpW ((f (ll * W + x / 64)) &&& ((1 : Int64) <<< (p2 &&& 0x3f).toInt64)) (0 : Int64)))])) t
    exact kt
  by_cases hc22_3 : ((f (ll * W + x / 64)) &&& ((1 : Int64) <<< (p2 &&& 0x3f).toInt64)) = (0 : Int64)
  · refine own_go (T' := T2) (f' := (mkF m 30 #[.val (.ref a0), .val (.int p1), .val (.int p2)] [(.int (0 : Int32))])) (fun t kt => ?_) ?_
    · show Steps p.tables e below (T2.setTop (mkF m 22 #[.val (.ref a0), .val (.int p1), .val (.int p2)] [(.int (lcmpW ((f (ll * W + x / 64)) &&& ((1 : Int64) <<< (p2 &&& 0x3f).toInt64)) (0 : Int64)))])) t
      refine XS.ifYes X2.here hx rfl (pc0 := 22) (pc' := 29) rfl (hb hby d6_22) rfl (own_lY_eq hc22_3) (by decide) (by decide) ?_
      show Steps p.tables e below (T2.setTop (mkF m 29 #[.val (.ref a0), .val (.int p1), .val (.int p2)] [])) t
      refine XS.iconst X2.here hx rfl (hb hby d6_29) ?_
      show Steps p.tables e below (T2.setTop (mkF m 30 #[.val (.ref a0), .val (.int p1), .val (.int p2)] [(.int (0 : Int32))])) t
      exact kt
    exact own_retN X2 hP hx hlk e2 (t := .boolean) hret (by simp) (hb hby d6_30) (by decide) (by decide) (z' := (0 : Int32)) (by decide) ⟨(congrArg (fun w => some (Value.int w)) (own_z_f (own_b1f (own_m64 hx') hc22_3)).symm), rfl, rfl⟩
  · refine own_go (T' := T2) (f' := (mkF m 30 #[.val (.ref a0), .val (.int p1), .val (.int p2)] [(.int (1 : Int32))])) (fun t kt => ?_) ?_
    · show Steps p.tables e below (T2.setTop (mkF m 22 #[.val (.ref a0), .val (.int p1), .val (.int p2)] [(.int (lcmpW ((f (ll * W + x / 64)) &&& ((1 : Int64) <<< (p2 &&& 0x3f).toInt64)) (0 : Int64)))])) t
      refine XS.ifNo X2.here hx rfl (hb hby d6_22) rfl (own_lN_eq hc22_3) ?_
      show Steps p.tables e below (T2.setTop (mkF m 25 #[.val (.ref a0), .val (.int p1), .val (.int p2)] [])) t
      refine XS.iconst X2.here hx rfl (hb hby d6_25) ?_
      show Steps p.tables e below (T2.setTop (mkF m 26 #[.val (.ref a0), .val (.int p1), .val (.int p2)] [(.int (1 : Int32))])) t
      refine XS.goto X2.here hx rfl (pc0 := 26) (pc' := 30) rfl (hb hby d6_26) (by decide) (by decide) ?_
      show Steps p.tables e below (T2.setTop (mkF m 30 #[.val (.ref a0), .val (.int p1), .val (.int p2)] [(.int (1 : Int32))])) t
      exact kt
    exact own_retN X2 hP hx hlk e2 (t := .boolean) hret (by simp) (hb hby d6_30) (by decide) (by decide) (z' := (1 : Int32)) (by decide) ⟨(congrArg (fun w => some (Value.int w)) (own_z_t (own_b1t (own_m64 hx') hc22_3)).symm), rfl, rfl⟩
theorem pd_3 : parseMethodDescriptor "(II)V" = some ⟨[.int, .int], none⟩ := by decide +kernel
theorem pd_4 : parseMethodDescriptor "(IIIJZ)V" = some ⟨[.int, .int, .int, .long, .boolean], none⟩ := by decide +kernel
theorem pd_5 : parseMethodDescriptor "(II)Z" = some ⟨[.int, .int], some .boolean⟩ := by decide +kernel
theorem pn_1 : plainName "com/example/humble_grid/humblegrid/BitLinesGetPinLaw" = true := by first | (simp [plainName, overriddenIn]; done) | decide +kernel
set_option maxRecDepth 65536 in
set_option maxHeartbeats 4000000 in
theorem ef_0 (m : MethodId) (p0 : Int32) (p1 : Int32) (p2 : Int32) (q3 : Int64) (p4 : Int32) : entryFrame m #[(.int p0), (.int p1), (.int p2), (.long q3), (.int p4)] maxLocals = mkF m 0 #[.val (.int p0), .val (.int p1), .val (.int p2), .val (.long q3), .second, .val (.int p4), .unset, .unset, .unset, .unset, .unset, .unset, .unset, .unset, .unset] [] := by first | (simp [entryFrame, mkF, argsToLocals, Value.category, maxLocals]; done) | rfl
set_option maxRecDepth 65536 in
set_option maxHeartbeats 40000000 in
theorem rm0 (l : Launch) (Z : State) (aw : Array Value) (hw : ∀ d ∈ tables_1, d.before aw Z = true) {ws : List Jvm.Cond} (p0 : Int32) (p1 : Int32) (p2 : Int32) (q3 : Int64) (p4 : Int32)  (h0 : Heap) (n0 : Nat) (Z0 : n0 ≤ h0.size)  :
    own_Met l Z x code maxLocals ret ws room_1 #[(.int p0), (.int p1), (.int p2), (.long q3), (.int p4)] h0 (fun v h L => v = some (.int 1) ∧ Fr n0 L) := by
  refine own_body (plainFor_of_name pn_1) ?_
  intro p e s m below meth c s₁ hx hZ hby hml hown hnm hret hlk X0 e0
  replace hown : s.vm.findClass "com/example/humble_grid/humblegrid/BitLinesGetPinLaw" = some m.cls := hown
  replace hml : c.maxLocals = 15 := hml
  have N0 := Fr.nil n0
  have K0 := Keep.refl h0 []
  obtain ⟨P, hP⟩ : ∃ P, P = own_P below s (fun v h L => v = some (.int 1) ∧ Fr n0 L) room_1.cells room_1.slots := ⟨_, rfl⟩
  rw [← hP]
  refine own_cast (ef_0 m p0 p1 p2 q3 p4) ?_
  refine own_go (T' := s₁) (f' := (mkF m 5 #[.val (.int p0), .val (.int p1), .val (.int p2), .val (.long q3), .second, .val (.int p4), .unset, .unset, .unset, .unset, .unset, .unset, .unset, .unset, .unset] [(.int ((1 : Int32) + (p0 &&& (3 : Int32))))])) (fun t kt => ?_) ?_
  · show Steps p.tables e below (s₁.setTop (mkF m 0 #[.val (.int p0), .val (.int p1), .val (.int p2), .val (.long q3), .second, .val (.int p4), .unset, .unset, .unset, .unset, .unset, .unset, .unset, .unset, .unset] [])) t
    refine XS.iconst X0.here hx rfl (hb hby at_0) ?_
    show Steps p.tables e below (s₁.setTop (mkF m 1 #[.val (.int p0), .val (.int p1), .val (.int p2), .val (.long q3), .second, .val (.int p4), .unset, .unset, .unset, .unset, .unset, .unset, .unset, .unset, .unset] [(.int (1 : Int32))])) t
    refine XS.iloadN X0.here hx rfl (hb hby at_1) rfl ?_
    show Steps p.tables e below (s₁.setTop (mkF m 2 #[.val (.int p0), .val (.int p1), .val (.int p2), .val (.long q3), .second, .val (.int p4), .unset, .unset, .unset, .unset, .unset, .unset, .unset, .unset, .unset] [(.int p0), (.int (1 : Int32))])) t
    refine XS.iconst X0.here hx rfl (hb hby at_2) ?_
    show Steps p.tables e below (s₁.setTop (mkF m 3 #[.val (.int p0), .val (.int p1), .val (.int p2), .val (.long q3), .second, .val (.int p4), .unset, .unset, .unset, .unset, .unset, .unset, .unset, .unset, .unset] [(.int (3 : Int32)), (.int p0), (.int (1 : Int32))])) t
    refine XS.iand X0.here hx rfl (hb hby at_3) rfl ?_
    show Steps p.tables e below (s₁.setTop (mkF m 4 #[.val (.int p0), .val (.int p1), .val (.int p2), .val (.long q3), .second, .val (.int p4), .unset, .unset, .unset, .unset, .unset, .unset, .unset, .unset, .unset] [(.int (p0 &&& (3 : Int32))), (.int (1 : Int32))])) t
    refine XS.iadd X0.here hx rfl (hb hby at_4) rfl ?_
    show Steps p.tables e below (s₁.setTop (mkF m 5 #[.val (.int p0), .val (.int p1), .val (.int p2), .val (.long q3), .second, .val (.int p4), .unset, .unset, .unset, .unset, .unset, .unset, .unset, .unset, .unset] [(.int ((1 : Int32) + (p0 &&& (3 : Int32))))])) t
    exact kt
  obtain ⟨lc, hlc⟩ : ∃ z, z = ((1 : Int32) + (p0 &&& (3 : Int32))) := ⟨_, rfl⟩
  rw [← hlc]
  refine own_go (T' := s₁) (f' := (mkF m 16 #[.val (.int p0), .val (.int p1), .val (.int p2), .val (.long q3), .second, .val (.int p4), .val (.int lc), .unset, .unset, .unset, .unset, .unset, .unset, .unset, .unset] [(.int ((((p0.toUInt32 >>> ((2 : Int32) &&& 31).toUInt32).toInt32) &&& (2147483647 : Int32)) % lc))])) (fun t kt => ?_) ?_
  · show Steps p.tables e below (s₁.setTop (mkF m 5 #[.val (.int p0), .val (.int p1), .val (.int p2), .val (.long q3), .second, .val (.int p4), .unset, .unset, .unset, .unset, .unset, .unset, .unset, .unset, .unset] [(.int lc)])) t
    refine XS.istore X0.here hx rfl (hb hby at_5) rfl (l' := #[.val (.int p0), .val (.int p1), .val (.int p2), .val (.long q3), .second, .val (.int p4), .val (.int lc), .unset, .unset, .unset, .unset, .unset, .unset, .unset, .unset]) rfl ?_
    show Steps p.tables e below (s₁.setTop (mkF m 7 #[.val (.int p0), .val (.int p1), .val (.int p2), .val (.long q3), .second, .val (.int p4), .val (.int lc), .unset, .unset, .unset, .unset, .unset, .unset, .unset, .unset] [])) t
    refine XS.iloadN X0.here hx rfl (hb hby at_7) rfl ?_
    show Steps p.tables e below (s₁.setTop (mkF m 8 #[.val (.int p0), .val (.int p1), .val (.int p2), .val (.long q3), .second, .val (.int p4), .val (.int lc), .unset, .unset, .unset, .unset, .unset, .unset, .unset, .unset] [(.int p0)])) t
    refine XS.iconst X0.here hx rfl (hb hby at_8) ?_
    show Steps p.tables e below (s₁.setTop (mkF m 9 #[.val (.int p0), .val (.int p1), .val (.int p2), .val (.long q3), .second, .val (.int p4), .val (.int lc), .unset, .unset, .unset, .unset, .unset, .unset, .unset, .unset] [(.int (2 : Int32)), (.int p0)])) t
    refine XS.iushr X0.here hx rfl (hb hby at_9) rfl ?_
    show Steps p.tables e below (s₁.setTop (mkF m 10 #[.val (.int p0), .val (.int p1), .val (.int p2), .val (.long q3), .second, .val (.int p4), .val (.int lc), .unset, .unset, .unset, .unset, .unset, .unset, .unset, .unset] [(.int ((p0.toUInt32 >>> ((2 : Int32) &&& 31).toUInt32).toInt32))])) t
    refine X0.ldcInt hx hown (mvT hZ (hw _ (List.mem_of_getElem? (i := 0) rfl))) (g := (mkF m 10 #[.val (.int p0), .val (.int p1), .val (.int p2), .val (.long q3), .second, .val (.int p4), .val (.int lc), .unset, .unset, .unset, .unset, .unset, .unset, .unset, .unset] [(.int ((p0.toUInt32 >>> ((2 : Int32) &&& 31).toUInt32).toInt32))])) rfl (hb hby at_10) _ ?_
    show Steps p.tables e below (s₁.setTop (mkF m 12 #[.val (.int p0), .val (.int p1), .val (.int p2), .val (.long q3), .second, .val (.int p4), .val (.int lc), .unset, .unset, .unset, .unset, .unset, .unset, .unset, .unset] [(.int (2147483647 : Int32)), (.int ((p0.toUInt32 >>> ((2 : Int32) &&& 31).toUInt32).toInt32))])) t
    refine XS.iand X0.here hx rfl (hb hby at_12) rfl ?_
    show Steps p.tables e below (s₁.setTop (mkF m 13 #[.val (.int p0), .val (.int p1), .val (.int p2), .val (.long q3), .second, .val (.int p4), .val (.int lc), .unset, .unset, .unset, .unset, .unset, .unset, .unset, .unset] [(.int (((p0.toUInt32 >>> ((2 : Int32) &&& 31).toUInt32).toInt32) &&& (2147483647 : Int32)))])) t
    refine XS.iload X0.here hx rfl (hb hby at_13) rfl ?_
    show Steps p.tables e below (s₁.setTop (mkF m 15 #[.val (.int p0), .val (.int p1), .val (.int p2), .val (.long q3), .second, .val (.int p4), .val (.int lc), .unset, .unset, .unset, .unset, .unset, .unset, .unset, .unset] [(.int lc), (.int (((p0.toUInt32 >>> ((2 : Int32) &&& 31).toUInt32).toInt32) &&& (2147483647 : Int32)))])) t
    refine iremM X0 hx rfl (hb hby at_15) rfl (own_nz (own_one3 hlc).1) ?_
    show Steps p.tables e below (s₁.setTop (mkF m 16 #[.val (.int p0), .val (.int p1), .val (.int p2), .val (.long q3), .second, .val (.int p4), .val (.int lc), .unset, .unset, .unset, .unset, .unset, .unset, .unset, .unset] [(.int ((((p0.toUInt32 >>> ((2 : Int32) &&& 31).toUInt32).toInt32) &&& (2147483647 : Int32)) % lc))])) t
    exact kt
  obtain ⟨ln, hln⟩ : ∃ z, z = ((((p0.toUInt32 >>> ((2 : Int32) &&& 31).toUInt32).toInt32) &&& (2147483647 : Int32)) % lc) := ⟨_, rfl⟩
  rw [← hln]
  refine own_go (T' := s₁) (f' := (mkF m 25 #[.val (.int p0), .val (.int p1), .val (.int p2), .val (.long q3), .second, .val (.int p4), .val (.int lc), .val (.int ln), .unset, .unset, .unset, .unset, .unset, .unset, .unset] [(.int ((1 : Int32) + (p1 &&& (255 : Int32))))])) (fun t kt => ?_) ?_
  · show Steps p.tables e below (s₁.setTop (mkF m 16 #[.val (.int p0), .val (.int p1), .val (.int p2), .val (.long q3), .second, .val (.int p4), .val (.int lc), .unset, .unset, .unset, .unset, .unset, .unset, .unset, .unset] [(.int ln)])) t
    refine XS.istore X0.here hx rfl (hb hby at_16) rfl (l' := #[.val (.int p0), .val (.int p1), .val (.int p2), .val (.long q3), .second, .val (.int p4), .val (.int lc), .val (.int ln), .unset, .unset, .unset, .unset, .unset, .unset, .unset]) rfl ?_
    show Steps p.tables e below (s₁.setTop (mkF m 18 #[.val (.int p0), .val (.int p1), .val (.int p2), .val (.long q3), .second, .val (.int p4), .val (.int lc), .val (.int ln), .unset, .unset, .unset, .unset, .unset, .unset, .unset] [])) t
    refine XS.iconst X0.here hx rfl (hb hby at_18) ?_
    show Steps p.tables e below (s₁.setTop (mkF m 19 #[.val (.int p0), .val (.int p1), .val (.int p2), .val (.long q3), .second, .val (.int p4), .val (.int lc), .val (.int ln), .unset, .unset, .unset, .unset, .unset, .unset, .unset] [(.int (1 : Int32))])) t
    refine XS.iloadN X0.here hx rfl (hb hby at_19) rfl ?_
    show Steps p.tables e below (s₁.setTop (mkF m 20 #[.val (.int p0), .val (.int p1), .val (.int p2), .val (.long q3), .second, .val (.int p4), .val (.int lc), .val (.int ln), .unset, .unset, .unset, .unset, .unset, .unset, .unset] [(.int p1), (.int (1 : Int32))])) t
    refine XS.sipush X0.here hx rfl (hb hby at_20) ?_
    show Steps p.tables e below (s₁.setTop (mkF m 23 #[.val (.int p0), .val (.int p1), .val (.int p2), .val (.long q3), .second, .val (.int p4), .val (.int lc), .val (.int ln), .unset, .unset, .unset, .unset, .unset, .unset, .unset] [(.int (255 : Int32)), (.int p1), (.int (1 : Int32))])) t
    refine XS.iand X0.here hx rfl (hb hby at_23) rfl ?_
    show Steps p.tables e below (s₁.setTop (mkF m 24 #[.val (.int p0), .val (.int p1), .val (.int p2), .val (.long q3), .second, .val (.int p4), .val (.int lc), .val (.int ln), .unset, .unset, .unset, .unset, .unset, .unset, .unset] [(.int (p1 &&& (255 : Int32))), (.int (1 : Int32))])) t
    refine XS.iadd X0.here hx rfl (hb hby at_24) rfl ?_
    show Steps p.tables e below (s₁.setTop (mkF m 25 #[.val (.int p0), .val (.int p1), .val (.int p2), .val (.long q3), .second, .val (.int p4), .val (.int lc), .val (.int ln), .unset, .unset, .unset, .unset, .unset, .unset, .unset] [(.int ((1 : Int32) + (p1 &&& (255 : Int32))))])) t
    exact kt
  obtain ⟨le, hle⟩ : ∃ z, z = ((1 : Int32) + (p1 &&& (255 : Int32))) := ⟨_, rfl⟩
  rw [← hle]
  refine own_go (T' := s₁) (f' := (mkF m 34 #[.val (.int p0), .val (.int p1), .val (.int p2), .val (.long q3), .second, .val (.int p4), .val (.int lc), .val (.int ln), .val (.int le), .unset, .unset, .unset, .unset, .unset, .unset] [(.int ((p2 &&& (65535 : Int32)) % le))])) (fun t kt => ?_) ?_
  · show Steps p.tables e below (s₁.setTop (mkF m 25 #[.val (.int p0), .val (.int p1), .val (.int p2), .val (.long q3), .second, .val (.int p4), .val (.int lc), .val (.int ln), .unset, .unset, .unset, .unset, .unset, .unset, .unset] [(.int le)])) t
    refine XS.istore X0.here hx rfl (hb hby at_25) rfl (l' := #[.val (.int p0), .val (.int p1), .val (.int p2), .val (.long q3), .second, .val (.int p4), .val (.int lc), .val (.int ln), .val (.int le), .unset, .unset, .unset, .unset, .unset, .unset]) rfl ?_
    show Steps p.tables e below (s₁.setTop (mkF m 27 #[.val (.int p0), .val (.int p1), .val (.int p2), .val (.long q3), .second, .val (.int p4), .val (.int lc), .val (.int ln), .val (.int le), .unset, .unset, .unset, .unset, .unset, .unset] [])) t
    refine XS.iloadN X0.here hx rfl (hb hby at_27) rfl ?_
    show Steps p.tables e below (s₁.setTop (mkF m 28 #[.val (.int p0), .val (.int p1), .val (.int p2), .val (.long q3), .second, .val (.int p4), .val (.int lc), .val (.int ln), .val (.int le), .unset, .unset, .unset, .unset, .unset, .unset] [(.int p2)])) t
    refine X0.ldcInt hx hown (mvT hZ (hw _ (List.mem_of_getElem? (i := 1) rfl))) (g := (mkF m 28 #[.val (.int p0), .val (.int p1), .val (.int p2), .val (.long q3), .second, .val (.int p4), .val (.int lc), .val (.int ln), .val (.int le), .unset, .unset, .unset, .unset, .unset, .unset] [(.int p2)])) rfl (hb hby at_28) _ ?_
    show Steps p.tables e below (s₁.setTop (mkF m 30 #[.val (.int p0), .val (.int p1), .val (.int p2), .val (.long q3), .second, .val (.int p4), .val (.int lc), .val (.int ln), .val (.int le), .unset, .unset, .unset, .unset, .unset, .unset] [(.int (65535 : Int32)), (.int p2)])) t
    refine XS.iand X0.here hx rfl (hb hby at_30) rfl ?_
    show Steps p.tables e below (s₁.setTop (mkF m 31 #[.val (.int p0), .val (.int p1), .val (.int p2), .val (.long q3), .second, .val (.int p4), .val (.int lc), .val (.int ln), .val (.int le), .unset, .unset, .unset, .unset, .unset, .unset] [(.int (p2 &&& (65535 : Int32)))])) t
    refine XS.iload X0.here hx rfl (hb hby at_31) rfl ?_
    show Steps p.tables e below (s₁.setTop (mkF m 33 #[.val (.int p0), .val (.int p1), .val (.int p2), .val (.long q3), .second, .val (.int p4), .val (.int lc), .val (.int ln), .val (.int le), .unset, .unset, .unset, .unset, .unset, .unset] [(.int le), (.int (p2 &&& (65535 : Int32)))])) t
    refine iremM X0 hx rfl (hb hby at_33) rfl (own_nz (own_one255 hle).1) ?_
    show Steps p.tables e below (s₁.setTop (mkF m 34 #[.val (.int p0), .val (.int p1), .val (.int p2), .val (.long q3), .second, .val (.int p4), .val (.int lc), .val (.int ln), .val (.int le), .unset, .unset, .unset, .unset, .unset, .unset] [(.int ((p2 &&& (65535 : Int32)) % le))])) t
    exact kt
  obtain ⟨fv, hfv⟩ : ∃ z, z = ((p2 &&& (65535 : Int32)) % le) := ⟨_, rfl⟩
  rw [← hfv]
  refine own_go (T' := s₁) (f' := (mkF m 54 #[.val (.int p0), .val (.int p1), .val (.int p2), .val (.long q3), .second, .val (.int p4), .val (.int lc), .val (.int ln), .val (.int le), .val (.int fv), .unset, .unset, .unset, .unset, .unset] [(.int ((fv + (1 : Int32)) + ((((p2.toUInt32 >>> ((16 : Int32) &&& 31).toUInt32).toInt32) &&& (65535 : Int32)) % (le - fv))))])) (fun t kt => ?_) ?_
  · show Steps p.tables e below (s₁.setTop (mkF m 34 #[.val (.int p0), .val (.int p1), .val (.int p2), .val (.long q3), .second, .val (.int p4), .val (.int lc), .val (.int ln), .val (.int le), .unset, .unset, .unset, .unset, .unset, .unset] [(.int fv)])) t
    refine XS.istore X0.here hx rfl (hb hby at_34) rfl (l' := #[.val (.int p0), .val (.int p1), .val (.int p2), .val (.long q3), .second, .val (.int p4), .val (.int lc), .val (.int ln), .val (.int le), .val (.int fv), .unset, .unset, .unset, .unset, .unset]) rfl ?_
    show Steps p.tables e below (s₁.setTop (mkF m 36 #[.val (.int p0), .val (.int p1), .val (.int p2), .val (.long q3), .second, .val (.int p4), .val (.int lc), .val (.int ln), .val (.int le), .val (.int fv), .unset, .unset, .unset, .unset, .unset] [])) t
    refine XS.iload X0.here hx rfl (hb hby at_36) rfl ?_
    show Steps p.tables e below (s₁.setTop (mkF m 38 #[.val (.int p0), .val (.int p1), .val (.int p2), .val (.long q3), .second, .val (.int p4), .val (.int lc), .val (.int ln), .val (.int le), .val (.int fv), .unset, .unset, .unset, .unset, .unset] [(.int fv)])) t
    refine XS.iconst X0.here hx rfl (hb hby at_38) ?_
    show Steps p.tables e below (s₁.setTop (mkF m 39 #[.val (.int p0), .val (.int p1), .val (.int p2), .val (.long q3), .second, .val (.int p4), .val (.int lc), .val (.int ln), .val (.int le), .val (.int fv), .unset, .unset, .unset, .unset, .unset] [(.int (1 : Int32)), (.int fv)])) t
    refine XS.iadd X0.here hx rfl (hb hby at_39) rfl ?_
    show Steps p.tables e below (s₁.setTop (mkF m 40 #[.val (.int p0), .val (.int p1), .val (.int p2), .val (.long q3), .second, .val (.int p4), .val (.int lc), .val (.int ln), .val (.int le), .val (.int fv), .unset, .unset, .unset, .unset, .unset] [(.int (fv + (1 : Int32)))])) t
    refine XS.iloadN X0.here hx rfl (hb hby at_40) rfl ?_
    show Steps p.tables e below (s₁.setTop (mkF m 41 #[.val (.int p0), .val (.int p1), .val (.int p2), .val (.long q3), .second, .val (.int p4), .val (.int lc), .val (.int ln), .val (.int le), .val (.int fv), .unset, .unset, .unset, .unset, .unset] [(.int p2), (.int (fv + (1 : Int32)))])) t
    refine XS.bipush X0.here hx rfl (hb hby at_41) ?_
    show Steps p.tables e below (s₁.setTop (mkF m 43 #[.val (.int p0), .val (.int p1), .val (.int p2), .val (.long q3), .second, .val (.int p4), .val (.int lc), .val (.int ln), .val (.int le), .val (.int fv), .unset, .unset, .unset, .unset, .unset] [(.int (16 : Int32)), (.int p2), (.int (fv + (1 : Int32)))])) t
    refine XS.iushr X0.here hx rfl (hb hby at_43) rfl ?_
    show Steps p.tables e below (s₁.setTop (mkF m 44 #[.val (.int p0), .val (.int p1), .val (.int p2), .val (.long q3), .second, .val (.int p4), .val (.int lc), .val (.int ln), .val (.int le), .val (.int fv), .unset, .unset, .unset, .unset, .unset] [(.int ((p2.toUInt32 >>> ((16 : Int32) &&& 31).toUInt32).toInt32)), (.int (fv + (1 : Int32)))])) t
    refine X0.ldcInt hx hown (mvT hZ (hw _ (List.mem_of_getElem? (i := 1) rfl))) (g := (mkF m 44 #[.val (.int p0), .val (.int p1), .val (.int p2), .val (.long q3), .second, .val (.int p4), .val (.int lc), .val (.int ln), .val (.int le), .val (.int fv), .unset, .unset, .unset, .unset, .unset] [(.int ((p2.toUInt32 >>> ((16 : Int32) &&& 31).toUInt32).toInt32)), (.int (fv + (1 : Int32)))])) rfl (hb hby at_44) _ ?_
    show Steps p.tables e below (s₁.setTop (mkF m 46 #[.val (.int p0), .val (.int p1), .val (.int p2), .val (.long q3), .second, .val (.int p4), .val (.int lc), .val (.int ln), .val (.int le), .val (.int fv), .unset, .unset, .unset, .unset, .unset] [(.int (65535 : Int32)), (.int ((p2.toUInt32 >>> ((16 : Int32) &&& 31).toUInt32).toInt32)), (.int (fv + (1 : Int32)))])) t
    refine XS.iand X0.here hx rfl (hb hby at_46) rfl ?_
    show Steps p.tables e below (s₁.setTop (mkF m 47 #[.val (.int p0), .val (.int p1), .val (.int p2), .val (.long q3), .second, .val (.int p4), .val (.int lc), .val (.int ln), .val (.int le), .val (.int fv), .unset, .unset, .unset, .unset, .unset] [(.int (((p2.toUInt32 >>> ((16 : Int32) &&& 31).toUInt32).toInt32) &&& (65535 : Int32))), (.int (fv + (1 : Int32)))])) t
    refine XS.iload X0.here hx rfl (hb hby at_47) rfl ?_
    show Steps p.tables e below (s₁.setTop (mkF m 49 #[.val (.int p0), .val (.int p1), .val (.int p2), .val (.long q3), .second, .val (.int p4), .val (.int lc), .val (.int ln), .val (.int le), .val (.int fv), .unset, .unset, .unset, .unset, .unset] [(.int le), (.int (((p2.toUInt32 >>> ((16 : Int32) &&& 31).toUInt32).toInt32) &&& (65535 : Int32))), (.int (fv + (1 : Int32)))])) t
    refine XS.iload X0.here hx rfl (hb hby at_49) rfl ?_
    show Steps p.tables e below (s₁.setTop (mkF m 51 #[.val (.int p0), .val (.int p1), .val (.int p2), .val (.long q3), .second, .val (.int p4), .val (.int lc), .val (.int ln), .val (.int le), .val (.int fv), .unset, .unset, .unset, .unset, .unset] [(.int fv), (.int le), (.int (((p2.toUInt32 >>> ((16 : Int32) &&& 31).toUInt32).toInt32) &&& (65535 : Int32))), (.int (fv + (1 : Int32)))])) t
    refine XS.isub X0.here hx rfl (hb hby at_51) rfl ?_
    show Steps p.tables e below (s₁.setTop (mkF m 52 #[.val (.int p0), .val (.int p1), .val (.int p2), .val (.long q3), .second, .val (.int p4), .val (.int lc), .val (.int ln), .val (.int le), .val (.int fv), .unset, .unset, .unset, .unset, .unset] [(.int (le - fv)), (.int (((p2.toUInt32 >>> ((16 : Int32) &&& 31).toUInt32).toInt32) &&& (65535 : Int32))), (.int (fv + (1 : Int32)))])) t
    refine iremM X0 hx rfl (hb hby at_52) rfl (own_nz (by have := own_sub (own_one255 hle) (own_rem hfv (own_msk16 _) (own_one255 hle).1); have := (own_rem hfv (own_msk16 _) (own_one255 hle).1); omega)) ?_
    show Steps p.tables e below (s₁.setTop (mkF m 53 #[.val (.int p0), .val (.int p1), .val (.int p2), .val (.long q3), .second, .val (.int p4), .val (.int lc), .val (.int ln), .val (.int le), .val (.int fv), .unset, .unset, .unset, .unset, .unset] [(.int ((((p2.toUInt32 >>> ((16 : Int32) &&& 31).toUInt32).toInt32) &&& (65535 : Int32)) % (le - fv))), (.int (fv + (1 : Int32)))])) t
    refine XS.iadd X0.here hx rfl (hb hby at_53) rfl ?_
    show Steps p.tables e below (s₁.setTop (mkF m 54 #[.val (.int p0), .val (.int p1), .val (.int p2), .val (.long q3), .second, .val (.int p4), .val (.int lc), .val (.int ln), .val (.int le), .val (.int fv), .unset, .unset, .unset, .unset, .unset] [(.int ((fv + (1 : Int32)) + ((((p2.toUInt32 >>> ((16 : Int32) &&& 31).toUInt32).toInt32) &&& (65535 : Int32)) % (le - fv))))])) t
    exact kt
  obtain ⟨tv, htv⟩ : ∃ z, z = ((fv + (1 : Int32)) + ((((p2.toUInt32 >>> ((16 : Int32) &&& 31).toUInt32).toInt32) &&& (65535 : Int32)) % (le - fv))) := ⟨_, rfl⟩
  rw [← htv]
  refine own_go (T' := s₁) (f' := (mkF m 65 #[.val (.int p0), .val (.int p1), .val (.int p2), .val (.long q3), .second, .val (.int p4), .val (.int lc), .val (.int ln), .val (.int le), .val (.int fv), .val (.int tv), .unset, .unset, .unset, .unset] [(.int ((p4 &&& (255 : Int32)) % lc))])) (fun t kt => ?_) ?_
  · show Steps p.tables e below (s₁.setTop (mkF m 54 #[.val (.int p0), .val (.int p1), .val (.int p2), .val (.long q3), .second, .val (.int p4), .val (.int lc), .val (.int ln), .val (.int le), .val (.int fv), .unset, .unset, .unset, .unset, .unset] [(.int tv)])) t
    refine XS.istore X0.here hx rfl (hb hby at_54) rfl (l' := #[.val (.int p0), .val (.int p1), .val (.int p2), .val (.long q3), .second, .val (.int p4), .val (.int lc), .val (.int ln), .val (.int le), .val (.int fv), .val (.int tv), .unset, .unset, .unset, .unset]) rfl ?_
    show Steps p.tables e below (s₁.setTop (mkF m 56 #[.val (.int p0), .val (.int p1), .val (.int p2), .val (.long q3), .second, .val (.int p4), .val (.int lc), .val (.int ln), .val (.int le), .val (.int fv), .val (.int tv), .unset, .unset, .unset, .unset] [])) t
    refine XS.iload X0.here hx rfl (hb hby at_56) rfl ?_
    show Steps p.tables e below (s₁.setTop (mkF m 58 #[.val (.int p0), .val (.int p1), .val (.int p2), .val (.long q3), .second, .val (.int p4), .val (.int lc), .val (.int ln), .val (.int le), .val (.int fv), .val (.int tv), .unset, .unset, .unset, .unset] [(.int p4)])) t
    refine XS.sipush X0.here hx rfl (hb hby at_58) ?_
    show Steps p.tables e below (s₁.setTop (mkF m 61 #[.val (.int p0), .val (.int p1), .val (.int p2), .val (.long q3), .second, .val (.int p4), .val (.int lc), .val (.int ln), .val (.int le), .val (.int fv), .val (.int tv), .unset, .unset, .unset, .unset] [(.int (255 : Int32)), (.int p4)])) t
    refine XS.iand X0.here hx rfl (hb hby at_61) rfl ?_
    show Steps p.tables e below (s₁.setTop (mkF m 62 #[.val (.int p0), .val (.int p1), .val (.int p2), .val (.long q3), .second, .val (.int p4), .val (.int lc), .val (.int ln), .val (.int le), .val (.int fv), .val (.int tv), .unset, .unset, .unset, .unset] [(.int (p4 &&& (255 : Int32)))])) t
    refine XS.iload X0.here hx rfl (hb hby at_62) rfl ?_
    show Steps p.tables e below (s₁.setTop (mkF m 64 #[.val (.int p0), .val (.int p1), .val (.int p2), .val (.long q3), .second, .val (.int p4), .val (.int lc), .val (.int ln), .val (.int le), .val (.int fv), .val (.int tv), .unset, .unset, .unset, .unset] [(.int lc), (.int (p4 &&& (255 : Int32)))])) t
    refine iremM X0 hx rfl (hb hby at_64) rfl (own_nz (own_one3 hlc).1) ?_
    show Steps p.tables e below (s₁.setTop (mkF m 65 #[.val (.int p0), .val (.int p1), .val (.int p2), .val (.long q3), .second, .val (.int p4), .val (.int lc), .val (.int ln), .val (.int le), .val (.int fv), .val (.int tv), .unset, .unset, .unset, .unset] [(.int ((p4 &&& (255 : Int32)) % lc))])) t
    exact kt
  obtain ⟨qv, hqv⟩ : ∃ z, z = ((p4 &&& (255 : Int32)) % lc) := ⟨_, rfl⟩
  rw [← hqv]
  refine own_go (T' := s₁) (f' := (mkF m 78 #[.val (.int p0), .val (.int p1), .val (.int p2), .val (.long q3), .second, .val (.int p4), .val (.int lc), .val (.int ln), .val (.int le), .val (.int fv), .val (.int tv), .val (.int qv), .unset, .unset, .unset] [(.int ((((p4.toUInt32 >>> ((8 : Int32) &&& 31).toUInt32).toInt32) &&& (65535 : Int32)) % le))])) (fun t kt => ?_) ?_
  · show Steps p.tables e below (s₁.setTop (mkF m 65 #[.val (.int p0), .val (.int p1), .val (.int p2), .val (.long q3), .second, .val (.int p4), .val (.int lc), .val (.int ln), .val (.int le), .val (.int fv), .val (.int tv), .unset, .unset, .unset, .unset] [(.int qv)])) t
    refine XS.istore X0.here hx rfl (hb hby at_65) rfl (l' := #[.val (.int p0), .val (.int p1), .val (.int p2), .val (.long q3), .second, .val (.int p4), .val (.int lc), .val (.int ln), .val (.int le), .val (.int fv), .val (.int tv), .val (.int qv), .unset, .unset, .unset]) rfl ?_
    show Steps p.tables e below (s₁.setTop (mkF m 67 #[.val (.int p0), .val (.int p1), .val (.int p2), .val (.long q3), .second, .val (.int p4), .val (.int lc), .val (.int ln), .val (.int le), .val (.int fv), .val (.int tv), .val (.int qv), .unset, .unset, .unset] [])) t
    refine XS.iload X0.here hx rfl (hb hby at_67) rfl ?_
    show Steps p.tables e below (s₁.setTop (mkF m 69 #[.val (.int p0), .val (.int p1), .val (.int p2), .val (.long q3), .second, .val (.int p4), .val (.int lc), .val (.int ln), .val (.int le), .val (.int fv), .val (.int tv), .val (.int qv), .unset, .unset, .unset] [(.int p4)])) t
    refine XS.bipush X0.here hx rfl (hb hby at_69) ?_
    show Steps p.tables e below (s₁.setTop (mkF m 71 #[.val (.int p0), .val (.int p1), .val (.int p2), .val (.long q3), .second, .val (.int p4), .val (.int lc), .val (.int ln), .val (.int le), .val (.int fv), .val (.int tv), .val (.int qv), .unset, .unset, .unset] [(.int (8 : Int32)), (.int p4)])) t
    refine XS.iushr X0.here hx rfl (hb hby at_71) rfl ?_
    show Steps p.tables e below (s₁.setTop (mkF m 72 #[.val (.int p0), .val (.int p1), .val (.int p2), .val (.long q3), .second, .val (.int p4), .val (.int lc), .val (.int ln), .val (.int le), .val (.int fv), .val (.int tv), .val (.int qv), .unset, .unset, .unset] [(.int ((p4.toUInt32 >>> ((8 : Int32) &&& 31).toUInt32).toInt32))])) t
    refine X0.ldcInt hx hown (mvT hZ (hw _ (List.mem_of_getElem? (i := 1) rfl))) (g := (mkF m 72 #[.val (.int p0), .val (.int p1), .val (.int p2), .val (.long q3), .second, .val (.int p4), .val (.int lc), .val (.int ln), .val (.int le), .val (.int fv), .val (.int tv), .val (.int qv), .unset, .unset, .unset] [(.int ((p4.toUInt32 >>> ((8 : Int32) &&& 31).toUInt32).toInt32))])) rfl (hb hby at_72) _ ?_
    show Steps p.tables e below (s₁.setTop (mkF m 74 #[.val (.int p0), .val (.int p1), .val (.int p2), .val (.long q3), .second, .val (.int p4), .val (.int lc), .val (.int ln), .val (.int le), .val (.int fv), .val (.int tv), .val (.int qv), .unset, .unset, .unset] [(.int (65535 : Int32)), (.int ((p4.toUInt32 >>> ((8 : Int32) &&& 31).toUInt32).toInt32))])) t
    refine XS.iand X0.here hx rfl (hb hby at_74) rfl ?_
    show Steps p.tables e below (s₁.setTop (mkF m 75 #[.val (.int p0), .val (.int p1), .val (.int p2), .val (.long q3), .second, .val (.int p4), .val (.int lc), .val (.int ln), .val (.int le), .val (.int fv), .val (.int tv), .val (.int qv), .unset, .unset, .unset] [(.int (((p4.toUInt32 >>> ((8 : Int32) &&& 31).toUInt32).toInt32) &&& (65535 : Int32)))])) t
    refine XS.iload X0.here hx rfl (hb hby at_75) rfl ?_
    show Steps p.tables e below (s₁.setTop (mkF m 77 #[.val (.int p0), .val (.int p1), .val (.int p2), .val (.long q3), .second, .val (.int p4), .val (.int lc), .val (.int ln), .val (.int le), .val (.int fv), .val (.int tv), .val (.int qv), .unset, .unset, .unset] [(.int le), (.int (((p4.toUInt32 >>> ((8 : Int32) &&& 31).toUInt32).toInt32) &&& (65535 : Int32)))])) t
    refine iremM X0 hx rfl (hb hby at_77) rfl (own_nz (own_one255 hle).1) ?_
    show Steps p.tables e below (s₁.setTop (mkF m 78 #[.val (.int p0), .val (.int p1), .val (.int p2), .val (.long q3), .second, .val (.int p4), .val (.int lc), .val (.int ln), .val (.int le), .val (.int fv), .val (.int tv), .val (.int qv), .unset, .unset, .unset] [(.int ((((p4.toUInt32 >>> ((8 : Int32) &&& 31).toUInt32).toInt32) &&& (65535 : Int32)) % le))])) t
    exact kt
  obtain ⟨xv, hxv⟩ : ∃ z, z = ((((p4.toUInt32 >>> ((8 : Int32) &&& 31).toUInt32).toInt32) &&& (65535 : Int32)) % le) := ⟨_, rfl⟩
  rw [← hxv]
  refine own_go (T' := s₁) (f' := (mkF m 80 #[.val (.int p0), .val (.int p1), .val (.int p2), .val (.long q3), .second, .val (.int p4), .val (.int lc), .val (.int ln), .val (.int le), .val (.int fv), .val (.int tv), .val (.int qv), .val (.int xv), .unset, .unset] [])) (fun t kt => ?_) ?_
  · show Steps p.tables e below (s₁.setTop (mkF m 78 #[.val (.int p0), .val (.int p1), .val (.int p2), .val (.long q3), .second, .val (.int p4), .val (.int lc), .val (.int ln), .val (.int le), .val (.int fv), .val (.int tv), .val (.int qv), .unset, .unset, .unset] [(.int xv)])) t
    refine XS.istore X0.here hx rfl (hb hby at_78) rfl (l' := #[.val (.int p0), .val (.int p1), .val (.int p2), .val (.long q3), .second, .val (.int p4), .val (.int lc), .val (.int ln), .val (.int le), .val (.int fv), .val (.int tv), .val (.int qv), .val (.int xv), .unset, .unset]) rfl ?_
    show Steps p.tables e below (s₁.setTop (mkF m 80 #[.val (.int p0), .val (.int p1), .val (.int p2), .val (.long q3), .second, .val (.int p4), .val (.int lc), .val (.int ln), .val (.int le), .val (.int fv), .val (.int tv), .val (.int qv), .val (.int xv), .unset, .unset] [])) t
    exact kt
  have b1 := (own_one3 hlc)
  have b2 := (own_one255 hle)
  have b3 := own_rem hln (own_msk31 _) b1.1
  have b4 := (own_rem hfv (own_msk16 _) (own_one255 hle).1)
  have b5 := own_to b2 b4 (own_msk16 _) htv
  have b6 := own_rem hqv (own_msk8 _) b1.1
  have b7 := own_rem hxv (own_msk16 _) b2.1
  obtain ⟨LC, eLC⟩ := own_natof (v := lc) (by omega)
  obtain ⟨l', el⟩ := own_natof b3.1
  obtain ⟨n, en⟩ := own_natof (v := le) (by omega)
  obtain ⟨fr, ef⟩ := own_natof b4.1
  obtain ⟨t', et⟩ := own_natof (v := tv) (by omega)
  obtain ⟨q', eq⟩ := own_natof b6.1
  obtain ⟨x', ex⟩ := own_natof b7.1
  have hw4 := own_wplv en (by omega)
  have hN16 : LC * ((n + 63) / 64) ≤ 16 := Nat.mul_le_mul (show LC ≤ 4 by omega) (show (n + 63) / 64 ≤ 4 by omega)
  obtain ⟨T1, h1, X1, e1, E1, A1, D1, U1, st1⟩ := newO X0 hx hZ hown (hw _ (List.mem_of_getElem? (i := 2) rfl)) (hw _ (List.mem_of_getElem? (i := 3) rfl)) (hw _ (List.mem_of_getElem? (i := 4) rfl)) e0 (g := (mkF m 80 #[.val (.int p0), .val (.int p1), .val (.int p2), .val (.long q3), .second, .val (.int p4), .val (.int lc), .val (.int ln), .val (.int le), .val (.int fv), .val (.int tv), .val (.int qv), .val (.int xv), .unset, .unset] [])) rfl (hb hby at_80) (by decide) (by decide)
  obtain ⟨b1, y1⟩ : ∃ z, z = h0.size := ⟨_, rfl⟩
  rw [← y1] at A1 D1 U1 st1
  have g_b1 : n0 ≤ b1 := Nat.le_trans Z0 (Nat.le_of_eq y1.symm)
  have sz_b1 : h0.size ≤ b1 := Nat.le_trans K0.1 (Nat.le_of_eq y1.symm)
  have ZE1 : n0 ≤ h1.size := Nat.le_trans Z0 E1.1
  have KKE1 := K0.ext E1
  refine own_go st1 ?_
  have K_b1 := own_K_new U1
  refine own_go (T' := T1) (f' := (mkF m 88 #[.val (.int p0), .val (.int p1), .val (.int p2), .val (.long q3), .second, .val (.int p4), .val (.int lc), .val (.int ln), .val (.int le), .val (.int fv), .val (.int tv), .val (.int qv), .val (.int xv), .unset, .unset] [(.int le), (.int lc), (.ref b1), (.ref b1)])) (fun t kt => ?_) ?_
  · show Steps p.tables e below (T1.setTop (mkF m 83 #[.val (.int p0), .val (.int p1), .val (.int p2), .val (.long q3), .second, .val (.int p4), .val (.int lc), .val (.int ln), .val (.int le), .val (.int fv), .val (.int tv), .val (.int qv), .val (.int xv), .unset, .unset] [(.ref b1)])) t
    refine XS.dup X1.here hx rfl (hb hby at_83) rfl rfl ?_
    show Steps p.tables e below (T1.setTop (mkF m 84 #[.val (.int p0), .val (.int p1), .val (.int p2), .val (.long q3), .second, .val (.int p4), .val (.int lc), .val (.int ln), .val (.int le), .val (.int fv), .val (.int tv), .val (.int qv), .val (.int xv), .unset, .unset] [(.ref b1), (.ref b1)])) t
    refine XS.iload X1.here hx rfl (hb hby at_84) rfl ?_
    show Steps p.tables e below (T1.setTop (mkF m 86 #[.val (.int p0), .val (.int p1), .val (.int p2), .val (.long q3), .second, .val (.int p4), .val (.int lc), .val (.int ln), .val (.int le), .val (.int fv), .val (.int tv), .val (.int qv), .val (.int xv), .unset, .unset] [(.int lc), (.ref b1), (.ref b1)])) t
    refine XS.iload X1.here hx rfl (hb hby at_86) rfl ?_
    show Steps p.tables e below (T1.setTop (mkF m 88 #[.val (.int p0), .val (.int p1), .val (.int p2), .val (.long q3), .second, .val (.int p4), .val (.int lc), .val (.int ln), .val (.int le), .val (.int fv), .val (.int tv), .val (.int qv), .val (.int xv), .unset, .unset] [(.int le), (.int lc), (.ref b1), (.ref b1)])) t
    exact kt
  have lt2_b1 := A1.lt
  refine own_callC X1 hx hZ hown e1 rfl (hw _ (List.mem_of_getElem? (i := 5) rfl)) (hw _ (List.mem_of_getElem? (i := 6) rfl)) (hw _ (List.mem_of_getElem? (i := 4) rfl)) (hw _ (List.mem_of_getElem? (i := 7) rfl)) (by decide) (rm1 l Z aw hw b1 lc le LC n h1 n0 ZE1 A1 K_b1 g_b1 eLC (by omega) en (by omega)) (g := (mkF m 88 #[.val (.int p0), .val (.int p1), .val (.int p2), .val (.long q3), .second, .val (.int p4), .val (.int lc), .val (.int ln), .val (.int le), .val (.int fv), .val (.int tv), .val (.int qv), .val (.int xv), .unset, .unset] [(.int le), (.int lc), (.ref b1), (.ref b1)])) rfl (by rw [hml]; rfl) (argsL := [(.int lc), (.int le)]) (rest := [(.ref b1)]) (lenOf pd_3 rfl) rfl rfl (W := 1) (by show 2 * 0 + _ ≤ _; exact Nat.le_of_eq rfl) (hb hby at_88) (by decide) (by decide) (by decide) (by decide) ?_
  rintro _ T2 L2 X2 ⟨rfl, Nq2, Kq2, Pq2_0, Pq2_1, Pq2_2⟩
  have N2 := Fr.app N0 Nq2
  replace A1 := (A1.keep Kq2)
  replace K_b1 := own_K_keep K_b1 Kq2
  have ZKq2 : n0 ≤ T2.heap.size := Nat.le_trans ZE1 Kq2.1
  have KKKq2 := KKE1.trans Kq2 ((allS (Or.inr sz_b1) all0))
  obtain ⟨r2, g_r2, z_r2, F_r2, Ar_r2⟩ := Pq2_2
  have ne_b1_r2 : b1 ≠ r2 := Nat.ne_of_lt (Nat.lt_of_lt_of_le lt2_b1 z_r2)
  have ne_r2_b1 := ne_b1_r2.symm
  have sz_r2 : h0.size ≤ r2 := Nat.le_trans KKE1.1 z_r2
  refine own_go (T' := T2) (f' := (mkF m 103 #[.val (.int p0), .val (.int p1), .val (.int p2), .val (.long q3), .second, .val (.int p4), .val (.int lc), .val (.int ln), .val (.int le), .val (.int fv), .val (.int tv), .val (.int qv), .val (.int xv), .val (.ref b1), .unset] [(.int (1 : Int32)), (.long q3), (.int tv), (.int fv), (.int ln), (.ref b1)])) (fun t kt => ?_) ?_
  · show Steps p.tables e below (T2.setTop (mkF m 91 #[.val (.int p0), .val (.int p1), .val (.int p2), .val (.long q3), .second, .val (.int p4), .val (.int lc), .val (.int ln), .val (.int le), .val (.int fv), .val (.int tv), .val (.int qv), .val (.int xv), .unset, .unset] [(.ref b1)])) t
    refine XS.astore X2.here hx rfl (hb hby at_91) rfl rfl (l' := #[.val (.int p0), .val (.int p1), .val (.int p2), .val (.long q3), .second, .val (.int p4), .val (.int lc), .val (.int ln), .val (.int le), .val (.int fv), .val (.int tv), .val (.int qv), .val (.int xv), .val (.ref b1), .unset]) rfl ?_
    show Steps p.tables e below (T2.setTop (mkF m 93 #[.val (.int p0), .val (.int p1), .val (.int p2), .val (.long q3), .second, .val (.int p4), .val (.int lc), .val (.int ln), .val (.int le), .val (.int fv), .val (.int tv), .val (.int qv), .val (.int xv), .val (.ref b1), .unset] [])) t
    refine XS.aload X2.here hx rfl (hb hby at_93) rfl rfl ?_
    show Steps p.tables e below (T2.setTop (mkF m 95 #[.val (.int p0), .val (.int p1), .val (.int p2), .val (.long q3), .second, .val (.int p4), .val (.int lc), .val (.int ln), .val (.int le), .val (.int fv), .val (.int tv), .val (.int qv), .val (.int xv), .val (.ref b1), .unset] [(.ref b1)])) t
    refine XS.iload X2.here hx rfl (hb hby at_95) rfl ?_
    show Steps p.tables e below (T2.setTop (mkF m 97 #[.val (.int p0), .val (.int p1), .val (.int p2), .val (.long q3), .second, .val (.int p4), .val (.int lc), .val (.int ln), .val (.int le), .val (.int fv), .val (.int tv), .val (.int qv), .val (.int xv), .val (.ref b1), .unset] [(.int ln), (.ref b1)])) t
    refine XS.iload X2.here hx rfl (hb hby at_97) rfl ?_
    show Steps p.tables e below (T2.setTop (mkF m 99 #[.val (.int p0), .val (.int p1), .val (.int p2), .val (.long q3), .second, .val (.int p4), .val (.int lc), .val (.int ln), .val (.int le), .val (.int fv), .val (.int tv), .val (.int qv), .val (.int xv), .val (.ref b1), .unset] [(.int fv), (.int ln), (.ref b1)])) t
    refine XS.iload X2.here hx rfl (hb hby at_99) rfl ?_
    show Steps p.tables e below (T2.setTop (mkF m 101 #[.val (.int p0), .val (.int p1), .val (.int p2), .val (.long q3), .second, .val (.int p4), .val (.int lc), .val (.int ln), .val (.int le), .val (.int fv), .val (.int tv), .val (.int qv), .val (.int xv), .val (.ref b1), .unset] [(.int tv), (.int fv), (.int ln), (.ref b1)])) t
    refine XS.lloadN X2.here hx rfl (hb hby at_101) rfl ?_
    show Steps p.tables e below (T2.setTop (mkF m 102 #[.val (.int p0), .val (.int p1), .val (.int p2), .val (.long q3), .second, .val (.int p4), .val (.int lc), .val (.int ln), .val (.int le), .val (.int fv), .val (.int tv), .val (.int qv), .val (.int xv), .val (.ref b1), .unset] [(.long q3), (.int tv), (.int fv), (.int ln), (.ref b1)])) t
    refine XS.iconst X2.here hx rfl (hb hby at_102) ?_
    show Steps p.tables e below (T2.setTop (mkF m 103 #[.val (.int p0), .val (.int p1), .val (.int p2), .val (.long q3), .second, .val (.int p4), .val (.int lc), .val (.int ln), .val (.int le), .val (.int fv), .val (.int tv), .val (.int qv), .val (.int xv), .val (.ref b1), .unset] [(.int (1 : Int32)), (.long q3), (.int tv), (.int fv), (.int ln), (.ref b1)])) t
    exact kt
  refine own_callV X2 hx hZ hown rfl (hw _ (List.mem_of_getElem? (i := 20) rfl)) (hw _ (List.mem_of_getElem? (i := 21) rfl)) (notFace_of_selects (args := #[]) (mvT hZ (hw _ (List.mem_of_getElem? (i := 23) rfl)))) (hw _ (List.mem_of_getElem? (i := 23) rfl)) (hw _ (List.mem_of_getElem? (i := 22) rfl)) (hw _ (List.mem_of_getElem? (i := 4) rfl)) (hw _ (List.mem_of_getElem? (i := 24) rfl)) (by decide) (rm4 l Z aw hw b1 ln fv tv q3 (1 : Int32) r2 (own_wpl le) (LC * ((n + 63) / 64)) l' ((n + 63) / 64) fr t' T2.heap n0 ZKq2 Pq2_0 Pq2_1 F_r2 Ar_r2 g_r2 (ne_b1_r2) el (by omega) hw4 (by omega) ef et (by omega) (by omega) (own_lt (by omega) (by omega)) hN16 (by decide)) Pq2_0 (g := (mkF m 103 #[.val (.int p0), .val (.int p1), .val (.int p2), .val (.long q3), .second, .val (.int p4), .val (.int lc), .val (.int ln), .val (.int le), .val (.int fv), .val (.int tv), .val (.int qv), .val (.int xv), .val (.ref b1), .unset] [(.int (1 : Int32)), (.long q3), (.int tv), (.int fv), (.int ln), (.ref b1)])) rfl (by rw [hml]; rfl) (argsL := [(.int ln), (.int fv), (.int tv), (.long q3), (.int (1 : Int32))]) (rest := []) (lenOf pd_4 rfl) rfl rfl (W := 0) (by show 2 * 0 + _ ≤ _; exact Nat.le_of_eq rfl) (hb hby at_103) (by decide) (by decide) (by decide) (by decide) ?_
  rintro _ T3 L3 X3 ⟨rfl, Nq3, Kq3, Pq3_0⟩
  have N3 := Fr.app N2 Nq3
  replace Pq2_0 := (Pq2_0.keep Kq3)
  replace Pq2_1 := (Pq2_1.keep Kq3 (ninS (ne_b1_r2) nin0))
  replace F_r2 := (F_r2.keep Kq3 (ninS (ne_b1_r2) nin0))
  have ZKq3 : n0 ≤ T3.heap.size := Nat.le_trans ZKq2 Kq3.1
  have KKKq3 := KKKq2.trans Kq3 ((allS (Or.inr sz_r2) all0))
  obtain ⟨fl3, Al3, hfl3⟩ := Pq3_0
  refine own_go (T' := T3) (f' := (mkF m 110 #[.val (.int p0), .val (.int p1), .val (.int p2), .val (.long q3), .second, .val (.int p4), .val (.int lc), .val (.int ln), .val (.int le), .val (.int fv), .val (.int tv), .val (.int qv), .val (.int xv), .val (.ref b1), .unset] [(.int ln), (.int qv)])) (fun t kt => ?_) ?_
  · show Steps p.tables e below (T3.setTop (mkF m 106 #[.val (.int p0), .val (.int p1), .val (.int p2), .val (.long q3), .second, .val (.int p4), .val (.int lc), .val (.int ln), .val (.int le), .val (.int fv), .val (.int tv), .val (.int qv), .val (.int xv), .val (.ref b1), .unset] [])) t
    refine XS.iload X3.here hx rfl (hb hby at_106) rfl ?_
    show Steps p.tables e below (T3.setTop (mkF m 108 #[.val (.int p0), .val (.int p1), .val (.int p2), .val (.long q3), .second, .val (.int p4), .val (.int lc), .val (.int ln), .val (.int le), .val (.int fv), .val (.int tv), .val (.int qv), .val (.int xv), .val (.ref b1), .unset] [(.int qv)])) t
    refine XS.iload X3.here hx rfl (hb hby at_108) rfl ?_
    show Steps p.tables e below (T3.setTop (mkF m 110 #[.val (.int p0), .val (.int p1), .val (.int p2), .val (.long q3), .second, .val (.int p4), .val (.int lc), .val (.int ln), .val (.int le), .val (.int fv), .val (.int tv), .val (.int qv), .val (.int xv), .val (.ref b1), .unset] [(.int ln), (.int qv)])) t
    exact kt
  refine own_go (T' := T3) (f' := (mkF m 146 #[.val (.int p0), .val (.int p1), .val (.int p2), .val (.long q3), .second, .val (.int p4), .val (.int lc), .val (.int ln), .val (.int le), .val (.int fv), .val (.int tv), .val (.int qv), .val (.int xv), .val (.ref b1), .unset] [(.int (own_z (qv = ln ∧ ¬ xv < fv ∧ xv < tv ∧ ¬ (((q3.toUInt64 >>> ((xv &&& (63 : Int32)) &&& 0x3f).toInt64.toUInt64).toInt64) &&& (1 : Int64)) = (0 : Int64))))])) (fun t kt => ?_) ?_
  · by_cases hc110_4 : qv = ln
    · show Steps p.tables e below (T3.setTop (mkF m 110 #[.val (.int p0), .val (.int p1), .val (.int p2), .val (.long q3), .second, .val (.int p4), .val (.int lc), .val (.int ln), .val (.int le), .val (.int fv), .val (.int tv), .val (.int qv), .val (.int xv), .val (.ref b1), .unset] [(.int ln), (.int qv)])) t
      refine XS.icmpNo X3.here hx rfl (hb hby at_110) rfl (teq hc110_4).2 ?_
      show Steps p.tables e below (T3.setTop (mkF m 113 #[.val (.int p0), .val (.int p1), .val (.int p2), .val (.long q3), .second, .val (.int p4), .val (.int lc), .val (.int ln), .val (.int le), .val (.int fv), .val (.int tv), .val (.int qv), .val (.int xv), .val (.ref b1), .unset] [])) t
      refine XS.iload X3.here hx rfl (hb hby at_113) rfl ?_
      show Steps p.tables e below (T3.setTop (mkF m 115 #[.val (.int p0), .val (.int p1), .val (.int p2), .val (.long q3), .second, .val (.int p4), .val (.int lc), .val (.int ln), .val (.int le), .val (.int fv), .val (.int tv), .val (.int qv), .val (.int xv), .val (.ref b1), .unset] [(.int fv)])) t
      refine XS.iload X3.here hx rfl (hb hby at_115) rfl ?_
      show Steps p.tables e below (T3.setTop (mkF m 117 #[.val (.int p0), .val (.int p1), .val (.int p2), .val (.long q3), .second, .val (.int p4), .val (.int lc), .val (.int ln), .val (.int le), .val (.int fv), .val (.int tv), .val (.int qv), .val (.int xv), .val (.ref b1), .unset] [(.int xv), (.int fv)])) t
      by_cases hc117_5 : xv < fv
      · show Steps p.tables e below (T3.setTop (mkF m 117 #[.val (.int p0), .val (.int p1), .val (.int p2), .val (.long q3), .second, .val (.int p4), .val (.int lc), .val (.int ln), .val (.int le), .val (.int fv), .val (.int tv), .val (.int qv), .val (.int xv), .val (.ref b1), .unset] [(.int xv), (.int fv)])) t
        refine XS.icmpYes X3.here hx rfl (pc0 := 117) (pc' := 145) rfl (hb hby at_117) rfl (tlt hc117_5).2.2.1 (by decide) (by decide) ?_
        show Steps p.tables e below (T3.setTop (mkF m 145 #[.val (.int p0), .val (.int p1), .val (.int p2), .val (.long q3), .second, .val (.int p4), .val (.int lc), .val (.int ln), .val (.int le), .val (.int fv), .val (.int tv), .val (.int qv), .val (.int xv), .val (.ref b1), .unset] [])) t
        refine XS.iconst X3.here hx rfl (hb hby at_145) ?_
        show Steps p.tables e below (T3.setTop (mkF m 146 #[.val (.int p0), .val (.int p1), .val (.int p2), .val (.long q3), .second, .val (.int p4), .val (.int lc), .val (.int ln), .val (.int le), .val (.int fv), .val (.int tv), .val (.int qv), .val (.int xv), .val (.ref b1), .unset] [(.int (0 : Int32))])) t
        rw [own_z_f (fun h => h.2.1 hc117_5)] at kt
        exact kt
      · show Steps p.tables e below (T3.setTop (mkF m 117 #[.val (.int p0), .val (.int p1), .val (.int p2), .val (.long q3), .second, .val (.int p4), .val (.int lc), .val (.int ln), .val (.int le), .val (.int fv), .val (.int tv), .val (.int qv), .val (.int xv), .val (.ref b1), .unset] [(.int xv), (.int fv)])) t
        refine XS.icmpNo X3.here hx rfl (hb hby at_117) rfl (flt hc117_5).2.2.1 ?_
        show Steps p.tables e below (T3.setTop (mkF m 120 #[.val (.int p0), .val (.int p1), .val (.int p2), .val (.long q3), .second, .val (.int p4), .val (.int lc), .val (.int ln), .val (.int le), .val (.int fv), .val (.int tv), .val (.int qv), .val (.int xv), .val (.ref b1), .unset] [])) t
        refine XS.iload X3.here hx rfl (hb hby at_120) rfl ?_
        show Steps p.tables e below (T3.setTop (mkF m 122 #[.val (.int p0), .val (.int p1), .val (.int p2), .val (.long q3), .second, .val (.int p4), .val (.int lc), .val (.int ln), .val (.int le), .val (.int fv), .val (.int tv), .val (.int qv), .val (.int xv), .val (.ref b1), .unset] [(.int xv)])) t
        refine XS.iload X3.here hx rfl (hb hby at_122) rfl ?_
        show Steps p.tables e below (T3.setTop (mkF m 124 #[.val (.int p0), .val (.int p1), .val (.int p2), .val (.long q3), .second, .val (.int p4), .val (.int lc), .val (.int ln), .val (.int le), .val (.int fv), .val (.int tv), .val (.int qv), .val (.int xv), .val (.ref b1), .unset] [(.int tv), (.int xv)])) t
        by_cases hc124_6 : xv < tv
        · show Steps p.tables e below (T3.setTop (mkF m 124 #[.val (.int p0), .val (.int p1), .val (.int p2), .val (.long q3), .second, .val (.int p4), .val (.int lc), .val (.int ln), .val (.int le), .val (.int fv), .val (.int tv), .val (.int qv), .val (.int xv), .val (.ref b1), .unset] [(.int tv), (.int xv)])) t
          refine XS.icmpNo X3.here hx rfl (hb hby at_124) rfl (tlt hc124_6).2.1 ?_
          show Steps p.tables e below (T3.setTop (mkF m 127 #[.val (.int p0), .val (.int p1), .val (.int p2), .val (.long q3), .second, .val (.int p4), .val (.int lc), .val (.int ln), .val (.int le), .val (.int fv), .val (.int tv), .val (.int qv), .val (.int xv), .val (.ref b1), .unset] [])) t
          refine XS.lloadN X3.here hx rfl (hb hby at_127) rfl ?_
          show Steps p.tables e below (T3.setTop (mkF m 128 #[.val (.int p0), .val (.int p1), .val (.int p2), .val (.long q3), .second, .val (.int p4), .val (.int lc), .val (.int ln), .val (.int le), .val (.int fv), .val (.int tv), .val (.int qv), .val (.int xv), .val (.ref b1), .unset] [(.long q3)])) t
          refine XS.iload X3.here hx rfl (hb hby at_128) rfl ?_
          show Steps p.tables e below (T3.setTop (mkF m 130 #[.val (.int p0), .val (.int p1), .val (.int p2), .val (.long q3), .second, .val (.int p4), .val (.int lc), .val (.int ln), .val (.int le), .val (.int fv), .val (.int tv), .val (.int qv), .val (.int xv), .val (.ref b1), .unset] [(.int xv), (.long q3)])) t
          refine XS.bipush X3.here hx rfl (hb hby at_130) ?_
          show Steps p.tables e below (T3.setTop (mkF m 132 #[.val (.int p0), .val (.int p1), .val (.int p2), .val (.long q3), .second, .val (.int p4), .val (.int lc), .val (.int ln), .val (.int le), .val (.int fv), .val (.int tv), .val (.int qv), .val (.int xv), .val (.ref b1), .unset] [(.int (63 : Int32)), (.int xv), (.long q3)])) t
          refine XS.iand X3.here hx rfl (hb hby at_132) rfl ?_
          show Steps p.tables e below (T3.setTop (mkF m 133 #[.val (.int p0), .val (.int p1), .val (.int p2), .val (.long q3), .second, .val (.int p4), .val (.int lc), .val (.int ln), .val (.int le), .val (.int fv), .val (.int tv), .val (.int qv), .val (.int xv), .val (.ref b1), .unset] [(.int (xv &&& (63 : Int32))), (.long q3)])) t
          refine XS.lushr X3.here hx rfl (hb hby at_133) rfl ?_
          show Steps p.tables e below (T3.setTop (mkF m 134 #[.val (.int p0), .val (.int p1), .val (.int p2), .val (.long q3), .second, .val (.int p4), .val (.int lc), .val (.int ln), .val (.int le), .val (.int fv), .val (.int tv), .val (.int qv), .val (.int xv), .val (.ref b1), .unset] [(.long ((q3.toUInt64 >>> ((xv &&& (63 : Int32)) &&& 0x3f).toInt64.toUInt64).toInt64))])) t
          refine XS.lconst X3.here hx rfl (hb hby at_134) ?_
          show Steps p.tables e below (T3.setTop (mkF m 135 #[.val (.int p0), .val (.int p1), .val (.int p2), .val (.long q3), .second, .val (.int p4), .val (.int lc), .val (.int ln), .val (.int le), .val (.int fv), .val (.int tv), .val (.int qv), .val (.int xv), .val (.ref b1), .unset] [(.long (1 : Int64)), (.long ((q3.toUInt64 >>> ((xv &&& (63 : Int32)) &&& 0x3f).toInt64.toUInt64).toInt64))])) t
          refine XS.land X3.here hx rfl (hb hby at_135) rfl ?_
          show Steps p.tables e below (T3.setTop (mkF m 136 #[.val (.int p0), .val (.int p1), .val (.int p2), .val (.long q3), .second, .val (.int p4), .val (.int lc), .val (.int ln), .val (.int le), .val (.int fv), .val (.int tv), .val (.int qv), .val (.int xv), .val (.ref b1), .unset] [(.long (((q3.toUInt64 >>> ((xv &&& (63 : Int32)) &&& 0x3f).toInt64.toUInt64).toInt64) &&& (1 : Int64)))])) t
          refine XS.lconst X3.here hx rfl (hb hby at_136) ?_
          show Steps p.tables e below (T3.setTop (mkF m 137 #[.val (.int p0), .val (.int p1), .val (.int p2), .val (.long q3), .second, .val (.int p4), .val (.int lc), .val (.int ln), .val (.int le), .val (.int fv), .val (.int tv), .val (.int qv), .val (.int xv), .val (.ref b1), .unset] [(.long (0 : Int64)), (.long (((q3.toUInt64 >>> ((xv &&& (63 : Int32)) &&& 0x3f).toInt64.toUInt64).toInt64) &&& (1 : Int64)))])) t
          refine XS.lcmp X3.here hx rfl (hb hby at_137) rfl ?_
          show Steps p.tables e below (T3.setTop (mkF m 138 #[.val (.int p0), .val (.int p1), .val (.int p2), .val (.long q3), .second, .val (.int p4), .val (.int lc), .val (.int ln), .val (.int le), .val (.int fv), .val (.int tv), .val (.int qv), .val (.int xv), .val (.ref b1), .unset] [(.int (lcmpW (((q3.toUInt64 >>> ((xv &&& (63 : Int32)) &&& 0x3f).toInt64.toUInt64).toInt64) &&& (1 : Int64)) (0 : Int64)))])) t
          by_cases hc138_7 : (((q3.toUInt64 >>> ((xv &&& (63 : Int32)) &&& 0x3f).toInt64.toUInt64).toInt64) &&& (1 : Int64)) = (0 : Int64)
          · show Steps p.tables e below (T3.setTop (mkF m 138 #[.val (.int p0), .val (.int p1), .val (.int p2), .val (.long q3), .second, .val (.int p4), .val (.int lc), .val (.int ln), .val (.int le), .val (.int fv), .val (.int tv), .val (.int qv), .val (.int xv), .val (.ref b1), .unset] [(.int (lcmpW (((q3.toUInt64 >>> ((xv &&& (63 : Int32)) &&& 0x3f).toInt64.toUInt64).toInt64) &&& (1 : Int64)) (0 : Int64)))])) t
            refine XS.ifYes X3.here hx rfl (pc0 := 138) (pc' := 145) rfl (hb hby at_138) rfl (own_lY_eq hc138_7) (by decide) (by decide) ?_
            show Steps p.tables e below (T3.setTop (mkF m 145 #[.val (.int p0), .val (.int p1), .val (.int p2), .val (.long q3), .second, .val (.int p4), .val (.int lc), .val (.int ln), .val (.int le), .val (.int fv), .val (.int tv), .val (.int qv), .val (.int xv), .val (.ref b1), .unset] [])) t
            refine XS.iconst X3.here hx rfl (hb hby at_145) ?_
            show Steps p.tables e below (T3.setTop (mkF m 146 #[.val (.int p0), .val (.int p1), .val (.int p2), .val (.long q3), .second, .val (.int p4), .val (.int lc), .val (.int ln), .val (.int le), .val (.int fv), .val (.int tv), .val (.int qv), .val (.int xv), .val (.ref b1), .unset] [(.int (0 : Int32))])) t
            rw [own_z_f (fun h => h.2.2.2 hc138_7)] at kt
            exact kt
          · show Steps p.tables e below (T3.setTop (mkF m 138 #[.val (.int p0), .val (.int p1), .val (.int p2), .val (.long q3), .second, .val (.int p4), .val (.int lc), .val (.int ln), .val (.int le), .val (.int fv), .val (.int tv), .val (.int qv), .val (.int xv), .val (.ref b1), .unset] [(.int (lcmpW (((q3.toUInt64 >>> ((xv &&& (63 : Int32)) &&& 0x3f).toInt64.toUInt64).toInt64) &&& (1 : Int64)) (0 : Int64)))])) t
            refine XS.ifNo X3.here hx rfl (hb hby at_138) rfl (own_lN_eq hc138_7) ?_
            show Steps p.tables e below (T3.setTop (mkF m 141 #[.val (.int p0), .val (.int p1), .val (.int p2), .val (.long q3), .second, .val (.int p4), .val (.int lc), .val (.int ln), .val (.int le), .val (.int fv), .val (.int tv), .val (.int qv), .val (.int xv), .val (.ref b1), .unset] [])) t
            refine XS.iconst X3.here hx rfl (hb hby at_141) ?_
            show Steps p.tables e below (T3.setTop (mkF m 142 #[.val (.int p0), .val (.int p1), .val (.int p2), .val (.long q3), .second, .val (.int p4), .val (.int lc), .val (.int ln), .val (.int le), .val (.int fv), .val (.int tv), .val (.int qv), .val (.int xv), .val (.ref b1), .unset] [(.int (1 : Int32))])) t
            refine XS.goto X3.here hx rfl (pc0 := 142) (pc' := 146) rfl (hb hby at_142) (by decide) (by decide) ?_
            show Steps p.tables e below (T3.setTop (mkF m 146 #[.val (.int p0), .val (.int p1), .val (.int p2), .val (.long q3), .second, .val (.int p4), .val (.int lc), .val (.int ln), .val (.int le), .val (.int fv), .val (.int tv), .val (.int qv), .val (.int xv), .val (.ref b1), .unset] [(.int (1 : Int32))])) t
            rw [own_z_t ⟨hc110_4, hc117_5, hc124_6, hc138_7⟩] at kt
            exact kt
        · show Steps p.tables e below (T3.setTop (mkF m 124 #[.val (.int p0), .val (.int p1), .val (.int p2), .val (.long q3), .second, .val (.int p4), .val (.int lc), .val (.int ln), .val (.int le), .val (.int fv), .val (.int tv), .val (.int qv), .val (.int xv), .val (.ref b1), .unset] [(.int tv), (.int xv)])) t
          refine XS.icmpYes X3.here hx rfl (pc0 := 124) (pc' := 145) rfl (hb hby at_124) rfl (flt hc124_6).2.1 (by decide) (by decide) ?_
          show Steps p.tables e below (T3.setTop (mkF m 145 #[.val (.int p0), .val (.int p1), .val (.int p2), .val (.long q3), .second, .val (.int p4), .val (.int lc), .val (.int ln), .val (.int le), .val (.int fv), .val (.int tv), .val (.int qv), .val (.int xv), .val (.ref b1), .unset] [])) t
          refine XS.iconst X3.here hx rfl (hb hby at_145) ?_
          show Steps p.tables e below (T3.setTop (mkF m 146 #[.val (.int p0), .val (.int p1), .val (.int p2), .val (.long q3), .second, .val (.int p4), .val (.int lc), .val (.int ln), .val (.int le), .val (.int fv), .val (.int tv), .val (.int qv), .val (.int xv), .val (.ref b1), .unset] [(.int (0 : Int32))])) t
          rw [own_z_f (fun h => hc124_6 h.2.2.1)] at kt
          exact kt
    · show Steps p.tables e below (T3.setTop (mkF m 110 #[.val (.int p0), .val (.int p1), .val (.int p2), .val (.long q3), .second, .val (.int p4), .val (.int lc), .val (.int ln), .val (.int le), .val (.int fv), .val (.int tv), .val (.int qv), .val (.int xv), .val (.ref b1), .unset] [(.int ln), (.int qv)])) t
      refine XS.icmpYes X3.here hx rfl (pc0 := 110) (pc' := 145) rfl (hb hby at_110) rfl (feq hc110_4).2 (by decide) (by decide) ?_
      show Steps p.tables e below (T3.setTop (mkF m 145 #[.val (.int p0), .val (.int p1), .val (.int p2), .val (.long q3), .second, .val (.int p4), .val (.int lc), .val (.int ln), .val (.int le), .val (.int fv), .val (.int tv), .val (.int qv), .val (.int xv), .val (.ref b1), .unset] [])) t
      refine XS.iconst X3.here hx rfl (hb hby at_145) ?_
      show Steps p.tables e below (T3.setTop (mkF m 146 #[.val (.int p0), .val (.int p1), .val (.int p2), .val (.long q3), .second, .val (.int p4), .val (.int lc), .val (.int ln), .val (.int le), .val (.int fv), .val (.int tv), .val (.int qv), .val (.int xv), .val (.ref b1), .unset] [(.int (0 : Int32))])) t
      rw [own_z_f (fun h => hc110_4 h.1)] at kt
      exact kt
  refine own_go (T' := T3) (f' := (mkF m 154 #[.val (.int p0), .val (.int p1), .val (.int p2), .val (.long q3), .second, .val (.int p4), .val (.int lc), .val (.int ln), .val (.int le), .val (.int fv), .val (.int tv), .val (.int qv), .val (.int xv), .val (.ref b1), .val (.int (own_z (qv = ln ∧ ¬ xv < fv ∧ xv < tv ∧ ¬ (((q3.toUInt64 >>> ((xv &&& (63 : Int32)) &&& 0x3f).toInt64.toUInt64).toInt64) &&& (1 : Int64)) = (0 : Int64))))] [(.int xv), (.int qv), (.ref b1)])) (fun t kt => ?_) ?_
  · show Steps p.tables e below (T3.setTop (mkF m 146 #[.val (.int p0), .val (.int p1), .val (.int p2), .val (.long q3), .second, .val (.int p4), .val (.int lc), .val (.int ln), .val (.int le), .val (.int fv), .val (.int tv), .val (.int qv), .val (.int xv), .val (.ref b1), .unset] [(.int (own_z (qv = ln ∧ ¬ xv < fv ∧ xv < tv ∧ ¬ (((q3.toUInt64 >>> ((xv &&& (63 : Int32)) &&& 0x3f).toInt64.toUInt64).toInt64) &&& (1 : Int64)) = (0 : Int64))))])) t
    refine XS.istore X3.here hx rfl (hb hby at_146) rfl (l' := #[.val (.int p0), .val (.int p1), .val (.int p2), .val (.long q3), .second, .val (.int p4), .val (.int lc), .val (.int ln), .val (.int le), .val (.int fv), .val (.int tv), .val (.int qv), .val (.int xv), .val (.ref b1), .val (.int (own_z (qv = ln ∧ ¬ xv < fv ∧ xv < tv ∧ ¬ (((q3.toUInt64 >>> ((xv &&& (63 : Int32)) &&& 0x3f).toInt64.toUInt64).toInt64) &&& (1 : Int64)) = (0 : Int64))))]) rfl ?_
    show Steps p.tables e below (T3.setTop (mkF m 148 #[.val (.int p0), .val (.int p1), .val (.int p2), .val (.long q3), .second, .val (.int p4), .val (.int lc), .val (.int ln), .val (.int le), .val (.int fv), .val (.int tv), .val (.int qv), .val (.int xv), .val (.ref b1), .val (.int (own_z (qv = ln ∧ ¬ xv < fv ∧ xv < tv ∧ ¬ (((q3.toUInt64 >>> ((xv &&& (63 : Int32)) &&& 0x3f).toInt64.toUInt64).toInt64) &&& (1 : Int64)) = (0 : Int64))))] [])) t
    refine XS.aload X3.here hx rfl (hb hby at_148) rfl rfl ?_
    show Steps p.tables e below (T3.setTop (mkF m 150 #[.val (.int p0), .val (.int p1), .val (.int p2), .val (.long q3), .second, .val (.int p4), .val (.int lc), .val (.int ln), .val (.int le), .val (.int fv), .val (.int tv), .val (.int qv), .val (.int xv), .val (.ref b1), .val (.int (own_z (qv = ln ∧ ¬ xv < fv ∧ xv < tv ∧ ¬ (((q3.toUInt64 >>> ((xv &&& (63 : Int32)) &&& 0x3f).toInt64.toUInt64).toInt64) &&& (1 : Int64)) = (0 : Int64))))] [(.ref b1)])) t
    refine XS.iload X3.here hx rfl (hb hby at_150) rfl ?_
    show Steps p.tables e below (T3.setTop (mkF m 152 #[.val (.int p0), .val (.int p1), .val (.int p2), .val (.long q3), .second, .val (.int p4), .val (.int lc), .val (.int ln), .val (.int le), .val (.int fv), .val (.int tv), .val (.int qv), .val (.int xv), .val (.ref b1), .val (.int (own_z (qv = ln ∧ ¬ xv < fv ∧ xv < tv ∧ ¬ (((q3.toUInt64 >>> ((xv &&& (63 : Int32)) &&& 0x3f).toInt64.toUInt64).toInt64) &&& (1 : Int64)) = (0 : Int64))))] [(.int qv), (.ref b1)])) t
    refine XS.iload X3.here hx rfl (hb hby at_152) rfl ?_
    show Steps p.tables e below (T3.setTop (mkF m 154 #[.val (.int p0), .val (.int p1), .val (.int p2), .val (.long q3), .second, .val (.int p4), .val (.int lc), .val (.int ln), .val (.int le), .val (.int fv), .val (.int tv), .val (.int qv), .val (.int xv), .val (.ref b1), .val (.int (own_z (qv = ln ∧ ¬ xv < fv ∧ xv < tv ∧ ¬ (((q3.toUInt64 >>> ((xv &&& (63 : Int32)) &&& 0x3f).toInt64.toUInt64).toInt64) &&& (1 : Int64)) = (0 : Int64))))] [(.int xv), (.int qv), (.ref b1)])) t
    exact kt
  refine own_callVp X3 hx hZ hown rfl (hw _ (List.mem_of_getElem? (i := 30) rfl)) (hw _ (List.mem_of_getElem? (i := 31) rfl)) (notFace_of_selects (args := #[]) (mvT hZ (hw _ (List.mem_of_getElem? (i := 33) rfl)))) (hw _ (List.mem_of_getElem? (i := 33) rfl)) (hw _ (List.mem_of_getElem? (i := 32) rfl)) (hw _ (List.mem_of_getElem? (i := 4) rfl)) (hw _ (List.mem_of_getElem? (i := 34) rfl)) (by decide) (rm6 l Z aw hw b1 qv xv r2 (own_wpl le) (LC * ((n + 63) / 64)) fl3 q' ((n + 63) / 64) x' T3.heap n0 ZKq3 Pq2_1 F_r2 Al3 eq (by omega) hw4 (by omega) ex (by omega) (own_lt (by omega) (by omega))) Pq2_0 (g := (mkF m 154 #[.val (.int p0), .val (.int p1), .val (.int p2), .val (.long q3), .second, .val (.int p4), .val (.int lc), .val (.int ln), .val (.int le), .val (.int fv), .val (.int tv), .val (.int qv), .val (.int xv), .val (.ref b1), .val (.int (own_z (qv = ln ∧ ¬ xv < fv ∧ xv < tv ∧ ¬ (((q3.toUInt64 >>> ((xv &&& (63 : Int32)) &&& 0x3f).toInt64.toUInt64).toInt64) &&& (1 : Int64)) = (0 : Int64))))] [(.int xv), (.int qv), (.ref b1)])) rfl (by rw [hml]; rfl) (argsL := [(.int qv), (.int xv)]) (rest := []) (lenOf pd_5 rfl) rfl rfl (W := 0) (by show 2 * 0 + _ ≤ _; exact Nat.le_of_eq rfl) (hb hby at_154) (by decide) (by decide) (by decide) (by decide) ?_
  intro T8 X8 e8
  refine own_go (T' := T8) (f' := (mkF m 167 #[.val (.int p0), .val (.int p1), .val (.int p2), .val (.long q3), .second, .val (.int p4), .val (.int lc), .val (.int ln), .val (.int le), .val (.int fv), .val (.int tv), .val (.int qv), .val (.int xv), .val (.ref b1), .val (.int (own_z (qv = ln ∧ ¬ xv < fv ∧ xv < tv ∧ ¬ (((q3.toUInt64 >>> ((xv &&& (63 : Int32)) &&& 0x3f).toInt64.toUInt64).toInt64) &&& (1 : Int64)) = (0 : Int64))))] [(.int (1 : Int32))])) (fun t kt => ?_) ?_
  · show Steps p.tables e below (T8.setTop (mkF m 157 #[.val (.int p0), .val (.int p1), .val (.int p2), .val (.long q3), .second, .val (.int p4), .val (.int lc), .val (.int ln), .val (.int le), .val (.int fv), .val (.int tv), .val (.int qv), .val (.int xv), .val (.ref b1), .val (.int (own_z (qv = ln ∧ ¬ xv < fv ∧ xv < tv ∧ ¬ (((q3.toUInt64 >>> ((xv &&& (63 : Int32)) &&& 0x3f).toInt64.toUInt64).toInt64) &&& (1 : Int64)) = (0 : Int64))))] [(.int (own_z (own_bit (fl3 (q' * ((n + 63) / 64) + x' / 64)) (x' % 64) = true)))])) t
    refine XS.iload X8.here hx rfl (hb hby at_157) rfl ?_
    show Steps p.tables e below (T8.setTop (mkF m 159 #[.val (.int p0), .val (.int p1), .val (.int p2), .val (.long q3), .second, .val (.int p4), .val (.int lc), .val (.int ln), .val (.int le), .val (.int fv), .val (.int tv), .val (.int qv), .val (.int xv), .val (.ref b1), .val (.int (own_z (qv = ln ∧ ¬ xv < fv ∧ xv < tv ∧ ¬ (((q3.toUInt64 >>> ((xv &&& (63 : Int32)) &&& 0x3f).toInt64.toUInt64).toInt64) &&& (1 : Int64)) = (0 : Int64))))] [(.int (own_z (qv = ln ∧ ¬ xv < fv ∧ xv < tv ∧ ¬ (((q3.toUInt64 >>> ((xv &&& (63 : Int32)) &&& 0x3f).toInt64.toUInt64).toInt64) &&& (1 : Int64)) = (0 : Int64)))), (.int (own_z (own_bit (fl3 (q' * ((n + 63) / 64) + x' / 64)) (x' % 64) = true)))])) t
    refine XS.icmpNo X8.here hx rfl (hb hby at_159) rfl (teq (show (own_z (own_bit (fl3 (q' * ((n + 63) / 64) + x' / 64)) (x' % 64) = true)) = (own_z (qv = ln ∧ ¬ xv < fv ∧ xv < tv ∧ ¬ (((q3.toUInt64 >>> ((xv &&& (63 : Int32)) &&& 0x3f).toInt64.toUInt64).toInt64) &&& (1 : Int64)) = (0 : Int64))) from own_z_congr (own_fin (W := ((n + 63) / 64)) (n := n) hfl3 rfl (by omega) (by omega) (by omega) (by omega) (by omega) el eq ef et ex))).2 ?_
    show Steps p.tables e below (T8.setTop (mkF m 162 #[.val (.int p0), .val (.int p1), .val (.int p2), .val (.long q3), .second, .val (.int p4), .val (.int lc), .val (.int ln), .val (.int le), .val (.int fv), .val (.int tv), .val (.int qv), .val (.int xv), .val (.ref b1), .val (.int (own_z (qv = ln ∧ ¬ xv < fv ∧ xv < tv ∧ ¬ (((q3.toUInt64 >>> ((xv &&& (63 : Int32)) &&& 0x3f).toInt64.toUInt64).toInt64) &&& (1 : Int64)) = (0 : Int64))))] [])) t
    refine XS.iconst X8.here hx rfl (hb hby at_162) ?_
    show Steps p.tables e below (T8.setTop (mkF m 163 #[.val (.int p0), .val (.int p1), .val (.int p2), .val (.long q3), .second, .val (.int p4), .val (.int lc), .val (.int ln), .val (.int le), .val (.int fv), .val (.int tv), .val (.int qv), .val (.int xv), .val (.ref b1), .val (.int (own_z (qv = ln ∧ ¬ xv < fv ∧ xv < tv ∧ ¬ (((q3.toUInt64 >>> ((xv &&& (63 : Int32)) &&& 0x3f).toInt64.toUInt64).toInt64) &&& (1 : Int64)) = (0 : Int64))))] [(.int (1 : Int32))])) t
    refine XS.goto X8.here hx rfl (pc0 := 163) (pc' := 167) rfl (hb hby at_163) (by decide) (by decide) ?_
    show Steps p.tables e below (T8.setTop (mkF m 167 #[.val (.int p0), .val (.int p1), .val (.int p2), .val (.long q3), .second, .val (.int p4), .val (.int lc), .val (.int ln), .val (.int le), .val (.int fv), .val (.int tv), .val (.int qv), .val (.int xv), .val (.ref b1), .val (.int (own_z (qv = ln ∧ ¬ xv < fv ∧ xv < tv ∧ ¬ (((q3.toUInt64 >>> ((xv &&& (63 : Int32)) &&& 0x3f).toInt64.toUInt64).toInt64) &&& (1 : Int64)) = (0 : Int64))))] [(.int (1 : Int32))])) t
    exact kt
  exact own_retN X8 hP hx hlk e8 (t := .boolean) hret (by simp) (hb hby at_167) (by decide) (by decide) (z' := (1 : Int32)) rfl ⟨rfl, N3⟩
set_option maxRecDepth 65536 in
set_option maxHeartbeats 40000000 in
theorem comes_1 {Post : Tables → Env → Array Value → State → Outcome → State → Prop} (hpost : ∀ tb e args s v u, (limb_1_1.after args s (.returned v) u = true ∧ limb_1_2.after args s (.returned v) u = true ∧ True) → FrameEnd s (.returned v) u (Jvm.fieldLocs frame_1_writes args s ++ Jvm.arrayLocs frame_1_arrays args s ++ Jvm.staticLocs frame_1_statics s) 16 128 → Post tb e args s (.returned v) u) :
    ArmFor flags0 classFile x code maxLocals ret World_1 tables_1 room_1 Calls_1 rest_1 Pre_1 Post := by
  intro l hfl _ _ p e ha hc hk s m args below hf hA hF happ hP
  obtain ⟨hcalls, hrest, hpre⟩ := hP
  obtain ⟨-, -, -, hnamed, -, -, -, hat⟩ := (Spec.applies_iff hf).mp happ
  obtain ⟨hg, hn⟩ := and_e (Cond.before_iff.mp (show (Jvm.Cond.and given_1 narrow_1).before args s = true from hpre))
  obtain ⟨k1, k2⟩ := and_e hg
  obtain ⟨k3, k4⟩ := and_e k2
  obtain ⟨k5, k6⟩ := and_e k4
  obtain ⟨k7, k8⟩ := and_e k6
  obtain ⟨k9, k10⟩ := and_e k8
  obtain ⟨w0, w1, w2, w3, w4, rfl⟩ : ∃ w0 w1 w2 w3 w4 : Value, args = #[w0, w1, w2, w3, w4] := by
    have hs : args.size = 5 := by simpa [Cond.value, given_1] using k1
    obtain ⟨L⟩ := args
    match L, hs with
    | [w0, w1, w2, w3, w4], _ => exact ⟨w0, w1, w2, w3, w4, rfl⟩
  have hw := fun d (hd : d ∈ tables_1) => atoms_spec (ws := Jvm.Cond.code x code maxLocals ret :: tables_1) hat d (List.mem_cons_of_mem _ hd)
  obtain ⟨i0, ei0⟩ := is_v k3
  obtain rfl : w0 = (.int i0) := Option.some.inj ei0
  obtain ⟨i1, ei1⟩ := is_v k5
  obtain rfl : w1 = (.int i1) := Option.some.inj ei1
  obtain ⟨i2, ei2⟩ := is_v k7
  obtain rfl : w2 = (.int i2) := Option.some.inj ei2
  obtain ⟨i3, ei3⟩ := isL_v k9
  obtain rfl : w3 = (.long i3) := Option.some.inj ei3
  obtain ⟨i4, ei4⟩ := is_v k10
  obtain rfl : w4 = (.int i4) := Option.some.inj ei4
  obtain ⟨n, o, h1, h2, h3, _, L, rfl, ⟨rfl, N⟩, hq⟩ := rm0 l s _ hw (ws := tables_1) i0 i1 i2 i3 i4 s.heap s.heap.size (Nat.le_refl _)  p e ha hc hk s m _ below hf ((Spec.applies_iff_loose hf).mp happ).1 ⟨rfl, State.Warmed39.refl s, rfl⟩ trivial
  refine ⟨n, _, h1, h2, h3, hpost _ _ _ _ _ _ ⟨Cond.after_iff.mpr rfl, Cond.after_iff.mpr (eq_i res_at (Term.int_eval (1)) rfl), trivial⟩ ⟨hq.1, hq.2.1, (hq.2.2.sift fun y hy => Or.inr (N y hy)).mono (by decide) (by decide)⟩⟩
theorem main_1_1 : Claimed_1_1 := comes_1 fun _ _ _ _ _ _ h hF => ⟨h.1, hF⟩
theorem main_1_2 : Claimed_1_2 := comes_1 fun _ _ _ _ _ _ h hF => ⟨h.2.1, hF⟩
end Jvm.Pilot.@@N@@
namespace Jvm.Pilot.@@N@@
open Jvm Jvm.ClassFile Sem Op Lib Jvm.Free Jvm.Stand Jvm.Pilot.@@N@@.Jvm.D
/-! MADE BY PROGRAM (witnessworld.py) out of the Statement's table words and the real class files: 12 classes; the members and pool entries that the words name. The judged class is class 1, her method 1. -/
namespace start1
open Jvm.ClassFile
def u (s : String) : CpInfo := .utf8 (stringToUtf16 s)
/-- a pool by its gaps: so many unusable entries, then the entry; so many at the end -/
def gap : Nat → List CpInfo → List CpInfo
  | 0, r => r
  | n + 1, r => .unusable :: gap n r
def poolList (es : List (Nat × CpInfo)) (last : Nat) : List CpInfo := es.foldr (fun e r => gap e.1 (e.2 :: r)) (gap last [])
def pool (es : List (Nat × CpInfo)) (last : Nat) : Array CpInfo := ⟨poolList es last⟩
def fileOf (pool : Array CpInfo) (this : Nat) (attrs : Array Attribute := #[]) (ms : Array MethodInfo := #[]) (fl : Nat := 33) (sup : Nat := 0) (ifs : Array Nat := #[]) (fds : Array FieldInfo := #[]) : ClassFile where
  minorVersion := 0
  majorVersion := 65
  constantPool := pool
  accessFlags := fl
  thisClass := this
  superClass := sup
  interfaces := ifs
  fields := fds
  methods := ms
  attributes := attrs
def plain (name : String) (sup : Option ClassId) : Class where
  name := name
  kind := .ordinary
  loader := none
  accessFlags := 33
  super := sup
  interfaces := #[]
  cf := none
  fields := #[]
  methods := #[]
  instanceTypes := #[]
  staticTypes := #[]
  resolved := #[]
  callSites := []
  init := .initialized
  statics := none
  mirror := none

def pool0 : Array CpInfo := pool [(5, u "<init>"), (0, u "()V"), (1, .class_ 10), (1, u "java/lang/Object")] 113

def k0c0 : Code := { maxStack := 0, maxLocals := 1, code := object_method_1_code, exceptionTable := #[], attributes := #[] }
def k0m0 : Method := { name := "<init>", desc := "()V", sig := { parameters := [], returnType := none }, accessFlags := 1, code := some k0c0 }
/-- java/lang/Object -/
def k0 : Class := { plain "java/lang/Object" none with
  accessFlags := 33
  interfaces := #[]
  cf := some (fileOf pool0 8 #[] #[{ accessFlags := 1, nameIndex := 5, descriptorIndex := 6, attributes := #[] }] 33 0 #[] #[])
  fields := #[]
  methods := #[k0m0]
  instanceTypes := #[]
  staticTypes := #[]
  resolved := Array.replicate 124 none
  statics := none }

def pool1 : Array CpInfo := pool [(2, .class_ 4), (1, u "java/lang/Object"), (0, u "<init>"), (0, u "()V"), (0, .integer 2147483647), (0, .integer 65535), (0, .class_ 10), (0, u "com/example/humble_grid/humblegrid/BitLines"), (0, .methodref 9 12), (0, .nameAndType 5 13), (0, u "(II)V"), (0, .methodref 9 15), (0, .nameAndType 16 17), (0, u "set"), (0, u "(IIIJZ)V"), (0, .methodref 9 19), (0, .nameAndType 20 21), (0, u "get"), (0, u "(II)Z"), (0, .class_ 23), (0, u "com/example/humble_grid/humblegrid/BitLinesGetPinLaw"), (2, u "law"), (0, u "(IIIJI)Z")] 3

def k1m0 : Method := { name := "<init>", desc := "()V", sig := { parameters := [], returnType := none }, accessFlags := 1, code := none }
def k1c1 : Code := { maxStack := 7, maxLocals := 15, code := code, exceptionTable := #[], attributes := #[] }
def k1m1 : Method := { name := "law", desc := "(IIIJI)Z", sig := { parameters := [.int, .int, .int, .long, .int], returnType := some .boolean }, accessFlags := 9, code := some k1c1 }
/-- com/example/humble_grid/humblegrid/BitLinesGetPinLaw -/
def k1 : Class := { plain "com/example/humble_grid/humblegrid/BitLinesGetPinLaw" (some 0) with
  accessFlags := 49
  interfaces := #[]
  cf := some (fileOf pool1 22 #[] #[{ accessFlags := 1, nameIndex := 5, descriptorIndex := 6, attributes := #[] }, { accessFlags := 9, nameIndex := 26, descriptorIndex := 27, attributes := #[] }] 49 2 #[] #[])
  fields := #[]
  methods := #[k1m0, k1m1]
  instanceTypes := #[]
  staticTypes := #[]
  resolved := Array.replicate 31 none
  statics := none }

def pool2 : Array CpInfo := pool [(1, .methodref 2 3), (0, .class_ 4), (0, .nameAndType 5 6), (0, u "java/lang/Object"), (0, u "<init>"), (0, u "()V"), (2, .class_ 10), (0, u "com/example/humble_grid/humblegrid/BitLines"), (0, .fieldref 9 12), (0, .nameAndType 13 14), (0, u "wordsPerLine"), (0, u "I"), (0, .methodref 16 17), (0, .class_ 18), (0, .nameAndType 19 20), (0, u "java/lang/Math"), (0, u "multiplyExact"), (0, u "(II)I"), (0, .fieldref 9 22), (0, .nameAndType 23 24), (0, u "words"), (0, u "[J"), (0, .long 18446744073709551615), (18, .methodref 9 45), (0, .nameAndType 46 47), (0, u "setBits"), (0, u "(IJZ)V"), (0, .methodref 9 49), (0, .nameAndType 50 51), (0, u "setAcross"), (0, u "(IIIIJZ)V"), (3, u "WORD_SHIFT"), (2, u "(II)V"), (2, u "get"), (0, u "(II)Z"), (3, u "set"), (0, u "(IIIJZ)V")] 5

def k2c0 : Code := { maxStack := 3, maxLocals := 3, code := prog_3_method_1_code, exceptionTable := #[], attributes := #[] }
def k2m0 : Method := { name := "<init>", desc := "(II)V", sig := { parameters := [.int, .int], returnType := none }, accessFlags := 0, code := some k2c0 }
def k2c1 : Code := { maxStack := 5, maxLocals := 3, code := prog_3_method_2_code, exceptionTable := #[], attributes := #[] }
def k2m1 : Method := { name := "get", desc := "(II)Z", sig := { parameters := [.int, .int], returnType := some .boolean }, accessFlags := 0, code := some k2c1 }
def k2c2 : Code := { maxStack := 8, maxLocals := 9, code := prog_3_method_8_code, exceptionTable := #[], attributes := #[] }
def k2m2 : Method := { name := "set", desc := "(IIIJZ)V", sig := { parameters := [.int, .int, .int, .long, .boolean], returnType := none }, accessFlags := 0, code := some k2c2 }
def k2c3 : Code := { maxStack := 7, maxLocals := 9, code := prog_3_method_9_code, exceptionTable := #[], attributes := #[] }
def k2m3 : Method := { name := "setAcross", desc := "(IIIIJZ)V", sig := { parameters := [.int, .int, .int, .int, .long, .boolean], returnType := none }, accessFlags := 2, code := some k2c3 }
def k2c4 : Code := { maxStack := 8, maxLocals := 5, code := prog_3_method_10_code, exceptionTable := #[], attributes := #[] }
def k2m4 : Method := { name := "setBits", desc := "(IJZ)V", sig := { parameters := [.int, .long, .boolean], returnType := none }, accessFlags := 2, code := some k2c4 }
/-- com/example/humble_grid/humblegrid/BitLines -/
def k2 : Class := { plain "com/example/humble_grid/humblegrid/BitLines" (some 0) with
  accessFlags := 32
  interfaces := #[]
  cf := some (fileOf pool2 9 #[] #[{ accessFlags := 0, nameIndex := 5, descriptorIndex := 58, attributes := #[] }, { accessFlags := 0, nameIndex := 61, descriptorIndex := 62, attributes := #[] }, { accessFlags := 0, nameIndex := 66, descriptorIndex := 67, attributes := #[] }, { accessFlags := 2, nameIndex := 50, descriptorIndex := 51, attributes := #[] }, { accessFlags := 2, nameIndex := 46, descriptorIndex := 47, attributes := #[] }] 32 2 #[] #[{ accessFlags := 26, nameIndex := 55, descriptorIndex := 14, attributes := #[] }, { accessFlags := 18, nameIndex := 23, descriptorIndex := 24, attributes := #[] }, { accessFlags := 18, nameIndex := 13, descriptorIndex := 14, attributes := #[] }])
  fields := #[{ name := "WORD_SHIFT", type := .int, accessFlags := 26, slot := 0, constantValue := 0 }, { name := "words", type := (.array .long), accessFlags := 18, slot := 0, constantValue := 0 }, { name := "wordsPerLine", type := .int, accessFlags := 18, slot := 1, constantValue := 0 }]
  methods := #[k2m0, k2m1, k2m2, k2m3, k2m4]
  instanceTypes := #[(.array .long), .int]
  staticTypes := #[.int]
  resolved := Array.replicate 73 none
  statics := none }

def pool3 : Array CpInfo := pool [(1, .class_ 2), (0, u "java/lang/Math"), (1, .class_ 6), (1, u "java/lang/Object"), (0, u "<init>"), (0, u "()V"), (89, .class_ 100), (1, u "java/lang/Math$RandomNumberGeneratorHolder"), (19, u "multiplyExact"), (51, u "negativeZeroFloatBits"), (0, u "J"), (2, u "negativeZeroDoubleBits"), (68, u "$assertionsDisabled"), (0, u "Z"), (88, u "(II)I"), (2, u "twoToTheDoubleScaleDown"), (0, u "D"), (4, u "twoToTheDoubleScaleUp"), (9, u "E"), (3, u "PI"), (2, u "TAU"), (2, u "DEGREES_TO_RADIANS"), (0, u "RADIANS_TO_DEGREES")] 94

def k3m0 : Method := { name := "<init>", desc := "()V", sig := { parameters := [], returnType := none }, accessFlags := 2, code := none }
def k3c1 : Code := { maxStack := 4, maxLocals := 4, code := jdk_29_method_28_code, exceptionTable := #[], attributes := #[] }
def k3m1 : Method := { name := "multiplyExact", desc := "(II)I", sig := { parameters := [.int, .int], returnType := some .int }, accessFlags := 9, code := some k3c1 }
/-- java/lang/Math -/
def k3 : Class := { plain "java/lang/Math" (some 0) with
  accessFlags := 49
  interfaces := #[]
  cf := some (fileOf pool3 1 #[.nestMembers #[98]] #[{ accessFlags := 2, nameIndex := 7, descriptorIndex := 8, attributes := #[] }, { accessFlags := 9, nameIndex := 120, descriptorIndex := 335, attributes := #[] }] 49 4 #[] #[{ accessFlags := 25, nameIndex := 354, descriptorIndex := 339, attributes := #[] }, { accessFlags := 25, nameIndex := 358, descriptorIndex := 339, attributes := #[] }, { accessFlags := 25, nameIndex := 361, descriptorIndex := 339, attributes := #[] }, { accessFlags := 26, nameIndex := 364, descriptorIndex := 339, attributes := #[] }, { accessFlags := 26, nameIndex := 365, descriptorIndex := 339, attributes := #[] }, { accessFlags := 26, nameIndex := 172, descriptorIndex := 173, attributes := #[] }, { accessFlags := 26, nameIndex := 176, descriptorIndex := 173, attributes := #[] }, { accessFlags := 8, nameIndex := 344, descriptorIndex := 339, attributes := #[] }, { accessFlags := 8, nameIndex := 338, descriptorIndex := 339, attributes := #[] }, { accessFlags := 4120, nameIndex := 245, descriptorIndex := 246, attributes := #[] }])
  fields := #[{ name := "E", type := .double, accessFlags := 25, slot := 0, constantValue := 0 }, { name := "PI", type := .double, accessFlags := 25, slot := 1, constantValue := 0 }, { name := "TAU", type := .double, accessFlags := 25, slot := 2, constantValue := 0 }, { name := "DEGREES_TO_RADIANS", type := .double, accessFlags := 26, slot := 3, constantValue := 0 }, { name := "RADIANS_TO_DEGREES", type := .double, accessFlags := 26, slot := 4, constantValue := 0 }, { name := "negativeZeroFloatBits", type := .long, accessFlags := 26, slot := 5, constantValue := 0 }, { name := "negativeZeroDoubleBits", type := .long, accessFlags := 26, slot := 6, constantValue := 0 }, { name := "twoToTheDoubleScaleUp", type := .double, accessFlags := 8, slot := 7, constantValue := 0 }, { name := "twoToTheDoubleScaleDown", type := .double, accessFlags := 8, slot := 8, constantValue := 0 }, { name := "$assertionsDisabled", type := .boolean, accessFlags := 4120, slot := 9, constantValue := 0 }]
  methods := #[k3m0, k3m1]
  instanceTypes := #[]
  staticTypes := #[.double, .double, .double, .double, .double, .long, .long, .double, .double, .boolean]
  resolved := Array.replicate 460 none
  statics := none }

def pool4 : Array CpInfo := pool [(1, u "java/lang/Cloneable"), (0, .class_ 1), (0, u "java/lang/Object"), (0, .class_ 3)] 3

/-- java/lang/Cloneable -/
def k4 : Class := { plain "java/lang/Cloneable" (some 0) with
  accessFlags := 1537
  interfaces := #[]
  cf := some (fileOf pool4 2 #[] #[] 1537 4 #[] #[])
  fields := #[]
  methods := #[]
  instanceTypes := #[]
  staticTypes := #[]
  resolved := Array.replicate 8 none
  statics := none }

def pool5 : Array CpInfo := pool [(1, u "java/io/Serializable"), (0, .class_ 1), (0, u "java/lang/Object"), (0, .class_ 3)] 3

/-- java/io/Serializable -/
def k5 : Class := { plain "java/io/Serializable" (some 0) with
  accessFlags := 1537
  interfaces := #[]
  cf := some (fileOf pool5 2 #[] #[] 1537 4 #[] #[])
  fields := #[]
  methods := #[]
  instanceTypes := #[]
  staticTypes := #[]
  resolved := Array.replicate 8 none
  statics := none }

/-- the primitive byte -/
def k6 : Class := { plain "byte" none with kind := .primitive 'B', accessFlags := 0x411 }
/-- [B -/
def k7 : Class := { plain "[B" (some 0) with kind := .array 6 .byte, interfaces := #[4, 5], accessFlags := 1041 }

/-- the primitive int -/
def k8 : Class := { plain "int" none with kind := .primitive 'I', accessFlags := 0x411 }
/-- [I -/
def k9 : Class := { plain "[I" (some 0) with kind := .array 8 .int, interfaces := #[4, 5], accessFlags := 1041 }

/-- the primitive long -/
def k10 : Class := { plain "long" none with kind := .primitive 'J', accessFlags := 0x411 }
/-- [J -/
def k11 : Class := { plain "[J" (some 0) with kind := .array 10 .long, interfaces := #[4, 5], accessFlags := 1041 }

def heap : Heap := #[]
def classes : Array Class := #[k0, k1, k2, k3, k4, k5, k6, k7, k8, k9, k10, k11]
def interned : List (Array UInt16 × Addr) := []
def slotsUsed : Nat := 0
def theMethod : MethodId := ⟨1, 1⟩
def args0 : Array Value := #[.int 5, .int 6, .int 7, .long 8, .int 9]
def aboutOver (below : List Frame) : State where
  vm := { classes := classes, interned := interned.toArray }
  heap := heap
  slotsUsed := slotsUsed
  threads := #[{ frames := .invoking theMethod args0 :: below }]
def below0 : List Frame := [.native { method := ⟨0, 0⟩, args := #[] }]
def about1 : State := aboutOver below0
def p0 : Program := .bare "" "" ""
def e0 : Env := launch0.env 0 0 0
theorem w_frames : about1.frames = Frame.invoking theMethod args0 :: below0 := rfl
set_option maxRecDepth 65536 in
theorem w_args : argsFit about1.vm theMethod args0 = true := by decide +kernel
set_option maxRecDepth 65536 in
theorem w_heap : heapFits about1 = true := by decide +kernel
set_option maxRecDepth 65536 in
theorem w_runnable : about1.curStatus? = some .runnable := by decide +kernel
set_option maxRecDepth 65536 in
theorem w_alone : about1.alone = true := by decide +kernel
set_option maxRecDepth 65536 in
theorem w_named : about1.methodNamed? x = some theMethod := by decide +kernel
set_option maxRecDepth 65536 in
theorem w_hears : about1.hears theMethod below0 = true := by decide +kernel
set_option maxRecDepth 65536 in
theorem w_ripe : about1.ripe theMethod args0 below0 = true := by decide +kernel
theorem w_running : about1.status = .running := rfl
set_option maxRecDepth 65536 in
theorem w_room : about1.hasRoom e0.platform room_1 = true :=
  launch0.hasRoom_least _ room_1 (by decide +kernel) (by decide +kernel) (by decide +kernel) (by decide +kernel) (by decide +kernel) (by decide +kernel)
theorem allAtoms_all (ts : List Jvm.Cond) (a : Array Jvm.Value) (st : Jvm.State) : (allAtoms ts).before a st = ts.all (fun c => c.before a st) := by
  induction ts with
  | nil => rfl
  | cons c t ih =>
    show (Jvm.Cond.and c (allAtoms t)).before a st = _
    rw [Jvm.Cond.before_and, ih, List.all_cons]
def words1 : List Jvm.Cond := Jvm.Cond.code x code maxLocals ret :: tables_1
/-- a 'code' word, met by the world's own term for the bytes: nothing is compared byte by byte -/
theorem code_word {y : MethodName} {bytes : ByteArray} {mx : Nat} {rt : Option FieldType} {a : Array Value} {s : State} {m : MethodId} {meth : Method} {c : Code} (h1 : s.methodNamed? y = some m) (h2 : s.vm.method? m = some meth) (h3 : meth.code = some c) (h4 : c.code = bytes)
    (h5 : (c.maxLocals == mx && c.exceptionTable.isEmpty && decide (c.maxStack ≤ mostOperands) && decide (meth.sig.returnType = rt) && !meth.locks && decide (parseMethodDescriptor y.desc = some meth.sig)) = true) : (Jvm.Cond.code y bytes mx rt).before a s = true := by
  simp only [Bool.and_eq_true, beq_iff_eq, Bool.not_eq_true', decide_eq_true_eq] at h5
  obtain ⟨⟨⟨⟨⟨g1, g2⟩, g3⟩, g4⟩, g5⟩, g6⟩ := h5
  simp [Cond.before, Cond.holds, Cond.value, h1, h2, h3, h4, g1, g2, g3, g4, g5, g6]
def isCode : Jvm.Cond → Bool
  | .code _ _ _ _ => true
  | _ => false
theorem all_split {L : List Jvm.Cond} {P : Jvm.Cond → Bool} (h1 : L.all (fun c => isCode c || P c) = true) (h2 : ∀ c ∈ L.filter isCode, P c = true) : L.all P = true := by
  refine List.all_eq_true.mpr fun c hc => ?_
  have h := List.all_eq_true.mp h1 c hc
  rcases Bool.eq_false_or_eq_true (isCode c) with hi | hi
  · exact h2 c (List.mem_filter.mpr ⟨hc, hi⟩)
  · simpa [hi] using h
set_option maxRecDepth 65536 in
theorem w_c0 : (Jvm.Cond.code x code maxLocals ret).before args0 about1 = true := code_word (m := ⟨1, 1⟩) (meth := k1m1) (c := k1c1) (by decide +kernel) rfl rfl rfl (by decide +kernel)
set_option maxRecDepth 65536 in
theorem w_c1 : (Jvm.Cond.code ({ cls := "com/example/humble_grid/humblegrid/BitLines", name := "<init>", desc := "(II)V" } : Jvm.MethodName) prog_3_method_1_code (3 : Nat) (Option.none : Option Jvm.ClassFile.FieldType)).before args0 about1 = true := code_word (m := ⟨2, 0⟩) (meth := k2m0) (c := k2c0) (by decide +kernel) rfl rfl rfl (by decide +kernel)
set_option maxRecDepth 65536 in
theorem w_c2 : (Jvm.Cond.code ({ cls := "java/lang/Object", name := "<init>", desc := "()V" } : Jvm.MethodName) object_method_1_code (1 : Nat) (Option.none : Option Jvm.ClassFile.FieldType)).before args0 about1 = true := code_word (m := ⟨0, 0⟩) (meth := k0m0) (c := k0c0) (by decide +kernel) rfl rfl rfl (by decide +kernel)
set_option maxRecDepth 65536 in
theorem w_c3 : (Jvm.Cond.code ({ cls := "java/lang/Math", name := "multiplyExact", desc := "(II)I" } : Jvm.MethodName) jdk_29_method_28_code (4 : Nat) (Option.some Jvm.ClassFile.FieldType.int)).before args0 about1 = true := code_word (m := ⟨3, 1⟩) (meth := k3m1) (c := k3c1) (by decide +kernel) rfl rfl rfl (by decide +kernel)
set_option maxRecDepth 65536 in
theorem w_c4 : (Jvm.Cond.code ({ cls := "com/example/humble_grid/humblegrid/BitLines", name := "set", desc := "(IIIJZ)V" } : Jvm.MethodName) prog_3_method_8_code (9 : Nat) (Option.none : Option Jvm.ClassFile.FieldType)).before args0 about1 = true := code_word (m := ⟨2, 2⟩) (meth := k2m2) (c := k2c2) (by decide +kernel) rfl rfl rfl (by decide +kernel)
set_option maxRecDepth 65536 in
theorem w_c5 : (Jvm.Cond.code ({ cls := "com/example/humble_grid/humblegrid/BitLines", name := "setBits", desc := "(IJZ)V" } : Jvm.MethodName) prog_3_method_10_code (5 : Nat) (Option.none : Option Jvm.ClassFile.FieldType)).before args0 about1 = true := code_word (m := ⟨2, 4⟩) (meth := k2m4) (c := k2c4) (by decide +kernel) rfl rfl rfl (by decide +kernel)
set_option maxRecDepth 65536 in
theorem w_c6 : (Jvm.Cond.code ({ cls := "com/example/humble_grid/humblegrid/BitLines", name := "get", desc := "(II)Z" } : Jvm.MethodName) prog_3_method_2_code (3 : Nat) (Option.some Jvm.ClassFile.FieldType.boolean)).before args0 about1 = true := code_word (m := ⟨2, 1⟩) (meth := k2m1) (c := k2c1) (by decide +kernel) rfl rfl rfl (by decide +kernel)
set_option maxRecDepth 65536 in
theorem w_c7 : (Jvm.Cond.code ({ cls := "com/example/humble_grid/humblegrid/BitLines", name := "setAcross", desc := "(IIIIJZ)V" } : Jvm.MethodName) prog_3_method_9_code (9 : Nat) (Option.none : Option Jvm.ClassFile.FieldType)).before args0 about1 = true := code_word (m := ⟨2, 3⟩) (meth := k2m3) (c := k2c3) (by decide +kernel) rfl rfl rfl (by decide +kernel)
def codes1 : List Jvm.Cond := [Jvm.Cond.code x code maxLocals ret, Jvm.Cond.code ({ cls := "com/example/humble_grid/humblegrid/BitLines", name := "<init>", desc := "(II)V" } : Jvm.MethodName) prog_3_method_1_code (3 : Nat) (Option.none : Option Jvm.ClassFile.FieldType), Jvm.Cond.code ({ cls := "java/lang/Object", name := "<init>", desc := "()V" } : Jvm.MethodName) object_method_1_code (1 : Nat) (Option.none : Option Jvm.ClassFile.FieldType), Jvm.Cond.code ({ cls := "java/lang/Math", name := "multiplyExact", desc := "(II)I" } : Jvm.MethodName) jdk_29_method_28_code (4 : Nat) (Option.some Jvm.ClassFile.FieldType.int), Jvm.Cond.code ({ cls := "com/example/humble_grid/humblegrid/BitLines", name := "set", desc := "(IIIJZ)V" } : Jvm.MethodName) prog_3_method_8_code (9 : Nat) (Option.none : Option Jvm.ClassFile.FieldType), Jvm.Cond.code ({ cls := "com/example/humble_grid/humblegrid/BitLines", name := "setBits", desc := "(IJZ)V" } : Jvm.MethodName) prog_3_method_10_code (5 : Nat) (Option.none : Option Jvm.ClassFile.FieldType), Jvm.Cond.code ({ cls := "com/example/humble_grid/humblegrid/BitLines", name := "get", desc := "(II)Z" } : Jvm.MethodName) prog_3_method_2_code (3 : Nat) (Option.some Jvm.ClassFile.FieldType.boolean), Jvm.Cond.code ({ cls := "com/example/humble_grid/humblegrid/BitLines", name := "setAcross", desc := "(IIIIJZ)V" } : Jvm.MethodName) prog_3_method_9_code (9 : Nat) (Option.none : Option Jvm.ClassFile.FieldType)]
set_option maxRecDepth 65536 in
theorem codes_eq : words1.filter isCode = codes1 := rfl
theorem w_codes : ∀ c ∈ words1.filter isCode, c.before args0 about1 = true := by
  rw [codes_eq]
  intro c hc
  simp only [codes1, List.mem_cons, List.not_mem_nil, or_false] at hc
  rcases hc with rfl | rfl | rfl | rfl | rfl | rfl | rfl | rfl
  · exact w_c0
  · exact w_c1
  · exact w_c2
  · exact w_c3
  · exact w_c4
  · exact w_c5
  · exact w_c6
  · exact w_c7
set_option maxRecDepth 65536 in
theorem w_t1 : (words1.take 24).all (fun c => isCode c || c.before args0 about1) = true := by decide +kernel
set_option maxRecDepth 65536 in
theorem w_t2 : (words1.drop 24).all (fun c => isCode c || c.before args0 about1) = true := by decide +kernel
theorem w_tables : (allAtoms (Jvm.Cond.code x code maxLocals ret :: tables_1)).before args0 about1 = true := by
  rw [allAtoms_all]
  show words1.all (fun c => c.before args0 about1) = true
  refine all_split ?_ w_codes
  rw [← List.take_append_drop 24 words1, List.all_append, w_t1, w_t2]
  rfl
set_option maxRecDepth 65536 in
theorem w_case : (Jvm.Cond.and given_1 narrow_1).before args0 about1 = true := by decide +kernel
theorem w_applies : (headSpec (Jvm.Cond.code x code maxLocals ret :: tables_1) room_1).applies x e0.platform about1 = true :=
  (Spec.applies_iff w_frames).mpr ⟨w_running, w_runnable, w_alone, w_named, w_hears, w_ripe, w_room, w_tables⟩
theorem atStart : AtStart classFile x code maxLocals ret World_1 tables_1 room_1 Calls_1 rest_1 Pre_1 launch0 p0 e0 about1 theMethod args0 below0 :=
  ⟨lists_1, trivial, launch0.admits_env _ _ _, launch0.least_env, fairChoices_fair.cas, fairChoices_fair.clock, w_frames, w_args, w_heap, w_applies, trivial, trivial, w_case⟩
end start1
theorem witness_1 : WitnessClaimed_1 := ⟨start1.p0, start1.e0, start1.about1, start1.theMethod, start1.args0, start1.below0, start1.atStart⟩
end Jvm.Pilot.@@N@@
