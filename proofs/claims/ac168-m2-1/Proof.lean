import JvmDerived
import JvmDerived.Pilot.@@N@@Statement
import JvmDerived.Pilot.@@N@@Code
set_option linter.unusedVariables false
set_option linter.unusedSimpArgs false
@@BLOCK:NumsL.lean.txt@@
namespace Jvm.Pilot.@@N@@
open Jvm Jvm.ClassFile Sem Op Lib Jvm.Free Jvm.Stand Jvm.LawKit Jvm.RoadKit Bundle Jvm.Pilot.@@N@@.Jvm.D
/-! own layer: the run from here ends, and Q holds of what it returned, of the heap and of the places written -/
def own_End (p : Program) (e : Env) (below : List Frame) (P : State → Outcome → Prop) (T : State) (f : JFrame) : Prop := ∃ s₂ o, Steps p.tables e below (T.setTop f) s₂ ∧ P s₂ o
def own_P (below : List Frame) (s : State) (Q : Option Value → Heap → List Loc → Prop) (kc ns : Nat) : State → Outcome → Prop := fun s₂ o => s₂.status = .running ∧ Ended s₂ below o ∧ ∃ v L, o = .returned v ∧ Q v s₂.heap L ∧ FrameEnd s o s₂ L kc ns
def own_Met (l : Launch) (Z : State) (y : MethodName) (bytes : ByteArray) (maxL : Nat) (ret : Option FieldType) (ws : List Jvm.Cond) (rm : Room) (as' : Array Value) (h : Heap) (Q : Option Value → Heap → List Loc → Prop) : Prop :=
  MetFree l y (head1 (Jvm.Cond.code y bytes maxL ret :: ws) rm) (fun a U => a = as' ∧ Z.Warmed39 U.vm ∧ U.heap = h) (fun _ _ _ _ _ => True) (fun _ U o U' => ∃ v L, o = .returned v ∧ Q v U'.heap L ∧ FrameEnd U o U' L rm.cells rm.slots)
section OwnSteps
variable {p : Program} {l : Launch} {e : Env} {R : Room} {s : State} {m : MethodId} {args : Array Value} {below : List Frame} {meth : Method} {c : Code} {T : State} {locs : List Loc} {cells slots : Nat} {P : State → Outcome → Prop} {Q : Option Value → Heap → List Loc → Prop} {kc ns : Nat} {Z : State} {a0 : Array Value} {h : Heap} {f : JFrame}
theorem own_go {T' : State} {f' : JFrame} (st : ∀ t, Steps p.tables e below (T'.setTop f') t → Steps p.tables e below (T.setTop f) t) (k : own_End p e below P T' f') : own_End p e below P T f := by
  obtain ⟨s₂, o, h1, h2⟩ := k
  exact ⟨s₂, o, st _ h1, h2⟩
theorem own_via {T' : State} {f' : JFrame} (st : Steps p.tables e below (T.setTop f) (T'.setTop f')) (k : own_End p e below P T' f') : own_End p e below P T f := own_go (fun _ h => st.trans h) k
theorem own_exf (h : False) : own_End p e below P T f := h.elim
theorem own_body {y : MethodName} {bytes : ByteArray} {maxL : Nat} {ret : Option FieldType} {ws : List Jvm.Cond} {rm : Room} {as' : Array Value} (hpl : plainFor y = true)
    (body : ∀ (p : Program) (e : Env) (s : State) (m : MethodId) (below : List Frame) (meth : Method) (c : Code) (s₁ : State), p.tables.exec = Jvm.exec → Z.Warmed39 s.vm → c.code = bytes → c.maxLocals = maxL → s.vm.findClass y.cls = some m.cls → meth.name = y.name → meth.sig.returnType = ret → meth.locks = false →
      Stand p l e rm s m as' below meth c s₁ [] 0 0 → s₁.heap = h → own_End p e below (own_P below s Q rm.cells rm.slots) s₁ (entryFrame m as' maxL)) : own_Met l Z y bytes maxL ret ws rm as' h Q := by
  refine MetFree.of_bodySF hpl hisR ?_
  intro p e s m args below meth c s₁ Bd hml0 hP hK
  obtain ⟨rfl, hZ, hh⟩ := hP
  exact body p e s m below meth c s₁ Bd.exec hZ Bd.bytes hml0 (findClass_of_methodNamed Bd.named) (name_of_methodNamed Bd.named Bd.method).1 Bd.returns Bd.notSynchronized (Stand.of_body Bd) (by rw [← hh, Bd.state]; rfl)
theorem own_cast {g g' : JFrame} (q : g = g') (k : own_End p e below P T g') : own_End p e below P T g := q ▸ k
theorem own_ret (X : Stand p l e R s m args below meth c T locs cells slots) (hP : P = own_P below s Q kc ns) (hlk : meth.locks = false) (eT : T.heap = h) {v : Option Value} (hv : meth.sig.returnType = none → v = none) (hk : cells ≤ kc) (hn : slots ≤ ns) (hQ : Q v h locs)
    (st : ∀ fs, (∀ (f : JFrame) (acts : List Action), f.method = m → f.locked = none → f.entered = [] → (doReturn e (T.setTop f) acts v).1 = T.setFrames fs) → Steps p.tables e below (T.setTop f) (T.setFrames fs)) : own_End p e below P T f := by
  obtain ⟨fs, hr, hrun, hended, hW, hsame⟩ := X.leave hv hlk
  subst hP
  exact ⟨_, _, st fs hr, hrun, hended, _, _, rfl, (eT ▸ hQ : Q v T.heap locs), ⟨_, rfl⟩, hW, hsame.mono hk hn⟩
theorem own_retV (X : Stand p l e R s m args below meth c T locs cells slots) (hP : P = own_P below s Q kc ns) (hx : p.tables.exec = Jvm.exec) (hlk : meth.locks = false) (eT : T.heap = h) {pc : Nat} {Ls : Array Slot} (hret : meth.sig.returnType = none) (hd : decode c.code pc = .ok (.return_, 1)) (hk : cells ≤ kc) (hn : slots ≤ ns) (hQ : Q none h locs) :
    own_End p e below P T (mkF m pc Ls []) := own_ret X hP hlk eT (fun _ => rfl) hk hn hQ fun _ hr => X.returnOut hx hret hd hr
theorem own_retI (X : Stand p l e R s m args below meth c T locs cells slots) (hP : P = own_P below s Q kc ns) (hx : p.tables.exec = Jvm.exec) (hlk : meth.locks = false) (eT : T.heap = h) {pc : Nat} {Ls : Array Slot} {z : Int32} {rest : List Value} (hret : meth.sig.returnType = some .int) (hd : decode c.code pc = .ok (.ireturn, 1)) (hk : cells ≤ kc) (hn : slots ≤ ns) (hQ : Q (some (.int z)) h locs) :
    own_End p e below P T (mkF m pc Ls (.int z :: rest)) := own_ret X hP hlk eT (fun h => by rw [hret] at h; cases h) hk hn hQ fun fs hr => retOut X hx hret rfl (Or.inl ⟨rfl, Or.inl rfl, z, rfl⟩) hd hr
theorem own_retN (X : Stand p l e R s m args below meth c T locs cells slots) (hP : P = own_P below s Q kc ns) (hx : p.tables.exec = Jvm.exec) (hlk : meth.locks = false) (eT : T.heap = h) {pc : Nat} {Ls : Array Slot} {z : Int32} {rest : List Value} {t : FieldType} (hret : meth.sig.returnType = some t) (ht : t = .boolean ∨ t = .byte ∨ t = .char ∨ t = .short) (hd : decode c.code pc = .ok (.ireturn, 1)) (hk : cells ≤ kc) (hn : slots ≤ ns) {z' : Int32} (hz : nar t z = z') (hQ : Q (some (.int z')) h locs) :
    own_End p e below P T (mkF m pc Ls (.int z :: rest)) := by
  subst hz
  exact own_ret X hP hlk eT (fun h => by rw [hret] at h; cases h) hk hn hQ fun fs hr => retN X hx hret ht hd hr
theorem own_retJ (X : Stand p l e R s m args below meth c T locs cells slots) (hP : P = own_P below s Q kc ns) (hx : p.tables.exec = Jvm.exec) (hlk : meth.locks = false) (eT : T.heap = h) {pc : Nat} {Ls : Array Slot} {z : Int64} {rest : List Value} (hret : meth.sig.returnType = some .long) (hd : decode c.code pc = .ok (.lreturn, 1)) (hk : cells ≤ kc) (hn : slots ≤ ns) (hQ : Q (some (.long z)) h locs) :
    own_End p e below P T (mkF m pc Ls (.long z :: rest)) := own_ret X hP hlk eT (fun h => by rw [hret] at h; cases h) hk hn hQ fun fs hr => retOut X hx hret rfl (Or.inr (Or.inl ⟨rfl, rfl, z, rfl⟩)) hd hr
theorem own_retA (X : Stand p l e R s m args below meth c T locs cells slots) (hP : P = own_P below s Q kc ns) (hx : p.tables.exec = Jvm.exec) (hlk : meth.locks = false) (eT : T.heap = h) {pc : Nat} {Ls : Array Slot} {w : Value} {rest : List Value} {t : FieldType} (hret : meth.sig.returnType = some t) (ht : t.isReference = true) (hw : w.isRef = true) (hnr : narrow t w = w) (hd : decode c.code pc = .ok (.areturn, 1)) (hk : cells ≤ kc) (hn : slots ≤ ns) (hQ : Q (some w) h locs) :
    own_End p e below P T (mkF m pc Ls (w :: rest)) := own_ret X hP hlk eT (fun h => by rw [hret] at h; cases h) hk hn hQ fun fs hr => retOut X hx hret hnr (Or.inr (Or.inr (Or.inr (Or.inr ⟨rfl, ht, hw⟩)))) hd hr
theorem own_callS (X : Stand p l e R s m args below meth c T locs cells slots) (hx : p.tables.exec = Jvm.exec) (hZ : Z.Warmed39 s.vm) {own : String} (hown : s.vm.findClass own = some m.cls) (eT : T.heap = h) {index : Nat} {y : MethodName} {bytes : ByteArray} {maxL : Nat} {ret : Option FieldType} {rm : Room} {as' : Array Value} {Q' : Option Value → Heap → List Loc → Prop}
    (w1 : (Cond.methodLink own index y).before a0 Z = true) (w2 : (Cond.static y).before a0 Z = true) (w3 : (Cond.initialized y.cls).before a0 Z = true) (w4 : (Cond.code y bytes maxL ret).before a0 Z = true) (hy : y.cls ≠ "java/lang/invoke/MethodHandle" ∧ y.cls ≠ "java/lang/invoke/VarHandle")
    (hM : own_Met l Z y bytes maxL ret [] rm as' h Q') {g : JFrame} (hg : g.method = m) (hsize : g.locals.size = c.maxLocals) {argsL rest : List Value} (hlen : ∀ sig, parseMethodDescriptor y.desc = some sig → argsL.length = sig.parameters.length) (hstack : g.stack = argsL.reverse ++ rest) (has : argsL.toArray = as') {W : Nat} (hW : 2 * g.monitorRoom + (rest.map fun v => v.category).sum ≤ W) (hdg : decode c.code g.pc = .ok (.invokestatic index, 3))
    (hf : rm.frames + 1 ≤ R.frames) (hl : W + (maxL + 11) + rm.locals ≤ R.locals) (hc : cells + rm.cells ≤ R.cells) (hs : slots + rm.slots ≤ R.slots)
    (k : ∀ v T' L, Stand p l e R s m args below meth c T' (locs ++ L) (cells + rm.cells) (slots + rm.slots) → Q' v T'.heap L → own_End p e below P T' { g with pc := g.pc + 3, stack := v.toList ++ rest }) : own_End p e below P T g := by
  obtain ⟨v, vm1, ⟨T', L1, k1, n1⟩, -, X', ⟨L, hQ, l1, y1, z1⟩, st⟩ := Jvm.LawKit.callS X hx (y := y) hown (mvT hZ w1) (mvT hZ w2) (mvT hZ w3) (mvT hZ w4) hy (backOf (W := W) hM hZ w4 w3 hf hl) hg hsize hlen hstack hW hdg (fun _ _ => ⟨has, eT, hc, hs⟩)
  dsimp only [Pt.U, Pt.locs, Pt.cells, Pt.slots] at X' l1 y1 z1 st hQ
  subst l1 y1 z1
  exact own_go st (k v T' L X' hQ)
theorem own_callC (X : Stand p l e R s m args below meth c T locs cells slots) (hx : p.tables.exec = Jvm.exec) (hZ : Z.Warmed39 s.vm) {own : String} (hown : s.vm.findClass own = some m.cls) (eT : T.heap = h) {index : Nat} {y : MethodName} {bytes : ByteArray} {maxL : Nat} {rm : Room} {as' : Array Value} {Q' : Option Value → Heap → List Loc → Prop}
    (hyi : y.name = "<init>") (w1 : (Cond.methodLink own index y).before a0 Z = true) (w2 : (Cond.instanceMethod y).before a0 Z = true) (w3 : (Cond.initialized y.cls).before a0 Z = true) (w4 : (Cond.code y bytes maxL none).before a0 Z = true) (hy : y.cls ≠ "java/lang/invoke/MethodHandle" ∧ y.cls ≠ "java/lang/invoke/VarHandle")
    (hM : own_Met l Z y bytes maxL none [] rm as' h Q') {g : JFrame} (hg : g.method = m) (hsize : g.locals.size = c.maxLocals) {a : Addr} {argsL rest : List Value} (hlen : ∀ sig, parseMethodDescriptor y.desc = some sig → argsL.length = sig.parameters.length) (hstack : g.stack = argsL.reverse ++ .ref a :: rest) (has : (.ref a :: argsL).toArray = as') {W : Nat} (hW : 2 * g.monitorRoom + (rest.map fun v => v.category).sum ≤ W) (hdg : decode c.code g.pc = .ok (.invokespecial index, 3))
    (hf : rm.frames + 1 ≤ R.frames) (hl : W + (maxL + 11) + rm.locals ≤ R.locals) (hc : cells + rm.cells ≤ R.cells) (hs : slots + rm.slots ≤ R.slots)
    (k : ∀ v T' L, Stand p l e R s m args below meth c T' (locs ++ L) (cells + rm.cells) (slots + rm.slots) → Q' v T'.heap L → own_End p e below P T' { g with pc := g.pc + 3, stack := v.toList ++ rest }) : own_End p e below P T g := by
  obtain ⟨v, vm1, ⟨T', L1, k1, n1⟩, -, X', ⟨L, hQ, l1, y1, z1⟩, st⟩ := X.specialBack hx (y := y) hyi hown (mvT hZ w1) (mvT hZ w2) (mvT hZ w4) hy (backOf (W := W) hM hZ w4 w3 hf hl) hg hsize (Steps.refl _) (a := a) hlen hstack hW hdg (fun _ _ => ⟨has, eT, hc, hs⟩)
  dsimp only [Pt.U, Pt.locs, Pt.cells, Pt.slots] at X' l1 y1 z1 st hQ
  subst l1 y1 z1
  exact own_via st (k v T' L X' hQ)
theorem own_callV (X : Stand p l e R s m args below meth c T locs cells slots) (hx : p.tables.exec = Jvm.exec) (hZ : Z.Warmed39 s.vm) {own : String} (hown : s.vm.findClass own = some m.cls) (eT : T.heap = h) {index : Nat} {C : String} {y z : MethodName} {bytes : ByteArray} {maxL : Nat} {ret : Option FieldType} {rm : Room} {as' : Array Value} {Q' : Option Value → Heap → List Loc → Prop}
    (w1 : (Cond.methodLink own index y).before a0 Z = true) (wd : (Cond.declares y).before a0 Z = true) (hnf : NotFace s y) (wsel : (Cond.selects C y z).before a0 Z = true) (w2 : (Cond.instanceMethod z).before a0 Z = true) (w3 : (Cond.initialized z.cls).before a0 Z = true) (w4 : (Cond.code z bytes maxL ret).before a0 Z = true) (hy : y.cls ≠ "java/lang/invoke/MethodHandle" ∧ y.cls ≠ "java/lang/invoke/VarHandle")
    (hM : own_Met l Z z bytes maxL ret [] rm as' h Q') {a : Addr} (E : Exa Z h a C) {g : JFrame} (hg : g.method = m) (hsize : g.locals.size = c.maxLocals) {argsL rest : List Value} (hlen : ∀ sig, parseMethodDescriptor y.desc = some sig → argsL.length = sig.parameters.length) (hstack : g.stack = argsL.reverse ++ .ref a :: rest) (has : (.ref a :: argsL).toArray = as') {W : Nat} (hW : 2 * g.monitorRoom + (rest.map fun v => v.category).sum ≤ W) (hdg : decode c.code g.pc = .ok (.invokevirtual index, 3))
    (hf : rm.frames + 1 ≤ R.frames) (hl : W + (maxL + 11) + rm.locals ≤ R.locals) (hc : cells + rm.cells ≤ R.cells) (hs : slots + rm.slots ≤ R.slots)
    (k : ∀ v T' L, Stand p l e R s m args below meth c T' (locs ++ L) (cells + rm.cells) (slots + rm.slots) → Q' v T'.heap L → own_End p e below P T' { g with pc := g.pc + 3, stack := v.toList ++ rest }) : own_End p e below P T g := by
  obtain ⟨cB, kB, q1, q2, q3⟩ := isOf (T := T) hZ eT E
  obtain ⟨v, vm1, ⟨T', L1, k1, n1⟩, -, X', ⟨L, hQ, l1, y1, z1⟩, st⟩ := X.virtualBack hx (y := y) (z := z) hown (mvT hZ w1) (mvT hZ wd) hnf (mvT hZ wsel) (mvT hZ w2) hy (backOf (W := W) hM hZ w4 w3 hf hl) q1 q3 hg hsize (Steps.refl _) hlen hstack hW hdg (fun _ _ => ⟨has, eT, hc, hs⟩)
  dsimp only [Pt.U, Pt.locs, Pt.cells, Pt.slots] at X' l1 y1 z1 st hQ
  subst l1 y1 z1
  exact own_via st (k v T' L X' hQ)
theorem own_selP {C : String} {x' y y' : MethodName} (wz : (Cond.selects C x' y').before args s = true) (hc : y'.cls = y.cls) (hpriv : s.PrivateAt y) (hinst : (Cond.instanceMethod y).before args s = true) (hy : y.cls ≠ "java/lang/invoke/MethodHandle" ∧ y.cls ≠ "java/lang/invoke/VarHandle") : (Cond.selects y.cls y y).before args s = true := by
  obtain ⟨_, _, m2, -, -, q3, -, kP, hkP, hkPi⟩ := Cond.selects_spec wz
  exact selects_self_of_private (by rw [← hc]; exact findClass_of_methodNamed q3) hkP hkPi hpriv hinst hy
theorem own_callP (X : Stand p l e R s m args below meth c T locs cells slots) (hx : p.tables.exec = Jvm.exec) (hZ : Z.Warmed39 s.vm) {own : String} (hown : s.vm.findClass own = some m.cls) (eT : T.heap = h) {index : Nat} {y : MethodName} {bytes : ByteArray} {maxL : Nat} {ret : Option FieldType} {rm : Room} {as' : Array Value} {Q' : Option Value → Heap → List Loc → Prop}
    (w1 : (Cond.methodLink own index y).before a0 Z = true) (w2 : (Cond.instanceMethod y).before a0 Z = true) (wsel : (Cond.selects y.cls y y).before args s = true) (wp : (Cond.privateMethod y).before a0 Z = true) (w3 : (Cond.initialized y.cls).before a0 Z = true) (w4 : (Cond.code y bytes maxL ret).before a0 Z = true) (hy : y.cls ≠ "java/lang/invoke/MethodHandle" ∧ y.cls ≠ "java/lang/invoke/VarHandle")
    (hM : own_Met l Z y bytes maxL ret [] rm as' h Q') {C : String} {a : Addr} (E : Exa Z h a C) {g : JFrame} (hg : g.method = m) (hsize : g.locals.size = c.maxLocals) {argsL rest : List Value} (hlen : ∀ sig, parseMethodDescriptor y.desc = some sig → argsL.length = sig.parameters.length) (hstack : g.stack = argsL.reverse ++ .ref a :: rest) (has : (.ref a :: argsL).toArray = as') {W : Nat} (hW : 2 * g.monitorRoom + (rest.map fun v => v.category).sum ≤ W) (hdg : decode c.code g.pc = .ok (.invokevirtual index, 3))
    (hf : rm.frames + 1 ≤ R.frames) (hl : W + (maxL + 11) + rm.locals ≤ R.locals) (hc : cells + rm.cells ≤ R.cells) (hs : slots + rm.slots ≤ R.slots)
    (k : ∀ v T' L, Stand p l e R s m args below meth c T' (locs ++ L) (cells + rm.cells) (slots + rm.slots) → Q' v T'.heap L → own_End p e below P T' { g with pc := g.pc + 3, stack := v.toList ++ rest }) : own_End p e below P T g := by
  obtain ⟨cq, q1, q2⟩ := E.cell
  obtain ⟨v, vm1, ⟨T', L1, k1, n1⟩, -, X', ⟨L, hQ, l1, y1, z1⟩, st⟩ := X.privateBack hx (y := y) hown (mvT hZ w1) (mvT hZ w2) wsel (Cond.privateMethod_at (mvP hZ wp (args := #[]))) (mvT hZ w4) hy (backOf (W := W) hM hZ w4 w3 hf hl) hg hsize (Steps.refl _) (a := a) (by rw [eT]; exact q1) q2 hlen hstack hW hdg (fun _ _ => ⟨has, eT, hc, hs⟩)
  dsimp only [Pt.U, Pt.locs, Pt.cells, Pt.slots] at X' l1 y1 z1 st hQ
  subst l1 y1 z1
  exact own_via st (k v T' L X' hQ)
end OwnSteps
/-! own: a truth as an int; comparisons of longs -/
def own_z (P : Prop) [Decidable P] : Int32 := if P then 1 else 0
section OwnTruth
variable {P : Prop} [Decidable P] {x y : Int64}
theorem own_z_t (h : P) : own_z P = 1 := if_pos h
theorem own_z_f (h : ¬ P) : own_z P = 0 := if_neg h
theorem own_z_nar : nar .boolean (own_z P) = own_z P := by unfold own_z; split <;> decide
theorem own_z_congr {P' : Prop} [Decidable P'] (h : P ↔ P') : own_z P = own_z P' := by unfold own_z; by_cases q : P <;> simp [q, h.symm, h.mp] <;> simp_all
theorem own_z_inj {P' : Prop} [Decidable P'] (h : own_z P = own_z P') : P ↔ P' := by
  unfold own_z at h; by_cases q : P <;> by_cases q' : P' <;> simp_all
theorem own_zY_eq (h : ¬ P) : ifCond.holds .eq (own_z P) = true := by rw [own_z_f h]; rfl
theorem own_zN_eq (h : P) : ifCond.holds .eq (own_z P) = false := by rw [own_z_t h]; rfl
theorem own_zY_ne (h : P) : ifCond.holds .ne (own_z P) = true := by rw [own_z_t h]; rfl
theorem own_zN_ne (h : ¬ P) : ifCond.holds .ne (own_z P) = false := by rw [own_z_f h]; rfl
theorem own_lY_lt (h : x < y) : ifCond.holds .lt (lcmpW x y) = true := (if0 _ _).trans (tlt ((lw_lt x y).mpr h)).1
theorem own_lN_lt (h : ¬ x < y) : ifCond.holds .lt (lcmpW x y) = false := (if0 _ _).trans (flt (mt (lw_lt x y).mp h)).1
theorem own_lY_ge (h : ¬ x < y) : ifCond.holds .ge (lcmpW x y) = true := (if0 _ _).trans (flt (mt (lw_lt x y).mp h)).2.1
theorem own_lN_ge (h : x < y) : ifCond.holds .ge (lcmpW x y) = false := (if0 _ _).trans (tlt ((lw_lt x y).mpr h)).2.1
theorem own_lY_gt (h : y < x) : ifCond.holds .gt (lcmpW x y) = true := (if0 _ _).trans (tlt ((lw_gt x y).mpr h)).2.2.1
theorem own_lN_gt (h : ¬ y < x) : ifCond.holds .gt (lcmpW x y) = false := (if0 _ _).trans (flt (mt (lw_gt x y).mp h)).2.2.1
theorem own_lY_le (h : ¬ y < x) : ifCond.holds .le (lcmpW x y) = true := (if0 _ _).trans (flt (mt (lw_gt x y).mp h)).2.2.2
theorem own_lN_le (h : y < x) : ifCond.holds .le (lcmpW x y) = false := (if0 _ _).trans (tlt ((lw_gt x y).mpr h)).2.2.2
theorem own_lY_eq (h : x = y) : ifCond.holds .eq (lcmpW x y) = true := (if0 _ _).trans (teq ((lw_eq x y).mpr h)).1
theorem own_lN_eq (h : ¬ x = y) : ifCond.holds .eq (lcmpW x y) = false := (if0 _ _).trans (feq (mt (lw_eq x y).mp h)).1
theorem own_lY_ne (h : ¬ x = y) : ifCond.holds .ne (lcmpW x y) = true := (if0 _ _).trans (feq (mt (lw_eq x y).mp h)).2
theorem own_lN_ne (h : x = y) : ifCond.holds .ne (lcmpW x y) = false := (if0 _ _).trans (teq ((lw_eq x y).mpr h)).2
end OwnTruth
/-! own: a callee that writes nothing -/
def own_Pq (val : Option Value) (h : Heap) : Option Value → Heap → List Loc → Prop := fun v h' L => v = val ∧ L = [] ∧ h' = h
section OwnPure
variable {p : Program} {l : Launch} {e : Env} {R : Room} {s : State} {m : MethodId} {args : Array Value} {below : List Frame} {meth : Method} {c : Code} {T : State} {locs : List Loc} {cells slots : Nat} {P : State → Outcome → Prop} {Q : Option Value → Heap → List Loc → Prop} {kc ns : Nat} {Z : State} {a0 : Array Value} {h : Heap} {f : JFrame}
theorem own_callSp (X : Stand p l e R s m args below meth c T locs cells slots) (hx : p.tables.exec = Jvm.exec) (hZ : Z.Warmed39 s.vm) {own : String} (hown : s.vm.findClass own = some m.cls) (eT : T.heap = h) {index : Nat} {y : MethodName} {bytes : ByteArray} {maxL : Nat} {ret : Option FieldType} {fr lo : Nat} {as' : Array Value} {val : Option Value}
    (w1 : (Cond.methodLink own index y).before a0 Z = true) (w2 : (Cond.static y).before a0 Z = true) (w3 : (Cond.initialized y.cls).before a0 Z = true) (w4 : (Cond.code y bytes maxL ret).before a0 Z = true) (hy : y.cls ≠ "java/lang/invoke/MethodHandle" ∧ y.cls ≠ "java/lang/invoke/VarHandle")
    (hM : own_Met l Z y bytes maxL ret [] { frames := fr, cells := 0, slots := 0, locals := lo } as' h (own_Pq val h)) {g : JFrame} (hg : g.method = m) (hsize : g.locals.size = c.maxLocals) {argsL rest : List Value} (hlen : ∀ sig, parseMethodDescriptor y.desc = some sig → argsL.length = sig.parameters.length) (hstack : g.stack = argsL.reverse ++ rest) (has : argsL.toArray = as') {W : Nat} (hW : 2 * g.monitorRoom + (rest.map fun v => v.category).sum ≤ W) (hdg : decode c.code g.pc = .ok (.invokestatic index, 3))
    (hf : fr + 1 ≤ R.frames) (hl : W + (maxL + 11) + lo ≤ R.locals) (hc : cells ≤ R.cells) (hs : slots ≤ R.slots)
    (k : ∀ T', Stand p l e R s m args below meth c T' locs cells slots → T'.heap = h → own_End p e below P T' { g with pc := g.pc + 3, stack := val.toList ++ rest }) : own_End p e below P T g :=
  own_callS X hx hZ hown eT w1 w2 w3 w4 hy hM hg hsize hlen hstack has hW hdg hf hl hc hs fun v T' L X' ⟨q1, q2, q3⟩ => by
    subst q1 q2
    rw [List.append_nil] at X'
    exact k T' X' q3
theorem own_callCp (X : Stand p l e R s m args below meth c T locs cells slots) (hx : p.tables.exec = Jvm.exec) (hZ : Z.Warmed39 s.vm) {own : String} (hown : s.vm.findClass own = some m.cls) (eT : T.heap = h) {index : Nat} {y : MethodName} {bytes : ByteArray} {maxL : Nat} {fr lo : Nat} {as' : Array Value} {val : Option Value}
    (hyi : y.name = "<init>") (w1 : (Cond.methodLink own index y).before a0 Z = true) (w2 : (Cond.instanceMethod y).before a0 Z = true) (w3 : (Cond.initialized y.cls).before a0 Z = true) (w4 : (Cond.code y bytes maxL none).before a0 Z = true) (hy : y.cls ≠ "java/lang/invoke/MethodHandle" ∧ y.cls ≠ "java/lang/invoke/VarHandle")
    (hM : own_Met l Z y bytes maxL none [] { frames := fr, cells := 0, slots := 0, locals := lo } as' h (own_Pq val h)) {g : JFrame} (hg : g.method = m) (hsize : g.locals.size = c.maxLocals) {a : Addr} {argsL rest : List Value} (hlen : ∀ sig, parseMethodDescriptor y.desc = some sig → argsL.length = sig.parameters.length) (hstack : g.stack = argsL.reverse ++ .ref a :: rest) (has : (.ref a :: argsL).toArray = as') {W : Nat} (hW : 2 * g.monitorRoom + (rest.map fun v => v.category).sum ≤ W) (hdg : decode c.code g.pc = .ok (.invokespecial index, 3))
    (hf : fr + 1 ≤ R.frames) (hl : W + (maxL + 11) + lo ≤ R.locals) (hc : cells ≤ R.cells) (hs : slots ≤ R.slots)
    (k : ∀ T', Stand p l e R s m args below meth c T' locs cells slots → T'.heap = h → own_End p e below P T' { g with pc := g.pc + 3, stack := val.toList ++ rest }) : own_End p e below P T g :=
  own_callC X hx hZ hown eT hyi w1 w2 w3 w4 hy hM hg hsize hlen hstack has hW hdg hf hl hc hs fun v T' L X' ⟨q1, q2, q3⟩ => by
    subst q1 q2
    rw [List.append_nil] at X'
    exact k T' X' q3
theorem own_callVp (X : Stand p l e R s m args below meth c T locs cells slots) (hx : p.tables.exec = Jvm.exec) (hZ : Z.Warmed39 s.vm) {own : String} (hown : s.vm.findClass own = some m.cls) (eT : T.heap = h) {index : Nat} {C : String} {y z : MethodName} {bytes : ByteArray} {maxL : Nat} {ret : Option FieldType} {fr lo : Nat} {as' : Array Value} {val : Option Value}
    (w1 : (Cond.methodLink own index y).before a0 Z = true) (wd : (Cond.declares y).before a0 Z = true) (hnf : NotFace s y) (wsel : (Cond.selects C y z).before a0 Z = true) (w2 : (Cond.instanceMethod z).before a0 Z = true) (w3 : (Cond.initialized z.cls).before a0 Z = true) (w4 : (Cond.code z bytes maxL ret).before a0 Z = true) (hy : y.cls ≠ "java/lang/invoke/MethodHandle" ∧ y.cls ≠ "java/lang/invoke/VarHandle")
    (hM : own_Met l Z z bytes maxL ret [] { frames := fr, cells := 0, slots := 0, locals := lo } as' h (own_Pq val h)) {a : Addr} (E : Exa Z h a C) {g : JFrame} (hg : g.method = m) (hsize : g.locals.size = c.maxLocals) {argsL rest : List Value} (hlen : ∀ sig, parseMethodDescriptor y.desc = some sig → argsL.length = sig.parameters.length) (hstack : g.stack = argsL.reverse ++ .ref a :: rest) (has : (.ref a :: argsL).toArray = as') {W : Nat} (hW : 2 * g.monitorRoom + (rest.map fun v => v.category).sum ≤ W) (hdg : decode c.code g.pc = .ok (.invokevirtual index, 3))
    (hf : fr + 1 ≤ R.frames) (hl : W + (maxL + 11) + lo ≤ R.locals) (hc : cells ≤ R.cells) (hs : slots ≤ R.slots)
    (k : ∀ T', Stand p l e R s m args below meth c T' locs cells slots → T'.heap = h → own_End p e below P T' { g with pc := g.pc + 3, stack := val.toList ++ rest }) : own_End p e below P T g :=
  own_callV X hx hZ hown eT w1 wd hnf wsel w2 w3 w4 hy hM E hg hsize hlen hstack has hW hdg hf hl hc hs fun v T' L X' ⟨q1, q2, q3⟩ => by
    subst q1 q2
    rw [List.append_nil] at X'
    exact k T' X' q3
theorem own_callPp (X : Stand p l e R s m args below meth c T locs cells slots) (hx : p.tables.exec = Jvm.exec) (hZ : Z.Warmed39 s.vm) {own : String} (hown : s.vm.findClass own = some m.cls) (eT : T.heap = h) {index : Nat} {y : MethodName} {bytes : ByteArray} {maxL : Nat} {ret : Option FieldType} {fr lo : Nat} {as' : Array Value} {val : Option Value}
    (w1 : (Cond.methodLink own index y).before a0 Z = true) (w2 : (Cond.instanceMethod y).before a0 Z = true) (wsel : (Cond.selects y.cls y y).before args s = true) (wp : (Cond.privateMethod y).before a0 Z = true) (w3 : (Cond.initialized y.cls).before a0 Z = true) (w4 : (Cond.code y bytes maxL ret).before a0 Z = true) (hy : y.cls ≠ "java/lang/invoke/MethodHandle" ∧ y.cls ≠ "java/lang/invoke/VarHandle")
    (hM : own_Met l Z y bytes maxL ret [] { frames := fr, cells := 0, slots := 0, locals := lo } as' h (own_Pq val h)) {C : String} {a : Addr} (E : Exa Z h a C) {g : JFrame} (hg : g.method = m) (hsize : g.locals.size = c.maxLocals) {argsL rest : List Value} (hlen : ∀ sig, parseMethodDescriptor y.desc = some sig → argsL.length = sig.parameters.length) (hstack : g.stack = argsL.reverse ++ .ref a :: rest) (has : (.ref a :: argsL).toArray = as') {W : Nat} (hW : 2 * g.monitorRoom + (rest.map fun v => v.category).sum ≤ W) (hdg : decode c.code g.pc = .ok (.invokevirtual index, 3))
    (hf : fr + 1 ≤ R.frames) (hl : W + (maxL + 11) + lo ≤ R.locals) (hc : cells ≤ R.cells) (hs : slots ≤ R.slots)
    (k : ∀ T', Stand p l e R s m args below meth c T' locs cells slots → T'.heap = h → own_End p e below P T' { g with pc := g.pc + 3, stack := val.toList ++ rest }) : own_End p e below P T g :=
  own_callP X hx hZ hown eT w1 w2 wsel wp w3 w4 hy hM E hg hsize hlen hstack has hW hdg hf hl hc hs fun v T' L X' ⟨q1, q2, q3⟩ => by
    subst q1 q2
    rw [List.append_nil] at X'
    exact k T' X' q3
end OwnPure
/-! own: a cell that is known -/
def own_K (h : Heap) (a : Addr) : Prop := ∃ cell : Cell, h[a]? = some cell ∧ cell.vm ≠ .unknown
theorem own_K_ext {h h' : Heap} {a : Addr} (K : own_K h a) (E : Ext h h') : own_K h' a := by obtain ⟨c, h1, h2⟩ := K; exact ⟨c, E.2 _ _ h1, h2⟩
theorem own_K_wr {h h' : Heap} {a b : Addr} {sl : Nat} {v : Value} (K : own_K h b) (W : Wr h h' a sl v) : own_K h' b := by
  obtain ⟨c, h1, h2⟩ := K
  obtain ⟨c', e1, -, e3, -⟩ := wr_at W h1
  exact ⟨c', e1, by rw [e3]; exact h2⟩
theorem own_K_keep {h h' : Heap} {a : Addr} {ws : List Addr} (K : own_K h a) (E : Keep h h' ws) : own_K h' a := by
  obtain ⟨c, h1, h2⟩ := K
  obtain ⟨c', e1, -, e3, -⟩ := E.2.2 _ _ h1
  exact ⟨c', e1, by rw [e3]; exact h2⟩
theorem own_K_new {h : Heap} {a : Addr} (U : ∃ cell : Cell, h[a]? = some cell ∧ cell.vm = .none ∧ cell.monitor = {}) : own_K h a := by
  obtain ⟨c, h1, h2, -⟩ := U
  exact ⟨c, h1, by rw [h2]; simp⟩
/-! own: the wide end: String constants may have been interned meanwhile -/
def own_PW (below : List Frame) (s : State) (Q : Option Value → Heap → List Loc → Prop) (kc ns : Nat) : State → Outcome → Prop := fun s₂ o => s₂.status = .running ∧ Ended s₂ below o ∧ ∃ v L, o = .returned v ∧ Q v s₂.heap L ∧ ReturnedEndW s o s₂ L kc ns
def own_MetW (l : Launch) (Z : State) (y : MethodName) (bytes : ByteArray) (maxL : Nat) (ret : Option FieldType) (ws : List Jvm.Cond) (rm : Room) (as' : Array Value) (h : Heap) (Q : Option Value → Heap → List Loc → Prop) : Prop :=
  MetFree l y (head1 (Jvm.Cond.code y bytes maxL ret :: ws) rm) (fun a U => a = as' ∧ Z.Warmed39 U.vm ∧ U.heap = h) (fun _ _ _ _ _ => True) (fun _ U o U' => ∃ v L, o = .returned v ∧ Q v U'.heap L ∧ ReturnedEndW U o U' L rm.cells rm.slots)
section OwnWide
variable {p : Program} {l : Launch} {e : Env} {R : Room} {s : State} {vm0 : Vm} {m : MethodId} {args : Array Value} {below : List Frame} {meth : Method} {c : Code} {T : State} {locs : List Loc} {cells slots : Nat} {P : State → Outcome → Prop} {Q : Option Value → Heap → List Loc → Prop} {kc ns k0 : Nat} {Z : State} {a0 : Array Value} {h : Heap} {f : JFrame}
theorem own_bodyW {y : MethodName} {bytes : ByteArray} {maxL : Nat} {ret : Option FieldType} {ws : List Jvm.Cond} {rm : Room} {as' : Array Value} (hpl : plainFor y = true)
    (body : ∀ (p : Program) (e : Env) (s : State) (m : MethodId) (below : List Frame) (meth : Method) (c : Code) (s₁ : State), p.tables.exec = Jvm.exec → Z.Warmed39 (s.setVm s.vm).vm → c.code = bytes → c.maxLocals = maxL → (s.setVm s.vm).vm.findClass y.cls = some m.cls → meth.name = y.name → meth.sig.returnType = ret → meth.locks = false →
      Stand p l e rm (s.setVm s.vm) m as' below meth c s₁ [] 0 0 → s₁.heap = h → s.Since s.vm 0 → own_End p e below (own_PW below s Q rm.cells rm.slots) s₁ (entryFrame m as' maxL)) : own_MetW l Z y bytes maxL ret ws rm as' h Q := by
  refine MetFree.of_bodySF hpl hisR ?_
  intro p e s m args below meth c s₁ Bd hml0 hP hK
  obtain ⟨rfl, hZ, hh⟩ := hP
  exact body p e s m below meth c s₁ Bd.exec hZ Bd.bytes hml0 (findClass_of_methodNamed Bd.named) (name_of_methodNamed Bd.named Bd.method).1 Bd.returns Bd.notSynchronized (Stand.of_body Bd) (by rw [← hh, Bd.state]; rfl) ((State.WarmedH.refl s).since 0)
theorem own_retW (X : Stand p l e R (s.setVm vm0) m args below meth c T locs cells slots) (hP : P = own_PW below s Q kc ns) (hlk : meth.locks = false) (eT : T.heap = h) (hS : s.Since vm0 k0) (hk0 : k0 ≤ h.size) {v : Option Value} (hv : meth.sig.returnType = none → v = none) (hk : cells ≤ kc) (hn : slots ≤ ns) (hQ : Q v h locs)
    (st : ∀ fs, (∀ (f : JFrame) (acts : List Action), f.method = m → f.locked = none → f.entered = [] → (doReturn e (T.setTop f) acts v).1 = T.setFrames fs) → Steps p.tables e below (T.setTop f) (T.setFrames fs)) : own_End p e below P T f := by
  obtain ⟨fs, hr, hrun, hended, hE⟩ := X.leaveW hS (by rw [eT]; exact hk0) hv hlk
  subst hP
  exact ⟨_, _, st fs hr, hrun, hended, _, _, rfl, (eT ▸ hQ : Q v T.heap locs), hE.1, hE.2.1, hE.2.2.1, hE.2.2.2.mono hk hn⟩
theorem own_retVW (X : Stand p l e R (s.setVm vm0) m args below meth c T locs cells slots) (hP : P = own_PW below s Q kc ns) (hx : p.tables.exec = Jvm.exec) (hlk : meth.locks = false) (eT : T.heap = h) (hS : s.Since vm0 k0) (hk0 : k0 ≤ h.size) {pc : Nat} {Ls : Array Slot} (hret : meth.sig.returnType = none) (hd : decode c.code pc = .ok (.return_, 1)) (hk : cells ≤ kc) (hn : slots ≤ ns) (hQ : Q none h locs) :
    own_End p e below P T (mkF m pc Ls []) := own_retW X hP hlk eT hS hk0 (fun _ => rfl) hk hn hQ fun _ hr => X.returnOut hx hret hd hr
theorem own_retNW (X : Stand p l e R (s.setVm vm0) m args below meth c T locs cells slots) (hP : P = own_PW below s Q kc ns) (hx : p.tables.exec = Jvm.exec) (hlk : meth.locks = false) (eT : T.heap = h) (hS : s.Since vm0 k0) (hk0 : k0 ≤ h.size) {pc : Nat} {Ls : Array Slot} {z : Int32} {rest : List Value} {t : FieldType} (hret : meth.sig.returnType = some t) (ht : t = .boolean ∨ t = .byte ∨ t = .char ∨ t = .short) (hd : decode c.code pc = .ok (.ireturn, 1)) (hk : cells ≤ kc) (hn : slots ≤ ns) {z' : Int32} (hz : nar t z = z') (hQ : Q (some (.int z')) h locs) :
    own_End p e below P T (mkF m pc Ls (.int z :: rest)) := by
  subst hz
  exact own_retW X hP hlk eT hS hk0 (fun h => by rw [hret] at h; cases h) hk hn hQ fun fs hr => retN X hx hret ht hd hr
/-- a constructor that may intern -/
theorem own_callCW (X : Stand p l e R (s.setVm vm0) m args below meth c T locs cells slots) (hx : p.tables.exec = Jvm.exec) (hZ : Z.Warmed39 (s.setVm vm0).vm) {own : String} (hown : (s.setVm vm0).vm.findClass own = some m.cls) (eT : T.heap = h) (hS : s.Since vm0 k0) (hk0 : k0 ≤ h.size) {index : Nat} {y : MethodName} {bytes : ByteArray} {maxL : Nat} {rm : Room} {as' : Array Value} {Q' : Option Value → Heap → List Loc → Prop}
    (hyi : y.name = "<init>") (w1 : (Cond.methodLink own index y).before a0 Z = true) (w2 : (Cond.instanceMethod y).before a0 Z = true) (w3 : (Cond.initialized y.cls).before a0 Z = true) (w4 : (Cond.code y bytes maxL none).before a0 Z = true) (hy : y.cls ≠ "java/lang/invoke/MethodHandle" ∧ y.cls ≠ "java/lang/invoke/VarHandle")
    (hM : own_MetW l Z y bytes maxL none [] rm as' h Q') {g : JFrame} (hg : g.method = m) (hsize : g.locals.size = c.maxLocals) {a : Addr} {argsL rest : List Value} (hlen : ∀ sig, parseMethodDescriptor y.desc = some sig → argsL.length = sig.parameters.length) (hstack : g.stack = argsL.reverse ++ .ref a :: rest) (has : (.ref a :: argsL).toArray = as') {W : Nat} (hW : 2 * g.monitorRoom + (rest.map fun v => v.category).sum ≤ W) (hdg : decode c.code g.pc = .ok (.invokespecial index, 3))
    (hf : rm.frames + 1 ≤ R.frames) (hl : W + (maxL + 11) + rm.locals ≤ R.locals) (hc : cells + rm.cells ≤ R.cells) (hs : slots + rm.slots ≤ R.slots)
    (k : ∀ v T' L, Stand p l e R (s.setVm T'.vm) m args below meth c T' (locs ++ L) (cells + rm.cells) (slots + rm.slots) → Z.Warmed39 (s.setVm T'.vm).vm → (s.setVm T'.vm).vm.findClass own = some m.cls → s.Since T'.vm T'.heap.size → Q' v T'.heap L → own_End p e below P T' { g with pc := g.pc + 3, stack := v.toList ++ rest }) : own_End p e below P T g := by
  obtain ⟨v, vm1, ⟨T', L1, k1, n1⟩, -, X', hS2, hg2, ⟨L, hQ, l1, y1, z1⟩, st⟩ := X.specialBackS hx (y := y) hyi hown (mvT hZ w1) (mvT hZ w2) (mvT hZ w4) hy (backOfS (W := W) hM hZ w4 w3 hf hl) hg hsize (Steps.refl _) (a := a) hlen hstack hW hdg (fun _ _ => ⟨has, eT, hc, hs⟩)
  dsimp only [Pt.U, Pt.locs, Pt.cells, Pt.slots] at X' l1 y1 z1 st hQ hS2 hg2
  subst l1 y1 z1
  obtain ⟨X3, hS3, hZ3, hown3⟩ := rebS hS (by rw [eT]; exact hk0) X' hS2 hg2 hZ hown
  exact own_via st (k v T' L X3 hZ3 hown3 hS3 hQ)
end OwnWide

theorem own_bm6 (x : Int) : (x.bmod (2 ^ 64) - x) % 18446744073709551616 = 0 := by have := Int.bmod_emod (x := x) (m := 2 ^ 64); omega
theorem own_ma (s o t : Int64) : ((s * o + t).toInt - (s.toInt * o.toInt + t.toInt)) % 18446744073709551616 = 0 := by
  have a := own_bm6 (s.toInt * o.toInt)
  have b := own_bm6 ((s * o).toInt + t.toInt)
  rw [← Int64.toInt_mul] at a
  rw [← Int64.toInt_add] at b
  omega
theorem own_lo8 (s : Int64) : ((s &&& (255 : Int64)).toInt32).toInt = s.toInt % 256 := by
  have e : (s &&& (255 : Int64)).toInt = s.toInt % 2 ^ 8 := Jvm.Kit.i64_mask s 255 (k := 8) (by decide) (by decide)
  rw [Jvm.Kit.i32_of_i64 (by omega) (by omega), e]; rfl
theorem own_lo4 (s : Int64) : ((s &&& (15 : Int64)).toInt32).toInt = s.toInt % 16 := by
  have e : (s &&& (15 : Int64)).toInt = s.toInt % 2 ^ 4 := Jvm.Kit.i64_mask s 15 (k := 4) (by decide) (by decide)
  rw [Jvm.Kit.i32_of_i64 (by omega) (by omega), e]; rfl
theorem own_byte (s o t : Int64) : ((((s * o) + t) &&& (255 : Int64)).toInt32) = (((((s &&& (255 : Int64)).toInt32) * ((o &&& (255 : Int64)).toInt32)) + ((t &&& (255 : Int64)).toInt32)) &&& (255 : Int32)) := by
  apply Int32.toInt_inj.mp
  rw [own_lo8, Jvm.Kit.i32_mask _ _ (k := 8) (by decide) (by decide)]
  have e1 := own_lo8 s
  have e2 := own_lo8 o
  have e3 := own_lo8 t
  generalize ((s &&& (255 : Int64)).toInt32) = x at *
  generalize ((o &&& (255 : Int64)).toInt32) = y at *
  generalize ((t &&& (255 : Int64)).toInt32) = z at *
  have b1 : 0 ≤ x.toInt * y.toInt := Int.mul_nonneg (by omega) (by omega)
  have b2 : x.toInt * y.toInt ≤ 255 * 255 := Int.mul_le_mul (by omega) (by omega) (by omega) (by omega)
  have e4 : (x * y).toInt = x.toInt * y.toInt := Jvm.Kit.i32_mul (by omega) (by omega)
  rw [Jvm.Kit.i32_add (by omega) (by omega), e4]
  have m := own_ma s o t
  have n : s.toInt * o.toInt % 256 = x.toInt * y.toInt % 256 := by rw [e1, e2]; exact Int.mul_emod _ _ _
  omega
theorem own_tag (s o t : Int64) : ((((s * o) + t) &&& (15 : Int64)).toInt32) = (((((s &&& (15 : Int64)).toInt32) * ((o &&& (15 : Int64)).toInt32)) + ((t &&& (15 : Int64)).toInt32)) % (16 : Int32)) := by
  apply Int32.toInt_inj.mp
  rw [own_lo4]
  have e1 := own_lo4 s
  have e2 := own_lo4 o
  have e3 := own_lo4 t
  generalize ((s &&& (15 : Int64)).toInt32) = x at *
  generalize ((o &&& (15 : Int64)).toInt32) = y at *
  generalize ((t &&& (15 : Int64)).toInt32) = z at *
  have b1 : 0 ≤ x.toInt * y.toInt := Int.mul_nonneg (by omega) (by omega)
  have b2 : x.toInt * y.toInt ≤ 15 * 15 := Int.mul_le_mul (by omega) (by omega) (by omega) (by omega)
  have e4 : (x * y).toInt = x.toInt * y.toInt := Jvm.Kit.i32_mul (by omega) (by omega)
  have e5 : (x * y + z).toInt = x.toInt * y.toInt + z.toInt := by rw [Jvm.Kit.i32_add (by omega) (by omega), e4]
  rw [Jvm.Kit.i32_rem_nonneg (by omega), e5, show (16 : Int32).toInt = 16 from rfl]
  have m := own_ma s o t
  have n : s.toInt * o.toInt % 16 = x.toInt * y.toInt % 16 := by rw [e1, e2]; exact Int.mul_emod _ _ _
  omega
theorem own_tag0 (o : Int64) : (((((0 : Int64) * o) + (0 : Int64)) &&& (15 : Int64)).toInt32) = (0 : Int32) := by
  rw [Int64.zero_mul, Int64.add_zero]; decide

theorem pn_0 : plainName "com/example/retag/retag/Region" = true := by first | (simp [plainName, overriddenIn]; done) | decide +kernel
theorem d1_0 : decode prog_24_method_1_code 0 = .ok (.aload_n 0, 1) := by decide +kernel
theorem d1_1 : decode prog_24_method_1_code 1 = .ok (.invokespecial 1, 3) := by decide +kernel
theorem d1_4 : decode prog_24_method_1_code 4 = .ok (.aload_n 0, 1) := by decide +kernel
theorem d1_5 : decode prog_24_method_1_code 5 = .ok (.aload_n 1, 1) := by decide +kernel
theorem d1_6 : decode prog_24_method_1_code 6 = .ok (.putfield 7, 3) := by decide +kernel
theorem d1_9 : decode prog_24_method_1_code 9 = .ok (.aload_n 0, 1) := by decide +kernel
theorem d1_10 : decode prog_24_method_1_code 10 = .ok (.iload_n 2, 1) := by decide +kernel
theorem d1_11 : decode prog_24_method_1_code 11 = .ok (.putfield 13, 3) := by decide +kernel
theorem d1_14 : decode prog_24_method_1_code 14 = .ok (.aload_n 0, 1) := by decide +kernel
theorem d1_15 : decode prog_24_method_1_code 15 = .ok (.lload_n 3, 1) := by decide +kernel
theorem d1_16 : decode prog_24_method_1_code 16 = .ok (.putfield 17, 3) := by decide +kernel
theorem d1_19 : decode prog_24_method_1_code 19 = .ok (.aload_n 0, 1) := by decide +kernel
theorem d1_20 : decode prog_24_method_1_code 20 = .ok (.lload 5, 2) := by decide +kernel
theorem d1_22 : decode prog_24_method_1_code 22 = .ok (.putfield 21, 3) := by decide +kernel
theorem d1_25 : decode prog_24_method_1_code 25 = .ok (.aload_n 0, 1) := by decide +kernel
theorem d1_26 : decode prog_24_method_1_code 26 = .ok (.iload 7, 2) := by decide +kernel
theorem d1_28 : decode prog_24_method_1_code 28 = .ok (.putfield 24, 3) := by decide +kernel
theorem d1_31 : decode prog_24_method_1_code 31 = .ok (.return_, 1) := by decide +kernel
set_option maxRecDepth 65536 in
set_option maxHeartbeats 4000000 in
theorem ef_1 (m : MethodId) (a0 : Addr) (a1 : Addr) (p2 : Int32) (q3 : Int64) (q4 : Int64) (p5 : Int32) : entryFrame m #[(.ref a0), (.ref a1), (.int p2), (.long q3), (.long q4), (.int p5)] 8 = mkF m 0 #[.val (.ref a0), .val (.ref a1), .val (.int p2), .val (.long q3), .second, .val (.long q4), .second, .val (.int p5)] [] := by first | (simp [entryFrame, mkF, argsToLocals, Value.category]; done) | rfl
set_option maxRecDepth 65536 in
set_option maxHeartbeats 40000000 in
theorem rm1 (l : Launch) (Z : State) (aw : Array Value) (hw : ∀ d ∈ tables_1, d.before aw Z = true) {ws : List Jvm.Cond} (a0 : Addr) (a1 : Addr) (p2 : Int32) (q3 : Int64) (q4 : Int64) (p5 : Int32) (w0 : Int64) (w1 : Int64) (h0 : Heap) (n0 : Nat) (Z0 : n0 ≤ h0.size) (E_a0 : Exa Z h0 a0 "com/example/retag/retag/Region") (K_a0 : own_K h0 a0) (g_a0 : n0 ≤ a0) (F_a0_tagStep : Fld Z h0 a0 "com/example/retag/retag/Region" "tagStep" "J" (.long w0)) (F_a0_tagStart : Fld Z h0 a0 "com/example/retag/retag/Region" "tagStart" "J" (.long w1)) :
    own_Met l Z (⟨"com/example/retag/retag/Region", "<init>", "(Ljava/lang/String;IJJZ)V"⟩ : MethodName) prog_24_method_1_code 8 none ws ({ frames := 1, cells := 0, slots := 0, locals := 12 } : Room) #[(.ref a0), (.ref a1), (.int p2), (.long q3), (.long q4), (.int p5)] h0 (fun v h L => v = none ∧ Fr n0 L ∧ Keep h0 h [a0] ∧ Exa Z h a0 "com/example/retag/retag/Region" ∧ Fld Z h a0 "com/example/retag/retag/Region" "tagStep" "J" (.long w0) ∧ Fld Z h a0 "com/example/retag/retag/Region" "tagStart" "J" (.long w1)) := by
  refine own_body (plainFor_of_name pn_0) ?_
  intro p e s m below meth c s₁ hx hZ hby hml hown hnm hret hlk X0 e0
  replace hown : s.vm.findClass "com/example/retag/retag/Region" = some m.cls := hown
  replace hml : c.maxLocals = 8 := hml
  have N0 := Fr.nil n0
  have K0 := Keep.refl h0 [a0]
  obtain ⟨P, hP⟩ : ∃ P, P = own_P below s (fun v h L => v = none ∧ Fr n0 L ∧ Keep h0 h [a0] ∧ Exa Z h a0 "com/example/retag/retag/Region" ∧ Fld Z h a0 "com/example/retag/retag/Region" "tagStep" "J" (.long w0) ∧ Fld Z h a0 "com/example/retag/retag/Region" "tagStart" "J" (.long w1)) ({ frames := 1, cells := 0, slots := 0, locals := 12 } : Room).cells ({ frames := 1, cells := 0, slots := 0, locals := 12 } : Room).slots := ⟨_, rfl⟩
  rw [← hP]
  refine own_cast (ef_1 m a0 a1 p2 q3 q4 p5) ?_
  refine own_go (T' := s₁) (f' := (mkF m 1 #[.val (.ref a0), .val (.ref a1), .val (.int p2), .val (.long q3), .second, .val (.long q4), .second, .val (.int p5)] [(.ref a0)])) (fun t kt => ?_) ?_
  · show Steps p.tables e below (s₁.setTop (mkF m 0 #[.val (.ref a0), .val (.ref a1), .val (.int p2), .val (.long q3), .second, .val (.long q4), .second, .val (.int p5)] [])) t
    refine XS.aloadN X0.here hx rfl (hb hby d1_0) rfl rfl ?_
    show Steps p.tables e below (s₁.setTop (mkF m 1 #[.val (.ref a0), .val (.ref a1), .val (.int p2), .val (.long q3), .second, .val (.long q4), .second, .val (.int p5)] [(.ref a0)])) t
    exact kt
  obtain ⟨T1, X1, e1, st1⟩ := initO X0 hx hZ hown (hw _ (List.mem_of_getElem? (i := 15) rfl)) (hw _ (List.mem_of_getElem? (i := 16) rfl)) (hw _ (List.mem_of_getElem? (i := 17) rfl)) e0 (g := (mkF m 1 #[.val (.ref a0), .val (.ref a1), .val (.int p2), .val (.long q3), .second, .val (.long q4), .second, .val (.int p5)] [(.ref a0)])) rfl (by rw [hml]; rfl) rfl (hb hby d1_1) (by decide) (W := 0) (by show 2 * 0 + _ ≤ _; exact Nat.le_of_eq rfl) (by decide)
  refine own_go st1 ?_
  refine own_go (T' := T1) (f' := (mkF m 6 #[.val (.ref a0), .val (.ref a1), .val (.int p2), .val (.long q3), .second, .val (.long q4), .second, .val (.int p5)] [(.ref a1), (.ref a0)])) (fun t kt => ?_) ?_
  · show Steps p.tables e below (T1.setTop (mkF m 4 #[.val (.ref a0), .val (.ref a1), .val (.int p2), .val (.long q3), .second, .val (.long q4), .second, .val (.int p5)] [])) t
    refine XS.aloadN X1.here hx rfl (hb hby d1_4) rfl rfl ?_
    show Steps p.tables e below (T1.setTop (mkF m 5 #[.val (.ref a0), .val (.ref a1), .val (.int p2), .val (.long q3), .second, .val (.long q4), .second, .val (.int p5)] [(.ref a0)])) t
    refine XS.aloadN X1.here hx rfl (hb hby d1_5) rfl rfl ?_
    show Steps p.tables e below (T1.setTop (mkF m 6 #[.val (.ref a0), .val (.ref a1), .val (.int p2), .val (.long q3), .second, .val (.long q4), .second, .val (.int p5)] [(.ref a1), (.ref a0)])) t
    exact kt
  obtain ⟨uv2, F2_name⟩ := fld_laid E_a0 K_a0 (hw _ (List.mem_of_getElem? (i := 1) rfl)) (Or.inr (hw _ (List.mem_of_getElem? (i := 19) rfl)))
  obtain ⟨T2, h2, X2, e2, W2, st2⟩ := putF X1 hx hZ hown (host := "") (Or.inl (hw _ (List.mem_of_getElem? (i := 18) rfl))) Via.refl e1 F2_name E_a0 (Or.inr ⟨(hw _ (List.mem_of_getElem? (i := 19) rfl)), rfl, hnm⟩) (hw _ (List.mem_of_getElem? (i := 1) rfl)) (ty := (.object "java/lang/String")) (by decide) rfl rfl (g := (mkF m 6 #[.val (.ref a0), .val (.ref a1), .val (.int p2), .val (.long q3), .second, .val (.long q4), .second, .val (.int p5)] [(.ref a1), (.ref a0)])) rfl rfl (hb hby d1_6)
  refine own_go st2 ?_
  replace E_a0 := (E_a0.wr W2)
  replace F_a0_tagStep := (F_a0_tagStep.other W2 (Or.inr (slot_ne (Or.inl (hw _ (List.mem_of_getElem? (i := 34) rfl))) (Or.inr (hw _ (List.mem_of_getElem? (i := 19) rfl))) (by decide) (t := .long) (t' := (.object "java/lang/String")) (by decide) (by decide))))
  replace F_a0_tagStart := (F_a0_tagStart.other W2 (Or.inr (slot_ne (Or.inl (hw _ (List.mem_of_getElem? (i := 36) rfl))) (Or.inr (hw _ (List.mem_of_getElem? (i := 19) rfl))) (by decide) (t := .long) (t' := (.object "java/lang/String")) (by decide) (by decide))))
  replace F2_name := (F2_name.same W2)
  replace K_a0 := own_K_wr K_a0 W2
  have N2 := Fr.snoc X2 N0 g_a0
  have Z2 : n0 ≤ h2.size := Nat.le_trans Z0 (Keep.of_wr W2).1
  have KK2 := K0.wr W2 (Or.inl (by simp))
  refine own_go (T' := T2) (f' := (mkF m 11 #[.val (.ref a0), .val (.ref a1), .val (.int p2), .val (.long q3), .second, .val (.long q4), .second, .val (.int p5)] [(.int p2), (.ref a0)])) (fun t kt => ?_) ?_
  · show Steps p.tables e below (T2.setTop (mkF m 9 #[.val (.ref a0), .val (.ref a1), .val (.int p2), .val (.long q3), .second, .val (.long q4), .second, .val (.int p5)] [])) t
    refine XS.aloadN X2.here hx rfl (hb hby d1_9) rfl rfl ?_
    show Steps p.tables e below (T2.setTop (mkF m 10 #[.val (.ref a0), .val (.ref a1), .val (.int p2), .val (.long q3), .second, .val (.long q4), .second, .val (.int p5)] [(.ref a0)])) t
    refine XS.iloadN X2.here hx rfl (hb hby d1_10) rfl ?_
    show Steps p.tables e below (T2.setTop (mkF m 11 #[.val (.ref a0), .val (.ref a1), .val (.int p2), .val (.long q3), .second, .val (.long q4), .second, .val (.int p5)] [(.int p2), (.ref a0)])) t
    exact kt
  obtain ⟨uv3, F3_index⟩ := fld_laid E_a0 K_a0 (hw _ (List.mem_of_getElem? (i := 1) rfl)) (Or.inr (hw _ (List.mem_of_getElem? (i := 21) rfl)))
  obtain ⟨T3, h3, X3, e3, W3, st3⟩ := putF X2 hx hZ hown (host := "") (Or.inl (hw _ (List.mem_of_getElem? (i := 20) rfl))) Via.refl e2 F3_index E_a0 (Or.inr ⟨(hw _ (List.mem_of_getElem? (i := 21) rfl)), rfl, hnm⟩) (hw _ (List.mem_of_getElem? (i := 1) rfl)) (ty := .int) (by decide) rfl rfl (g := (mkF m 11 #[.val (.ref a0), .val (.ref a1), .val (.int p2), .val (.long q3), .second, .val (.long q4), .second, .val (.int p5)] [(.int p2), (.ref a0)])) rfl rfl (hb hby d1_11)
  refine own_go st3 ?_
  replace E_a0 := (E_a0.wr W3)
  replace F_a0_tagStep := (F_a0_tagStep.other W3 (Or.inr (slot_ne (Or.inl (hw _ (List.mem_of_getElem? (i := 34) rfl))) (Or.inr (hw _ (List.mem_of_getElem? (i := 21) rfl))) (by decide) (t := .long) (t' := .int) (by decide) (by decide))))
  replace F_a0_tagStart := (F_a0_tagStart.other W3 (Or.inr (slot_ne (Or.inl (hw _ (List.mem_of_getElem? (i := 36) rfl))) (Or.inr (hw _ (List.mem_of_getElem? (i := 21) rfl))) (by decide) (t := .long) (t' := .int) (by decide) (by decide))))
  replace F2_name := (F2_name.other W3 (Or.inr (slot_ne (Or.inr (hw _ (List.mem_of_getElem? (i := 19) rfl))) (Or.inr (hw _ (List.mem_of_getElem? (i := 21) rfl))) (by decide) (t := (.object "java/lang/String")) (t' := .int) (by decide) (by decide))))
  replace F3_index := (F3_index.same W3)
  replace K_a0 := own_K_wr K_a0 W3
  have N3 := Fr.snoc X3 N2 g_a0
  have Z3 : n0 ≤ h3.size := Nat.le_trans Z2 (Keep.of_wr W3).1
  have KK3 := KK2.wr W3 (Or.inl (by simp))
  refine own_go (T' := T3) (f' := (mkF m 16 #[.val (.ref a0), .val (.ref a1), .val (.int p2), .val (.long q3), .second, .val (.long q4), .second, .val (.int p5)] [(.long q3), (.ref a0)])) (fun t kt => ?_) ?_
  · show Steps p.tables e below (T3.setTop (mkF m 14 #[.val (.ref a0), .val (.ref a1), .val (.int p2), .val (.long q3), .second, .val (.long q4), .second, .val (.int p5)] [])) t
    refine XS.aloadN X3.here hx rfl (hb hby d1_14) rfl rfl ?_
    show Steps p.tables e below (T3.setTop (mkF m 15 #[.val (.ref a0), .val (.ref a1), .val (.int p2), .val (.long q3), .second, .val (.long q4), .second, .val (.int p5)] [(.ref a0)])) t
    refine XS.lloadN X3.here hx rfl (hb hby d1_15) rfl ?_
    show Steps p.tables e below (T3.setTop (mkF m 16 #[.val (.ref a0), .val (.ref a1), .val (.int p2), .val (.long q3), .second, .val (.long q4), .second, .val (.int p5)] [(.long q3), (.ref a0)])) t
    exact kt
  obtain ⟨uv4, F4_base⟩ := fld_laid E_a0 K_a0 (hw _ (List.mem_of_getElem? (i := 1) rfl)) (Or.inr (hw _ (List.mem_of_getElem? (i := 23) rfl)))
  obtain ⟨T4, h4, X4, e4, W4, st4⟩ := putF X3 hx hZ hown (host := "") (Or.inl (hw _ (List.mem_of_getElem? (i := 22) rfl))) Via.refl e3 F4_base E_a0 (Or.inr ⟨(hw _ (List.mem_of_getElem? (i := 23) rfl)), rfl, hnm⟩) (hw _ (List.mem_of_getElem? (i := 1) rfl)) (ty := .long) (by decide) rfl rfl (g := (mkF m 16 #[.val (.ref a0), .val (.ref a1), .val (.int p2), .val (.long q3), .second, .val (.long q4), .second, .val (.int p5)] [(.long q3), (.ref a0)])) rfl rfl (hb hby d1_16)
  refine own_go st4 ?_
  replace E_a0 := (E_a0.wr W4)
  replace F_a0_tagStep := (F_a0_tagStep.other W4 (Or.inr (slot_ne (Or.inl (hw _ (List.mem_of_getElem? (i := 34) rfl))) (Or.inr (hw _ (List.mem_of_getElem? (i := 23) rfl))) (by decide) (t := .long) (t' := .long) (by decide) (by decide))))
  replace F_a0_tagStart := (F_a0_tagStart.other W4 (Or.inr (slot_ne (Or.inl (hw _ (List.mem_of_getElem? (i := 36) rfl))) (Or.inr (hw _ (List.mem_of_getElem? (i := 23) rfl))) (by decide) (t := .long) (t' := .long) (by decide) (by decide))))
  replace F2_name := (F2_name.other W4 (Or.inr (slot_ne (Or.inr (hw _ (List.mem_of_getElem? (i := 19) rfl))) (Or.inr (hw _ (List.mem_of_getElem? (i := 23) rfl))) (by decide) (t := (.object "java/lang/String")) (t' := .long) (by decide) (by decide))))
  replace F3_index := (F3_index.other W4 (Or.inr (slot_ne (Or.inr (hw _ (List.mem_of_getElem? (i := 21) rfl))) (Or.inr (hw _ (List.mem_of_getElem? (i := 23) rfl))) (by decide) (t := .int) (t' := .long) (by decide) (by decide))))
  replace F4_base := (F4_base.same W4)
  replace K_a0 := own_K_wr K_a0 W4
  have N4 := Fr.snoc X4 N3 g_a0
  have Z4 : n0 ≤ h4.size := Nat.le_trans Z3 (Keep.of_wr W4).1
  have KK4 := KK3.wr W4 (Or.inl (by simp))
  refine own_go (T' := T4) (f' := (mkF m 22 #[.val (.ref a0), .val (.ref a1), .val (.int p2), .val (.long q3), .second, .val (.long q4), .second, .val (.int p5)] [(.long q4), (.ref a0)])) (fun t kt => ?_) ?_
  · show Steps p.tables e below (T4.setTop (mkF m 19 #[.val (.ref a0), .val (.ref a1), .val (.int p2), .val (.long q3), .second, .val (.long q4), .second, .val (.int p5)] [])) t
    refine XS.aloadN X4.here hx rfl (hb hby d1_19) rfl rfl ?_
    show Steps p.tables e below (T4.setTop (mkF m 20 #[.val (.ref a0), .val (.ref a1), .val (.int p2), .val (.long q3), .second, .val (.long q4), .second, .val (.int p5)] [(.ref a0)])) t
    refine XS.lload X4.here hx rfl (hb hby d1_20) rfl ?_
    show Steps p.tables e below (T4.setTop (mkF m 22 #[.val (.ref a0), .val (.ref a1), .val (.int p2), .val (.long q3), .second, .val (.long q4), .second, .val (.int p5)] [(.long q4), (.ref a0)])) t
    exact kt
  obtain ⟨uv5, F5_size⟩ := fld_laid E_a0 K_a0 (hw _ (List.mem_of_getElem? (i := 1) rfl)) (Or.inr (hw _ (List.mem_of_getElem? (i := 25) rfl)))
  obtain ⟨T5, h5, X5, e5, W5, st5⟩ := putF X4 hx hZ hown (host := "") (Or.inl (hw _ (List.mem_of_getElem? (i := 24) rfl))) Via.refl e4 F5_size E_a0 (Or.inr ⟨(hw _ (List.mem_of_getElem? (i := 25) rfl)), rfl, hnm⟩) (hw _ (List.mem_of_getElem? (i := 1) rfl)) (ty := .long) (by decide) rfl rfl (g := (mkF m 22 #[.val (.ref a0), .val (.ref a1), .val (.int p2), .val (.long q3), .second, .val (.long q4), .second, .val (.int p5)] [(.long q4), (.ref a0)])) rfl rfl (hb hby d1_22)
  refine own_go st5 ?_
  replace E_a0 := (E_a0.wr W5)
  replace F_a0_tagStep := (F_a0_tagStep.other W5 (Or.inr (slot_ne (Or.inl (hw _ (List.mem_of_getElem? (i := 34) rfl))) (Or.inr (hw _ (List.mem_of_getElem? (i := 25) rfl))) (by decide) (t := .long) (t' := .long) (by decide) (by decide))))
  replace F_a0_tagStart := (F_a0_tagStart.other W5 (Or.inr (slot_ne (Or.inl (hw _ (List.mem_of_getElem? (i := 36) rfl))) (Or.inr (hw _ (List.mem_of_getElem? (i := 25) rfl))) (by decide) (t := .long) (t' := .long) (by decide) (by decide))))
  replace F2_name := (F2_name.other W5 (Or.inr (slot_ne (Or.inr (hw _ (List.mem_of_getElem? (i := 19) rfl))) (Or.inr (hw _ (List.mem_of_getElem? (i := 25) rfl))) (by decide) (t := (.object "java/lang/String")) (t' := .long) (by decide) (by decide))))
  replace F3_index := (F3_index.other W5 (Or.inr (slot_ne (Or.inr (hw _ (List.mem_of_getElem? (i := 21) rfl))) (Or.inr (hw _ (List.mem_of_getElem? (i := 25) rfl))) (by decide) (t := .int) (t' := .long) (by decide) (by decide))))
  replace F4_base := (F4_base.other W5 (Or.inr (slot_ne (Or.inr (hw _ (List.mem_of_getElem? (i := 23) rfl))) (Or.inr (hw _ (List.mem_of_getElem? (i := 25) rfl))) (by decide) (t := .long) (t' := .long) (by decide) (by decide))))
  replace F5_size := (F5_size.same W5)
  replace K_a0 := own_K_wr K_a0 W5
  have N5 := Fr.snoc X5 N4 g_a0
  have Z5 : n0 ≤ h5.size := Nat.le_trans Z4 (Keep.of_wr W5).1
  have KK5 := KK4.wr W5 (Or.inl (by simp))
  refine own_go (T' := T5) (f' := (mkF m 28 #[.val (.ref a0), .val (.ref a1), .val (.int p2), .val (.long q3), .second, .val (.long q4), .second, .val (.int p5)] [(.int p5), (.ref a0)])) (fun t kt => ?_) ?_
  · show Steps p.tables e below (T5.setTop (mkF m 25 #[.val (.ref a0), .val (.ref a1), .val (.int p2), .val (.long q3), .second, .val (.long q4), .second, .val (.int p5)] [])) t
    refine XS.aloadN X5.here hx rfl (hb hby d1_25) rfl rfl ?_
    show Steps p.tables e below (T5.setTop (mkF m 26 #[.val (.ref a0), .val (.ref a1), .val (.int p2), .val (.long q3), .second, .val (.long q4), .second, .val (.int p5)] [(.ref a0)])) t
    refine XS.iload X5.here hx rfl (hb hby d1_26) rfl ?_
    show Steps p.tables e below (T5.setTop (mkF m 28 #[.val (.ref a0), .val (.ref a1), .val (.int p2), .val (.long q3), .second, .val (.long q4), .second, .val (.int p5)] [(.int p5), (.ref a0)])) t
    exact kt
  obtain ⟨uv6, F6_tagged⟩ := fld_laid E_a0 K_a0 (hw _ (List.mem_of_getElem? (i := 1) rfl)) (Or.inr (hw _ (List.mem_of_getElem? (i := 27) rfl)))
  obtain ⟨T6, h6, X6, e6, W6, st6⟩ := putFN X5 hx hZ hown (hw _ (List.mem_of_getElem? (i := 26) rfl)) Via.refl e5 F6_tagged E_a0 (Or.inr ⟨(hw _ (List.mem_of_getElem? (i := 27) rfl)), rfl, hnm⟩) (hw _ (List.mem_of_getElem? (i := 1) rfl)) (ty := .boolean) (v' := (.int (p5 &&& (1 : Int32)))) (by decide) rfl (fits_nar_bool _) (g := (mkF m 28 #[.val (.ref a0), .val (.ref a1), .val (.int p2), .val (.long q3), .second, .val (.long q4), .second, .val (.int p5)] [(.int p5), (.ref a0)])) rfl rfl (hb hby d1_28)
  refine own_go st6 ?_
  replace E_a0 := (E_a0.wr W6)
  replace F_a0_tagStep := (F_a0_tagStep.other W6 (Or.inr (slot_ne (Or.inl (hw _ (List.mem_of_getElem? (i := 34) rfl))) (Or.inr (hw _ (List.mem_of_getElem? (i := 27) rfl))) (by decide) (t := .long) (t' := .boolean) (by decide) (by decide))))
  replace F_a0_tagStart := (F_a0_tagStart.other W6 (Or.inr (slot_ne (Or.inl (hw _ (List.mem_of_getElem? (i := 36) rfl))) (Or.inr (hw _ (List.mem_of_getElem? (i := 27) rfl))) (by decide) (t := .long) (t' := .boolean) (by decide) (by decide))))
  replace F2_name := (F2_name.other W6 (Or.inr (slot_ne (Or.inr (hw _ (List.mem_of_getElem? (i := 19) rfl))) (Or.inr (hw _ (List.mem_of_getElem? (i := 27) rfl))) (by decide) (t := (.object "java/lang/String")) (t' := .boolean) (by decide) (by decide))))
  replace F3_index := (F3_index.other W6 (Or.inr (slot_ne (Or.inr (hw _ (List.mem_of_getElem? (i := 21) rfl))) (Or.inr (hw _ (List.mem_of_getElem? (i := 27) rfl))) (by decide) (t := .int) (t' := .boolean) (by decide) (by decide))))
  replace F4_base := (F4_base.other W6 (Or.inr (slot_ne (Or.inr (hw _ (List.mem_of_getElem? (i := 23) rfl))) (Or.inr (hw _ (List.mem_of_getElem? (i := 27) rfl))) (by decide) (t := .long) (t' := .boolean) (by decide) (by decide))))
  replace F5_size := (F5_size.other W6 (Or.inr (slot_ne (Or.inr (hw _ (List.mem_of_getElem? (i := 25) rfl))) (Or.inr (hw _ (List.mem_of_getElem? (i := 27) rfl))) (by decide) (t := .long) (t' := .boolean) (by decide) (by decide))))
  replace F6_tagged := (F6_tagged.same W6)
  replace K_a0 := own_K_wr K_a0 W6
  have N6 := Fr.snoc X6 N5 g_a0
  have Z6 : n0 ≤ h6.size := Nat.le_trans Z5 (Keep.of_wr W6).1
  have KK6 := KK5.wr W6 (Or.inl (by simp))
  exact own_retV X6 hP hx hlk e6 hret (hb hby d1_31) (by decide) (by decide) ⟨rfl, N6, KK6, E_a0, F_a0_tagStep, F_a0_tagStart⟩
theorem d4_0 : decode prog_24_method_8_code 0 = .ok (.aload_n 0, 1) := by decide +kernel
theorem d4_1 : decode prog_24_method_8_code 1 = .ok (.lload_n 1, 1) := by decide +kernel
theorem d4_2 : decode prog_24_method_8_code 2 = .ok (.putfield 34, 3) := by decide +kernel
theorem d4_5 : decode prog_24_method_8_code 5 = .ok (.aload_n 0, 1) := by decide +kernel
theorem d4_6 : decode prog_24_method_8_code 6 = .ok (.lload_n 3, 1) := by decide +kernel
theorem d4_7 : decode prog_24_method_8_code 7 = .ok (.putfield 37, 3) := by decide +kernel
theorem d4_10 : decode prog_24_method_8_code 10 = .ok (.return_, 1) := by decide +kernel
set_option maxRecDepth 65536 in
set_option maxHeartbeats 4000000 in
theorem ef_4 (m : MethodId) (a0 : Addr) (q1 : Int64) (q2 : Int64) : entryFrame m #[(.ref a0), (.long q1), (.long q2)] 5 = mkF m 0 #[.val (.ref a0), .val (.long q1), .second, .val (.long q2), .second] [] := by first | (simp [entryFrame, mkF, argsToLocals, Value.category]; done) | rfl
set_option maxRecDepth 65536 in
set_option maxHeartbeats 40000000 in
theorem rm4 (l : Launch) (Z : State) (aw : Array Value) (hw : ∀ d ∈ tables_1, d.before aw Z = true) {ws : List Jvm.Cond} (a0 : Addr) (q1 : Int64) (q2 : Int64)  (h0 : Heap) (n0 : Nat) (Z0 : n0 ≤ h0.size) (E_a0 : Exa Z h0 a0 "com/example/retag/retag/Region") (K_a0 : own_K h0 a0) (g_a0 : n0 ≤ a0) :
    own_Met l Z (⟨"com/example/retag/retag/Region", "fillTags", "(JJ)V"⟩ : MethodName) prog_24_method_8_code 5 none ws ({ frames := 0, cells := 0, slots := 0, locals := 0 } : Room) #[(.ref a0), (.long q1), (.long q2)] h0 (fun v h L => v = none ∧ Fr n0 L ∧ Keep h0 h [a0] ∧ Exa Z h a0 "com/example/retag/retag/Region" ∧ Fld Z h a0 "com/example/retag/retag/Region" "tagStep" "J" (.long q1) ∧ Fld Z h a0 "com/example/retag/retag/Region" "tagStart" "J" (.long q2)) := by
  refine own_body (plainFor_of_name pn_0) ?_
  intro p e s m below meth c s₁ hx hZ hby hml hown hnm hret hlk X0 e0
  replace hown : s.vm.findClass "com/example/retag/retag/Region" = some m.cls := hown
  replace hml : c.maxLocals = 5 := hml
  have N0 := Fr.nil n0
  have K0 := Keep.refl h0 [a0]
  obtain ⟨P, hP⟩ : ∃ P, P = own_P below s (fun v h L => v = none ∧ Fr n0 L ∧ Keep h0 h [a0] ∧ Exa Z h a0 "com/example/retag/retag/Region" ∧ Fld Z h a0 "com/example/retag/retag/Region" "tagStep" "J" (.long q1) ∧ Fld Z h a0 "com/example/retag/retag/Region" "tagStart" "J" (.long q2)) ({ frames := 0, cells := 0, slots := 0, locals := 0 } : Room).cells ({ frames := 0, cells := 0, slots := 0, locals := 0 } : Room).slots := ⟨_, rfl⟩
  rw [← hP]
  refine own_cast (ef_4 m a0 q1 q2) ?_
  refine own_go (T' := s₁) (f' := (mkF m 2 #[.val (.ref a0), .val (.long q1), .second, .val (.long q2), .second] [(.long q1), (.ref a0)])) (fun t kt => ?_) ?_
  · show Steps p.tables e below (s₁.setTop (mkF m 0 #[.val (.ref a0), .val (.long q1), .second, .val (.long q2), .second] [])) t
    refine XS.aloadN X0.here hx rfl (hb hby d4_0) rfl rfl ?_
    show Steps p.tables e below (s₁.setTop (mkF m 1 #[.val (.ref a0), .val (.long q1), .second, .val (.long q2), .second] [(.ref a0)])) t
    refine XS.lloadN X0.here hx rfl (hb hby d4_1) rfl ?_
    show Steps p.tables e below (s₁.setTop (mkF m 2 #[.val (.ref a0), .val (.long q1), .second, .val (.long q2), .second] [(.long q1), (.ref a0)])) t
    exact kt
  obtain ⟨uv1, F1_tagStep⟩ := fld_laid E_a0 K_a0 (hw _ (List.mem_of_getElem? (i := 1) rfl)) (Or.inl (hw _ (List.mem_of_getElem? (i := 34) rfl)))
  obtain ⟨T1, h1, X1, e1, W1, st1⟩ := putF X0 hx hZ hown (host := "") (Or.inl (hw _ (List.mem_of_getElem? (i := 33) rfl))) Via.refl e0 F1_tagStep E_a0 (Or.inl (hw _ (List.mem_of_getElem? (i := 34) rfl))) (hw _ (List.mem_of_getElem? (i := 1) rfl)) (ty := .long) (by decide) rfl rfl (g := (mkF m 2 #[.val (.ref a0), .val (.long q1), .second, .val (.long q2), .second] [(.long q1), (.ref a0)])) rfl rfl (hb hby d4_2)
  refine own_go st1 ?_
  replace E_a0 := (E_a0.wr W1)
  replace F1_tagStep := (F1_tagStep.same W1)
  replace K_a0 := own_K_wr K_a0 W1
  have N1 := Fr.snoc X1 N0 g_a0
  have Z1 : n0 ≤ h1.size := Nat.le_trans Z0 (Keep.of_wr W1).1
  have KK1 := K0.wr W1 (Or.inl (by simp))
  refine own_go (T' := T1) (f' := (mkF m 7 #[.val (.ref a0), .val (.long q1), .second, .val (.long q2), .second] [(.long q2), (.ref a0)])) (fun t kt => ?_) ?_
  · show Steps p.tables e below (T1.setTop (mkF m 5 #[.val (.ref a0), .val (.long q1), .second, .val (.long q2), .second] [])) t
    refine XS.aloadN X1.here hx rfl (hb hby d4_5) rfl rfl ?_
    show Steps p.tables e below (T1.setTop (mkF m 6 #[.val (.ref a0), .val (.long q1), .second, .val (.long q2), .second] [(.ref a0)])) t
    refine XS.lloadN X1.here hx rfl (hb hby d4_6) rfl ?_
    show Steps p.tables e below (T1.setTop (mkF m 7 #[.val (.ref a0), .val (.long q1), .second, .val (.long q2), .second] [(.long q2), (.ref a0)])) t
    exact kt
  obtain ⟨uv2, F2_tagStart⟩ := fld_laid E_a0 K_a0 (hw _ (List.mem_of_getElem? (i := 1) rfl)) (Or.inl (hw _ (List.mem_of_getElem? (i := 36) rfl)))
  obtain ⟨T2, h2, X2, e2, W2, st2⟩ := putF X1 hx hZ hown (host := "") (Or.inl (hw _ (List.mem_of_getElem? (i := 35) rfl))) Via.refl e1 F2_tagStart E_a0 (Or.inl (hw _ (List.mem_of_getElem? (i := 36) rfl))) (hw _ (List.mem_of_getElem? (i := 1) rfl)) (ty := .long) (by decide) rfl rfl (g := (mkF m 7 #[.val (.ref a0), .val (.long q1), .second, .val (.long q2), .second] [(.long q2), (.ref a0)])) rfl rfl (hb hby d4_7)
  refine own_go st2 ?_
  replace E_a0 := (E_a0.wr W2)
  replace F1_tagStep := (F1_tagStep.other W2 (Or.inr (slot_ne (Or.inl (hw _ (List.mem_of_getElem? (i := 34) rfl))) (Or.inl (hw _ (List.mem_of_getElem? (i := 36) rfl))) (by decide) (t := .long) (t' := .long) (by decide) (by decide))))
  replace F2_tagStart := (F2_tagStart.same W2)
  replace K_a0 := own_K_wr K_a0 W2
  have N2 := Fr.snoc X2 N1 g_a0
  have Z2 : n0 ≤ h2.size := Nat.le_trans Z1 (Keep.of_wr W2).1
  have KK2 := KK1.wr W2 (Or.inl (by simp))
  exact own_retV X2 hP hx hlk e2 hret (hb hby d4_10) (by decide) (by decide) ⟨rfl, N2, KK2, E_a0, F1_tagStep, F2_tagStart⟩
theorem d3_0 : decode prog_24_method_13_code 0 = .ok (.aload_n 0, 1) := by decide +kernel
theorem d3_1 : decode prog_24_method_13_code 1 = .ok (.getfield 34, 3) := by decide +kernel
theorem d3_4 : decode prog_24_method_13_code 4 = .ok (.lload_n 1, 1) := by decide +kernel
theorem d3_5 : decode prog_24_method_13_code 5 = .ok (.lmul, 1) := by decide +kernel
theorem d3_6 : decode prog_24_method_13_code 6 = .ok (.aload_n 0, 1) := by decide +kernel
theorem d3_7 : decode prog_24_method_13_code 7 = .ok (.getfield 37, 3) := by decide +kernel
theorem d3_10 : decode prog_24_method_13_code 10 = .ok (.ladd, 1) := by decide +kernel
theorem d3_11 : decode prog_24_method_13_code 11 = .ok (.ldc2_w 54, 3) := by decide +kernel
theorem d3_14 : decode prog_24_method_13_code 14 = .ok (.land, 1) := by decide +kernel
theorem d3_15 : decode prog_24_method_13_code 15 = .ok (.l2i, 1) := by decide +kernel
theorem d3_16 : decode prog_24_method_13_code 16 = .ok (.ireturn, 1) := by decide +kernel
set_option maxRecDepth 65536 in
set_option maxHeartbeats 4000000 in
theorem ef_3 (m : MethodId) (a0 : Addr) (q1 : Int64) : entryFrame m #[(.ref a0), (.long q1)] 3 = mkF m 0 #[.val (.ref a0), .val (.long q1), .second] [] := by first | (simp [entryFrame, mkF, argsToLocals, Value.category]; done) | rfl
set_option maxRecDepth 65536 in
set_option maxHeartbeats 40000000 in
theorem rm3 (l : Launch) (Z : State) (aw : Array Value) (hw : ∀ d ∈ tables_1, d.before aw Z = true) {ws : List Jvm.Cond} (a0 : Addr) (q1 : Int64) (w0 : Int64) (w1 : Int64) (h0 : Heap) (n0 : Nat) (Z0 : n0 ≤ h0.size) (F_a0_tagStep : Fld Z h0 a0 "com/example/retag/retag/Region" "tagStep" "J" (.long w0)) (F_a0_tagStart : Fld Z h0 a0 "com/example/retag/retag/Region" "tagStart" "J" (.long w1)) :
    own_Met l Z (⟨"com/example/retag/retag/Region", "initialTag", "(J)I"⟩ : MethodName) prog_24_method_13_code 3 (some .int) ws ({ frames := 0, cells := 0, slots := 0, locals := 0 } : Room) #[(.ref a0), (.long q1)] h0 (own_Pq (some (.int ((((w0 * q1) + w1) &&& (15 : Int64)).toInt32))) h0) := by
  refine own_body (plainFor_of_name pn_0) ?_
  intro p e s m below meth c s₁ hx hZ hby hml hown hnm hret hlk X0 e0
  replace hown : s.vm.findClass "com/example/retag/retag/Region" = some m.cls := hown
  replace hml : c.maxLocals = 3 := hml
  obtain ⟨P, hP⟩ : ∃ P, P = own_P below s (own_Pq (some (.int ((((w0 * q1) + w1) &&& (15 : Int64)).toInt32))) h0) ({ frames := 0, cells := 0, slots := 0, locals := 0 } : Room).cells ({ frames := 0, cells := 0, slots := 0, locals := 0 } : Room).slots := ⟨_, rfl⟩
  rw [← hP]
  refine own_cast (ef_3 m a0 q1) ?_
  refine own_go (T' := s₁) (f' := (mkF m 1 #[.val (.ref a0), .val (.long q1), .second] [(.ref a0)])) (fun t kt => ?_) ?_
  · show Steps p.tables e below (s₁.setTop (mkF m 0 #[.val (.ref a0), .val (.long q1), .second] [])) t
    refine XS.aloadN X0.here hx rfl (hb hby d3_0) rfl rfl ?_
    show Steps p.tables e below (s₁.setTop (mkF m 1 #[.val (.ref a0), .val (.long q1), .second] [(.ref a0)])) t
    exact kt
  obtain ⟨T1, X1, e1, st1⟩ := getF X0 hx hZ hown (host := "") (Or.inl (hw _ (List.mem_of_getElem? (i := 33) rfl))) Via.refl e0 F_a0_tagStep (g := (mkF m 1 #[.val (.ref a0), .val (.long q1), .second] [(.ref a0)])) rfl rfl (hb hby d3_1)
  refine own_go st1 ?_
  refine own_go (T' := T1) (f' := (mkF m 7 #[.val (.ref a0), .val (.long q1), .second] [(.ref a0), (.long (w0 * q1))])) (fun t kt => ?_) ?_
  · show Steps p.tables e below (T1.setTop (mkF m 4 #[.val (.ref a0), .val (.long q1), .second] [(.long w0)])) t
    refine XS.lloadN X1.here hx rfl (hb hby d3_4) rfl ?_
    show Steps p.tables e below (T1.setTop (mkF m 5 #[.val (.ref a0), .val (.long q1), .second] [(.long q1), (.long w0)])) t
    refine XS.lmul X1.here hx rfl (hb hby d3_5) rfl ?_
    show Steps p.tables e below (T1.setTop (mkF m 6 #[.val (.ref a0), .val (.long q1), .second] [(.long (w0 * q1))])) t
    refine XS.aloadN X1.here hx rfl (hb hby d3_6) rfl rfl ?_
    show Steps p.tables e below (T1.setTop (mkF m 7 #[.val (.ref a0), .val (.long q1), .second] [(.ref a0), (.long (w0 * q1))])) t
    exact kt
  obtain ⟨T2, X2, e2, st2⟩ := getF X1 hx hZ hown (host := "") (Or.inl (hw _ (List.mem_of_getElem? (i := 35) rfl))) Via.refl e1 F_a0_tagStart (g := (mkF m 7 #[.val (.ref a0), .val (.long q1), .second] [(.ref a0), (.long (w0 * q1))])) rfl rfl (hb hby d3_7)
  refine own_go st2 ?_
  refine own_go (T' := T2) (f' := (mkF m 16 #[.val (.ref a0), .val (.long q1), .second] [(.int ((((w0 * q1) + w1) &&& (15 : Int64)).toInt32))])) (fun t kt => ?_) ?_
  · show Steps p.tables e below (T2.setTop (mkF m 10 #[.val (.ref a0), .val (.long q1), .second] [(.long w1), (.long (w0 * q1))])) t
    refine XS.ladd X2.here hx rfl (hb hby d3_10) rfl ?_
    show Steps p.tables e below (T2.setTop (mkF m 11 #[.val (.ref a0), .val (.long q1), .second] [(.long ((w0 * q1) + w1))])) t
    refine X2.ldc2Long hx hown (mvT hZ (hw _ (List.mem_of_getElem? (i := 37) rfl))) (g := (mkF m 11 #[.val (.ref a0), .val (.long q1), .second] [(.long ((w0 * q1) + w1))])) rfl (hb hby d3_11) _ ?_
    show Steps p.tables e below (T2.setTop (mkF m 14 #[.val (.ref a0), .val (.long q1), .second] [(.long (15 : Int64)), (.long ((w0 * q1) + w1))])) t
    refine XS.land X2.here hx rfl (hb hby d3_14) rfl ?_
    show Steps p.tables e below (T2.setTop (mkF m 15 #[.val (.ref a0), .val (.long q1), .second] [(.long (((w0 * q1) + w1) &&& (15 : Int64)))])) t
    refine XS.l2i X2.here hx rfl (hb hby d3_15) rfl ?_
    show Steps p.tables e below (T2.setTop (mkF m 16 #[.val (.ref a0), .val (.long q1), .second] [(.int ((((w0 * q1) + w1) &&& (15 : Int64)).toInt32))])) t
    exact kt
  exact own_retI X2 hP hx hlk e2 hret (hb hby d3_16) (by decide) (by decide) ⟨rfl, rfl, rfl⟩
theorem own_wS {a0 : Array Value} {Z : State} (hw : ∀ d ∈ tables_1, d.before a0 Z = true) : ∀ a ∈ Bundle.stringAtoms, a.before a0 Z = true := by
  intro a ha
  simp only [Bundle.stringAtoms, List.mem_cons, List.not_mem_nil, or_false] at ha
  rcases ha with rfl | rfl | rfl | rfl | rfl | rfl | rfl
  · exact (hw _ (List.mem_of_getElem? (i := 4) rfl))
  · exact (hw _ (List.mem_of_getElem? (i := 5) rfl))
  · exact (hw _ (List.mem_of_getElem? (i := 6) rfl))
  · exact (hw _ (List.mem_of_getElem? (i := 7) rfl))
  · exact (hw _ (List.mem_of_getElem? (i := 8) rfl))
  · exact (hw _ (List.mem_of_getElem? (i := 9) rfl))
  · exact (hw _ (List.mem_of_getElem? (i := 10) rfl))
theorem pd_0 : parseMethodDescriptor "(Ljava/lang/String;IJJZ)V" = some ⟨[(.object "java/lang/String"), .int, .long, .long, .boolean], none⟩ := by decide +kernel
theorem pd_1 : parseMethodDescriptor "(JJ)V" = some ⟨[.long, .long], none⟩ := by decide +kernel
theorem pd_2 : parseMethodDescriptor "(J)I" = some ⟨[.long], some .int⟩ := by decide +kernel
theorem pn_1 : plainName "com/example/retag/retag/RegionInitialTagPinLaw" = true := by first | (simp [plainName, overriddenIn]; done) | decide +kernel
set_option maxRecDepth 65536 in
set_option maxHeartbeats 4000000 in
theorem ef_0 (m : MethodId) (q0 : Int64) (q1 : Int64) (q2 : Int64) (p3 : Int32) : entryFrame m #[(.long q0), (.long q1), (.long q2), (.int p3)] maxLocals = mkF m 0 #[.val (.long q0), .second, .val (.long q1), .second, .val (.long q2), .second, .val (.int p3), .unset, .unset, .unset, .unset, .unset, .unset, .unset, .unset] [] := by first | (simp [entryFrame, mkF, argsToLocals, Value.category, maxLocals]; done) | rfl
set_option maxRecDepth 65536 in
set_option maxHeartbeats 40000000 in
theorem rm0 (l : Launch) (Z : State) (aw : Array Value) (hw : ∀ d ∈ tables_1, d.before aw Z = true) {ws : List Jvm.Cond} (q0 : Int64) (q1 : Int64) (q2 : Int64) (p3 : Int32)  (h0 : Heap) (n0 : Nat) (Z0 : n0 ≤ h0.size)  :
    own_MetW l Z x code maxLocals ret ws room_1 #[(.long q0), (.long q1), (.long q2), (.int p3)] h0 (fun v h L => v = some (.int 1) ∧ Fr n0 L) := by
  refine own_bodyW (plainFor_of_name pn_1) ?_
  intro p e s m below meth c s₁ hx hZ hby hml hown hnm hret hlk X0 e0 hS
  replace hown : (s.setVm s.vm).vm.findClass "com/example/retag/retag/RegionInitialTagPinLaw" = some m.cls := hown
  replace hml : c.maxLocals = 15 := hml
  have N0 := Fr.nil n0
  have K0 := Keep.refl h0 []
  obtain ⟨P, hP⟩ : ∃ P, P = own_PW below s (fun v h L => v = some (.int 1) ∧ Fr n0 L) room_1.cells room_1.slots := ⟨_, rfl⟩
  rw [← hP]
  refine own_cast (ef_0 m q0 q1 q2 p3) ?_
  refine own_go (T' := s₁) (f' := (mkF m 4 #[.val (.long q0), .second, .val (.long q1), .second, .val (.long q2), .second, .val (.int p3), .unset, .unset, .unset, .unset, .unset, .unset, .unset, .unset] [(.int (p3 &&& (1 : Int32)))])) (fun t kt => ?_) ?_
  · show Steps p.tables e below (s₁.setTop (mkF m 0 #[.val (.long q0), .second, .val (.long q1), .second, .val (.long q2), .second, .val (.int p3), .unset, .unset, .unset, .unset, .unset, .unset, .unset, .unset] [])) t
    refine XS.iload X0.here hx rfl (hb hby at_0) rfl ?_
    show Steps p.tables e below (s₁.setTop (mkF m 2 #[.val (.long q0), .second, .val (.long q1), .second, .val (.long q2), .second, .val (.int p3), .unset, .unset, .unset, .unset, .unset, .unset, .unset, .unset] [(.int p3)])) t
    refine XS.iconst X0.here hx rfl (hb hby at_2) ?_
    show Steps p.tables e below (s₁.setTop (mkF m 3 #[.val (.long q0), .second, .val (.long q1), .second, .val (.long q2), .second, .val (.int p3), .unset, .unset, .unset, .unset, .unset, .unset, .unset, .unset] [(.int (1 : Int32)), (.int p3)])) t
    refine XS.iand X0.here hx rfl (hb hby at_3) rfl ?_
    show Steps p.tables e below (s₁.setTop (mkF m 4 #[.val (.long q0), .second, .val (.long q1), .second, .val (.long q2), .second, .val (.int p3), .unset, .unset, .unset, .unset, .unset, .unset, .unset, .unset] [(.int (p3 &&& (1 : Int32)))])) t
    exact kt
  refine own_go (T' := s₁) (f' := (mkF m 12 #[.val (.long q0), .second, .val (.long q1), .second, .val (.long q2), .second, .val (.int p3), .unset, .unset, .unset, .unset, .unset, .unset, .unset, .unset] [(.int (own_z (¬ ((p3 &&& (1 : Int32)) = (0 : Int32)))))])) (fun t kt => ?_) ?_
  · by_cases hc4_1 : (p3 &&& (1 : Int32)) = (0 : Int32)
    · show Steps p.tables e below (s₁.setTop (mkF m 4 #[.val (.long q0), .second, .val (.long q1), .second, .val (.long q2), .second, .val (.int p3), .unset, .unset, .unset, .unset, .unset, .unset, .unset, .unset] [(.int (p3 &&& (1 : Int32)))])) t
      refine XS.ifYes X0.here hx rfl (pc0 := 4) (pc' := 11) rfl (hb hby at_4) rfl ((if0 _ _).trans (teq hc4_1).1) (by decide) (by decide) ?_
      show Steps p.tables e below (s₁.setTop (mkF m 11 #[.val (.long q0), .second, .val (.long q1), .second, .val (.long q2), .second, .val (.int p3), .unset, .unset, .unset, .unset, .unset, .unset, .unset, .unset] [])) t
      refine XS.iconst X0.here hx rfl (hb hby at_11) ?_
      show Steps p.tables e below (s₁.setTop (mkF m 12 #[.val (.long q0), .second, .val (.long q1), .second, .val (.long q2), .second, .val (.int p3), .unset, .unset, .unset, .unset, .unset, .unset, .unset, .unset] [(.int (0 : Int32))])) t
      rw [own_z_f (P := ¬ ((p3 &&& (1 : Int32)) = (0 : Int32))) (fun n => n hc4_1)] at kt
      exact kt
    · show Steps p.tables e below (s₁.setTop (mkF m 4 #[.val (.long q0), .second, .val (.long q1), .second, .val (.long q2), .second, .val (.int p3), .unset, .unset, .unset, .unset, .unset, .unset, .unset, .unset] [(.int (p3 &&& (1 : Int32)))])) t
      refine XS.ifNo X0.here hx rfl (hb hby at_4) rfl ((if0 _ _).trans (feq hc4_1).1) ?_
      show Steps p.tables e below (s₁.setTop (mkF m 7 #[.val (.long q0), .second, .val (.long q1), .second, .val (.long q2), .second, .val (.int p3), .unset, .unset, .unset, .unset, .unset, .unset, .unset, .unset] [])) t
      refine XS.iconst X0.here hx rfl (hb hby at_7) ?_
      show Steps p.tables e below (s₁.setTop (mkF m 8 #[.val (.long q0), .second, .val (.long q1), .second, .val (.long q2), .second, .val (.int p3), .unset, .unset, .unset, .unset, .unset, .unset, .unset, .unset] [(.int (1 : Int32))])) t
      refine XS.goto X0.here hx rfl (pc0 := 8) (pc' := 12) rfl (hb hby at_8) (by decide) (by decide) ?_
      show Steps p.tables e below (s₁.setTop (mkF m 12 #[.val (.long q0), .second, .val (.long q1), .second, .val (.long q2), .second, .val (.int p3), .unset, .unset, .unset, .unset, .unset, .unset, .unset, .unset] [(.int (1 : Int32))])) t
      rw [own_z_t (P := ¬ ((p3 &&& (1 : Int32)) = (0 : Int32))) hc4_1] at kt
      exact kt
  refine own_go (T' := s₁) (f' := (mkF m 18 #[.val (.long q0), .second, .val (.long q1), .second, .val (.long q2), .second, .val (.int p3), .val (.int (own_z (¬ ((p3 &&& (1 : Int32)) = (0 : Int32))))), .unset, .unset, .unset, .unset, .unset, .unset, .unset] [(.int (p3 &&& (2 : Int32)))])) (fun t kt => ?_) ?_
  · show Steps p.tables e below (s₁.setTop (mkF m 12 #[.val (.long q0), .second, .val (.long q1), .second, .val (.long q2), .second, .val (.int p3), .unset, .unset, .unset, .unset, .unset, .unset, .unset, .unset] [(.int (own_z (¬ ((p3 &&& (1 : Int32)) = (0 : Int32)))))])) t
    refine XS.istore X0.here hx rfl (hb hby at_12) rfl (l' := #[.val (.long q0), .second, .val (.long q1), .second, .val (.long q2), .second, .val (.int p3), .val (.int (own_z (¬ ((p3 &&& (1 : Int32)) = (0 : Int32))))), .unset, .unset, .unset, .unset, .unset, .unset, .unset]) rfl ?_
    show Steps p.tables e below (s₁.setTop (mkF m 14 #[.val (.long q0), .second, .val (.long q1), .second, .val (.long q2), .second, .val (.int p3), .val (.int (own_z (¬ ((p3 &&& (1 : Int32)) = (0 : Int32))))), .unset, .unset, .unset, .unset, .unset, .unset, .unset] [])) t
    refine XS.iload X0.here hx rfl (hb hby at_14) rfl ?_
    show Steps p.tables e below (s₁.setTop (mkF m 16 #[.val (.long q0), .second, .val (.long q1), .second, .val (.long q2), .second, .val (.int p3), .val (.int (own_z (¬ ((p3 &&& (1 : Int32)) = (0 : Int32))))), .unset, .unset, .unset, .unset, .unset, .unset, .unset] [(.int p3)])) t
    refine XS.iconst X0.here hx rfl (hb hby at_16) ?_
    show Steps p.tables e below (s₁.setTop (mkF m 17 #[.val (.long q0), .second, .val (.long q1), .second, .val (.long q2), .second, .val (.int p3), .val (.int (own_z (¬ ((p3 &&& (1 : Int32)) = (0 : Int32))))), .unset, .unset, .unset, .unset, .unset, .unset, .unset] [(.int (2 : Int32)), (.int p3)])) t
    refine XS.iand X0.here hx rfl (hb hby at_17) rfl ?_
    show Steps p.tables e below (s₁.setTop (mkF m 18 #[.val (.long q0), .second, .val (.long q1), .second, .val (.long q2), .second, .val (.int p3), .val (.int (own_z (¬ ((p3 &&& (1 : Int32)) = (0 : Int32))))), .unset, .unset, .unset, .unset, .unset, .unset, .unset] [(.int (p3 &&& (2 : Int32)))])) t
    exact kt
  refine own_go (T' := s₁) (f' := (mkF m 26 #[.val (.long q0), .second, .val (.long q1), .second, .val (.long q2), .second, .val (.int p3), .val (.int (own_z (¬ ((p3 &&& (1 : Int32)) = (0 : Int32))))), .unset, .unset, .unset, .unset, .unset, .unset, .unset] [(.int (own_z (¬ ((p3 &&& (2 : Int32)) = (0 : Int32)))))])) (fun t kt => ?_) ?_
  · by_cases hc18_2 : (p3 &&& (2 : Int32)) = (0 : Int32)
    · show Steps p.tables e below (s₁.setTop (mkF m 18 #[.val (.long q0), .second, .val (.long q1), .second, .val (.long q2), .second, .val (.int p3), .val (.int (own_z (¬ ((p3 &&& (1 : Int32)) = (0 : Int32))))), .unset, .unset, .unset, .unset, .unset, .unset, .unset] [(.int (p3 &&& (2 : Int32)))])) t
      refine XS.ifYes X0.here hx rfl (pc0 := 18) (pc' := 25) rfl (hb hby at_18) rfl ((if0 _ _).trans (teq hc18_2).1) (by decide) (by decide) ?_
      show Steps p.tables e below (s₁.setTop (mkF m 25 #[.val (.long q0), .second, .val (.long q1), .second, .val (.long q2), .second, .val (.int p3), .val (.int (own_z (¬ ((p3 &&& (1 : Int32)) = (0 : Int32))))), .unset, .unset, .unset, .unset, .unset, .unset, .unset] [])) t
      refine XS.iconst X0.here hx rfl (hb hby at_25) ?_
      show Steps p.tables e below (s₁.setTop (mkF m 26 #[.val (.long q0), .second, .val (.long q1), .second, .val (.long q2), .second, .val (.int p3), .val (.int (own_z (¬ ((p3 &&& (1 : Int32)) = (0 : Int32))))), .unset, .unset, .unset, .unset, .unset, .unset, .unset] [(.int (0 : Int32))])) t
      rw [own_z_f (P := ¬ ((p3 &&& (2 : Int32)) = (0 : Int32))) (fun n => n hc18_2)] at kt
      exact kt
    · show Steps p.tables e below (s₁.setTop (mkF m 18 #[.val (.long q0), .second, .val (.long q1), .second, .val (.long q2), .second, .val (.int p3), .val (.int (own_z (¬ ((p3 &&& (1 : Int32)) = (0 : Int32))))), .unset, .unset, .unset, .unset, .unset, .unset, .unset] [(.int (p3 &&& (2 : Int32)))])) t
      refine XS.ifNo X0.here hx rfl (hb hby at_18) rfl ((if0 _ _).trans (feq hc18_2).1) ?_
      show Steps p.tables e below (s₁.setTop (mkF m 21 #[.val (.long q0), .second, .val (.long q1), .second, .val (.long q2), .second, .val (.int p3), .val (.int (own_z (¬ ((p3 &&& (1 : Int32)) = (0 : Int32))))), .unset, .unset, .unset, .unset, .unset, .unset, .unset] [])) t
      refine XS.iconst X0.here hx rfl (hb hby at_21) ?_
      show Steps p.tables e below (s₁.setTop (mkF m 22 #[.val (.long q0), .second, .val (.long q1), .second, .val (.long q2), .second, .val (.int p3), .val (.int (own_z (¬ ((p3 &&& (1 : Int32)) = (0 : Int32))))), .unset, .unset, .unset, .unset, .unset, .unset, .unset] [(.int (1 : Int32))])) t
      refine XS.goto X0.here hx rfl (pc0 := 22) (pc' := 26) rfl (hb hby at_22) (by decide) (by decide) ?_
      show Steps p.tables e below (s₁.setTop (mkF m 26 #[.val (.long q0), .second, .val (.long q1), .second, .val (.long q2), .second, .val (.int p3), .val (.int (own_z (¬ ((p3 &&& (1 : Int32)) = (0 : Int32))))), .unset, .unset, .unset, .unset, .unset, .unset, .unset] [(.int (1 : Int32))])) t
      rw [own_z_t (P := ¬ ((p3 &&& (2 : Int32)) = (0 : Int32))) hc18_2] at kt
      exact kt
  refine own_go (T' := s₁) (f' := (mkF m 28 #[.val (.long q0), .second, .val (.long q1), .second, .val (.long q2), .second, .val (.int p3), .val (.int (own_z (¬ ((p3 &&& (1 : Int32)) = (0 : Int32))))), .val (.int (own_z (¬ ((p3 &&& (2 : Int32)) = (0 : Int32))))), .unset, .unset, .unset, .unset, .unset, .unset] [])) (fun t kt => ?_) ?_
  · show Steps p.tables e below (s₁.setTop (mkF m 26 #[.val (.long q0), .second, .val (.long q1), .second, .val (.long q2), .second, .val (.int p3), .val (.int (own_z (¬ ((p3 &&& (1 : Int32)) = (0 : Int32))))), .unset, .unset, .unset, .unset, .unset, .unset, .unset] [(.int (own_z (¬ ((p3 &&& (2 : Int32)) = (0 : Int32)))))])) t
    refine XS.istore X0.here hx rfl (hb hby at_26) rfl (l' := #[.val (.long q0), .second, .val (.long q1), .second, .val (.long q2), .second, .val (.int p3), .val (.int (own_z (¬ ((p3 &&& (1 : Int32)) = (0 : Int32))))), .val (.int (own_z (¬ ((p3 &&& (2 : Int32)) = (0 : Int32))))), .unset, .unset, .unset, .unset, .unset, .unset]) rfl ?_
    show Steps p.tables e below (s₁.setTop (mkF m 28 #[.val (.long q0), .second, .val (.long q1), .second, .val (.long q2), .second, .val (.int p3), .val (.int (own_z (¬ ((p3 &&& (1 : Int32)) = (0 : Int32))))), .val (.int (own_z (¬ ((p3 &&& (2 : Int32)) = (0 : Int32))))), .unset, .unset, .unset, .unset, .unset, .unset] [])) t
    exact kt
  obtain ⟨T3, h3, X3, e3, E3, A3, D3, U3, st3⟩ := newO X0 hx hZ hown (hw _ (List.mem_of_getElem? (i := 0) rfl)) (hw _ (List.mem_of_getElem? (i := 1) rfl)) (hw _ (List.mem_of_getElem? (i := 2) rfl)) e0 (g := (mkF m 28 #[.val (.long q0), .second, .val (.long q1), .second, .val (.long q2), .second, .val (.int p3), .val (.int (own_z (¬ ((p3 &&& (1 : Int32)) = (0 : Int32))))), .val (.int (own_z (¬ ((p3 &&& (2 : Int32)) = (0 : Int32))))), .unset, .unset, .unset, .unset, .unset, .unset] [])) rfl (hb hby at_28) (by decide) (by decide)
  obtain ⟨b3, y3⟩ : ∃ z, z = h0.size := ⟨_, rfl⟩
  rw [← y3] at A3 D3 U3 st3
  have g_b3 : n0 ≤ b3 := Nat.le_trans Z0 (Nat.le_of_eq y3.symm)
  have sz_b3 : h0.size ≤ b3 := Nat.le_trans K0.1 (Nat.le_of_eq y3.symm)
  have ZE3 : n0 ≤ h3.size := Nat.le_trans Z0 E3.1
  have KKE3 := K0.ext E3
  have kzE3 := Nat.le_trans (Nat.zero_le _) E3.1
  refine own_go st3 ?_
  have K_b3 := own_K_new U3
  have F3_tagStep : Fld Z h3 b3 "com/example/retag/retag/Region" "tagStep" "J" (.long (0 : Int64)) := D3 (Or.inl (hw _ (List.mem_of_getElem? (i := 34) rfl))) (ty := .long) (by decide)
  have F3_tagStart : Fld Z h3 b3 "com/example/retag/retag/Region" "tagStart" "J" (.long (0 : Int64)) := D3 (Or.inl (hw _ (List.mem_of_getElem? (i := 36) rfl))) (ty := .long) (by decide)
  refine own_go (T' := T3) (f' := (mkF m 32 #[.val (.long q0), .second, .val (.long q1), .second, .val (.long q2), .second, .val (.int p3), .val (.int (own_z (¬ ((p3 &&& (1 : Int32)) = (0 : Int32))))), .val (.int (own_z (¬ ((p3 &&& (2 : Int32)) = (0 : Int32))))), .unset, .unset, .unset, .unset, .unset, .unset] [(.ref b3), (.ref b3)])) (fun t kt => ?_) ?_
  · show Steps p.tables e below (T3.setTop (mkF m 31 #[.val (.long q0), .second, .val (.long q1), .second, .val (.long q2), .second, .val (.int p3), .val (.int (own_z (¬ ((p3 &&& (1 : Int32)) = (0 : Int32))))), .val (.int (own_z (¬ ((p3 &&& (2 : Int32)) = (0 : Int32))))), .unset, .unset, .unset, .unset, .unset, .unset] [(.ref b3)])) t
    refine XS.dup X3.here hx rfl (hb hby at_31) rfl rfl ?_
    show Steps p.tables e below (T3.setTop (mkF m 32 #[.val (.long q0), .second, .val (.long q1), .second, .val (.long q2), .second, .val (.int p3), .val (.int (own_z (¬ ((p3 &&& (1 : Int32)) = (0 : Int32))))), .val (.int (own_z (¬ ((p3 &&& (2 : Int32)) = (0 : Int32))))), .unset, .unset, .unset, .unset, .unset, .unset] [(.ref b3), (.ref b3)])) t
    exact kt
  obtain ⟨sa4, T4, h4, k4, X4, e4, E4, hS, kz4, hZ, hown, st4⟩ := ldcS (s := s) X3 hx hZ hown (hw _ (List.mem_of_getElem? (i := 3) rfl)) (own_wS hw) e3 hS kzE3 (g := (mkF m 32 #[.val (.long q0), .second, .val (.long q1), .second, .val (.long q2), .second, .val (.int p3), .val (.int (own_z (¬ ((p3 &&& (1 : Int32)) = (0 : Int32))))), .val (.int (own_z (¬ ((p3 &&& (2 : Int32)) = (0 : Int32))))), .unset, .unset, .unset, .unset, .unset, .unset] [(.ref b3), (.ref b3)])) rfl (hb hby at_32) (n := 4) (by decide) (by decide) (by decide) (by decide)
  refine own_go st4 ?_
  replace A3 := (A3.ext E4)
  replace F3_tagStep := (F3_tagStep.ext E4)
  replace F3_tagStart := (F3_tagStart.ext E4)
  replace K_b3 := own_K_ext K_b3 E4
  have ZE4 : n0 ≤ h4.size := Nat.le_trans ZE3 E4.1
  have KKE4 := KKE3.ext E4
  have kzE4 := Nat.le_trans kzE3 E4.1
  refine own_go (T' := T4) (f' := (mkF m 41 #[.val (.long q0), .second, .val (.long q1), .second, .val (.long q2), .second, .val (.int p3), .val (.int (own_z (¬ ((p3 &&& (1 : Int32)) = (0 : Int32))))), .val (.int (own_z (¬ ((p3 &&& (2 : Int32)) = (0 : Int32))))), .unset, .unset, .unset, .unset, .unset, .unset] [(.int (own_z (¬ ((p3 &&& (2 : Int32)) = (0 : Int32))))), (.long (16 : Int64)), (.long (0 : Int64)), (.int (0 : Int32)), (.ref sa4), (.ref b3), (.ref b3)])) (fun t kt => ?_) ?_
  · show Steps p.tables e below (T4.setTop (mkF m 34 #[.val (.long q0), .second, .val (.long q1), .second, .val (.long q2), .second, .val (.int p3), .val (.int (own_z (¬ ((p3 &&& (1 : Int32)) = (0 : Int32))))), .val (.int (own_z (¬ ((p3 &&& (2 : Int32)) = (0 : Int32))))), .unset, .unset, .unset, .unset, .unset, .unset] [(.ref sa4), (.ref b3), (.ref b3)])) t
    refine XS.iconst X4.here hx rfl (hb hby at_34) ?_
    show Steps p.tables e below (T4.setTop (mkF m 35 #[.val (.long q0), .second, .val (.long q1), .second, .val (.long q2), .second, .val (.int p3), .val (.int (own_z (¬ ((p3 &&& (1 : Int32)) = (0 : Int32))))), .val (.int (own_z (¬ ((p3 &&& (2 : Int32)) = (0 : Int32))))), .unset, .unset, .unset, .unset, .unset, .unset] [(.int (0 : Int32)), (.ref sa4), (.ref b3), (.ref b3)])) t
    refine XS.lconst X4.here hx rfl (hb hby at_35) ?_
    show Steps p.tables e below (T4.setTop (mkF m 36 #[.val (.long q0), .second, .val (.long q1), .second, .val (.long q2), .second, .val (.int p3), .val (.int (own_z (¬ ((p3 &&& (1 : Int32)) = (0 : Int32))))), .val (.int (own_z (¬ ((p3 &&& (2 : Int32)) = (0 : Int32))))), .unset, .unset, .unset, .unset, .unset, .unset] [(.long (0 : Int64)), (.int (0 : Int32)), (.ref sa4), (.ref b3), (.ref b3)])) t
    refine X4.ldc2Long hx hown (mvT hZ (hw _ (List.mem_of_getElem? (i := 11) rfl))) (g := (mkF m 36 #[.val (.long q0), .second, .val (.long q1), .second, .val (.long q2), .second, .val (.int p3), .val (.int (own_z (¬ ((p3 &&& (1 : Int32)) = (0 : Int32))))), .val (.int (own_z (¬ ((p3 &&& (2 : Int32)) = (0 : Int32))))), .unset, .unset, .unset, .unset, .unset, .unset] [(.long (0 : Int64)), (.int (0 : Int32)), (.ref sa4), (.ref b3), (.ref b3)])) rfl (hb hby at_36) _ ?_
    show Steps p.tables e below (T4.setTop (mkF m 39 #[.val (.long q0), .second, .val (.long q1), .second, .val (.long q2), .second, .val (.int p3), .val (.int (own_z (¬ ((p3 &&& (1 : Int32)) = (0 : Int32))))), .val (.int (own_z (¬ ((p3 &&& (2 : Int32)) = (0 : Int32))))), .unset, .unset, .unset, .unset, .unset, .unset] [(.long (16 : Int64)), (.long (0 : Int64)), (.int (0 : Int32)), (.ref sa4), (.ref b3), (.ref b3)])) t
    refine XS.iload X4.here hx rfl (hb hby at_39) rfl ?_
    show Steps p.tables e below (T4.setTop (mkF m 41 #[.val (.long q0), .second, .val (.long q1), .second, .val (.long q2), .second, .val (.int p3), .val (.int (own_z (¬ ((p3 &&& (1 : Int32)) = (0 : Int32))))), .val (.int (own_z (¬ ((p3 &&& (2 : Int32)) = (0 : Int32))))), .unset, .unset, .unset, .unset, .unset, .unset] [(.int (own_z (¬ ((p3 &&& (2 : Int32)) = (0 : Int32))))), (.long (16 : Int64)), (.long (0 : Int64)), (.int (0 : Int32)), (.ref sa4), (.ref b3), (.ref b3)])) t
    exact kt
  refine own_callC X4 hx hZ hown e4 rfl (hw _ (List.mem_of_getElem? (i := 12) rfl)) (hw _ (List.mem_of_getElem? (i := 13) rfl)) (hw _ (List.mem_of_getElem? (i := 2) rfl)) (hw _ (List.mem_of_getElem? (i := 14) rfl)) (by decide) (rm1 l Z aw hw b3 sa4 (0 : Int32) (0 : Int64) (16 : Int64) (own_z (¬ ((p3 &&& (2 : Int32)) = (0 : Int32)))) (0 : Int64) (0 : Int64) h4 n0 ZE4 A3 K_b3 g_b3 F3_tagStep F3_tagStart) (g := (mkF m 41 #[.val (.long q0), .second, .val (.long q1), .second, .val (.long q2), .second, .val (.int p3), .val (.int (own_z (¬ ((p3 &&& (1 : Int32)) = (0 : Int32))))), .val (.int (own_z (¬ ((p3 &&& (2 : Int32)) = (0 : Int32))))), .unset, .unset, .unset, .unset, .unset, .unset] [(.int (own_z (¬ ((p3 &&& (2 : Int32)) = (0 : Int32))))), (.long (16 : Int64)), (.long (0 : Int64)), (.int (0 : Int32)), (.ref sa4), (.ref b3), (.ref b3)])) rfl (by rw [hml]; rfl) (argsL := [(.ref sa4), (.int (0 : Int32)), (.long (0 : Int64)), (.long (16 : Int64)), (.int (own_z (¬ ((p3 &&& (2 : Int32)) = (0 : Int32)))))]) (rest := [(.ref b3)]) (lenOf pd_0 rfl) rfl rfl (W := 1) (by show 2 * 0 + _ ≤ _; exact Nat.le_of_eq rfl) (hb hby at_41) (by decide) (by decide) (by decide) (by decide) ?_
  rintro _ T5 L5 X5 ⟨rfl, Nq5, Kq5, Pq5_0, Pq5_1, Pq5_2⟩
  have N5 := Fr.app N0 Nq5
  replace A3 := (A3.keep Kq5)
  replace K_b3 := own_K_keep K_b3 Kq5
  have ZKq5 : n0 ≤ T5.heap.size := Nat.le_trans ZE4 Kq5.1
  have KKKq5 := KKE4.trans Kq5 ((allS (Or.inr sz_b3) all0))
  have kzKq5 := Nat.le_trans kz4 Kq5.1
  refine own_go (T' := T5) (f' := (mkF m 48 #[.val (.long q0), .second, .val (.long q1), .second, .val (.long q2), .second, .val (.int p3), .val (.int (own_z (¬ ((p3 &&& (1 : Int32)) = (0 : Int32))))), .val (.int (own_z (¬ ((p3 &&& (2 : Int32)) = (0 : Int32))))), .val (.ref b3), .unset, .unset, .unset, .unset, .unset] [(.int (own_z (¬ ((p3 &&& (1 : Int32)) = (0 : Int32)))))])) (fun t kt => ?_) ?_
  · show Steps p.tables e below (T5.setTop (mkF m 44 #[.val (.long q0), .second, .val (.long q1), .second, .val (.long q2), .second, .val (.int p3), .val (.int (own_z (¬ ((p3 &&& (1 : Int32)) = (0 : Int32))))), .val (.int (own_z (¬ ((p3 &&& (2 : Int32)) = (0 : Int32))))), .unset, .unset, .unset, .unset, .unset, .unset] [(.ref b3)])) t
    refine XS.astore X5.here hx rfl (hb hby at_44) rfl rfl (l' := #[.val (.long q0), .second, .val (.long q1), .second, .val (.long q2), .second, .val (.int p3), .val (.int (own_z (¬ ((p3 &&& (1 : Int32)) = (0 : Int32))))), .val (.int (own_z (¬ ((p3 &&& (2 : Int32)) = (0 : Int32))))), .val (.ref b3), .unset, .unset, .unset, .unset, .unset]) rfl ?_
    show Steps p.tables e below (T5.setTop (mkF m 46 #[.val (.long q0), .second, .val (.long q1), .second, .val (.long q2), .second, .val (.int p3), .val (.int (own_z (¬ ((p3 &&& (1 : Int32)) = (0 : Int32))))), .val (.int (own_z (¬ ((p3 &&& (2 : Int32)) = (0 : Int32))))), .val (.ref b3), .unset, .unset, .unset, .unset, .unset] [])) t
    refine XS.iload X5.here hx rfl (hb hby at_46) rfl ?_
    show Steps p.tables e below (T5.setTop (mkF m 48 #[.val (.long q0), .second, .val (.long q1), .second, .val (.long q2), .second, .val (.int p3), .val (.int (own_z (¬ ((p3 &&& (1 : Int32)) = (0 : Int32))))), .val (.int (own_z (¬ ((p3 &&& (2 : Int32)) = (0 : Int32))))), .val (.ref b3), .unset, .unset, .unset, .unset, .unset] [(.int (own_z (¬ ((p3 &&& (1 : Int32)) = (0 : Int32)))))])) t
    exact kt
  by_cases hc48_6 : (¬ ((p3 &&& (1 : Int32)) = (0 : Int32)))
  · refine own_go (T' := T5) (f' := (mkF m 55 #[.val (.long q0), .second, .val (.long q1), .second, .val (.long q2), .second, .val (.int p3), .val (.int (own_z (¬ ((p3 &&& (1 : Int32)) = (0 : Int32))))), .val (.int (own_z (¬ ((p3 &&& (2 : Int32)) = (0 : Int32))))), .val (.ref b3), .unset, .unset, .unset, .unset, .unset] [(.long q1), (.long q0), (.ref b3)])) (fun t kt => ?_) ?_
    · show Steps p.tables e below (T5.setTop (mkF m 48 #[.val (.long q0), .second, .val (.long q1), .second, .val (.long q2), .second, .val (.int p3), .val (.int (own_z (¬ ((p3 &&& (1 : Int32)) = (0 : Int32))))), .val (.int (own_z (¬ ((p3 &&& (2 : Int32)) = (0 : Int32))))), .val (.ref b3), .unset, .unset, .unset, .unset, .unset] [(.int (own_z (¬ ((p3 &&& (1 : Int32)) = (0 : Int32)))))])) t
      refine XS.ifNo X5.here hx rfl (hb hby at_48) rfl (own_zN_eq hc48_6) ?_
      show Steps p.tables e below (T5.setTop (mkF m 51 #[.val (.long q0), .second, .val (.long q1), .second, .val (.long q2), .second, .val (.int p3), .val (.int (own_z (¬ ((p3 &&& (1 : Int32)) = (0 : Int32))))), .val (.int (own_z (¬ ((p3 &&& (2 : Int32)) = (0 : Int32))))), .val (.ref b3), .unset, .unset, .unset, .unset, .unset] [])) t
      refine XS.aload X5.here hx rfl (hb hby at_51) rfl rfl ?_
      show Steps p.tables e below (T5.setTop (mkF m 53 #[.val (.long q0), .second, .val (.long q1), .second, .val (.long q2), .second, .val (.int p3), .val (.int (own_z (¬ ((p3 &&& (1 : Int32)) = (0 : Int32))))), .val (.int (own_z (¬ ((p3 &&& (2 : Int32)) = (0 : Int32))))), .val (.ref b3), .unset, .unset, .unset, .unset, .unset] [(.ref b3)])) t
      refine XS.lloadN X5.here hx rfl (hb hby at_53) rfl ?_
      show Steps p.tables e below (T5.setTop (mkF m 54 #[.val (.long q0), .second, .val (.long q1), .second, .val (.long q2), .second, .val (.int p3), .val (.int (own_z (¬ ((p3 &&& (1 : Int32)) = (0 : Int32))))), .val (.int (own_z (¬ ((p3 &&& (2 : Int32)) = (0 : Int32))))), .val (.ref b3), .unset, .unset, .unset, .unset, .unset] [(.long q0), (.ref b3)])) t
      refine XS.lloadN X5.here hx rfl (hb hby at_54) rfl ?_
      show Steps p.tables e below (T5.setTop (mkF m 55 #[.val (.long q0), .second, .val (.long q1), .second, .val (.long q2), .second, .val (.int p3), .val (.int (own_z (¬ ((p3 &&& (1 : Int32)) = (0 : Int32))))), .val (.int (own_z (¬ ((p3 &&& (2 : Int32)) = (0 : Int32))))), .val (.ref b3), .unset, .unset, .unset, .unset, .unset] [(.long q1), (.long q0), (.ref b3)])) t
      exact kt
    refine own_callV X5 hx hZ hown rfl (hw _ (List.mem_of_getElem? (i := 38) rfl)) (hw _ (List.mem_of_getElem? (i := 39) rfl)) (notFace_of_selects (args := #[]) (mvT hZ (hw _ (List.mem_of_getElem? (i := 41) rfl)))) (hw _ (List.mem_of_getElem? (i := 41) rfl)) (hw _ (List.mem_of_getElem? (i := 40) rfl)) (hw _ (List.mem_of_getElem? (i := 2) rfl)) (hw _ (List.mem_of_getElem? (i := 42) rfl)) (by decide) (rm4 l Z aw hw b3 q0 q1 T5.heap n0 ZKq5 Pq5_0 K_b3 g_b3) Pq5_0 (g := (mkF m 55 #[.val (.long q0), .second, .val (.long q1), .second, .val (.long q2), .second, .val (.int p3), .val (.int (own_z (¬ ((p3 &&& (1 : Int32)) = (0 : Int32))))), .val (.int (own_z (¬ ((p3 &&& (2 : Int32)) = (0 : Int32))))), .val (.ref b3), .unset, .unset, .unset, .unset, .unset] [(.long q1), (.long q0), (.ref b3)])) rfl (by rw [hml]; rfl) (argsL := [(.long q0), (.long q1)]) (rest := []) (lenOf pd_1 rfl) rfl rfl (W := 0) (by show 2 * 0 + _ ≤ _; exact Nat.le_of_eq rfl) (hb hby at_55) (by decide) (by decide) (by decide) (by decide) ?_
    rintro _ T7 L7 X7 ⟨rfl, Nq7, Kq7, Pq7_0, Pq7_1, Pq7_2⟩
    have N7 := Fr.app N5 Nq7
    replace Pq5_0 := (Pq5_0.keep Kq7)
    replace K_b3 := own_K_keep K_b3 Kq7
    have ZKq7 : n0 ≤ T7.heap.size := Nat.le_trans ZKq5 Kq7.1
    have KKKq7 := KKKq5.trans Kq7 ((allS (Or.inr sz_b3) all0))
    have kzKq7 := Nat.le_trans kzKq5 Kq7.1
    refine own_go (T' := T7) (f' := (mkF m 62 #[.val (.long q0), .second, .val (.long q1), .second, .val (.long q2), .second, .val (.int p3), .val (.int (own_z (¬ ((p3 &&& (1 : Int32)) = (0 : Int32))))), .val (.int (own_z (¬ ((p3 &&& (2 : Int32)) = (0 : Int32))))), .val (.ref b3), .unset, .unset, .unset, .unset, .unset] [(.long q2), (.ref b3)])) (fun t kt => ?_) ?_
    · show Steps p.tables e below (T7.setTop (mkF m 58 #[.val (.long q0), .second, .val (.long q1), .second, .val (.long q2), .second, .val (.int p3), .val (.int (own_z (¬ ((p3 &&& (1 : Int32)) = (0 : Int32))))), .val (.int (own_z (¬ ((p3 &&& (2 : Int32)) = (0 : Int32))))), .val (.ref b3), .unset, .unset, .unset, .unset, .unset] [])) t
      refine XS.aload X7.here hx rfl (hb hby at_58) rfl rfl ?_
      show Steps p.tables e below (T7.setTop (mkF m 60 #[.val (.long q0), .second, .val (.long q1), .second, .val (.long q2), .second, .val (.int p3), .val (.int (own_z (¬ ((p3 &&& (1 : Int32)) = (0 : Int32))))), .val (.int (own_z (¬ ((p3 &&& (2 : Int32)) = (0 : Int32))))), .val (.ref b3), .unset, .unset, .unset, .unset, .unset] [(.ref b3)])) t
      refine XS.lload X7.here hx rfl (hb hby at_60) rfl ?_
      show Steps p.tables e below (T7.setTop (mkF m 62 #[.val (.long q0), .second, .val (.long q1), .second, .val (.long q2), .second, .val (.int p3), .val (.int (own_z (¬ ((p3 &&& (1 : Int32)) = (0 : Int32))))), .val (.int (own_z (¬ ((p3 &&& (2 : Int32)) = (0 : Int32))))), .val (.ref b3), .unset, .unset, .unset, .unset, .unset] [(.long q2), (.ref b3)])) t
      exact kt
    refine own_callVp X7 hx hZ hown rfl (hw _ (List.mem_of_getElem? (i := 28) rfl)) (hw _ (List.mem_of_getElem? (i := 29) rfl)) (notFace_of_selects (args := #[]) (mvT hZ (hw _ (List.mem_of_getElem? (i := 31) rfl)))) (hw _ (List.mem_of_getElem? (i := 31) rfl)) (hw _ (List.mem_of_getElem? (i := 30) rfl)) (hw _ (List.mem_of_getElem? (i := 2) rfl)) (hw _ (List.mem_of_getElem? (i := 32) rfl)) (by decide) (rm3 l Z aw hw b3 q2 q0 q1 T7.heap n0 ZKq7 Pq7_1 Pq7_2) Pq7_0 (g := (mkF m 62 #[.val (.long q0), .second, .val (.long q1), .second, .val (.long q2), .second, .val (.int p3), .val (.int (own_z (¬ ((p3 &&& (1 : Int32)) = (0 : Int32))))), .val (.int (own_z (¬ ((p3 &&& (2 : Int32)) = (0 : Int32))))), .val (.ref b3), .unset, .unset, .unset, .unset, .unset] [(.long q2), (.ref b3)])) rfl (by rw [hml]; rfl) (argsL := [(.long q2)]) (rest := []) (lenOf pd_2 rfl) rfl rfl (W := 0) (by show 2 * 0 + _ ≤ _; exact Nat.le_of_eq rfl) (hb hby at_62) (by decide) (by decide) (by decide) (by decide) ?_
    intro T8 X8 e8
    refine own_go (T' := T8) (f' := (mkF m 128 #[.val (.long q0), .second, .val (.long q1), .second, .val (.long q2), .second, .val (.int p3), .val (.int (own_z (¬ ((p3 &&& (1 : Int32)) = (0 : Int32))))), .val (.int (own_z (¬ ((p3 &&& (2 : Int32)) = (0 : Int32))))), .val (.ref b3), .val (.int ((((q0 * q2) + q1) &&& (15 : Int64)).toInt32)), .val (.int (((((q0 &&& (15 : Int64)).toInt32) * ((q2 &&& (15 : Int64)).toInt32)) + ((q1 &&& (15 : Int64)).toInt32)) % (16 : Int32))), .val (.int ((q0 &&& (15 : Int64)).toInt32)), .val (.int ((q2 &&& (15 : Int64)).toInt32)), .val (.int ((q1 &&& (15 : Int64)).toInt32))] [(.int (1 : Int32))])) (fun t kt => ?_) ?_
    · show Steps p.tables e below (T8.setTop (mkF m 65 #[.val (.long q0), .second, .val (.long q1), .second, .val (.long q2), .second, .val (.int p3), .val (.int (own_z (¬ ((p3 &&& (1 : Int32)) = (0 : Int32))))), .val (.int (own_z (¬ ((p3 &&& (2 : Int32)) = (0 : Int32))))), .val (.ref b3), .unset, .unset, .unset, .unset, .unset] [(.int ((((q0 * q2) + q1) &&& (15 : Int64)).toInt32))])) t
      refine XS.istore X8.here hx rfl (hb hby at_65) rfl (l' := #[.val (.long q0), .second, .val (.long q1), .second, .val (.long q2), .second, .val (.int p3), .val (.int (own_z (¬ ((p3 &&& (1 : Int32)) = (0 : Int32))))), .val (.int (own_z (¬ ((p3 &&& (2 : Int32)) = (0 : Int32))))), .val (.ref b3), .val (.int ((((q0 * q2) + q1) &&& (15 : Int64)).toInt32)), .unset, .unset, .unset, .unset]) rfl ?_
      show Steps p.tables e below (T8.setTop (mkF m 67 #[.val (.long q0), .second, .val (.long q1), .second, .val (.long q2), .second, .val (.int p3), .val (.int (own_z (¬ ((p3 &&& (1 : Int32)) = (0 : Int32))))), .val (.int (own_z (¬ ((p3 &&& (2 : Int32)) = (0 : Int32))))), .val (.ref b3), .val (.int ((((q0 * q2) + q1) &&& (15 : Int64)).toInt32)), .unset, .unset, .unset, .unset] [])) t
      refine XS.iload X8.here hx rfl (hb hby at_67) rfl ?_
      show Steps p.tables e below (T8.setTop (mkF m 69 #[.val (.long q0), .second, .val (.long q1), .second, .val (.long q2), .second, .val (.int p3), .val (.int (own_z (¬ ((p3 &&& (1 : Int32)) = (0 : Int32))))), .val (.int (own_z (¬ ((p3 &&& (2 : Int32)) = (0 : Int32))))), .val (.ref b3), .val (.int ((((q0 * q2) + q1) &&& (15 : Int64)).toInt32)), .unset, .unset, .unset, .unset] [(.int (own_z (¬ ((p3 &&& (1 : Int32)) = (0 : Int32)))))])) t
      refine XS.ifNo X8.here hx rfl (hb hby at_69) rfl (own_zN_eq hc48_6) ?_
      show Steps p.tables e below (T8.setTop (mkF m 72 #[.val (.long q0), .second, .val (.long q1), .second, .val (.long q2), .second, .val (.int p3), .val (.int (own_z (¬ ((p3 &&& (1 : Int32)) = (0 : Int32))))), .val (.int (own_z (¬ ((p3 &&& (2 : Int32)) = (0 : Int32))))), .val (.ref b3), .val (.int ((((q0 * q2) + q1) &&& (15 : Int64)).toInt32)), .unset, .unset, .unset, .unset] [])) t
      refine XS.lloadN X8.here hx rfl (hb hby at_72) rfl ?_
      show Steps p.tables e below (T8.setTop (mkF m 73 #[.val (.long q0), .second, .val (.long q1), .second, .val (.long q2), .second, .val (.int p3), .val (.int (own_z (¬ ((p3 &&& (1 : Int32)) = (0 : Int32))))), .val (.int (own_z (¬ ((p3 &&& (2 : Int32)) = (0 : Int32))))), .val (.ref b3), .val (.int ((((q0 * q2) + q1) &&& (15 : Int64)).toInt32)), .unset, .unset, .unset, .unset] [(.long q0)])) t
      refine X8.ldc2Long hx hown (mvT hZ (hw _ (List.mem_of_getElem? (i := 43) rfl))) (g := (mkF m 73 #[.val (.long q0), .second, .val (.long q1), .second, .val (.long q2), .second, .val (.int p3), .val (.int (own_z (¬ ((p3 &&& (1 : Int32)) = (0 : Int32))))), .val (.int (own_z (¬ ((p3 &&& (2 : Int32)) = (0 : Int32))))), .val (.ref b3), .val (.int ((((q0 * q2) + q1) &&& (15 : Int64)).toInt32)), .unset, .unset, .unset, .unset] [(.long q0)])) rfl (hb hby at_73) _ ?_
      show Steps p.tables e below (T8.setTop (mkF m 76 #[.val (.long q0), .second, .val (.long q1), .second, .val (.long q2), .second, .val (.int p3), .val (.int (own_z (¬ ((p3 &&& (1 : Int32)) = (0 : Int32))))), .val (.int (own_z (¬ ((p3 &&& (2 : Int32)) = (0 : Int32))))), .val (.ref b3), .val (.int ((((q0 * q2) + q1) &&& (15 : Int64)).toInt32)), .unset, .unset, .unset, .unset] [(.long (15 : Int64)), (.long q0)])) t
      refine XS.land X8.here hx rfl (hb hby at_76) rfl ?_
      show Steps p.tables e below (T8.setTop (mkF m 77 #[.val (.long q0), .second, .val (.long q1), .second, .val (.long q2), .second, .val (.int p3), .val (.int (own_z (¬ ((p3 &&& (1 : Int32)) = (0 : Int32))))), .val (.int (own_z (¬ ((p3 &&& (2 : Int32)) = (0 : Int32))))), .val (.ref b3), .val (.int ((((q0 * q2) + q1) &&& (15 : Int64)).toInt32)), .unset, .unset, .unset, .unset] [(.long (q0 &&& (15 : Int64)))])) t
      refine XS.l2i X8.here hx rfl (hb hby at_77) rfl ?_
      show Steps p.tables e below (T8.setTop (mkF m 78 #[.val (.long q0), .second, .val (.long q1), .second, .val (.long q2), .second, .val (.int p3), .val (.int (own_z (¬ ((p3 &&& (1 : Int32)) = (0 : Int32))))), .val (.int (own_z (¬ ((p3 &&& (2 : Int32)) = (0 : Int32))))), .val (.ref b3), .val (.int ((((q0 * q2) + q1) &&& (15 : Int64)).toInt32)), .unset, .unset, .unset, .unset] [(.int ((q0 &&& (15 : Int64)).toInt32))])) t
      refine XS.istore X8.here hx rfl (hb hby at_78) rfl (l' := #[.val (.long q0), .second, .val (.long q1), .second, .val (.long q2), .second, .val (.int p3), .val (.int (own_z (¬ ((p3 &&& (1 : Int32)) = (0 : Int32))))), .val (.int (own_z (¬ ((p3 &&& (2 : Int32)) = (0 : Int32))))), .val (.ref b3), .val (.int ((((q0 * q2) + q1) &&& (15 : Int64)).toInt32)), .unset, .val (.int ((q0 &&& (15 : Int64)).toInt32)), .unset, .unset]) rfl ?_
      show Steps p.tables e below (T8.setTop (mkF m 80 #[.val (.long q0), .second, .val (.long q1), .second, .val (.long q2), .second, .val (.int p3), .val (.int (own_z (¬ ((p3 &&& (1 : Int32)) = (0 : Int32))))), .val (.int (own_z (¬ ((p3 &&& (2 : Int32)) = (0 : Int32))))), .val (.ref b3), .val (.int ((((q0 * q2) + q1) &&& (15 : Int64)).toInt32)), .unset, .val (.int ((q0 &&& (15 : Int64)).toInt32)), .unset, .unset] [])) t
      refine XS.lload X8.here hx rfl (hb hby at_80) rfl ?_
      show Steps p.tables e below (T8.setTop (mkF m 82 #[.val (.long q0), .second, .val (.long q1), .second, .val (.long q2), .second, .val (.int p3), .val (.int (own_z (¬ ((p3 &&& (1 : Int32)) = (0 : Int32))))), .val (.int (own_z (¬ ((p3 &&& (2 : Int32)) = (0 : Int32))))), .val (.ref b3), .val (.int ((((q0 * q2) + q1) &&& (15 : Int64)).toInt32)), .unset, .val (.int ((q0 &&& (15 : Int64)).toInt32)), .unset, .unset] [(.long q2)])) t
      refine X8.ldc2Long hx hown (mvT hZ (hw _ (List.mem_of_getElem? (i := 43) rfl))) (g := (mkF m 82 #[.val (.long q0), .second, .val (.long q1), .second, .val (.long q2), .second, .val (.int p3), .val (.int (own_z (¬ ((p3 &&& (1 : Int32)) = (0 : Int32))))), .val (.int (own_z (¬ ((p3 &&& (2 : Int32)) = (0 : Int32))))), .val (.ref b3), .val (.int ((((q0 * q2) + q1) &&& (15 : Int64)).toInt32)), .unset, .val (.int ((q0 &&& (15 : Int64)).toInt32)), .unset, .unset] [(.long q2)])) rfl (hb hby at_82) _ ?_
      show Steps p.tables e below (T8.setTop (mkF m 85 #[.val (.long q0), .second, .val (.long q1), .second, .val (.long q2), .second, .val (.int p3), .val (.int (own_z (¬ ((p3 &&& (1 : Int32)) = (0 : Int32))))), .val (.int (own_z (¬ ((p3 &&& (2 : Int32)) = (0 : Int32))))), .val (.ref b3), .val (.int ((((q0 * q2) + q1) &&& (15 : Int64)).toInt32)), .unset, .val (.int ((q0 &&& (15 : Int64)).toInt32)), .unset, .unset] [(.long (15 : Int64)), (.long q2)])) t
      refine XS.land X8.here hx rfl (hb hby at_85) rfl ?_
      show Steps p.tables e below (T8.setTop (mkF m 86 #[.val (.long q0), .second, .val (.long q1), .second, .val (.long q2), .second, .val (.int p3), .val (.int (own_z (¬ ((p3 &&& (1 : Int32)) = (0 : Int32))))), .val (.int (own_z (¬ ((p3 &&& (2 : Int32)) = (0 : Int32))))), .val (.ref b3), .val (.int ((((q0 * q2) + q1) &&& (15 : Int64)).toInt32)), .unset, .val (.int ((q0 &&& (15 : Int64)).toInt32)), .unset, .unset] [(.long (q2 &&& (15 : Int64)))])) t
      refine XS.l2i X8.here hx rfl (hb hby at_86) rfl ?_
      show Steps p.tables e below (T8.setTop (mkF m 87 #[.val (.long q0), .second, .val (.long q1), .second, .val (.long q2), .second, .val (.int p3), .val (.int (own_z (¬ ((p3 &&& (1 : Int32)) = (0 : Int32))))), .val (.int (own_z (¬ ((p3 &&& (2 : Int32)) = (0 : Int32))))), .val (.ref b3), .val (.int ((((q0 * q2) + q1) &&& (15 : Int64)).toInt32)), .unset, .val (.int ((q0 &&& (15 : Int64)).toInt32)), .unset, .unset] [(.int ((q2 &&& (15 : Int64)).toInt32))])) t
      refine XS.istore X8.here hx rfl (hb hby at_87) rfl (l' := #[.val (.long q0), .second, .val (.long q1), .second, .val (.long q2), .second, .val (.int p3), .val (.int (own_z (¬ ((p3 &&& (1 : Int32)) = (0 : Int32))))), .val (.int (own_z (¬ ((p3 &&& (2 : Int32)) = (0 : Int32))))), .val (.ref b3), .val (.int ((((q0 * q2) + q1) &&& (15 : Int64)).toInt32)), .unset, .val (.int ((q0 &&& (15 : Int64)).toInt32)), .val (.int ((q2 &&& (15 : Int64)).toInt32)), .unset]) rfl ?_
      show Steps p.tables e below (T8.setTop (mkF m 89 #[.val (.long q0), .second, .val (.long q1), .second, .val (.long q2), .second, .val (.int p3), .val (.int (own_z (¬ ((p3 &&& (1 : Int32)) = (0 : Int32))))), .val (.int (own_z (¬ ((p3 &&& (2 : Int32)) = (0 : Int32))))), .val (.ref b3), .val (.int ((((q0 * q2) + q1) &&& (15 : Int64)).toInt32)), .unset, .val (.int ((q0 &&& (15 : Int64)).toInt32)), .val (.int ((q2 &&& (15 : Int64)).toInt32)), .unset] [])) t
      refine XS.lloadN X8.here hx rfl (hb hby at_89) rfl ?_
      show Steps p.tables e below (T8.setTop (mkF m 90 #[.val (.long q0), .second, .val (.long q1), .second, .val (.long q2), .second, .val (.int p3), .val (.int (own_z (¬ ((p3 &&& (1 : Int32)) = (0 : Int32))))), .val (.int (own_z (¬ ((p3 &&& (2 : Int32)) = (0 : Int32))))), .val (.ref b3), .val (.int ((((q0 * q2) + q1) &&& (15 : Int64)).toInt32)), .unset, .val (.int ((q0 &&& (15 : Int64)).toInt32)), .val (.int ((q2 &&& (15 : Int64)).toInt32)), .unset] [(.long q1)])) t
      refine X8.ldc2Long hx hown (mvT hZ (hw _ (List.mem_of_getElem? (i := 43) rfl))) (g := (mkF m 90 #[.val (.long q0), .second, .val (.long q1), .second, .val (.long q2), .second, .val (.int p3), .val (.int (own_z (¬ ((p3 &&& (1 : Int32)) = (0 : Int32))))), .val (.int (own_z (¬ ((p3 &&& (2 : Int32)) = (0 : Int32))))), .val (.ref b3), .val (.int ((((q0 * q2) + q1) &&& (15 : Int64)).toInt32)), .unset, .val (.int ((q0 &&& (15 : Int64)).toInt32)), .val (.int ((q2 &&& (15 : Int64)).toInt32)), .unset] [(.long q1)])) rfl (hb hby at_90) _ ?_
      show Steps p.tables e below (T8.setTop (mkF m 93 #[.val (.long q0), .second, .val (.long q1), .second, .val (.long q2), .second, .val (.int p3), .val (.int (own_z (¬ ((p3 &&& (1 : Int32)) = (0 : Int32))))), .val (.int (own_z (¬ ((p3 &&& (2 : Int32)) = (0 : Int32))))), .val (.ref b3), .val (.int ((((q0 * q2) + q1) &&& (15 : Int64)).toInt32)), .unset, .val (.int ((q0 &&& (15 : Int64)).toInt32)), .val (.int ((q2 &&& (15 : Int64)).toInt32)), .unset] [(.long (15 : Int64)), (.long q1)])) t
      refine XS.land X8.here hx rfl (hb hby at_93) rfl ?_
      show Steps p.tables e below (T8.setTop (mkF m 94 #[.val (.long q0), .second, .val (.long q1), .second, .val (.long q2), .second, .val (.int p3), .val (.int (own_z (¬ ((p3 &&& (1 : Int32)) = (0 : Int32))))), .val (.int (own_z (¬ ((p3 &&& (2 : Int32)) = (0 : Int32))))), .val (.ref b3), .val (.int ((((q0 * q2) + q1) &&& (15 : Int64)).toInt32)), .unset, .val (.int ((q0 &&& (15 : Int64)).toInt32)), .val (.int ((q2 &&& (15 : Int64)).toInt32)), .unset] [(.long (q1 &&& (15 : Int64)))])) t
      refine XS.l2i X8.here hx rfl (hb hby at_94) rfl ?_
      show Steps p.tables e below (T8.setTop (mkF m 95 #[.val (.long q0), .second, .val (.long q1), .second, .val (.long q2), .second, .val (.int p3), .val (.int (own_z (¬ ((p3 &&& (1 : Int32)) = (0 : Int32))))), .val (.int (own_z (¬ ((p3 &&& (2 : Int32)) = (0 : Int32))))), .val (.ref b3), .val (.int ((((q0 * q2) + q1) &&& (15 : Int64)).toInt32)), .unset, .val (.int ((q0 &&& (15 : Int64)).toInt32)), .val (.int ((q2 &&& (15 : Int64)).toInt32)), .unset] [(.int ((q1 &&& (15 : Int64)).toInt32))])) t
      refine XS.istore X8.here hx rfl (hb hby at_95) rfl (l' := #[.val (.long q0), .second, .val (.long q1), .second, .val (.long q2), .second, .val (.int p3), .val (.int (own_z (¬ ((p3 &&& (1 : Int32)) = (0 : Int32))))), .val (.int (own_z (¬ ((p3 &&& (2 : Int32)) = (0 : Int32))))), .val (.ref b3), .val (.int ((((q0 * q2) + q1) &&& (15 : Int64)).toInt32)), .unset, .val (.int ((q0 &&& (15 : Int64)).toInt32)), .val (.int ((q2 &&& (15 : Int64)).toInt32)), .val (.int ((q1 &&& (15 : Int64)).toInt32))]) rfl ?_
      show Steps p.tables e below (T8.setTop (mkF m 97 #[.val (.long q0), .second, .val (.long q1), .second, .val (.long q2), .second, .val (.int p3), .val (.int (own_z (¬ ((p3 &&& (1 : Int32)) = (0 : Int32))))), .val (.int (own_z (¬ ((p3 &&& (2 : Int32)) = (0 : Int32))))), .val (.ref b3), .val (.int ((((q0 * q2) + q1) &&& (15 : Int64)).toInt32)), .unset, .val (.int ((q0 &&& (15 : Int64)).toInt32)), .val (.int ((q2 &&& (15 : Int64)).toInt32)), .val (.int ((q1 &&& (15 : Int64)).toInt32))] [])) t
      refine XS.iload X8.here hx rfl (hb hby at_97) rfl ?_
      show Steps p.tables e below (T8.setTop (mkF m 99 #[.val (.long q0), .second, .val (.long q1), .second, .val (.long q2), .second, .val (.int p3), .val (.int (own_z (¬ ((p3 &&& (1 : Int32)) = (0 : Int32))))), .val (.int (own_z (¬ ((p3 &&& (2 : Int32)) = (0 : Int32))))), .val (.ref b3), .val (.int ((((q0 * q2) + q1) &&& (15 : Int64)).toInt32)), .unset, .val (.int ((q0 &&& (15 : Int64)).toInt32)), .val (.int ((q2 &&& (15 : Int64)).toInt32)), .val (.int ((q1 &&& (15 : Int64)).toInt32))] [(.int ((q0 &&& (15 : Int64)).toInt32))])) t
      refine XS.iload X8.here hx rfl (hb hby at_99) rfl ?_
      show Steps p.tables e below (T8.setTop (mkF m 101 #[.val (.long q0), .second, .val (.long q1), .second, .val (.long q2), .second, .val (.int p3), .val (.int (own_z (¬ ((p3 &&& (1 : Int32)) = (0 : Int32))))), .val (.int (own_z (¬ ((p3 &&& (2 : Int32)) = (0 : Int32))))), .val (.ref b3), .val (.int ((((q0 * q2) + q1) &&& (15 : Int64)).toInt32)), .unset, .val (.int ((q0 &&& (15 : Int64)).toInt32)), .val (.int ((q2 &&& (15 : Int64)).toInt32)), .val (.int ((q1 &&& (15 : Int64)).toInt32))] [(.int ((q2 &&& (15 : Int64)).toInt32)), (.int ((q0 &&& (15 : Int64)).toInt32))])) t
      refine XS.imul X8.here hx rfl (hb hby at_101) rfl ?_
      show Steps p.tables e below (T8.setTop (mkF m 102 #[.val (.long q0), .second, .val (.long q1), .second, .val (.long q2), .second, .val (.int p3), .val (.int (own_z (¬ ((p3 &&& (1 : Int32)) = (0 : Int32))))), .val (.int (own_z (¬ ((p3 &&& (2 : Int32)) = (0 : Int32))))), .val (.ref b3), .val (.int ((((q0 * q2) + q1) &&& (15 : Int64)).toInt32)), .unset, .val (.int ((q0 &&& (15 : Int64)).toInt32)), .val (.int ((q2 &&& (15 : Int64)).toInt32)), .val (.int ((q1 &&& (15 : Int64)).toInt32))] [(.int (((q0 &&& (15 : Int64)).toInt32) * ((q2 &&& (15 : Int64)).toInt32)))])) t
      refine XS.iload X8.here hx rfl (hb hby at_102) rfl ?_
      show Steps p.tables e below (T8.setTop (mkF m 104 #[.val (.long q0), .second, .val (.long q1), .second, .val (.long q2), .second, .val (.int p3), .val (.int (own_z (¬ ((p3 &&& (1 : Int32)) = (0 : Int32))))), .val (.int (own_z (¬ ((p3 &&& (2 : Int32)) = (0 : Int32))))), .val (.ref b3), .val (.int ((((q0 * q2) + q1) &&& (15 : Int64)).toInt32)), .unset, .val (.int ((q0 &&& (15 : Int64)).toInt32)), .val (.int ((q2 &&& (15 : Int64)).toInt32)), .val (.int ((q1 &&& (15 : Int64)).toInt32))] [(.int ((q1 &&& (15 : Int64)).toInt32)), (.int (((q0 &&& (15 : Int64)).toInt32) * ((q2 &&& (15 : Int64)).toInt32)))])) t
      refine XS.iadd X8.here hx rfl (hb hby at_104) rfl ?_
      show Steps p.tables e below (T8.setTop (mkF m 105 #[.val (.long q0), .second, .val (.long q1), .second, .val (.long q2), .second, .val (.int p3), .val (.int (own_z (¬ ((p3 &&& (1 : Int32)) = (0 : Int32))))), .val (.int (own_z (¬ ((p3 &&& (2 : Int32)) = (0 : Int32))))), .val (.ref b3), .val (.int ((((q0 * q2) + q1) &&& (15 : Int64)).toInt32)), .unset, .val (.int ((q0 &&& (15 : Int64)).toInt32)), .val (.int ((q2 &&& (15 : Int64)).toInt32)), .val (.int ((q1 &&& (15 : Int64)).toInt32))] [(.int ((((q0 &&& (15 : Int64)).toInt32) * ((q2 &&& (15 : Int64)).toInt32)) + ((q1 &&& (15 : Int64)).toInt32)))])) t
      refine XS.bipush X8.here hx rfl (hb hby at_105) ?_
      show Steps p.tables e below (T8.setTop (mkF m 107 #[.val (.long q0), .second, .val (.long q1), .second, .val (.long q2), .second, .val (.int p3), .val (.int (own_z (¬ ((p3 &&& (1 : Int32)) = (0 : Int32))))), .val (.int (own_z (¬ ((p3 &&& (2 : Int32)) = (0 : Int32))))), .val (.ref b3), .val (.int ((((q0 * q2) + q1) &&& (15 : Int64)).toInt32)), .unset, .val (.int ((q0 &&& (15 : Int64)).toInt32)), .val (.int ((q2 &&& (15 : Int64)).toInt32)), .val (.int ((q1 &&& (15 : Int64)).toInt32))] [(.int (16 : Int32)), (.int ((((q0 &&& (15 : Int64)).toInt32) * ((q2 &&& (15 : Int64)).toInt32)) + ((q1 &&& (15 : Int64)).toInt32)))])) t
      refine iremM X8 hx rfl (hb hby at_107) rfl (by decide) ?_
      show Steps p.tables e below (T8.setTop (mkF m 108 #[.val (.long q0), .second, .val (.long q1), .second, .val (.long q2), .second, .val (.int p3), .val (.int (own_z (¬ ((p3 &&& (1 : Int32)) = (0 : Int32))))), .val (.int (own_z (¬ ((p3 &&& (2 : Int32)) = (0 : Int32))))), .val (.ref b3), .val (.int ((((q0 * q2) + q1) &&& (15 : Int64)).toInt32)), .unset, .val (.int ((q0 &&& (15 : Int64)).toInt32)), .val (.int ((q2 &&& (15 : Int64)).toInt32)), .val (.int ((q1 &&& (15 : Int64)).toInt32))] [(.int (((((q0 &&& (15 : Int64)).toInt32) * ((q2 &&& (15 : Int64)).toInt32)) + ((q1 &&& (15 : Int64)).toInt32)) % (16 : Int32)))])) t
      refine XS.istore X8.here hx rfl (hb hby at_108) rfl (l' := #[.val (.long q0), .second, .val (.long q1), .second, .val (.long q2), .second, .val (.int p3), .val (.int (own_z (¬ ((p3 &&& (1 : Int32)) = (0 : Int32))))), .val (.int (own_z (¬ ((p3 &&& (2 : Int32)) = (0 : Int32))))), .val (.ref b3), .val (.int ((((q0 * q2) + q1) &&& (15 : Int64)).toInt32)), .val (.int (((((q0 &&& (15 : Int64)).toInt32) * ((q2 &&& (15 : Int64)).toInt32)) + ((q1 &&& (15 : Int64)).toInt32)) % (16 : Int32))), .val (.int ((q0 &&& (15 : Int64)).toInt32)), .val (.int ((q2 &&& (15 : Int64)).toInt32)), .val (.int ((q1 &&& (15 : Int64)).toInt32))]) rfl ?_
      show Steps p.tables e below (T8.setTop (mkF m 110 #[.val (.long q0), .second, .val (.long q1), .second, .val (.long q2), .second, .val (.int p3), .val (.int (own_z (¬ ((p3 &&& (1 : Int32)) = (0 : Int32))))), .val (.int (own_z (¬ ((p3 &&& (2 : Int32)) = (0 : Int32))))), .val (.ref b3), .val (.int ((((q0 * q2) + q1) &&& (15 : Int64)).toInt32)), .val (.int (((((q0 &&& (15 : Int64)).toInt32) * ((q2 &&& (15 : Int64)).toInt32)) + ((q1 &&& (15 : Int64)).toInt32)) % (16 : Int32))), .val (.int ((q0 &&& (15 : Int64)).toInt32)), .val (.int ((q2 &&& (15 : Int64)).toInt32)), .val (.int ((q1 &&& (15 : Int64)).toInt32))] [])) t
      refine XS.goto X8.here hx rfl (pc0 := 110) (pc' := 116) rfl (hb hby at_110) (by decide) (by decide) ?_
      show Steps p.tables e below (T8.setTop (mkF m 116 #[.val (.long q0), .second, .val (.long q1), .second, .val (.long q2), .second, .val (.int p3), .val (.int (own_z (¬ ((p3 &&& (1 : Int32)) = (0 : Int32))))), .val (.int (own_z (¬ ((p3 &&& (2 : Int32)) = (0 : Int32))))), .val (.ref b3), .val (.int ((((q0 * q2) + q1) &&& (15 : Int64)).toInt32)), .val (.int (((((q0 &&& (15 : Int64)).toInt32) * ((q2 &&& (15 : Int64)).toInt32)) + ((q1 &&& (15 : Int64)).toInt32)) % (16 : Int32))), .val (.int ((q0 &&& (15 : Int64)).toInt32)), .val (.int ((q2 &&& (15 : Int64)).toInt32)), .val (.int ((q1 &&& (15 : Int64)).toInt32))] [])) t
      refine XS.iload X8.here hx rfl (hb hby at_116) rfl ?_
      show Steps p.tables e below (T8.setTop (mkF m 118 #[.val (.long q0), .second, .val (.long q1), .second, .val (.long q2), .second, .val (.int p3), .val (.int (own_z (¬ ((p3 &&& (1 : Int32)) = (0 : Int32))))), .val (.int (own_z (¬ ((p3 &&& (2 : Int32)) = (0 : Int32))))), .val (.ref b3), .val (.int ((((q0 * q2) + q1) &&& (15 : Int64)).toInt32)), .val (.int (((((q0 &&& (15 : Int64)).toInt32) * ((q2 &&& (15 : Int64)).toInt32)) + ((q1 &&& (15 : Int64)).toInt32)) % (16 : Int32))), .val (.int ((q0 &&& (15 : Int64)).toInt32)), .val (.int ((q2 &&& (15 : Int64)).toInt32)), .val (.int ((q1 &&& (15 : Int64)).toInt32))] [(.int ((((q0 * q2) + q1) &&& (15 : Int64)).toInt32))])) t
      refine XS.iload X8.here hx rfl (hb hby at_118) rfl ?_
      show Steps p.tables e below (T8.setTop (mkF m 120 #[.val (.long q0), .second, .val (.long q1), .second, .val (.long q2), .second, .val (.int p3), .val (.int (own_z (¬ ((p3 &&& (1 : Int32)) = (0 : Int32))))), .val (.int (own_z (¬ ((p3 &&& (2 : Int32)) = (0 : Int32))))), .val (.ref b3), .val (.int ((((q0 * q2) + q1) &&& (15 : Int64)).toInt32)), .val (.int (((((q0 &&& (15 : Int64)).toInt32) * ((q2 &&& (15 : Int64)).toInt32)) + ((q1 &&& (15 : Int64)).toInt32)) % (16 : Int32))), .val (.int ((q0 &&& (15 : Int64)).toInt32)), .val (.int ((q2 &&& (15 : Int64)).toInt32)), .val (.int ((q1 &&& (15 : Int64)).toInt32))] [(.int (((((q0 &&& (15 : Int64)).toInt32) * ((q2 &&& (15 : Int64)).toInt32)) + ((q1 &&& (15 : Int64)).toInt32)) % (16 : Int32))), (.int ((((q0 * q2) + q1) &&& (15 : Int64)).toInt32))])) t
      refine XS.icmpNo X8.here hx rfl (hb hby at_120) rfl (teq (show ((((q0 * q2) + q1) &&& (15 : Int64)).toInt32) = (((((q0 &&& (15 : Int64)).toInt32) * ((q2 &&& (15 : Int64)).toInt32)) + ((q1 &&& (15 : Int64)).toInt32)) % (16 : Int32)) from own_tag q0 q2 q1)).2 ?_
      show Steps p.tables e below (T8.setTop (mkF m 123 #[.val (.long q0), .second, .val (.long q1), .second, .val (.long q2), .second, .val (.int p3), .val (.int (own_z (¬ ((p3 &&& (1 : Int32)) = (0 : Int32))))), .val (.int (own_z (¬ ((p3 &&& (2 : Int32)) = (0 : Int32))))), .val (.ref b3), .val (.int ((((q0 * q2) + q1) &&& (15 : Int64)).toInt32)), .val (.int (((((q0 &&& (15 : Int64)).toInt32) * ((q2 &&& (15 : Int64)).toInt32)) + ((q1 &&& (15 : Int64)).toInt32)) % (16 : Int32))), .val (.int ((q0 &&& (15 : Int64)).toInt32)), .val (.int ((q2 &&& (15 : Int64)).toInt32)), .val (.int ((q1 &&& (15 : Int64)).toInt32))] [])) t
      refine XS.iconst X8.here hx rfl (hb hby at_123) ?_
      show Steps p.tables e below (T8.setTop (mkF m 124 #[.val (.long q0), .second, .val (.long q1), .second, .val (.long q2), .second, .val (.int p3), .val (.int (own_z (¬ ((p3 &&& (1 : Int32)) = (0 : Int32))))), .val (.int (own_z (¬ ((p3 &&& (2 : Int32)) = (0 : Int32))))), .val (.ref b3), .val (.int ((((q0 * q2) + q1) &&& (15 : Int64)).toInt32)), .val (.int (((((q0 &&& (15 : Int64)).toInt32) * ((q2 &&& (15 : Int64)).toInt32)) + ((q1 &&& (15 : Int64)).toInt32)) % (16 : Int32))), .val (.int ((q0 &&& (15 : Int64)).toInt32)), .val (.int ((q2 &&& (15 : Int64)).toInt32)), .val (.int ((q1 &&& (15 : Int64)).toInt32))] [(.int (1 : Int32))])) t
      refine XS.goto X8.here hx rfl (pc0 := 124) (pc' := 128) rfl (hb hby at_124) (by decide) (by decide) ?_
      show Steps p.tables e below (T8.setTop (mkF m 128 #[.val (.long q0), .second, .val (.long q1), .second, .val (.long q2), .second, .val (.int p3), .val (.int (own_z (¬ ((p3 &&& (1 : Int32)) = (0 : Int32))))), .val (.int (own_z (¬ ((p3 &&& (2 : Int32)) = (0 : Int32))))), .val (.ref b3), .val (.int ((((q0 * q2) + q1) &&& (15 : Int64)).toInt32)), .val (.int (((((q0 &&& (15 : Int64)).toInt32) * ((q2 &&& (15 : Int64)).toInt32)) + ((q1 &&& (15 : Int64)).toInt32)) % (16 : Int32))), .val (.int ((q0 &&& (15 : Int64)).toInt32)), .val (.int ((q2 &&& (15 : Int64)).toInt32)), .val (.int ((q1 &&& (15 : Int64)).toInt32))] [(.int (1 : Int32))])) t
      exact kt
    exact own_retNW X8 hP hx hlk e8 hS kzKq7 (t := .boolean) hret (by simp) (hb hby at_128) (by decide) (by decide) (z' := (1 : Int32)) rfl ⟨rfl, N7⟩
  · refine own_go (T' := T5) (f' := (mkF m 62 #[.val (.long q0), .second, .val (.long q1), .second, .val (.long q2), .second, .val (.int p3), .val (.int (own_z (¬ ((p3 &&& (1 : Int32)) = (0 : Int32))))), .val (.int (own_z (¬ ((p3 &&& (2 : Int32)) = (0 : Int32))))), .val (.ref b3), .unset, .unset, .unset, .unset, .unset] [(.long q2), (.ref b3)])) (fun t kt => ?_) ?_
    · show Steps p.tables e below (T5.setTop (mkF m 48 #[.val (.long q0), .second, .val (.long q1), .second, .val (.long q2), .second, .val (.int p3), .val (.int (own_z (¬ ((p3 &&& (1 : Int32)) = (0 : Int32))))), .val (.int (own_z (¬ ((p3 &&& (2 : Int32)) = (0 : Int32))))), .val (.ref b3), .unset, .unset, .unset, .unset, .unset] [(.int (own_z (¬ ((p3 &&& (1 : Int32)) = (0 : Int32)))))])) t
      refine XS.ifYes X5.here hx rfl (pc0 := 48) (pc' := 58) rfl (hb hby at_48) rfl (own_zY_eq hc48_6) (by decide) (by decide) ?_
      show Steps p.tables e below (T5.setTop (mkF m 58 #[.val (.long q0), .second, .val (.long q1), .second, .val (.long q2), .second, .val (.int p3), .val (.int (own_z (¬ ((p3 &&& (1 : Int32)) = (0 : Int32))))), .val (.int (own_z (¬ ((p3 &&& (2 : Int32)) = (0 : Int32))))), .val (.ref b3), .unset, .unset, .unset, .unset, .unset] [])) t
      refine XS.aload X5.here hx rfl (hb hby at_58) rfl rfl ?_
      show Steps p.tables e below (T5.setTop (mkF m 60 #[.val (.long q0), .second, .val (.long q1), .second, .val (.long q2), .second, .val (.int p3), .val (.int (own_z (¬ ((p3 &&& (1 : Int32)) = (0 : Int32))))), .val (.int (own_z (¬ ((p3 &&& (2 : Int32)) = (0 : Int32))))), .val (.ref b3), .unset, .unset, .unset, .unset, .unset] [(.ref b3)])) t
      refine XS.lload X5.here hx rfl (hb hby at_60) rfl ?_
      show Steps p.tables e below (T5.setTop (mkF m 62 #[.val (.long q0), .second, .val (.long q1), .second, .val (.long q2), .second, .val (.int p3), .val (.int (own_z (¬ ((p3 &&& (1 : Int32)) = (0 : Int32))))), .val (.int (own_z (¬ ((p3 &&& (2 : Int32)) = (0 : Int32))))), .val (.ref b3), .unset, .unset, .unset, .unset, .unset] [(.long q2), (.ref b3)])) t
      exact kt
    refine own_callVp X5 hx hZ hown rfl (hw _ (List.mem_of_getElem? (i := 28) rfl)) (hw _ (List.mem_of_getElem? (i := 29) rfl)) (notFace_of_selects (args := #[]) (mvT hZ (hw _ (List.mem_of_getElem? (i := 31) rfl)))) (hw _ (List.mem_of_getElem? (i := 31) rfl)) (hw _ (List.mem_of_getElem? (i := 30) rfl)) (hw _ (List.mem_of_getElem? (i := 2) rfl)) (hw _ (List.mem_of_getElem? (i := 32) rfl)) (by decide) (rm3 l Z aw hw b3 q2 (0 : Int64) (0 : Int64) T5.heap n0 ZKq5 Pq5_1 Pq5_2) Pq5_0 (g := (mkF m 62 #[.val (.long q0), .second, .val (.long q1), .second, .val (.long q2), .second, .val (.int p3), .val (.int (own_z (¬ ((p3 &&& (1 : Int32)) = (0 : Int32))))), .val (.int (own_z (¬ ((p3 &&& (2 : Int32)) = (0 : Int32))))), .val (.ref b3), .unset, .unset, .unset, .unset, .unset] [(.long q2), (.ref b3)])) rfl (by rw [hml]; rfl) (argsL := [(.long q2)]) (rest := []) (lenOf pd_2 rfl) rfl rfl (W := 0) (by show 2 * 0 + _ ≤ _; exact Nat.le_of_eq rfl) (hb hby at_62) (by decide) (by decide) (by decide) (by decide) ?_
    intro T9 X9 e9
    refine own_go (T' := T9) (f' := (mkF m 128 #[.val (.long q0), .second, .val (.long q1), .second, .val (.long q2), .second, .val (.int p3), .val (.int (own_z (¬ ((p3 &&& (1 : Int32)) = (0 : Int32))))), .val (.int (own_z (¬ ((p3 &&& (2 : Int32)) = (0 : Int32))))), .val (.ref b3), .val (.int (((((0 : Int64) * q2) + (0 : Int64)) &&& (15 : Int64)).toInt32)), .val (.int (0 : Int32)), .unset, .unset, .unset] [(.int (1 : Int32))])) (fun t kt => ?_) ?_
    · show Steps p.tables e below (T9.setTop (mkF m 65 #[.val (.long q0), .second, .val (.long q1), .second, .val (.long q2), .second, .val (.int p3), .val (.int (own_z (¬ ((p3 &&& (1 : Int32)) = (0 : Int32))))), .val (.int (own_z (¬ ((p3 &&& (2 : Int32)) = (0 : Int32))))), .val (.ref b3), .unset, .unset, .unset, .unset, .unset] [(.int (((((0 : Int64) * q2) + (0 : Int64)) &&& (15 : Int64)).toInt32))])) t
      refine XS.istore X9.here hx rfl (hb hby at_65) rfl (l' := #[.val (.long q0), .second, .val (.long q1), .second, .val (.long q2), .second, .val (.int p3), .val (.int (own_z (¬ ((p3 &&& (1 : Int32)) = (0 : Int32))))), .val (.int (own_z (¬ ((p3 &&& (2 : Int32)) = (0 : Int32))))), .val (.ref b3), .val (.int (((((0 : Int64) * q2) + (0 : Int64)) &&& (15 : Int64)).toInt32)), .unset, .unset, .unset, .unset]) rfl ?_
      show Steps p.tables e below (T9.setTop (mkF m 67 #[.val (.long q0), .second, .val (.long q1), .second, .val (.long q2), .second, .val (.int p3), .val (.int (own_z (¬ ((p3 &&& (1 : Int32)) = (0 : Int32))))), .val (.int (own_z (¬ ((p3 &&& (2 : Int32)) = (0 : Int32))))), .val (.ref b3), .val (.int (((((0 : Int64) * q2) + (0 : Int64)) &&& (15 : Int64)).toInt32)), .unset, .unset, .unset, .unset] [])) t
      refine XS.iload X9.here hx rfl (hb hby at_67) rfl ?_
      show Steps p.tables e below (T9.setTop (mkF m 69 #[.val (.long q0), .second, .val (.long q1), .second, .val (.long q2), .second, .val (.int p3), .val (.int (own_z (¬ ((p3 &&& (1 : Int32)) = (0 : Int32))))), .val (.int (own_z (¬ ((p3 &&& (2 : Int32)) = (0 : Int32))))), .val (.ref b3), .val (.int (((((0 : Int64) * q2) + (0 : Int64)) &&& (15 : Int64)).toInt32)), .unset, .unset, .unset, .unset] [(.int (own_z (¬ ((p3 &&& (1 : Int32)) = (0 : Int32)))))])) t
      refine XS.ifYes X9.here hx rfl (pc0 := 69) (pc' := 113) rfl (hb hby at_69) rfl (own_zY_eq hc48_6) (by decide) (by decide) ?_
      show Steps p.tables e below (T9.setTop (mkF m 113 #[.val (.long q0), .second, .val (.long q1), .second, .val (.long q2), .second, .val (.int p3), .val (.int (own_z (¬ ((p3 &&& (1 : Int32)) = (0 : Int32))))), .val (.int (own_z (¬ ((p3 &&& (2 : Int32)) = (0 : Int32))))), .val (.ref b3), .val (.int (((((0 : Int64) * q2) + (0 : Int64)) &&& (15 : Int64)).toInt32)), .unset, .unset, .unset, .unset] [])) t
      refine XS.iconst X9.here hx rfl (hb hby at_113) ?_
      show Steps p.tables e below (T9.setTop (mkF m 114 #[.val (.long q0), .second, .val (.long q1), .second, .val (.long q2), .second, .val (.int p3), .val (.int (own_z (¬ ((p3 &&& (1 : Int32)) = (0 : Int32))))), .val (.int (own_z (¬ ((p3 &&& (2 : Int32)) = (0 : Int32))))), .val (.ref b3), .val (.int (((((0 : Int64) * q2) + (0 : Int64)) &&& (15 : Int64)).toInt32)), .unset, .unset, .unset, .unset] [(.int (0 : Int32))])) t
      refine XS.istore X9.here hx rfl (hb hby at_114) rfl (l' := #[.val (.long q0), .second, .val (.long q1), .second, .val (.long q2), .second, .val (.int p3), .val (.int (own_z (¬ ((p3 &&& (1 : Int32)) = (0 : Int32))))), .val (.int (own_z (¬ ((p3 &&& (2 : Int32)) = (0 : Int32))))), .val (.ref b3), .val (.int (((((0 : Int64) * q2) + (0 : Int64)) &&& (15 : Int64)).toInt32)), .val (.int (0 : Int32)), .unset, .unset, .unset]) rfl ?_
      show Steps p.tables e below (T9.setTop (mkF m 116 #[.val (.long q0), .second, .val (.long q1), .second, .val (.long q2), .second, .val (.int p3), .val (.int (own_z (¬ ((p3 &&& (1 : Int32)) = (0 : Int32))))), .val (.int (own_z (¬ ((p3 &&& (2 : Int32)) = (0 : Int32))))), .val (.ref b3), .val (.int (((((0 : Int64) * q2) + (0 : Int64)) &&& (15 : Int64)).toInt32)), .val (.int (0 : Int32)), .unset, .unset, .unset] [])) t
      refine XS.iload X9.here hx rfl (hb hby at_116) rfl ?_
      show Steps p.tables e below (T9.setTop (mkF m 118 #[.val (.long q0), .second, .val (.long q1), .second, .val (.long q2), .second, .val (.int p3), .val (.int (own_z (¬ ((p3 &&& (1 : Int32)) = (0 : Int32))))), .val (.int (own_z (¬ ((p3 &&& (2 : Int32)) = (0 : Int32))))), .val (.ref b3), .val (.int (((((0 : Int64) * q2) + (0 : Int64)) &&& (15 : Int64)).toInt32)), .val (.int (0 : Int32)), .unset, .unset, .unset] [(.int (((((0 : Int64) * q2) + (0 : Int64)) &&& (15 : Int64)).toInt32))])) t
      refine XS.iload X9.here hx rfl (hb hby at_118) rfl ?_
      show Steps p.tables e below (T9.setTop (mkF m 120 #[.val (.long q0), .second, .val (.long q1), .second, .val (.long q2), .second, .val (.int p3), .val (.int (own_z (¬ ((p3 &&& (1 : Int32)) = (0 : Int32))))), .val (.int (own_z (¬ ((p3 &&& (2 : Int32)) = (0 : Int32))))), .val (.ref b3), .val (.int (((((0 : Int64) * q2) + (0 : Int64)) &&& (15 : Int64)).toInt32)), .val (.int (0 : Int32)), .unset, .unset, .unset] [(.int (0 : Int32)), (.int (((((0 : Int64) * q2) + (0 : Int64)) &&& (15 : Int64)).toInt32))])) t
      refine XS.icmpNo X9.here hx rfl (hb hby at_120) rfl (teq (show (((((0 : Int64) * q2) + (0 : Int64)) &&& (15 : Int64)).toInt32) = (0 : Int32) from own_tag0 q2)).2 ?_
      show Steps p.tables e below (T9.setTop (mkF m 123 #[.val (.long q0), .second, .val (.long q1), .second, .val (.long q2), .second, .val (.int p3), .val (.int (own_z (¬ ((p3 &&& (1 : Int32)) = (0 : Int32))))), .val (.int (own_z (¬ ((p3 &&& (2 : Int32)) = (0 : Int32))))), .val (.ref b3), .val (.int (((((0 : Int64) * q2) + (0 : Int64)) &&& (15 : Int64)).toInt32)), .val (.int (0 : Int32)), .unset, .unset, .unset] [])) t
      refine XS.iconst X9.here hx rfl (hb hby at_123) ?_
      show Steps p.tables e below (T9.setTop (mkF m 124 #[.val (.long q0), .second, .val (.long q1), .second, .val (.long q2), .second, .val (.int p3), .val (.int (own_z (¬ ((p3 &&& (1 : Int32)) = (0 : Int32))))), .val (.int (own_z (¬ ((p3 &&& (2 : Int32)) = (0 : Int32))))), .val (.ref b3), .val (.int (((((0 : Int64) * q2) + (0 : Int64)) &&& (15 : Int64)).toInt32)), .val (.int (0 : Int32)), .unset, .unset, .unset] [(.int (1 : Int32))])) t
      refine XS.goto X9.here hx rfl (pc0 := 124) (pc' := 128) rfl (hb hby at_124) (by decide) (by decide) ?_
      show Steps p.tables e below (T9.setTop (mkF m 128 #[.val (.long q0), .second, .val (.long q1), .second, .val (.long q2), .second, .val (.int p3), .val (.int (own_z (¬ ((p3 &&& (1 : Int32)) = (0 : Int32))))), .val (.int (own_z (¬ ((p3 &&& (2 : Int32)) = (0 : Int32))))), .val (.ref b3), .val (.int (((((0 : Int64) * q2) + (0 : Int64)) &&& (15 : Int64)).toInt32)), .val (.int (0 : Int32)), .unset, .unset, .unset] [(.int (1 : Int32))])) t
      exact kt
    exact own_retNW X9 hP hx hlk e9 hS kzKq5 (t := .boolean) hret (by simp) (hb hby at_128) (by decide) (by decide) (z' := (1 : Int32)) rfl ⟨rfl, N5⟩
set_option maxRecDepth 65536 in
set_option maxHeartbeats 40000000 in
theorem comes_1 {Post : Tables → Env → Array Value → State → Outcome → State → Prop} (hpost : ∀ tb e args s v u, (limb_1_1.after args s (.returned v) u = true ∧ limb_1_2.after args s (.returned v) u = true ∧ True) → ReturnedEndW s (.returned v) u (Jvm.fieldLocs frame_1_writes args s ++ Jvm.arrayLocs frame_1_arrays args s ++ Jvm.staticLocs frame_1_statics s) 16 1152 → Post tb e args s (.returned v) u) :
    ArmFor flags0 classFile x code maxLocals ret World_1 tables_1 room_1 Calls_1 rest_1 Pre_1 Post := by
  intro l hfl _ _ p e ha hc hk s m args below hf hA hF happ hP
  obtain ⟨hcalls, hrest, hpre⟩ := hP
  obtain ⟨-, -, -, hnamed, -, -, -, hat⟩ := (Spec.applies_iff hf).mp happ
  obtain ⟨hg, hn⟩ := and_e (Cond.before_iff.mp (show (Jvm.Cond.and given_1 narrow_1).before args s = true from hpre))
  obtain ⟨k1, k2⟩ := and_e hg
  obtain ⟨k3, k4⟩ := and_e k2
  obtain ⟨k5, k6⟩ := and_e k4
  obtain ⟨k7, k8⟩ := and_e k6
  obtain ⟨w0, w1, w2, w3, rfl⟩ : ∃ w0 w1 w2 w3 : Value, args = #[w0, w1, w2, w3] := by
    have hs : args.size = 4 := by simpa [Cond.value, given_1] using k1
    obtain ⟨L⟩ := args
    match L, hs with
    | [w0, w1, w2, w3], _ => exact ⟨w0, w1, w2, w3, rfl⟩
  have hw := fun d (hd : d ∈ tables_1) => atoms_spec (ws := Jvm.Cond.code x code maxLocals ret :: tables_1) hat d (List.mem_cons_of_mem _ hd)
  obtain ⟨i0, ei0⟩ := isL_v k3
  obtain rfl : w0 = (.long i0) := Option.some.inj ei0
  obtain ⟨i1, ei1⟩ := isL_v k5
  obtain rfl : w1 = (.long i1) := Option.some.inj ei1
  obtain ⟨i2, ei2⟩ := isL_v k7
  obtain rfl : w2 = (.long i2) := Option.some.inj ei2
  obtain ⟨i3, ei3⟩ := is_v k8
  obtain rfl : w3 = (.int i3) := Option.some.inj ei3
  obtain ⟨n, o, h1, h2, h3, _, L, rfl, ⟨rfl, N⟩, hq⟩ := rm0 l s _ hw (ws := tables_1) i0 i1 i2 i3 s.heap s.heap.size (Nat.le_refl _)  p e ha hc hk s m _ below hf ((Spec.applies_iff_loose hf).mp happ).1 ⟨rfl, State.Warmed39.refl s, rfl⟩ trivial
  refine ⟨n, _, h1, h2, h3, hpost _ _ _ _ _ _ ⟨Cond.after_iff.mpr rfl, Cond.after_iff.mpr (eq_i res_at (Term.int_eval (1)) rfl), trivial⟩ ⟨hq.1, hq.2.1, hq.2.2.1, (hq.2.2.2.sift fun y hy => Or.inr (N y hy)).mono (by decide) (by decide)⟩⟩
theorem main_1_1 : Claimed_1_1 := comes_1 fun _ _ _ _ _ _ h hF => ⟨h.1, hF⟩
theorem main_1_2 : Claimed_1_2 := comes_1 fun _ _ _ _ _ _ h hF => ⟨h.2.1, hF⟩
end Jvm.Pilot.@@N@@
namespace Jvm.Pilot.@@N@@
open Jvm Jvm.ClassFile Sem Op Lib Jvm.Free Jvm.Stand Jvm.Pilot.@@N@@.Jvm.D
/-! MADE BY PROGRAM (witnessworld.py) out of the Statement's table words and the real class files: 14 classes; the members and pool entries that the words name. The judged class is class 1, her method 1. -/
namespace start1
open Jvm.ClassFile
def u (s : String) : CpInfo := .utf8 (stringToUtf16 s)
/-- a pool by its gaps: so many unusable entries, then the entry; so many at the end -/
def gap : Nat → List CpInfo → List CpInfo
  | 0, r => r
  | n + 1, r => .unusable :: gap n r
def poolList (es : List (Nat × CpInfo)) (last : Nat) : List CpInfo := es.foldr (fun e r => gap e.1 (e.2 :: r)) (gap last [])
def pool (es : List (Nat × CpInfo)) (last : Nat) : Array CpInfo := ⟨poolList es last⟩
def fileOf (pool : Array CpInfo) (this : Nat) (attrs : Array Attribute := #[]) (ms : Array MethodInfo := #[]) (fl : Nat := 33) (sup : Nat := 0) (ifs : Array Nat := #[]) (fds : Array FieldInfo := #[]) : ClassFile where
  minorVersion := 0
  majorVersion := 65
  constantPool := pool
  accessFlags := fl
  thisClass := this
  superClass := sup
  interfaces := ifs
  fields := fds
  methods := ms
  attributes := attrs
def plain (name : String) (sup : Option ClassId) : Class where
  name := name
  kind := .ordinary
  loader := none
  accessFlags := 33
  super := sup
  interfaces := #[]
  cf := none
  fields := #[]
  methods := #[]
  instanceTypes := #[]
  staticTypes := #[]
  resolved := #[]
  callSites := []
  init := .initialized
  statics := none
  mirror := none

def pool0 : Array CpInfo := pool [(5, u "<init>"), (0, u "()V"), (1, .class_ 10), (1, u "java/lang/Object")] 113

def k0c0 : Code := { maxStack := 0, maxLocals := 1, code := object_method_1_code, exceptionTable := #[], attributes := #[] }
def k0m0 : Method := { name := "<init>", desc := "()V", sig := { parameters := [], returnType := none }, accessFlags := 1, code := some k0c0 }
/-- java/lang/Object -/
def k0 : Class := { plain "java/lang/Object" none with
  accessFlags := 33
  interfaces := #[]
  cf := some (fileOf pool0 8 #[] #[{ accessFlags := 1, nameIndex := 5, descriptorIndex := 6, attributes := #[] }] 33 0 #[] #[])
  fields := #[]
  methods := #[k0m0]
  instanceTypes := #[]
  staticTypes := #[]
  resolved := Array.replicate 124 none
  statics := none }

def pool1 : Array CpInfo := pool [(2, .class_ 4), (1, u "java/lang/Object"), (0, u "<init>"), (0, u "()V"), (0, .class_ 8), (0, u "com/example/retag/retag/Region"), (0, .string 10), (0, u "r"), (0, .long 16), (1, .methodref 7 14), (0, .nameAndType 5 15), (0, u "(Ljava/lang/String;IJJZ)V"), (0, .methodref 7 17), (0, .nameAndType 18 19), (0, u "fillTags"), (0, u "(JJ)V"), (0, .methodref 7 21), (0, .nameAndType 22 23), (0, u "initialTag"), (0, u "(J)I"), (0, .long 15), (1, .class_ 27), (0, u "com/example/retag/retag/RegionInitialTagPinLaw"), (2, u "law"), (0, u "(JJJI)Z")] 3

def k1m0 : Method := { name := "<init>", desc := "()V", sig := { parameters := [], returnType := none }, accessFlags := 1, code := none }
def k1c1 : Code := { maxStack := 9, maxLocals := 15, code := code, exceptionTable := #[], attributes := #[] }
def k1m1 : Method := { name := "law", desc := "(JJJI)Z", sig := { parameters := [.long, .long, .long, .int], returnType := some .boolean }, accessFlags := 9, code := some k1c1 }
/-- com/example/retag/retag/RegionInitialTagPinLaw -/
def k1 : Class := { plain "com/example/retag/retag/RegionInitialTagPinLaw" (some 0) with
  accessFlags := 49
  interfaces := #[]
  cf := some (fileOf pool1 26 #[] #[{ accessFlags := 1, nameIndex := 5, descriptorIndex := 6, attributes := #[] }, { accessFlags := 9, nameIndex := 30, descriptorIndex := 31, attributes := #[] }] 49 2 #[] #[])
  fields := #[]
  methods := #[k1m0, k1m1]
  instanceTypes := #[]
  staticTypes := #[]
  resolved := Array.replicate 35 none
  statics := none }

def pool2 : Array CpInfo := pool [(1, .methodref 2 3), (0, .class_ 4), (0, .nameAndType 5 6), (0, u "java/lang/Object"), (0, u "<init>"), (0, u "()V"), (0, .fieldref 8 9), (0, .class_ 10), (0, .nameAndType 11 12), (0, u "com/example/retag/retag/Region"), (0, u "name"), (0, u "Ljava/lang/String;"), (0, .fieldref 8 14), (0, .nameAndType 15 16), (0, u "index"), (0, u "I"), (0, .fieldref 8 18), (0, .nameAndType 19 20), (0, u "base"), (0, u "J"), (0, .fieldref 8 22), (0, .nameAndType 23 20), (0, u "size"), (0, .fieldref 8 25), (0, .nameAndType 26 27), (0, u "tagged"), (0, u "Z"), (2, u "byteStep"), (2, u "byteStart"), (0, .fieldref 8 35), (0, .nameAndType 36 20), (0, u "tagStep"), (0, .fieldref 8 38), (0, .nameAndType 39 20), (0, u "tagStart"), (14, .long 15), (1, u "(Ljava/lang/String;IJJZ)V"), (7, u "(JJ)V"), (0, u "fillTags"), (5, u "(J)I"), (0, u "initialTag")] 2

def k2c0 : Code := { maxStack := 3, maxLocals := 8, code := prog_24_method_1_code, exceptionTable := #[], attributes := #[] }
def k2m0 : Method := { name := "<init>", desc := "(Ljava/lang/String;IJJZ)V", sig := { parameters := [(.object "java/lang/String"), .int, .long, .long, .boolean], returnType := none }, accessFlags := 0, code := some k2c0 }
def k2c1 : Code := { maxStack := 3, maxLocals := 5, code := prog_24_method_8_code, exceptionTable := #[], attributes := #[] }
def k2m1 : Method := { name := "fillTags", desc := "(JJ)V", sig := { parameters := [.long, .long], returnType := none }, accessFlags := 0, code := some k2c1 }
def k2c2 : Code := { maxStack := 4, maxLocals := 3, code := prog_24_method_13_code, exceptionTable := #[], attributes := #[] }
def k2m2 : Method := { name := "initialTag", desc := "(J)I", sig := { parameters := [.long], returnType := some .int }, accessFlags := 0, code := some k2c2 }
/-- com/example/retag/retag/Region -/
def k2 : Class := { plain "com/example/retag/retag/Region" (some 0) with
  accessFlags := 48
  interfaces := #[]
  cf := some (fileOf pool2 8 #[] #[{ accessFlags := 0, nameIndex := 5, descriptorIndex := 56, attributes := #[] }, { accessFlags := 0, nameIndex := 65, descriptorIndex := 64, attributes := #[] }, { accessFlags := 0, nameIndex := 72, descriptorIndex := 71, attributes := #[] }] 48 2 #[] #[{ accessFlags := 18, nameIndex := 11, descriptorIndex := 12, attributes := #[] }, { accessFlags := 18, nameIndex := 15, descriptorIndex := 16, attributes := #[] }, { accessFlags := 18, nameIndex := 19, descriptorIndex := 20, attributes := #[] }, { accessFlags := 18, nameIndex := 23, descriptorIndex := 20, attributes := #[] }, { accessFlags := 18, nameIndex := 26, descriptorIndex := 27, attributes := #[] }, { accessFlags := 2, nameIndex := 30, descriptorIndex := 20, attributes := #[] }, { accessFlags := 2, nameIndex := 33, descriptorIndex := 20, attributes := #[] }, { accessFlags := 2, nameIndex := 36, descriptorIndex := 20, attributes := #[] }, { accessFlags := 2, nameIndex := 39, descriptorIndex := 20, attributes := #[] }])
  fields := #[{ name := "name", type := (.object "java/lang/String"), accessFlags := 18, slot := 0, constantValue := 0 }, { name := "index", type := .int, accessFlags := 18, slot := 1, constantValue := 0 }, { name := "base", type := .long, accessFlags := 18, slot := 2, constantValue := 0 }, { name := "size", type := .long, accessFlags := 18, slot := 3, constantValue := 0 }, { name := "tagged", type := .boolean, accessFlags := 18, slot := 4, constantValue := 0 }, { name := "byteStep", type := .long, accessFlags := 2, slot := 5, constantValue := 0 }, { name := "byteStart", type := .long, accessFlags := 2, slot := 6, constantValue := 0 }, { name := "tagStep", type := .long, accessFlags := 2, slot := 7, constantValue := 0 }, { name := "tagStart", type := .long, accessFlags := 2, slot := 8, constantValue := 0 }]
  methods := #[k2m0, k2m1, k2m2]
  instanceTypes := #[(.object "java/lang/String"), .int, .long, .long, .boolean, .long, .long, .long, .long]
  staticTypes := #[]
  resolved := Array.replicate 75 none
  statics := none }

def pool3 : Array CpInfo := pool [(1, .class_ 2), (0, u "java/io/Serializable"), (0, .class_ 4), (0, u "java/lang/Object")] 2

/-- java/io/Serializable -/
def k3 : Class := { plain "java/io/Serializable" (some 0) with
  accessFlags := 1537
  interfaces := #[]
  cf := some (fileOf pool3 1 #[] #[] 1537 3 #[] #[])
  fields := #[]
  methods := #[]
  instanceTypes := #[]
  staticTypes := #[]
  resolved := Array.replicate 7 none
  statics := none }

def pool4 : Array CpInfo := pool [(1, .class_ 2), (0, u "java/lang/Comparable"), (0, .class_ 4), (0, u "java/lang/Object")] 7

/-- java/lang/Comparable -/
def k4 : Class := { plain "java/lang/Comparable" (some 0) with
  accessFlags := 1537
  interfaces := #[]
  cf := some (fileOf pool4 1 #[] #[] 1537 3 #[] #[])
  fields := #[]
  methods := #[]
  instanceTypes := #[]
  staticTypes := #[]
  resolved := Array.replicate 12 none
  statics := none }

def pool5 : Array CpInfo := pool [(2, .class_ 4), (1, u "java/lang/CharSequence"), (42, .class_ 48), (0, u "java/lang/CharSequence$1CodePointIterator"), (10, .class_ 60), (0, u "java/lang/CharSequence$1CharIterator"), (5, .class_ 67), (0, u "java/lang/Object")] 63

/-- java/lang/CharSequence -/
def k5 : Class := { plain "java/lang/CharSequence" (some 0) with
  accessFlags := 1537
  interfaces := #[]
  cf := some (fileOf pool5 2 #[.nestMembers #[47, 59]] #[] 1537 66 #[] #[])
  fields := #[]
  methods := #[]
  instanceTypes := #[]
  staticTypes := #[]
  resolved := Array.replicate 131 none
  statics := none }

def pool6 : Array CpInfo := pool [(1, .class_ 2), (0, u "java/lang/constant/Constable"), (0, .class_ 4), (0, u "java/lang/Object")] 6

/-- java/lang/constant/Constable -/
def k6 : Class := { plain "java/lang/constant/Constable" (some 0) with
  accessFlags := 1537
  interfaces := #[]
  cf := some (fileOf pool6 1 #[] #[] 1537 3 #[] #[])
  fields := #[]
  methods := #[]
  instanceTypes := #[]
  staticTypes := #[]
  resolved := Array.replicate 11 none
  statics := none }

def pool7 : Array CpInfo := pool [(1, .class_ 2), (0, u "java/lang/constant/ConstantDesc"), (0, .class_ 4), (0, u "java/lang/Object")] 32

/-- java/lang/constant/ConstantDesc -/
def k7 : Class := { plain "java/lang/constant/ConstantDesc" (some 0) with
  accessFlags := 1537
  interfaces := #[]
  cf := some (fileOf pool7 1 #[] #[] 1537 3 #[] #[])
  fields := #[]
  methods := #[]
  instanceTypes := #[]
  staticTypes := #[]
  resolved := Array.replicate 37 none
  statics := none }

def pool8 : Array CpInfo := pool [(2, .class_ 4), (1, u "java/lang/Object"), (0, u "<init>"), (0, u "()V"), (3, .class_ 12), (1, u "java/lang/String"), (0, u "value"), (0, u "[B"), (2, u "coder"), (0, u "B"), (2, u "hash"), (0, u "I"), (2, u "hashIsZero"), (0, u "Z"), (13, u "COMPACT_STRINGS"), (534, .class_ 576), (0, u "java/lang/CharSequence"), (22, u "CASE_INSENSITIVE_ORDER"), (0, u "Ljava/util/Comparator;"), (500, u "serialPersistentFields"), (0, u "[Ljava/io/ObjectStreamField;"), (0, .class_ 1104), (0, u "java/lang/String$CaseInsensitiveComparator"), (1, .class_ 1107), (0, u "java/io/Serializable"), (0, .class_ 1109), (0, u "java/lang/Comparable"), (0, .class_ 1111), (0, u "java/lang/constant/Constable"), (0, .class_ 1113), (0, u "java/lang/constant/ConstantDesc"), (2, u "serialVersionUID"), (0, u "J"), (3, u "REPL"), (0, u "C"), (2, u "LATIN1"), (1, u "UTF16")] 323

def k8m0 : Method := { name := "<init>", desc := "()V", sig := { parameters := [], returnType := none }, accessFlags := 1, code := none }
/-- java/lang/String -/
def k8 : Class := { plain "java/lang/String" (some 0) with
  accessFlags := 49
  interfaces := #[3, 4, 5, 6, 7]
  cf := some (fileOf pool8 10 #[.nestMembers #[1103]] #[{ accessFlags := 1, nameIndex := 5, descriptorIndex := 6, attributes := #[] }] 49 2 #[1106, 1108, 575, 1110, 1112] #[{ accessFlags := 18, nameIndex := 13, descriptorIndex := 14, attributes := #[] }, { accessFlags := 18, nameIndex := 17, descriptorIndex := 18, attributes := #[] }, { accessFlags := 2, nameIndex := 21, descriptorIndex := 22, attributes := #[] }, { accessFlags := 2, nameIndex := 25, descriptorIndex := 26, attributes := #[] }, { accessFlags := 26, nameIndex := 1116, descriptorIndex := 1117, attributes := #[] }, { accessFlags := 24, nameIndex := 40, descriptorIndex := 26, attributes := #[] }, { accessFlags := 26, nameIndex := 1101, descriptorIndex := 1102, attributes := #[] }, { accessFlags := 26, nameIndex := 1121, descriptorIndex := 1122, attributes := #[] }, { accessFlags := 25, nameIndex := 599, descriptorIndex := 600, attributes := #[] }, { accessFlags := 24, nameIndex := 1125, descriptorIndex := 18, attributes := #[] }, { accessFlags := 24, nameIndex := 1127, descriptorIndex := 18, attributes := #[] }])
  fields := #[{ name := "value", type := (.array .byte), accessFlags := 18, slot := 0, constantValue := 0 }, { name := "coder", type := .byte, accessFlags := 18, slot := 1, constantValue := 0 }, { name := "hash", type := .int, accessFlags := 2, slot := 2, constantValue := 0 }, { name := "hashIsZero", type := .boolean, accessFlags := 2, slot := 3, constantValue := 0 }, { name := "serialVersionUID", type := .long, accessFlags := 26, slot := 0, constantValue := 0 }, { name := "COMPACT_STRINGS", type := .boolean, accessFlags := 24, slot := 1, constantValue := 0 }, { name := "serialPersistentFields", type := (.array (.object "java/io/ObjectStreamField")), accessFlags := 26, slot := 2, constantValue := 0 }, { name := "REPL", type := .char, accessFlags := 26, slot := 3, constantValue := 0 }, { name := "CASE_INSENSITIVE_ORDER", type := (.object "java/util/Comparator"), accessFlags := 25, slot := 4, constantValue := 0 }, { name := "LATIN1", type := .byte, accessFlags := 24, slot := 5, constantValue := 0 }, { name := "UTF16", type := .byte, accessFlags := 24, slot := 6, constantValue := 0 }]
  methods := #[k8m0]
  instanceTypes := #[(.array .byte), .byte, .int, .boolean]
  staticTypes := #[.long, .boolean, (.array (.object "java/io/ObjectStreamField")), .char, (.object "java/util/Comparator"), .byte, .byte]
  resolved := Array.replicate 1451 none
  statics := none }

def pool9 : Array CpInfo := pool [(1, u "java/lang/Cloneable"), (0, .class_ 1), (0, u "java/lang/Object"), (0, .class_ 3)] 3

/-- java/lang/Cloneable -/
def k9 : Class := { plain "java/lang/Cloneable" (some 0) with
  accessFlags := 1537
  interfaces := #[]
  cf := some (fileOf pool9 2 #[] #[] 1537 4 #[] #[])
  fields := #[]
  methods := #[]
  instanceTypes := #[]
  staticTypes := #[]
  resolved := Array.replicate 8 none
  statics := none }

/-- the primitive byte -/
def k10 : Class := { plain "byte" none with kind := .primitive 'B', accessFlags := 0x411 }
/-- [B -/
def k11 : Class := { plain "[B" (some 0) with kind := .array 10 .byte, interfaces := #[9, 3], accessFlags := 1041 }

/-- the primitive int -/
def k12 : Class := { plain "int" none with kind := .primitive 'I', accessFlags := 0x411 }
/-- [I -/
def k13 : Class := { plain "[I" (some 0) with kind := .array 12 .int, interfaces := #[9, 3], accessFlags := 1041 }

def heap : Heap := #[]
def classes : Array Class := #[k0, k1, k2, k3, k4, k5, k6, k7, k8, k9, k10, k11, k12, k13]
def interned : List (Array UInt16 × Addr) := []
def slotsUsed : Nat := 0
def theMethod : MethodId := ⟨1, 1⟩
def args0 : Array Value := #[.long 0, .long 1, .long 2, .int 7]
def aboutOver (below : List Frame) : State where
  vm := { classes := classes, interned := interned.toArray }
  heap := heap
  slotsUsed := slotsUsed
  threads := #[{ frames := .invoking theMethod args0 :: below }]
def below0 : List Frame := [.native { method := ⟨0, 0⟩, args := #[] }]
def about1 : State := aboutOver below0
def p0 : Program := .bare "" "" ""
def e0 : Env := launch0.env 0 0 0
theorem w_frames : about1.frames = Frame.invoking theMethod args0 :: below0 := rfl
set_option maxRecDepth 65536 in
theorem w_args : argsFit about1.vm theMethod args0 = true := by decide +kernel
set_option maxRecDepth 65536 in
theorem w_heap : heapFits about1 = true := by decide +kernel
set_option maxRecDepth 65536 in
theorem w_runnable : about1.curStatus? = some .runnable := by decide +kernel
set_option maxRecDepth 65536 in
theorem w_alone : about1.alone = true := by decide +kernel
set_option maxRecDepth 65536 in
theorem w_named : about1.methodNamed? x = some theMethod := by decide +kernel
set_option maxRecDepth 65536 in
theorem w_hears : about1.hears theMethod below0 = true := by decide +kernel
set_option maxRecDepth 65536 in
theorem w_ripe : about1.ripe theMethod args0 below0 = true := by decide +kernel
theorem w_running : about1.status = .running := rfl
set_option maxRecDepth 65536 in
theorem w_room : about1.hasRoom e0.platform room_1 = true :=
  launch0.hasRoom_least _ room_1 (by decide +kernel) (by decide +kernel) (by decide +kernel) (by decide +kernel) (by decide +kernel) (by decide +kernel)
theorem allAtoms_all (ts : List Jvm.Cond) (a : Array Jvm.Value) (st : Jvm.State) : (allAtoms ts).before a st = ts.all (fun c => c.before a st) := by
  induction ts with
  | nil => rfl
  | cons c t ih =>
    show (Jvm.Cond.and c (allAtoms t)).before a st = _
    rw [Jvm.Cond.before_and, ih, List.all_cons]
def words1 : List Jvm.Cond := Jvm.Cond.code x code maxLocals ret :: tables_1
/-- a 'code' word, met by the world's own term for the bytes: nothing is compared byte by byte -/
theorem code_word {y : MethodName} {bytes : ByteArray} {mx : Nat} {rt : Option FieldType} {a : Array Value} {s : State} {m : MethodId} {meth : Method} {c : Code} (h1 : s.methodNamed? y = some m) (h2 : s.vm.method? m = some meth) (h3 : meth.code = some c) (h4 : c.code = bytes)
    (h5 : (c.maxLocals == mx && c.exceptionTable.isEmpty && decide (c.maxStack ≤ mostOperands) && decide (meth.sig.returnType = rt) && !meth.locks && decide (parseMethodDescriptor y.desc = some meth.sig)) = true) : (Jvm.Cond.code y bytes mx rt).before a s = true := by
  simp only [Bool.and_eq_true, beq_iff_eq, Bool.not_eq_true', decide_eq_true_eq] at h5
  obtain ⟨⟨⟨⟨⟨g1, g2⟩, g3⟩, g4⟩, g5⟩, g6⟩ := h5
  simp [Cond.before, Cond.holds, Cond.value, h1, h2, h3, h4, g1, g2, g3, g4, g5, g6]
def isCode : Jvm.Cond → Bool
  | .code _ _ _ _ => true
  | _ => false
theorem all_split {L : List Jvm.Cond} {P : Jvm.Cond → Bool} (h1 : L.all (fun c => isCode c || P c) = true) (h2 : ∀ c ∈ L.filter isCode, P c = true) : L.all P = true := by
  refine List.all_eq_true.mpr fun c hc => ?_
  have h := List.all_eq_true.mp h1 c hc
  rcases Bool.eq_false_or_eq_true (isCode c) with hi | hi
  · exact h2 c (List.mem_filter.mpr ⟨hc, hi⟩)
  · simpa [hi] using h
set_option maxRecDepth 65536 in
theorem w_c0 : (Jvm.Cond.code x code maxLocals ret).before args0 about1 = true := code_word (m := ⟨1, 1⟩) (meth := k1m1) (c := k1c1) (by decide +kernel) rfl rfl rfl (by decide +kernel)
set_option maxRecDepth 65536 in
theorem w_c1 : (Jvm.Cond.code ({ cls := "com/example/retag/retag/Region", name := "<init>", desc := "(Ljava/lang/String;IJJZ)V" } : Jvm.MethodName) prog_24_method_1_code (8 : Nat) (Option.none : Option Jvm.ClassFile.FieldType)).before args0 about1 = true := code_word (m := ⟨2, 0⟩) (meth := k2m0) (c := k2c0) (by decide +kernel) rfl rfl rfl (by decide +kernel)
set_option maxRecDepth 65536 in
theorem w_c2 : (Jvm.Cond.code ({ cls := "java/lang/Object", name := "<init>", desc := "()V" } : Jvm.MethodName) object_method_1_code (1 : Nat) (Option.none : Option Jvm.ClassFile.FieldType)).before args0 about1 = true := code_word (m := ⟨0, 0⟩) (meth := k0m0) (c := k0c0) (by decide +kernel) rfl rfl rfl (by decide +kernel)
set_option maxRecDepth 65536 in
theorem w_c3 : (Jvm.Cond.code ({ cls := "com/example/retag/retag/Region", name := "initialTag", desc := "(J)I" } : Jvm.MethodName) prog_24_method_13_code (3 : Nat) (Option.some Jvm.ClassFile.FieldType.int)).before args0 about1 = true := code_word (m := ⟨2, 2⟩) (meth := k2m2) (c := k2c2) (by decide +kernel) rfl rfl rfl (by decide +kernel)
set_option maxRecDepth 65536 in
theorem w_c4 : (Jvm.Cond.code ({ cls := "com/example/retag/retag/Region", name := "fillTags", desc := "(JJ)V" } : Jvm.MethodName) prog_24_method_8_code (5 : Nat) (Option.none : Option Jvm.ClassFile.FieldType)).before args0 about1 = true := code_word (m := ⟨2, 1⟩) (meth := k2m1) (c := k2c1) (by decide +kernel) rfl rfl rfl (by decide +kernel)
def codes1 : List Jvm.Cond := [Jvm.Cond.code x code maxLocals ret, Jvm.Cond.code ({ cls := "com/example/retag/retag/Region", name := "<init>", desc := "(Ljava/lang/String;IJJZ)V" } : Jvm.MethodName) prog_24_method_1_code (8 : Nat) (Option.none : Option Jvm.ClassFile.FieldType), Jvm.Cond.code ({ cls := "java/lang/Object", name := "<init>", desc := "()V" } : Jvm.MethodName) object_method_1_code (1 : Nat) (Option.none : Option Jvm.ClassFile.FieldType), Jvm.Cond.code ({ cls := "com/example/retag/retag/Region", name := "initialTag", desc := "(J)I" } : Jvm.MethodName) prog_24_method_13_code (3 : Nat) (Option.some Jvm.ClassFile.FieldType.int), Jvm.Cond.code ({ cls := "com/example/retag/retag/Region", name := "fillTags", desc := "(JJ)V" } : Jvm.MethodName) prog_24_method_8_code (5 : Nat) (Option.none : Option Jvm.ClassFile.FieldType)]
set_option maxRecDepth 65536 in
theorem codes_eq : words1.filter isCode = codes1 := rfl
theorem w_codes : ∀ c ∈ words1.filter isCode, c.before args0 about1 = true := by
  rw [codes_eq]
  intro c hc
  simp only [codes1, List.mem_cons, List.not_mem_nil, or_false] at hc
  rcases hc with rfl | rfl | rfl | rfl | rfl
  · exact w_c0
  · exact w_c1
  · exact w_c2
  · exact w_c3
  · exact w_c4
set_option maxRecDepth 65536 in
theorem w_t1 : (words1.take 24).all (fun c => isCode c || c.before args0 about1) = true := by decide +kernel
set_option maxRecDepth 65536 in
theorem w_t2 : (words1.drop 24).all (fun c => isCode c || c.before args0 about1) = true := by decide +kernel
theorem w_tables : (allAtoms (Jvm.Cond.code x code maxLocals ret :: tables_1)).before args0 about1 = true := by
  rw [allAtoms_all]
  show words1.all (fun c => c.before args0 about1) = true
  refine all_split ?_ w_codes
  rw [← List.take_append_drop 24 words1, List.all_append, w_t1, w_t2]
  rfl
set_option maxRecDepth 65536 in
theorem w_case : (Jvm.Cond.and given_1 narrow_1).before args0 about1 = true := by decide +kernel
theorem w_applies : (headSpec (Jvm.Cond.code x code maxLocals ret :: tables_1) room_1).applies x e0.platform about1 = true :=
  (Spec.applies_iff w_frames).mpr ⟨w_running, w_runnable, w_alone, w_named, w_hears, w_ripe, w_room, w_tables⟩
theorem atStart : AtStart classFile x code maxLocals ret World_1 tables_1 room_1 Calls_1 rest_1 Pre_1 launch0 p0 e0 about1 theMethod args0 below0 :=
  ⟨lists_1, trivial, launch0.admits_env _ _ _, launch0.least_env, fairChoices_fair.cas, fairChoices_fair.clock, w_frames, w_args, w_heap, w_applies, trivial, trivial, w_case⟩
end start1
theorem witness_1 : WitnessClaimed_1 := ⟨start1.p0, start1.e0, start1.about1, start1.theMethod, start1.args0, start1.below0, start1.atStart⟩
end Jvm.Pilot.@@N@@
