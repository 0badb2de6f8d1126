import JvmDerived
import JvmDerived.Pilot.@@N@@Statement
import JvmDerived.Pilot.@@N@@Code
set_option linter.unusedVariables false
set_option linter.unusedSimpArgs false
@@BLOCK:NumsL.lean.txt@@
namespace Jvm.Pilot.@@N@@
open Jvm Jvm.ClassFile Sem Op Lib Jvm.Free Jvm.Stand Jvm.LawKit Jvm.RoadKit Bundle Jvm.Pilot.@@N@@.Jvm.D
/-! own layer: the run from here ends, and Q holds of what it returned, of the heap and of the places written -/
def own_End (p : Program) (e : Env) (below : List Frame) (P : State → Outcome → Prop) (T : State) (f : JFrame) : Prop := ∃ s₂ o, Steps p.tables e below (T.setTop f) s₂ ∧ P s₂ o
def own_P (below : List Frame) (s : State) (Q : Option Value → Heap → List Loc → Prop) (kc ns : Nat) : State → Outcome → Prop := fun s₂ o => s₂.status = .running ∧ Ended s₂ below o ∧ ∃ v L, o = .returned v ∧ Q v s₂.heap L ∧ FrameEnd s o s₂ L kc ns
def own_Met (l : Launch) (Z : State) (y : MethodName) (bytes : ByteArray) (maxL : Nat) (ret : Option FieldType) (ws : List Jvm.Cond) (rm : Room) (as' : Array Value) (h : Heap) (Q : Option Value → Heap → List Loc → Prop) : Prop :=
  MetFree l y (head1 (Jvm.Cond.code y bytes maxL ret :: ws) rm) (fun a U => a = as' ∧ Z.Warmed39 U.vm ∧ U.heap = h) (fun _ _ _ _ _ => True) (fun _ U o U' => ∃ v L, o = .returned v ∧ Q v U'.heap L ∧ FrameEnd U o U' L rm.cells rm.slots)
section OwnSteps
variable {p : Program} {l : Launch} {e : Env} {R : Room} {s : State} {m : MethodId} {args : Array Value} {below : List Frame} {meth : Method} {c : Code} {T : State} {locs : List Loc} {cells slots : Nat} {P : State → Outcome → Prop} {Q : Option Value → Heap → List Loc → Prop} {kc ns : Nat} {Z : State} {a0 : Array Value} {h : Heap} {f : JFrame}
theorem own_go {T' : State} {f' : JFrame} (st : ∀ t, Steps p.tables e below (T'.setTop f') t → Steps p.tables e below (T.setTop f) t) (k : own_End p e below P T' f') : own_End p e below P T f := by
  obtain ⟨s₂, o, h1, h2⟩ := k
  exact ⟨s₂, o, st _ h1, h2⟩
theorem own_via {T' : State} {f' : JFrame} (st : Steps p.tables e below (T.setTop f) (T'.setTop f')) (k : own_End p e below P T' f') : own_End p e below P T f := own_go (fun _ h => st.trans h) k
theorem own_exf (h : False) : own_End p e below P T f := h.elim
theorem own_body {y : MethodName} {bytes : ByteArray} {maxL : Nat} {ret : Option FieldType} {ws : List Jvm.Cond} {rm : Room} {as' : Array Value} (hpl : plainFor y = true)
    (body : ∀ (p : Program) (e : Env) (s : State) (m : MethodId) (below : List Frame) (meth : Method) (c : Code) (s₁ : State), p.tables.exec = Jvm.exec → Z.Warmed39 s.vm → c.code = bytes → c.maxLocals = maxL → s.vm.findClass y.cls = some m.cls → meth.name = y.name → meth.sig.returnType = ret → meth.locks = false →
      Stand p l e rm s m as' below meth c s₁ [] 0 0 → s₁.heap = h → own_End p e below (own_P below s Q rm.cells rm.slots) s₁ (entryFrame m as' maxL)) : own_Met l Z y bytes maxL ret ws rm as' h Q := by
  refine MetFree.of_bodySF hpl hisR ?_
  intro p e s m args below meth c s₁ Bd hml0 hP hK
  obtain ⟨rfl, hZ, hh⟩ := hP
  exact body p e s m below meth c s₁ Bd.exec hZ Bd.bytes hml0 (findClass_of_methodNamed Bd.named) (name_of_methodNamed Bd.named Bd.method).1 Bd.returns Bd.notSynchronized (Stand.of_body Bd) (by rw [← hh, Bd.state]; rfl)
theorem own_cast {g g' : JFrame} (q : g = g') (k : own_End p e below P T g') : own_End p e below P T g := q ▸ k
theorem own_ret (X : Stand p l e R s m args below meth c T locs cells slots) (hP : P = own_P below s Q kc ns) (hlk : meth.locks = false) (eT : T.heap = h) {v : Option Value} (hv : meth.sig.returnType = none → v = none) (hk : cells ≤ kc) (hn : slots ≤ ns) (hQ : Q v h locs)
    (st : ∀ fs, (∀ (f : JFrame) (acts : List Action), f.method = m → f.locked = none → f.entered = [] → (doReturn e (T.setTop f) acts v).1 = T.setFrames fs) → Steps p.tables e below (T.setTop f) (T.setFrames fs)) : own_End p e below P T f := by
  obtain ⟨fs, hr, hrun, hended, hW, hsame⟩ := X.leave hv hlk
  subst hP
  exact ⟨_, _, st fs hr, hrun, hended, _, _, rfl, (eT ▸ hQ : Q v T.heap locs), ⟨_, rfl⟩, hW, hsame.mono hk hn⟩
theorem own_retV (X : Stand p l e R s m args below meth c T locs cells slots) (hP : P = own_P below s Q kc ns) (hx : p.tables.exec = Jvm.exec) (hlk : meth.locks = false) (eT : T.heap = h) {pc : Nat} {Ls : Array Slot} (hret : meth.sig.returnType = none) (hd : decode c.code pc = .ok (.return_, 1)) (hk : cells ≤ kc) (hn : slots ≤ ns) (hQ : Q none h locs) :
    own_End p e below P T (mkF m pc Ls []) := own_ret X hP hlk eT (fun _ => rfl) hk hn hQ fun _ hr => X.returnOut hx hret hd hr
theorem own_retI (X : Stand p l e R s m args below meth c T locs cells slots) (hP : P = own_P below s Q kc ns) (hx : p.tables.exec = Jvm.exec) (hlk : meth.locks = false) (eT : T.heap = h) {pc : Nat} {Ls : Array Slot} {z : Int32} {rest : List Value} (hret : meth.sig.returnType = some .int) (hd : decode c.code pc = .ok (.ireturn, 1)) (hk : cells ≤ kc) (hn : slots ≤ ns) (hQ : Q (some (.int z)) h locs) :
    own_End p e below P T (mkF m pc Ls (.int z :: rest)) := own_ret X hP hlk eT (fun h => by rw [hret] at h; cases h) hk hn hQ fun fs hr => retOut X hx hret rfl (Or.inl ⟨rfl, Or.inl rfl, z, rfl⟩) hd hr
theorem own_retN (X : Stand p l e R s m args below meth c T locs cells slots) (hP : P = own_P below s Q kc ns) (hx : p.tables.exec = Jvm.exec) (hlk : meth.locks = false) (eT : T.heap = h) {pc : Nat} {Ls : Array Slot} {z : Int32} {rest : List Value} {t : FieldType} (hret : meth.sig.returnType = some t) (ht : t = .boolean ∨ t = .byte ∨ t = .char ∨ t = .short) (hd : decode c.code pc = .ok (.ireturn, 1)) (hk : cells ≤ kc) (hn : slots ≤ ns) {z' : Int32} (hz : nar t z = z') (hQ : Q (some (.int z')) h locs) :
    own_End p e below P T (mkF m pc Ls (.int z :: rest)) := by
  subst hz
  exact own_ret X hP hlk eT (fun h => by rw [hret] at h; cases h) hk hn hQ fun fs hr => retN X hx hret ht hd hr
theorem own_retJ (X : Stand p l e R s m args below meth c T locs cells slots) (hP : P = own_P below s Q kc ns) (hx : p.tables.exec = Jvm.exec) (hlk : meth.locks = false) (eT : T.heap = h) {pc : Nat} {Ls : Array Slot} {z : Int64} {rest : List Value} (hret : meth.sig.returnType = some .long) (hd : decode c.code pc = .ok (.lreturn, 1)) (hk : cells ≤ kc) (hn : slots ≤ ns) (hQ : Q (some (.long z)) h locs) :
    own_End p e below P T (mkF m pc Ls (.long z :: rest)) := own_ret X hP hlk eT (fun h => by rw [hret] at h; cases h) hk hn hQ fun fs hr => retOut X hx hret rfl (Or.inr (Or.inl ⟨rfl, rfl, z, rfl⟩)) hd hr
theorem own_retA (X : Stand p l e R s m args below meth c T locs cells slots) (hP : P = own_P below s Q kc ns) (hx : p.tables.exec = Jvm.exec) (hlk : meth.locks = false) (eT : T.heap = h) {pc : Nat} {Ls : Array Slot} {w : Value} {rest : List Value} {t : FieldType} (hret : meth.sig.returnType = some t) (ht : t.isReference = true) (hw : w.isRef = true) (hnr : narrow t w = w) (hd : decode c.code pc = .ok (.areturn, 1)) (hk : cells ≤ kc) (hn : slots ≤ ns) (hQ : Q (some w) h locs) :
    own_End p e below P T (mkF m pc Ls (w :: rest)) := own_ret X hP hlk eT (fun h => by rw [hret] at h; cases h) hk hn hQ fun fs hr => retOut X hx hret hnr (Or.inr (Or.inr (Or.inr (Or.inr ⟨rfl, ht, hw⟩)))) hd hr
theorem own_callS (X : Stand p l e R s m args below meth c T locs cells slots) (hx : p.tables.exec = Jvm.exec) (hZ : Z.Warmed39 s.vm) {own : String} (hown : s.vm.findClass own = some m.cls) (eT : T.heap = h) {index : Nat} {y : MethodName} {bytes : ByteArray} {maxL : Nat} {ret : Option FieldType} {rm : Room} {as' : Array Value} {Q' : Option Value → Heap → List Loc → Prop}
    (w1 : (Cond.methodLink own index y).before a0 Z = true) (w2 : (Cond.static y).before a0 Z = true) (w3 : (Cond.initialized y.cls).before a0 Z = true) (w4 : (Cond.code y bytes maxL ret).before a0 Z = true) (hy : y.cls ≠ "java/lang/invoke/MethodHandle" ∧ y.cls ≠ "java/lang/invoke/VarHandle")
    (hM : own_Met l Z y bytes maxL ret [] rm as' h Q') {g : JFrame} (hg : g.method = m) (hsize : g.locals.size = c.maxLocals) {argsL rest : List Value} (hlen : ∀ sig, parseMethodDescriptor y.desc = some sig → argsL.length = sig.parameters.length) (hstack : g.stack = argsL.reverse ++ rest) (has : argsL.toArray = as') {W : Nat} (hW : 2 * g.monitorRoom + (rest.map fun v => v.category).sum ≤ W) (hdg : decode c.code g.pc = .ok (.invokestatic index, 3))
    (hf : rm.frames + 1 ≤ R.frames) (hl : W + (maxL + 11) + rm.locals ≤ R.locals) (hc : cells + rm.cells ≤ R.cells) (hs : slots + rm.slots ≤ R.slots)
    (k : ∀ v T' L, Stand p l e R s m args below meth c T' (locs ++ L) (cells + rm.cells) (slots + rm.slots) → Q' v T'.heap L → own_End p e below P T' { g with pc := g.pc + 3, stack := v.toList ++ rest }) : own_End p e below P T g := by
  obtain ⟨v, vm1, ⟨T', L1, k1, n1⟩, -, X', ⟨L, hQ, l1, y1, z1⟩, st⟩ := Jvm.LawKit.callS X hx (y := y) hown (mvT hZ w1) (mvT hZ w2) (mvT hZ w3) (mvT hZ w4) hy (backOf (W := W) hM hZ w4 w3 hf hl) hg hsize hlen hstack hW hdg (fun _ _ => ⟨has, eT, hc, hs⟩)
  dsimp only [Pt.U, Pt.locs, Pt.cells, Pt.slots] at X' l1 y1 z1 st hQ
  subst l1 y1 z1
  exact own_go st (k v T' L X' hQ)
theorem own_callC (X : Stand p l e R s m args below meth c T locs cells slots) (hx : p.tables.exec = Jvm.exec) (hZ : Z.Warmed39 s.vm) {own : String} (hown : s.vm.findClass own = some m.cls) (eT : T.heap = h) {index : Nat} {y : MethodName} {bytes : ByteArray} {maxL : Nat} {rm : Room} {as' : Array Value} {Q' : Option Value → Heap → List Loc → Prop}
    (hyi : y.name = "<init>") (w1 : (Cond.methodLink own index y).before a0 Z = true) (w2 : (Cond.instanceMethod y).before a0 Z = true) (w3 : (Cond.initialized y.cls).before a0 Z = true) (w4 : (Cond.code y bytes maxL none).before a0 Z = true) (hy : y.cls ≠ "java/lang/invoke/MethodHandle" ∧ y.cls ≠ "java/lang/invoke/VarHandle")
    (hM : own_Met l Z y bytes maxL none [] rm as' h Q') {g : JFrame} (hg : g.method = m) (hsize : g.locals.size = c.maxLocals) {a : Addr} {argsL rest : List Value} (hlen : ∀ sig, parseMethodDescriptor y.desc = some sig → argsL.length = sig.parameters.length) (hstack : g.stack = argsL.reverse ++ .ref a :: rest) (has : (.ref a :: argsL).toArray = as') {W : Nat} (hW : 2 * g.monitorRoom + (rest.map fun v => v.category).sum ≤ W) (hdg : decode c.code g.pc = .ok (.invokespecial index, 3))
    (hf : rm.frames + 1 ≤ R.frames) (hl : W + (maxL + 11) + rm.locals ≤ R.locals) (hc : cells + rm.cells ≤ R.cells) (hs : slots + rm.slots ≤ R.slots)
    (k : ∀ v T' L, Stand p l e R s m args below meth c T' (locs ++ L) (cells + rm.cells) (slots + rm.slots) → Q' v T'.heap L → own_End p e below P T' { g with pc := g.pc + 3, stack := v.toList ++ rest }) : own_End p e below P T g := by
  obtain ⟨v, vm1, ⟨T', L1, k1, n1⟩, -, X', ⟨L, hQ, l1, y1, z1⟩, st⟩ := X.specialBack hx (y := y) hyi hown (mvT hZ w1) (mvT hZ w2) (mvT hZ w4) hy (backOf (W := W) hM hZ w4 w3 hf hl) hg hsize (Steps.refl _) (a := a) hlen hstack hW hdg (fun _ _ => ⟨has, eT, hc, hs⟩)
  dsimp only [Pt.U, Pt.locs, Pt.cells, Pt.slots] at X' l1 y1 z1 st hQ
  subst l1 y1 z1
  exact own_via st (k v T' L X' hQ)
theorem own_callV (X : Stand p l e R s m args below meth c T locs cells slots) (hx : p.tables.exec = Jvm.exec) (hZ : Z.Warmed39 s.vm) {own : String} (hown : s.vm.findClass own = some m.cls) (eT : T.heap = h) {index : Nat} {C : String} {y z : MethodName} {bytes : ByteArray} {maxL : Nat} {ret : Option FieldType} {rm : Room} {as' : Array Value} {Q' : Option Value → Heap → List Loc → Prop}
    (w1 : (Cond.methodLink own index y).before a0 Z = true) (wd : (Cond.declares y).before a0 Z = true) (hnf : NotFace s y) (wsel : (Cond.selects C y z).before a0 Z = true) (w2 : (Cond.instanceMethod z).before a0 Z = true) (w3 : (Cond.initialized z.cls).before a0 Z = true) (w4 : (Cond.code z bytes maxL ret).before a0 Z = true) (hy : y.cls ≠ "java/lang/invoke/MethodHandle" ∧ y.cls ≠ "java/lang/invoke/VarHandle")
    (hM : own_Met l Z z bytes maxL ret [] rm as' h Q') {a : Addr} (E : Exa Z h a C) {g : JFrame} (hg : g.method = m) (hsize : g.locals.size = c.maxLocals) {argsL rest : List Value} (hlen : ∀ sig, parseMethodDescriptor y.desc = some sig → argsL.length = sig.parameters.length) (hstack : g.stack = argsL.reverse ++ .ref a :: rest) (has : (.ref a :: argsL).toArray = as') {W : Nat} (hW : 2 * g.monitorRoom + (rest.map fun v => v.category).sum ≤ W) (hdg : decode c.code g.pc = .ok (.invokevirtual index, 3))
    (hf : rm.frames + 1 ≤ R.frames) (hl : W + (maxL + 11) + rm.locals ≤ R.locals) (hc : cells + rm.cells ≤ R.cells) (hs : slots + rm.slots ≤ R.slots)
    (k : ∀ v T' L, Stand p l e R s m args below meth c T' (locs ++ L) (cells + rm.cells) (slots + rm.slots) → Q' v T'.heap L → own_End p e below P T' { g with pc := g.pc + 3, stack := v.toList ++ rest }) : own_End p e below P T g := by
  obtain ⟨cB, kB, q1, q2, q3⟩ := isOf (T := T) hZ eT E
  obtain ⟨v, vm1, ⟨T', L1, k1, n1⟩, -, X', ⟨L, hQ, l1, y1, z1⟩, st⟩ := X.virtualBack hx (y := y) (z := z) hown (mvT hZ w1) (mvT hZ wd) hnf (mvT hZ wsel) (mvT hZ w2) hy (backOf (W := W) hM hZ w4 w3 hf hl) q1 q3 hg hsize (Steps.refl _) hlen hstack hW hdg (fun _ _ => ⟨has, eT, hc, hs⟩)
  dsimp only [Pt.U, Pt.locs, Pt.cells, Pt.slots] at X' l1 y1 z1 st hQ
  subst l1 y1 z1
  exact own_via st (k v T' L X' hQ)
theorem own_selP {C : String} {x' y y' : MethodName} (wz : (Cond.selects C x' y').before args s = true) (hc : y'.cls = y.cls) (hpriv : s.PrivateAt y) (hinst : (Cond.instanceMethod y).before args s = true) (hy : y.cls ≠ "java/lang/invoke/MethodHandle" ∧ y.cls ≠ "java/lang/invoke/VarHandle") : (Cond.selects y.cls y y).before args s = true := by
  obtain ⟨_, _, m2, -, -, q3, -, kP, hkP, hkPi⟩ := Cond.selects_spec wz
  exact selects_self_of_private (by rw [← hc]; exact findClass_of_methodNamed q3) hkP hkPi hpriv hinst hy
theorem own_callP (X : Stand p l e R s m args below meth c T locs cells slots) (hx : p.tables.exec = Jvm.exec) (hZ : Z.Warmed39 s.vm) {own : String} (hown : s.vm.findClass own = some m.cls) (eT : T.heap = h) {index : Nat} {y : MethodName} {bytes : ByteArray} {maxL : Nat} {ret : Option FieldType} {rm : Room} {as' : Array Value} {Q' : Option Value → Heap → List Loc → Prop}
    (w1 : (Cond.methodLink own index y).before a0 Z = true) (w2 : (Cond.instanceMethod y).before a0 Z = true) (wsel : (Cond.selects y.cls y y).before args s = true) (wp : (Cond.privateMethod y).before a0 Z = true) (w3 : (Cond.initialized y.cls).before a0 Z = true) (w4 : (Cond.code y bytes maxL ret).before a0 Z = true) (hy : y.cls ≠ "java/lang/invoke/MethodHandle" ∧ y.cls ≠ "java/lang/invoke/VarHandle")
    (hM : own_Met l Z y bytes maxL ret [] rm as' h Q') {C : String} {a : Addr} (E : Exa Z h a C) {g : JFrame} (hg : g.method = m) (hsize : g.locals.size = c.maxLocals) {argsL rest : List Value} (hlen : ∀ sig, parseMethodDescriptor y.desc = some sig → argsL.length = sig.parameters.length) (hstack : g.stack = argsL.reverse ++ .ref a :: rest) (has : (.ref a :: argsL).toArray = as') {W : Nat} (hW : 2 * g.monitorRoom + (rest.map fun v => v.category).sum ≤ W) (hdg : decode c.code g.pc = .ok (.invokevirtual index, 3))
    (hf : rm.frames + 1 ≤ R.frames) (hl : W + (maxL + 11) + rm.locals ≤ R.locals) (hc : cells + rm.cells ≤ R.cells) (hs : slots + rm.slots ≤ R.slots)
    (k : ∀ v T' L, Stand p l e R s m args below meth c T' (locs ++ L) (cells + rm.cells) (slots + rm.slots) → Q' v T'.heap L → own_End p e below P T' { g with pc := g.pc + 3, stack := v.toList ++ rest }) : own_End p e below P T g := by
  obtain ⟨cq, q1, q2⟩ := E.cell
  obtain ⟨v, vm1, ⟨T', L1, k1, n1⟩, -, X', ⟨L, hQ, l1, y1, z1⟩, st⟩ := X.privateBack hx (y := y) hown (mvT hZ w1) (mvT hZ w2) wsel (Cond.privateMethod_at (mvP hZ wp (args := #[]))) (mvT hZ w4) hy (backOf (W := W) hM hZ w4 w3 hf hl) hg hsize (Steps.refl _) (a := a) (by rw [eT]; exact q1) q2 hlen hstack hW hdg (fun _ _ => ⟨has, eT, hc, hs⟩)
  dsimp only [Pt.U, Pt.locs, Pt.cells, Pt.slots] at X' l1 y1 z1 st hQ
  subst l1 y1 z1
  exact own_via st (k v T' L X' hQ)
end OwnSteps
/-! own: a truth as an int; comparisons of longs -/
def own_z (P : Prop) [Decidable P] : Int32 := if P then 1 else 0
section OwnTruth
variable {P : Prop} [Decidable P] {x y : Int64}
theorem own_z_t (h : P) : own_z P = 1 := if_pos h
theorem own_z_f (h : ¬ P) : own_z P = 0 := if_neg h
theorem own_z_nar : nar .boolean (own_z P) = own_z P := by unfold own_z; split <;> decide
theorem own_z_congr {P' : Prop} [Decidable P'] (h : P ↔ P') : own_z P = own_z P' := by unfold own_z; by_cases q : P <;> simp [q, h.symm, h.mp] <;> simp_all
theorem own_z_inj {P' : Prop} [Decidable P'] (h : own_z P = own_z P') : P ↔ P' := by
  unfold own_z at h; by_cases q : P <;> by_cases q' : P' <;> simp_all
theorem own_zY_eq (h : ¬ P) : ifCond.holds .eq (own_z P) = true := by rw [own_z_f h]; rfl
theorem own_zN_eq (h : P) : ifCond.holds .eq (own_z P) = false := by rw [own_z_t h]; rfl
theorem own_zY_ne (h : P) : ifCond.holds .ne (own_z P) = true := by rw [own_z_t h]; rfl
theorem own_zN_ne (h : ¬ P) : ifCond.holds .ne (own_z P) = false := by rw [own_z_f h]; rfl
theorem own_lY_lt (h : x < y) : ifCond.holds .lt (lcmpW x y) = true := (if0 _ _).trans (tlt ((lw_lt x y).mpr h)).1
theorem own_lN_lt (h : ¬ x < y) : ifCond.holds .lt (lcmpW x y) = false := (if0 _ _).trans (flt (mt (lw_lt x y).mp h)).1
theorem own_lY_ge (h : ¬ x < y) : ifCond.holds .ge (lcmpW x y) = true := (if0 _ _).trans (flt (mt (lw_lt x y).mp h)).2.1
theorem own_lN_ge (h : x < y) : ifCond.holds .ge (lcmpW x y) = false := (if0 _ _).trans (tlt ((lw_lt x y).mpr h)).2.1
theorem own_lY_gt (h : y < x) : ifCond.holds .gt (lcmpW x y) = true := (if0 _ _).trans (tlt ((lw_gt x y).mpr h)).2.2.1
theorem own_lN_gt (h : ¬ y < x) : ifCond.holds .gt (lcmpW x y) = false := (if0 _ _).trans (flt (mt (lw_gt x y).mp h)).2.2.1
theorem own_lY_le (h : ¬ y < x) : ifCond.holds .le (lcmpW x y) = true := (if0 _ _).trans (flt (mt (lw_gt x y).mp h)).2.2.2
theorem own_lN_le (h : y < x) : ifCond.holds .le (lcmpW x y) = false := (if0 _ _).trans (tlt ((lw_gt x y).mpr h)).2.2.2
theorem own_lY_eq (h : x = y) : ifCond.holds .eq (lcmpW x y) = true := (if0 _ _).trans (teq ((lw_eq x y).mpr h)).1
theorem own_lN_eq (h : ¬ x = y) : ifCond.holds .eq (lcmpW x y) = false := (if0 _ _).trans (feq (mt (lw_eq x y).mp h)).1
theorem own_lY_ne (h : ¬ x = y) : ifCond.holds .ne (lcmpW x y) = true := (if0 _ _).trans (feq (mt (lw_eq x y).mp h)).2
theorem own_lN_ne (h : x = y) : ifCond.holds .ne (lcmpW x y) = false := (if0 _ _).trans (teq ((lw_eq x y).mpr h)).2
end OwnTruth
/-! own: a callee that writes nothing -/
def own_Pq (val : Option Value) (h : Heap) : Option Value → Heap → List Loc → Prop := fun v h' L => v = val ∧ L = [] ∧ h' = h
section OwnPure
variable {p : Program} {l : Launch} {e : Env} {R : Room} {s : State} {m : MethodId} {args : Array Value} {below : List Frame} {meth : Method} {c : Code} {T : State} {locs : List Loc} {cells slots : Nat} {P : State → Outcome → Prop} {Q : Option Value → Heap → List Loc → Prop} {kc ns : Nat} {Z : State} {a0 : Array Value} {h : Heap} {f : JFrame}
theorem own_callSp (X : Stand p l e R s m args below meth c T locs cells slots) (hx : p.tables.exec = Jvm.exec) (hZ : Z.Warmed39 s.vm) {own : String} (hown : s.vm.findClass own = some m.cls) (eT : T.heap = h) {index : Nat} {y : MethodName} {bytes : ByteArray} {maxL : Nat} {ret : Option FieldType} {fr lo : Nat} {as' : Array Value} {val : Option Value}
    (w1 : (Cond.methodLink own index y).before a0 Z = true) (w2 : (Cond.static y).before a0 Z = true) (w3 : (Cond.initialized y.cls).before a0 Z = true) (w4 : (Cond.code y bytes maxL ret).before a0 Z = true) (hy : y.cls ≠ "java/lang/invoke/MethodHandle" ∧ y.cls ≠ "java/lang/invoke/VarHandle")
    (hM : own_Met l Z y bytes maxL ret [] { frames := fr, cells := 0, slots := 0, locals := lo } as' h (own_Pq val h)) {g : JFrame} (hg : g.method = m) (hsize : g.locals.size = c.maxLocals) {argsL rest : List Value} (hlen : ∀ sig, parseMethodDescriptor y.desc = some sig → argsL.length = sig.parameters.length) (hstack : g.stack = argsL.reverse ++ rest) (has : argsL.toArray = as') {W : Nat} (hW : 2 * g.monitorRoom + (rest.map fun v => v.category).sum ≤ W) (hdg : decode c.code g.pc = .ok (.invokestatic index, 3))
    (hf : fr + 1 ≤ R.frames) (hl : W + (maxL + 11) + lo ≤ R.locals) (hc : cells ≤ R.cells) (hs : slots ≤ R.slots)
    (k : ∀ T', Stand p l e R s m args below meth c T' locs cells slots → T'.heap = h → own_End p e below P T' { g with pc := g.pc + 3, stack := val.toList ++ rest }) : own_End p e below P T g :=
  own_callS X hx hZ hown eT w1 w2 w3 w4 hy hM hg hsize hlen hstack has hW hdg hf hl hc hs fun v T' L X' ⟨q1, q2, q3⟩ => by
    subst q1 q2
    rw [List.append_nil] at X'
    exact k T' X' q3
theorem own_callCp (X : Stand p l e R s m args below meth c T locs cells slots) (hx : p.tables.exec = Jvm.exec) (hZ : Z.Warmed39 s.vm) {own : String} (hown : s.vm.findClass own = some m.cls) (eT : T.heap = h) {index : Nat} {y : MethodName} {bytes : ByteArray} {maxL : Nat} {fr lo : Nat} {as' : Array Value} {val : Option Value}
    (hyi : y.name = "<init>") (w1 : (Cond.methodLink own index y).before a0 Z = true) (w2 : (Cond.instanceMethod y).before a0 Z = true) (w3 : (Cond.initialized y.cls).before a0 Z = true) (w4 : (Cond.code y bytes maxL none).before a0 Z = true) (hy : y.cls ≠ "java/lang/invoke/MethodHandle" ∧ y.cls ≠ "java/lang/invoke/VarHandle")
    (hM : own_Met l Z y bytes maxL none [] { frames := fr, cells := 0, slots := 0, locals := lo } as' h (own_Pq val h)) {g : JFrame} (hg : g.method = m) (hsize : g.locals.size = c.maxLocals) {a : Addr} {argsL rest : List Value} (hlen : ∀ sig, parseMethodDescriptor y.desc = some sig → argsL.length = sig.parameters.length) (hstack : g.stack = argsL.reverse ++ .ref a :: rest) (has : (.ref a :: argsL).toArray = as') {W : Nat} (hW : 2 * g.monitorRoom + (rest.map fun v => v.category).sum ≤ W) (hdg : decode c.code g.pc = .ok (.invokespecial index, 3))
    (hf : fr + 1 ≤ R.frames) (hl : W + (maxL + 11) + lo ≤ R.locals) (hc : cells ≤ R.cells) (hs : slots ≤ R.slots)
    (k : ∀ T', Stand p l e R s m args below meth c T' locs cells slots → T'.heap = h → own_End p e below P T' { g with pc := g.pc + 3, stack := val.toList ++ rest }) : own_End p e below P T g :=
  own_callC X hx hZ hown eT hyi w1 w2 w3 w4 hy hM hg hsize hlen hstack has hW hdg hf hl hc hs fun v T' L X' ⟨q1, q2, q3⟩ => by
    subst q1 q2
    rw [List.append_nil] at X'
    exact k T' X' q3
theorem own_callVp (X : Stand p l e R s m args below meth c T locs cells slots) (hx : p.tables.exec = Jvm.exec) (hZ : Z.Warmed39 s.vm) {own : String} (hown : s.vm.findClass own = some m.cls) (eT : T.heap = h) {index : Nat} {C : String} {y z : MethodName} {bytes : ByteArray} {maxL : Nat} {ret : Option FieldType} {fr lo : Nat} {as' : Array Value} {val : Option Value}
    (w1 : (Cond.methodLink own index y).before a0 Z = true) (wd : (Cond.declares y).before a0 Z = true) (hnf : NotFace s y) (wsel : (Cond.selects C y z).before a0 Z = true) (w2 : (Cond.instanceMethod z).before a0 Z = true) (w3 : (Cond.initialized z.cls).before a0 Z = true) (w4 : (Cond.code z bytes maxL ret).before a0 Z = true) (hy : y.cls ≠ "java/lang/invoke/MethodHandle" ∧ y.cls ≠ "java/lang/invoke/VarHandle")
    (hM : own_Met l Z z bytes maxL ret [] { frames := fr, cells := 0, slots := 0, locals := lo } as' h (own_Pq val h)) {a : Addr} (E : Exa Z h a C) {g : JFrame} (hg : g.method = m) (hsize : g.locals.size = c.maxLocals) {argsL rest : List Value} (hlen : ∀ sig, parseMethodDescriptor y.desc = some sig → argsL.length = sig.parameters.length) (hstack : g.stack = argsL.reverse ++ .ref a :: rest) (has : (.ref a :: argsL).toArray = as') {W : Nat} (hW : 2 * g.monitorRoom + (rest.map fun v => v.category).sum ≤ W) (hdg : decode c.code g.pc = .ok (.invokevirtual index, 3))
    (hf : fr + 1 ≤ R.frames) (hl : W + (maxL + 11) + lo ≤ R.locals) (hc : cells ≤ R.cells) (hs : slots ≤ R.slots)
    (k : ∀ T', Stand p l e R s m args below meth c T' locs cells slots → T'.heap = h → own_End p e below P T' { g with pc := g.pc + 3, stack := val.toList ++ rest }) : own_End p e below P T g :=
  own_callV X hx hZ hown eT w1 wd hnf wsel w2 w3 w4 hy hM E hg hsize hlen hstack has hW hdg hf hl hc hs fun v T' L X' ⟨q1, q2, q3⟩ => by
    subst q1 q2
    rw [List.append_nil] at X'
    exact k T' X' q3
theorem own_callPp (X : Stand p l e R s m args below meth c T locs cells slots) (hx : p.tables.exec = Jvm.exec) (hZ : Z.Warmed39 s.vm) {own : String} (hown : s.vm.findClass own = some m.cls) (eT : T.heap = h) {index : Nat} {y : MethodName} {bytes : ByteArray} {maxL : Nat} {ret : Option FieldType} {fr lo : Nat} {as' : Array Value} {val : Option Value}
    (w1 : (Cond.methodLink own index y).before a0 Z = true) (w2 : (Cond.instanceMethod y).before a0 Z = true) (wsel : (Cond.selects y.cls y y).before args s = true) (wp : (Cond.privateMethod y).before a0 Z = true) (w3 : (Cond.initialized y.cls).before a0 Z = true) (w4 : (Cond.code y bytes maxL ret).before a0 Z = true) (hy : y.cls ≠ "java/lang/invoke/MethodHandle" ∧ y.cls ≠ "java/lang/invoke/VarHandle")
    (hM : own_Met l Z y bytes maxL ret [] { frames := fr, cells := 0, slots := 0, locals := lo } as' h (own_Pq val h)) {C : String} {a : Addr} (E : Exa Z h a C) {g : JFrame} (hg : g.method = m) (hsize : g.locals.size = c.maxLocals) {argsL rest : List Value} (hlen : ∀ sig, parseMethodDescriptor y.desc = some sig → argsL.length = sig.parameters.length) (hstack : g.stack = argsL.reverse ++ .ref a :: rest) (has : (.ref a :: argsL).toArray = as') {W : Nat} (hW : 2 * g.monitorRoom + (rest.map fun v => v.category).sum ≤ W) (hdg : decode c.code g.pc = .ok (.invokevirtual index, 3))
    (hf : fr + 1 ≤ R.frames) (hl : W + (maxL + 11) + lo ≤ R.locals) (hc : cells ≤ R.cells) (hs : slots ≤ R.slots)
    (k : ∀ T', Stand p l e R s m args below meth c T' locs cells slots → T'.heap = h → own_End p e below P T' { g with pc := g.pc + 3, stack := val.toList ++ rest }) : own_End p e below P T g :=
  own_callP X hx hZ hown eT w1 w2 wsel wp w3 w4 hy hM E hg hsize hlen hstack has hW hdg hf hl hc hs fun v T' L X' ⟨q1, q2, q3⟩ => by
    subst q1 q2
    rw [List.append_nil] at X'
    exact k T' X' q3
end OwnPure
/-! own: a cell that is known -/
def own_K (h : Heap) (a : Addr) : Prop := ∃ cell : Cell, h[a]? = some cell ∧ cell.vm ≠ .unknown
theorem own_K_ext {h h' : Heap} {a : Addr} (K : own_K h a) (E : Ext h h') : own_K h' a := by obtain ⟨c, h1, h2⟩ := K; exact ⟨c, E.2 _ _ h1, h2⟩
theorem own_K_wr {h h' : Heap} {a b : Addr} {sl : Nat} {v : Value} (K : own_K h b) (W : Wr h h' a sl v) : own_K h' b := by
  obtain ⟨c, h1, h2⟩ := K
  obtain ⟨c', e1, -, e3, -⟩ := wr_at W h1
  exact ⟨c', e1, by rw [e3]; exact h2⟩
theorem own_K_keep {h h' : Heap} {a : Addr} {ws : List Addr} (K : own_K h a) (E : Keep h h' ws) : own_K h' a := by
  obtain ⟨c, h1, h2⟩ := K
  obtain ⟨c', e1, -, e3, -⟩ := E.2.2 _ _ h1
  exact ⟨c', e1, by rw [e3]; exact h2⟩
theorem own_K_new {h : Heap} {a : Addr} (U : ∃ cell : Cell, h[a]? = some cell ∧ cell.vm = .none ∧ cell.monitor = {}) : own_K h a := by
  obtain ⟨c, h1, h2, -⟩ := U
  exact ⟨c, h1, by rw [h2]; simp⟩
/-! own: an array of n places, place i holds f i -/
def own_A (Z : State) (h : Heap) (a : Addr) (ty : FieldType) (n : Nat) (f : Nat → Value) : Prop := ∃ c : Cell, Arr Z h a c ty ∧ c.slots.size = n ∧ n < 2147483648 ∧ ∀ i, i < n → c.slots[i]? = some (f i)
abbrev own_AJ (Z : State) (h : Heap) (a : Addr) (n : Nat) (f : Nat → Int64) : Prop := own_A Z h a .long n (fun i => .long (f i))
abbrev own_AI (Z : State) (h : Heap) (a : Addr) (n : Nat) (f : Nat → Int32) : Prop := own_A Z h a .int n (fun i => .int (f i))
abbrev own_AB (Z : State) (h : Heap) (a : Addr) (n : Nat) (f : Nat → Int32) : Prop := own_A Z h a .byte n (fun i => .int (f i))
def own_set {α : Type} (f : Nat → α) (i : Nat) (x : α) : Nat → α := fun k => if k = i then x else f k
theorem own_set_eq {α : Type} {f : Nat → α} {i k : Nat} {x : α} (h : k = i) : own_set f i x k = x := if_pos h
theorem own_set_ne {α : Type} {f : Nat → α} {i k : Nat} {x : α} (h : k ≠ i) : own_set f i x k = f k := if_neg h
section OwnArr
variable {Z : State} {h h' : Heap} {a b : Addr} {ty : FieldType} {n : Nat} {f f' : Nat → Value}
theorem own_A.lt (A : own_A Z h a ty n f) : a < h.size := by obtain ⟨c, A, -⟩ := A; exact A.lt
theorem own_A.ext (A : own_A Z h a ty n f) (E : Ext h h') : own_A Z h' a ty n f := by obtain ⟨c, A, r⟩ := A; exact ⟨c, A.ext E, r⟩
theorem own_A.other {sl : Nat} {v : Value} (A : own_A Z h b ty n f) (W : Wr h h' a sl v) (q : b ≠ a) : own_A Z h' b ty n f := by obtain ⟨c, A, r⟩ := A; exact ⟨c, A.other W q, r⟩
theorem own_A.keep {ws : List Addr} (A : own_A Z h a ty n f) (K : Keep h h' ws) (q : a ∉ ws) : own_A Z h' a ty n f := by obtain ⟨c, A, r⟩ := A; exact ⟨c, ⟨K.2.1 a c A.1 q, A.2⟩, r⟩
theorem own_A.congr (A : own_A Z h a ty n f) (q : ∀ i, i < n → f i = f' i) : own_A Z h a ty n f' := by obtain ⟨c, A, r1, r2, r3⟩ := A; exact ⟨c, A, r1, r2, fun i hi => by rw [← q i hi]; exact r3 i hi⟩
theorem own_nat {j : Int32} {i : Nat} (hj : j.toInt = (i : Int)) : j.toNatClampNeg = i := by
  show j.toInt.toNat = i
  rw [hj]; rfl
theorem own_in {c : Cell} {j : Int32} {i : Nat} (S : c.slots.size = n) (hj : j.toInt = (i : Int)) (hi : i < n) : ¬ (j < 0 ∨ c.slots.size ≤ j.toNatClampNeg) := by
  rw [own_nat hj, S, Int32.lt_iff_toInt_lt, hj, show (0 : Int32).toInt = 0 from rfl]; omega
theorem own_A_new {cA : ClassId} {z : Int32} (A : Arr Z h a (newA cA ty z) ty) (hz : z.toInt = (n : Int)) : own_A Z h a ty n (fun _ => defaultValue ty) := by
  have hn : z.toNatClampNeg = n := own_nat hz
  have hl := z.toInt_lt
  refine ⟨_, A, by rw [sz_new]; exact hn, by omega, fun i hi => ?_⟩
  simp [newA, hn, hi]
theorem own_A_set {j : Int32} {i : Nat} {v : Value} (A : own_A Z h a ty n f) (W : Wr h h' a j.toNatClampNeg v) (hj : j.toInt = (i : Int)) (hi : i < n) : own_A Z h' a ty n (own_set f i v) := by
  obtain ⟨c, A, r1, r2, r3⟩ := A
  rw [own_nat hj] at W
  refine ⟨_, A.same W, by rw [sz_set]; exact r1, r2, fun k hk => ?_⟩
  show (c.slots.setIfInBounds i v)[k]? = some (if k = i then v else f k)
  by_cases q : k = i
  · subst q; rw [if_pos rfl]; simp [r1, hi]
  · rw [if_neg q, Array.getElem?_setIfInBounds_ne (Ne.symm q)]; exact r3 k hk
end OwnArr
section OwnArrSteps
variable {p : Program} {l : Launch} {e : Env} {R : Room} {s : State} {m : MethodId} {args : Array Value} {below : List Frame} {meth : Method} {c : Code} {T : State} {locs : List Loc} {cells slots : Nat} {Z : State} {a0 : Array Value} {h : Heap} {a : Addr} {n i : Nat} {j : Int32} {g : JFrame} {rest : List Value}
theorem own_laload (X : Stand p l e R s m args below meth c T locs cells slots) (hx : p.tables.exec = Jvm.exec) (hZ : Z.Warmed39 s.vm) (eT : T.heap = h) {f : Nat → Int64} (A : own_AJ Z h a n f) (hj : j.toInt = (i : Int)) (hi : i < n) (hg : g.method = m) (hs : g.stack = .int j :: .ref a :: rest) (hd : decode c.code g.pc = .ok (.laload, 1)) :
    ∀ target, Steps p.tables e below (T.setTop { g with pc := g.pc + 1, stack := .long (f i) :: rest }) target → Steps p.tables e below (T.setTop g) target := by
  obtain ⟨cl, A, r1, r2, r3⟩ := A
  exact X.laload hx (j := j) (v := .long (f i)) (by rw [eT]; exact A.1) (State.isArrayOf_alike hZ.alike A.2.1) A.2.2 (own_in r1 hj hi) (by rw [own_nat hj]; exact r3 i hi) hg hs hd
theorem own_iaload (X : Stand p l e R s m args below meth c T locs cells slots) (hx : p.tables.exec = Jvm.exec) (hZ : Z.Warmed39 s.vm) (eT : T.heap = h) {f : Nat → Int32} (A : own_AI Z h a n f) (hj : j.toInt = (i : Int)) (hi : i < n) (hg : g.method = m) (hs : g.stack = .int j :: .ref a :: rest) (hd : decode c.code g.pc = .ok (.iaload, 1)) :
    ∀ target, Steps p.tables e below (T.setTop { g with pc := g.pc + 1, stack := .int (f i) :: rest }) target → Steps p.tables e below (T.setTop g) target := by
  obtain ⟨cl, A, r1, r2, r3⟩ := A
  exact X.iaload hx (j := j) (v := .int (f i)) (by rw [eT]; exact A.1) (State.isArrayOf_alike hZ.alike A.2.1) A.2.2 (own_in r1 hj hi) (by rw [own_nat hj]; exact r3 i hi) hg hs hd
theorem own_baload (X : Stand p l e R s m args below meth c T locs cells slots) (hx : p.tables.exec = Jvm.exec) (hZ : Z.Warmed39 s.vm) (eT : T.heap = h) {f : Nat → Int32} (A : own_AB Z h a n f) (hj : j.toInt = (i : Int)) (hi : i < n) (hg : g.method = m) (hs : g.stack = .int j :: .ref a :: rest) (hd : decode c.code g.pc = .ok (.baload, 1)) :
    ∀ target, Steps p.tables e below (T.setTop { g with pc := g.pc + 1, stack := .int (f i) :: rest }) target → Steps p.tables e below (T.setTop g) target := by
  obtain ⟨cl, A, r1, r2, r3⟩ := A
  exact X.baloadBytes hx (j := j) (v := .int (f i)) (by rw [eT]; exact A.1) (State.isArrayOf_alike hZ.alike A.2.1) A.2.2 (own_in r1 hj hi) (by rw [own_nat hj]; exact r3 i hi) hg hs hd
theorem own_length (X : Stand p l e R s m args below meth c T locs cells slots) (hx : p.tables.exec = Jvm.exec) (hZ : Z.Warmed39 s.vm) (eT : T.heap = h) {ty : FieldType} {f : Nat → Value} (A : own_A Z h a ty n f) {z : Int32} (hz : z.toInt = (n : Int)) (hg : g.method = m) (hs : g.stack = .ref a :: rest) (hd : decode c.code g.pc = .ok (.arraylength, 1)) :
    ∀ target, Steps p.tables e below (T.setTop { g with pc := g.pc + 1, stack := .int z :: rest }) target → Steps p.tables e below (T.setTop g) target := by
  obtain ⟨cl, A, r1, r2, -⟩ := A
  intro target k
  refine X.arraylength hx (by rw [eT]; exact A.1) (State.isArrayOf_alike hZ.alike A.2.1) hg hs hd _ ?_
  have q : cl.slots.size.toInt32 = z := Int32.toInt_inj.mp (by rw [r1, hz]; exact Int32.toInt_ofNat_of_lt (by omega))
  rw [q]; exact k
theorem own_lastore (X : Stand p l e R s m args below meth c T locs cells slots) (hx : p.tables.exec = Jvm.exec) (hZ : Z.Warmed39 s.vm) (eT : T.heap = h) {f : Nat → Int64} {x : Int64} (A : own_AJ Z h a n f) (hj : j.toInt = (i : Int)) (hi : i < n) (hg : g.method = m) (hs : g.stack = .long x :: .int j :: .ref a :: rest) (hd : decode c.code g.pc = .ok (.lastore, 1)) :
    ∃ T' h', Stand p l e R s m args below meth c T' (locs ++ [⟨a, j.toNatClampNeg⟩]) cells slots ∧ T'.heap = h' ∧ Wr h h' a j.toNatClampNeg (.long x) ∧ own_AJ Z h' a n (own_set f i x) ∧ ∀ target, Steps p.tables e below (T'.setTop { g with pc := g.pc + 1, stack := rest }) target → Steps p.tables e below (T.setTop g) target := by
  obtain ⟨cl, B, r1, r2, r3⟩ := A
  obtain ⟨T', h', X', e', W, st⟩ := stJ X hx hZ eT B (own_in r1 hj hi) hg hs hd
  exact ⟨T', h', X', e', W, (own_A_set ⟨cl, B, r1, r2, r3⟩ W hj hi).congr fun k _ => by unfold own_set; split <;> rfl, st⟩
theorem own_iastore (X : Stand p l e R s m args below meth c T locs cells slots) (hx : p.tables.exec = Jvm.exec) (hZ : Z.Warmed39 s.vm) (eT : T.heap = h) {f : Nat → Int32} {x : Int32} (A : own_AI Z h a n f) (hj : j.toInt = (i : Int)) (hi : i < n) (hg : g.method = m) (hs : g.stack = .int x :: .int j :: .ref a :: rest) (hd : decode c.code g.pc = .ok (.iastore, 1)) :
    ∃ T' h', Stand p l e R s m args below meth c T' (locs ++ [⟨a, j.toNatClampNeg⟩]) cells slots ∧ T'.heap = h' ∧ Wr h h' a j.toNatClampNeg (.int x) ∧ own_AI Z h' a n (own_set f i x) ∧ ∀ target, Steps p.tables e below (T'.setTop { g with pc := g.pc + 1, stack := rest }) target → Steps p.tables e below (T.setTop g) target := by
  obtain ⟨cl, B, r1, r2, r3⟩ := A
  obtain ⟨T', h', X', e', W, st⟩ := stI X hx hZ eT B (own_in r1 hj hi) hg hs hd
  exact ⟨T', h', X', e', W, (own_A_set ⟨cl, B, r1, r2, r3⟩ W hj hi).congr fun k _ => by unfold own_set; split <;> rfl, st⟩
theorem own_bastore (X : Stand p l e R s m args below meth c T locs cells slots) (hx : p.tables.exec = Jvm.exec) (hZ : Z.Warmed39 s.vm) (eT : T.heap = h) {f : Nat → Int32} {x : Int32} (A : own_AB Z h a n f) (hj : j.toInt = (i : Int)) (hi : i < n) (hg : g.method = m) (hs : g.stack = .int x :: .int j :: .ref a :: rest) (hd : decode c.code g.pc = .ok (.bastore, 1)) :
    ∃ T' h', Stand p l e R s m args below meth c T' (locs ++ [⟨a, j.toNatClampNeg⟩]) cells slots ∧ T'.heap = h' ∧ Wr h h' a j.toNatClampNeg (.int (nar .byte x)) ∧ own_AB Z h' a n (own_set f i (x.toInt8.toInt32)) ∧ ∀ target, Steps p.tables e below (T'.setTop { g with pc := g.pc + 1, stack := rest }) target → Steps p.tables e below (T.setTop g) target := by
  obtain ⟨cl, B, r1, r2, r3⟩ := A
  obtain ⟨T', h', X', e', W, st⟩ := stB X hx hZ eT B (own_in r1 hj hi) hg hs hd
  exact ⟨T', h', X', e', W, (own_A_set ⟨cl, B, r1, r2, r3⟩ W hj hi).congr fun k _ => by unfold own_set; split <;> rfl, st⟩
end OwnArrSteps

def own_gz (c : Int32) (f : Nat → Int64) (i : Nat) : Int64 := if c = (31 : Int32) then (0 : Int64) else f i
def own_ex (c a b : Int32) (v w : Int64) : Int64 := if c = (31 : Int32) then (0 : Int64) else if c = a then v else if c = b then w else (0 : Int64)
theorem own_ix {x v : Int32} (h : v = (x &&& (31 : Int32))) : v.toInt = ((v.toInt.toNat : Nat) : Int) ∧ v.toInt.toNat < 32 := by
  have e := Jvm.Kit.i32_mask x 31 (k := 5) (by decide) (by decide)
  rw [← h] at e
  omega
theorem own_ixe {u v : Int32} (hu : u.toInt = ((u.toInt.toNat : Nat) : Int)) (hv : v.toInt = ((v.toInt.toNat : Nat) : Int)) : u.toInt.toNat = v.toInt.toNat ↔ u = v := by
  rw [← Int32.toInt_inj]; omega
theorem own_get {a b c : Int32} {v w s : Int64} (ha : a.toInt = ((a.toInt.toNat : Nat) : Int)) (hb : b.toInt = ((b.toInt.toNat : Nat) : Int)) (hc : c.toInt = ((c.toInt.toNat : Nat) : Int)) :
    own_gz c (own_set (own_set (own_set (fun _ => (0 : Int64)) 31 s) b.toInt.toNat w) a.toInt.toNat v) c.toInt.toNat = own_ex c a b v w := by
  unfold own_gz own_ex own_set
  by_cases q : c = (31 : Int32)
  · rw [if_pos q, if_pos q]
  · rw [if_neg q, if_neg q]
    simp only [own_ixe hc ha, own_ixe hc hb]
    have q2 : c.toInt.toNat ≠ 31 := fun z => q (Int32.toInt_inj.mp (by rw [hc, z]; rfl))
    rw [if_neg q2]
theorem own_g1 {x y z a b c : Int32} {v w s : Int64} (ha : a = (x &&& (31 : Int32))) (hb : b = (y &&& (31 : Int32))) (hc : c = (z &&& (31 : Int32))) :
    own_gz c (own_set (own_set (own_set (fun _ => (0 : Int64)) 31 s) b.toInt.toNat w) a.toInt.toNat v) c.toInt.toNat = own_ex c a b v w := own_get (own_ix ha).1 (own_ix hb).1 (own_ix hc).1
theorem own_g2 {x y a b : Int32} {v w s : Int64} (ha : a = (x &&& (31 : Int32))) (hb : b = (y &&& (31 : Int32))) :
    own_gz a (own_set (own_set (own_set (fun _ => (0 : Int64)) 31 s) b.toInt.toNat w) a.toInt.toNat v) a.toInt.toNat = own_ex a a b v w := own_get (own_ix ha).1 (own_ix hb).1 (own_ix ha).1

theorem pn_0 : plainName "com/example/retag/retag/Registers" = true := by first | (simp [plainName, overriddenIn]; done) | decide +kernel
theorem d2_0 : decode prog_25_method_2_code 0 = .ok (.aload_n 0, 1) := by decide +kernel
theorem d2_1 : decode prog_25_method_2_code 1 = .ok (.invokespecial 7, 3) := by decide +kernel
theorem d2_4 : decode prog_25_method_2_code 4 = .ok (.aload_n 0, 1) := by decide +kernel
theorem d2_5 : decode prog_25_method_2_code 5 = .ok (.aload_n 1, 1) := by decide +kernel
theorem d2_6 : decode prog_25_method_2_code 6 = .ok (.putfield 12, 3) := by decide +kernel
theorem d2_9 : decode prog_25_method_2_code 9 = .ok (.return_, 1) := by decide +kernel
set_option maxRecDepth 65536 in
set_option maxHeartbeats 4000000 in
theorem ef_2 (m : MethodId) (a0 : Addr) (a1 : Addr) : entryFrame m #[(.ref a0), (.ref a1)] 2 = mkF m 0 #[.val (.ref a0), .val (.ref a1)] [] := by first | (simp [entryFrame, mkF, argsToLocals, Value.category]; done) | rfl
set_option maxRecDepth 65536 in
set_option maxHeartbeats 40000000 in
theorem rm2 (l : Launch) (Z : State) (aw : Array Value) (hw : ∀ d ∈ tables_1, d.before aw Z = true) {ws : List Jvm.Cond} (a0 : Addr) (a1 : Addr)  (h0 : Heap) (n0 : Nat) (Z0 : n0 ≤ h0.size) (E_a0 : Exa Z h0 a0 "com/example/retag/retag/Registers") (K_a0 : own_K h0 a0) (g_a0 : n0 ≤ a0) :
    own_Met l Z (⟨"com/example/retag/retag/Registers", "<init>", "([J)V"⟩ : MethodName) prog_25_method_2_code 2 none ws ({ frames := 1, cells := 0, slots := 0, locals := 12 } : Room) #[(.ref a0), (.ref a1)] h0 (fun v h L => v = none ∧ Fr n0 L ∧ Keep h0 h [a0] ∧ Exa Z h a0 "com/example/retag/retag/Registers" ∧ Fld Z h a0 "com/example/retag/retag/Registers" "values" "[J" (.ref a1)) := by
  refine own_body (plainFor_of_name pn_0) ?_
  intro p e s m below meth c s₁ hx hZ hby hml hown hnm hret hlk X0 e0
  replace hown : s.vm.findClass "com/example/retag/retag/Registers" = some m.cls := hown
  replace hml : c.maxLocals = 2 := hml
  have N0 := Fr.nil n0
  have K0 := Keep.refl h0 [a0]
  obtain ⟨P, hP⟩ : ∃ P, P = own_P below s (fun v h L => v = none ∧ Fr n0 L ∧ Keep h0 h [a0] ∧ Exa Z h a0 "com/example/retag/retag/Registers" ∧ Fld Z h a0 "com/example/retag/retag/Registers" "values" "[J" (.ref a1)) ({ frames := 1, cells := 0, slots := 0, locals := 12 } : Room).cells ({ frames := 1, cells := 0, slots := 0, locals := 12 } : Room).slots := ⟨_, rfl⟩
  rw [← hP]
  refine own_cast (ef_2 m a0 a1) ?_
  refine own_go (T' := s₁) (f' := (mkF m 1 #[.val (.ref a0), .val (.ref a1)] [(.ref a0)])) (fun t kt => ?_) ?_
  · show Steps p.tables e below (s₁.setTop (mkF m 0 #[.val (.ref a0), .val (.ref a1)] [])) t
    refine XS.aloadN X0.here hx rfl (hb hby d2_0) rfl rfl ?_
    show Steps p.tables e below (s₁.setTop (mkF m 1 #[.val (.ref a0), .val (.ref a1)] [(.ref a0)])) t
    exact kt
  obtain ⟨T1, X1, e1, st1⟩ := initO X0 hx hZ hown (hw _ (List.mem_of_getElem? (i := 10) rfl)) (hw _ (List.mem_of_getElem? (i := 11) rfl)) (hw _ (List.mem_of_getElem? (i := 12) rfl)) e0 (g := (mkF m 1 #[.val (.ref a0), .val (.ref a1)] [(.ref a0)])) rfl (by rw [hml]; rfl) rfl (hb hby d2_1) (by decide) (W := 0) (by show 2 * 0 + _ ≤ _; exact Nat.le_of_eq rfl) (by decide)
  refine own_go st1 ?_
  refine own_go (T' := T1) (f' := (mkF m 6 #[.val (.ref a0), .val (.ref a1)] [(.ref a1), (.ref a0)])) (fun t kt => ?_) ?_
  · show Steps p.tables e below (T1.setTop (mkF m 4 #[.val (.ref a0), .val (.ref a1)] [])) t
    refine XS.aloadN X1.here hx rfl (hb hby d2_4) rfl rfl ?_
    show Steps p.tables e below (T1.setTop (mkF m 5 #[.val (.ref a0), .val (.ref a1)] [(.ref a0)])) t
    refine XS.aloadN X1.here hx rfl (hb hby d2_5) rfl rfl ?_
    show Steps p.tables e below (T1.setTop (mkF m 6 #[.val (.ref a0), .val (.ref a1)] [(.ref a1), (.ref a0)])) t
    exact kt
  obtain ⟨uv2, F2_values⟩ := fld_laid E_a0 K_a0 (hw _ (List.mem_of_getElem? (i := 1) rfl)) (Or.inr (hw _ (List.mem_of_getElem? (i := 14) rfl)))
  obtain ⟨T2, h2, X2, e2, W2, st2⟩ := putF X1 hx hZ hown (host := "") (Or.inl (hw _ (List.mem_of_getElem? (i := 13) rfl))) Via.refl e1 F2_values E_a0 (Or.inr ⟨(hw _ (List.mem_of_getElem? (i := 14) rfl)), rfl, hnm⟩) (hw _ (List.mem_of_getElem? (i := 1) rfl)) (ty := (.array .long)) (by decide) rfl rfl (g := (mkF m 6 #[.val (.ref a0), .val (.ref a1)] [(.ref a1), (.ref a0)])) rfl rfl (hb hby d2_6)
  refine own_go st2 ?_
  replace E_a0 := (E_a0.wr W2)
  replace F2_values := (F2_values.same W2)
  replace K_a0 := own_K_wr K_a0 W2
  have N2 := Fr.snoc X2 N0 g_a0
  have Z2 : n0 ≤ h2.size := Nat.le_trans Z0 (Keep.of_wr W2).1
  have KK2 := K0.wr W2 (Or.inl (by simp))
  exact own_retV X2 hP hx hlk e2 hret (hb hby d2_9) (by decide) (by decide) ⟨rfl, N2, KK2, E_a0, F2_values⟩
theorem pd_0 : parseMethodDescriptor "([J)V" = some ⟨[(.array .long)], none⟩ := by decide +kernel
theorem d1_0 : decode prog_25_method_1_code 0 = .ok (.aload_n 0, 1) := by decide +kernel
theorem d1_1 : decode prog_25_method_1_code 1 = .ok (.bipush 32, 2) := by decide +kernel
theorem d1_3 : decode prog_25_method_1_code 3 = .ok (.newarray .long, 2) := by decide +kernel
theorem d1_5 : decode prog_25_method_1_code 5 = .ok (.invokespecial 3, 3) := by decide +kernel
theorem d1_8 : decode prog_25_method_1_code 8 = .ok (.return_, 1) := by decide +kernel
set_option maxRecDepth 65536 in
set_option maxHeartbeats 4000000 in
theorem ef_1 (m : MethodId) (a0 : Addr) : entryFrame m #[(.ref a0)] 1 = mkF m 0 #[.val (.ref a0)] [] := by first | (simp [entryFrame, mkF, argsToLocals, Value.category]; done) | rfl
set_option maxRecDepth 65536 in
set_option maxHeartbeats 40000000 in
theorem rm1 (l : Launch) (Z : State) (aw : Array Value) (hw : ∀ d ∈ tables_1, d.before aw Z = true) {ws : List Jvm.Cond} (a0 : Addr)  (h0 : Heap) (n0 : Nat) (Z0 : n0 ≤ h0.size) (E_a0 : Exa Z h0 a0 "com/example/retag/retag/Registers") (K_a0 : own_K h0 a0) (g_a0 : n0 ≤ a0) :
    own_Met l Z (⟨"com/example/retag/retag/Registers", "<init>", "()V"⟩ : MethodName) prog_25_method_1_code 1 none ws ({ frames := 2, cells := 1, slots := 32, locals := 25 } : Room) #[(.ref a0)] h0 (fun v h L => v = none ∧ Fr n0 L ∧ Keep h0 h [a0] ∧ Exa Z h a0 "com/example/retag/retag/Registers" ∧ ∃ r, n0 ≤ r ∧ h0.size ≤ r ∧ Fld Z h a0 "com/example/retag/retag/Registers" "values" "[J" (.ref r) ∧ own_AJ Z h r 32 (fun _ => (0 : Int64))) := by
  refine own_body (plainFor_of_name pn_0) ?_
  intro p e s m below meth c s₁ hx hZ hby hml hown hnm hret hlk X0 e0
  replace hown : s.vm.findClass "com/example/retag/retag/Registers" = some m.cls := hown
  replace hml : c.maxLocals = 1 := hml
  have N0 := Fr.nil n0
  have K0 := Keep.refl h0 [a0]
  obtain ⟨P, hP⟩ : ∃ P, P = own_P below s (fun v h L => v = none ∧ Fr n0 L ∧ Keep h0 h [a0] ∧ Exa Z h a0 "com/example/retag/retag/Registers" ∧ ∃ r, n0 ≤ r ∧ h0.size ≤ r ∧ Fld Z h a0 "com/example/retag/retag/Registers" "values" "[J" (.ref r) ∧ own_AJ Z h r 32 (fun _ => (0 : Int64))) ({ frames := 2, cells := 1, slots := 32, locals := 25 } : Room).cells ({ frames := 2, cells := 1, slots := 32, locals := 25 } : Room).slots := ⟨_, rfl⟩
  rw [← hP]
  refine own_cast (ef_1 m a0) ?_
  refine own_go (T' := s₁) (f' := (mkF m 3 #[.val (.ref a0)] [(.int (32 : Int32)), (.ref a0)])) (fun t kt => ?_) ?_
  · show Steps p.tables e below (s₁.setTop (mkF m 0 #[.val (.ref a0)] [])) t
    refine XS.aloadN X0.here hx rfl (hb hby d1_0) rfl rfl ?_
    show Steps p.tables e below (s₁.setTop (mkF m 1 #[.val (.ref a0)] [(.ref a0)])) t
    refine XS.bipush X0.here hx rfl (hb hby d1_1) ?_
    show Steps p.tables e below (s₁.setTop (mkF m 3 #[.val (.ref a0)] [(.int (32 : Int32)), (.ref a0)])) t
    exact kt
  obtain ⟨T1, h1, k1, X1, e1, E1, A1, st1⟩ := newP X0 hx hZ (hw _ (List.mem_of_getElem? (i := 6) rfl)) e0 (g := (mkF m 3 #[.val (.ref a0)] [(.int (32 : Int32)), (.ref a0)])) rfl (hb hby d1_3) rfl (by decide) (cap := 32) (by decide) (by decide) (by decide) (by decide)
  obtain ⟨b1, y1⟩ : ∃ z, z = h0.size := ⟨_, rfl⟩
  rw [← y1] at A1 st1
  have ne_a0_b1 : a0 ≠ b1 := Nat.ne_of_lt (Nat.lt_of_lt_of_le E_a0.lt (Nat.le_of_eq y1.symm))
  have ne_b1_a0 := ne_a0_b1.symm
  have g_b1 : n0 ≤ b1 := Nat.le_trans Z0 (Nat.le_of_eq y1.symm)
  have sz_b1 : h0.size ≤ b1 := Nat.le_trans K0.1 (Nat.le_of_eq y1.symm)
  replace E_a0 := (E_a0.ext E1)
  replace K_a0 := own_K_ext K_a0 E1
  have ZE1 : n0 ≤ h1.size := Nat.le_trans Z0 E1.1
  have KKE1 := K0.ext E1
  refine own_go st1 ?_
  have Ar_b1 : own_AJ Z h1 b1 32 (fun _ => (0 : Int64)) := own_A_new A1 (by decide)
  refine own_callC X1 hx hZ hown e1 rfl (hw _ (List.mem_of_getElem? (i := 7) rfl)) (hw _ (List.mem_of_getElem? (i := 8) rfl)) (hw _ (List.mem_of_getElem? (i := 2) rfl)) (hw _ (List.mem_of_getElem? (i := 9) rfl)) (by decide) (rm2 l Z aw hw a0 b1 h1 n0 ZE1 E_a0 K_a0 g_a0) (g := (mkF m 5 #[.val (.ref a0)] [(.ref b1), (.ref a0)])) rfl (by rw [hml]; rfl) (argsL := [(.ref b1)]) (rest := []) (lenOf pd_0 rfl) rfl rfl (W := 0) (by show 2 * 0 + _ ≤ _; exact Nat.le_of_eq rfl) (hb hby d1_5) (by decide) (by decide) (by decide) (by decide) ?_
  rintro _ T2 L2 X2 ⟨rfl, Nq2, Kq2, Pq2_0, Pq2_1⟩
  have N2 := Fr.app N0 Nq2
  replace E_a0 := (E_a0.keep Kq2)
  replace Ar_b1 := (Ar_b1.keep Kq2 (ninS (ne_b1_a0) nin0))
  replace K_a0 := own_K_keep K_a0 Kq2
  have ZKq2 : n0 ≤ T2.heap.size := Nat.le_trans ZE1 Kq2.1
  have KKKq2 := KKE1.trans Kq2 ((allS (Or.inl (by simp)) all0))
  exact own_retV X2 hP hx hlk rfl hret (hb hby d1_8) (by decide) (by decide) ⟨rfl, N2, KKKq2, Pq2_0, ⟨_, g_b1, sz_b1, Pq2_1, Ar_b1⟩⟩
theorem d4_0 : decode prog_25_method_9_code 0 = .ok (.aload_n 0, 1) := by decide +kernel
theorem d4_1 : decode prog_25_method_9_code 1 = .ok (.getfield 12, 3) := by decide +kernel
theorem d4_4 : decode prog_25_method_9_code 4 = .ok (.iload_n 1, 1) := by decide +kernel
theorem d4_5 : decode prog_25_method_9_code 5 = .ok (.lload_n 2, 1) := by decide +kernel
theorem d4_6 : decode prog_25_method_9_code 6 = .ok (.lastore, 1) := by decide +kernel
theorem d4_7 : decode prog_25_method_9_code 7 = .ok (.return_, 1) := by decide +kernel
set_option maxRecDepth 65536 in
set_option maxHeartbeats 4000000 in
theorem ef_4 (m : MethodId) (a0 : Addr) (p1 : Int32) (q2 : Int64) : entryFrame m #[(.ref a0), (.int p1), (.long q2)] 4 = mkF m 0 #[.val (.ref a0), .val (.int p1), .val (.long q2), .second] [] := by first | (simp [entryFrame, mkF, argsToLocals, Value.category]; done) | rfl
set_option maxRecDepth 65536 in
set_option maxHeartbeats 40000000 in
theorem rm4 (l : Launch) (Z : State) (aw : Array Value) (hw : ∀ d ∈ tables_1, d.before aw Z = true) {ws : List Jvm.Cond} (a0 : Addr) (p1 : Int32) (q2 : Int64) (w0 : Addr) (f : Nat → Int64) (i : Nat) (h0 : Heap) (n0 : Nat) (Z0 : n0 ≤ h0.size) (F_a0_values : Fld Z h0 a0 "com/example/retag/retag/Registers" "values" "[J" (.ref w0)) (Ar_w0 : own_AJ Z h0 w0 32 f) (g_w0 : n0 ≤ w0) (ne_a0_w0 : a0 ≠ w0) (hj : p1.toInt = (i : Int)) (hi : i < 32) :
    own_Met l Z (⟨"com/example/retag/retag/Registers", "set", "(IJ)V"⟩ : MethodName) prog_25_method_9_code 4 none ws ({ frames := 0, cells := 0, slots := 0, locals := 0 } : Room) #[(.ref a0), (.int p1), (.long q2)] h0 (fun v h L => v = none ∧ Fr n0 L ∧ Keep h0 h [w0] ∧ own_AJ Z h w0 32 (own_set f i q2)) := by
  refine own_body (plainFor_of_name pn_0) ?_
  intro p e s m below meth c s₁ hx hZ hby hml hown hnm hret hlk X0 e0
  replace hown : s.vm.findClass "com/example/retag/retag/Registers" = some m.cls := hown
  replace hml : c.maxLocals = 4 := hml
  have N0 := Fr.nil n0
  have K0 := Keep.refl h0 [w0]
  obtain ⟨P, hP⟩ : ∃ P, P = own_P below s (fun v h L => v = none ∧ Fr n0 L ∧ Keep h0 h [w0] ∧ own_AJ Z h w0 32 (own_set f i q2)) ({ frames := 0, cells := 0, slots := 0, locals := 0 } : Room).cells ({ frames := 0, cells := 0, slots := 0, locals := 0 } : Room).slots := ⟨_, rfl⟩
  rw [← hP]
  refine own_cast (ef_4 m a0 p1 q2) ?_
  refine own_go (T' := s₁) (f' := (mkF m 1 #[.val (.ref a0), .val (.int p1), .val (.long q2), .second] [(.ref a0)])) (fun t kt => ?_) ?_
  · show Steps p.tables e below (s₁.setTop (mkF m 0 #[.val (.ref a0), .val (.int p1), .val (.long q2), .second] [])) t
    refine XS.aloadN X0.here hx rfl (hb hby d4_0) rfl rfl ?_
    show Steps p.tables e below (s₁.setTop (mkF m 1 #[.val (.ref a0), .val (.int p1), .val (.long q2), .second] [(.ref a0)])) t
    exact kt
  obtain ⟨T1, X1, e1, st1⟩ := getF X0 hx hZ hown (host := "") (Or.inl (hw _ (List.mem_of_getElem? (i := 13) rfl))) Via.refl e0 F_a0_values (g := (mkF m 1 #[.val (.ref a0), .val (.int p1), .val (.long q2), .second] [(.ref a0)])) rfl rfl (hb hby d4_1)
  refine own_go st1 ?_
  refine own_go (T' := T1) (f' := (mkF m 6 #[.val (.ref a0), .val (.int p1), .val (.long q2), .second] [(.long q2), (.int p1), (.ref w0)])) (fun t kt => ?_) ?_
  · show Steps p.tables e below (T1.setTop (mkF m 4 #[.val (.ref a0), .val (.int p1), .val (.long q2), .second] [(.ref w0)])) t
    refine XS.iloadN X1.here hx rfl (hb hby d4_4) rfl ?_
    show Steps p.tables e below (T1.setTop (mkF m 5 #[.val (.ref a0), .val (.int p1), .val (.long q2), .second] [(.int p1), (.ref w0)])) t
    refine XS.lloadN X1.here hx rfl (hb hby d4_5) rfl ?_
    show Steps p.tables e below (T1.setTop (mkF m 6 #[.val (.ref a0), .val (.int p1), .val (.long q2), .second] [(.long q2), (.int p1), (.ref w0)])) t
    exact kt
  obtain ⟨T2, h2, X2, e2, W2, B2, st2⟩ := own_lastore X1 hx hZ e1 Ar_w0 (i := i) hj hi (g := (mkF m 6 #[.val (.ref a0), .val (.int p1), .val (.long q2), .second] [(.long q2), (.int p1), (.ref w0)])) rfl rfl (hb hby d4_6)
  refine own_go st2 ?_
  replace F_a0_values := (F_a0_values.other W2 (Or.inl (ne_a0_w0)))
  have N2 := Fr.snoc X2 N0 g_w0
  have Z2 : n0 ≤ h2.size := Nat.le_trans Z0 (Keep.of_wr W2).1
  have KK2 := K0.wr W2 (Or.inl (by simp))
  exact own_retV X2 hP hx hlk e2 hret (hb hby d4_7) (by decide) (by decide) ⟨rfl, N2, KK2, B2⟩
theorem d5_0 : decode prog_25_method_8_code 0 = .ok (.iload_n 1, 1) := by decide +kernel
theorem d5_1 : decode prog_25_method_8_code 1 = .ok (.bipush 31, 2) := by decide +kernel
theorem d5_3 : decode prog_25_method_8_code 3 = .ok (.if_icmp .ne 7, 3) := by decide +kernel
theorem d5_6 : decode prog_25_method_8_code 6 = .ok (.lconst 0, 1) := by decide +kernel
theorem d5_7 : decode prog_25_method_8_code 7 = .ok (.goto 9, 3) := by decide +kernel
theorem d5_10 : decode prog_25_method_8_code 10 = .ok (.aload_n 0, 1) := by decide +kernel
theorem d5_11 : decode prog_25_method_8_code 11 = .ok (.getfield 12, 3) := by decide +kernel
theorem d5_14 : decode prog_25_method_8_code 14 = .ok (.iload_n 1, 1) := by decide +kernel
theorem d5_15 : decode prog_25_method_8_code 15 = .ok (.laload, 1) := by decide +kernel
theorem d5_16 : decode prog_25_method_8_code 16 = .ok (.lreturn, 1) := by decide +kernel
set_option maxRecDepth 65536 in
set_option maxHeartbeats 4000000 in
theorem ef_5 (m : MethodId) (a0 : Addr) (p1 : Int32) : entryFrame m #[(.ref a0), (.int p1)] 2 = mkF m 0 #[.val (.ref a0), .val (.int p1)] [] := by first | (simp [entryFrame, mkF, argsToLocals, Value.category]; done) | rfl
set_option maxRecDepth 65536 in
set_option maxHeartbeats 40000000 in
theorem rm5 (l : Launch) (Z : State) (aw : Array Value) (hw : ∀ d ∈ tables_1, d.before aw Z = true) {ws : List Jvm.Cond} (a0 : Addr) (p1 : Int32) (w0 : Addr) (f : Nat → Int64) (i : Nat) (h0 : Heap) (n0 : Nat) (Z0 : n0 ≤ h0.size) (F_a0_values : Fld Z h0 a0 "com/example/retag/retag/Registers" "values" "[J" (.ref w0)) (Ar_w0 : own_AJ Z h0 w0 32 f) (hj : p1.toInt = (i : Int)) (hi : i < 32) :
    own_Met l Z (⟨"com/example/retag/retag/Registers", "getOrZero", "(I)J"⟩ : MethodName) prog_25_method_8_code 2 (some .long) ws ({ frames := 0, cells := 0, slots := 0, locals := 0 } : Room) #[(.ref a0), (.int p1)] h0 (own_Pq (some (.long (own_gz p1 f i))) h0) := by
  refine own_body (plainFor_of_name pn_0) ?_
  intro p e s m below meth c s₁ hx hZ hby hml hown hnm hret hlk X0 e0
  replace hown : s.vm.findClass "com/example/retag/retag/Registers" = some m.cls := hown
  replace hml : c.maxLocals = 2 := hml
  obtain ⟨P, hP⟩ : ∃ P, P = own_P below s (own_Pq (some (.long (own_gz p1 f i))) h0) ({ frames := 0, cells := 0, slots := 0, locals := 0 } : Room).cells ({ frames := 0, cells := 0, slots := 0, locals := 0 } : Room).slots := ⟨_, rfl⟩
  rw [← hP]
  refine own_cast (ef_5 m a0 p1) ?_
  refine own_go (T' := s₁) (f' := (mkF m 3 #[.val (.ref a0), .val (.int p1)] [(.int (31 : Int32)), (.int p1)])) (fun t kt => ?_) ?_
  · show Steps p.tables e below (s₁.setTop (mkF m 0 #[.val (.ref a0), .val (.int p1)] [])) t
    refine XS.iloadN X0.here hx rfl (hb hby d5_0) rfl ?_
    show Steps p.tables e below (s₁.setTop (mkF m 1 #[.val (.ref a0), .val (.int p1)] [(.int p1)])) t
    refine XS.bipush X0.here hx rfl (hb hby d5_1) ?_
    show Steps p.tables e below (s₁.setTop (mkF m 3 #[.val (.ref a0), .val (.int p1)] [(.int (31 : Int32)), (.int p1)])) t
    exact kt
  by_cases hc3_1 : p1 = (31 : Int32)
  · refine own_go (T' := s₁) (f' := (mkF m 16 #[.val (.ref a0), .val (.int p1)] [(.long (0 : Int64))])) (fun t kt => ?_) ?_
    · show Steps p.tables e below (s₁.setTop (mkF m 3 #[.val (.ref a0), .val (.int p1)] [(.int (31 : Int32)), (.int p1)])) t
      refine XS.icmpNo X0.here hx rfl (hb hby d5_3) rfl (teq hc3_1).2 ?_
      show Steps p.tables e below (s₁.setTop (mkF m 6 #[.val (.ref a0), .val (.int p1)] [])) t
      refine XS.lconst X0.here hx rfl (hb hby d5_6) ?_
      show Steps p.tables e below (s₁.setTop (mkF m 7 #[.val (.ref a0), .val (.int p1)] [(.long (0 : Int64))])) t
      refine XS.goto X0.here hx rfl (pc0 := 7) (pc' := 16) rfl (hb hby d5_7) (by decide) (by decide) ?_
      show Steps p.tables e below (s₁.setTop (mkF m 16 #[.val (.ref a0), .val (.int p1)] [(.long (0 : Int64))])) t
      exact kt
    exact own_retJ X0 hP hx hlk e0 hret (hb hby d5_16) (by decide) (by decide) ⟨(by rw [own_gz, if_pos hc3_1]), rfl, rfl⟩
  · refine own_go (T' := s₁) (f' := (mkF m 11 #[.val (.ref a0), .val (.int p1)] [(.ref a0)])) (fun t kt => ?_) ?_
    · show Steps p.tables e below (s₁.setTop (mkF m 3 #[.val (.ref a0), .val (.int p1)] [(.int (31 : Int32)), (.int p1)])) t
      refine XS.icmpYes X0.here hx rfl (pc0 := 3) (pc' := 10) rfl (hb hby d5_3) rfl (feq hc3_1).2 (by decide) (by decide) ?_
      show Steps p.tables e below (s₁.setTop (mkF m 10 #[.val (.ref a0), .val (.int p1)] [])) t
      refine XS.aloadN X0.here hx rfl (hb hby d5_10) rfl rfl ?_
      show Steps p.tables e below (s₁.setTop (mkF m 11 #[.val (.ref a0), .val (.int p1)] [(.ref a0)])) t
      exact kt
    obtain ⟨T2, X2, e2, st2⟩ := getF X0 hx hZ hown (host := "") (Or.inl (hw _ (List.mem_of_getElem? (i := 13) rfl))) Via.refl e0 F_a0_values (g := (mkF m 11 #[.val (.ref a0), .val (.int p1)] [(.ref a0)])) rfl rfl (hb hby d5_11)
    refine own_go st2 ?_
    refine own_go (T' := T2) (f' := (mkF m 16 #[.val (.ref a0), .val (.int p1)] [(.long (f i))])) (fun t kt => ?_) ?_
    · show Steps p.tables e below (T2.setTop (mkF m 14 #[.val (.ref a0), .val (.int p1)] [(.ref w0)])) t
      refine XS.iloadN X2.here hx rfl (hb hby d5_14) rfl ?_
      show Steps p.tables e below (T2.setTop (mkF m 15 #[.val (.ref a0), .val (.int p1)] [(.int p1), (.ref w0)])) t
      refine own_laload X2 hx hZ e2 Ar_w0 (i := i) hj hi (g := (mkF m 15 #[.val (.ref a0), .val (.int p1)] [(.int p1), (.ref w0)])) rfl rfl (hb hby d5_15) _ ?_
      show Steps p.tables e below (T2.setTop (mkF m 16 #[.val (.ref a0), .val (.int p1)] [(.long (f i))])) t
      exact kt
    exact own_retJ X2 hP hx hlk e2 hret (hb hby d5_16) (by decide) (by decide) ⟨(by rw [own_gz, if_neg hc3_1]), rfl, rfl⟩
theorem pn_1 : plainName "com/example/retag/retag/RegistersGetOrZeroPinLaw" = true := by first | (simp [plainName, overriddenIn]; done) | decide +kernel
theorem d6_0 : decode method_2_code 0 = .ok (.iload_n 0, 1) := by decide +kernel
theorem d6_1 : decode method_2_code 1 = .ok (.bipush 31, 2) := by decide +kernel
theorem d6_3 : decode method_2_code 3 = .ok (.if_icmp .ne 5, 3) := by decide +kernel
theorem d6_6 : decode method_2_code 6 = .ok (.lconst 0, 1) := by decide +kernel
theorem d6_7 : decode method_2_code 7 = .ok (.lreturn, 1) := by decide +kernel
theorem d6_8 : decode method_2_code 8 = .ok (.iload_n 0, 1) := by decide +kernel
theorem d6_9 : decode method_2_code 9 = .ok (.iload_n 1, 1) := by decide +kernel
theorem d6_10 : decode method_2_code 10 = .ok (.if_icmp .ne 5, 3) := by decide +kernel
theorem d6_13 : decode method_2_code 13 = .ok (.lload_n 3, 1) := by decide +kernel
theorem d6_14 : decode method_2_code 14 = .ok (.lreturn, 1) := by decide +kernel
theorem d6_15 : decode method_2_code 15 = .ok (.iload_n 0, 1) := by decide +kernel
theorem d6_16 : decode method_2_code 16 = .ok (.iload_n 2, 1) := by decide +kernel
theorem d6_17 : decode method_2_code 17 = .ok (.if_icmp .ne 6, 3) := by decide +kernel
theorem d6_20 : decode method_2_code 20 = .ok (.lload 5, 2) := by decide +kernel
theorem d6_22 : decode method_2_code 22 = .ok (.lreturn, 1) := by decide +kernel
theorem d6_23 : decode method_2_code 23 = .ok (.lconst 0, 1) := by decide +kernel
theorem d6_24 : decode method_2_code 24 = .ok (.lreturn, 1) := by decide +kernel
set_option maxRecDepth 65536 in
set_option maxHeartbeats 4000000 in
theorem ef_6 (m : MethodId) (p0 : Int32) (p1 : Int32) (p2 : Int32) (q3 : Int64) (q4 : Int64) : entryFrame m #[(.int p0), (.int p1), (.int p2), (.long q3), (.long q4)] 7 = mkF m 0 #[.val (.int p0), .val (.int p1), .val (.int p2), .val (.long q3), .second, .val (.long q4), .second] [] := by first | (simp [entryFrame, mkF, argsToLocals, Value.category]; done) | rfl
set_option maxRecDepth 65536 in
set_option maxHeartbeats 40000000 in
theorem rm6 (l : Launch) (Z : State) (aw : Array Value) (hw : ∀ d ∈ tables_1, d.before aw Z = true) {ws : List Jvm.Cond} (p0 : Int32) (p1 : Int32) (p2 : Int32) (q3 : Int64) (q4 : Int64)  (h0 : Heap) (n0 : Nat) (Z0 : n0 ≤ h0.size)  :
    own_Met l Z (⟨"com/example/retag/retag/RegistersGetOrZeroPinLaw", "expected", "(IIIJJ)J"⟩ : MethodName) method_2_code 7 (some .long) ws ({ frames := 0, cells := 0, slots := 0, locals := 0 } : Room) #[(.int p0), (.int p1), (.int p2), (.long q3), (.long q4)] h0 (own_Pq (some (.long (own_ex p0 p1 p2 q3 q4))) h0) := by
  refine own_body (plainFor_of_name pn_1) ?_
  intro p e s m below meth c s₁ hx hZ hby hml hown hnm hret hlk X0 e0
  replace hown : s.vm.findClass "com/example/retag/retag/RegistersGetOrZeroPinLaw" = some m.cls := hown
  replace hml : c.maxLocals = 7 := hml
  obtain ⟨P, hP⟩ : ∃ P, P = own_P below s (own_Pq (some (.long (own_ex p0 p1 p2 q3 q4))) h0) ({ frames := 0, cells := 0, slots := 0, locals := 0 } : Room).cells ({ frames := 0, cells := 0, slots := 0, locals := 0 } : Room).slots := ⟨_, rfl⟩
  rw [← hP]
  refine own_cast (ef_6 m p0 p1 p2 q3 q4) ?_
  refine own_go (T' := s₁) (f' := (mkF m 3 #[.val (.int p0), .val (.int p1), .val (.int p2), .val (.long q3), .second, .val (.long q4), .second] [(.int (31 : Int32)), (.int p0)])) (fun t kt => ?_) ?_
  · show Steps p.tables e below (s₁.setTop (mkF m 0 #[.val (.int p0), .val (.int p1), .val (.int p2), .val (.long q3), .second, .val (.long q4), .second] [])) t
    refine XS.iloadN X0.here hx rfl (hb hby d6_0) rfl ?_
    show Steps p.tables e below (s₁.setTop (mkF m 1 #[.val (.int p0), .val (.int p1), .val (.int p2), .val (.long q3), .second, .val (.long q4), .second] [(.int p0)])) t
    refine XS.bipush X0.here hx rfl (hb hby d6_1) ?_
    show Steps p.tables e below (s₁.setTop (mkF m 3 #[.val (.int p0), .val (.int p1), .val (.int p2), .val (.long q3), .second, .val (.long q4), .second] [(.int (31 : Int32)), (.int p0)])) t
    exact kt
  by_cases hc3_1 : p0 = (31 : Int32)
  · refine own_go (T' := s₁) (f' := (mkF m 7 #[.val (.int p0), .val (.int p1), .val (.int p2), .val (.long q3), .second, .val (.long q4), .second] [(.long (0 : Int64))])) (fun t kt => ?_) ?_
    · show Steps p.tables e below (s₁.setTop (mkF m 3 #[.val (.int p0), .val (.int p1), .val (.int p2), .val (.long q3), .second, .val (.long q4), .second] [(.int (31 : Int32)), (.int p0)])) t
      refine XS.icmpNo X0.here hx rfl (hb hby d6_3) rfl (teq hc3_1).2 ?_
      show Steps p.tables e below (s₁.setTop (mkF m 6 #[.val (.int p0), .val (.int p1), .val (.int p2), .val (.long q3), .second, .val (.long q4), .second] [])) t
      refine XS.lconst X0.here hx rfl (hb hby d6_6) ?_
      show Steps p.tables e below (s₁.setTop (mkF m 7 #[.val (.int p0), .val (.int p1), .val (.int p2), .val (.long q3), .second, .val (.long q4), .second] [(.long (0 : Int64))])) t
      exact kt
    exact own_retJ X0 hP hx hlk e0 hret (hb hby d6_7) (by decide) (by decide) ⟨(by rw [own_ex, if_pos hc3_1]), rfl, rfl⟩
  · refine own_go (T' := s₁) (f' := (mkF m 10 #[.val (.int p0), .val (.int p1), .val (.int p2), .val (.long q3), .second, .val (.long q4), .second] [(.int p1), (.int p0)])) (fun t kt => ?_) ?_
    · show Steps p.tables e below (s₁.setTop (mkF m 3 #[.val (.int p0), .val (.int p1), .val (.int p2), .val (.long q3), .second, .val (.long q4), .second] [(.int (31 : Int32)), (.int p0)])) t
      refine XS.icmpYes X0.here hx rfl (pc0 := 3) (pc' := 8) rfl (hb hby d6_3) rfl (feq hc3_1).2 (by decide) (by decide) ?_
      show Steps p.tables e below (s₁.setTop (mkF m 8 #[.val (.int p0), .val (.int p1), .val (.int p2), .val (.long q3), .second, .val (.long q4), .second] [])) t
      refine XS.iloadN X0.here hx rfl (hb hby d6_8) rfl ?_
      show Steps p.tables e below (s₁.setTop (mkF m 9 #[.val (.int p0), .val (.int p1), .val (.int p2), .val (.long q3), .second, .val (.long q4), .second] [(.int p0)])) t
      refine XS.iloadN X0.here hx rfl (hb hby d6_9) rfl ?_
      show Steps p.tables e below (s₁.setTop (mkF m 10 #[.val (.int p0), .val (.int p1), .val (.int p2), .val (.long q3), .second, .val (.long q4), .second] [(.int p1), (.int p0)])) t
      exact kt
    by_cases hc10_2 : p0 = p1
    · refine own_go (T' := s₁) (f' := (mkF m 14 #[.val (.int p0), .val (.int p1), .val (.int p2), .val (.long q3), .second, .val (.long q4), .second] [(.long q3)])) (fun t kt => ?_) ?_
      · show Steps p.tables e below (s₁.setTop (mkF m 10 #[.val (.int p0), .val (.int p1), .val (.int p2), .val (.long q3), .second, .val (.long q4), .second] [(.int p1), (.int p0)])) t
        refine XS.icmpNo X0.here hx rfl (hb hby d6_10) rfl (teq hc10_2).2 ?_
        show Steps p.tables e below (s₁.setTop (mkF m 13 #[.val (.int p0), .val (.int p1), .val (.int p2), .val (.long q3), .second, .val (.long q4), .second] [])) t
        refine XS.lloadN X0.here hx rfl (hb hby d6_13) rfl ?_
        show Steps p.tables e below (s₁.setTop (mkF m 14 #[.val (.int p0), .val (.int p1), .val (.int p2), .val (.long q3), .second, .val (.long q4), .second] [(.long q3)])) t
        exact kt
      exact own_retJ X0 hP hx hlk e0 hret (hb hby d6_14) (by decide) (by decide) ⟨(by rw [own_ex, if_neg hc3_1, if_pos hc10_2]), rfl, rfl⟩
    · refine own_go (T' := s₁) (f' := (mkF m 17 #[.val (.int p0), .val (.int p1), .val (.int p2), .val (.long q3), .second, .val (.long q4), .second] [(.int p2), (.int p0)])) (fun t kt => ?_) ?_
      · show Steps p.tables e below (s₁.setTop (mkF m 10 #[.val (.int p0), .val (.int p1), .val (.int p2), .val (.long q3), .second, .val (.long q4), .second] [(.int p1), (.int p0)])) t
        refine XS.icmpYes X0.here hx rfl (pc0 := 10) (pc' := 15) rfl (hb hby d6_10) rfl (feq hc10_2).2 (by decide) (by decide) ?_
        show Steps p.tables e below (s₁.setTop (mkF m 15 #[.val (.int p0), .val (.int p1), .val (.int p2), .val (.long q3), .second, .val (.long q4), .second] [])) t
        refine XS.iloadN X0.here hx rfl (hb hby d6_15) rfl ?_
        show Steps p.tables e below (s₁.setTop (mkF m 16 #[.val (.int p0), .val (.int p1), .val (.int p2), .val (.long q3), .second, .val (.long q4), .second] [(.int p0)])) t
        refine XS.iloadN X0.here hx rfl (hb hby d6_16) rfl ?_
        show Steps p.tables e below (s₁.setTop (mkF m 17 #[.val (.int p0), .val (.int p1), .val (.int p2), .val (.long q3), .second, .val (.long q4), .second] [(.int p2), (.int p0)])) t
        exact kt
      by_cases hc17_3 : p0 = p2
      · refine own_go (T' := s₁) (f' := (mkF m 22 #[.val (.int p0), .val (.int p1), .val (.int p2), .val (.long q3), .second, .val (.long q4), .second] [(.long q4)])) (fun t kt => ?_) ?_
        · show Steps p.tables e below (s₁.setTop (mkF m 17 #[.val (.int p0), .val (.int p1), .val (.int p2), .val (.long q3), .second, .val (.long q4), .second] [(.int p2), (.int p0)])) t
          refine XS.icmpNo X0.here hx rfl (hb hby d6_17) rfl (teq hc17_3).2 ?_
          show Steps p.tables e below (s₁.setTop (mkF m 20 #[.val (.int p0), .val (.int p1), .val (.int p2), .val (.long q3), .second, .val (.long q4), .second] [])) t
          refine XS.lload X0.here hx rfl (hb hby d6_20) rfl ?_
          show Steps p.tables e below (s₁.setTop (mkF m 22 #[.val (.int p0), .val (.int p1), .val (.int p2), .val (.long q3), .second, .val (.long q4), .second] [(.long q4)])) t
          exact kt
        exact own_retJ X0 hP hx hlk e0 hret (hb hby d6_22) (by decide) (by decide) ⟨(by rw [own_ex, if_neg hc3_1, if_neg hc10_2, if_pos hc17_3]), rfl, rfl⟩
      · refine own_go (T' := s₁) (f' := (mkF m 24 #[.val (.int p0), .val (.int p1), .val (.int p2), .val (.long q3), .second, .val (.long q4), .second] [(.long (0 : Int64))])) (fun t kt => ?_) ?_
        · show Steps p.tables e below (s₁.setTop (mkF m 17 #[.val (.int p0), .val (.int p1), .val (.int p2), .val (.long q3), .second, .val (.long q4), .second] [(.int p2), (.int p0)])) t
          refine XS.icmpYes X0.here hx rfl (pc0 := 17) (pc' := 23) rfl (hb hby d6_17) rfl (feq hc17_3).2 (by decide) (by decide) ?_
          show Steps p.tables e below (s₁.setTop (mkF m 23 #[.val (.int p0), .val (.int p1), .val (.int p2), .val (.long q3), .second, .val (.long q4), .second] [])) t
          refine XS.lconst X0.here hx rfl (hb hby d6_23) ?_
          show Steps p.tables e below (s₁.setTop (mkF m 24 #[.val (.int p0), .val (.int p1), .val (.int p2), .val (.long q3), .second, .val (.long q4), .second] [(.long (0 : Int64))])) t
          exact kt
        exact own_retJ X0 hP hx hlk e0 hret (hb hby d6_24) (by decide) (by decide) ⟨(by rw [own_ex, if_neg hc3_1, if_neg hc10_2, if_neg hc17_3]), rfl, rfl⟩
theorem pd_1 : parseMethodDescriptor "()V" = some ⟨[], none⟩ := by decide +kernel
theorem pd_2 : parseMethodDescriptor "(IJ)V" = some ⟨[.int, .long], none⟩ := by decide +kernel
theorem pd_3 : parseMethodDescriptor "(I)J" = some ⟨[.int], some .long⟩ := by decide +kernel
theorem pd_4 : parseMethodDescriptor "(IIIJJ)J" = some ⟨[.int, .int, .int, .long, .long], some .long⟩ := by decide +kernel
set_option maxRecDepth 65536 in
set_option maxHeartbeats 4000000 in
theorem ef_0 (m : MethodId) (p0 : Int32) (p1 : Int32) (p2 : Int32) (q3 : Int64) (q4 : Int64) (q5 : Int64) : entryFrame m #[(.int p0), (.int p1), (.int p2), (.long q3), (.long q4), (.long q5)] maxLocals = mkF m 0 #[.val (.int p0), .val (.int p1), .val (.int p2), .val (.long q3), .second, .val (.long q4), .second, .val (.long q5), .second, .unset, .unset, .unset, .unset, .unset, .unset, .unset, .unset] [] := by first | (simp [entryFrame, mkF, argsToLocals, Value.category, maxLocals]; done) | rfl
set_option maxRecDepth 65536 in
set_option maxHeartbeats 40000000 in
theorem rm0 (l : Launch) (Z : State) (aw : Array Value) (hw : ∀ d ∈ tables_1, d.before aw Z = true) {ws : List Jvm.Cond} (p0 : Int32) (p1 : Int32) (p2 : Int32) (q3 : Int64) (q4 : Int64) (q5 : Int64)  (h0 : Heap) (n0 : Nat) (Z0 : n0 ≤ h0.size)  :
    own_Met l Z x code maxLocals ret ws room_1 #[(.int p0), (.int p1), (.int p2), (.long q3), (.long q4), (.long q5)] h0 (fun v h L => v = some (.int 1) ∧ Fr n0 L) := by
  refine own_body (plainFor_of_name pn_1) ?_
  intro p e s m below meth c s₁ hx hZ hby hml hown hnm hret hlk X0 e0
  replace hown : s.vm.findClass "com/example/retag/retag/RegistersGetOrZeroPinLaw" = some m.cls := hown
  replace hml : c.maxLocals = 17 := hml
  have N0 := Fr.nil n0
  have K0 := Keep.refl h0 []
  obtain ⟨P, hP⟩ : ∃ P, P = own_P below s (fun v h L => v = some (.int 1) ∧ Fr n0 L) room_1.cells room_1.slots := ⟨_, rfl⟩
  rw [← hP]
  refine own_cast (ef_0 m p0 p1 p2 q3 q4 q5) ?_
  refine own_go (T' := s₁) (f' := (mkF m 4 #[.val (.int p0), .val (.int p1), .val (.int p2), .val (.long q3), .second, .val (.long q4), .second, .val (.long q5), .second, .unset, .unset, .unset, .unset, .unset, .unset, .unset, .unset] [(.int (p0 &&& (31 : Int32)))])) (fun t kt => ?_) ?_
  · show Steps p.tables e below (s₁.setTop (mkF m 0 #[.val (.int p0), .val (.int p1), .val (.int p2), .val (.long q3), .second, .val (.long q4), .second, .val (.long q5), .second, .unset, .unset, .unset, .unset, .unset, .unset, .unset, .unset] [])) t
    refine XS.iloadN X0.here hx rfl (hb hby at_0) rfl ?_
    show Steps p.tables e below (s₁.setTop (mkF m 1 #[.val (.int p0), .val (.int p1), .val (.int p2), .val (.long q3), .second, .val (.long q4), .second, .val (.long q5), .second, .unset, .unset, .unset, .unset, .unset, .unset, .unset, .unset] [(.int p0)])) t
    refine XS.bipush X0.here hx rfl (hb hby at_1) ?_
    show Steps p.tables e below (s₁.setTop (mkF m 3 #[.val (.int p0), .val (.int p1), .val (.int p2), .val (.long q3), .second, .val (.long q4), .second, .val (.long q5), .second, .unset, .unset, .unset, .unset, .unset, .unset, .unset, .unset] [(.int (31 : Int32)), (.int p0)])) t
    refine XS.iand X0.here hx rfl (hb hby at_3) rfl ?_
    show Steps p.tables e below (s₁.setTop (mkF m 4 #[.val (.int p0), .val (.int p1), .val (.int p2), .val (.long q3), .second, .val (.long q4), .second, .val (.long q5), .second, .unset, .unset, .unset, .unset, .unset, .unset, .unset, .unset] [(.int (p0 &&& (31 : Int32)))])) t
    exact kt
  obtain ⟨va, hva⟩ : ∃ z, z = (p0 &&& (31 : Int32)) := ⟨_, rfl⟩
  rw [← hva]
  refine own_go (T' := s₁) (f' := (mkF m 10 #[.val (.int p0), .val (.int p1), .val (.int p2), .val (.long q3), .second, .val (.long q4), .second, .val (.long q5), .second, .val (.int va), .unset, .unset, .unset, .unset, .unset, .unset, .unset] [(.int (p1 &&& (31 : Int32)))])) (fun t kt => ?_) ?_
  · show Steps p.tables e below (s₁.setTop (mkF m 4 #[.val (.int p0), .val (.int p1), .val (.int p2), .val (.long q3), .second, .val (.long q4), .second, .val (.long q5), .second, .unset, .unset, .unset, .unset, .unset, .unset, .unset, .unset] [(.int va)])) t
    refine XS.istore X0.here hx rfl (hb hby at_4) rfl (l' := #[.val (.int p0), .val (.int p1), .val (.int p2), .val (.long q3), .second, .val (.long q4), .second, .val (.long q5), .second, .val (.int va), .unset, .unset, .unset, .unset, .unset, .unset, .unset]) rfl ?_
    show Steps p.tables e below (s₁.setTop (mkF m 6 #[.val (.int p0), .val (.int p1), .val (.int p2), .val (.long q3), .second, .val (.long q4), .second, .val (.long q5), .second, .val (.int va), .unset, .unset, .unset, .unset, .unset, .unset, .unset] [])) t
    refine XS.iloadN X0.here hx rfl (hb hby at_6) rfl ?_
    show Steps p.tables e below (s₁.setTop (mkF m 7 #[.val (.int p0), .val (.int p1), .val (.int p2), .val (.long q3), .second, .val (.long q4), .second, .val (.long q5), .second, .val (.int va), .unset, .unset, .unset, .unset, .unset, .unset, .unset] [(.int p1)])) t
    refine XS.bipush X0.here hx rfl (hb hby at_7) ?_
    show Steps p.tables e below (s₁.setTop (mkF m 9 #[.val (.int p0), .val (.int p1), .val (.int p2), .val (.long q3), .second, .val (.long q4), .second, .val (.long q5), .second, .val (.int va), .unset, .unset, .unset, .unset, .unset, .unset, .unset] [(.int (31 : Int32)), (.int p1)])) t
    refine XS.iand X0.here hx rfl (hb hby at_9) rfl ?_
    show Steps p.tables e below (s₁.setTop (mkF m 10 #[.val (.int p0), .val (.int p1), .val (.int p2), .val (.long q3), .second, .val (.long q4), .second, .val (.long q5), .second, .val (.int va), .unset, .unset, .unset, .unset, .unset, .unset, .unset] [(.int (p1 &&& (31 : Int32)))])) t
    exact kt
  obtain ⟨vb, hvb⟩ : ∃ z, z = (p1 &&& (31 : Int32)) := ⟨_, rfl⟩
  rw [← hvb]
  refine own_go (T' := s₁) (f' := (mkF m 16 #[.val (.int p0), .val (.int p1), .val (.int p2), .val (.long q3), .second, .val (.long q4), .second, .val (.long q5), .second, .val (.int va), .val (.int vb), .unset, .unset, .unset, .unset, .unset, .unset] [(.int (p2 &&& (31 : Int32)))])) (fun t kt => ?_) ?_
  · show Steps p.tables e below (s₁.setTop (mkF m 10 #[.val (.int p0), .val (.int p1), .val (.int p2), .val (.long q3), .second, .val (.long q4), .second, .val (.long q5), .second, .val (.int va), .unset, .unset, .unset, .unset, .unset, .unset, .unset] [(.int vb)])) t
    refine XS.istore X0.here hx rfl (hb hby at_10) rfl (l' := #[.val (.int p0), .val (.int p1), .val (.int p2), .val (.long q3), .second, .val (.long q4), .second, .val (.long q5), .second, .val (.int va), .val (.int vb), .unset, .unset, .unset, .unset, .unset, .unset]) rfl ?_
    show Steps p.tables e below (s₁.setTop (mkF m 12 #[.val (.int p0), .val (.int p1), .val (.int p2), .val (.long q3), .second, .val (.long q4), .second, .val (.long q5), .second, .val (.int va), .val (.int vb), .unset, .unset, .unset, .unset, .unset, .unset] [])) t
    refine XS.iloadN X0.here hx rfl (hb hby at_12) rfl ?_
    show Steps p.tables e below (s₁.setTop (mkF m 13 #[.val (.int p0), .val (.int p1), .val (.int p2), .val (.long q3), .second, .val (.long q4), .second, .val (.long q5), .second, .val (.int va), .val (.int vb), .unset, .unset, .unset, .unset, .unset, .unset] [(.int p2)])) t
    refine XS.bipush X0.here hx rfl (hb hby at_13) ?_
    show Steps p.tables e below (s₁.setTop (mkF m 15 #[.val (.int p0), .val (.int p1), .val (.int p2), .val (.long q3), .second, .val (.long q4), .second, .val (.long q5), .second, .val (.int va), .val (.int vb), .unset, .unset, .unset, .unset, .unset, .unset] [(.int (31 : Int32)), (.int p2)])) t
    refine XS.iand X0.here hx rfl (hb hby at_15) rfl ?_
    show Steps p.tables e below (s₁.setTop (mkF m 16 #[.val (.int p0), .val (.int p1), .val (.int p2), .val (.long q3), .second, .val (.long q4), .second, .val (.long q5), .second, .val (.int va), .val (.int vb), .unset, .unset, .unset, .unset, .unset, .unset] [(.int (p2 &&& (31 : Int32)))])) t
    exact kt
  obtain ⟨vc, hvc⟩ : ∃ z, z = (p2 &&& (31 : Int32)) := ⟨_, rfl⟩
  rw [← hvc]
  refine own_go (T' := s₁) (f' := (mkF m 18 #[.val (.int p0), .val (.int p1), .val (.int p2), .val (.long q3), .second, .val (.long q4), .second, .val (.long q5), .second, .val (.int va), .val (.int vb), .val (.int vc), .unset, .unset, .unset, .unset, .unset] [])) (fun t kt => ?_) ?_
  · show Steps p.tables e below (s₁.setTop (mkF m 16 #[.val (.int p0), .val (.int p1), .val (.int p2), .val (.long q3), .second, .val (.long q4), .second, .val (.long q5), .second, .val (.int va), .val (.int vb), .unset, .unset, .unset, .unset, .unset, .unset] [(.int vc)])) t
    refine XS.istore X0.here hx rfl (hb hby at_16) rfl (l' := #[.val (.int p0), .val (.int p1), .val (.int p2), .val (.long q3), .second, .val (.long q4), .second, .val (.long q5), .second, .val (.int va), .val (.int vb), .val (.int vc), .unset, .unset, .unset, .unset, .unset]) rfl ?_
    show Steps p.tables e below (s₁.setTop (mkF m 18 #[.val (.int p0), .val (.int p1), .val (.int p2), .val (.long q3), .second, .val (.long q4), .second, .val (.long q5), .second, .val (.int va), .val (.int vb), .val (.int vc), .unset, .unset, .unset, .unset, .unset] [])) t
    exact kt
  obtain ⟨T1, h1, X1, e1, E1, A1, D1, U1, st1⟩ := newO X0 hx hZ hown (hw _ (List.mem_of_getElem? (i := 0) rfl)) (hw _ (List.mem_of_getElem? (i := 1) rfl)) (hw _ (List.mem_of_getElem? (i := 2) rfl)) e0 (g := (mkF m 18 #[.val (.int p0), .val (.int p1), .val (.int p2), .val (.long q3), .second, .val (.long q4), .second, .val (.long q5), .second, .val (.int va), .val (.int vb), .val (.int vc), .unset, .unset, .unset, .unset, .unset] [])) rfl (hb hby at_18) (by decide) (by decide)
  obtain ⟨b1, y1⟩ : ∃ z, z = h0.size := ⟨_, rfl⟩
  rw [← y1] at A1 D1 U1 st1
  have g_b1 : n0 ≤ b1 := Nat.le_trans Z0 (Nat.le_of_eq y1.symm)
  have sz_b1 : h0.size ≤ b1 := Nat.le_trans K0.1 (Nat.le_of_eq y1.symm)
  have ZE1 : n0 ≤ h1.size := Nat.le_trans Z0 E1.1
  have KKE1 := K0.ext E1
  refine own_go st1 ?_
  have K_b1 := own_K_new U1
  refine own_go (T' := T1) (f' := (mkF m 22 #[.val (.int p0), .val (.int p1), .val (.int p2), .val (.long q3), .second, .val (.long q4), .second, .val (.long q5), .second, .val (.int va), .val (.int vb), .val (.int vc), .unset, .unset, .unset, .unset, .unset] [(.ref b1), (.ref b1)])) (fun t kt => ?_) ?_
  · show Steps p.tables e below (T1.setTop (mkF m 21 #[.val (.int p0), .val (.int p1), .val (.int p2), .val (.long q3), .second, .val (.long q4), .second, .val (.long q5), .second, .val (.int va), .val (.int vb), .val (.int vc), .unset, .unset, .unset, .unset, .unset] [(.ref b1)])) t
    refine XS.dup X1.here hx rfl (hb hby at_21) rfl rfl ?_
    show Steps p.tables e below (T1.setTop (mkF m 22 #[.val (.int p0), .val (.int p1), .val (.int p2), .val (.long q3), .second, .val (.long q4), .second, .val (.long q5), .second, .val (.int va), .val (.int vb), .val (.int vc), .unset, .unset, .unset, .unset, .unset] [(.ref b1), (.ref b1)])) t
    exact kt
  have lt2_b1 := A1.lt
  refine own_callC X1 hx hZ hown e1 rfl (hw _ (List.mem_of_getElem? (i := 3) rfl)) (hw _ (List.mem_of_getElem? (i := 4) rfl)) (hw _ (List.mem_of_getElem? (i := 2) rfl)) (hw _ (List.mem_of_getElem? (i := 5) rfl)) (by decide) (rm1 l Z aw hw b1 h1 n0 ZE1 A1 K_b1 g_b1) (g := (mkF m 22 #[.val (.int p0), .val (.int p1), .val (.int p2), .val (.long q3), .second, .val (.long q4), .second, .val (.long q5), .second, .val (.int va), .val (.int vb), .val (.int vc), .unset, .unset, .unset, .unset, .unset] [(.ref b1), (.ref b1)])) rfl (by rw [hml]; rfl) (argsL := []) (rest := [(.ref b1)]) (lenOf pd_1 rfl) rfl rfl (W := 1) (by show 2 * 0 + _ ≤ _; exact Nat.le_of_eq rfl) (hb hby at_22) (by decide) (by decide) (by decide) (by decide) ?_
  rintro _ T2 L2 X2 ⟨rfl, Nq2, Kq2, Pq2_0, Pq2_1⟩
  have N2 := Fr.app N0 Nq2
  replace A1 := (A1.keep Kq2)
  replace K_b1 := own_K_keep K_b1 Kq2
  have ZKq2 : n0 ≤ T2.heap.size := Nat.le_trans ZE1 Kq2.1
  have KKKq2 := KKE1.trans Kq2 ((allS (Or.inr sz_b1) all0))
  obtain ⟨r2, g_r2, z_r2, F_r2, Ar_r2⟩ := Pq2_1
  have ne_b1_r2 : b1 ≠ r2 := Nat.ne_of_lt (Nat.lt_of_lt_of_le lt2_b1 z_r2)
  have ne_r2_b1 := ne_b1_r2.symm
  have sz_r2 : h0.size ≤ r2 := Nat.le_trans KKE1.1 z_r2
  refine own_go (T' := T2) (f' := (mkF m 33 #[.val (.int p0), .val (.int p1), .val (.int p2), .val (.long q3), .second, .val (.long q4), .second, .val (.long q5), .second, .val (.int va), .val (.int vb), .val (.int vc), .val (.ref b1), .unset, .unset, .unset, .unset] [(.long q5), (.int (31 : Int32)), (.ref b1)])) (fun t kt => ?_) ?_
  · show Steps p.tables e below (T2.setTop (mkF m 25 #[.val (.int p0), .val (.int p1), .val (.int p2), .val (.long q3), .second, .val (.long q4), .second, .val (.long q5), .second, .val (.int va), .val (.int vb), .val (.int vc), .unset, .unset, .unset, .unset, .unset] [(.ref b1)])) t
    refine XS.astore X2.here hx rfl (hb hby at_25) rfl rfl (l' := #[.val (.int p0), .val (.int p1), .val (.int p2), .val (.long q3), .second, .val (.long q4), .second, .val (.long q5), .second, .val (.int va), .val (.int vb), .val (.int vc), .val (.ref b1), .unset, .unset, .unset, .unset]) rfl ?_
    show Steps p.tables e below (T2.setTop (mkF m 27 #[.val (.int p0), .val (.int p1), .val (.int p2), .val (.long q3), .second, .val (.long q4), .second, .val (.long q5), .second, .val (.int va), .val (.int vb), .val (.int vc), .val (.ref b1), .unset, .unset, .unset, .unset] [])) t
    refine XS.aload X2.here hx rfl (hb hby at_27) rfl rfl ?_
    show Steps p.tables e below (T2.setTop (mkF m 29 #[.val (.int p0), .val (.int p1), .val (.int p2), .val (.long q3), .second, .val (.long q4), .second, .val (.long q5), .second, .val (.int va), .val (.int vb), .val (.int vc), .val (.ref b1), .unset, .unset, .unset, .unset] [(.ref b1)])) t
    refine XS.bipush X2.here hx rfl (hb hby at_29) ?_
    show Steps p.tables e below (T2.setTop (mkF m 31 #[.val (.int p0), .val (.int p1), .val (.int p2), .val (.long q3), .second, .val (.long q4), .second, .val (.long q5), .second, .val (.int va), .val (.int vb), .val (.int vc), .val (.ref b1), .unset, .unset, .unset, .unset] [(.int (31 : Int32)), (.ref b1)])) t
    refine XS.lload X2.here hx rfl (hb hby at_31) rfl ?_
    show Steps p.tables e below (T2.setTop (mkF m 33 #[.val (.int p0), .val (.int p1), .val (.int p2), .val (.long q3), .second, .val (.long q4), .second, .val (.long q5), .second, .val (.int va), .val (.int vb), .val (.int vc), .val (.ref b1), .unset, .unset, .unset, .unset] [(.long q5), (.int (31 : Int32)), (.ref b1)])) t
    exact kt
  refine own_callV X2 hx hZ hown rfl (hw _ (List.mem_of_getElem? (i := 15) rfl)) (hw _ (List.mem_of_getElem? (i := 16) rfl)) (notFace_of_selects (args := #[]) (mvT hZ (hw _ (List.mem_of_getElem? (i := 18) rfl)))) (hw _ (List.mem_of_getElem? (i := 18) rfl)) (hw _ (List.mem_of_getElem? (i := 17) rfl)) (hw _ (List.mem_of_getElem? (i := 2) rfl)) (hw _ (List.mem_of_getElem? (i := 19) rfl)) (by decide) (rm4 l Z aw hw b1 (31 : Int32) q5 r2 (fun _ => (0 : Int64)) 31 T2.heap n0 ZKq2 F_r2 Ar_r2 g_r2 (ne_b1_r2) (by decide) (by decide)) Pq2_0 (g := (mkF m 33 #[.val (.int p0), .val (.int p1), .val (.int p2), .val (.long q3), .second, .val (.long q4), .second, .val (.long q5), .second, .val (.int va), .val (.int vb), .val (.int vc), .val (.ref b1), .unset, .unset, .unset, .unset] [(.long q5), (.int (31 : Int32)), (.ref b1)])) rfl (by rw [hml]; rfl) (argsL := [(.int (31 : Int32)), (.long q5)]) (rest := []) (lenOf pd_2 rfl) rfl rfl (W := 0) (by show 2 * 0 + _ ≤ _; exact Nat.le_of_eq rfl) (hb hby at_33) (by decide) (by decide) (by decide) (by decide) ?_
  rintro _ T3 L3 X3 ⟨rfl, Nq3, Kq3, Pq3_0⟩
  have N3 := Fr.app N2 Nq3
  replace Pq2_0 := (Pq2_0.keep Kq3)
  replace F_r2 := (F_r2.keep Kq3 (ninS (ne_b1_r2) nin0))
  have ZKq3 : n0 ≤ T3.heap.size := Nat.le_trans ZKq2 Kq3.1
  have KKKq3 := KKKq2.trans Kq3 ((allS (Or.inr sz_r2) all0))
  refine own_go (T' := T3) (f' := (mkF m 42 #[.val (.int p0), .val (.int p1), .val (.int p2), .val (.long q3), .second, .val (.long q4), .second, .val (.long q5), .second, .val (.int va), .val (.int vb), .val (.int vc), .val (.ref b1), .unset, .unset, .unset, .unset] [(.long q4), (.int vb), (.ref b1)])) (fun t kt => ?_) ?_
  · show Steps p.tables e below (T3.setTop (mkF m 36 #[.val (.int p0), .val (.int p1), .val (.int p2), .val (.long q3), .second, .val (.long q4), .second, .val (.long q5), .second, .val (.int va), .val (.int vb), .val (.int vc), .val (.ref b1), .unset, .unset, .unset, .unset] [])) t
    refine XS.aload X3.here hx rfl (hb hby at_36) rfl rfl ?_
    show Steps p.tables e below (T3.setTop (mkF m 38 #[.val (.int p0), .val (.int p1), .val (.int p2), .val (.long q3), .second, .val (.long q4), .second, .val (.long q5), .second, .val (.int va), .val (.int vb), .val (.int vc), .val (.ref b1), .unset, .unset, .unset, .unset] [(.ref b1)])) t
    refine XS.iload X3.here hx rfl (hb hby at_38) rfl ?_
    show Steps p.tables e below (T3.setTop (mkF m 40 #[.val (.int p0), .val (.int p1), .val (.int p2), .val (.long q3), .second, .val (.long q4), .second, .val (.long q5), .second, .val (.int va), .val (.int vb), .val (.int vc), .val (.ref b1), .unset, .unset, .unset, .unset] [(.int vb), (.ref b1)])) t
    refine XS.lload X3.here hx rfl (hb hby at_40) rfl ?_
    show Steps p.tables e below (T3.setTop (mkF m 42 #[.val (.int p0), .val (.int p1), .val (.int p2), .val (.long q3), .second, .val (.long q4), .second, .val (.long q5), .second, .val (.int va), .val (.int vb), .val (.int vc), .val (.ref b1), .unset, .unset, .unset, .unset] [(.long q4), (.int vb), (.ref b1)])) t
    exact kt
  refine own_callV X3 hx hZ hown rfl (hw _ (List.mem_of_getElem? (i := 15) rfl)) (hw _ (List.mem_of_getElem? (i := 16) rfl)) (notFace_of_selects (args := #[]) (mvT hZ (hw _ (List.mem_of_getElem? (i := 18) rfl)))) (hw _ (List.mem_of_getElem? (i := 18) rfl)) (hw _ (List.mem_of_getElem? (i := 17) rfl)) (hw _ (List.mem_of_getElem? (i := 2) rfl)) (hw _ (List.mem_of_getElem? (i := 19) rfl)) (by decide) (rm4 l Z aw hw b1 vb q4 r2 (own_set (fun _ => (0 : Int64)) 31 q5) vb.toInt.toNat T3.heap n0 ZKq3 F_r2 Pq3_0 g_r2 (ne_b1_r2) (own_ix hvb).1 (own_ix hvb).2) Pq2_0 (g := (mkF m 42 #[.val (.int p0), .val (.int p1), .val (.int p2), .val (.long q3), .second, .val (.long q4), .second, .val (.long q5), .second, .val (.int va), .val (.int vb), .val (.int vc), .val (.ref b1), .unset, .unset, .unset, .unset] [(.long q4), (.int vb), (.ref b1)])) rfl (by rw [hml]; rfl) (argsL := [(.int vb), (.long q4)]) (rest := []) (lenOf pd_2 rfl) rfl rfl (W := 0) (by show 2 * 0 + _ ≤ _; exact Nat.le_of_eq rfl) (hb hby at_42) (by decide) (by decide) (by decide) (by decide) ?_
  rintro _ T4 L4 X4 ⟨rfl, Nq4, Kq4, Pq4_0⟩
  have N4 := Fr.app N3 Nq4
  replace Pq2_0 := (Pq2_0.keep Kq4)
  replace F_r2 := (F_r2.keep Kq4 (ninS (ne_b1_r2) nin0))
  have ZKq4 : n0 ≤ T4.heap.size := Nat.le_trans ZKq3 Kq4.1
  have KKKq4 := KKKq3.trans Kq4 ((allS (Or.inr sz_r2) all0))
  refine own_go (T' := T4) (f' := (mkF m 50 #[.val (.int p0), .val (.int p1), .val (.int p2), .val (.long q3), .second, .val (.long q4), .second, .val (.long q5), .second, .val (.int va), .val (.int vb), .val (.int vc), .val (.ref b1), .unset, .unset, .unset, .unset] [(.long q3), (.int va), (.ref b1)])) (fun t kt => ?_) ?_
  · show Steps p.tables e below (T4.setTop (mkF m 45 #[.val (.int p0), .val (.int p1), .val (.int p2), .val (.long q3), .second, .val (.long q4), .second, .val (.long q5), .second, .val (.int va), .val (.int vb), .val (.int vc), .val (.ref b1), .unset, .unset, .unset, .unset] [])) t
    refine XS.aload X4.here hx rfl (hb hby at_45) rfl rfl ?_
    show Steps p.tables e below (T4.setTop (mkF m 47 #[.val (.int p0), .val (.int p1), .val (.int p2), .val (.long q3), .second, .val (.long q4), .second, .val (.long q5), .second, .val (.int va), .val (.int vb), .val (.int vc), .val (.ref b1), .unset, .unset, .unset, .unset] [(.ref b1)])) t
    refine XS.iload X4.here hx rfl (hb hby at_47) rfl ?_
    show Steps p.tables e below (T4.setTop (mkF m 49 #[.val (.int p0), .val (.int p1), .val (.int p2), .val (.long q3), .second, .val (.long q4), .second, .val (.long q5), .second, .val (.int va), .val (.int vb), .val (.int vc), .val (.ref b1), .unset, .unset, .unset, .unset] [(.int va), (.ref b1)])) t
    refine XS.lloadN X4.here hx rfl (hb hby at_49) rfl ?_
    show Steps p.tables e below (T4.setTop (mkF m 50 #[.val (.int p0), .val (.int p1), .val (.int p2), .val (.long q3), .second, .val (.long q4), .second, .val (.long q5), .second, .val (.int va), .val (.int vb), .val (.int vc), .val (.ref b1), .unset, .unset, .unset, .unset] [(.long q3), (.int va), (.ref b1)])) t
    exact kt
  refine own_callV X4 hx hZ hown rfl (hw _ (List.mem_of_getElem? (i := 15) rfl)) (hw _ (List.mem_of_getElem? (i := 16) rfl)) (notFace_of_selects (args := #[]) (mvT hZ (hw _ (List.mem_of_getElem? (i := 18) rfl)))) (hw _ (List.mem_of_getElem? (i := 18) rfl)) (hw _ (List.mem_of_getElem? (i := 17) rfl)) (hw _ (List.mem_of_getElem? (i := 2) rfl)) (hw _ (List.mem_of_getElem? (i := 19) rfl)) (by decide) (rm4 l Z aw hw b1 va q3 r2 (own_set (own_set (fun _ => (0 : Int64)) 31 q5) vb.toInt.toNat q4) va.toInt.toNat T4.heap n0 ZKq4 F_r2 Pq4_0 g_r2 (ne_b1_r2) (own_ix hva).1 (own_ix hva).2) Pq2_0 (g := (mkF m 50 #[.val (.int p0), .val (.int p1), .val (.int p2), .val (.long q3), .second, .val (.long q4), .second, .val (.long q5), .second, .val (.int va), .val (.int vb), .val (.int vc), .val (.ref b1), .unset, .unset, .unset, .unset] [(.long q3), (.int va), (.ref b1)])) rfl (by rw [hml]; rfl) (argsL := [(.int va), (.long q3)]) (rest := []) (lenOf pd_2 rfl) rfl rfl (W := 0) (by show 2 * 0 + _ ≤ _; exact Nat.le_of_eq rfl) (hb hby at_50) (by decide) (by decide) (by decide) (by decide) ?_
  rintro _ T5 L5 X5 ⟨rfl, Nq5, Kq5, Pq5_0⟩
  have N5 := Fr.app N4 Nq5
  replace Pq2_0 := (Pq2_0.keep Kq5)
  replace F_r2 := (F_r2.keep Kq5 (ninS (ne_b1_r2) nin0))
  have ZKq5 : n0 ≤ T5.heap.size := Nat.le_trans ZKq4 Kq5.1
  have KKKq5 := KKKq4.trans Kq5 ((allS (Or.inr sz_r2) all0))
  refine own_go (T' := T5) (f' := (mkF m 57 #[.val (.int p0), .val (.int p1), .val (.int p2), .val (.long q3), .second, .val (.long q4), .second, .val (.long q5), .second, .val (.int va), .val (.int vb), .val (.int vc), .val (.ref b1), .unset, .unset, .unset, .unset] [(.int vc), (.ref b1)])) (fun t kt => ?_) ?_
  · show Steps p.tables e below (T5.setTop (mkF m 53 #[.val (.int p0), .val (.int p1), .val (.int p2), .val (.long q3), .second, .val (.long q4), .second, .val (.long q5), .second, .val (.int va), .val (.int vb), .val (.int vc), .val (.ref b1), .unset, .unset, .unset, .unset] [])) t
    refine XS.aload X5.here hx rfl (hb hby at_53) rfl rfl ?_
    show Steps p.tables e below (T5.setTop (mkF m 55 #[.val (.int p0), .val (.int p1), .val (.int p2), .val (.long q3), .second, .val (.long q4), .second, .val (.long q5), .second, .val (.int va), .val (.int vb), .val (.int vc), .val (.ref b1), .unset, .unset, .unset, .unset] [(.ref b1)])) t
    refine XS.iload X5.here hx rfl (hb hby at_55) rfl ?_
    show Steps p.tables e below (T5.setTop (mkF m 57 #[.val (.int p0), .val (.int p1), .val (.int p2), .val (.long q3), .second, .val (.long q4), .second, .val (.long q5), .second, .val (.int va), .val (.int vb), .val (.int vc), .val (.ref b1), .unset, .unset, .unset, .unset] [(.int vc), (.ref b1)])) t
    exact kt
  refine own_callVp X5 hx hZ hown rfl (hw _ (List.mem_of_getElem? (i := 20) rfl)) (hw _ (List.mem_of_getElem? (i := 21) rfl)) (notFace_of_selects (args := #[]) (mvT hZ (hw _ (List.mem_of_getElem? (i := 23) rfl)))) (hw _ (List.mem_of_getElem? (i := 23) rfl)) (hw _ (List.mem_of_getElem? (i := 22) rfl)) (hw _ (List.mem_of_getElem? (i := 2) rfl)) (hw _ (List.mem_of_getElem? (i := 24) rfl)) (by decide) (rm5 l Z aw hw b1 vc r2 (own_set (own_set (own_set (fun _ => (0 : Int64)) 31 q5) vb.toInt.toNat q4) va.toInt.toNat q3) vc.toInt.toNat T5.heap n0 ZKq5 F_r2 Pq5_0 (own_ix hvc).1 (own_ix hvc).2) Pq2_0 (g := (mkF m 57 #[.val (.int p0), .val (.int p1), .val (.int p2), .val (.long q3), .second, .val (.long q4), .second, .val (.long q5), .second, .val (.int va), .val (.int vb), .val (.int vc), .val (.ref b1), .unset, .unset, .unset, .unset] [(.int vc), (.ref b1)])) rfl (by rw [hml]; rfl) (argsL := [(.int vc)]) (rest := []) (lenOf pd_3 rfl) rfl rfl (W := 0) (by show 2 * 0 + _ ≤ _; exact Nat.le_of_eq rfl) (hb hby at_57) (by decide) (by decide) (by decide) (by decide) ?_
  intro T6 X6 e6
  refine own_go (T' := T6) (f' := (mkF m 66 #[.val (.int p0), .val (.int p1), .val (.int p2), .val (.long q3), .second, .val (.long q4), .second, .val (.long q5), .second, .val (.int va), .val (.int vb), .val (.int vc), .val (.ref b1), .val (.long (own_gz vc (own_set (own_set (own_set (fun _ => (0 : Int64)) 31 q5) vb.toInt.toNat q4) va.toInt.toNat q3) vc.toInt.toNat)), .second, .unset, .unset] [(.int va), (.ref b1)])) (fun t kt => ?_) ?_
  · show Steps p.tables e below (T6.setTop (mkF m 60 #[.val (.int p0), .val (.int p1), .val (.int p2), .val (.long q3), .second, .val (.long q4), .second, .val (.long q5), .second, .val (.int va), .val (.int vb), .val (.int vc), .val (.ref b1), .unset, .unset, .unset, .unset] [(.long (own_gz vc (own_set (own_set (own_set (fun _ => (0 : Int64)) 31 q5) vb.toInt.toNat q4) va.toInt.toNat q3) vc.toInt.toNat))])) t
    refine XS.lstore X6.here hx rfl (hb hby at_60) rfl (l' := #[.val (.int p0), .val (.int p1), .val (.int p2), .val (.long q3), .second, .val (.long q4), .second, .val (.long q5), .second, .val (.int va), .val (.int vb), .val (.int vc), .val (.ref b1), .val (.long (own_gz vc (own_set (own_set (own_set (fun _ => (0 : Int64)) 31 q5) vb.toInt.toNat q4) va.toInt.toNat q3) vc.toInt.toNat)), .second, .unset, .unset]) rfl ?_
    show Steps p.tables e below (T6.setTop (mkF m 62 #[.val (.int p0), .val (.int p1), .val (.int p2), .val (.long q3), .second, .val (.long q4), .second, .val (.long q5), .second, .val (.int va), .val (.int vb), .val (.int vc), .val (.ref b1), .val (.long (own_gz vc (own_set (own_set (own_set (fun _ => (0 : Int64)) 31 q5) vb.toInt.toNat q4) va.toInt.toNat q3) vc.toInt.toNat)), .second, .unset, .unset] [])) t
    refine XS.aload X6.here hx rfl (hb hby at_62) rfl rfl ?_
    show Steps p.tables e below (T6.setTop (mkF m 64 #[.val (.int p0), .val (.int p1), .val (.int p2), .val (.long q3), .second, .val (.long q4), .second, .val (.long q5), .second, .val (.int va), .val (.int vb), .val (.int vc), .val (.ref b1), .val (.long (own_gz vc (own_set (own_set (own_set (fun _ => (0 : Int64)) 31 q5) vb.toInt.toNat q4) va.toInt.toNat q3) vc.toInt.toNat)), .second, .unset, .unset] [(.ref b1)])) t
    refine XS.iload X6.here hx rfl (hb hby at_64) rfl ?_
    show Steps p.tables e below (T6.setTop (mkF m 66 #[.val (.int p0), .val (.int p1), .val (.int p2), .val (.long q3), .second, .val (.long q4), .second, .val (.long q5), .second, .val (.int va), .val (.int vb), .val (.int vc), .val (.ref b1), .val (.long (own_gz vc (own_set (own_set (own_set (fun _ => (0 : Int64)) 31 q5) vb.toInt.toNat q4) va.toInt.toNat q3) vc.toInt.toNat)), .second, .unset, .unset] [(.int va), (.ref b1)])) t
    exact kt
  refine own_callVp X6 hx hZ hown e6 (hw _ (List.mem_of_getElem? (i := 20) rfl)) (hw _ (List.mem_of_getElem? (i := 21) rfl)) (notFace_of_selects (args := #[]) (mvT hZ (hw _ (List.mem_of_getElem? (i := 23) rfl)))) (hw _ (List.mem_of_getElem? (i := 23) rfl)) (hw _ (List.mem_of_getElem? (i := 22) rfl)) (hw _ (List.mem_of_getElem? (i := 2) rfl)) (hw _ (List.mem_of_getElem? (i := 24) rfl)) (by decide) (rm5 l Z aw hw b1 va r2 (own_set (own_set (own_set (fun _ => (0 : Int64)) 31 q5) vb.toInt.toNat q4) va.toInt.toNat q3) va.toInt.toNat T5.heap n0 ZKq5 F_r2 Pq5_0 (own_ix hva).1 (own_ix hva).2) Pq2_0 (g := (mkF m 66 #[.val (.int p0), .val (.int p1), .val (.int p2), .val (.long q3), .second, .val (.long q4), .second, .val (.long q5), .second, .val (.int va), .val (.int vb), .val (.int vc), .val (.ref b1), .val (.long (own_gz vc (own_set (own_set (own_set (fun _ => (0 : Int64)) 31 q5) vb.toInt.toNat q4) va.toInt.toNat q3) vc.toInt.toNat)), .second, .unset, .unset] [(.int va), (.ref b1)])) rfl (by rw [hml]; rfl) (argsL := [(.int va)]) (rest := []) (lenOf pd_3 rfl) rfl rfl (W := 0) (by show 2 * 0 + _ ≤ _; exact Nat.le_of_eq rfl) (hb hby at_66) (by decide) (by decide) (by decide) (by decide) ?_
  intro T7 X7 e7
  refine own_go (T' := T7) (f' := (mkF m 82 #[.val (.int p0), .val (.int p1), .val (.int p2), .val (.long q3), .second, .val (.long q4), .second, .val (.long q5), .second, .val (.int va), .val (.int vb), .val (.int vc), .val (.ref b1), .val (.long (own_gz vc (own_set (own_set (own_set (fun _ => (0 : Int64)) 31 q5) vb.toInt.toNat q4) va.toInt.toNat q3) vc.toInt.toNat)), .second, .val (.long (own_gz va (own_set (own_set (own_set (fun _ => (0 : Int64)) 31 q5) vb.toInt.toNat q4) va.toInt.toNat q3) va.toInt.toNat)), .second] [(.long q4), (.long q3), (.int vb), (.int va), (.int vc), (.long (own_gz vc (own_set (own_set (own_set (fun _ => (0 : Int64)) 31 q5) vb.toInt.toNat q4) va.toInt.toNat q3) vc.toInt.toNat))])) (fun t kt => ?_) ?_
  · show Steps p.tables e below (T7.setTop (mkF m 69 #[.val (.int p0), .val (.int p1), .val (.int p2), .val (.long q3), .second, .val (.long q4), .second, .val (.long q5), .second, .val (.int va), .val (.int vb), .val (.int vc), .val (.ref b1), .val (.long (own_gz vc (own_set (own_set (own_set (fun _ => (0 : Int64)) 31 q5) vb.toInt.toNat q4) va.toInt.toNat q3) vc.toInt.toNat)), .second, .unset, .unset] [(.long (own_gz va (own_set (own_set (own_set (fun _ => (0 : Int64)) 31 q5) vb.toInt.toNat q4) va.toInt.toNat q3) va.toInt.toNat))])) t
    refine XS.lstore X7.here hx rfl (hb hby at_69) rfl (l' := #[.val (.int p0), .val (.int p1), .val (.int p2), .val (.long q3), .second, .val (.long q4), .second, .val (.long q5), .second, .val (.int va), .val (.int vb), .val (.int vc), .val (.ref b1), .val (.long (own_gz vc (own_set (own_set (own_set (fun _ => (0 : Int64)) 31 q5) vb.toInt.toNat q4) va.toInt.toNat q3) vc.toInt.toNat)), .second, .val (.long (own_gz va (own_set (own_set (own_set (fun _ => (0 : Int64)) 31 q5) vb.toInt.toNat q4) va.toInt.toNat q3) va.toInt.toNat)), .second]) rfl ?_
    show Steps p.tables e below (T7.setTop (mkF m 71 #[.val (.int p0), .val (.int p1), .val (.int p2), .val (.long q3), .second, .val (.long q4), .second, .val (.long q5), .second, .val (.int va), .val (.int vb), .val (.int vc), .val (.ref b1), .val (.long (own_gz vc (own_set (own_set (own_set (fun _ => (0 : Int64)) 31 q5) vb.toInt.toNat q4) va.toInt.toNat q3) vc.toInt.toNat)), .second, .val (.long (own_gz va (own_set (own_set (own_set (fun _ => (0 : Int64)) 31 q5) vb.toInt.toNat q4) va.toInt.toNat q3) va.toInt.toNat)), .second] [])) t
    refine XS.lload X7.here hx rfl (hb hby at_71) rfl ?_
    show Steps p.tables e below (T7.setTop (mkF m 73 #[.val (.int p0), .val (.int p1), .val (.int p2), .val (.long q3), .second, .val (.long q4), .second, .val (.long q5), .second, .val (.int va), .val (.int vb), .val (.int vc), .val (.ref b1), .val (.long (own_gz vc (own_set (own_set (own_set (fun _ => (0 : Int64)) 31 q5) vb.toInt.toNat q4) va.toInt.toNat q3) vc.toInt.toNat)), .second, .val (.long (own_gz va (own_set (own_set (own_set (fun _ => (0 : Int64)) 31 q5) vb.toInt.toNat q4) va.toInt.toNat q3) va.toInt.toNat)), .second] [(.long (own_gz vc (own_set (own_set (own_set (fun _ => (0 : Int64)) 31 q5) vb.toInt.toNat q4) va.toInt.toNat q3) vc.toInt.toNat))])) t
    refine XS.iload X7.here hx rfl (hb hby at_73) rfl ?_
    show Steps p.tables e below (T7.setTop (mkF m 75 #[.val (.int p0), .val (.int p1), .val (.int p2), .val (.long q3), .second, .val (.long q4), .second, .val (.long q5), .second, .val (.int va), .val (.int vb), .val (.int vc), .val (.ref b1), .val (.long (own_gz vc (own_set (own_set (own_set (fun _ => (0 : Int64)) 31 q5) vb.toInt.toNat q4) va.toInt.toNat q3) vc.toInt.toNat)), .second, .val (.long (own_gz va (own_set (own_set (own_set (fun _ => (0 : Int64)) 31 q5) vb.toInt.toNat q4) va.toInt.toNat q3) va.toInt.toNat)), .second] [(.int vc), (.long (own_gz vc (own_set (own_set (own_set (fun _ => (0 : Int64)) 31 q5) vb.toInt.toNat q4) va.toInt.toNat q3) vc.toInt.toNat))])) t
    refine XS.iload X7.here hx rfl (hb hby at_75) rfl ?_
    show Steps p.tables e below (T7.setTop (mkF m 77 #[.val (.int p0), .val (.int p1), .val (.int p2), .val (.long q3), .second, .val (.long q4), .second, .val (.long q5), .second, .val (.int va), .val (.int vb), .val (.int vc), .val (.ref b1), .val (.long (own_gz vc (own_set (own_set (own_set (fun _ => (0 : Int64)) 31 q5) vb.toInt.toNat q4) va.toInt.toNat q3) vc.toInt.toNat)), .second, .val (.long (own_gz va (own_set (own_set (own_set (fun _ => (0 : Int64)) 31 q5) vb.toInt.toNat q4) va.toInt.toNat q3) va.toInt.toNat)), .second] [(.int va), (.int vc), (.long (own_gz vc (own_set (own_set (own_set (fun _ => (0 : Int64)) 31 q5) vb.toInt.toNat q4) va.toInt.toNat q3) vc.toInt.toNat))])) t
    refine XS.iload X7.here hx rfl (hb hby at_77) rfl ?_
    show Steps p.tables e below (T7.setTop (mkF m 79 #[.val (.int p0), .val (.int p1), .val (.int p2), .val (.long q3), .second, .val (.long q4), .second, .val (.long q5), .second, .val (.int va), .val (.int vb), .val (.int vc), .val (.ref b1), .val (.long (own_gz vc (own_set (own_set (own_set (fun _ => (0 : Int64)) 31 q5) vb.toInt.toNat q4) va.toInt.toNat q3) vc.toInt.toNat)), .second, .val (.long (own_gz va (own_set (own_set (own_set (fun _ => (0 : Int64)) 31 q5) vb.toInt.toNat q4) va.toInt.toNat q3) va.toInt.toNat)), .second] [(.int vb), (.int va), (.int vc), (.long (own_gz vc (own_set (own_set (own_set (fun _ => (0 : Int64)) 31 q5) vb.toInt.toNat q4) va.toInt.toNat q3) vc.toInt.toNat))])) t
    refine XS.lloadN X7.here hx rfl (hb hby at_79) rfl ?_
    show Steps p.tables e below (T7.setTop (mkF m 80 #[.val (.int p0), .val (.int p1), .val (.int p2), .val (.long q3), .second, .val (.long q4), .second, .val (.long q5), .second, .val (.int va), .val (.int vb), .val (.int vc), .val (.ref b1), .val (.long (own_gz vc (own_set (own_set (own_set (fun _ => (0 : Int64)) 31 q5) vb.toInt.toNat q4) va.toInt.toNat q3) vc.toInt.toNat)), .second, .val (.long (own_gz va (own_set (own_set (own_set (fun _ => (0 : Int64)) 31 q5) vb.toInt.toNat q4) va.toInt.toNat q3) va.toInt.toNat)), .second] [(.long q3), (.int vb), (.int va), (.int vc), (.long (own_gz vc (own_set (own_set (own_set (fun _ => (0 : Int64)) 31 q5) vb.toInt.toNat q4) va.toInt.toNat q3) vc.toInt.toNat))])) t
    refine XS.lload X7.here hx rfl (hb hby at_80) rfl ?_
    show Steps p.tables e below (T7.setTop (mkF m 82 #[.val (.int p0), .val (.int p1), .val (.int p2), .val (.long q3), .second, .val (.long q4), .second, .val (.long q5), .second, .val (.int va), .val (.int vb), .val (.int vc), .val (.ref b1), .val (.long (own_gz vc (own_set (own_set (own_set (fun _ => (0 : Int64)) 31 q5) vb.toInt.toNat q4) va.toInt.toNat q3) vc.toInt.toNat)), .second, .val (.long (own_gz va (own_set (own_set (own_set (fun _ => (0 : Int64)) 31 q5) vb.toInt.toNat q4) va.toInt.toNat q3) va.toInt.toNat)), .second] [(.long q4), (.long q3), (.int vb), (.int va), (.int vc), (.long (own_gz vc (own_set (own_set (own_set (fun _ => (0 : Int64)) 31 q5) vb.toInt.toNat q4) va.toInt.toNat q3) vc.toInt.toNat))])) t
    exact kt
  refine own_callSp X7 hx hZ hown e7 (hw _ (List.mem_of_getElem? (i := 25) rfl)) (hw _ (List.mem_of_getElem? (i := 26) rfl)) (hw _ (List.mem_of_getElem? (i := 27) rfl)) (hw _ (List.mem_of_getElem? (i := 28) rfl)) (by decide) (rm6 l Z aw hw vc va vb q3 q4 T5.heap n0 ZKq5) (g := (mkF m 82 #[.val (.int p0), .val (.int p1), .val (.int p2), .val (.long q3), .second, .val (.long q4), .second, .val (.long q5), .second, .val (.int va), .val (.int vb), .val (.int vc), .val (.ref b1), .val (.long (own_gz vc (own_set (own_set (own_set (fun _ => (0 : Int64)) 31 q5) vb.toInt.toNat q4) va.toInt.toNat q3) vc.toInt.toNat)), .second, .val (.long (own_gz va (own_set (own_set (own_set (fun _ => (0 : Int64)) 31 q5) vb.toInt.toNat q4) va.toInt.toNat q3) va.toInt.toNat)), .second] [(.long q4), (.long q3), (.int vb), (.int va), (.int vc), (.long (own_gz vc (own_set (own_set (own_set (fun _ => (0 : Int64)) 31 q5) vb.toInt.toNat q4) va.toInt.toNat q3) vc.toInt.toNat))])) rfl (by rw [hml]; rfl) (argsL := [(.int vc), (.int va), (.int vb), (.long q3), (.long q4)]) (rest := [(.long (own_gz vc (own_set (own_set (own_set (fun _ => (0 : Int64)) 31 q5) vb.toInt.toNat q4) va.toInt.toNat q3) vc.toInt.toNat))]) (lenOf pd_4 rfl) rfl rfl (W := 2) (by show 2 * 0 + _ ≤ _; exact Nat.le_of_eq rfl) (hb hby at_82) (by decide) (by decide) (by decide) (by decide) ?_
  intro T8 X8 e8
  refine own_go (T' := T8) (f' := (mkF m 100 #[.val (.int p0), .val (.int p1), .val (.int p2), .val (.long q3), .second, .val (.long q4), .second, .val (.long q5), .second, .val (.int va), .val (.int vb), .val (.int vc), .val (.ref b1), .val (.long (own_gz vc (own_set (own_set (own_set (fun _ => (0 : Int64)) 31 q5) vb.toInt.toNat q4) va.toInt.toNat q3) vc.toInt.toNat)), .second, .val (.long (own_gz va (own_set (own_set (own_set (fun _ => (0 : Int64)) 31 q5) vb.toInt.toNat q4) va.toInt.toNat q3) va.toInt.toNat)), .second] [(.long q4), (.long q3), (.int vb), (.int va), (.int va), (.long (own_gz va (own_set (own_set (own_set (fun _ => (0 : Int64)) 31 q5) vb.toInt.toNat q4) va.toInt.toNat q3) va.toInt.toNat))])) (fun t kt => ?_) ?_
  · show Steps p.tables e below (T8.setTop (mkF m 85 #[.val (.int p0), .val (.int p1), .val (.int p2), .val (.long q3), .second, .val (.long q4), .second, .val (.long q5), .second, .val (.int va), .val (.int vb), .val (.int vc), .val (.ref b1), .val (.long (own_gz vc (own_set (own_set (own_set (fun _ => (0 : Int64)) 31 q5) vb.toInt.toNat q4) va.toInt.toNat q3) vc.toInt.toNat)), .second, .val (.long (own_gz va (own_set (own_set (own_set (fun _ => (0 : Int64)) 31 q5) vb.toInt.toNat q4) va.toInt.toNat q3) va.toInt.toNat)), .second] [(.long (own_ex vc va vb q3 q4)), (.long (own_gz vc (own_set (own_set (own_set (fun _ => (0 : Int64)) 31 q5) vb.toInt.toNat q4) va.toInt.toNat q3) vc.toInt.toNat))])) t
    refine XS.lcmp X8.here hx rfl (hb hby at_85) rfl ?_
    show Steps p.tables e below (T8.setTop (mkF m 86 #[.val (.int p0), .val (.int p1), .val (.int p2), .val (.long q3), .second, .val (.long q4), .second, .val (.long q5), .second, .val (.int va), .val (.int vb), .val (.int vc), .val (.ref b1), .val (.long (own_gz vc (own_set (own_set (own_set (fun _ => (0 : Int64)) 31 q5) vb.toInt.toNat q4) va.toInt.toNat q3) vc.toInt.toNat)), .second, .val (.long (own_gz va (own_set (own_set (own_set (fun _ => (0 : Int64)) 31 q5) vb.toInt.toNat q4) va.toInt.toNat q3) va.toInt.toNat)), .second] [(.int (lcmpW (own_gz vc (own_set (own_set (own_set (fun _ => (0 : Int64)) 31 q5) vb.toInt.toNat q4) va.toInt.toNat q3) vc.toInt.toNat) (own_ex vc va vb q3 q4)))])) t
    refine XS.ifNo X8.here hx rfl (hb hby at_86) rfl (own_lN_ne (show (own_gz vc (own_set (own_set (own_set (fun _ => (0 : Int64)) 31 q5) vb.toInt.toNat q4) va.toInt.toNat q3) vc.toInt.toNat) = (own_ex vc va vb q3 q4) from own_g1 hva hvb hvc)) ?_
    show Steps p.tables e below (T8.setTop (mkF m 89 #[.val (.int p0), .val (.int p1), .val (.int p2), .val (.long q3), .second, .val (.long q4), .second, .val (.long q5), .second, .val (.int va), .val (.int vb), .val (.int vc), .val (.ref b1), .val (.long (own_gz vc (own_set (own_set (own_set (fun _ => (0 : Int64)) 31 q5) vb.toInt.toNat q4) va.toInt.toNat q3) vc.toInt.toNat)), .second, .val (.long (own_gz va (own_set (own_set (own_set (fun _ => (0 : Int64)) 31 q5) vb.toInt.toNat q4) va.toInt.toNat q3) va.toInt.toNat)), .second] [])) t
    refine XS.lload X8.here hx rfl (hb hby at_89) rfl ?_
    show Steps p.tables e below (T8.setTop (mkF m 91 #[.val (.int p0), .val (.int p1), .val (.int p2), .val (.long q3), .second, .val (.long q4), .second, .val (.long q5), .second, .val (.int va), .val (.int vb), .val (.int vc), .val (.ref b1), .val (.long (own_gz vc (own_set (own_set (own_set (fun _ => (0 : Int64)) 31 q5) vb.toInt.toNat q4) va.toInt.toNat q3) vc.toInt.toNat)), .second, .val (.long (own_gz va (own_set (own_set (own_set (fun _ => (0 : Int64)) 31 q5) vb.toInt.toNat q4) va.toInt.toNat q3) va.toInt.toNat)), .second] [(.long (own_gz va (own_set (own_set (own_set (fun _ => (0 : Int64)) 31 q5) vb.toInt.toNat q4) va.toInt.toNat q3) va.toInt.toNat))])) t
    refine XS.iload X8.here hx rfl (hb hby at_91) rfl ?_
    show Steps p.tables e below (T8.setTop (mkF m 93 #[.val (.int p0), .val (.int p1), .val (.int p2), .val (.long q3), .second, .val (.long q4), .second, .val (.long q5), .second, .val (.int va), .val (.int vb), .val (.int vc), .val (.ref b1), .val (.long (own_gz vc (own_set (own_set (own_set (fun _ => (0 : Int64)) 31 q5) vb.toInt.toNat q4) va.toInt.toNat q3) vc.toInt.toNat)), .second, .val (.long (own_gz va (own_set (own_set (own_set (fun _ => (0 : Int64)) 31 q5) vb.toInt.toNat q4) va.toInt.toNat q3) va.toInt.toNat)), .second] [(.int va), (.long (own_gz va (own_set (own_set (own_set (fun _ => (0 : Int64)) 31 q5) vb.toInt.toNat q4) va.toInt.toNat q3) va.toInt.toNat))])) t
    refine XS.iload X8.here hx rfl (hb hby at_93) rfl ?_
    show Steps p.tables e below (T8.setTop (mkF m 95 #[.val (.int p0), .val (.int p1), .val (.int p2), .val (.long q3), .second, .val (.long q4), .second, .val (.long q5), .second, .val (.int va), .val (.int vb), .val (.int vc), .val (.ref b1), .val (.long (own_gz vc (own_set (own_set (own_set (fun _ => (0 : Int64)) 31 q5) vb.toInt.toNat q4) va.toInt.toNat q3) vc.toInt.toNat)), .second, .val (.long (own_gz va (own_set (own_set (own_set (fun _ => (0 : Int64)) 31 q5) vb.toInt.toNat q4) va.toInt.toNat q3) va.toInt.toNat)), .second] [(.int va), (.int va), (.long (own_gz va (own_set (own_set (own_set (fun _ => (0 : Int64)) 31 q5) vb.toInt.toNat q4) va.toInt.toNat q3) va.toInt.toNat))])) t
    refine XS.iload X8.here hx rfl (hb hby at_95) rfl ?_
    show Steps p.tables e below (T8.setTop (mkF m 97 #[.val (.int p0), .val (.int p1), .val (.int p2), .val (.long q3), .second, .val (.long q4), .second, .val (.long q5), .second, .val (.int va), .val (.int vb), .val (.int vc), .val (.ref b1), .val (.long (own_gz vc (own_set (own_set (own_set (fun _ => (0 : Int64)) 31 q5) vb.toInt.toNat q4) va.toInt.toNat q3) vc.toInt.toNat)), .second, .val (.long (own_gz va (own_set (own_set (own_set (fun _ => (0 : Int64)) 31 q5) vb.toInt.toNat q4) va.toInt.toNat q3) va.toInt.toNat)), .second] [(.int vb), (.int va), (.int va), (.long (own_gz va (own_set (own_set (own_set (fun _ => (0 : Int64)) 31 q5) vb.toInt.toNat q4) va.toInt.toNat q3) va.toInt.toNat))])) t
    refine XS.lloadN X8.here hx rfl (hb hby at_97) rfl ?_
    show Steps p.tables e below (T8.setTop (mkF m 98 #[.val (.int p0), .val (.int p1), .val (.int p2), .val (.long q3), .second, .val (.long q4), .second, .val (.long q5), .second, .val (.int va), .val (.int vb), .val (.int vc), .val (.ref b1), .val (.long (own_gz vc (own_set (own_set (own_set (fun _ => (0 : Int64)) 31 q5) vb.toInt.toNat q4) va.toInt.toNat q3) vc.toInt.toNat)), .second, .val (.long (own_gz va (own_set (own_set (own_set (fun _ => (0 : Int64)) 31 q5) vb.toInt.toNat q4) va.toInt.toNat q3) va.toInt.toNat)), .second] [(.long q3), (.int vb), (.int va), (.int va), (.long (own_gz va (own_set (own_set (own_set (fun _ => (0 : Int64)) 31 q5) vb.toInt.toNat q4) va.toInt.toNat q3) va.toInt.toNat))])) t
    refine XS.lload X8.here hx rfl (hb hby at_98) rfl ?_
    show Steps p.tables e below (T8.setTop (mkF m 100 #[.val (.int p0), .val (.int p1), .val (.int p2), .val (.long q3), .second, .val (.long q4), .second, .val (.long q5), .second, .val (.int va), .val (.int vb), .val (.int vc), .val (.ref b1), .val (.long (own_gz vc (own_set (own_set (own_set (fun _ => (0 : Int64)) 31 q5) vb.toInt.toNat q4) va.toInt.toNat q3) vc.toInt.toNat)), .second, .val (.long (own_gz va (own_set (own_set (own_set (fun _ => (0 : Int64)) 31 q5) vb.toInt.toNat q4) va.toInt.toNat q3) va.toInt.toNat)), .second] [(.long q4), (.long q3), (.int vb), (.int va), (.int va), (.long (own_gz va (own_set (own_set (own_set (fun _ => (0 : Int64)) 31 q5) vb.toInt.toNat q4) va.toInt.toNat q3) va.toInt.toNat))])) t
    exact kt
  refine own_callSp X8 hx hZ hown e8 (hw _ (List.mem_of_getElem? (i := 25) rfl)) (hw _ (List.mem_of_getElem? (i := 26) rfl)) (hw _ (List.mem_of_getElem? (i := 27) rfl)) (hw _ (List.mem_of_getElem? (i := 28) rfl)) (by decide) (rm6 l Z aw hw va va vb q3 q4 T5.heap n0 ZKq5) (g := (mkF m 100 #[.val (.int p0), .val (.int p1), .val (.int p2), .val (.long q3), .second, .val (.long q4), .second, .val (.long q5), .second, .val (.int va), .val (.int vb), .val (.int vc), .val (.ref b1), .val (.long (own_gz vc (own_set (own_set (own_set (fun _ => (0 : Int64)) 31 q5) vb.toInt.toNat q4) va.toInt.toNat q3) vc.toInt.toNat)), .second, .val (.long (own_gz va (own_set (own_set (own_set (fun _ => (0 : Int64)) 31 q5) vb.toInt.toNat q4) va.toInt.toNat q3) va.toInt.toNat)), .second] [(.long q4), (.long q3), (.int vb), (.int va), (.int va), (.long (own_gz va (own_set (own_set (own_set (fun _ => (0 : Int64)) 31 q5) vb.toInt.toNat q4) va.toInt.toNat q3) va.toInt.toNat))])) rfl (by rw [hml]; rfl) (argsL := [(.int va), (.int va), (.int vb), (.long q3), (.long q4)]) (rest := [(.long (own_gz va (own_set (own_set (own_set (fun _ => (0 : Int64)) 31 q5) vb.toInt.toNat q4) va.toInt.toNat q3) va.toInt.toNat))]) (lenOf pd_4 rfl) rfl rfl (W := 2) (by show 2 * 0 + _ ≤ _; exact Nat.le_of_eq rfl) (hb hby at_100) (by decide) (by decide) (by decide) (by decide) ?_
  intro T9 X9 e9
  refine own_go (T' := T9) (f' := (mkF m 112 #[.val (.int p0), .val (.int p1), .val (.int p2), .val (.long q3), .second, .val (.long q4), .second, .val (.long q5), .second, .val (.int va), .val (.int vb), .val (.int vc), .val (.ref b1), .val (.long (own_gz vc (own_set (own_set (own_set (fun _ => (0 : Int64)) 31 q5) vb.toInt.toNat q4) va.toInt.toNat q3) vc.toInt.toNat)), .second, .val (.long (own_gz va (own_set (own_set (own_set (fun _ => (0 : Int64)) 31 q5) vb.toInt.toNat q4) va.toInt.toNat q3) va.toInt.toNat)), .second] [(.int (1 : Int32))])) (fun t kt => ?_) ?_
  · show Steps p.tables e below (T9.setTop (mkF m 103 #[.val (.int p0), .val (.int p1), .val (.int p2), .val (.long q3), .second, .val (.long q4), .second, .val (.long q5), .second, .val (.int va), .val (.int vb), .val (.int vc), .val (.ref b1), .val (.long (own_gz vc (own_set (own_set (own_set (fun _ => (0 : Int64)) 31 q5) vb.toInt.toNat q4) va.toInt.toNat q3) vc.toInt.toNat)), .second, .val (.long (own_gz va (own_set (own_set (own_set (fun _ => (0 : Int64)) 31 q5) vb.toInt.toNat q4) va.toInt.toNat q3) va.toInt.toNat)), .second] [(.long (own_ex va va vb q3 q4)), (.long (own_gz va (own_set (own_set (own_set (fun _ => (0 : Int64)) 31 q5) vb.toInt.toNat q4) va.toInt.toNat q3) va.toInt.toNat))])) t
    refine XS.lcmp X9.here hx rfl (hb hby at_103) rfl ?_
    show Steps p.tables e below (T9.setTop (mkF m 104 #[.val (.int p0), .val (.int p1), .val (.int p2), .val (.long q3), .second, .val (.long q4), .second, .val (.long q5), .second, .val (.int va), .val (.int vb), .val (.int vc), .val (.ref b1), .val (.long (own_gz vc (own_set (own_set (own_set (fun _ => (0 : Int64)) 31 q5) vb.toInt.toNat q4) va.toInt.toNat q3) vc.toInt.toNat)), .second, .val (.long (own_gz va (own_set (own_set (own_set (fun _ => (0 : Int64)) 31 q5) vb.toInt.toNat q4) va.toInt.toNat q3) va.toInt.toNat)), .second] [(.int (lcmpW (own_gz va (own_set (own_set (own_set (fun _ => (0 : Int64)) 31 q5) vb.toInt.toNat q4) va.toInt.toNat q3) va.toInt.toNat) (own_ex va va vb q3 q4)))])) t
    refine XS.ifNo X9.here hx rfl (hb hby at_104) rfl (own_lN_ne (show (own_gz va (own_set (own_set (own_set (fun _ => (0 : Int64)) 31 q5) vb.toInt.toNat q4) va.toInt.toNat q3) va.toInt.toNat) = (own_ex va va vb q3 q4) from own_g2 hva hvb)) ?_
    show Steps p.tables e below (T9.setTop (mkF m 107 #[.val (.int p0), .val (.int p1), .val (.int p2), .val (.long q3), .second, .val (.long q4), .second, .val (.long q5), .second, .val (.int va), .val (.int vb), .val (.int vc), .val (.ref b1), .val (.long (own_gz vc (own_set (own_set (own_set (fun _ => (0 : Int64)) 31 q5) vb.toInt.toNat q4) va.toInt.toNat q3) vc.toInt.toNat)), .second, .val (.long (own_gz va (own_set (own_set (own_set (fun _ => (0 : Int64)) 31 q5) vb.toInt.toNat q4) va.toInt.toNat q3) va.toInt.toNat)), .second] [])) t
    refine XS.iconst X9.here hx rfl (hb hby at_107) ?_
    show Steps p.tables e below (T9.setTop (mkF m 108 #[.val (.int p0), .val (.int p1), .val (.int p2), .val (.long q3), .second, .val (.long q4), .second, .val (.long q5), .second, .val (.int va), .val (.int vb), .val (.int vc), .val (.ref b1), .val (.long (own_gz vc (own_set (own_set (own_set (fun _ => (0 : Int64)) 31 q5) vb.toInt.toNat q4) va.toInt.toNat q3) vc.toInt.toNat)), .second, .val (.long (own_gz va (own_set (own_set (own_set (fun _ => (0 : Int64)) 31 q5) vb.toInt.toNat q4) va.toInt.toNat q3) va.toInt.toNat)), .second] [(.int (1 : Int32))])) t
    refine XS.goto X9.here hx rfl (pc0 := 108) (pc' := 112) rfl (hb hby at_108) (by decide) (by decide) ?_
    show Steps p.tables e below (T9.setTop (mkF m 112 #[.val (.int p0), .val (.int p1), .val (.int p2), .val (.long q3), .second, .val (.long q4), .second, .val (.long q5), .second, .val (.int va), .val (.int vb), .val (.int vc), .val (.ref b1), .val (.long (own_gz vc (own_set (own_set (own_set (fun _ => (0 : Int64)) 31 q5) vb.toInt.toNat q4) va.toInt.toNat q3) vc.toInt.toNat)), .second, .val (.long (own_gz va (own_set (own_set (own_set (fun _ => (0 : Int64)) 31 q5) vb.toInt.toNat q4) va.toInt.toNat q3) va.toInt.toNat)), .second] [(.int (1 : Int32))])) t
    exact kt
  exact own_retN X9 hP hx hlk e9 (t := .boolean) hret (by simp) (hb hby at_112) (by decide) (by decide) (z' := (1 : Int32)) rfl ⟨rfl, N5⟩
set_option maxRecDepth 65536 in
set_option maxHeartbeats 40000000 in
theorem comes_1 {Post : Tables → Env → Array Value → State → Outcome → State → Prop} (hpost : ∀ tb e args s v u, (limb_1_1.after args s (.returned v) u = true ∧ limb_1_2.after args s (.returned v) u = true ∧ True) → FrameEnd s (.returned v) u (Jvm.fieldLocs frame_1_writes args s ++ Jvm.arrayLocs frame_1_arrays args s ++ Jvm.staticLocs frame_1_statics s) 16 192 → Post tb e args s (.returned v) u) :
    ArmFor flags0 classFile x code maxLocals ret World_1 tables_1 room_1 Calls_1 rest_1 Pre_1 Post := by
  intro l hfl _ _ p e ha hc hk s m args below hf hA hF happ hP
  obtain ⟨hcalls, hrest, hpre⟩ := hP
  obtain ⟨-, -, -, hnamed, -, -, -, hat⟩ := (Spec.applies_iff hf).mp happ
  obtain ⟨hg, hn⟩ := and_e (Cond.before_iff.mp (show (Jvm.Cond.and given_1 narrow_1).before args s = true from hpre))
  obtain ⟨k1, k2⟩ := and_e hg
  obtain ⟨k3, k4⟩ := and_e k2
  obtain ⟨k5, k6⟩ := and_e k4
  obtain ⟨k7, k8⟩ := and_e k6
  obtain ⟨k9, k10⟩ := and_e k8
  obtain ⟨k11, k12⟩ := and_e k10
  obtain ⟨w0, w1, w2, w3, w4, w5, rfl⟩ : ∃ w0 w1 w2 w3 w4 w5 : Value, args = #[w0, w1, w2, w3, w4, w5] := by
    have hs : args.size = 6 := by simpa [Cond.value, given_1] using k1
    obtain ⟨L⟩ := args
    match L, hs with
    | [w0, w1, w2, w3, w4, w5], _ => exact ⟨w0, w1, w2, w3, w4, w5, rfl⟩
  have hw := fun d (hd : d ∈ tables_1) => atoms_spec (ws := Jvm.Cond.code x code maxLocals ret :: tables_1) hat d (List.mem_cons_of_mem _ hd)
  obtain ⟨i0, ei0⟩ := is_v k3
  obtain rfl : w0 = (.int i0) := Option.some.inj ei0
  obtain ⟨i1, ei1⟩ := is_v k5
  obtain rfl : w1 = (.int i1) := Option.some.inj ei1
  obtain ⟨i2, ei2⟩ := is_v k7
  obtain rfl : w2 = (.int i2) := Option.some.inj ei2
  obtain ⟨i3, ei3⟩ := isL_v k9
  obtain rfl : w3 = (.long i3) := Option.some.inj ei3
  obtain ⟨i4, ei4⟩ := isL_v k11
  obtain rfl : w4 = (.long i4) := Option.some.inj ei4
  obtain ⟨i5, ei5⟩ := isL_v k12
  obtain rfl : w5 = (.long i5) := Option.some.inj ei5
  obtain ⟨n, o, h1, h2, h3, _, L, rfl, ⟨rfl, N⟩, hq⟩ := rm0 l s _ hw (ws := tables_1) i0 i1 i2 i3 i4 i5 s.heap s.heap.size (Nat.le_refl _)  p e ha hc hk s m _ below hf ((Spec.applies_iff_loose hf).mp happ).1 ⟨rfl, State.Warmed39.refl s, rfl⟩ trivial
  refine ⟨n, _, h1, h2, h3, hpost _ _ _ _ _ _ ⟨Cond.after_iff.mpr rfl, Cond.after_iff.mpr (eq_i res_at (Term.int_eval (1)) rfl), trivial⟩ ⟨hq.1, hq.2.1, (hq.2.2.sift fun y hy => Or.inr (N y hy)).mono (by decide) (by decide)⟩⟩
theorem main_1_1 : Claimed_1_1 := comes_1 fun _ _ _ _ _ _ h hF => ⟨h.1, hF⟩
theorem main_1_2 : Claimed_1_2 := comes_1 fun _ _ _ _ _ _ h hF => ⟨h.2.1, hF⟩
end Jvm.Pilot.@@N@@
namespace Jvm.Pilot.@@N@@
open Jvm Jvm.ClassFile Sem Op Lib Jvm.Free Jvm.Stand Jvm.Pilot.@@N@@.Jvm.D
/-! MADE BY PROGRAM (witnessworld.py) out of the Statement's table words and the real class files: 11 classes; the members and pool entries that the words name. The judged class is class 1, her method 2. -/
namespace start1
open Jvm.ClassFile
def u (s : String) : CpInfo := .utf8 (stringToUtf16 s)
/-- a pool by its gaps: so many unusable entries, then the entry; so many at the end -/
def gap : Nat → List CpInfo → List CpInfo
  | 0, r => r
  | n + 1, r => .unusable :: gap n r
def poolList (es : List (Nat × CpInfo)) (last : Nat) : List CpInfo := es.foldr (fun e r => gap e.1 (e.2 :: r)) (gap last [])
def pool (es : List (Nat × CpInfo)) (last : Nat) : Array CpInfo := ⟨poolList es last⟩
def fileOf (pool : Array CpInfo) (this : Nat) (attrs : Array Attribute := #[]) (ms : Array MethodInfo := #[]) (fl : Nat := 33) (sup : Nat := 0) (ifs : Array Nat := #[]) (fds : Array FieldInfo := #[]) : ClassFile where
  minorVersion := 0
  majorVersion := 65
  constantPool := pool
  accessFlags := fl
  thisClass := this
  superClass := sup
  interfaces := ifs
  fields := fds
  methods := ms
  attributes := attrs
def plain (name : String) (sup : Option ClassId) : Class where
  name := name
  kind := .ordinary
  loader := none
  accessFlags := 33
  super := sup
  interfaces := #[]
  cf := none
  fields := #[]
  methods := #[]
  instanceTypes := #[]
  staticTypes := #[]
  resolved := #[]
  callSites := []
  init := .initialized
  statics := none
  mirror := none

def pool0 : Array CpInfo := pool [(5, u "<init>"), (0, u "()V"), (1, .class_ 10), (1, u "java/lang/Object")] 113

def k0c0 : Code := { maxStack := 0, maxLocals := 1, code := object_method_1_code, exceptionTable := #[], attributes := #[] }
def k0m0 : Method := { name := "<init>", desc := "()V", sig := { parameters := [], returnType := none }, accessFlags := 1, code := some k0c0 }
/-- java/lang/Object -/
def k0 : Class := { plain "java/lang/Object" none with
  accessFlags := 33
  interfaces := #[]
  cf := some (fileOf pool0 8 #[] #[{ accessFlags := 1, nameIndex := 5, descriptorIndex := 6, attributes := #[] }] 33 0 #[] #[])
  fields := #[]
  methods := #[k0m0]
  instanceTypes := #[]
  staticTypes := #[]
  resolved := Array.replicate 124 none
  statics := none }

def pool1 : Array CpInfo := pool [(2, .class_ 4), (0, .nameAndType 5 6), (0, u "java/lang/Object"), (0, u "<init>"), (0, u "()V"), (0, .class_ 8), (0, u "com/example/retag/retag/Registers"), (0, .methodref 7 3), (0, .methodref 7 11), (0, .nameAndType 12 13), (0, u "set"), (0, u "(IJ)V"), (0, .methodref 7 15), (0, .nameAndType 16 17), (0, u "getOrZero"), (0, u "(I)J"), (0, .methodref 19 20), (0, .class_ 21), (0, .nameAndType 22 23), (0, u "com/example/retag/retag/RegistersGetOrZeroPinLaw"), (0, u "expected"), (0, u "(IIIJJ)J"), (3, u "law"), (0, u "(IIIJJJ)Z")] 2

def k1m0 : Method := { name := "<init>", desc := "()V", sig := { parameters := [], returnType := none }, accessFlags := 1, code := none }
def k1c1 : Code := { maxStack := 2, maxLocals := 7, code := method_2_code, exceptionTable := #[], attributes := #[] }
def k1m1 : Method := { name := "expected", desc := "(IIIJJ)J", sig := { parameters := [.int, .int, .int, .long, .long], returnType := some .long }, accessFlags := 10, code := some k1c1 }
def k1c2 : Code := { maxStack := 9, maxLocals := 17, code := code, exceptionTable := #[], attributes := #[] }
def k1m2 : Method := { name := "law", desc := "(IIIJJJ)Z", sig := { parameters := [.int, .int, .int, .long, .long, .long], returnType := some .boolean }, accessFlags := 9, code := some k1c2 }
/-- com/example/retag/retag/RegistersGetOrZeroPinLaw -/
def k1 : Class := { plain "com/example/retag/retag/RegistersGetOrZeroPinLaw" (some 0) with
  accessFlags := 49
  interfaces := #[]
  cf := some (fileOf pool1 19 #[] #[{ accessFlags := 1, nameIndex := 5, descriptorIndex := 6, attributes := #[] }, { accessFlags := 10, nameIndex := 22, descriptorIndex := 23, attributes := #[] }, { accessFlags := 9, nameIndex := 27, descriptorIndex := 28, attributes := #[] }] 49 2 #[] #[])
  fields := #[]
  methods := #[k1m0, k1m1, k1m2]
  instanceTypes := #[]
  staticTypes := #[]
  resolved := Array.replicate 31 none
  statics := none }

def pool2 : Array CpInfo := pool [(1, .class_ 2), (0, u "com/example/retag/retag/Registers"), (0, .methodref 1 4), (0, .nameAndType 5 6), (0, u "<init>"), (0, u "([J)V"), (0, .methodref 8 9), (0, .class_ 10), (0, .nameAndType 5 11), (0, u "java/lang/Object"), (0, u "()V"), (0, .fieldref 1 13), (0, .nameAndType 14 15), (0, u "values"), (0, u "[J"), (2, u "NAMES"), (0, u "[Ljava/lang/String;"), (50, u "SP"), (0, u "I"), (2, u "COUNT"), (6, u "(I)J"), (0, u "getOrZero"), (0, u "set"), (0, u "(IJ)V")] 27

def k2c0 : Code := { maxStack := 2, maxLocals := 1, code := prog_25_method_1_code, exceptionTable := #[], attributes := #[] }
def k2m0 : Method := { name := "<init>", desc := "()V", sig := { parameters := [], returnType := none }, accessFlags := 0, code := some k2c0 }
def k2c1 : Code := { maxStack := 2, maxLocals := 2, code := prog_25_method_2_code, exceptionTable := #[], attributes := #[] }
def k2m1 : Method := { name := "<init>", desc := "([J)V", sig := { parameters := [(.array .long)], returnType := none }, accessFlags := 2, code := some k2c1 }
def k2c2 : Code := { maxStack := 2, maxLocals := 2, code := prog_25_method_8_code, exceptionTable := #[], attributes := #[] }
def k2m2 : Method := { name := "getOrZero", desc := "(I)J", sig := { parameters := [.int], returnType := some .long }, accessFlags := 0, code := some k2c2 }
def k2c3 : Code := { maxStack := 4, maxLocals := 4, code := prog_25_method_9_code, exceptionTable := #[], attributes := #[] }
def k2m3 : Method := { name := "set", desc := "(IJ)V", sig := { parameters := [.int, .long], returnType := none }, accessFlags := 0, code := some k2c3 }
/-- com/example/retag/retag/Registers -/
def k2 : Class := { plain "com/example/retag/retag/Registers" (some 0) with
  accessFlags := 48
  interfaces := #[]
  cf := some (fileOf pool2 1 #[] #[{ accessFlags := 0, nameIndex := 5, descriptorIndex := 11, attributes := #[] }, { accessFlags := 2, nameIndex := 5, descriptorIndex := 6, attributes := #[] }, { accessFlags := 0, nameIndex := 82, descriptorIndex := 81, attributes := #[] }, { accessFlags := 0, nameIndex := 83, descriptorIndex := 84, attributes := #[] }] 48 8 #[] #[{ accessFlags := 24, nameIndex := 70, descriptorIndex := 71, attributes := #[] }, { accessFlags := 26, nameIndex := 74, descriptorIndex := 71, attributes := #[] }, { accessFlags := 26, nameIndex := 18, descriptorIndex := 19, attributes := #[] }, { accessFlags := 18, nameIndex := 14, descriptorIndex := 15, attributes := #[] }])
  fields := #[{ name := "SP", type := .int, accessFlags := 24, slot := 0, constantValue := 0 }, { name := "COUNT", type := .int, accessFlags := 26, slot := 1, constantValue := 0 }, { name := "NAMES", type := (.array (.object "java/lang/String")), accessFlags := 26, slot := 2, constantValue := 0 }, { name := "values", type := (.array .long), accessFlags := 18, slot := 0, constantValue := 0 }]
  methods := #[k2m0, k2m1, k2m2, k2m3]
  instanceTypes := #[(.array .long)]
  staticTypes := #[.int, .int, (.array (.object "java/lang/String"))]
  resolved := Array.replicate 112 none
  statics := none }

def pool3 : Array CpInfo := pool [(1, u "java/lang/Cloneable"), (0, .class_ 1), (0, u "java/lang/Object"), (0, .class_ 3)] 3

/-- java/lang/Cloneable -/
def k3 : Class := { plain "java/lang/Cloneable" (some 0) with
  accessFlags := 1537
  interfaces := #[]
  cf := some (fileOf pool3 2 #[] #[] 1537 4 #[] #[])
  fields := #[]
  methods := #[]
  instanceTypes := #[]
  staticTypes := #[]
  resolved := Array.replicate 8 none
  statics := none }

def pool4 : Array CpInfo := pool [(1, u "java/io/Serializable"), (0, .class_ 1), (0, u "java/lang/Object"), (0, .class_ 3)] 3

/-- java/io/Serializable -/
def k4 : Class := { plain "java/io/Serializable" (some 0) with
  accessFlags := 1537
  interfaces := #[]
  cf := some (fileOf pool4 2 #[] #[] 1537 4 #[] #[])
  fields := #[]
  methods := #[]
  instanceTypes := #[]
  staticTypes := #[]
  resolved := Array.replicate 8 none
  statics := none }

/-- the primitive byte -/
def k5 : Class := { plain "byte" none with kind := .primitive 'B', accessFlags := 0x411 }
/-- [B -/
def k6 : Class := { plain "[B" (some 0) with kind := .array 5 .byte, interfaces := #[3, 4], accessFlags := 1041 }

/-- the primitive int -/
def k7 : Class := { plain "int" none with kind := .primitive 'I', accessFlags := 0x411 }
/-- [I -/
def k8 : Class := { plain "[I" (some 0) with kind := .array 7 .int, interfaces := #[3, 4], accessFlags := 1041 }

/-- the primitive long -/
def k9 : Class := { plain "long" none with kind := .primitive 'J', accessFlags := 0x411 }
/-- [J -/
def k10 : Class := { plain "[J" (some 0) with kind := .array 9 .long, interfaces := #[3, 4], accessFlags := 1041 }

def heap : Heap := #[]
def classes : Array Class := #[k0, k1, k2, k3, k4, k5, k6, k7, k8, k9, k10]
def interned : List (Array UInt16 × Addr) := []
def slotsUsed : Nat := 0
def theMethod : MethodId := ⟨1, 2⟩
def args0 : Array Value := #[.int 5, .int 6, .int 7, .long 8, .long 9, .long 10]
def aboutOver (below : List Frame) : State where
  vm := { classes := classes, interned := interned.toArray }
  heap := heap
  slotsUsed := slotsUsed
  threads := #[{ frames := .invoking theMethod args0 :: below }]
def below0 : List Frame := [.native { method := ⟨0, 0⟩, args := #[] }]
def about1 : State := aboutOver below0
def p0 : Program := .bare "" "" ""
def e0 : Env := launch0.env 0 0 0
theorem w_frames : about1.frames = Frame.invoking theMethod args0 :: below0 := rfl
set_option maxRecDepth 65536 in
theorem w_args : argsFit about1.vm theMethod args0 = true := by decide +kernel
set_option maxRecDepth 65536 in
theorem w_heap : heapFits about1 = true := by decide +kernel
set_option maxRecDepth 65536 in
theorem w_runnable : about1.curStatus? = some .runnable := by decide +kernel
set_option maxRecDepth 65536 in
theorem w_alone : about1.alone = true := by decide +kernel
set_option maxRecDepth 65536 in
theorem w_named : about1.methodNamed? x = some theMethod := by decide +kernel
set_option maxRecDepth 65536 in
theorem w_hears : about1.hears theMethod below0 = true := by decide +kernel
set_option maxRecDepth 65536 in
theorem w_ripe : about1.ripe theMethod args0 below0 = true := by decide +kernel
theorem w_running : about1.status = .running := rfl
set_option maxRecDepth 65536 in
theorem w_room : about1.hasRoom e0.platform room_1 = true :=
  launch0.hasRoom_least _ room_1 (by decide +kernel) (by decide +kernel) (by decide +kernel) (by decide +kernel) (by decide +kernel) (by decide +kernel)
theorem allAtoms_all (ts : List Jvm.Cond) (a : Array Jvm.Value) (st : Jvm.State) : (allAtoms ts).before a st = ts.all (fun c => c.before a st) := by
  induction ts with
  | nil => rfl
  | cons c t ih =>
    show (Jvm.Cond.and c (allAtoms t)).before a st = _
    rw [Jvm.Cond.before_and, ih, List.all_cons]
def words1 : List Jvm.Cond := Jvm.Cond.code x code maxLocals ret :: tables_1
/-- a 'code' word, met by the world's own term for the bytes: nothing is compared byte by byte -/
theorem code_word {y : MethodName} {bytes : ByteArray} {mx : Nat} {rt : Option FieldType} {a : Array Value} {s : State} {m : MethodId} {meth : Method} {c : Code} (h1 : s.methodNamed? y = some m) (h2 : s.vm.method? m = some meth) (h3 : meth.code = some c) (h4 : c.code = bytes)
    (h5 : (c.maxLocals == mx && c.exceptionTable.isEmpty && decide (c.maxStack ≤ mostOperands) && decide (meth.sig.returnType = rt) && !meth.locks && decide (parseMethodDescriptor y.desc = some meth.sig)) = true) : (Jvm.Cond.code y bytes mx rt).before a s = true := by
  simp only [Bool.and_eq_true, beq_iff_eq, Bool.not_eq_true', decide_eq_true_eq] at h5
  obtain ⟨⟨⟨⟨⟨g1, g2⟩, g3⟩, g4⟩, g5⟩, g6⟩ := h5
  simp [Cond.before, Cond.holds, Cond.value, h1, h2, h3, h4, g1, g2, g3, g4, g5, g6]
def isCode : Jvm.Cond → Bool
  | .code _ _ _ _ => true
  | _ => false
theorem all_split {L : List Jvm.Cond} {P : Jvm.Cond → Bool} (h1 : L.all (fun c => isCode c || P c) = true) (h2 : ∀ c ∈ L.filter isCode, P c = true) : L.all P = true := by
  refine List.all_eq_true.mpr fun c hc => ?_
  have h := List.all_eq_true.mp h1 c hc
  rcases Bool.eq_false_or_eq_true (isCode c) with hi | hi
  · exact h2 c (List.mem_filter.mpr ⟨hc, hi⟩)
  · simpa [hi] using h
set_option maxRecDepth 65536 in
theorem w_c0 : (Jvm.Cond.code x code maxLocals ret).before args0 about1 = true := code_word (m := ⟨1, 2⟩) (meth := k1m2) (c := k1c2) (by decide +kernel) rfl rfl rfl (by decide +kernel)
set_option maxRecDepth 65536 in
theorem w_c1 : (Jvm.Cond.code ({ cls := "com/example/retag/retag/Registers", name := "<init>", desc := "()V" } : Jvm.MethodName) prog_25_method_1_code (1 : Nat) (Option.none : Option Jvm.ClassFile.FieldType)).before args0 about1 = true := code_word (m := ⟨2, 0⟩) (meth := k2m0) (c := k2c0) (by decide +kernel) rfl rfl rfl (by decide +kernel)
set_option maxRecDepth 65536 in
theorem w_c2 : (Jvm.Cond.code ({ cls := "com/example/retag/retag/Registers", name := "<init>", desc := "([J)V" } : Jvm.MethodName) prog_25_method_2_code (2 : Nat) (Option.none : Option Jvm.ClassFile.FieldType)).before args0 about1 = true := code_word (m := ⟨2, 1⟩) (meth := k2m1) (c := k2c1) (by decide +kernel) rfl rfl rfl (by decide +kernel)
set_option maxRecDepth 65536 in
theorem w_c3 : (Jvm.Cond.code ({ cls := "java/lang/Object", name := "<init>", desc := "()V" } : Jvm.MethodName) object_method_1_code (1 : Nat) (Option.none : Option Jvm.ClassFile.FieldType)).before args0 about1 = true := code_word (m := ⟨0, 0⟩) (meth := k0m0) (c := k0c0) (by decide +kernel) rfl rfl rfl (by decide +kernel)
set_option maxRecDepth 65536 in
theorem w_c4 : (Jvm.Cond.code ({ cls := "com/example/retag/retag/Registers", name := "set", desc := "(IJ)V" } : Jvm.MethodName) prog_25_method_9_code (4 : Nat) (Option.none : Option Jvm.ClassFile.FieldType)).before args0 about1 = true := code_word (m := ⟨2, 3⟩) (meth := k2m3) (c := k2c3) (by decide +kernel) rfl rfl rfl (by decide +kernel)
set_option maxRecDepth 65536 in
theorem w_c5 : (Jvm.Cond.code ({ cls := "com/example/retag/retag/Registers", name := "getOrZero", desc := "(I)J" } : Jvm.MethodName) prog_25_method_8_code (2 : Nat) (Option.some Jvm.ClassFile.FieldType.long)).before args0 about1 = true := code_word (m := ⟨2, 2⟩) (meth := k2m2) (c := k2c2) (by decide +kernel) rfl rfl rfl (by decide +kernel)
set_option maxRecDepth 65536 in
theorem w_c6 : (Jvm.Cond.code ({ cls := "com/example/retag/retag/RegistersGetOrZeroPinLaw", name := "expected", desc := "(IIIJJ)J" } : Jvm.MethodName) method_2_code (7 : Nat) (Option.some Jvm.ClassFile.FieldType.long)).before args0 about1 = true := code_word (m := ⟨1, 1⟩) (meth := k1m1) (c := k1c1) (by decide +kernel) rfl rfl rfl (by decide +kernel)
def codes1 : List Jvm.Cond := [Jvm.Cond.code x code maxLocals ret, Jvm.Cond.code ({ cls := "com/example/retag/retag/Registers", name := "<init>", desc := "()V" } : Jvm.MethodName) prog_25_method_1_code (1 : Nat) (Option.none : Option Jvm.ClassFile.FieldType), Jvm.Cond.code ({ cls := "com/example/retag/retag/Registers", name := "<init>", desc := "([J)V" } : Jvm.MethodName) prog_25_method_2_code (2 : Nat) (Option.none : Option Jvm.ClassFile.FieldType), Jvm.Cond.code ({ cls := "java/lang/Object", name := "<init>", desc := "()V" } : Jvm.MethodName) object_method_1_code (1 : Nat) (Option.none : Option Jvm.ClassFile.FieldType), Jvm.Cond.code ({ cls := "com/example/retag/retag/Registers", name := "set", desc := "(IJ)V" } : Jvm.MethodName) prog_25_method_9_code (4 : Nat) (Option.none : Option Jvm.ClassFile.FieldType), Jvm.Cond.code ({ cls := "com/example/retag/retag/Registers", name := "getOrZero", desc := "(I)J" } : Jvm.MethodName) prog_25_method_8_code (2 : Nat) (Option.some Jvm.ClassFile.FieldType.long), Jvm.Cond.code ({ cls := "com/example/retag/retag/RegistersGetOrZeroPinLaw", name := "expected", desc := "(IIIJJ)J" } : Jvm.MethodName) method_2_code (7 : Nat) (Option.some Jvm.ClassFile.FieldType.long)]
set_option maxRecDepth 65536 in
theorem codes_eq : words1.filter isCode = codes1 := rfl
theorem w_codes : ∀ c ∈ words1.filter isCode, c.before args0 about1 = true := by
  rw [codes_eq]
  intro c hc
  simp only [codes1, List.mem_cons, List.not_mem_nil, or_false] at hc
  rcases hc with rfl | rfl | rfl | rfl | rfl | rfl | rfl
  · exact w_c0
  · exact w_c1
  · exact w_c2
  · exact w_c3
  · exact w_c4
  · exact w_c5
  · exact w_c6
set_option maxRecDepth 65536 in
theorem w_t1 : (words1.take 24).all (fun c => isCode c || c.before args0 about1) = true := by decide +kernel
set_option maxRecDepth 65536 in
theorem w_t2 : (words1.drop 24).all (fun c => isCode c || c.before args0 about1) = true := by decide +kernel
theorem w_tables : (allAtoms (Jvm.Cond.code x code maxLocals ret :: tables_1)).before args0 about1 = true := by
  rw [allAtoms_all]
  show words1.all (fun c => c.before args0 about1) = true
  refine all_split ?_ w_codes
  rw [← List.take_append_drop 24 words1, List.all_append, w_t1, w_t2]
  rfl
set_option maxRecDepth 65536 in
theorem w_case : (Jvm.Cond.and given_1 narrow_1).before args0 about1 = true := by decide +kernel
theorem w_applies : (headSpec (Jvm.Cond.code x code maxLocals ret :: tables_1) room_1).applies x e0.platform about1 = true :=
  (Spec.applies_iff w_frames).mpr ⟨w_running, w_runnable, w_alone, w_named, w_hears, w_ripe, w_room, w_tables⟩
theorem atStart : AtStart classFile x code maxLocals ret World_1 tables_1 room_1 Calls_1 rest_1 Pre_1 launch0 p0 e0 about1 theMethod args0 below0 :=
  ⟨lists_1, trivial, launch0.admits_env _ _ _, launch0.least_env, fairChoices_fair.cas, fairChoices_fair.clock, w_frames, w_args, w_heap, w_applies, trivial, trivial, w_case⟩
end start1
theorem witness_1 : WitnessClaimed_1 := ⟨start1.p0, start1.e0, start1.about1, start1.theMethod, start1.args0, start1.below0, start1.atStart⟩
end Jvm.Pilot.@@N@@
