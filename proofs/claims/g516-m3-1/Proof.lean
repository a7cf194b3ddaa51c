import JvmDerived
import JvmDerived.Pilot.@@N@@Statement
import JvmDerived.Pilot.@@N@@Code
set_option linter.unusedVariables false
set_option linter.unusedSimpArgs false
namespace Jvm.RoadKit
open Sem ClassFile Op Lib Jvm.Stand Jvm.Free Jvm.LawKit
section Own
variable {p : Program} {l : Launch} {e : Env} {R : Room} {s : State} {m : MethodId} {args : Array Value} {below : List Frame} {meth : Method} {c : Code} {T T' : State} {locs : List Loc} {cells slots : Nat} {Z : State} {a0 : Array Value} {h : Heap} {Φ : State → Prop} {g g' : JFrame} {Q : Option Value → Heap → List Loc → Prop} {kc ks pc : Nat} {Ls : Array Slot} {st rest : List Value}
/-- from the frame g of T the run comes to a state of which Φ holds -/
def own_Go (p : Program) (e : Env) (below : List Frame) (Φ : State → Prop) (T : State) (g : JFrame) : Prop := ∃ t, Steps p.tables e below (T.setTop g) t ∧ Φ t
theorem own_k (st : ∀ t, Steps p.tables e below (T'.setTop g') t → Steps p.tables e below (T.setTop g) t) (k : own_Go p e below Φ T' g') : own_Go p e below Φ T g := by
  obtain ⟨t, h1, h2⟩ := k
  exact ⟨t, st t h1, h2⟩
theorem own_s (st : Steps p.tables e below (T.setTop g) (T'.setTop g')) (k : own_Go p e below Φ T' g') : own_Go p e below Φ T g := by
  obtain ⟨t, h1, h2⟩ := k
  exact ⟨t, st.trans h1, h2⟩
def own_Fin (s : State) (below : List Frame) (Q : Option Value → Heap → List Loc → Prop) (kc ks : Nat) (t : State) : Prop := t.status = .running ∧ ∃ v L, Ended t below (.returned v) ∧ Q v t.heap L ∧ FrameEnd s (.returned v) t L kc ks
def own_Met (l : Launch) (Z : State) (y : MethodName) (bytes : ByteArray) (maxL : Nat) (ret : Option FieldType) (rm : Room) (av : Array Value) (h : Heap) (Q : Option Value → Heap → List Loc → Prop) : Prop :=
  ∀ ws : List Jvm.Cond, MetFree l y (head1 (Cond.code y bytes maxL ret :: ws) rm) (fun a U => a = av ∧ Z.Warmed39 U.vm ∧ U.heap = h) (fun _ _ _ _ _ => True) (fun _ U o U' => ∃ v L, o = .returned v ∧ Q v U'.heap L ∧ FrameEnd U o U' L rm.cells rm.slots)
theorem own_met {y : MethodName} {bytes : ByteArray} {maxL : Nat} {ret : Option FieldType} {rm : Room} {av : Array Value} (hpl : plainFor y = true)
    (body : ∀ (p : Program) (e : Env) (s : State) (m : MethodId) (below : List Frame) (meth : Method) (c : Code) (s₁ : State) (Φ : State → Prop), (∀ t, own_Fin s below Q rm.cells rm.slots t → Φ t) → Stand p l e rm s m av below meth c s₁ [] 0 0 → p.tables.exec = Jvm.exec → c.code = bytes → c.maxLocals = maxL → Z.Warmed39 s.vm → s.vm.findClass y.cls = some m.cls → meth.name = y.name → meth.sig.returnType = ret → meth.locks = false → s₁.heap = h →
      own_Go p e below Φ s₁ (entryFrame m av maxL)) : own_Met l Z y bytes maxL ret rm av h Q := by
  intro ws
  refine MetFree.of_bodySF hpl hisR ?_
  intro p e s m args below meth c s₁ Bd hml hP hK
  obtain ⟨rfl, hZ, hh⟩ := hP
  obtain ⟨t, h1, hrun, v, L, h2, h3, h4⟩ := body p e s m below meth c s₁ (own_Fin s below Q rm.cells rm.slots) (fun _ q => q) (Stand.of_body Bd) Bd.exec Bd.bytes hml hZ (findClass_of_methodNamed Bd.named) (name_of_methodNamed Bd.named Bd.method).1 Bd.returns Bd.notSynchronized (by rw [← hh, Bd.state]; rfl)
  exact ⟨t, _, h1, hrun, h2, v, L, rfl, h3, h4⟩
theorem own_fin {v : Option Value} (X : Stand p l e R s m args below meth c T locs cells slots) (hv : meth.sig.returnType = none → v = none) (hlk : meth.locks = false)
    (hs : ∀ fs, (∀ (f : JFrame) (acts : List Action), f.method = m → f.locked = none → f.entered = [] → (doReturn e (T.setTop f) acts v).1 = T.setFrames fs) → Steps p.tables e below (T.setTop g) (T.setFrames fs))
    (hF : ∀ t, own_Fin s below Q kc ks t → Φ t) (hQ : Q v T.heap locs) (hk : cells ≤ kc) (hn : slots ≤ ks) : own_Go p e below Φ T g := by
  obtain ⟨fs, hr, hrun, hended, hW, hsame⟩ := X.leave (v := v) hv hlk
  exact ⟨T.setFrames fs, hs fs hr, hF _ ⟨hrun, v, locs, hended, hQ, ⟨_, rfl⟩, hW, hsame.mono hk hn⟩⟩
theorem own_retI (X : Stand p l e R s m args below meth c T locs cells slots) (hx : p.tables.exec = Jvm.exec) {z : Int32} (hret : meth.sig.returnType = some .int) (hlk : meth.locks = false) (hd : decode c.code pc = .ok (.ireturn, 1)) (hF : ∀ t, own_Fin s below Q kc ks t → Φ t) (hQ : Q (some (.int z)) T.heap locs) (hk : cells ≤ kc) (hn : slots ≤ ks) :
    own_Go p e below Φ T (mkF m pc Ls (.int z :: rest)) :=
  own_fin X (fun q => by rw [hret] at q; cases q) hlk (fun fs hr => retOut X hx hret (narrow_int z) (Or.inl ⟨rfl, Or.inl rfl, z, rfl⟩) hd hr) hF hQ hk hn
where narrow_int (z : Int32) : narrow .int (.int z) = .int z := rfl
theorem own_retN (X : Stand p l e R s m args below meth c T locs cells slots) (hx : p.tables.exec = Jvm.exec) {z : Int32} {t : FieldType} (hret : meth.sig.returnType = some t) (ht : t = .boolean ∨ t = .byte ∨ t = .char ∨ t = .short) (hlk : meth.locks = false) (hd : decode c.code pc = .ok (.ireturn, 1)) (hF : ∀ t, own_Fin s below Q kc ks t → Φ t) (hQ : Q (some (.int (nar t z))) T.heap locs) (hk : cells ≤ kc) (hn : slots ≤ ks) :
    own_Go p e below Φ T (mkF m pc Ls (.int z :: rest)) :=
  own_fin X (fun q => by rw [hret] at q; cases q) hlk (fun fs hr => retN X hx hret ht hd hr) hF hQ hk hn
theorem own_retA (X : Stand p l e R s m args below meth c T locs cells slots) (hx : p.tables.exec = Jvm.exec) {w : Value} {t : FieldType} (hret : meth.sig.returnType = some t) (ht : t.isReference = true) (hw : w.isRef = true) (hlk : meth.locks = false) (hd : decode c.code pc = .ok (.areturn, 1)) (hF : ∀ t, own_Fin s below Q kc ks t → Φ t) (hQ : Q (some w) T.heap locs) (hk : cells ≤ kc) (hn : slots ≤ ks) :
    own_Go p e below Φ T (mkF m pc Ls (w :: rest)) :=
  own_fin X (fun q => by rw [hret] at q; cases q) hlk (fun fs hr => retOut X hx hret (by cases t <;> cases w <;> first | rfl | cases ht | cases hw) (Or.inr (Or.inr (Or.inr (Or.inr ⟨rfl, ht, hw⟩)))) hd hr) hF hQ hk hn
theorem own_retJ (X : Stand p l e R s m args below meth c T locs cells slots) (hx : p.tables.exec = Jvm.exec) {z : Int64} (hret : meth.sig.returnType = some .long) (hlk : meth.locks = false) (hd : decode c.code pc = .ok (.lreturn, 1)) (hF : ∀ t, own_Fin s below Q kc ks t → Φ t) (hQ : Q (some (.long z)) T.heap locs) (hk : cells ≤ kc) (hn : slots ≤ ks) :
    own_Go p e below Φ T (mkF m pc Ls (.long z :: rest)) :=
  own_fin X (fun q => by rw [hret] at q; cases q) hlk (fun fs hr => retOut X hx hret rfl (Or.inr (Or.inl ⟨rfl, rfl, z, rfl⟩)) hd hr) hF hQ hk hn
theorem own_ret0 (X : Stand p l e R s m args below meth c T locs cells slots) (hx : p.tables.exec = Jvm.exec) (hret : meth.sig.returnType = none) (hlk : meth.locks = false) (hd : decode c.code pc = .ok (.return_, 1)) (hF : ∀ t, own_Fin s below Q kc ks t → Φ t) (hQ : Q none T.heap locs) (hk : cells ≤ kc) (hn : slots ≤ ks) :
    own_Go p e below Φ T (mkF m pc Ls []) :=
  own_fin X (fun _ => rfl) hlk (fun fs hr => X.returnOut hx hret hd hr) hF hQ hk hn
theorem own_back {y : MethodName} {bytes : ByteArray} {maxL : Nat} {ret : Option FieldType} {rm : Room} {len W : Nat} {av : Array Value} (hM : own_Met l Z y bytes maxL ret rm av h Q)
    (hZ : Z.Warmed39 s.vm) (wc : (Cond.code y bytes maxL ret).before a0 Z = true) (wz : (Cond.initialized y.cls).before a0 Z = true) (hf : rm.frames + 1 ≤ R.frames) (hl : W + (maxL + 11) + rm.locals ≤ R.locals) :
    Back l R p e below s args y len W (fun A a => a = av ∧ A.U.heap = h ∧ A.cells + rm.cells ≤ R.cells ∧ A.slots + rm.slots ≤ R.slots)
      (fun A _ v B => ∃ L, Q v B.U.heap L ∧ B.locs = A.locs ++ L ∧ B.cells = A.cells + rm.cells ∧ B.slots = A.slots + rm.slots) :=
  backOf (Q := Q) (hM []) hZ wc wz hf hl
theorem own_callS (X : Stand p l e R s m args below meth c T locs cells slots) (hx : p.tables.exec = Jvm.exec) (hZ : Z.Warmed39 s.vm) {own : String} {index : Nat} {y : MethodName} {bytes : ByteArray} {maxL : Nat} {ret : Option FieldType} (hown : s.vm.findClass own = some m.cls)
    (w1 : (Cond.methodLink own index y).before a0 Z = true) (w2 : (Cond.static y).before a0 Z = true) (w3 : (Cond.initialized y.cls).before a0 Z = true) (w4 : (Cond.code y bytes maxL ret).before a0 Z = true) (hy : y.cls ≠ "java/lang/invoke/MethodHandle" ∧ y.cls ≠ "java/lang/invoke/VarHandle")
    {rm : Room} {al : List Value} (hM : own_Met l Z y bytes maxL ret rm al.toArray h Q) (W : Nat) (hf : rm.frames + 1 ≤ R.frames) (hl : W + (maxL + 11) + rm.locals ≤ R.locals) (eT : T.heap = h) (hc : cells + rm.cells ≤ R.cells) (hn : slots + rm.slots ≤ R.slots)
    (hsz : Ls.size = c.maxLocals) (hlen : ∀ sig, parseMethodDescriptor y.desc = some sig → al.length = sig.parameters.length) (hst : st = al.reverse ++ rest) (hW : 2 * 0 + (rest.map fun v => v.category).sum ≤ W) (hd : decode c.code pc = .ok (.invokestatic index, 3))
    (k : ∀ (v : Option Value) (T' : State) (L : List Loc), Stand p l e R s m args below meth c T' (locs ++ L) (cells + rm.cells) (slots + rm.slots) → Q v T'.heap L → own_Go p e below Φ T' (mkF m (pc + 3) Ls (v.toList ++ rest))) : own_Go p e below Φ T (mkF m pc Ls st) := by
  obtain ⟨v, vm₁, ⟨T', L', k', n'⟩, -, X', ⟨L, hQ, l1, l2, l3⟩, st'⟩ := Jvm.LawKit.callS X hx (y := y) hown (mvT hZ w1) (mvT hZ w2) (mvT hZ w3) (mvT hZ w4) hy (own_back (W := W) hM hZ w4 w3 hf hl) (g := mkF m pc Ls st) rfl hsz (argsL := al) (rest := rest) hlen hst hW hd (fun _ _ => ⟨rfl, eT, hc, hn⟩)
  dsimp only [Pt.U, Pt.locs, Pt.cells, Pt.slots] at X' l1 l2 l3 st' hQ
  subst l1 l2 l3
  exact own_k st' (k v T' L X' hQ)
theorem own_callV (X : Stand p l e R s m args below meth c T locs cells slots) (hx : p.tables.exec = Jvm.exec) (hZ : Z.Warmed39 s.vm) {own C : String} {index : Nat} {y z : MethodName} {bytes : ByteArray} {maxL : Nat} {ret : Option FieldType} (hown : s.vm.findClass own = some m.cls)
    (w1 : (Cond.methodLink own index y).before a0 Z = true) (w2 : (Cond.declares y).before a0 Z = true) (hnf : NotFace s y) (w3 : (Cond.selects C y z).before a0 Z = true) (w4 : (Cond.instanceMethod z).before a0 Z = true) (w5 : (Cond.code z bytes maxL ret).before a0 Z = true) (w6 : (Cond.initialized z.cls).before a0 Z = true) (hy : y.cls ≠ "java/lang/invoke/MethodHandle" ∧ y.cls ≠ "java/lang/invoke/VarHandle")
    {rm : Room} {al : List Value} {b : Addr} (E : Exa Z h b C) (hM : own_Met l Z z bytes maxL ret rm (.ref b :: al).toArray h Q) (W : Nat) (hf : rm.frames + 1 ≤ R.frames) (hl : W + (maxL + 11) + rm.locals ≤ R.locals) (eT : T.heap = h) (hc : cells + rm.cells ≤ R.cells) (hn : slots + rm.slots ≤ R.slots)
    (hsz : Ls.size = c.maxLocals) (hlen : ∀ sig, parseMethodDescriptor y.desc = some sig → al.length = sig.parameters.length) (hst : st = al.reverse ++ .ref b :: rest) (hW : 2 * 0 + (rest.map fun v => v.category).sum ≤ W) (hd : decode c.code pc = .ok (.invokevirtual index, 3))
    (k : ∀ (v : Option Value) (T' : State) (L : List Loc), Stand p l e R s m args below meth c T' (locs ++ L) (cells + rm.cells) (slots + rm.slots) → Q v T'.heap L → own_Go p e below Φ T' (mkF m (pc + 3) Ls (v.toList ++ rest))) : own_Go p e below Φ T (mkF m pc Ls st) := by
  obtain ⟨cB, kB, q1, q2, q3⟩ := isOf hZ eT E
  obtain ⟨v, vm₁, ⟨T', L', k', n'⟩, -, X', ⟨L, hQ, l1, l2, l3⟩, st'⟩ := X.virtualBack hx (y := y) (z := z) hown (mvT hZ w1) (mvT hZ w2) hnf (mvT hZ w3) (mvT hZ w4) hy (own_back (W := W) hM hZ w5 w6 hf hl) q1 q3 (g := mkF m pc Ls st) rfl hsz (Steps.refl _) (argsL := al) (rest := rest) hlen hst hW hd (fun _ _ => ⟨rfl, eT, hc, hn⟩)
  dsimp only [Pt.U, Pt.locs, Pt.cells, Pt.slots] at X' l1 l2 l3 st' hQ
  subst l1 l2 l3
  exact own_s st' (k v T' L X' hQ)
theorem own_callU (X : Stand p l e R s m args below meth c T locs cells slots) (hx : p.tables.exec = Jvm.exec) (hZ : Z.Warmed39 s.vm) {own C owner : String} {index : Nat} {y z : MethodName} {bytes : ByteArray} {maxL : Nat} {ret : Option FieldType} (hown : s.vm.findClass own = some m.cls)
    (w1 : (Cond.methodLink own index y).before a0 Z = true) (w2 : (Cond.sameMethod y.cls owner y.name y.desc).before a0 Z = true) (w2' : (Cond.declares ⟨owner, y.name, y.desc⟩).before a0 Z = true) (w3 : (Cond.selects C y z).before a0 Z = true) (w4 : (Cond.instanceMethod z).before a0 Z = true) (w5 : (Cond.code z bytes maxL ret).before a0 Z = true) (w6 : (Cond.initialized z.cls).before a0 Z = true) (hy : owner ≠ "java/lang/invoke/MethodHandle" ∧ owner ≠ "java/lang/invoke/VarHandle")
    {rm : Room} {al : List Value} {b : Addr} (E : Exa Z h b C) (hM : own_Met l Z z bytes maxL ret rm (.ref b :: al).toArray h Q) (W : Nat) (hf : rm.frames + 1 ≤ R.frames) (hl : W + (maxL + 11) + rm.locals ≤ R.locals) (eT : T.heap = h) (hc : cells + rm.cells ≤ R.cells) (hn : slots + rm.slots ≤ R.slots)
    (hsz : Ls.size = c.maxLocals) (hlen : ∀ sig, parseMethodDescriptor y.desc = some sig → al.length = sig.parameters.length) (hst : st = al.reverse ++ .ref b :: rest) (hW : 2 * 0 + (rest.map fun v => v.category).sum ≤ W) (hd : decode c.code pc = .ok (.invokevirtual index, 3))
    (k : ∀ (v : Option Value) (T' : State) (L : List Loc), Stand p l e R s m args below meth c T' (locs ++ L) (cells + rm.cells) (slots + rm.slots) → Q v T'.heap L → own_Go p e below Φ T' (mkF m (pc + 3) Ls (v.toList ++ rest))) : own_Go p e below Φ T (mkF m pc Ls st) := by
  obtain ⟨cB, kB, q1, q2, q3⟩ := isOf hZ eT E
  obtain ⟨v, vm₁, ⟨T', L', k', n'⟩, -, X', ⟨L, hQ, l1, l2, l3⟩, st'⟩ := X.virtualBackUp hx (x := y) (y := z) hown (mvT hZ w1) (mvT hZ w2) (mvT hZ w2') hy (mvT hZ w3) (mvT hZ w4) (own_back (W := W) hM hZ w5 w6 hf hl) q1 q3 (g := mkF m pc Ls st) rfl hsz (Steps.refl _) (argsL := al) (rest := rest) hlen hst hW hd (fun _ _ => ⟨rfl, eT, hc, hn⟩)
  dsimp only [Pt.U, Pt.locs, Pt.cells, Pt.slots] at X' l1 l2 l3 st' hQ
  subst l1 l2 l3
  exact own_s st' (k v T' L X' hQ)
theorem own_callN (X : Stand p l e R s m args below meth c T locs cells slots) (hx : p.tables.exec = Jvm.exec) (hZ : Z.Warmed39 s.vm) {own : String} {index : Nat} {y : MethodName} {bytes : ByteArray} {maxL : Nat} (hy1 : y.name = "<init>") (hown : s.vm.findClass own = some m.cls)
    (w1 : (Cond.methodLink own index y).before a0 Z = true) (w2 : (Cond.instanceMethod y).before a0 Z = true) (w3 : (Cond.code y bytes maxL none).before a0 Z = true) (w4 : (Cond.initialized y.cls).before a0 Z = true) (hy : y.cls ≠ "java/lang/invoke/MethodHandle" ∧ y.cls ≠ "java/lang/invoke/VarHandle")
    {rm : Room} {al : List Value} {b : Addr} (hM : own_Met l Z y bytes maxL none rm (.ref b :: al).toArray h Q) (W : Nat) (hf : rm.frames + 1 ≤ R.frames) (hl : W + (maxL + 11) + rm.locals ≤ R.locals) (eT : T.heap = h) (hc : cells + rm.cells ≤ R.cells) (hn : slots + rm.slots ≤ R.slots)
    (hsz : Ls.size = c.maxLocals) (hlen : ∀ sig, parseMethodDescriptor y.desc = some sig → al.length = sig.parameters.length) (hst : st = al.reverse ++ .ref b :: rest) (hW : 2 * 0 + (rest.map fun v => v.category).sum ≤ W) (hd : decode c.code pc = .ok (.invokespecial index, 3))
    (k : ∀ (v : Option Value) (T' : State) (L : List Loc), Stand p l e R s m args below meth c T' (locs ++ L) (cells + rm.cells) (slots + rm.slots) → Q v T'.heap L → own_Go p e below Φ T' (mkF m (pc + 3) Ls (v.toList ++ rest))) : own_Go p e below Φ T (mkF m pc Ls st) := by
  obtain ⟨v, vm₁, ⟨T', L', k', n'⟩, -, X', ⟨L, hQ, l1, l2, l3⟩, st'⟩ := X.specialBack hx (y := y) hy1 hown (mvT hZ w1) (mvT hZ w2) (mvT hZ w3) hy (own_back (W := W) hM hZ w3 w4 hf hl) (g := mkF m pc Ls st) rfl hsz (Steps.refl _) (a := b) (argsL := al) (rest := rest) hlen hst hW hd (fun _ _ => ⟨rfl, eT, hc, hn⟩)
  dsimp only [Pt.U, Pt.locs, Pt.cells, Pt.slots] at X' l1 l2 l3 st' hQ
  subst l1 l2 l3
  exact own_s st' (k v T' L X' hQ)
theorem own_iaload (X : Stand p l e R s m args below meth c T locs cells slots) (hx : p.tables.exec = Jvm.exec) (hZ : Z.Warmed39 s.vm) (eT : T.heap = h) {a : Addr} {k : ClassId} {n : Int32} {vs : List Value} {d : Value} (V : Arv Z h a k .int n vs d) {j : Int32} (hj : ¬ j < 0 ∧ j < n) {v : Value} (hv : vs.getD j.toNatClampNeg d = v) (hd : decode c.code pc = .ok (.iaload, 1)) (kk : own_Go p e below Φ T (mkF m (pc + 1) Ls (v :: rest))) : own_Go p e below Φ T (mkF m pc Ls (.int j :: .ref a :: rest)) := by
  obtain ⟨cl, A, -, S, N, H, -⟩ := V
  have hin := inb_of S hj
  exact own_k (fun t q => X.iaload hx (j := j) (v := v) (by rw [eT]; exact A.1) (State.isArrayOf_alike hZ.alike A.2.1) A.2.2 hin (H.at hin hv) (g := mkF m pc Ls (.int j :: .ref a :: rest)) rfl rfl hd t q) kk
theorem own_saload (X : Stand p l e R s m args below meth c T locs cells slots) (hx : p.tables.exec = Jvm.exec) (hZ : Z.Warmed39 s.vm) (eT : T.heap = h) {a : Addr} {k : ClassId} {n : Int32} {vs : List Value} {d : Value} (V : Arv Z h a k .short n vs d) {j : Int32} (hj : ¬ j < 0 ∧ j < n) {v : Value} (hv : vs.getD j.toNatClampNeg d = v) (hd : decode c.code pc = .ok (.saload, 1)) (kk : own_Go p e below Φ T (mkF m (pc + 1) Ls (v :: rest))) : own_Go p e below Φ T (mkF m pc Ls (.int j :: .ref a :: rest)) := by
  obtain ⟨cl, A, -, S, N, H, -⟩ := V
  have hin := inb_of S hj
  exact own_k (fun t q => X.saload hx (j := j) (v := v) (by rw [eT]; exact A.1) (State.isArrayOf_alike hZ.alike A.2.1) A.2.2 hin (H.at hin hv) (g := mkF m pc Ls (.int j :: .ref a :: rest)) rfl rfl hd t q) kk
theorem own_caload (X : Stand p l e R s m args below meth c T locs cells slots) (hx : p.tables.exec = Jvm.exec) (hZ : Z.Warmed39 s.vm) (eT : T.heap = h) {a : Addr} {k : ClassId} {n : Int32} {vs : List Value} {d : Value} (V : Arv Z h a k .char n vs d) {j : Int32} (hj : ¬ j < 0 ∧ j < n) {v : Value} (hv : vs.getD j.toNatClampNeg d = v) (hd : decode c.code pc = .ok (.caload, 1)) (kk : own_Go p e below Φ T (mkF m (pc + 1) Ls (v :: rest))) : own_Go p e below Φ T (mkF m pc Ls (.int j :: .ref a :: rest)) := by
  obtain ⟨cl, A, -, S, N, H, -⟩ := V
  have hin := inb_of S hj
  exact own_k (fun t q => X.caload hx (j := j) (v := v) (by rw [eT]; exact A.1) (State.isArrayOf_alike hZ.alike A.2.1) A.2.2 hin (H.at hin hv) (g := mkF m pc Ls (.int j :: .ref a :: rest)) rfl rfl hd t q) kk
theorem own_laload (X : Stand p l e R s m args below meth c T locs cells slots) (hx : p.tables.exec = Jvm.exec) (hZ : Z.Warmed39 s.vm) (eT : T.heap = h) {a : Addr} {k : ClassId} {n : Int32} {vs : List Value} {d : Value} (V : Arv Z h a k .long n vs d) {j : Int32} (hj : ¬ j < 0 ∧ j < n) {v : Value} (hv : vs.getD j.toNatClampNeg d = v) (hd : decode c.code pc = .ok (.laload, 1)) (kk : own_Go p e below Φ T (mkF m (pc + 1) Ls (v :: rest))) : own_Go p e below Φ T (mkF m pc Ls (.int j :: .ref a :: rest)) := by
  obtain ⟨cl, A, -, S, N, H, -⟩ := V
  have hin := inb_of S hj
  exact own_k (fun t q => X.laload hx (j := j) (v := v) (by rw [eT]; exact A.1) (State.isArrayOf_alike hZ.alike A.2.1) A.2.2 hin (H.at hin hv) (g := mkF m pc Ls (.int j :: .ref a :: rest)) rfl rfl hd t q) kk
theorem own_baload (X : Stand p l e R s m args below meth c T locs cells slots) (hx : p.tables.exec = Jvm.exec) (hZ : Z.Warmed39 s.vm) (eT : T.heap = h) {a : Addr} {k : ClassId} {n : Int32} {vs : List Value} {d : Value} (V : Arv Z h a k .byte n vs d) {j : Int32} (hj : ¬ j < 0 ∧ j < n) {v : Value} (hv : vs.getD j.toNatClampNeg d = v) (hd : decode c.code pc = .ok (.baload, 1)) (kk : own_Go p e below Φ T (mkF m (pc + 1) Ls (v :: rest))) : own_Go p e below Φ T (mkF m pc Ls (.int j :: .ref a :: rest)) := by
  obtain ⟨cl, A, -, S, N, H, -⟩ := V
  have hin := inb_of S hj
  exact own_k (fun t q => X.baloadBytes hx (j := j) (v := v) (by rw [eT]; exact A.1) (State.isArrayOf_alike hZ.alike A.2.1) A.2.2 hin (H.at hin hv) (g := mkF m pc Ls (.int j :: .ref a :: rest)) rfl rfl hd t q) kk
theorem own_aaload (X : Stand p l e R s m args below meth c T locs cells slots) (hx : p.tables.exec = Jvm.exec) (hZ : Z.Warmed39 s.vm) (eT : T.heap = h) {a : Addr} {k : ClassId} {n : Int32} {vs : List Value} {d : Value} {ty : FieldType} (V : Arv Z h a k ty n vs d) (ht : ty.isReference = true) {j : Int32} (hj : ¬ j < 0 ∧ j < n) {v : Value} (hv : vs.getD j.toNatClampNeg d = v) (hd : decode c.code pc = .ok (.aaload, 1)) (kk : own_Go p e below Φ T (mkF m (pc + 1) Ls (v :: rest))) : own_Go p e below Φ T (mkF m pc Ls (.int j :: .ref a :: rest)) := by
  obtain ⟨cl, A, -, S, N, H, -⟩ := V
  have hin := inb_of S hj
  exact own_k (fun t q => X.aaload hx (j := j) (v := v) (by rw [eT]; exact A.1) (State.isArrayOf_alike hZ.alike A.2.1) ht A.2.2 hin (H.at hin hv) (g := mkF m pc Ls (.int j :: .ref a :: rest)) rfl rfl hd t q) kk
theorem own_len (X : Stand p l e R s m args below meth c T locs cells slots) (hx : p.tables.exec = Jvm.exec) (hZ : Z.Warmed39 s.vm) (eT : T.heap = h) {a : Addr} {k : ClassId} {n : Int32} {vs : List Value} {d : Value} {ty : FieldType} (V : Arv Z h a k ty n vs d) (hd : decode c.code pc = .ok (.arraylength, 1)) (kk : own_Go p e below Φ T (mkF m (pc + 1) Ls (.int n :: rest))) : own_Go p e below Φ T (mkF m pc Ls (.ref a :: rest)) := by
  obtain ⟨cl, A, -, S, N, H, -⟩ := V
  refine own_k (fun t q => X.arraylength hx (by rw [eT]; exact A.1) (State.isArrayOf_alike hZ.alike A.2.1) (g := mkF m pc Ls (.ref a :: rest)) rfl rfl hd t q) ?_
  rw [len_of S N]
  exact kk
theorem own_iastore (X : Stand p l e R s m args below meth c T locs cells slots) (hx : p.tables.exec = Jvm.exec) (hZ : Z.Warmed39 s.vm) (eT : T.heap = h) {a : Addr} {k : ClassId} {n : Int32} {vs : List Value} {d : Value} (V : Arv Z h a k .int n vs d) {j : Int32} {x : Int32} (hj : ¬ j < 0 ∧ j < n) (i : Nat) (hi : j.toNatClampNeg = i) (hl : i < vs.length) (hd : decode c.code pc = .ok (.iastore, 1)) :
    ∃ T' h', Stand p l e R s m args below meth c T' (locs ++ [⟨a, j.toNatClampNeg⟩]) cells slots ∧ T'.heap = h' ∧ Wr h h' a j.toNatClampNeg (.int x) ∧ Arv Z h' a k .int n (vs.set i (.int x)) d ∧ ∀ t, Steps p.tables e below (T'.setTop (mkF m (pc + 1) Ls rest)) t → Steps p.tables e below (T.setTop (mkF m pc Ls ((.int x) :: .int j :: .ref a :: rest))) t := by
  obtain ⟨cl, A, q, S, N, H, G⟩ := V
  have hin := inb_of S hj
  obtain ⟨T', h', X', e', W, st'⟩ := stI X hx hZ eT A (j := j) (x := x) hin (g := mkF m pc Ls ((.int x) :: .int j :: .ref a :: rest)) rfl rfl hd
  exact ⟨T', h', X', e', W, Arv.set A q S N H G rfl W i hi hl, st'⟩
theorem own_lastore (X : Stand p l e R s m args below meth c T locs cells slots) (hx : p.tables.exec = Jvm.exec) (hZ : Z.Warmed39 s.vm) (eT : T.heap = h) {a : Addr} {k : ClassId} {n : Int32} {vs : List Value} {d : Value} (V : Arv Z h a k .long n vs d) {j : Int32} {x : Int64} (hj : ¬ j < 0 ∧ j < n) (i : Nat) (hi : j.toNatClampNeg = i) (hl : i < vs.length) (hd : decode c.code pc = .ok (.lastore, 1)) :
    ∃ T' h', Stand p l e R s m args below meth c T' (locs ++ [⟨a, j.toNatClampNeg⟩]) cells slots ∧ T'.heap = h' ∧ Wr h h' a j.toNatClampNeg (.long x) ∧ Arv Z h' a k .long n (vs.set i (.long x)) d ∧ ∀ t, Steps p.tables e below (T'.setTop (mkF m (pc + 1) Ls rest)) t → Steps p.tables e below (T.setTop (mkF m pc Ls ((.long x) :: .int j :: .ref a :: rest))) t := by
  obtain ⟨cl, A, q, S, N, H, G⟩ := V
  have hin := inb_of S hj
  obtain ⟨T', h', X', e', W, st'⟩ := stJ X hx hZ eT A (j := j) (x := x) hin (g := mkF m pc Ls ((.long x) :: .int j :: .ref a :: rest)) rfl rfl hd
  exact ⟨T', h', X', e', W, Arv.set A q S N H G rfl W i hi hl, st'⟩
theorem own_castore (X : Stand p l e R s m args below meth c T locs cells slots) (hx : p.tables.exec = Jvm.exec) (hZ : Z.Warmed39 s.vm) (eT : T.heap = h) {a : Addr} {k : ClassId} {n : Int32} {vs : List Value} {d : Value} (V : Arv Z h a k .char n vs d) {j : Int32} {x : Int32} (hj : ¬ j < 0 ∧ j < n) (i : Nat) (hi : j.toNatClampNeg = i) (hl : i < vs.length) (hd : decode c.code pc = .ok (.castore, 1)) :
    ∃ T' h', Stand p l e R s m args below meth c T' (locs ++ [⟨a, j.toNatClampNeg⟩]) cells slots ∧ T'.heap = h' ∧ Wr h h' a j.toNatClampNeg (.int (nar .char x)) ∧ Arv Z h' a k .char n (vs.set i (.int (nar .char x))) d ∧ ∀ t, Steps p.tables e below (T'.setTop (mkF m (pc + 1) Ls rest)) t → Steps p.tables e below (T.setTop (mkF m pc Ls ((.int x) :: .int j :: .ref a :: rest))) t := by
  obtain ⟨cl, A, q, S, N, H, G⟩ := V
  have hin := inb_of S hj
  obtain ⟨T', h', X', e', W, st'⟩ := stC X hx hZ eT A (j := j) (x := x) hin (g := mkF m pc Ls ((.int x) :: .int j :: .ref a :: rest)) rfl rfl hd
  exact ⟨T', h', X', e', W, Arv.set A q S N H G (fits_nar_char x) W i hi hl, st'⟩
theorem own_sastore (X : Stand p l e R s m args below meth c T locs cells slots) (hx : p.tables.exec = Jvm.exec) (hZ : Z.Warmed39 s.vm) (eT : T.heap = h) {a : Addr} {k : ClassId} {n : Int32} {vs : List Value} {d : Value} (V : Arv Z h a k .short n vs d) {j : Int32} {x : Int32} (hj : ¬ j < 0 ∧ j < n) (i : Nat) (hi : j.toNatClampNeg = i) (hl : i < vs.length) (hd : decode c.code pc = .ok (.sastore, 1)) :
    ∃ T' h', Stand p l e R s m args below meth c T' (locs ++ [⟨a, j.toNatClampNeg⟩]) cells slots ∧ T'.heap = h' ∧ Wr h h' a j.toNatClampNeg (.int (nar .short x)) ∧ Arv Z h' a k .short n (vs.set i (.int (nar .short x))) d ∧ ∀ t, Steps p.tables e below (T'.setTop (mkF m (pc + 1) Ls rest)) t → Steps p.tables e below (T.setTop (mkF m pc Ls ((.int x) :: .int j :: .ref a :: rest))) t := by
  obtain ⟨cl, A, q, S, N, H, G⟩ := V
  have hin := inb_of S hj
  obtain ⟨T', h', X', e', W, st'⟩ := stS X hx hZ eT A (j := j) (x := x) hin (g := mkF m pc Ls ((.int x) :: .int j :: .ref a :: rest)) rfl rfl hd
  exact ⟨T', h', X', e', W, Arv.set A q S N H G (fits_nar_short x) W i hi hl, st'⟩
theorem own_bastore (X : Stand p l e R s m args below meth c T locs cells slots) (hx : p.tables.exec = Jvm.exec) (hZ : Z.Warmed39 s.vm) (eT : T.heap = h) {a : Addr} {k : ClassId} {n : Int32} {vs : List Value} {d : Value} (V : Arv Z h a k .byte n vs d) {j : Int32} {x : Int32} (hj : ¬ j < 0 ∧ j < n) (i : Nat) (hi : j.toNatClampNeg = i) (hl : i < vs.length) (hd : decode c.code pc = .ok (.bastore, 1)) :
    ∃ T' h', Stand p l e R s m args below meth c T' (locs ++ [⟨a, j.toNatClampNeg⟩]) cells slots ∧ T'.heap = h' ∧ Wr h h' a j.toNatClampNeg (.int (nar .byte x)) ∧ Arv Z h' a k .byte n (vs.set i (.int (nar .byte x))) d ∧ ∀ t, Steps p.tables e below (T'.setTop (mkF m (pc + 1) Ls rest)) t → Steps p.tables e below (T.setTop (mkF m pc Ls ((.int x) :: .int j :: .ref a :: rest))) t := by
  obtain ⟨cl, A, q, S, N, H, G⟩ := V
  have hin := inb_of S hj
  obtain ⟨T', h', X', e', W, st'⟩ := stB X hx hZ eT A (j := j) (x := x) hin (g := mkF m pc Ls ((.int x) :: .int j :: .ref a :: rest)) rfl rfl hd
  exact ⟨T', h', X', e', W, Arv.set A q S N H G (fits_nar_byte x) W i hi hl, st'⟩
theorem own_aastore (X : Stand p l e R s m args below meth c T locs cells slots) (hx : p.tables.exec = Jvm.exec) (hZ : Z.Warmed39 s.vm) (eT : T.heap = h) {a : Addr} {k : ClassId} {n : Int32} {vs : List Value} {d : Value} {ty : FieldType} (V : Arv Z h a k ty n vs d) (ht : ty.isReference = true) {j : Int32} {v : Value} (hj : ¬ j < 0 ∧ j < n) (hf : fits ty v = true) (F : ∀ cl : Cell, Arr Z h a cl ty → cl.cls = k → Sto Z h a v) (i : Nat) (hi : j.toNatClampNeg = i) (hl : i < vs.length) (hd : decode c.code pc = .ok (.aastore, 1)) :
    ∃ T' h', Stand p l e R s m args below meth c T' (locs ++ [⟨a, j.toNatClampNeg⟩]) cells slots ∧ T'.heap = h' ∧ Wr h h' a j.toNatClampNeg v ∧ Arv Z h' a k ty n (vs.set i v) d ∧ ∀ t, Steps p.tables e below (T'.setTop (mkF m (pc + 1) Ls rest)) t → Steps p.tables e below (T.setTop (mkF m pc Ls (v :: .int j :: .ref a :: rest))) t := by
  obtain ⟨cl, A, q, S, N, H, G⟩ := V
  have hin := inb_of S hj
  obtain ⟨T', h', X', e', W, st'⟩ := stR X hx hZ eT A (j := j) (v := v) hin ht (F cl A q) (g := mkF m pc Ls (v :: .int j :: .ref a :: rest)) rfl rfl hd
  exact ⟨T', h', X', e', W, Arv.set A q S N H G hf W i hi hl, st'⟩
theorem own_newarr (X : Stand p l e R s m args below meth c T locs cells slots) (hx : p.tables.exec = Jvm.exec) (hZ : Z.Warmed39 s.vm) {aty : ArrayType} (w : (Cond.arrayClass (newarray.typeOf aty)).before a0 Z = true) (eT : T.heap = h) (hd : decode c.code pc = .ok (.newarray aty, 2)) {n : Int32} (hn : ¬ n < 0) {cap : Nat} (hcap : n.toNatClampNeg ≤ cap) (hb : cap * 8 ≤ 536870912) (hc : cells + 1 ≤ R.cells) (hl : slots + cap ≤ R.slots) {ad : String} (had : "[" ++ (newarray.typeOf aty).toString = ad) :
    ∃ T' h' cA, Stand p l e R s m args below meth c T' locs (cells + 1) (slots + cap) ∧ T'.heap = h' ∧ Ext h h' ∧ Arv Z h' h.size cA (newarray.typeOf aty) n (List.replicate cap (defaultValue (newarray.typeOf aty))) (defaultValue (newarray.typeOf aty)) ∧ Exa Z h' h.size ad ∧
      ∀ t, Steps p.tables e below (T'.setTop (mkF m (pc + 2) Ls (.ref h.size :: rest))) t → Steps p.tables e below (T.setTop (mkF m pc Ls (.int n :: rest))) t := by
  obtain ⟨T', h', cA, X', e', E', A', C', st'⟩ := newPE X hx hZ w eT (g := mkF m pc Ls (.int n :: rest)) rfl hd rfl hn hcap hb hc hl had
  exact ⟨T', h', cA, X', e', E', (Arv.new A' hn).pad (fun i => by have q := pad_rep [] (defaultValue (newarray.typeOf aty)) cap i; simpa using q), C', st'⟩
theorem own_newref (X : Stand p l e R s m args below meth c T locs cells slots) (hx : p.tables.exec = Jvm.exec) (hZ : Z.Warmed39 s.vm) {own C : String} {index : Nat} (hown : s.vm.findClass own = some m.cls) (w1 : (Cond.classLink own index C).before a0 Z = true) (w2 : (Cond.arrayOver (.object C)).before a0 Z = true) (eT : T.heap = h) (hd : decode c.code pc = .ok (.anewarray index, 3)) {n : Int32} (hn : ¬ n < 0) {cap : Nat} (hcap : n.toNatClampNeg ≤ cap) (hb : cap * 8 ≤ 536870912) (hc : cells + 1 ≤ R.cells) (hl : slots + cap ≤ R.slots) {ad : String} (had : "[" ++ (FieldType.object C).toString = ad) :
    ∃ T' h' cA, Stand p l e R s m args below meth c T' locs (cells + 1) (slots + cap) ∧ T'.heap = h' ∧ Ext h h' ∧ Arv Z h' h.size cA (.object C) n (List.replicate cap .null) .null ∧ Exa Z h' h.size ad ∧ Ovr Z cA C ∧
      ∀ t, Steps p.tables e below (T'.setTop (mkF m (pc + 3) Ls (.ref h.size :: rest))) t → Steps p.tables e below (T.setTop (mkF m pc Ls (.int n :: rest))) t := by
  obtain ⟨T', h', cA, X', e', E', A', C', O', st'⟩ := newRE X hx hZ hown w1 w2 eT (g := mkF m pc Ls (.int n :: rest)) rfl hd rfl hn hcap hb hc hl had
  exact ⟨T', h', cA, X', e', E', (Arv.new A' hn).pad (fun i => by have q := pad_rep [] (.null) cap i; simpa [defaultValue] using q), C', O', st'⟩
theorem own_newarr2 (X : Stand p l e R s m args below meth c T locs cells slots) (hx : p.tables.exec = Jvm.exec) (hZ : Z.Warmed39 s.vm) {own C : String} {ty : FieldType} {index : Nat} (hown : s.vm.findClass own = some m.cls) (hC : (FieldType.array ty).toString = C) (w1 : (Cond.classLink own index C).before a0 Z = true) (w2 : (Cond.arrayOver (.array ty)).before a0 Z = true) (eT : T.heap = h) (hd : decode c.code pc = .ok (.anewarray index, 3)) {n : Int32} (hn : ¬ n < 0) {cap : Nat} (hcap : n.toNatClampNeg ≤ cap) (hb : cap * 8 ≤ 536870912) (hc : cells + 1 ≤ R.cells) (hl : slots + cap ≤ R.slots) {ad : String} (had : "[" ++ C = ad) :
    ∃ T' h' cA, Stand p l e R s m args below meth c T' locs (cells + 1) (slots + cap) ∧ T'.heap = h' ∧ Ext h h' ∧ Arv Z h' h.size cA (.array ty) n (List.replicate cap .null) .null ∧ Exa Z h' h.size ad ∧ OvrA Z cA ty C ∧
      ∀ t, Steps p.tables e below (T'.setTop (mkF m (pc + 3) Ls (.ref h.size :: rest))) t → Steps p.tables e below (T.setTop (mkF m pc Ls (.int n :: rest))) t := by
  obtain ⟨T', h', cA, X', e', E', A', C', O', st'⟩ := newRA X hx hZ hown hC w1 w2 eT (g := mkF m pc Ls (.int n :: rest)) rfl hd rfl hn hcap hb hc hl had
  exact ⟨T', h', cA, X', e', E', (Arv.new A' hn).pad (fun i => by have q := pad_rep [] (.null) cap i; simpa [defaultValue] using q), C', O', st'⟩
theorem own_callP (X : Stand p l e R s m args below meth c T locs cells slots) (hx : p.tables.exec = Jvm.exec) (hZ : Z.Warmed39 s.vm) {own : String} {index kk : Nat} {y : MethodName} {bytes : ByteArray} {maxL : Nat} {ret : Option FieldType} (hown : s.vm.findClass own = some m.cls)
    (w1 : (Cond.methodLink own index y).before a0 Z = true) (w2 : (Cond.instanceMethod y).before a0 Z = true) (w3 : (Cond.privateMethod y).before a0 Z = true) (w4 : (Cond.code y bytes maxL ret).before a0 Z = true) (w5 : (Cond.initialized y.cls).before a0 Z = true) (w6 : (Cond.instantiable y.cls kk).before a0 Z = true) (hy : y.cls ≠ "java/lang/invoke/MethodHandle" ∧ y.cls ≠ "java/lang/invoke/VarHandle")
    {rm : Room} {al : List Value} {b : Addr} {C : String} (E : Exa Z h b C) (hM : own_Met l Z y bytes maxL ret rm (.ref b :: al).toArray h Q) (W : Nat) (hf : rm.frames + 1 ≤ R.frames) (hl : W + (maxL + 11) + rm.locals ≤ R.locals) (eT : T.heap = h) (hc : cells + rm.cells ≤ R.cells) (hn : slots + rm.slots ≤ R.slots)
    (hsz : Ls.size = c.maxLocals) (hlen : ∀ sig, parseMethodDescriptor y.desc = some sig → al.length = sig.parameters.length) (hst : st = al.reverse ++ .ref b :: rest) (hW : 2 * 0 + (rest.map fun v => v.category).sum ≤ W) (hd : decode c.code pc = .ok (.invokevirtual index, 3))
    (k : ∀ (v : Option Value) (T' : State) (L : List Loc), Stand p l e R s m args below meth c T' (locs ++ L) (cells + rm.cells) (slots + rm.slots) → Q v T'.heap L → own_Go p e below Φ T' (mkF m (pc + 3) Ls (v.toList ++ rest))) : own_Go p e below Φ T (mkF m pc Ls st) := by
  obtain ⟨cB, q1, q2⟩ := E.cell
  have hp : s.PrivateAt y := Cond.privateMethod_at (mvP hZ w3 (args := #[]))
  obtain ⟨cc, ki, z1, z2, -, z4, -⟩ := Cond.instantiable_spec (mvT (s := s) (args := args) hZ w6)
  have hsel : (Cond.selects y.cls y y).before args s = true := selects_self_of_private z1 z2 (by simp only [Bool.or_eq_false_iff] at z4; exact z4.1) hp (mvT hZ w2) hy
  obtain ⟨v, vm₁, ⟨T', L', k', n'⟩, -, X', ⟨L, hQ, l1, l2, l3⟩, st'⟩ := X.privateBack hx (y := y) hown (mvT hZ w1) (mvT hZ w2) hsel hp (mvT hZ w4) hy (own_back (W := W) hM hZ w4 w5 hf hl) (g := mkF m pc Ls st) rfl hsz (Steps.refl _) (a := b) (cell := cB) (by rw [eT]; exact q1) q2 (argsL := al) (rest := rest) hlen hst hW hd (fun _ _ => ⟨rfl, eT, hc, hn⟩)
  dsimp only [Pt.U, Pt.locs, Pt.cells, Pt.slots] at X' l1 l2 l3 st' hQ
  subst l1 l2 l3
  exact own_s st' (k v T' L X' hQ)
theorem own_eqI {args : Array Value} {t : Term} {n : Int32} (hq : (Cond.eq t (.int n)).value args Z none Z [] = some true) : t.eval args Z none [] Z = some (.int n) := eqv_i (Term.int_eval n) hq
theorem own_fldI {args : Array Value} {t : Term} {n : Int32} {a : Addr} {C f d : String} (ev : t.eval args Z none [] Z = some (.ref a)) (hq : (Cond.eq (.field t C f d) (.int n)).value args Z none Z [] = some true) : Fld Z Z.heap a C f d (.int n) := by
  have q := own_eqI hq
  rw [fld_at ev] at q
  exact Fld.start q
theorem own_nar_short (x : Int32) : nar .short x.toInt16.toInt32 = x.toInt16.toInt32 := by simp [nar]
theorem own_nar_byte (x : Int32) : nar .byte x.toInt8.toInt32 = x.toInt8.toInt32 := by simp [nar]
theorem own_nar_char (x : Int32) : nar .char x.toUInt32.toUInt16.toUInt32.toInt32 = x.toUInt32.toUInt16.toUInt32.toInt32 := by
  have e1 := c_i2c x
  have e2 := c_i2c (x.toUInt32.toUInt16.toUInt32.toInt32)
  exact Int32.toInt_inj.mp (by show (x.toUInt32.toUInt16.toUInt32.toInt32.toUInt32.toUInt16.toUInt32.toInt32).toInt = _; omega)
end Own
end Jvm.RoadKit
namespace Jvm.Pilot.@@N@@
open Jvm Jvm.ClassFile Sem Op Lib Jvm.Free Jvm.Stand Jvm.LawKit Jvm.RoadKit Bundle Jvm.Pilot.@@N@@.Jvm.D
def own_W (Z : State) (a0 : Array Value) (g_COMPACT_STRINGS : Int32) (g_SIOOBE_FORMATTER : Value) : Prop := (∀ d ∈ tables_1, d.before a0 Z = true) ∧ (Sta Z Z.heap "java/lang/String" "COMPACT_STRINGS" "Z" (.int g_COMPACT_STRINGS)) ∧ (¬ (g_COMPACT_STRINGS = (0 : Int32))) ∧ (g_SIOOBE_FORMATTER.isRef = true) ∧ (Sta Z Z.heap "jdk/internal/util/Preconditions" "SIOOBE_FORMATTER" "Ljava/util/function/BiFunction;" g_SIOOBE_FORMATTER) ∧ (Sta Z Z.heap "java/lang/StringUTF16" "$assertionsDisabled" "Z" (.int (1 : Int32))) ∧ (Sta Z Z.heap "java/lang/StringUTF16" "HI_BYTE_SHIFT" "I" (.int (0 : Int32))) ∧ (Sta Z Z.heap "java/lang/StringUTF16" "LO_BYTE_SHIFT" "I" (.int (8 : Int32)))
theorem own_rec (c : Int32) (r : ¬ c < (0 : Int32) ∧ ¬ (65535 : Int32) < c) : ((((((c >>> ((0 : Int32) &&& 31)).toInt8.toInt32) &&& (255 : Int32)) <<< ((0 : Int32) &&& 31)) ||| ((((c >>> ((8 : Int32) &&& 31)).toInt8.toInt32) &&& (255 : Int32)) <<< ((8 : Int32) &&& 31))).toUInt32.toUInt16.toUInt32.toInt32) = c := by
  obtain ⟨r1, r2⟩ := r
  rw [Int32.lt_iff_toInt_lt] at r1 r2
  have z0 : (0 : Int32).toInt = 0 := by decide
  have z1 : (65535 : Int32).toInt = 65535 := by decide
  have e0 := c_ishr c (0 : Int32) 0 (by decide)
  have e1 := c_ishr c (8 : Int32) 8 (by decide)
  generalize hA : (c >>> ((0 : Int32) &&& 31)) = A at *
  generalize hB : (c >>> ((8 : Int32) &&& 31)) = B at *
  have f0 := c_i2b A
  have f1 := c_i2b B
  have g0 : ((A.toInt8.toInt32) &&& (255 : Int32)).toInt = (A.toInt8.toInt32).toInt % (2 ^ 8 : Nat) := c_mask _ 255 8 (by decide) (by decide)
  have g1 : ((B.toInt8.toInt32) &&& (255 : Int32)).toInt = (B.toInt8.toInt32).toInt % (2 ^ 8 : Nat) := c_mask _ 255 8 (by decide) (by decide)
  generalize ((A.toInt8.toInt32) &&& (255 : Int32)) = a at *
  generalize ((B.toInt8.toInt32) &&& (255 : Int32)) = b at *
  have i0 := c_ishl a (0 : Int32) 0 (by decide)
  have i1 := c_ishl b (8 : Int32) 8 (by decide)
  have k0 := rng32 (a <<< ((0 : Int32) &&& 31))
  have k1 := rng32 (b <<< ((8 : Int32) &&& 31))
  generalize (a <<< ((0 : Int32) &&& 31)) = u at *
  generalize (b <<< ((8 : Int32) &&& 31)) = w at *
  have j := c_or' u w 8 (by decide) 256 (by decide) (by omega) (by omega) (by omega)
  have k2 := rng32 (u ||| w)
  have j2 := c_i2c (u ||| w)
  exact Int32.toInt_inj.mp (by omega)
theorem own_rec_gt {c : Int32} (r : ¬ c < (0 : Int32) ∧ ¬ (65535 : Int32) < c) (h : (255 : Int32) < c) : (255 : Int32) < ((((((c >>> ((0 : Int32) &&& 31)).toInt8.toInt32) &&& (255 : Int32)) <<< ((0 : Int32) &&& 31)) ||| ((((c >>> ((8 : Int32) &&& 31)).toInt8.toInt32) &&& (255 : Int32)) <<< ((8 : Int32) &&& 31))).toUInt32.toUInt16.toUInt32.toInt32) := by
  rw [own_rec c r]; exact h
theorem own_lrec (c : Int32) (r : ¬ c < (0 : Int32)) (q : ¬ (255 : Int32) < c) : (((c.toInt8.toInt32) &&& (255 : Int32)).toUInt32.toUInt16.toUInt32.toInt32) = c := by
  rw [Int32.lt_iff_toInt_lt] at r q
  have z0 : (0 : Int32).toInt = 0 := by decide
  have z1 : (255 : Int32).toInt = 255 := by decide
  have f0 := c_i2b c
  have g0 : ((c.toInt8.toInt32) &&& (255 : Int32)).toInt = (c.toInt8.toInt32).toInt % (2 ^ 8 : Nat) := c_mask _ 255 8 (by decide) (by decide)
  have j2 := c_i2c ((c.toInt8.toInt32) &&& (255 : Int32))
  exact Int32.toInt_inj.mp (by omega)
def own_lat (cs : List Int32) : List Value := cs.map fun c => .int (c.toInt8.toInt32)
def own_utf : List Int32 → List Value
  | [] => []
  | c :: r => .int (((c >>> ((0 : Int32) &&& 31)).toInt8.toInt32)) :: .int (((c >>> ((8 : Int32) &&& 31)).toInt8.toInt32)) :: own_utf r
def own_ok (c : Int32) : Prop := ¬ c < (0 : Int32) ∧ ¬ (65535 : Int32) < c
theorem own_ok_getD {cs : List Int32} (h : ∀ c ∈ cs, own_ok c) (i : Nat) : own_ok (cs.getD i (0 : Int32)) := by
  rw [List.getD_eq_getElem?_getD]
  cases q : cs[i]? with
  | none => exact ⟨by decide, by decide⟩
  | some c => exact h c (List.mem_of_getElem? q)
theorem own_nlat_getD {cs : List Int32} (h : ∀ c ∈ cs, ¬ (255 : Int32) < c) (i : Nat) : ¬ (255 : Int32) < cs.getD i (0 : Int32) := by
  rw [List.getD_eq_getElem?_getD]
  cases q : cs[i]? with
  | none => show ¬ (255 : Int32) < (0 : Int32); decide
  | some c => exact h c (List.mem_of_getElem? q)
theorem own_lat_get (cs : List Int32) (i : Nat) : (own_lat cs).getD i (.int (0 : Int32)) = .int ((cs.getD i (0 : Int32)).toInt8.toInt32) := by
  simp only [own_lat, List.getD_eq_getElem?_getD, List.getElem?_map]
  cases cs[i]? <;> rfl
theorem own_utf_lo : ∀ (cs : List Int32) (i : Nat), (own_utf cs).getD (2 * i) (.int (0 : Int32)) = .int (((cs.getD i (0 : Int32)) >>> ((0 : Int32) &&& 31)).toInt8.toInt32)
  | [], i => by first | (simp [own_utf]; done) | (simp [own_utf]; decide)
  | c :: r, 0 => rfl
  | c :: r, i + 1 => by
    have q := own_utf_lo r i
    rw [show 2 * (i + 1) = 2 * i + 1 + 1 from by omega]
    simpa [own_utf, List.getD_eq_getElem?_getD] using q
theorem own_utf_hi : ∀ (cs : List Int32) (i : Nat), (own_utf cs).getD (2 * i + 1) (.int (0 : Int32)) = .int (((cs.getD i (0 : Int32)) >>> ((8 : Int32) &&& 31)).toInt8.toInt32)
  | [], i => by first | (simp [own_utf]; done) | (simp [own_utf]; decide)
  | c :: r, 0 => rfl
  | c :: r, i + 1 => by
    have q := own_utf_hi r i
    rw [show 2 * (i + 1) + 1 = 2 * i + 1 + 1 + 1 from by omega]
    simpa [own_utf, List.getD_eq_getElem?_getD] using q
theorem own_shl1 {j : Int32} (h : 0 ≤ j.toInt ∧ j.toInt < 1000) : (j <<< ((1 : Int32) &&& 31)).toInt = 2 * j.toInt ∧ ((j <<< ((1 : Int32) &&& 31)) + (1 : Int32)).toInt = 2 * j.toInt + 1 := by
  have e := c_ishl j (1 : Int32) 1 (by decide)
  have r := rng32 (j <<< ((1 : Int32) &&& 31))
  have e2 := c_iadd (j <<< ((1 : Int32) &&& 31)) (1 : Int32)
  have r2 := rng32 ((j <<< ((1 : Int32) &&& 31)) + (1 : Int32))
  have z1 : (1 : Int32).toInt = 1 := by decide
  omega
theorem own_clamp {j : Int32} (h : 0 ≤ j.toInt) : (j.toNatClampNeg : Int) = j.toInt := by
  have q := nat_of (j := j) (by rw [Int32.lt_iff_toInt_lt]; have z0 : (0 : Int32).toInt = 0 := by decide
                                omega)
  omega
theorem own_idx_lo {j : Int32} (h : 0 ≤ j.toInt ∧ j.toInt < 1000) : (j <<< ((1 : Int32) &&& 31)).toNatClampNeg = 2 * j.toNatClampNeg := by
  have e := own_shl1 h
  have a := own_clamp (j := (j <<< ((1 : Int32) &&& 31))) (by omega)
  have b := own_clamp h.1
  omega
theorem own_idx_hi {j : Int32} (h : 0 ≤ j.toInt ∧ j.toInt < 1000) : ((j <<< ((1 : Int32) &&& 31)) + (1 : Int32)).toNatClampNeg = 2 * j.toNatClampNeg + 1 := by
  have e := own_shl1 h
  have a := own_clamp (j := ((j <<< ((1 : Int32) &&& 31)) + (1 : Int32))) (by omega)
  have b := own_clamp h.1
  omega
def own_Byt (Z : State) (h : Heap) (t : Addr) (kb : ClassId) (cs : List Int32) : Prop := (Arv Z h t kb .byte (4 : Int32) (own_lat cs) (.int (0 : Int32)) ∧ ∀ c ∈ cs, ¬ (255 : Int32) < c) ∨ Arv Z h t kb .byte (8 : Int32) (own_utf cs) (.int (0 : Int32))
def own_Str (Z : State) (h : Heap) (x : Addr) (cs : List Int32) : Prop := ∃ (t : Addr) (kb : ClassId), Exa Z h x "java/lang/String" ∧ Fld Z h x "java/lang/String" "value" "[B" (.ref t) ∧ ((Fld Z h x "java/lang/String" "coder" "B" (.int (0 : Int32)) ∧ Arv Z h t kb .byte (4 : Int32) (own_lat cs) (.int (0 : Int32)) ∧ ∀ c ∈ cs, ¬ (255 : Int32) < c) ∨ (Fld Z h x "java/lang/String" "coder" "B" (.int (1 : Int32)) ∧ Arv Z h t kb .byte (8 : Int32) (own_utf cs) (.int (0 : Int32))))
theorem own_str_exa {Z : State} {h : Heap} {x : Addr} {cs : List Int32} (q : own_Str Z h x cs) : Exa Z h x "java/lang/String" := by
  obtain ⟨_, _, q, -⟩ := q
  exact q
theorem own_bnd {j : Int32} (h : 0 ≤ j.toInt ∧ j.toInt < 4) : (¬ j < (0 : Int32)) ∧ (j < (4 : Int32)) ∧ (¬ (j <<< ((1 : Int32) &&& 31)) < (0 : Int32)) ∧ ((j <<< ((1 : Int32) &&& 31)) < (8 : Int32)) ∧ (¬ ((j <<< ((1 : Int32) &&& 31)) + (1 : Int32)) < (0 : Int32)) ∧ (((j <<< ((1 : Int32) &&& 31)) + (1 : Int32)) < (8 : Int32)) ∧ ¬ j = (4 : Int32) := by
  have e := own_shl1 (j := j) (by omega)
  have z0 : (0 : Int32).toInt = 0 := by decide
  have z1 : (4 : Int32).toInt = 4 := by decide
  have z2 : (8 : Int32).toInt = 8 := by decide
  refine ⟨?_, ?_, ?_, ?_, ?_, ?_, fun q => ?_⟩
  all_goals first | (rw [Int32.lt_iff_toInt_lt]; omega) | (rw [q, z1] at h; omega)
theorem own_all_4 {P : Int32 → Prop} {c0 c1 c2 c3 : Int32} (h0 : P c0) (h1 : P c1) (h2 : P c2) (h3 : P c3) : ∀ c ∈ [c0, c1, c2, c3], P c := by
  intro c hc
  simp only [List.mem_cons, List.not_mem_nil, or_false] at hc
  rcases hc with rfl | rfl | rfl | rfl
  · exact h0
  · exact h1
  · exact h2
  · exact h3
theorem ef_5_RIRII (m : MethodId) (x0 : Addr) (x1 : Int32) (x2 : Addr) (x3 : Int32) (x4 : Int32)  : entryFrame m #[(.ref x0), (.int x1), (.ref x2), (.int x3), (.int x4)] 7 = mkF m 0 #[.val (.ref x0), .val (.int x1), .val (.ref x2), .val (.int x3), .val (.int x4), .unset, .unset] [] := by first | (simp [entryFrame, mkF, argsToLocals, Value.category]; done) | rfl
theorem pn_java_lang_StringUTF16 : plainName "java/lang/StringUTF16" = true := by first | (simp [plainName, overriddenIn]; done) | decide +kernel
theorem d5_0 : decode jdk_52_method_21_code 0 = .ok (.iconst 0, 1) := by decide +kernel
theorem d5_1 : decode jdk_52_method_21_code 1 = .ok (.istore 5, 2) := by decide +kernel
theorem d5_3 : decode jdk_52_method_21_code 3 = .ok (.iload 5, 2) := by decide +kernel
theorem d5_5 : decode jdk_52_method_21_code 5 = .ok (.iload 4, 2) := by decide +kernel
theorem d5_7 : decode jdk_52_method_21_code 7 = .ok (.if_icmp .ge 37, 3) := by decide +kernel
theorem d5_10 : decode jdk_52_method_21_code 10 = .ok (.aload_n 0, 1) := by decide +kernel
theorem d5_11 : decode jdk_52_method_21_code 11 = .ok (.iload_n 1, 1) := by decide +kernel
theorem d5_12 : decode jdk_52_method_21_code 12 = .ok (.caload, 1) := by decide +kernel
theorem d5_13 : decode jdk_52_method_21_code 13 = .ok (.istore 6, 2) := by decide +kernel
theorem d5_15 : decode jdk_52_method_21_code 15 = .ok (.iload 6, 2) := by decide +kernel
theorem d5_17 : decode jdk_52_method_21_code 17 = .ok (.sipush 255, 3) := by decide +kernel
theorem d5_20 : decode jdk_52_method_21_code 20 = .ok (.if_icmp .le 6, 3) := by decide +kernel
theorem d5_23 : decode jdk_52_method_21_code 23 = .ok (.iload 5, 2) := by decide +kernel
theorem d5_25 : decode jdk_52_method_21_code 25 = .ok (.ireturn, 1) := by decide +kernel
theorem d5_26 : decode jdk_52_method_21_code 26 = .ok (.aload_n 2, 1) := by decide +kernel
theorem d5_27 : decode jdk_52_method_21_code 27 = .ok (.iload_n 3, 1) := by decide +kernel
theorem d5_28 : decode jdk_52_method_21_code 28 = .ok (.iload 6, 2) := by decide +kernel
theorem d5_30 : decode jdk_52_method_21_code 30 = .ok (.i2b, 1) := by decide +kernel
theorem d5_31 : decode jdk_52_method_21_code 31 = .ok (.bastore, 1) := by decide +kernel
theorem d5_32 : decode jdk_52_method_21_code 32 = .ok (.iinc 1 1, 3) := by decide +kernel
theorem d5_35 : decode jdk_52_method_21_code 35 = .ok (.iinc 3 1, 3) := by decide +kernel
theorem d5_38 : decode jdk_52_method_21_code 38 = .ok (.iinc 5 1, 3) := by decide +kernel
theorem d5_41 : decode jdk_52_method_21_code 41 = .ok (.goto (-38), 3) := by decide +kernel
theorem d5_44 : decode jdk_52_method_21_code 44 = .ok (.iload 4, 2) := by decide +kernel
theorem d5_46 : decode jdk_52_method_21_code 46 = .ok (.ireturn, 1) := by decide +kernel
set_option maxRecDepth 65536 in
set_option maxHeartbeats 40000000 in
theorem rm_compress5 (l : Launch) (Z : State) (a0 : Array Value) (g_COMPACT_STRINGS : Int32) (g_SIOOBE_FORMATTER : Value) (hW : own_W Z a0 g_COMPACT_STRINGS g_SIOOBE_FORMATTER) (b : Addr) (d : Addr) (kc : ClassId) (kd : ClassId) (c0 : Int32) (c1 : Int32) (c2 : Int32) (c3 : Int32) (h0 : Heap) (O0 : Old Z Z.heap.size h0) (hA : Arv Z h0 b kc .char (4 : Int32) [(.int c0), (.int c1), (.int c2), (.int c3)] (.int (0 : Int32))) (hD : Arv Z h0 d kd .byte (4 : Int32) [(.int (0 : Int32)), (.int (0 : Int32)), (.int (0 : Int32)), (.int (0 : Int32))] (.int (0 : Int32))) (hg : Z.heap.size ≤ d) (hne : b ≠ d) :
    own_Met l Z (⟨"java/lang/StringUTF16", "compress", "([CI[BII)I"⟩ : MethodName) jdk_52_method_21_code 7 (some .int) ({ frames := 0, cells := 0, slots := 0, locals := 0 } : Room) #[(.ref b), (.int (0 : Int32)), (.ref d), (.int (0 : Int32)), (.int (4 : Int32))] h0 (fun v h L => (∃ r, v = some (.int r) ∧ ((r = (4 : Int32) ∧ (∀ c ∈ [c0, c1, c2, c3], ¬ (255 : Int32) < c) ∧ Arv Z h d kd .byte (4 : Int32) (own_lat [c0, c1, c2, c3]) (.int (0 : Int32))) ∨ (0 ≤ r.toInt ∧ r.toInt < 4 ∧ (255 : Int32) < [c0, c1, c2, c3].getD r.toNatClampNeg (0 : Int32)))) ∧ Fr Z.heap.size L ∧ Keep h0 h [d]) := by
  have hW_ := hW
  obtain ⟨hw, S_g_COMPACT_STRINGS, P_g_COMPACT_STRINGS, R_g_SIOOBE_FORMATTER, S_g_SIOOBE_FORMATTER, S_g__assertionsDisabled, S_g_HI_BYTE_SHIFT, S_g_LO_BYTE_SHIFT⟩ := hW_
  refine own_met (plainFor_of_name pn_java_lang_StringUTF16) ?_
  intro p e s m below meth cc_ s₁ Φ hF X0 hx hby hml hZ hown hnm hret hlk e0
  have N0 := Fr.nil Z.heap.size
  refine own_k (T' := s₁) (g' := (mkF m 0 #[.val (.ref b), .val (.int (0 : Int32)), .val (.ref d), .val (.int (0 : Int32)), .val (.int (4 : Int32)), .unset, .unset] [])) (fun _ k_ => castTop (ef_5_RIRII m b (0 : Int32) d (0 : Int32) (4 : Int32)) k_) ?_
  refine own_k (T' := s₁) (g' := (mkF m 1 #[.val (.ref b), .val (.int (0 : Int32)), .val (.ref d), .val (.int (0 : Int32)), .val (.int (4 : Int32)), .unset, .unset] [(.int (0 : Int32))])) (fun _ k_ => XS.iconst X0.here hx rfl (hb hby d5_0) k_) ?_
  refine own_k (T' := s₁) (g' := (mkF m 3 #[.val (.ref b), .val (.int (0 : Int32)), .val (.ref d), .val (.int (0 : Int32)), .val (.int (4 : Int32)), .val (.int (0 : Int32)), .unset] [])) (fun _ k_ => XS.istore X0.here hx rfl (hb hby d5_1) rfl (l' := #[.val (.ref b), .val (.int (0 : Int32)), .val (.ref d), .val (.int (0 : Int32)), .val (.int (4 : Int32)), .val (.int (0 : Int32)), .unset]) rfl k_) ?_
  refine own_k (T' := s₁) (g' := (mkF m 5 #[.val (.ref b), .val (.int (0 : Int32)), .val (.ref d), .val (.int (0 : Int32)), .val (.int (4 : Int32)), .val (.int (0 : Int32)), .unset] [(.int (0 : Int32))])) (fun _ k_ => XS.iload X0.here hx rfl (hb hby d5_3) rfl  k_) ?_
  refine own_k (T' := s₁) (g' := (mkF m 7 #[.val (.ref b), .val (.int (0 : Int32)), .val (.ref d), .val (.int (0 : Int32)), .val (.int (4 : Int32)), .val (.int (0 : Int32)), .unset] [(.int (4 : Int32)), (.int (0 : Int32))])) (fun _ k_ => XS.iload X0.here hx rfl (hb hby d5_5) rfl  k_) ?_
  refine own_k (T' := s₁) (g' := (mkF m 10 #[.val (.ref b), .val (.int (0 : Int32)), .val (.ref d), .val (.int (0 : Int32)), .val (.int (4 : Int32)), .val (.int (0 : Int32)), .unset] [])) (fun _ k_ => XS.icmpNo X0.here hx rfl (hb hby d5_7) rfl ((tlt (by decide : ((0 : Int32) < (4 : Int32)))).2.1) k_) ?_
  refine own_k (T' := s₁) (g' := (mkF m 11 #[.val (.ref b), .val (.int (0 : Int32)), .val (.ref d), .val (.int (0 : Int32)), .val (.int (4 : Int32)), .val (.int (0 : Int32)), .unset] [(.ref b)])) (fun _ k_ => XS.aloadN X0.here hx rfl (hb hby d5_10) rfl rfl  k_) ?_
  refine own_k (T' := s₁) (g' := (mkF m 12 #[.val (.ref b), .val (.int (0 : Int32)), .val (.ref d), .val (.int (0 : Int32)), .val (.int (4 : Int32)), .val (.int (0 : Int32)), .unset] [(.int (0 : Int32)), (.ref b)])) (fun _ k_ => XS.iloadN X0.here hx rfl (hb hby d5_11) rfl  k_) ?_
  refine own_caload X0 hx hZ e0 hA (j := (0 : Int32)) ⟨by decide, by decide⟩ (v := (.int c0)) rfl (hb hby d5_12) ?_
  show own_Go p e below Φ s₁ (mkF m 13 #[.val (.ref b), .val (.int (0 : Int32)), .val (.ref d), .val (.int (0 : Int32)), .val (.int (4 : Int32)), .val (.int (0 : Int32)), .unset] [(.int c0)])
  refine own_k (T' := s₁) (g' := (mkF m 15 #[.val (.ref b), .val (.int (0 : Int32)), .val (.ref d), .val (.int (0 : Int32)), .val (.int (4 : Int32)), .val (.int (0 : Int32)), .val (.int c0)] [])) (fun _ k_ => XS.istore X0.here hx rfl (hb hby d5_13) rfl (l' := #[.val (.ref b), .val (.int (0 : Int32)), .val (.ref d), .val (.int (0 : Int32)), .val (.int (4 : Int32)), .val (.int (0 : Int32)), .val (.int c0)]) rfl k_) ?_
  refine own_k (T' := s₁) (g' := (mkF m 17 #[.val (.ref b), .val (.int (0 : Int32)), .val (.ref d), .val (.int (0 : Int32)), .val (.int (4 : Int32)), .val (.int (0 : Int32)), .val (.int c0)] [(.int c0)])) (fun _ k_ => XS.iload X0.here hx rfl (hb hby d5_15) rfl  k_) ?_
  refine own_k (T' := s₁) (g' := (mkF m 20 #[.val (.ref b), .val (.int (0 : Int32)), .val (.ref d), .val (.int (0 : Int32)), .val (.int (4 : Int32)), .val (.int (0 : Int32)), .val (.int c0)] [(.int (255 : Int32)), (.int c0)])) (fun _ k_ => XS.sipush X0.here hx rfl (hb hby d5_17) k_) ?_
  by_cases hc1 : (255 : Int32) < c0
  · refine own_k (T' := s₁) (g' := (mkF m 23 #[.val (.ref b), .val (.int (0 : Int32)), .val (.ref d), .val (.int (0 : Int32)), .val (.int (4 : Int32)), .val (.int (0 : Int32)), .val (.int c0)] [])) (fun _ k_ => XS.icmpNo X0.here hx rfl (hb hby d5_20) rfl ((tlt hc1).2.2.2) k_) ?_
    refine own_k (T' := s₁) (g' := (mkF m 25 #[.val (.ref b), .val (.int (0 : Int32)), .val (.ref d), .val (.int (0 : Int32)), .val (.int (4 : Int32)), .val (.int (0 : Int32)), .val (.int c0)] [(.int (0 : Int32))])) (fun _ k_ => XS.iload X0.here hx rfl (hb hby d5_23) rfl  k_) ?_
    have kp0 : Keep h0 h0 [d] := Keep.refl h0 [d]
    exact own_retI X0 hx hret hlk (hb hby d5_25) hF (by rw [e0]; exact ⟨⟨(0 : Int32), rfl, Or.inr ⟨by decide, by decide, hc1⟩⟩, N0, kp0⟩) (by decide) (by decide)
  · refine own_k (T' := s₁) (g' := (mkF m 26 #[.val (.ref b), .val (.int (0 : Int32)), .val (.ref d), .val (.int (0 : Int32)), .val (.int (4 : Int32)), .val (.int (0 : Int32)), .val (.int c0)] [])) (fun _ k_ => XS.icmpYes X0.here hx rfl (pc0 := 20) (pc' := 26) rfl (hb hby d5_20) rfl ((flt hc1).2.2.2) (by decide) (by decide) k_) ?_
    refine own_k (T' := s₁) (g' := (mkF m 27 #[.val (.ref b), .val (.int (0 : Int32)), .val (.ref d), .val (.int (0 : Int32)), .val (.int (4 : Int32)), .val (.int (0 : Int32)), .val (.int c0)] [(.ref d)])) (fun _ k_ => XS.aloadN X0.here hx rfl (hb hby d5_26) rfl rfl  k_) ?_
    refine own_k (T' := s₁) (g' := (mkF m 28 #[.val (.ref b), .val (.int (0 : Int32)), .val (.ref d), .val (.int (0 : Int32)), .val (.int (4 : Int32)), .val (.int (0 : Int32)), .val (.int c0)] [(.int (0 : Int32)), (.ref d)])) (fun _ k_ => XS.iloadN X0.here hx rfl (hb hby d5_27) rfl  k_) ?_
    refine own_k (T' := s₁) (g' := (mkF m 30 #[.val (.ref b), .val (.int (0 : Int32)), .val (.ref d), .val (.int (0 : Int32)), .val (.int (4 : Int32)), .val (.int (0 : Int32)), .val (.int c0)] [(.int c0), (.int (0 : Int32)), (.ref d)])) (fun _ k_ => XS.iload X0.here hx rfl (hb hby d5_28) rfl  k_) ?_
    refine own_k (T' := s₁) (g' := (mkF m 31 #[.val (.ref b), .val (.int (0 : Int32)), .val (.ref d), .val (.int (0 : Int32)), .val (.int (4 : Int32)), .val (.int (0 : Int32)), .val (.int c0)] [(.int (c0.toInt8.toInt32)), (.int (0 : Int32)), (.ref d)])) (fun _ k_ => XS.i2b X0.here hx rfl (hb hby d5_30) rfl k_) ?_
    obtain ⟨T2, h2, X2, e2, W2, V2, st2⟩ := own_bastore (pc := 31) (Ls := #[.val (.ref b), .val (.int (0 : Int32)), .val (.ref d), .val (.int (0 : Int32)), .val (.int (4 : Int32)), .val (.int (0 : Int32)), .val (.int c0)]) (rest := []) X0 hx hZ e0 hD (j := (0 : Int32)) (x := (c0.toInt8.toInt32)) ⟨by decide, by decide⟩ 0 rfl (Nat.le_of_ble_eq_true rfl) (hb hby d5_31)
    have V2 : Arv Z h2 d kd .byte (4 : Int32) [(.int (nar .byte (c0.toInt8.toInt32))), (.int (0 : Int32)), (.int (0 : Int32)), (.int (0 : Int32))] (.int (0 : Int32)) := V2
    rw [show nar .byte (c0.toInt8.toInt32) = (c0.toInt8.toInt32) from own_nar_byte _] at V2
    have O2' := O0.wr W2 hg
    have N2 := Fr.snoc X2 N0 hg
    refine own_k (T' := T2) (g' := (mkF m 32 #[.val (.ref b), .val (.int (0 : Int32)), .val (.ref d), .val (.int (0 : Int32)), .val (.int (4 : Int32)), .val (.int (0 : Int32)), .val (.int c0)] [])) st2 ?_
    refine own_k (T' := T2) (g' := (mkF m 35 #[.val (.ref b), .val (.int ((0 : Int32) + (1 : Int32))), .val (.ref d), .val (.int (0 : Int32)), .val (.int (4 : Int32)), .val (.int (0 : Int32)), .val (.int c0)] [])) (fun _ k_ => XS.iinc X2.here hx rfl (hb hby d5_32) rfl (l' := #[.val (.ref b), .val (.int ((0 : Int32) + (1 : Int32))), .val (.ref d), .val (.int (0 : Int32)), .val (.int (4 : Int32)), .val (.int (0 : Int32)), .val (.int c0)]) rfl k_) ?_
    rw [show ((0 : Int32) + (1 : Int32)) = (1 : Int32) from by decide]
    refine own_k (T' := T2) (g' := (mkF m 38 #[.val (.ref b), .val (.int (1 : Int32)), .val (.ref d), .val (.int ((0 : Int32) + (1 : Int32))), .val (.int (4 : Int32)), .val (.int (0 : Int32)), .val (.int c0)] [])) (fun _ k_ => XS.iinc X2.here hx rfl (hb hby d5_35) rfl (l' := #[.val (.ref b), .val (.int (1 : Int32)), .val (.ref d), .val (.int ((0 : Int32) + (1 : Int32))), .val (.int (4 : Int32)), .val (.int (0 : Int32)), .val (.int c0)]) rfl k_) ?_
    rw [show ((0 : Int32) + (1 : Int32)) = (1 : Int32) from by decide]
    refine own_k (T' := T2) (g' := (mkF m 41 #[.val (.ref b), .val (.int (1 : Int32)), .val (.ref d), .val (.int (1 : Int32)), .val (.int (4 : Int32)), .val (.int ((0 : Int32) + (1 : Int32))), .val (.int c0)] [])) (fun _ k_ => XS.iinc X2.here hx rfl (hb hby d5_38) rfl (l' := #[.val (.ref b), .val (.int (1 : Int32)), .val (.ref d), .val (.int (1 : Int32)), .val (.int (4 : Int32)), .val (.int ((0 : Int32) + (1 : Int32))), .val (.int c0)]) rfl k_) ?_
    rw [show ((0 : Int32) + (1 : Int32)) = (1 : Int32) from by decide]
    refine own_k (T' := T2) (g' := (mkF m 3 #[.val (.ref b), .val (.int (1 : Int32)), .val (.ref d), .val (.int (1 : Int32)), .val (.int (4 : Int32)), .val (.int (1 : Int32)), .val (.int c0)] [])) (fun _ k_ => XS.goto X2.here hx rfl (pc0 := 41) (pc' := 3) rfl (hb hby d5_41) (by decide) (by decide) k_) ?_
    refine own_k (T' := T2) (g' := (mkF m 5 #[.val (.ref b), .val (.int (1 : Int32)), .val (.ref d), .val (.int (1 : Int32)), .val (.int (4 : Int32)), .val (.int (1 : Int32)), .val (.int c0)] [(.int (1 : Int32))])) (fun _ k_ => XS.iload X2.here hx rfl (hb hby d5_3) rfl  k_) ?_
    refine own_k (T' := T2) (g' := (mkF m 7 #[.val (.ref b), .val (.int (1 : Int32)), .val (.ref d), .val (.int (1 : Int32)), .val (.int (4 : Int32)), .val (.int (1 : Int32)), .val (.int c0)] [(.int (4 : Int32)), (.int (1 : Int32))])) (fun _ k_ => XS.iload X2.here hx rfl (hb hby d5_5) rfl  k_) ?_
    refine own_k (T' := T2) (g' := (mkF m 10 #[.val (.ref b), .val (.int (1 : Int32)), .val (.ref d), .val (.int (1 : Int32)), .val (.int (4 : Int32)), .val (.int (1 : Int32)), .val (.int c0)] [])) (fun _ k_ => XS.icmpNo X2.here hx rfl (hb hby d5_7) rfl ((tlt (by decide : ((1 : Int32) < (4 : Int32)))).2.1) k_) ?_
    refine own_k (T' := T2) (g' := (mkF m 11 #[.val (.ref b), .val (.int (1 : Int32)), .val (.ref d), .val (.int (1 : Int32)), .val (.int (4 : Int32)), .val (.int (1 : Int32)), .val (.int c0)] [(.ref b)])) (fun _ k_ => XS.aloadN X2.here hx rfl (hb hby d5_10) rfl rfl  k_) ?_
    refine own_k (T' := T2) (g' := (mkF m 12 #[.val (.ref b), .val (.int (1 : Int32)), .val (.ref d), .val (.int (1 : Int32)), .val (.int (4 : Int32)), .val (.int (1 : Int32)), .val (.int c0)] [(.int (1 : Int32)), (.ref b)])) (fun _ k_ => XS.iloadN X2.here hx rfl (hb hby d5_11) rfl  k_) ?_
    refine own_caload X2 hx hZ e2 (hA.other W2 hne) (j := (1 : Int32)) ⟨by decide, by decide⟩ (v := (.int c1)) rfl (hb hby d5_12) ?_
    show own_Go p e below Φ T2 (mkF m 13 #[.val (.ref b), .val (.int (1 : Int32)), .val (.ref d), .val (.int (1 : Int32)), .val (.int (4 : Int32)), .val (.int (1 : Int32)), .val (.int c0)] [(.int c1)])
    refine own_k (T' := T2) (g' := (mkF m 15 #[.val (.ref b), .val (.int (1 : Int32)), .val (.ref d), .val (.int (1 : Int32)), .val (.int (4 : Int32)), .val (.int (1 : Int32)), .val (.int c1)] [])) (fun _ k_ => XS.istore X2.here hx rfl (hb hby d5_13) rfl (l' := #[.val (.ref b), .val (.int (1 : Int32)), .val (.ref d), .val (.int (1 : Int32)), .val (.int (4 : Int32)), .val (.int (1 : Int32)), .val (.int c1)]) rfl k_) ?_
    refine own_k (T' := T2) (g' := (mkF m 17 #[.val (.ref b), .val (.int (1 : Int32)), .val (.ref d), .val (.int (1 : Int32)), .val (.int (4 : Int32)), .val (.int (1 : Int32)), .val (.int c1)] [(.int c1)])) (fun _ k_ => XS.iload X2.here hx rfl (hb hby d5_15) rfl  k_) ?_
    refine own_k (T' := T2) (g' := (mkF m 20 #[.val (.ref b), .val (.int (1 : Int32)), .val (.ref d), .val (.int (1 : Int32)), .val (.int (4 : Int32)), .val (.int (1 : Int32)), .val (.int c1)] [(.int (255 : Int32)), (.int c1)])) (fun _ k_ => XS.sipush X2.here hx rfl (hb hby d5_17) k_) ?_
    by_cases hc3 : (255 : Int32) < c1
    · refine own_k (T' := T2) (g' := (mkF m 23 #[.val (.ref b), .val (.int (1 : Int32)), .val (.ref d), .val (.int (1 : Int32)), .val (.int (4 : Int32)), .val (.int (1 : Int32)), .val (.int c1)] [])) (fun _ k_ => XS.icmpNo X2.here hx rfl (hb hby d5_20) rfl ((tlt hc3).2.2.2) k_) ?_
      refine own_k (T' := T2) (g' := (mkF m 25 #[.val (.ref b), .val (.int (1 : Int32)), .val (.ref d), .val (.int (1 : Int32)), .val (.int (4 : Int32)), .val (.int (1 : Int32)), .val (.int c1)] [(.int (1 : Int32))])) (fun _ k_ => XS.iload X2.here hx rfl (hb hby d5_23) rfl  k_) ?_
      have kp0 : Keep h0 h0 [d] := Keep.refl h0 [d]
      have kp1 : Keep h0 h2 [d] := kp0.wr W2 (Or.inl (List.mem_of_getElem? (i := 0) rfl))
      exact own_retI X2 hx hret hlk (hb hby d5_25) hF (by rw [e2]; exact ⟨⟨(1 : Int32), rfl, Or.inr ⟨by decide, by decide, hc3⟩⟩, N2, kp1⟩) (by decide) (by decide)
    · refine own_k (T' := T2) (g' := (mkF m 26 #[.val (.ref b), .val (.int (1 : Int32)), .val (.ref d), .val (.int (1 : Int32)), .val (.int (4 : Int32)), .val (.int (1 : Int32)), .val (.int c1)] [])) (fun _ k_ => XS.icmpYes X2.here hx rfl (pc0 := 20) (pc' := 26) rfl (hb hby d5_20) rfl ((flt hc3).2.2.2) (by decide) (by decide) k_) ?_
      refine own_k (T' := T2) (g' := (mkF m 27 #[.val (.ref b), .val (.int (1 : Int32)), .val (.ref d), .val (.int (1 : Int32)), .val (.int (4 : Int32)), .val (.int (1 : Int32)), .val (.int c1)] [(.ref d)])) (fun _ k_ => XS.aloadN X2.here hx rfl (hb hby d5_26) rfl rfl  k_) ?_
      refine own_k (T' := T2) (g' := (mkF m 28 #[.val (.ref b), .val (.int (1 : Int32)), .val (.ref d), .val (.int (1 : Int32)), .val (.int (4 : Int32)), .val (.int (1 : Int32)), .val (.int c1)] [(.int (1 : Int32)), (.ref d)])) (fun _ k_ => XS.iloadN X2.here hx rfl (hb hby d5_27) rfl  k_) ?_
      refine own_k (T' := T2) (g' := (mkF m 30 #[.val (.ref b), .val (.int (1 : Int32)), .val (.ref d), .val (.int (1 : Int32)), .val (.int (4 : Int32)), .val (.int (1 : Int32)), .val (.int c1)] [(.int c1), (.int (1 : Int32)), (.ref d)])) (fun _ k_ => XS.iload X2.here hx rfl (hb hby d5_28) rfl  k_) ?_
      refine own_k (T' := T2) (g' := (mkF m 31 #[.val (.ref b), .val (.int (1 : Int32)), .val (.ref d), .val (.int (1 : Int32)), .val (.int (4 : Int32)), .val (.int (1 : Int32)), .val (.int c1)] [(.int (c1.toInt8.toInt32)), (.int (1 : Int32)), (.ref d)])) (fun _ k_ => XS.i2b X2.here hx rfl (hb hby d5_30) rfl k_) ?_
      obtain ⟨T4, h4, X4, e4, W4, V4, st4⟩ := own_bastore (pc := 31) (Ls := #[.val (.ref b), .val (.int (1 : Int32)), .val (.ref d), .val (.int (1 : Int32)), .val (.int (4 : Int32)), .val (.int (1 : Int32)), .val (.int c1)]) (rest := []) X2 hx hZ e2 V2 (j := (1 : Int32)) (x := (c1.toInt8.toInt32)) ⟨by decide, by decide⟩ 1 rfl (Nat.le_of_ble_eq_true rfl) (hb hby d5_31)
      have V4 : Arv Z h4 d kd .byte (4 : Int32) [(.int (c0.toInt8.toInt32)), (.int (nar .byte (c1.toInt8.toInt32))), (.int (0 : Int32)), (.int (0 : Int32))] (.int (0 : Int32)) := V4
      rw [show nar .byte (c1.toInt8.toInt32) = (c1.toInt8.toInt32) from own_nar_byte _] at V4
      have O4' := O2'.wr W4 hg
      have N4 := Fr.snoc X4 N2 hg
      refine own_k (T' := T4) (g' := (mkF m 32 #[.val (.ref b), .val (.int (1 : Int32)), .val (.ref d), .val (.int (1 : Int32)), .val (.int (4 : Int32)), .val (.int (1 : Int32)), .val (.int c1)] [])) st4 ?_
      refine own_k (T' := T4) (g' := (mkF m 35 #[.val (.ref b), .val (.int ((1 : Int32) + (1 : Int32))), .val (.ref d), .val (.int (1 : Int32)), .val (.int (4 : Int32)), .val (.int (1 : Int32)), .val (.int c1)] [])) (fun _ k_ => XS.iinc X4.here hx rfl (hb hby d5_32) rfl (l' := #[.val (.ref b), .val (.int ((1 : Int32) + (1 : Int32))), .val (.ref d), .val (.int (1 : Int32)), .val (.int (4 : Int32)), .val (.int (1 : Int32)), .val (.int c1)]) rfl k_) ?_
      rw [show ((1 : Int32) + (1 : Int32)) = (2 : Int32) from by decide]
      refine own_k (T' := T4) (g' := (mkF m 38 #[.val (.ref b), .val (.int (2 : Int32)), .val (.ref d), .val (.int ((1 : Int32) + (1 : Int32))), .val (.int (4 : Int32)), .val (.int (1 : Int32)), .val (.int c1)] [])) (fun _ k_ => XS.iinc X4.here hx rfl (hb hby d5_35) rfl (l' := #[.val (.ref b), .val (.int (2 : Int32)), .val (.ref d), .val (.int ((1 : Int32) + (1 : Int32))), .val (.int (4 : Int32)), .val (.int (1 : Int32)), .val (.int c1)]) rfl k_) ?_
      rw [show ((1 : Int32) + (1 : Int32)) = (2 : Int32) from by decide]
      refine own_k (T' := T4) (g' := (mkF m 41 #[.val (.ref b), .val (.int (2 : Int32)), .val (.ref d), .val (.int (2 : Int32)), .val (.int (4 : Int32)), .val (.int ((1 : Int32) + (1 : Int32))), .val (.int c1)] [])) (fun _ k_ => XS.iinc X4.here hx rfl (hb hby d5_38) rfl (l' := #[.val (.ref b), .val (.int (2 : Int32)), .val (.ref d), .val (.int (2 : Int32)), .val (.int (4 : Int32)), .val (.int ((1 : Int32) + (1 : Int32))), .val (.int c1)]) rfl k_) ?_
      rw [show ((1 : Int32) + (1 : Int32)) = (2 : Int32) from by decide]
      refine own_k (T' := T4) (g' := (mkF m 3 #[.val (.ref b), .val (.int (2 : Int32)), .val (.ref d), .val (.int (2 : Int32)), .val (.int (4 : Int32)), .val (.int (2 : Int32)), .val (.int c1)] [])) (fun _ k_ => XS.goto X4.here hx rfl (pc0 := 41) (pc' := 3) rfl (hb hby d5_41) (by decide) (by decide) k_) ?_
      refine own_k (T' := T4) (g' := (mkF m 5 #[.val (.ref b), .val (.int (2 : Int32)), .val (.ref d), .val (.int (2 : Int32)), .val (.int (4 : Int32)), .val (.int (2 : Int32)), .val (.int c1)] [(.int (2 : Int32))])) (fun _ k_ => XS.iload X4.here hx rfl (hb hby d5_3) rfl  k_) ?_
      refine own_k (T' := T4) (g' := (mkF m 7 #[.val (.ref b), .val (.int (2 : Int32)), .val (.ref d), .val (.int (2 : Int32)), .val (.int (4 : Int32)), .val (.int (2 : Int32)), .val (.int c1)] [(.int (4 : Int32)), (.int (2 : Int32))])) (fun _ k_ => XS.iload X4.here hx rfl (hb hby d5_5) rfl  k_) ?_
      refine own_k (T' := T4) (g' := (mkF m 10 #[.val (.ref b), .val (.int (2 : Int32)), .val (.ref d), .val (.int (2 : Int32)), .val (.int (4 : Int32)), .val (.int (2 : Int32)), .val (.int c1)] [])) (fun _ k_ => XS.icmpNo X4.here hx rfl (hb hby d5_7) rfl ((tlt (by decide : ((2 : Int32) < (4 : Int32)))).2.1) k_) ?_
      refine own_k (T' := T4) (g' := (mkF m 11 #[.val (.ref b), .val (.int (2 : Int32)), .val (.ref d), .val (.int (2 : Int32)), .val (.int (4 : Int32)), .val (.int (2 : Int32)), .val (.int c1)] [(.ref b)])) (fun _ k_ => XS.aloadN X4.here hx rfl (hb hby d5_10) rfl rfl  k_) ?_
      refine own_k (T' := T4) (g' := (mkF m 12 #[.val (.ref b), .val (.int (2 : Int32)), .val (.ref d), .val (.int (2 : Int32)), .val (.int (4 : Int32)), .val (.int (2 : Int32)), .val (.int c1)] [(.int (2 : Int32)), (.ref b)])) (fun _ k_ => XS.iloadN X4.here hx rfl (hb hby d5_11) rfl  k_) ?_
      refine own_caload X4 hx hZ e4 ((hA.other W2 hne).other W4 hne) (j := (2 : Int32)) ⟨by decide, by decide⟩ (v := (.int c2)) rfl (hb hby d5_12) ?_
      show own_Go p e below Φ T4 (mkF m 13 #[.val (.ref b), .val (.int (2 : Int32)), .val (.ref d), .val (.int (2 : Int32)), .val (.int (4 : Int32)), .val (.int (2 : Int32)), .val (.int c1)] [(.int c2)])
      refine own_k (T' := T4) (g' := (mkF m 15 #[.val (.ref b), .val (.int (2 : Int32)), .val (.ref d), .val (.int (2 : Int32)), .val (.int (4 : Int32)), .val (.int (2 : Int32)), .val (.int c2)] [])) (fun _ k_ => XS.istore X4.here hx rfl (hb hby d5_13) rfl (l' := #[.val (.ref b), .val (.int (2 : Int32)), .val (.ref d), .val (.int (2 : Int32)), .val (.int (4 : Int32)), .val (.int (2 : Int32)), .val (.int c2)]) rfl k_) ?_
      refine own_k (T' := T4) (g' := (mkF m 17 #[.val (.ref b), .val (.int (2 : Int32)), .val (.ref d), .val (.int (2 : Int32)), .val (.int (4 : Int32)), .val (.int (2 : Int32)), .val (.int c2)] [(.int c2)])) (fun _ k_ => XS.iload X4.here hx rfl (hb hby d5_15) rfl  k_) ?_
      refine own_k (T' := T4) (g' := (mkF m 20 #[.val (.ref b), .val (.int (2 : Int32)), .val (.ref d), .val (.int (2 : Int32)), .val (.int (4 : Int32)), .val (.int (2 : Int32)), .val (.int c2)] [(.int (255 : Int32)), (.int c2)])) (fun _ k_ => XS.sipush X4.here hx rfl (hb hby d5_17) k_) ?_
      by_cases hc5 : (255 : Int32) < c2
      · refine own_k (T' := T4) (g' := (mkF m 23 #[.val (.ref b), .val (.int (2 : Int32)), .val (.ref d), .val (.int (2 : Int32)), .val (.int (4 : Int32)), .val (.int (2 : Int32)), .val (.int c2)] [])) (fun _ k_ => XS.icmpNo X4.here hx rfl (hb hby d5_20) rfl ((tlt hc5).2.2.2) k_) ?_
        refine own_k (T' := T4) (g' := (mkF m 25 #[.val (.ref b), .val (.int (2 : Int32)), .val (.ref d), .val (.int (2 : Int32)), .val (.int (4 : Int32)), .val (.int (2 : Int32)), .val (.int c2)] [(.int (2 : Int32))])) (fun _ k_ => XS.iload X4.here hx rfl (hb hby d5_23) rfl  k_) ?_
        have kp0 : Keep h0 h0 [d] := Keep.refl h0 [d]
        have kp1 : Keep h0 h2 [d] := kp0.wr W2 (Or.inl (List.mem_of_getElem? (i := 0) rfl))
        have kp2 : Keep h0 h4 [d] := kp1.wr W4 (Or.inl (List.mem_of_getElem? (i := 0) rfl))
        exact own_retI X4 hx hret hlk (hb hby d5_25) hF (by rw [e4]; exact ⟨⟨(2 : Int32), rfl, Or.inr ⟨by decide, by decide, hc5⟩⟩, N4, kp2⟩) (by decide) (by decide)
      · refine own_k (T' := T4) (g' := (mkF m 26 #[.val (.ref b), .val (.int (2 : Int32)), .val (.ref d), .val (.int (2 : Int32)), .val (.int (4 : Int32)), .val (.int (2 : Int32)), .val (.int c2)] [])) (fun _ k_ => XS.icmpYes X4.here hx rfl (pc0 := 20) (pc' := 26) rfl (hb hby d5_20) rfl ((flt hc5).2.2.2) (by decide) (by decide) k_) ?_
        refine own_k (T' := T4) (g' := (mkF m 27 #[.val (.ref b), .val (.int (2 : Int32)), .val (.ref d), .val (.int (2 : Int32)), .val (.int (4 : Int32)), .val (.int (2 : Int32)), .val (.int c2)] [(.ref d)])) (fun _ k_ => XS.aloadN X4.here hx rfl (hb hby d5_26) rfl rfl  k_) ?_
        refine own_k (T' := T4) (g' := (mkF m 28 #[.val (.ref b), .val (.int (2 : Int32)), .val (.ref d), .val (.int (2 : Int32)), .val (.int (4 : Int32)), .val (.int (2 : Int32)), .val (.int c2)] [(.int (2 : Int32)), (.ref d)])) (fun _ k_ => XS.iloadN X4.here hx rfl (hb hby d5_27) rfl  k_) ?_
        refine own_k (T' := T4) (g' := (mkF m 30 #[.val (.ref b), .val (.int (2 : Int32)), .val (.ref d), .val (.int (2 : Int32)), .val (.int (4 : Int32)), .val (.int (2 : Int32)), .val (.int c2)] [(.int c2), (.int (2 : Int32)), (.ref d)])) (fun _ k_ => XS.iload X4.here hx rfl (hb hby d5_28) rfl  k_) ?_
        refine own_k (T' := T4) (g' := (mkF m 31 #[.val (.ref b), .val (.int (2 : Int32)), .val (.ref d), .val (.int (2 : Int32)), .val (.int (4 : Int32)), .val (.int (2 : Int32)), .val (.int c2)] [(.int (c2.toInt8.toInt32)), (.int (2 : Int32)), (.ref d)])) (fun _ k_ => XS.i2b X4.here hx rfl (hb hby d5_30) rfl k_) ?_
        obtain ⟨T6, h6, X6, e6, W6, V6, st6⟩ := own_bastore (pc := 31) (Ls := #[.val (.ref b), .val (.int (2 : Int32)), .val (.ref d), .val (.int (2 : Int32)), .val (.int (4 : Int32)), .val (.int (2 : Int32)), .val (.int c2)]) (rest := []) X4 hx hZ e4 V4 (j := (2 : Int32)) (x := (c2.toInt8.toInt32)) ⟨by decide, by decide⟩ 2 rfl (Nat.le_of_ble_eq_true rfl) (hb hby d5_31)
        have V6 : Arv Z h6 d kd .byte (4 : Int32) [(.int (c0.toInt8.toInt32)), (.int (c1.toInt8.toInt32)), (.int (nar .byte (c2.toInt8.toInt32))), (.int (0 : Int32))] (.int (0 : Int32)) := V6
        rw [show nar .byte (c2.toInt8.toInt32) = (c2.toInt8.toInt32) from own_nar_byte _] at V6
        have O6' := O4'.wr W6 hg
        have N6 := Fr.snoc X6 N4 hg
        refine own_k (T' := T6) (g' := (mkF m 32 #[.val (.ref b), .val (.int (2 : Int32)), .val (.ref d), .val (.int (2 : Int32)), .val (.int (4 : Int32)), .val (.int (2 : Int32)), .val (.int c2)] [])) st6 ?_
        refine own_k (T' := T6) (g' := (mkF m 35 #[.val (.ref b), .val (.int ((2 : Int32) + (1 : Int32))), .val (.ref d), .val (.int (2 : Int32)), .val (.int (4 : Int32)), .val (.int (2 : Int32)), .val (.int c2)] [])) (fun _ k_ => XS.iinc X6.here hx rfl (hb hby d5_32) rfl (l' := #[.val (.ref b), .val (.int ((2 : Int32) + (1 : Int32))), .val (.ref d), .val (.int (2 : Int32)), .val (.int (4 : Int32)), .val (.int (2 : Int32)), .val (.int c2)]) rfl k_) ?_
        rw [show ((2 : Int32) + (1 : Int32)) = (3 : Int32) from by decide]
        refine own_k (T' := T6) (g' := (mkF m 38 #[.val (.ref b), .val (.int (3 : Int32)), .val (.ref d), .val (.int ((2 : Int32) + (1 : Int32))), .val (.int (4 : Int32)), .val (.int (2 : Int32)), .val (.int c2)] [])) (fun _ k_ => XS.iinc X6.here hx rfl (hb hby d5_35) rfl (l' := #[.val (.ref b), .val (.int (3 : Int32)), .val (.ref d), .val (.int ((2 : Int32) + (1 : Int32))), .val (.int (4 : Int32)), .val (.int (2 : Int32)), .val (.int c2)]) rfl k_) ?_
        rw [show ((2 : Int32) + (1 : Int32)) = (3 : Int32) from by decide]
        refine own_k (T' := T6) (g' := (mkF m 41 #[.val (.ref b), .val (.int (3 : Int32)), .val (.ref d), .val (.int (3 : Int32)), .val (.int (4 : Int32)), .val (.int ((2 : Int32) + (1 : Int32))), .val (.int c2)] [])) (fun _ k_ => XS.iinc X6.here hx rfl (hb hby d5_38) rfl (l' := #[.val (.ref b), .val (.int (3 : Int32)), .val (.ref d), .val (.int (3 : Int32)), .val (.int (4 : Int32)), .val (.int ((2 : Int32) + (1 : Int32))), .val (.int c2)]) rfl k_) ?_
        rw [show ((2 : Int32) + (1 : Int32)) = (3 : Int32) from by decide]
        refine own_k (T' := T6) (g' := (mkF m 3 #[.val (.ref b), .val (.int (3 : Int32)), .val (.ref d), .val (.int (3 : Int32)), .val (.int (4 : Int32)), .val (.int (3 : Int32)), .val (.int c2)] [])) (fun _ k_ => XS.goto X6.here hx rfl (pc0 := 41) (pc' := 3) rfl (hb hby d5_41) (by decide) (by decide) k_) ?_
        refine own_k (T' := T6) (g' := (mkF m 5 #[.val (.ref b), .val (.int (3 : Int32)), .val (.ref d), .val (.int (3 : Int32)), .val (.int (4 : Int32)), .val (.int (3 : Int32)), .val (.int c2)] [(.int (3 : Int32))])) (fun _ k_ => XS.iload X6.here hx rfl (hb hby d5_3) rfl  k_) ?_
        refine own_k (T' := T6) (g' := (mkF m 7 #[.val (.ref b), .val (.int (3 : Int32)), .val (.ref d), .val (.int (3 : Int32)), .val (.int (4 : Int32)), .val (.int (3 : Int32)), .val (.int c2)] [(.int (4 : Int32)), (.int (3 : Int32))])) (fun _ k_ => XS.iload X6.here hx rfl (hb hby d5_5) rfl  k_) ?_
        refine own_k (T' := T6) (g' := (mkF m 10 #[.val (.ref b), .val (.int (3 : Int32)), .val (.ref d), .val (.int (3 : Int32)), .val (.int (4 : Int32)), .val (.int (3 : Int32)), .val (.int c2)] [])) (fun _ k_ => XS.icmpNo X6.here hx rfl (hb hby d5_7) rfl ((tlt (by decide : ((3 : Int32) < (4 : Int32)))).2.1) k_) ?_
        refine own_k (T' := T6) (g' := (mkF m 11 #[.val (.ref b), .val (.int (3 : Int32)), .val (.ref d), .val (.int (3 : Int32)), .val (.int (4 : Int32)), .val (.int (3 : Int32)), .val (.int c2)] [(.ref b)])) (fun _ k_ => XS.aloadN X6.here hx rfl (hb hby d5_10) rfl rfl  k_) ?_
        refine own_k (T' := T6) (g' := (mkF m 12 #[.val (.ref b), .val (.int (3 : Int32)), .val (.ref d), .val (.int (3 : Int32)), .val (.int (4 : Int32)), .val (.int (3 : Int32)), .val (.int c2)] [(.int (3 : Int32)), (.ref b)])) (fun _ k_ => XS.iloadN X6.here hx rfl (hb hby d5_11) rfl  k_) ?_
        refine own_caload X6 hx hZ e6 (((hA.other W2 hne).other W4 hne).other W6 hne) (j := (3 : Int32)) ⟨by decide, by decide⟩ (v := (.int c3)) rfl (hb hby d5_12) ?_
        show own_Go p e below Φ T6 (mkF m 13 #[.val (.ref b), .val (.int (3 : Int32)), .val (.ref d), .val (.int (3 : Int32)), .val (.int (4 : Int32)), .val (.int (3 : Int32)), .val (.int c2)] [(.int c3)])
        refine own_k (T' := T6) (g' := (mkF m 15 #[.val (.ref b), .val (.int (3 : Int32)), .val (.ref d), .val (.int (3 : Int32)), .val (.int (4 : Int32)), .val (.int (3 : Int32)), .val (.int c3)] [])) (fun _ k_ => XS.istore X6.here hx rfl (hb hby d5_13) rfl (l' := #[.val (.ref b), .val (.int (3 : Int32)), .val (.ref d), .val (.int (3 : Int32)), .val (.int (4 : Int32)), .val (.int (3 : Int32)), .val (.int c3)]) rfl k_) ?_
        refine own_k (T' := T6) (g' := (mkF m 17 #[.val (.ref b), .val (.int (3 : Int32)), .val (.ref d), .val (.int (3 : Int32)), .val (.int (4 : Int32)), .val (.int (3 : Int32)), .val (.int c3)] [(.int c3)])) (fun _ k_ => XS.iload X6.here hx rfl (hb hby d5_15) rfl  k_) ?_
        refine own_k (T' := T6) (g' := (mkF m 20 #[.val (.ref b), .val (.int (3 : Int32)), .val (.ref d), .val (.int (3 : Int32)), .val (.int (4 : Int32)), .val (.int (3 : Int32)), .val (.int c3)] [(.int (255 : Int32)), (.int c3)])) (fun _ k_ => XS.sipush X6.here hx rfl (hb hby d5_17) k_) ?_
        by_cases hc7 : (255 : Int32) < c3
        · refine own_k (T' := T6) (g' := (mkF m 23 #[.val (.ref b), .val (.int (3 : Int32)), .val (.ref d), .val (.int (3 : Int32)), .val (.int (4 : Int32)), .val (.int (3 : Int32)), .val (.int c3)] [])) (fun _ k_ => XS.icmpNo X6.here hx rfl (hb hby d5_20) rfl ((tlt hc7).2.2.2) k_) ?_
          refine own_k (T' := T6) (g' := (mkF m 25 #[.val (.ref b), .val (.int (3 : Int32)), .val (.ref d), .val (.int (3 : Int32)), .val (.int (4 : Int32)), .val (.int (3 : Int32)), .val (.int c3)] [(.int (3 : Int32))])) (fun _ k_ => XS.iload X6.here hx rfl (hb hby d5_23) rfl  k_) ?_
          have kp0 : Keep h0 h0 [d] := Keep.refl h0 [d]
          have kp1 : Keep h0 h2 [d] := kp0.wr W2 (Or.inl (List.mem_of_getElem? (i := 0) rfl))
          have kp2 : Keep h0 h4 [d] := kp1.wr W4 (Or.inl (List.mem_of_getElem? (i := 0) rfl))
          have kp3 : Keep h0 h6 [d] := kp2.wr W6 (Or.inl (List.mem_of_getElem? (i := 0) rfl))
          exact own_retI X6 hx hret hlk (hb hby d5_25) hF (by rw [e6]; exact ⟨⟨(3 : Int32), rfl, Or.inr ⟨by decide, by decide, hc7⟩⟩, N6, kp3⟩) (by decide) (by decide)
        · refine own_k (T' := T6) (g' := (mkF m 26 #[.val (.ref b), .val (.int (3 : Int32)), .val (.ref d), .val (.int (3 : Int32)), .val (.int (4 : Int32)), .val (.int (3 : Int32)), .val (.int c3)] [])) (fun _ k_ => XS.icmpYes X6.here hx rfl (pc0 := 20) (pc' := 26) rfl (hb hby d5_20) rfl ((flt hc7).2.2.2) (by decide) (by decide) k_) ?_
          refine own_k (T' := T6) (g' := (mkF m 27 #[.val (.ref b), .val (.int (3 : Int32)), .val (.ref d), .val (.int (3 : Int32)), .val (.int (4 : Int32)), .val (.int (3 : Int32)), .val (.int c3)] [(.ref d)])) (fun _ k_ => XS.aloadN X6.here hx rfl (hb hby d5_26) rfl rfl  k_) ?_
          refine own_k (T' := T6) (g' := (mkF m 28 #[.val (.ref b), .val (.int (3 : Int32)), .val (.ref d), .val (.int (3 : Int32)), .val (.int (4 : Int32)), .val (.int (3 : Int32)), .val (.int c3)] [(.int (3 : Int32)), (.ref d)])) (fun _ k_ => XS.iloadN X6.here hx rfl (hb hby d5_27) rfl  k_) ?_
          refine own_k (T' := T6) (g' := (mkF m 30 #[.val (.ref b), .val (.int (3 : Int32)), .val (.ref d), .val (.int (3 : Int32)), .val (.int (4 : Int32)), .val (.int (3 : Int32)), .val (.int c3)] [(.int c3), (.int (3 : Int32)), (.ref d)])) (fun _ k_ => XS.iload X6.here hx rfl (hb hby d5_28) rfl  k_) ?_
          refine own_k (T' := T6) (g' := (mkF m 31 #[.val (.ref b), .val (.int (3 : Int32)), .val (.ref d), .val (.int (3 : Int32)), .val (.int (4 : Int32)), .val (.int (3 : Int32)), .val (.int c3)] [(.int (c3.toInt8.toInt32)), (.int (3 : Int32)), (.ref d)])) (fun _ k_ => XS.i2b X6.here hx rfl (hb hby d5_30) rfl k_) ?_
          obtain ⟨T8, h8, X8, e8, W8, V8, st8⟩ := own_bastore (pc := 31) (Ls := #[.val (.ref b), .val (.int (3 : Int32)), .val (.ref d), .val (.int (3 : Int32)), .val (.int (4 : Int32)), .val (.int (3 : Int32)), .val (.int c3)]) (rest := []) X6 hx hZ e6 V6 (j := (3 : Int32)) (x := (c3.toInt8.toInt32)) ⟨by decide, by decide⟩ 3 rfl (Nat.le_of_ble_eq_true rfl) (hb hby d5_31)
          have V8 : Arv Z h8 d kd .byte (4 : Int32) [(.int (c0.toInt8.toInt32)), (.int (c1.toInt8.toInt32)), (.int (c2.toInt8.toInt32)), (.int (nar .byte (c3.toInt8.toInt32)))] (.int (0 : Int32)) := V8
          rw [show nar .byte (c3.toInt8.toInt32) = (c3.toInt8.toInt32) from own_nar_byte _] at V8
          have O8' := O6'.wr W8 hg
          have N8 := Fr.snoc X8 N6 hg
          refine own_k (T' := T8) (g' := (mkF m 32 #[.val (.ref b), .val (.int (3 : Int32)), .val (.ref d), .val (.int (3 : Int32)), .val (.int (4 : Int32)), .val (.int (3 : Int32)), .val (.int c3)] [])) st8 ?_
          refine own_k (T' := T8) (g' := (mkF m 35 #[.val (.ref b), .val (.int ((3 : Int32) + (1 : Int32))), .val (.ref d), .val (.int (3 : Int32)), .val (.int (4 : Int32)), .val (.int (3 : Int32)), .val (.int c3)] [])) (fun _ k_ => XS.iinc X8.here hx rfl (hb hby d5_32) rfl (l' := #[.val (.ref b), .val (.int ((3 : Int32) + (1 : Int32))), .val (.ref d), .val (.int (3 : Int32)), .val (.int (4 : Int32)), .val (.int (3 : Int32)), .val (.int c3)]) rfl k_) ?_
          rw [show ((3 : Int32) + (1 : Int32)) = (4 : Int32) from by decide]
          refine own_k (T' := T8) (g' := (mkF m 38 #[.val (.ref b), .val (.int (4 : Int32)), .val (.ref d), .val (.int ((3 : Int32) + (1 : Int32))), .val (.int (4 : Int32)), .val (.int (3 : Int32)), .val (.int c3)] [])) (fun _ k_ => XS.iinc X8.here hx rfl (hb hby d5_35) rfl (l' := #[.val (.ref b), .val (.int (4 : Int32)), .val (.ref d), .val (.int ((3 : Int32) + (1 : Int32))), .val (.int (4 : Int32)), .val (.int (3 : Int32)), .val (.int c3)]) rfl k_) ?_
          rw [show ((3 : Int32) + (1 : Int32)) = (4 : Int32) from by decide]
          refine own_k (T' := T8) (g' := (mkF m 41 #[.val (.ref b), .val (.int (4 : Int32)), .val (.ref d), .val (.int (4 : Int32)), .val (.int (4 : Int32)), .val (.int ((3 : Int32) + (1 : Int32))), .val (.int c3)] [])) (fun _ k_ => XS.iinc X8.here hx rfl (hb hby d5_38) rfl (l' := #[.val (.ref b), .val (.int (4 : Int32)), .val (.ref d), .val (.int (4 : Int32)), .val (.int (4 : Int32)), .val (.int ((3 : Int32) + (1 : Int32))), .val (.int c3)]) rfl k_) ?_
          rw [show ((3 : Int32) + (1 : Int32)) = (4 : Int32) from by decide]
          refine own_k (T' := T8) (g' := (mkF m 3 #[.val (.ref b), .val (.int (4 : Int32)), .val (.ref d), .val (.int (4 : Int32)), .val (.int (4 : Int32)), .val (.int (4 : Int32)), .val (.int c3)] [])) (fun _ k_ => XS.goto X8.here hx rfl (pc0 := 41) (pc' := 3) rfl (hb hby d5_41) (by decide) (by decide) k_) ?_
          refine own_k (T' := T8) (g' := (mkF m 5 #[.val (.ref b), .val (.int (4 : Int32)), .val (.ref d), .val (.int (4 : Int32)), .val (.int (4 : Int32)), .val (.int (4 : Int32)), .val (.int c3)] [(.int (4 : Int32))])) (fun _ k_ => XS.iload X8.here hx rfl (hb hby d5_3) rfl  k_) ?_
          refine own_k (T' := T8) (g' := (mkF m 7 #[.val (.ref b), .val (.int (4 : Int32)), .val (.ref d), .val (.int (4 : Int32)), .val (.int (4 : Int32)), .val (.int (4 : Int32)), .val (.int c3)] [(.int (4 : Int32)), (.int (4 : Int32))])) (fun _ k_ => XS.iload X8.here hx rfl (hb hby d5_5) rfl  k_) ?_
          refine own_k (T' := T8) (g' := (mkF m 44 #[.val (.ref b), .val (.int (4 : Int32)), .val (.ref d), .val (.int (4 : Int32)), .val (.int (4 : Int32)), .val (.int (4 : Int32)), .val (.int c3)] [])) (fun _ k_ => XS.icmpYes X8.here hx rfl (pc0 := 7) (pc' := 44) rfl (hb hby d5_7) rfl ((flt (by decide : ¬ ((4 : Int32) < (4 : Int32)))).2.1) (by decide) (by decide) k_) ?_
          refine own_k (T' := T8) (g' := (mkF m 46 #[.val (.ref b), .val (.int (4 : Int32)), .val (.ref d), .val (.int (4 : Int32)), .val (.int (4 : Int32)), .val (.int (4 : Int32)), .val (.int c3)] [(.int (4 : Int32))])) (fun _ k_ => XS.iload X8.here hx rfl (hb hby d5_44) rfl  k_) ?_
          have kp0 : Keep h0 h0 [d] := Keep.refl h0 [d]
          have kp1 : Keep h0 h2 [d] := kp0.wr W2 (Or.inl (List.mem_of_getElem? (i := 0) rfl))
          have kp2 : Keep h0 h4 [d] := kp1.wr W4 (Or.inl (List.mem_of_getElem? (i := 0) rfl))
          have kp3 : Keep h0 h6 [d] := kp2.wr W6 (Or.inl (List.mem_of_getElem? (i := 0) rfl))
          have kp4 : Keep h0 h8 [d] := kp3.wr W8 (Or.inl (List.mem_of_getElem? (i := 0) rfl))
          exact own_retI X8 hx hret hlk (hb hby d5_46) hF (by rw [e8]; exact ⟨⟨(4 : Int32), rfl, Or.inl ⟨rfl, own_all_4 (P := fun c => ¬ (255 : Int32) < c) hc1 hc3 hc5 hc7, V8⟩⟩, N8, kp4⟩) (by decide) (by decide)
theorem ef_4_RII (m : MethodId) (x0 : Addr) (x1 : Int32) (x2 : Int32)  : entryFrame m #[(.ref x0), (.int x1), (.int x2)] 6 = mkF m 0 #[.val (.ref x0), .val (.int x1), .val (.int x2), .unset, .unset, .unset] [] := by first | (simp [entryFrame, mkF, argsToLocals, Value.category]; done) | rfl
theorem d4_0 : decode jdk_52_method_16_code 0 = .ok (.iload_n 2, 1) := by decide +kernel
theorem d4_1 : decode jdk_52_method_16_code 1 = .ok (.newarray .byte, 2) := by decide +kernel
theorem d4_3 : decode jdk_52_method_16_code 3 = .ok (.astore_n 3, 1) := by decide +kernel
theorem d4_4 : decode jdk_52_method_16_code 4 = .ok (.aload_n 0, 1) := by decide +kernel
theorem d4_5 : decode jdk_52_method_16_code 5 = .ok (.iload_n 1, 1) := by decide +kernel
theorem d4_6 : decode jdk_52_method_16_code 6 = .ok (.aload_n 3, 1) := by decide +kernel
theorem d4_7 : decode jdk_52_method_16_code 7 = .ok (.iconst 0, 1) := by decide +kernel
theorem d4_8 : decode jdk_52_method_16_code 8 = .ok (.iload_n 2, 1) := by decide +kernel
theorem d4_9 : decode jdk_52_method_16_code 9 = .ok (.invokestatic 115, 3) := by decide +kernel
theorem pd__28_5bCI_5bBII_29I : parseMethodDescriptor "([CI[BII)I" = some ⟨[(.array .char), .int, (.array .byte), .int, .int], some .int⟩ := by decide +kernel
theorem d4_12 : decode jdk_52_method_16_code 12 = .ok (.istore 4, 2) := by decide +kernel
theorem d4_14 : decode jdk_52_method_16_code 14 = .ok (.iload 4, 2) := by decide +kernel
theorem d4_16 : decode jdk_52_method_16_code 16 = .ok (.iload_n 2, 1) := by decide +kernel
theorem d4_17 : decode jdk_52_method_16_code 17 = .ok (.if_icmp .eq 40, 3) := by decide +kernel
theorem d4_57 : decode jdk_52_method_16_code 57 = .ok (.aload_n 3, 1) := by decide +kernel
theorem d4_58 : decode jdk_52_method_16_code 58 = .ok (.areturn, 1) := by decide +kernel
theorem d4_20 : decode jdk_52_method_16_code 20 = .ok (.aload_n 0, 1) := by decide +kernel
theorem d4_21 : decode jdk_52_method_16_code 21 = .ok (.iload_n 1, 1) := by decide +kernel
theorem d4_22 : decode jdk_52_method_16_code 22 = .ok (.iload_n 2, 1) := by decide +kernel
theorem d4_23 : decode jdk_52_method_16_code 23 = .ok (.invokestatic 119, 3) := by decide +kernel
theorem pd__28_5bCII_29_5bB : parseMethodDescriptor "([CII)[B" = some ⟨[(.array .char), .int, .int], some (.array .byte)⟩ := by decide +kernel
theorem ef_14_RII (m : MethodId) (x0 : Addr) (x1 : Int32) (x2 : Int32)  : entryFrame m #[(.ref x0), (.int x1), (.int x2)] 5 = mkF m 0 #[.val (.ref x0), .val (.int x1), .val (.int x2), .unset, .unset] [] := by first | (simp [entryFrame, mkF, argsToLocals, Value.category]; done) | rfl
theorem d14_0 : decode jdk_52_method_14_code 0 = .ok (.iload_n 2, 1) := by decide +kernel
theorem d14_1 : decode jdk_52_method_14_code 1 = .ok (.invokestatic 107, 3) := by decide +kernel
theorem pd__28I_29_5bB : parseMethodDescriptor "(I)[B" = some ⟨[.int], some (.array .byte)⟩ := by decide +kernel
theorem ef_15_I (m : MethodId) (x0 : Int32)  : entryFrame m #[(.int x0)] 1 = mkF m 0 #[.val (.int x0)] [] := by first | (simp [entryFrame, mkF, argsToLocals, Value.category]; done) | rfl
theorem d15_0 : decode jdk_52_method_2_code 0 = .ok (.iload_n 0, 1) := by decide +kernel
theorem d15_1 : decode jdk_52_method_2_code 1 = .ok (.invokestatic 11, 3) := by decide +kernel
theorem pd__28I_29I : parseMethodDescriptor "(I)I" = some ⟨[.int], some .int⟩ := by decide +kernel
theorem ef_16_I (m : MethodId) (x0 : Int32)  : entryFrame m #[(.int x0)] 1 = mkF m 0 #[.val (.int x0)] [] := by first | (simp [entryFrame, mkF, argsToLocals, Value.category]; done) | rfl
theorem d16_0 : decode jdk_52_method_3_code 0 = .ok (.iload_n 0, 1) := by decide +kernel
theorem d16_1 : decode jdk_52_method_3_code 1 = .ok (.ifCond .ge 11, 3) := by decide +kernel
theorem d16_12 : decode jdk_52_method_3_code 12 = .ok (.iload_n 0, 1) := by decide +kernel
theorem d16_13 : decode jdk_52_method_3_code 13 = .ok (.ldc 20, 2) := by decide +kernel
theorem d16_15 : decode jdk_52_method_3_code 15 = .ok (.if_icmp .lt 40, 3) := by decide +kernel
theorem d16_55 : decode jdk_52_method_3_code 55 = .ok (.iload_n 0, 1) := by decide +kernel
theorem d16_56 : decode jdk_52_method_3_code 56 = .ok (.iconst 1, 1) := by decide +kernel
theorem d16_57 : decode jdk_52_method_3_code 57 = .ok (.ishl, 1) := by decide +kernel
theorem d16_58 : decode jdk_52_method_3_code 58 = .ok (.ireturn, 1) := by decide +kernel
set_option maxRecDepth 65536 in
set_option maxHeartbeats 40000000 in
theorem rm_newBytesLength_0 (l : Launch) (Z : State) (a0 : Array Value) (g_COMPACT_STRINGS : Int32) (g_SIOOBE_FORMATTER : Value) (hW : own_W Z a0 g_COMPACT_STRINGS g_SIOOBE_FORMATTER)  (h0 : Heap) (O0 : Old Z Z.heap.size h0)  :
    own_Met l Z (⟨"java/lang/StringUTF16", "newBytesLength", "(I)I"⟩ : MethodName) jdk_52_method_3_code 1 (some .int) ({ frames := 0, cells := 0, slots := 0, locals := 0 } : Room) #[(.int (4 : Int32))] h0 (fun v h L => v = some (.int (8 : Int32)) ∧ Fr Z.heap.size L ∧ h = h0) := by
  have hW_ := hW
  obtain ⟨hw, S_g_COMPACT_STRINGS, P_g_COMPACT_STRINGS, R_g_SIOOBE_FORMATTER, S_g_SIOOBE_FORMATTER, S_g__assertionsDisabled, S_g_HI_BYTE_SHIFT, S_g_LO_BYTE_SHIFT⟩ := hW_
  refine own_met (plainFor_of_name pn_java_lang_StringUTF16) ?_
  intro p e s m below meth cc_ s₁ Φ hF X0 hx hby hml hZ hown hnm hret hlk e0
  have N0 := Fr.nil Z.heap.size
  refine own_k (T' := s₁) (g' := (mkF m 0 #[.val (.int (4 : Int32))] [])) (fun _ k_ => castTop (ef_16_I m (4 : Int32)) k_) ?_
  refine own_k (T' := s₁) (g' := (mkF m 1 #[.val (.int (4 : Int32))] [(.int (4 : Int32))])) (fun _ k_ => XS.iloadN X0.here hx rfl (hb hby d16_0) rfl  k_) ?_
  refine own_k (T' := s₁) (g' := (mkF m 12 #[.val (.int (4 : Int32))] [])) (fun _ k_ => XS.ifYes X0.here hx rfl (pc0 := 1) (pc' := 12) rfl (hb hby d16_1) rfl ((if0 _ _).trans (flt (by decide : ¬ ((4 : Int32) < (0 : Int32)))).2.1) (by decide) (by decide) k_) ?_
  refine own_k (T' := s₁) (g' := (mkF m 13 #[.val (.int (4 : Int32))] [(.int (4 : Int32))])) (fun _ k_ => XS.iloadN X0.here hx rfl (hb hby d16_12) rfl  k_) ?_
  refine own_k (T' := s₁) (g' := (mkF m 15 #[.val (.int (4 : Int32))] [(.int (1073741823 : Int32)), (.int (4 : Int32))])) (X0.ldcInt hx hown (mvT hZ (hw _ (List.mem_of_getElem? (i := 71) rfl))) (g := (mkF m 13 #[.val (.int (4 : Int32))] [(.int (4 : Int32))])) rfl (hb hby d16_13)) ?_
  refine own_k (T' := s₁) (g' := (mkF m 55 #[.val (.int (4 : Int32))] [])) (fun _ k_ => XS.icmpYes X0.here hx rfl (pc0 := 15) (pc' := 55) rfl (hb hby d16_15) rfl ((tlt (by decide : ((4 : Int32) < (1073741823 : Int32)))).1) (by decide) (by decide) k_) ?_
  refine own_k (T' := s₁) (g' := (mkF m 56 #[.val (.int (4 : Int32))] [(.int (4 : Int32))])) (fun _ k_ => XS.iloadN X0.here hx rfl (hb hby d16_55) rfl  k_) ?_
  refine own_k (T' := s₁) (g' := (mkF m 57 #[.val (.int (4 : Int32))] [(.int (1 : Int32)), (.int (4 : Int32))])) (fun _ k_ => XS.iconst X0.here hx rfl (hb hby d16_56) k_) ?_
  refine own_k (T' := s₁) (g' := (mkF m 58 #[.val (.int (4 : Int32))] [(.int ((4 : Int32) <<< ((1 : Int32) &&& 31)))])) (fun _ k_ => XS.ishl X0.here hx rfl (hb hby d16_57) rfl k_) ?_
  rw [show ((4 : Int32) <<< ((1 : Int32) &&& 31)) = (8 : Int32) from by decide]
  exact own_retI X0 hx hret hlk (hb hby d16_58) hF (by rw [e0]; exact ⟨rfl, N0, rfl⟩) (by decide) (by decide)
theorem d15_4 : decode jdk_52_method_2_code 4 = .ok (.newarray .byte, 2) := by decide +kernel
theorem d15_6 : decode jdk_52_method_2_code 6 = .ok (.areturn, 1) := by decide +kernel
set_option maxRecDepth 65536 in
set_option maxHeartbeats 40000000 in
theorem rm_newBytesFor_1 (l : Launch) (Z : State) (a0 : Array Value) (g_COMPACT_STRINGS : Int32) (g_SIOOBE_FORMATTER : Value) (hW : own_W Z a0 g_COMPACT_STRINGS g_SIOOBE_FORMATTER)  (h0 : Heap) (O0 : Old Z Z.heap.size h0)  :
    own_Met l Z (⟨"java/lang/StringUTF16", "newBytesFor", "(I)[B"⟩ : MethodName) jdk_52_method_2_code 1 (some (.array .byte)) ({ frames := 1, cells := 1, slots := 8, locals := 12 } : Room) #[(.int (4 : Int32))] h0 (fun v h L => ∃ (b2 : Addr) (k2 : ClassId), v = some (.ref b2) ∧ Fr Z.heap.size L ∧ Keep h0 h [] ∧ h0.size ≤ b2 ∧ Arv Z h b2 k2 .byte (8 : Int32) [(.int (0 : Int32)), (.int (0 : Int32)), (.int (0 : Int32)), (.int (0 : Int32)), (.int (0 : Int32)), (.int (0 : Int32)), (.int (0 : Int32)), (.int (0 : Int32))] (.int (0 : Int32)) ∧ Exa Z h b2 "[B") := by
  have hW_ := hW
  obtain ⟨hw, S_g_COMPACT_STRINGS, P_g_COMPACT_STRINGS, R_g_SIOOBE_FORMATTER, S_g_SIOOBE_FORMATTER, S_g__assertionsDisabled, S_g_HI_BYTE_SHIFT, S_g_LO_BYTE_SHIFT⟩ := hW_
  refine own_met (plainFor_of_name pn_java_lang_StringUTF16) ?_
  intro p e s m below meth cc_ s₁ Φ hF X0 hx hby hml hZ hown hnm hret hlk e0
  have N0 := Fr.nil Z.heap.size
  refine own_k (T' := s₁) (g' := (mkF m 0 #[.val (.int (4 : Int32))] [])) (fun _ k_ => castTop (ef_15_I m (4 : Int32)) k_) ?_
  refine own_k (T' := s₁) (g' := (mkF m 1 #[.val (.int (4 : Int32))] [(.int (4 : Int32))])) (fun _ k_ => XS.iloadN X0.here hx rfl (hb hby d15_0) rfl  k_) ?_
  refine own_callS X0 hx hZ (y := (⟨"java/lang/StringUTF16", "newBytesLength", "(I)I"⟩ : MethodName)) hown (hw _ (List.mem_of_getElem? (i := 68) rfl)) (hw _ (List.mem_of_getElem? (i := 69) rfl)) (hw _ (List.mem_of_getElem? (i := 18) rfl)) (hw _ (List.mem_of_getElem? (i := 70) rfl)) (by decide) (al := [(.int (4 : Int32))]) (rm_newBytesLength_0 l Z a0 g_COMPACT_STRINGS g_SIOOBE_FORMATTER hW h0 O0) 0 (by decide) (by decide) e0 (by decide) (by decide) (by rw [hml]; rfl) (lenOf pd__28I_29I rfl) rfl (rest := []) (by show 2 * 0 + _ ≤ _; exact Nat.le_of_eq rfl) (hb hby d15_1) ?_
  intro v1 T1 L1 X1 hQ1
  obtain ⟨rfl, Nq1, e1⟩ := hQ1
  have N1 := Fr.app N0 Nq1
  show own_Go p e below Φ T1 (mkF m 4 #[.val (.int (4 : Int32))] [(.int (8 : Int32))])
  obtain ⟨T2, h2, k2, X2, e2, E2, V2, A2, st2⟩ := own_newarr (pc := 4) (Ls := #[.val (.int (4 : Int32))]) (rest := []) X1 hx hZ (hw _ (List.mem_of_getElem? (i := 20) rfl)) e1 (hb hby d15_4) (n := (8 : Int32)) (by decide) (cap := 8) (by decide) (by decide) (by decide) (by decide) (ad := "[B") (by decide)
  obtain ⟨b2, g2⟩ : ∃ z, z = h0.size := ⟨_, rfl⟩
  rw [← g2] at V2 A2 st2
  have O2' := O0.ext E2
  have V2 : Arv Z h2 b2 k2 .byte (8 : Int32) [(.int (0 : Int32)), (.int (0 : Int32)), (.int (0 : Int32)), (.int (0 : Int32)), (.int (0 : Int32)), (.int (0 : Int32)), (.int (0 : Int32)), (.int (0 : Int32))] (.int (0 : Int32)) := V2
  refine own_k (T' := T2) (g' := (mkF m 6 #[.val (.int (4 : Int32))] [(.ref b2)])) st2 ?_
  have kp0 : Keep h0 h0 [] := Keep.refl h0 []
  have kp1 : Keep h0 h2 [] := kp0.ext E2
  exact own_retA X2 hx hret rfl rfl hlk (hb hby d15_6) hF (by rw [e2]; exact ⟨b2, k2, rfl, N1, kp1, (Nat.le_trans kp0.1 (Nat.le_of_eq g2.symm)), V2, A2⟩) (by decide) (by decide)
theorem d14_4 : decode jdk_52_method_14_code 4 = .ok (.astore_n 3, 1) := by decide +kernel
theorem d14_5 : decode jdk_52_method_14_code 5 = .ok (.iconst 0, 1) := by decide +kernel
theorem d14_6 : decode jdk_52_method_14_code 6 = .ok (.istore 4, 2) := by decide +kernel
theorem d14_8 : decode jdk_52_method_14_code 8 = .ok (.iload 4, 2) := by decide +kernel
theorem d14_10 : decode jdk_52_method_14_code 10 = .ok (.iload_n 2, 1) := by decide +kernel
theorem d14_11 : decode jdk_52_method_14_code 11 = .ok (.if_icmp .ge 21, 3) := by decide +kernel
theorem d14_14 : decode jdk_52_method_14_code 14 = .ok (.aload_n 3, 1) := by decide +kernel
theorem d14_15 : decode jdk_52_method_14_code 15 = .ok (.iload 4, 2) := by decide +kernel
theorem d14_17 : decode jdk_52_method_14_code 17 = .ok (.aload_n 0, 1) := by decide +kernel
theorem d14_18 : decode jdk_52_method_14_code 18 = .ok (.iload_n 1, 1) := by decide +kernel
theorem d14_19 : decode jdk_52_method_14_code 19 = .ok (.caload, 1) := by decide +kernel
theorem d14_20 : decode jdk_52_method_14_code 20 = .ok (.invokestatic 111, 3) := by decide +kernel
theorem pd__28_5bBII_29V : parseMethodDescriptor "([BII)V" = some ⟨[(.array .byte), .int, .int], none⟩ := by decide +kernel
theorem ef_17_RII (m : MethodId) (x0 : Addr) (x1 : Int32) (x2 : Int32)  : entryFrame m #[(.ref x0), (.int x1), (.int x2)] 3 = mkF m 0 #[.val (.ref x0), .val (.int x1), .val (.int x2)] [] := by first | (simp [entryFrame, mkF, argsToLocals, Value.category]; done) | rfl
theorem d17_0 : decode jdk_52_method_4_code 0 = .ok (.getstatic 44, 3) := by decide +kernel
theorem d17_3 : decode jdk_52_method_4_code 3 = .ok (.ifCond .ne 25, 3) := by decide +kernel
theorem d17_28 : decode jdk_52_method_4_code 28 = .ok (.iload_n 1, 1) := by decide +kernel
theorem d17_29 : decode jdk_52_method_4_code 29 = .ok (.iconst 1, 1) := by decide +kernel
theorem d17_30 : decode jdk_52_method_4_code 30 = .ok (.ishl, 1) := by decide +kernel
theorem d17_31 : decode jdk_52_method_4_code 31 = .ok (.istore_n 1, 1) := by decide +kernel
theorem d17_32 : decode jdk_52_method_4_code 32 = .ok (.aload_n 0, 1) := by decide +kernel
theorem d17_33 : decode jdk_52_method_4_code 33 = .ok (.iload_n 1, 1) := by decide +kernel
theorem d17_34 : decode jdk_52_method_4_code 34 = .ok (.iinc 1 1, 3) := by decide +kernel
theorem d17_37 : decode jdk_52_method_4_code 37 = .ok (.iload_n 2, 1) := by decide +kernel
theorem d17_38 : decode jdk_52_method_4_code 38 = .ok (.getstatic 59, 3) := by decide +kernel
theorem d17_41 : decode jdk_52_method_4_code 41 = .ok (.ishr, 1) := by decide +kernel
theorem d17_42 : decode jdk_52_method_4_code 42 = .ok (.i2b, 1) := by decide +kernel
theorem d17_43 : decode jdk_52_method_4_code 43 = .ok (.bastore, 1) := by decide +kernel
theorem d17_44 : decode jdk_52_method_4_code 44 = .ok (.aload_n 0, 1) := by decide +kernel
theorem d17_45 : decode jdk_52_method_4_code 45 = .ok (.iload_n 1, 1) := by decide +kernel
theorem d17_46 : decode jdk_52_method_4_code 46 = .ok (.iload_n 2, 1) := by decide +kernel
theorem d17_47 : decode jdk_52_method_4_code 47 = .ok (.getstatic 63, 3) := by decide +kernel
theorem d17_50 : decode jdk_52_method_4_code 50 = .ok (.ishr, 1) := by decide +kernel
theorem d17_51 : decode jdk_52_method_4_code 51 = .ok (.i2b, 1) := by decide +kernel
theorem d17_52 : decode jdk_52_method_4_code 52 = .ok (.bastore, 1) := by decide +kernel
theorem d17_53 : decode jdk_52_method_4_code 53 = .ok (.return_, 1) := by decide +kernel
set_option maxRecDepth 65536 in
set_option maxHeartbeats 40000000 in
theorem rm_putChar_2 (l : Launch) (Z : State) (a0 : Array Value) (g_COMPACT_STRINGS : Int32) (g_SIOOBE_FORMATTER : Value) (hW : own_W Z a0 g_COMPACT_STRINGS g_SIOOBE_FORMATTER) (a1 : Addr) (i2 : Int32) (q3 : ClassId) (h0 : Heap) (O0 : Old Z Z.heap.size h0) (h_1 : Arv Z h0 a1 q3 .byte (8 : Int32) [(.int (0 : Int32)), (.int (0 : Int32)), (.int (0 : Int32)), (.int (0 : Int32)), (.int (0 : Int32)), (.int (0 : Int32)), (.int (0 : Int32)), (.int (0 : Int32))] (.int (0 : Int32))) (h_2 : Z.heap.size ≤ a1) (h_3 : Exa Z h0 a1 "[B") :
    own_Met l Z (⟨"java/lang/StringUTF16", "putChar", "([BII)V"⟩ : MethodName) jdk_52_method_4_code 3 none ({ frames := 0, cells := 0, slots := 0, locals := 0 } : Room) #[(.ref a1), (.int (0 : Int32)), (.int i2)] h0 (fun v h L => v = none ∧ Fr Z.heap.size L ∧ Keep h0 h [a1] ∧ Arv Z h a1 q3 .byte (8 : Int32) [(.int ((i2 >>> ((0 : Int32) &&& 31)).toInt8.toInt32)), (.int ((i2 >>> ((8 : Int32) &&& 31)).toInt8.toInt32)), (.int (0 : Int32)), (.int (0 : Int32)), (.int (0 : Int32)), (.int (0 : Int32)), (.int (0 : Int32)), (.int (0 : Int32))] (.int (0 : Int32)) ∧ Exa Z h a1 "[B") := by
  have hW_ := hW
  obtain ⟨hw, S_g_COMPACT_STRINGS, P_g_COMPACT_STRINGS, R_g_SIOOBE_FORMATTER, S_g_SIOOBE_FORMATTER, S_g__assertionsDisabled, S_g_HI_BYTE_SHIFT, S_g_LO_BYTE_SHIFT⟩ := hW_
  refine own_met (plainFor_of_name pn_java_lang_StringUTF16) ?_
  intro p e s m below meth cc_ s₁ Φ hF X0 hx hby hml hZ hown hnm hret hlk e0
  have N0 := Fr.nil Z.heap.size
  refine own_k (T' := s₁) (g' := (mkF m 0 #[.val (.ref a1), .val (.int (0 : Int32)), .val (.int i2)] [])) (fun _ k_ => castTop (ef_17_RII m a1 (0 : Int32) i2) k_) ?_
  obtain ⟨T1, X1, e1, st1⟩ := getS2 X0 hx hZ hown (host := "") (Or.inl (hw _ (List.mem_of_getElem? (i := 75) rfl))) Via.refl e0 (S_g__assertionsDisabled.ext O0.2) (g := (mkF m 0 #[.val (.ref a1), .val (.int (0 : Int32)), .val (.int i2)] [])) rfl (hb hby d17_0)
  refine own_k (T' := T1) (g' := (mkF m 3 #[.val (.ref a1), .val (.int (0 : Int32)), .val (.int i2)] [(.int (1 : Int32))])) st1 ?_
  refine own_k (T' := T1) (g' := (mkF m 28 #[.val (.ref a1), .val (.int (0 : Int32)), .val (.int i2)] [])) (fun _ k_ => XS.ifYes X1.here hx rfl (pc0 := 3) (pc' := 28) rfl (hb hby d17_3) rfl ((if0 _ _).trans (feq (by decide : ¬ ((1 : Int32) = (0 : Int32)))).2) (by decide) (by decide) k_) ?_
  refine own_k (T' := T1) (g' := (mkF m 29 #[.val (.ref a1), .val (.int (0 : Int32)), .val (.int i2)] [(.int (0 : Int32))])) (fun _ k_ => XS.iloadN X1.here hx rfl (hb hby d17_28) rfl  k_) ?_
  refine own_k (T' := T1) (g' := (mkF m 30 #[.val (.ref a1), .val (.int (0 : Int32)), .val (.int i2)] [(.int (1 : Int32)), (.int (0 : Int32))])) (fun _ k_ => XS.iconst X1.here hx rfl (hb hby d17_29) k_) ?_
  refine own_k (T' := T1) (g' := (mkF m 31 #[.val (.ref a1), .val (.int (0 : Int32)), .val (.int i2)] [(.int ((0 : Int32) <<< ((1 : Int32) &&& 31)))])) (fun _ k_ => XS.ishl X1.here hx rfl (hb hby d17_30) rfl k_) ?_
  rw [show ((0 : Int32) <<< ((1 : Int32) &&& 31)) = (0 : Int32) from by decide]
  refine own_k (T' := T1) (g' := (mkF m 32 #[.val (.ref a1), .val (.int (0 : Int32)), .val (.int i2)] [])) (fun _ k_ => XS.istoreN X1.here hx rfl (hb hby d17_31) rfl (l' := #[.val (.ref a1), .val (.int (0 : Int32)), .val (.int i2)]) rfl k_) ?_
  refine own_k (T' := T1) (g' := (mkF m 33 #[.val (.ref a1), .val (.int (0 : Int32)), .val (.int i2)] [(.ref a1)])) (fun _ k_ => XS.aloadN X1.here hx rfl (hb hby d17_32) rfl rfl  k_) ?_
  refine own_k (T' := T1) (g' := (mkF m 34 #[.val (.ref a1), .val (.int (0 : Int32)), .val (.int i2)] [(.int (0 : Int32)), (.ref a1)])) (fun _ k_ => XS.iloadN X1.here hx rfl (hb hby d17_33) rfl  k_) ?_
  refine own_k (T' := T1) (g' := (mkF m 37 #[.val (.ref a1), .val (.int ((0 : Int32) + (1 : Int32))), .val (.int i2)] [(.int (0 : Int32)), (.ref a1)])) (fun _ k_ => XS.iinc X1.here hx rfl (hb hby d17_34) rfl (l' := #[.val (.ref a1), .val (.int ((0 : Int32) + (1 : Int32))), .val (.int i2)]) rfl k_) ?_
  rw [show ((0 : Int32) + (1 : Int32)) = (1 : Int32) from by decide]
  refine own_k (T' := T1) (g' := (mkF m 38 #[.val (.ref a1), .val (.int (1 : Int32)), .val (.int i2)] [(.int i2), (.int (0 : Int32)), (.ref a1)])) (fun _ k_ => XS.iloadN X1.here hx rfl (hb hby d17_37) rfl  k_) ?_
  obtain ⟨T2, X2, e2, st2⟩ := getS2 X1 hx hZ hown (host := "") (Or.inl (hw _ (List.mem_of_getElem? (i := 76) rfl))) Via.refl e1 (S_g_HI_BYTE_SHIFT.ext O0.2) (g := (mkF m 38 #[.val (.ref a1), .val (.int (1 : Int32)), .val (.int i2)] [(.int i2), (.int (0 : Int32)), (.ref a1)])) rfl (hb hby d17_38)
  refine own_k (T' := T2) (g' := (mkF m 41 #[.val (.ref a1), .val (.int (1 : Int32)), .val (.int i2)] [(.int (0 : Int32)), (.int i2), (.int (0 : Int32)), (.ref a1)])) st2 ?_
  refine own_k (T' := T2) (g' := (mkF m 42 #[.val (.ref a1), .val (.int (1 : Int32)), .val (.int i2)] [(.int (i2 >>> ((0 : Int32) &&& 31))), (.int (0 : Int32)), (.ref a1)])) (fun _ k_ => XS.ishr X2.here hx rfl (hb hby d17_41) rfl k_) ?_
  refine own_k (T' := T2) (g' := (mkF m 43 #[.val (.ref a1), .val (.int (1 : Int32)), .val (.int i2)] [(.int ((i2 >>> ((0 : Int32) &&& 31)).toInt8.toInt32)), (.int (0 : Int32)), (.ref a1)])) (fun _ k_ => XS.i2b X2.here hx rfl (hb hby d17_42) rfl k_) ?_
  obtain ⟨T3, h3, X3, e3, W3, V3, st3⟩ := own_bastore (pc := 43) (Ls := #[.val (.ref a1), .val (.int (1 : Int32)), .val (.int i2)]) (rest := []) X2 hx hZ e2 h_1 (j := (0 : Int32)) (x := ((i2 >>> ((0 : Int32) &&& 31)).toInt8.toInt32)) ⟨by decide, by decide⟩ 0 rfl (Nat.le_of_ble_eq_true rfl) (hb hby d17_43)
  have V3 : Arv Z h3 a1 q3 .byte (8 : Int32) [(.int (nar .byte ((i2 >>> ((0 : Int32) &&& 31)).toInt8.toInt32))), (.int (0 : Int32)), (.int (0 : Int32)), (.int (0 : Int32)), (.int (0 : Int32)), (.int (0 : Int32)), (.int (0 : Int32)), (.int (0 : Int32))] (.int (0 : Int32)) := V3
  rw [show nar .byte ((i2 >>> ((0 : Int32) &&& 31)).toInt8.toInt32) = ((i2 >>> ((0 : Int32) &&& 31)).toInt8.toInt32) from own_nar_byte _] at V3
  have O3' := O0.wr W3 h_2
  have N3 := Fr.snoc X3 N0 h_2
  refine own_k (T' := T3) (g' := (mkF m 44 #[.val (.ref a1), .val (.int (1 : Int32)), .val (.int i2)] [])) st3 ?_
  refine own_k (T' := T3) (g' := (mkF m 45 #[.val (.ref a1), .val (.int (1 : Int32)), .val (.int i2)] [(.ref a1)])) (fun _ k_ => XS.aloadN X3.here hx rfl (hb hby d17_44) rfl rfl  k_) ?_
  refine own_k (T' := T3) (g' := (mkF m 46 #[.val (.ref a1), .val (.int (1 : Int32)), .val (.int i2)] [(.int (1 : Int32)), (.ref a1)])) (fun _ k_ => XS.iloadN X3.here hx rfl (hb hby d17_45) rfl  k_) ?_
  refine own_k (T' := T3) (g' := (mkF m 47 #[.val (.ref a1), .val (.int (1 : Int32)), .val (.int i2)] [(.int i2), (.int (1 : Int32)), (.ref a1)])) (fun _ k_ => XS.iloadN X3.here hx rfl (hb hby d17_46) rfl  k_) ?_
  obtain ⟨T4, X4, e4, st4⟩ := getS2 X3 hx hZ hown (host := "") (Or.inl (hw _ (List.mem_of_getElem? (i := 77) rfl))) Via.refl e3 (S_g_LO_BYTE_SHIFT.ext O3'.2) (g := (mkF m 47 #[.val (.ref a1), .val (.int (1 : Int32)), .val (.int i2)] [(.int i2), (.int (1 : Int32)), (.ref a1)])) rfl (hb hby d17_47)
  refine own_k (T' := T4) (g' := (mkF m 50 #[.val (.ref a1), .val (.int (1 : Int32)), .val (.int i2)] [(.int (8 : Int32)), (.int i2), (.int (1 : Int32)), (.ref a1)])) st4 ?_
  refine own_k (T' := T4) (g' := (mkF m 51 #[.val (.ref a1), .val (.int (1 : Int32)), .val (.int i2)] [(.int (i2 >>> ((8 : Int32) &&& 31))), (.int (1 : Int32)), (.ref a1)])) (fun _ k_ => XS.ishr X4.here hx rfl (hb hby d17_50) rfl k_) ?_
  refine own_k (T' := T4) (g' := (mkF m 52 #[.val (.ref a1), .val (.int (1 : Int32)), .val (.int i2)] [(.int ((i2 >>> ((8 : Int32) &&& 31)).toInt8.toInt32)), (.int (1 : Int32)), (.ref a1)])) (fun _ k_ => XS.i2b X4.here hx rfl (hb hby d17_51) rfl k_) ?_
  obtain ⟨T5, h5, X5, e5, W5, V5, st5⟩ := own_bastore (pc := 52) (Ls := #[.val (.ref a1), .val (.int (1 : Int32)), .val (.int i2)]) (rest := []) X4 hx hZ e4 V3 (j := (1 : Int32)) (x := ((i2 >>> ((8 : Int32) &&& 31)).toInt8.toInt32)) ⟨by decide, by decide⟩ 1 rfl (Nat.le_of_ble_eq_true rfl) (hb hby d17_52)
  have V5 : Arv Z h5 a1 q3 .byte (8 : Int32) [(.int ((i2 >>> ((0 : Int32) &&& 31)).toInt8.toInt32)), (.int (nar .byte ((i2 >>> ((8 : Int32) &&& 31)).toInt8.toInt32))), (.int (0 : Int32)), (.int (0 : Int32)), (.int (0 : Int32)), (.int (0 : Int32)), (.int (0 : Int32)), (.int (0 : Int32))] (.int (0 : Int32)) := V5
  rw [show nar .byte ((i2 >>> ((8 : Int32) &&& 31)).toInt8.toInt32) = ((i2 >>> ((8 : Int32) &&& 31)).toInt8.toInt32) from own_nar_byte _] at V5
  have O5' := O3'.wr W5 h_2
  have N5 := Fr.snoc X5 N3 h_2
  refine own_k (T' := T5) (g' := (mkF m 53 #[.val (.ref a1), .val (.int (1 : Int32)), .val (.int i2)] [])) st5 ?_
  have kp0 : Keep h0 h0 [a1] := Keep.refl h0 [a1]
  have kp1 : Keep h0 h3 [a1] := kp0.wr W3 (Or.inl (List.mem_of_getElem? (i := 0) rfl))
  have kp2 : Keep h0 h5 [a1] := kp1.wr W5 (Or.inl (List.mem_of_getElem? (i := 0) rfl))
  exact own_ret0 X5 hx hret hlk (hb hby d17_53) hF (by rw [e5]; exact ⟨rfl, N5, kp2, V5, ((h_3.wr W3).wr W5)⟩) (by decide) (by decide)
theorem d14_23 : decode jdk_52_method_14_code 23 = .ok (.iinc 1 1, 3) := by decide +kernel
theorem d14_26 : decode jdk_52_method_14_code 26 = .ok (.iinc 4 1, 3) := by decide +kernel
theorem d14_29 : decode jdk_52_method_14_code 29 = .ok (.goto (-21), 3) := by decide +kernel
set_option maxRecDepth 65536 in
set_option maxHeartbeats 40000000 in
theorem rm_putChar_3 (l : Launch) (Z : State) (a0 : Array Value) (g_COMPACT_STRINGS : Int32) (g_SIOOBE_FORMATTER : Value) (hW : own_W Z a0 g_COMPACT_STRINGS g_SIOOBE_FORMATTER) (a1 : Addr) (i2 : Int32) (q3 : ClassId) (i4 : Int32) (i5 : Int32) (h0 : Heap) (O0 : Old Z Z.heap.size h0) (h_1 : Arv Z h0 a1 q3 .byte (8 : Int32) [(.int i4), (.int i5), (.int (0 : Int32)), (.int (0 : Int32)), (.int (0 : Int32)), (.int (0 : Int32)), (.int (0 : Int32)), (.int (0 : Int32))] (.int (0 : Int32))) (h_2 : Z.heap.size ≤ a1) (h_3 : Exa Z h0 a1 "[B") :
    own_Met l Z (⟨"java/lang/StringUTF16", "putChar", "([BII)V"⟩ : MethodName) jdk_52_method_4_code 3 none ({ frames := 0, cells := 0, slots := 0, locals := 0 } : Room) #[(.ref a1), (.int (1 : Int32)), (.int i2)] h0 (fun v h L => v = none ∧ Fr Z.heap.size L ∧ Keep h0 h [a1] ∧ Arv Z h a1 q3 .byte (8 : Int32) [(.int i4), (.int i5), (.int ((i2 >>> ((0 : Int32) &&& 31)).toInt8.toInt32)), (.int ((i2 >>> ((8 : Int32) &&& 31)).toInt8.toInt32)), (.int (0 : Int32)), (.int (0 : Int32)), (.int (0 : Int32)), (.int (0 : Int32))] (.int (0 : Int32)) ∧ Exa Z h a1 "[B") := by
  have hW_ := hW
  obtain ⟨hw, S_g_COMPACT_STRINGS, P_g_COMPACT_STRINGS, R_g_SIOOBE_FORMATTER, S_g_SIOOBE_FORMATTER, S_g__assertionsDisabled, S_g_HI_BYTE_SHIFT, S_g_LO_BYTE_SHIFT⟩ := hW_
  refine own_met (plainFor_of_name pn_java_lang_StringUTF16) ?_
  intro p e s m below meth cc_ s₁ Φ hF X0 hx hby hml hZ hown hnm hret hlk e0
  have N0 := Fr.nil Z.heap.size
  refine own_k (T' := s₁) (g' := (mkF m 0 #[.val (.ref a1), .val (.int (1 : Int32)), .val (.int i2)] [])) (fun _ k_ => castTop (ef_17_RII m a1 (1 : Int32) i2) k_) ?_
  obtain ⟨T1, X1, e1, st1⟩ := getS2 X0 hx hZ hown (host := "") (Or.inl (hw _ (List.mem_of_getElem? (i := 75) rfl))) Via.refl e0 (S_g__assertionsDisabled.ext O0.2) (g := (mkF m 0 #[.val (.ref a1), .val (.int (1 : Int32)), .val (.int i2)] [])) rfl (hb hby d17_0)
  refine own_k (T' := T1) (g' := (mkF m 3 #[.val (.ref a1), .val (.int (1 : Int32)), .val (.int i2)] [(.int (1 : Int32))])) st1 ?_
  refine own_k (T' := T1) (g' := (mkF m 28 #[.val (.ref a1), .val (.int (1 : Int32)), .val (.int i2)] [])) (fun _ k_ => XS.ifYes X1.here hx rfl (pc0 := 3) (pc' := 28) rfl (hb hby d17_3) rfl ((if0 _ _).trans (feq (by decide : ¬ ((1 : Int32) = (0 : Int32)))).2) (by decide) (by decide) k_) ?_
  refine own_k (T' := T1) (g' := (mkF m 29 #[.val (.ref a1), .val (.int (1 : Int32)), .val (.int i2)] [(.int (1 : Int32))])) (fun _ k_ => XS.iloadN X1.here hx rfl (hb hby d17_28) rfl  k_) ?_
  refine own_k (T' := T1) (g' := (mkF m 30 #[.val (.ref a1), .val (.int (1 : Int32)), .val (.int i2)] [(.int (1 : Int32)), (.int (1 : Int32))])) (fun _ k_ => XS.iconst X1.here hx rfl (hb hby d17_29) k_) ?_
  refine own_k (T' := T1) (g' := (mkF m 31 #[.val (.ref a1), .val (.int (1 : Int32)), .val (.int i2)] [(.int ((1 : Int32) <<< ((1 : Int32) &&& 31)))])) (fun _ k_ => XS.ishl X1.here hx rfl (hb hby d17_30) rfl k_) ?_
  rw [show ((1 : Int32) <<< ((1 : Int32) &&& 31)) = (2 : Int32) from by decide]
  refine own_k (T' := T1) (g' := (mkF m 32 #[.val (.ref a1), .val (.int (2 : Int32)), .val (.int i2)] [])) (fun _ k_ => XS.istoreN X1.here hx rfl (hb hby d17_31) rfl (l' := #[.val (.ref a1), .val (.int (2 : Int32)), .val (.int i2)]) rfl k_) ?_
  refine own_k (T' := T1) (g' := (mkF m 33 #[.val (.ref a1), .val (.int (2 : Int32)), .val (.int i2)] [(.ref a1)])) (fun _ k_ => XS.aloadN X1.here hx rfl (hb hby d17_32) rfl rfl  k_) ?_
  refine own_k (T' := T1) (g' := (mkF m 34 #[.val (.ref a1), .val (.int (2 : Int32)), .val (.int i2)] [(.int (2 : Int32)), (.ref a1)])) (fun _ k_ => XS.iloadN X1.here hx rfl (hb hby d17_33) rfl  k_) ?_
  refine own_k (T' := T1) (g' := (mkF m 37 #[.val (.ref a1), .val (.int ((2 : Int32) + (1 : Int32))), .val (.int i2)] [(.int (2 : Int32)), (.ref a1)])) (fun _ k_ => XS.iinc X1.here hx rfl (hb hby d17_34) rfl (l' := #[.val (.ref a1), .val (.int ((2 : Int32) + (1 : Int32))), .val (.int i2)]) rfl k_) ?_
  rw [show ((2 : Int32) + (1 : Int32)) = (3 : Int32) from by decide]
  refine own_k (T' := T1) (g' := (mkF m 38 #[.val (.ref a1), .val (.int (3 : Int32)), .val (.int i2)] [(.int i2), (.int (2 : Int32)), (.ref a1)])) (fun _ k_ => XS.iloadN X1.here hx rfl (hb hby d17_37) rfl  k_) ?_
  obtain ⟨T2, X2, e2, st2⟩ := getS2 X1 hx hZ hown (host := "") (Or.inl (hw _ (List.mem_of_getElem? (i := 76) rfl))) Via.refl e1 (S_g_HI_BYTE_SHIFT.ext O0.2) (g := (mkF m 38 #[.val (.ref a1), .val (.int (3 : Int32)), .val (.int i2)] [(.int i2), (.int (2 : Int32)), (.ref a1)])) rfl (hb hby d17_38)
  refine own_k (T' := T2) (g' := (mkF m 41 #[.val (.ref a1), .val (.int (3 : Int32)), .val (.int i2)] [(.int (0 : Int32)), (.int i2), (.int (2 : Int32)), (.ref a1)])) st2 ?_
  refine own_k (T' := T2) (g' := (mkF m 42 #[.val (.ref a1), .val (.int (3 : Int32)), .val (.int i2)] [(.int (i2 >>> ((0 : Int32) &&& 31))), (.int (2 : Int32)), (.ref a1)])) (fun _ k_ => XS.ishr X2.here hx rfl (hb hby d17_41) rfl k_) ?_
  refine own_k (T' := T2) (g' := (mkF m 43 #[.val (.ref a1), .val (.int (3 : Int32)), .val (.int i2)] [(.int ((i2 >>> ((0 : Int32) &&& 31)).toInt8.toInt32)), (.int (2 : Int32)), (.ref a1)])) (fun _ k_ => XS.i2b X2.here hx rfl (hb hby d17_42) rfl k_) ?_
  obtain ⟨T3, h3, X3, e3, W3, V3, st3⟩ := own_bastore (pc := 43) (Ls := #[.val (.ref a1), .val (.int (3 : Int32)), .val (.int i2)]) (rest := []) X2 hx hZ e2 h_1 (j := (2 : Int32)) (x := ((i2 >>> ((0 : Int32) &&& 31)).toInt8.toInt32)) ⟨by decide, by decide⟩ 2 rfl (Nat.le_of_ble_eq_true rfl) (hb hby d17_43)
  have V3 : Arv Z h3 a1 q3 .byte (8 : Int32) [(.int i4), (.int i5), (.int (nar .byte ((i2 >>> ((0 : Int32) &&& 31)).toInt8.toInt32))), (.int (0 : Int32)), (.int (0 : Int32)), (.int (0 : Int32)), (.int (0 : Int32)), (.int (0 : Int32))] (.int (0 : Int32)) := V3
  rw [show nar .byte ((i2 >>> ((0 : Int32) &&& 31)).toInt8.toInt32) = ((i2 >>> ((0 : Int32) &&& 31)).toInt8.toInt32) from own_nar_byte _] at V3
  have O3' := O0.wr W3 h_2
  have N3 := Fr.snoc X3 N0 h_2
  refine own_k (T' := T3) (g' := (mkF m 44 #[.val (.ref a1), .val (.int (3 : Int32)), .val (.int i2)] [])) st3 ?_
  refine own_k (T' := T3) (g' := (mkF m 45 #[.val (.ref a1), .val (.int (3 : Int32)), .val (.int i2)] [(.ref a1)])) (fun _ k_ => XS.aloadN X3.here hx rfl (hb hby d17_44) rfl rfl  k_) ?_
  refine own_k (T' := T3) (g' := (mkF m 46 #[.val (.ref a1), .val (.int (3 : Int32)), .val (.int i2)] [(.int (3 : Int32)), (.ref a1)])) (fun _ k_ => XS.iloadN X3.here hx rfl (hb hby d17_45) rfl  k_) ?_
  refine own_k (T' := T3) (g' := (mkF m 47 #[.val (.ref a1), .val (.int (3 : Int32)), .val (.int i2)] [(.int i2), (.int (3 : Int32)), (.ref a1)])) (fun _ k_ => XS.iloadN X3.here hx rfl (hb hby d17_46) rfl  k_) ?_
  obtain ⟨T4, X4, e4, st4⟩ := getS2 X3 hx hZ hown (host := "") (Or.inl (hw _ (List.mem_of_getElem? (i := 77) rfl))) Via.refl e3 (S_g_LO_BYTE_SHIFT.ext O3'.2) (g := (mkF m 47 #[.val (.ref a1), .val (.int (3 : Int32)), .val (.int i2)] [(.int i2), (.int (3 : Int32)), (.ref a1)])) rfl (hb hby d17_47)
  refine own_k (T' := T4) (g' := (mkF m 50 #[.val (.ref a1), .val (.int (3 : Int32)), .val (.int i2)] [(.int (8 : Int32)), (.int i2), (.int (3 : Int32)), (.ref a1)])) st4 ?_
  refine own_k (T' := T4) (g' := (mkF m 51 #[.val (.ref a1), .val (.int (3 : Int32)), .val (.int i2)] [(.int (i2 >>> ((8 : Int32) &&& 31))), (.int (3 : Int32)), (.ref a1)])) (fun _ k_ => XS.ishr X4.here hx rfl (hb hby d17_50) rfl k_) ?_
  refine own_k (T' := T4) (g' := (mkF m 52 #[.val (.ref a1), .val (.int (3 : Int32)), .val (.int i2)] [(.int ((i2 >>> ((8 : Int32) &&& 31)).toInt8.toInt32)), (.int (3 : Int32)), (.ref a1)])) (fun _ k_ => XS.i2b X4.here hx rfl (hb hby d17_51) rfl k_) ?_
  obtain ⟨T5, h5, X5, e5, W5, V5, st5⟩ := own_bastore (pc := 52) (Ls := #[.val (.ref a1), .val (.int (3 : Int32)), .val (.int i2)]) (rest := []) X4 hx hZ e4 V3 (j := (3 : Int32)) (x := ((i2 >>> ((8 : Int32) &&& 31)).toInt8.toInt32)) ⟨by decide, by decide⟩ 3 rfl (Nat.le_of_ble_eq_true rfl) (hb hby d17_52)
  have V5 : Arv Z h5 a1 q3 .byte (8 : Int32) [(.int i4), (.int i5), (.int ((i2 >>> ((0 : Int32) &&& 31)).toInt8.toInt32)), (.int (nar .byte ((i2 >>> ((8 : Int32) &&& 31)).toInt8.toInt32))), (.int (0 : Int32)), (.int (0 : Int32)), (.int (0 : Int32)), (.int (0 : Int32))] (.int (0 : Int32)) := V5
  rw [show nar .byte ((i2 >>> ((8 : Int32) &&& 31)).toInt8.toInt32) = ((i2 >>> ((8 : Int32) &&& 31)).toInt8.toInt32) from own_nar_byte _] at V5
  have O5' := O3'.wr W5 h_2
  have N5 := Fr.snoc X5 N3 h_2
  refine own_k (T' := T5) (g' := (mkF m 53 #[.val (.ref a1), .val (.int (3 : Int32)), .val (.int i2)] [])) st5 ?_
  have kp0 : Keep h0 h0 [a1] := Keep.refl h0 [a1]
  have kp1 : Keep h0 h3 [a1] := kp0.wr W3 (Or.inl (List.mem_of_getElem? (i := 0) rfl))
  have kp2 : Keep h0 h5 [a1] := kp1.wr W5 (Or.inl (List.mem_of_getElem? (i := 0) rfl))
  exact own_ret0 X5 hx hret hlk (hb hby d17_53) hF (by rw [e5]; exact ⟨rfl, N5, kp2, V5, ((h_3.wr W3).wr W5)⟩) (by decide) (by decide)
set_option maxRecDepth 65536 in
set_option maxHeartbeats 40000000 in
theorem rm_putChar_4 (l : Launch) (Z : State) (a0 : Array Value) (g_COMPACT_STRINGS : Int32) (g_SIOOBE_FORMATTER : Value) (hW : own_W Z a0 g_COMPACT_STRINGS g_SIOOBE_FORMATTER) (a1 : Addr) (i2 : Int32) (q3 : ClassId) (i4 : Int32) (i5 : Int32) (i6 : Int32) (i7 : Int32) (h0 : Heap) (O0 : Old Z Z.heap.size h0) (h_1 : Arv Z h0 a1 q3 .byte (8 : Int32) [(.int i4), (.int i5), (.int i6), (.int i7), (.int (0 : Int32)), (.int (0 : Int32)), (.int (0 : Int32)), (.int (0 : Int32))] (.int (0 : Int32))) (h_2 : Z.heap.size ≤ a1) (h_3 : Exa Z h0 a1 "[B") :
    own_Met l Z (⟨"java/lang/StringUTF16", "putChar", "([BII)V"⟩ : MethodName) jdk_52_method_4_code 3 none ({ frames := 0, cells := 0, slots := 0, locals := 0 } : Room) #[(.ref a1), (.int (2 : Int32)), (.int i2)] h0 (fun v h L => v = none ∧ Fr Z.heap.size L ∧ Keep h0 h [a1] ∧ Arv Z h a1 q3 .byte (8 : Int32) [(.int i4), (.int i5), (.int i6), (.int i7), (.int ((i2 >>> ((0 : Int32) &&& 31)).toInt8.toInt32)), (.int ((i2 >>> ((8 : Int32) &&& 31)).toInt8.toInt32)), (.int (0 : Int32)), (.int (0 : Int32))] (.int (0 : Int32)) ∧ Exa Z h a1 "[B") := by
  have hW_ := hW
  obtain ⟨hw, S_g_COMPACT_STRINGS, P_g_COMPACT_STRINGS, R_g_SIOOBE_FORMATTER, S_g_SIOOBE_FORMATTER, S_g__assertionsDisabled, S_g_HI_BYTE_SHIFT, S_g_LO_BYTE_SHIFT⟩ := hW_
  refine own_met (plainFor_of_name pn_java_lang_StringUTF16) ?_
  intro p e s m below meth cc_ s₁ Φ hF X0 hx hby hml hZ hown hnm hret hlk e0
  have N0 := Fr.nil Z.heap.size
  refine own_k (T' := s₁) (g' := (mkF m 0 #[.val (.ref a1), .val (.int (2 : Int32)), .val (.int i2)] [])) (fun _ k_ => castTop (ef_17_RII m a1 (2 : Int32) i2) k_) ?_
  obtain ⟨T1, X1, e1, st1⟩ := getS2 X0 hx hZ hown (host := "") (Or.inl (hw _ (List.mem_of_getElem? (i := 75) rfl))) Via.refl e0 (S_g__assertionsDisabled.ext O0.2) (g := (mkF m 0 #[.val (.ref a1), .val (.int (2 : Int32)), .val (.int i2)] [])) rfl (hb hby d17_0)
  refine own_k (T' := T1) (g' := (mkF m 3 #[.val (.ref a1), .val (.int (2 : Int32)), .val (.int i2)] [(.int (1 : Int32))])) st1 ?_
  refine own_k (T' := T1) (g' := (mkF m 28 #[.val (.ref a1), .val (.int (2 : Int32)), .val (.int i2)] [])) (fun _ k_ => XS.ifYes X1.here hx rfl (pc0 := 3) (pc' := 28) rfl (hb hby d17_3) rfl ((if0 _ _).trans (feq (by decide : ¬ ((1 : Int32) = (0 : Int32)))).2) (by decide) (by decide) k_) ?_
  refine own_k (T' := T1) (g' := (mkF m 29 #[.val (.ref a1), .val (.int (2 : Int32)), .val (.int i2)] [(.int (2 : Int32))])) (fun _ k_ => XS.iloadN X1.here hx rfl (hb hby d17_28) rfl  k_) ?_
  refine own_k (T' := T1) (g' := (mkF m 30 #[.val (.ref a1), .val (.int (2 : Int32)), .val (.int i2)] [(.int (1 : Int32)), (.int (2 : Int32))])) (fun _ k_ => XS.iconst X1.here hx rfl (hb hby d17_29) k_) ?_
  refine own_k (T' := T1) (g' := (mkF m 31 #[.val (.ref a1), .val (.int (2 : Int32)), .val (.int i2)] [(.int ((2 : Int32) <<< ((1 : Int32) &&& 31)))])) (fun _ k_ => XS.ishl X1.here hx rfl (hb hby d17_30) rfl k_) ?_
  rw [show ((2 : Int32) <<< ((1 : Int32) &&& 31)) = (4 : Int32) from by decide]
  refine own_k (T' := T1) (g' := (mkF m 32 #[.val (.ref a1), .val (.int (4 : Int32)), .val (.int i2)] [])) (fun _ k_ => XS.istoreN X1.here hx rfl (hb hby d17_31) rfl (l' := #[.val (.ref a1), .val (.int (4 : Int32)), .val (.int i2)]) rfl k_) ?_
  refine own_k (T' := T1) (g' := (mkF m 33 #[.val (.ref a1), .val (.int (4 : Int32)), .val (.int i2)] [(.ref a1)])) (fun _ k_ => XS.aloadN X1.here hx rfl (hb hby d17_32) rfl rfl  k_) ?_
  refine own_k (T' := T1) (g' := (mkF m 34 #[.val (.ref a1), .val (.int (4 : Int32)), .val (.int i2)] [(.int (4 : Int32)), (.ref a1)])) (fun _ k_ => XS.iloadN X1.here hx rfl (hb hby d17_33) rfl  k_) ?_
  refine own_k (T' := T1) (g' := (mkF m 37 #[.val (.ref a1), .val (.int ((4 : Int32) + (1 : Int32))), .val (.int i2)] [(.int (4 : Int32)), (.ref a1)])) (fun _ k_ => XS.iinc X1.here hx rfl (hb hby d17_34) rfl (l' := #[.val (.ref a1), .val (.int ((4 : Int32) + (1 : Int32))), .val (.int i2)]) rfl k_) ?_
  rw [show ((4 : Int32) + (1 : Int32)) = (5 : Int32) from by decide]
  refine own_k (T' := T1) (g' := (mkF m 38 #[.val (.ref a1), .val (.int (5 : Int32)), .val (.int i2)] [(.int i2), (.int (4 : Int32)), (.ref a1)])) (fun _ k_ => XS.iloadN X1.here hx rfl (hb hby d17_37) rfl  k_) ?_
  obtain ⟨T2, X2, e2, st2⟩ := getS2 X1 hx hZ hown (host := "") (Or.inl (hw _ (List.mem_of_getElem? (i := 76) rfl))) Via.refl e1 (S_g_HI_BYTE_SHIFT.ext O0.2) (g := (mkF m 38 #[.val (.ref a1), .val (.int (5 : Int32)), .val (.int i2)] [(.int i2), (.int (4 : Int32)), (.ref a1)])) rfl (hb hby d17_38)
  refine own_k (T' := T2) (g' := (mkF m 41 #[.val (.ref a1), .val (.int (5 : Int32)), .val (.int i2)] [(.int (0 : Int32)), (.int i2), (.int (4 : Int32)), (.ref a1)])) st2 ?_
  refine own_k (T' := T2) (g' := (mkF m 42 #[.val (.ref a1), .val (.int (5 : Int32)), .val (.int i2)] [(.int (i2 >>> ((0 : Int32) &&& 31))), (.int (4 : Int32)), (.ref a1)])) (fun _ k_ => XS.ishr X2.here hx rfl (hb hby d17_41) rfl k_) ?_
  refine own_k (T' := T2) (g' := (mkF m 43 #[.val (.ref a1), .val (.int (5 : Int32)), .val (.int i2)] [(.int ((i2 >>> ((0 : Int32) &&& 31)).toInt8.toInt32)), (.int (4 : Int32)), (.ref a1)])) (fun _ k_ => XS.i2b X2.here hx rfl (hb hby d17_42) rfl k_) ?_
  obtain ⟨T3, h3, X3, e3, W3, V3, st3⟩ := own_bastore (pc := 43) (Ls := #[.val (.ref a1), .val (.int (5 : Int32)), .val (.int i2)]) (rest := []) X2 hx hZ e2 h_1 (j := (4 : Int32)) (x := ((i2 >>> ((0 : Int32) &&& 31)).toInt8.toInt32)) ⟨by decide, by decide⟩ 4 rfl (Nat.le_of_ble_eq_true rfl) (hb hby d17_43)
  have V3 : Arv Z h3 a1 q3 .byte (8 : Int32) [(.int i4), (.int i5), (.int i6), (.int i7), (.int (nar .byte ((i2 >>> ((0 : Int32) &&& 31)).toInt8.toInt32))), (.int (0 : Int32)), (.int (0 : Int32)), (.int (0 : Int32))] (.int (0 : Int32)) := V3
  rw [show nar .byte ((i2 >>> ((0 : Int32) &&& 31)).toInt8.toInt32) = ((i2 >>> ((0 : Int32) &&& 31)).toInt8.toInt32) from own_nar_byte _] at V3
  have O3' := O0.wr W3 h_2
  have N3 := Fr.snoc X3 N0 h_2
  refine own_k (T' := T3) (g' := (mkF m 44 #[.val (.ref a1), .val (.int (5 : Int32)), .val (.int i2)] [])) st3 ?_
  refine own_k (T' := T3) (g' := (mkF m 45 #[.val (.ref a1), .val (.int (5 : Int32)), .val (.int i2)] [(.ref a1)])) (fun _ k_ => XS.aloadN X3.here hx rfl (hb hby d17_44) rfl rfl  k_) ?_
  refine own_k (T' := T3) (g' := (mkF m 46 #[.val (.ref a1), .val (.int (5 : Int32)), .val (.int i2)] [(.int (5 : Int32)), (.ref a1)])) (fun _ k_ => XS.iloadN X3.here hx rfl (hb hby d17_45) rfl  k_) ?_
  refine own_k (T' := T3) (g' := (mkF m 47 #[.val (.ref a1), .val (.int (5 : Int32)), .val (.int i2)] [(.int i2), (.int (5 : Int32)), (.ref a1)])) (fun _ k_ => XS.iloadN X3.here hx rfl (hb hby d17_46) rfl  k_) ?_
  obtain ⟨T4, X4, e4, st4⟩ := getS2 X3 hx hZ hown (host := "") (Or.inl (hw _ (List.mem_of_getElem? (i := 77) rfl))) Via.refl e3 (S_g_LO_BYTE_SHIFT.ext O3'.2) (g := (mkF m 47 #[.val (.ref a1), .val (.int (5 : Int32)), .val (.int i2)] [(.int i2), (.int (5 : Int32)), (.ref a1)])) rfl (hb hby d17_47)
  refine own_k (T' := T4) (g' := (mkF m 50 #[.val (.ref a1), .val (.int (5 : Int32)), .val (.int i2)] [(.int (8 : Int32)), (.int i2), (.int (5 : Int32)), (.ref a1)])) st4 ?_
  refine own_k (T' := T4) (g' := (mkF m 51 #[.val (.ref a1), .val (.int (5 : Int32)), .val (.int i2)] [(.int (i2 >>> ((8 : Int32) &&& 31))), (.int (5 : Int32)), (.ref a1)])) (fun _ k_ => XS.ishr X4.here hx rfl (hb hby d17_50) rfl k_) ?_
  refine own_k (T' := T4) (g' := (mkF m 52 #[.val (.ref a1), .val (.int (5 : Int32)), .val (.int i2)] [(.int ((i2 >>> ((8 : Int32) &&& 31)).toInt8.toInt32)), (.int (5 : Int32)), (.ref a1)])) (fun _ k_ => XS.i2b X4.here hx rfl (hb hby d17_51) rfl k_) ?_
  obtain ⟨T5, h5, X5, e5, W5, V5, st5⟩ := own_bastore (pc := 52) (Ls := #[.val (.ref a1), .val (.int (5 : Int32)), .val (.int i2)]) (rest := []) X4 hx hZ e4 V3 (j := (5 : Int32)) (x := ((i2 >>> ((8 : Int32) &&& 31)).toInt8.toInt32)) ⟨by decide, by decide⟩ 5 rfl (Nat.le_of_ble_eq_true rfl) (hb hby d17_52)
  have V5 : Arv Z h5 a1 q3 .byte (8 : Int32) [(.int i4), (.int i5), (.int i6), (.int i7), (.int ((i2 >>> ((0 : Int32) &&& 31)).toInt8.toInt32)), (.int (nar .byte ((i2 >>> ((8 : Int32) &&& 31)).toInt8.toInt32))), (.int (0 : Int32)), (.int (0 : Int32))] (.int (0 : Int32)) := V5
  rw [show nar .byte ((i2 >>> ((8 : Int32) &&& 31)).toInt8.toInt32) = ((i2 >>> ((8 : Int32) &&& 31)).toInt8.toInt32) from own_nar_byte _] at V5
  have O5' := O3'.wr W5 h_2
  have N5 := Fr.snoc X5 N3 h_2
  refine own_k (T' := T5) (g' := (mkF m 53 #[.val (.ref a1), .val (.int (5 : Int32)), .val (.int i2)] [])) st5 ?_
  have kp0 : Keep h0 h0 [a1] := Keep.refl h0 [a1]
  have kp1 : Keep h0 h3 [a1] := kp0.wr W3 (Or.inl (List.mem_of_getElem? (i := 0) rfl))
  have kp2 : Keep h0 h5 [a1] := kp1.wr W5 (Or.inl (List.mem_of_getElem? (i := 0) rfl))
  exact own_ret0 X5 hx hret hlk (hb hby d17_53) hF (by rw [e5]; exact ⟨rfl, N5, kp2, V5, ((h_3.wr W3).wr W5)⟩) (by decide) (by decide)
set_option maxRecDepth 65536 in
set_option maxHeartbeats 40000000 in
theorem rm_putChar_5 (l : Launch) (Z : State) (a0 : Array Value) (g_COMPACT_STRINGS : Int32) (g_SIOOBE_FORMATTER : Value) (hW : own_W Z a0 g_COMPACT_STRINGS g_SIOOBE_FORMATTER) (a1 : Addr) (i2 : Int32) (q3 : ClassId) (i4 : Int32) (i5 : Int32) (i6 : Int32) (i7 : Int32) (i8 : Int32) (i9 : Int32) (h0 : Heap) (O0 : Old Z Z.heap.size h0) (h_1 : Arv Z h0 a1 q3 .byte (8 : Int32) [(.int i4), (.int i5), (.int i6), (.int i7), (.int i8), (.int i9), (.int (0 : Int32)), (.int (0 : Int32))] (.int (0 : Int32))) (h_2 : Z.heap.size ≤ a1) (h_3 : Exa Z h0 a1 "[B") :
    own_Met l Z (⟨"java/lang/StringUTF16", "putChar", "([BII)V"⟩ : MethodName) jdk_52_method_4_code 3 none ({ frames := 0, cells := 0, slots := 0, locals := 0 } : Room) #[(.ref a1), (.int (3 : Int32)), (.int i2)] h0 (fun v h L => v = none ∧ Fr Z.heap.size L ∧ Keep h0 h [a1] ∧ Arv Z h a1 q3 .byte (8 : Int32) [(.int i4), (.int i5), (.int i6), (.int i7), (.int i8), (.int i9), (.int ((i2 >>> ((0 : Int32) &&& 31)).toInt8.toInt32)), (.int ((i2 >>> ((8 : Int32) &&& 31)).toInt8.toInt32))] (.int (0 : Int32)) ∧ Exa Z h a1 "[B") := by
  have hW_ := hW
  obtain ⟨hw, S_g_COMPACT_STRINGS, P_g_COMPACT_STRINGS, R_g_SIOOBE_FORMATTER, S_g_SIOOBE_FORMATTER, S_g__assertionsDisabled, S_g_HI_BYTE_SHIFT, S_g_LO_BYTE_SHIFT⟩ := hW_
  refine own_met (plainFor_of_name pn_java_lang_StringUTF16) ?_
  intro p e s m below meth cc_ s₁ Φ hF X0 hx hby hml hZ hown hnm hret hlk e0
  have N0 := Fr.nil Z.heap.size
  refine own_k (T' := s₁) (g' := (mkF m 0 #[.val (.ref a1), .val (.int (3 : Int32)), .val (.int i2)] [])) (fun _ k_ => castTop (ef_17_RII m a1 (3 : Int32) i2) k_) ?_
  obtain ⟨T1, X1, e1, st1⟩ := getS2 X0 hx hZ hown (host := "") (Or.inl (hw _ (List.mem_of_getElem? (i := 75) rfl))) Via.refl e0 (S_g__assertionsDisabled.ext O0.2) (g := (mkF m 0 #[.val (.ref a1), .val (.int (3 : Int32)), .val (.int i2)] [])) rfl (hb hby d17_0)
  refine own_k (T' := T1) (g' := (mkF m 3 #[.val (.ref a1), .val (.int (3 : Int32)), .val (.int i2)] [(.int (1 : Int32))])) st1 ?_
  refine own_k (T' := T1) (g' := (mkF m 28 #[.val (.ref a1), .val (.int (3 : Int32)), .val (.int i2)] [])) (fun _ k_ => XS.ifYes X1.here hx rfl (pc0 := 3) (pc' := 28) rfl (hb hby d17_3) rfl ((if0 _ _).trans (feq (by decide : ¬ ((1 : Int32) = (0 : Int32)))).2) (by decide) (by decide) k_) ?_
  refine own_k (T' := T1) (g' := (mkF m 29 #[.val (.ref a1), .val (.int (3 : Int32)), .val (.int i2)] [(.int (3 : Int32))])) (fun _ k_ => XS.iloadN X1.here hx rfl (hb hby d17_28) rfl  k_) ?_
  refine own_k (T' := T1) (g' := (mkF m 30 #[.val (.ref a1), .val (.int (3 : Int32)), .val (.int i2)] [(.int (1 : Int32)), (.int (3 : Int32))])) (fun _ k_ => XS.iconst X1.here hx rfl (hb hby d17_29) k_) ?_
  refine own_k (T' := T1) (g' := (mkF m 31 #[.val (.ref a1), .val (.int (3 : Int32)), .val (.int i2)] [(.int ((3 : Int32) <<< ((1 : Int32) &&& 31)))])) (fun _ k_ => XS.ishl X1.here hx rfl (hb hby d17_30) rfl k_) ?_
  rw [show ((3 : Int32) <<< ((1 : Int32) &&& 31)) = (6 : Int32) from by decide]
  refine own_k (T' := T1) (g' := (mkF m 32 #[.val (.ref a1), .val (.int (6 : Int32)), .val (.int i2)] [])) (fun _ k_ => XS.istoreN X1.here hx rfl (hb hby d17_31) rfl (l' := #[.val (.ref a1), .val (.int (6 : Int32)), .val (.int i2)]) rfl k_) ?_
  refine own_k (T' := T1) (g' := (mkF m 33 #[.val (.ref a1), .val (.int (6 : Int32)), .val (.int i2)] [(.ref a1)])) (fun _ k_ => XS.aloadN X1.here hx rfl (hb hby d17_32) rfl rfl  k_) ?_
  refine own_k (T' := T1) (g' := (mkF m 34 #[.val (.ref a1), .val (.int (6 : Int32)), .val (.int i2)] [(.int (6 : Int32)), (.ref a1)])) (fun _ k_ => XS.iloadN X1.here hx rfl (hb hby d17_33) rfl  k_) ?_
  refine own_k (T' := T1) (g' := (mkF m 37 #[.val (.ref a1), .val (.int ((6 : Int32) + (1 : Int32))), .val (.int i2)] [(.int (6 : Int32)), (.ref a1)])) (fun _ k_ => XS.iinc X1.here hx rfl (hb hby d17_34) rfl (l' := #[.val (.ref a1), .val (.int ((6 : Int32) + (1 : Int32))), .val (.int i2)]) rfl k_) ?_
  rw [show ((6 : Int32) + (1 : Int32)) = (7 : Int32) from by decide]
  refine own_k (T' := T1) (g' := (mkF m 38 #[.val (.ref a1), .val (.int (7 : Int32)), .val (.int i2)] [(.int i2), (.int (6 : Int32)), (.ref a1)])) (fun _ k_ => XS.iloadN X1.here hx rfl (hb hby d17_37) rfl  k_) ?_
  obtain ⟨T2, X2, e2, st2⟩ := getS2 X1 hx hZ hown (host := "") (Or.inl (hw _ (List.mem_of_getElem? (i := 76) rfl))) Via.refl e1 (S_g_HI_BYTE_SHIFT.ext O0.2) (g := (mkF m 38 #[.val (.ref a1), .val (.int (7 : Int32)), .val (.int i2)] [(.int i2), (.int (6 : Int32)), (.ref a1)])) rfl (hb hby d17_38)
  refine own_k (T' := T2) (g' := (mkF m 41 #[.val (.ref a1), .val (.int (7 : Int32)), .val (.int i2)] [(.int (0 : Int32)), (.int i2), (.int (6 : Int32)), (.ref a1)])) st2 ?_
  refine own_k (T' := T2) (g' := (mkF m 42 #[.val (.ref a1), .val (.int (7 : Int32)), .val (.int i2)] [(.int (i2 >>> ((0 : Int32) &&& 31))), (.int (6 : Int32)), (.ref a1)])) (fun _ k_ => XS.ishr X2.here hx rfl (hb hby d17_41) rfl k_) ?_
  refine own_k (T' := T2) (g' := (mkF m 43 #[.val (.ref a1), .val (.int (7 : Int32)), .val (.int i2)] [(.int ((i2 >>> ((0 : Int32) &&& 31)).toInt8.toInt32)), (.int (6 : Int32)), (.ref a1)])) (fun _ k_ => XS.i2b X2.here hx rfl (hb hby d17_42) rfl k_) ?_
  obtain ⟨T3, h3, X3, e3, W3, V3, st3⟩ := own_bastore (pc := 43) (Ls := #[.val (.ref a1), .val (.int (7 : Int32)), .val (.int i2)]) (rest := []) X2 hx hZ e2 h_1 (j := (6 : Int32)) (x := ((i2 >>> ((0 : Int32) &&& 31)).toInt8.toInt32)) ⟨by decide, by decide⟩ 6 rfl (Nat.le_of_ble_eq_true rfl) (hb hby d17_43)
  have V3 : Arv Z h3 a1 q3 .byte (8 : Int32) [(.int i4), (.int i5), (.int i6), (.int i7), (.int i8), (.int i9), (.int (nar .byte ((i2 >>> ((0 : Int32) &&& 31)).toInt8.toInt32))), (.int (0 : Int32))] (.int (0 : Int32)) := V3
  rw [show nar .byte ((i2 >>> ((0 : Int32) &&& 31)).toInt8.toInt32) = ((i2 >>> ((0 : Int32) &&& 31)).toInt8.toInt32) from own_nar_byte _] at V3
  have O3' := O0.wr W3 h_2
  have N3 := Fr.snoc X3 N0 h_2
  refine own_k (T' := T3) (g' := (mkF m 44 #[.val (.ref a1), .val (.int (7 : Int32)), .val (.int i2)] [])) st3 ?_
  refine own_k (T' := T3) (g' := (mkF m 45 #[.val (.ref a1), .val (.int (7 : Int32)), .val (.int i2)] [(.ref a1)])) (fun _ k_ => XS.aloadN X3.here hx rfl (hb hby d17_44) rfl rfl  k_) ?_
  refine own_k (T' := T3) (g' := (mkF m 46 #[.val (.ref a1), .val (.int (7 : Int32)), .val (.int i2)] [(.int (7 : Int32)), (.ref a1)])) (fun _ k_ => XS.iloadN X3.here hx rfl (hb hby d17_45) rfl  k_) ?_
  refine own_k (T' := T3) (g' := (mkF m 47 #[.val (.ref a1), .val (.int (7 : Int32)), .val (.int i2)] [(.int i2), (.int (7 : Int32)), (.ref a1)])) (fun _ k_ => XS.iloadN X3.here hx rfl (hb hby d17_46) rfl  k_) ?_
  obtain ⟨T4, X4, e4, st4⟩ := getS2 X3 hx hZ hown (host := "") (Or.inl (hw _ (List.mem_of_getElem? (i := 77) rfl))) Via.refl e3 (S_g_LO_BYTE_SHIFT.ext O3'.2) (g := (mkF m 47 #[.val (.ref a1), .val (.int (7 : Int32)), .val (.int i2)] [(.int i2), (.int (7 : Int32)), (.ref a1)])) rfl (hb hby d17_47)
  refine own_k (T' := T4) (g' := (mkF m 50 #[.val (.ref a1), .val (.int (7 : Int32)), .val (.int i2)] [(.int (8 : Int32)), (.int i2), (.int (7 : Int32)), (.ref a1)])) st4 ?_
  refine own_k (T' := T4) (g' := (mkF m 51 #[.val (.ref a1), .val (.int (7 : Int32)), .val (.int i2)] [(.int (i2 >>> ((8 : Int32) &&& 31))), (.int (7 : Int32)), (.ref a1)])) (fun _ k_ => XS.ishr X4.here hx rfl (hb hby d17_50) rfl k_) ?_
  refine own_k (T' := T4) (g' := (mkF m 52 #[.val (.ref a1), .val (.int (7 : Int32)), .val (.int i2)] [(.int ((i2 >>> ((8 : Int32) &&& 31)).toInt8.toInt32)), (.int (7 : Int32)), (.ref a1)])) (fun _ k_ => XS.i2b X4.here hx rfl (hb hby d17_51) rfl k_) ?_
  obtain ⟨T5, h5, X5, e5, W5, V5, st5⟩ := own_bastore (pc := 52) (Ls := #[.val (.ref a1), .val (.int (7 : Int32)), .val (.int i2)]) (rest := []) X4 hx hZ e4 V3 (j := (7 : Int32)) (x := ((i2 >>> ((8 : Int32) &&& 31)).toInt8.toInt32)) ⟨by decide, by decide⟩ 7 rfl (Nat.le_of_ble_eq_true rfl) (hb hby d17_52)
  have V5 : Arv Z h5 a1 q3 .byte (8 : Int32) [(.int i4), (.int i5), (.int i6), (.int i7), (.int i8), (.int i9), (.int ((i2 >>> ((0 : Int32) &&& 31)).toInt8.toInt32)), (.int (nar .byte ((i2 >>> ((8 : Int32) &&& 31)).toInt8.toInt32)))] (.int (0 : Int32)) := V5
  rw [show nar .byte ((i2 >>> ((8 : Int32) &&& 31)).toInt8.toInt32) = ((i2 >>> ((8 : Int32) &&& 31)).toInt8.toInt32) from own_nar_byte _] at V5
  have O5' := O3'.wr W5 h_2
  have N5 := Fr.snoc X5 N3 h_2
  refine own_k (T' := T5) (g' := (mkF m 53 #[.val (.ref a1), .val (.int (7 : Int32)), .val (.int i2)] [])) st5 ?_
  have kp0 : Keep h0 h0 [a1] := Keep.refl h0 [a1]
  have kp1 : Keep h0 h3 [a1] := kp0.wr W3 (Or.inl (List.mem_of_getElem? (i := 0) rfl))
  have kp2 : Keep h0 h5 [a1] := kp1.wr W5 (Or.inl (List.mem_of_getElem? (i := 0) rfl))
  exact own_ret0 X5 hx hret hlk (hb hby d17_53) hF (by rw [e5]; exact ⟨rfl, N5, kp2, V5, ((h_3.wr W3).wr W5)⟩) (by decide) (by decide)
theorem d14_32 : decode jdk_52_method_14_code 32 = .ok (.aload_n 3, 1) := by decide +kernel
theorem d14_33 : decode jdk_52_method_14_code 33 = .ok (.areturn, 1) := by decide +kernel
set_option maxRecDepth 65536 in
set_option maxHeartbeats 40000000 in
theorem rm_toBytes_6 (l : Launch) (Z : State) (a0 : Array Value) (g_COMPACT_STRINGS : Int32) (g_SIOOBE_FORMATTER : Value) (hW : own_W Z a0 g_COMPACT_STRINGS g_SIOOBE_FORMATTER) (a1 : Addr) (q2 : ClassId) (i3 : Int32) (i4 : Int32) (i5 : Int32) (i6 : Int32) (h0 : Heap) (O0 : Old Z Z.heap.size h0) (h_1 : Arv Z h0 a1 q2 .char (4 : Int32) [(.int i3), (.int i4), (.int i5), (.int i6)] (.int (0 : Int32))) :
    own_Met l Z (⟨"java/lang/StringUTF16", "toBytes", "([CII)[B"⟩ : MethodName) jdk_52_method_14_code 5 (some (.array .byte)) ({ frames := 2, cells := 1, slots := 8, locals := 24 } : Room) #[(.ref a1), (.int (0 : Int32)), (.int (4 : Int32))] h0 (fun v h L => ∃ (b1_0 : Addr) (k1_1 : ClassId), v = some (.ref b1_0) ∧ Fr Z.heap.size L ∧ Keep h0 h [] ∧ h0.size ≤ b1_0 ∧ Exa Z h b1_0 "[B" ∧ Arv Z h b1_0 k1_1 .byte (8 : Int32) [(.int ((i3 >>> ((0 : Int32) &&& 31)).toInt8.toInt32)), (.int ((i3 >>> ((8 : Int32) &&& 31)).toInt8.toInt32)), (.int ((i4 >>> ((0 : Int32) &&& 31)).toInt8.toInt32)), (.int ((i4 >>> ((8 : Int32) &&& 31)).toInt8.toInt32)), (.int ((i5 >>> ((0 : Int32) &&& 31)).toInt8.toInt32)), (.int ((i5 >>> ((8 : Int32) &&& 31)).toInt8.toInt32)), (.int ((i6 >>> ((0 : Int32) &&& 31)).toInt8.toInt32)), (.int ((i6 >>> ((8 : Int32) &&& 31)).toInt8.toInt32))] (.int (0 : Int32))) := by
  have hW_ := hW
  obtain ⟨hw, S_g_COMPACT_STRINGS, P_g_COMPACT_STRINGS, R_g_SIOOBE_FORMATTER, S_g_SIOOBE_FORMATTER, S_g__assertionsDisabled, S_g_HI_BYTE_SHIFT, S_g_LO_BYTE_SHIFT⟩ := hW_
  refine own_met (plainFor_of_name pn_java_lang_StringUTF16) ?_
  intro p e s m below meth cc_ s₁ Φ hF X0 hx hby hml hZ hown hnm hret hlk e0
  have N0 := Fr.nil Z.heap.size
  refine own_k (T' := s₁) (g' := (mkF m 0 #[.val (.ref a1), .val (.int (0 : Int32)), .val (.int (4 : Int32)), .unset, .unset] [])) (fun _ k_ => castTop (ef_14_RII m a1 (0 : Int32) (4 : Int32)) k_) ?_
  refine own_k (T' := s₁) (g' := (mkF m 1 #[.val (.ref a1), .val (.int (0 : Int32)), .val (.int (4 : Int32)), .unset, .unset] [(.int (4 : Int32))])) (fun _ k_ => XS.iloadN X0.here hx rfl (hb hby d14_0) rfl  k_) ?_
  refine own_callS X0 hx hZ (y := (⟨"java/lang/StringUTF16", "newBytesFor", "(I)[B"⟩ : MethodName)) hown (hw _ (List.mem_of_getElem? (i := 65) rfl)) (hw _ (List.mem_of_getElem? (i := 66) rfl)) (hw _ (List.mem_of_getElem? (i := 18) rfl)) (hw _ (List.mem_of_getElem? (i := 67) rfl)) (by decide) (al := [(.int (4 : Int32))]) (rm_newBytesFor_1 l Z a0 g_COMPACT_STRINGS g_SIOOBE_FORMATTER hW h0 O0) 0 (by decide) (by decide) e0 (by decide) (by decide) (by rw [hml]; rfl) (lenOf pd__28I_29_5bB rfl) rfl (rest := []) (by show 2 * 0 + _ ≤ _; exact Nat.le_of_eq rfl) (hb hby d14_1) ?_
  intro v1 T1 L1 X1 hQ1
  obtain ⟨b1_0, k1_1, rfl, Nq1, K1, ge1_0, q1_0, q1_1⟩ := hQ1
  have N1 := Fr.app N0 Nq1
  have O1' := O0.keep K1 all0
  show own_Go p e below Φ T1 (mkF m 4 #[.val (.ref a1), .val (.int (0 : Int32)), .val (.int (4 : Int32)), .unset, .unset] [(.ref b1_0)])
  refine own_k (T' := T1) (g' := (mkF m 5 #[.val (.ref a1), .val (.int (0 : Int32)), .val (.int (4 : Int32)), .val (.ref b1_0), .unset] [])) (fun _ k_ => XS.astoreN X1.here hx rfl (hb hby d14_4) rfl rfl (l' := #[.val (.ref a1), .val (.int (0 : Int32)), .val (.int (4 : Int32)), .val (.ref b1_0), .unset]) rfl k_) ?_
  refine own_k (T' := T1) (g' := (mkF m 6 #[.val (.ref a1), .val (.int (0 : Int32)), .val (.int (4 : Int32)), .val (.ref b1_0), .unset] [(.int (0 : Int32))])) (fun _ k_ => XS.iconst X1.here hx rfl (hb hby d14_5) k_) ?_
  refine own_k (T' := T1) (g' := (mkF m 8 #[.val (.ref a1), .val (.int (0 : Int32)), .val (.int (4 : Int32)), .val (.ref b1_0), .val (.int (0 : Int32))] [])) (fun _ k_ => XS.istore X1.here hx rfl (hb hby d14_6) rfl (l' := #[.val (.ref a1), .val (.int (0 : Int32)), .val (.int (4 : Int32)), .val (.ref b1_0), .val (.int (0 : Int32))]) rfl k_) ?_
  refine own_k (T' := T1) (g' := (mkF m 10 #[.val (.ref a1), .val (.int (0 : Int32)), .val (.int (4 : Int32)), .val (.ref b1_0), .val (.int (0 : Int32))] [(.int (0 : Int32))])) (fun _ k_ => XS.iload X1.here hx rfl (hb hby d14_8) rfl  k_) ?_
  refine own_k (T' := T1) (g' := (mkF m 11 #[.val (.ref a1), .val (.int (0 : Int32)), .val (.int (4 : Int32)), .val (.ref b1_0), .val (.int (0 : Int32))] [(.int (4 : Int32)), (.int (0 : Int32))])) (fun _ k_ => XS.iloadN X1.here hx rfl (hb hby d14_10) rfl  k_) ?_
  refine own_k (T' := T1) (g' := (mkF m 14 #[.val (.ref a1), .val (.int (0 : Int32)), .val (.int (4 : Int32)), .val (.ref b1_0), .val (.int (0 : Int32))] [])) (fun _ k_ => XS.icmpNo X1.here hx rfl (hb hby d14_11) rfl ((tlt (by decide : ((0 : Int32) < (4 : Int32)))).2.1) k_) ?_
  refine own_k (T' := T1) (g' := (mkF m 15 #[.val (.ref a1), .val (.int (0 : Int32)), .val (.int (4 : Int32)), .val (.ref b1_0), .val (.int (0 : Int32))] [(.ref b1_0)])) (fun _ k_ => XS.aloadN X1.here hx rfl (hb hby d14_14) rfl rfl  k_) ?_
  refine own_k (T' := T1) (g' := (mkF m 17 #[.val (.ref a1), .val (.int (0 : Int32)), .val (.int (4 : Int32)), .val (.ref b1_0), .val (.int (0 : Int32))] [(.int (0 : Int32)), (.ref b1_0)])) (fun _ k_ => XS.iload X1.here hx rfl (hb hby d14_15) rfl  k_) ?_
  refine own_k (T' := T1) (g' := (mkF m 18 #[.val (.ref a1), .val (.int (0 : Int32)), .val (.int (4 : Int32)), .val (.ref b1_0), .val (.int (0 : Int32))] [(.ref a1), (.int (0 : Int32)), (.ref b1_0)])) (fun _ k_ => XS.aloadN X1.here hx rfl (hb hby d14_17) rfl rfl  k_) ?_
  refine own_k (T' := T1) (g' := (mkF m 19 #[.val (.ref a1), .val (.int (0 : Int32)), .val (.int (4 : Int32)), .val (.ref b1_0), .val (.int (0 : Int32))] [(.int (0 : Int32)), (.ref a1), (.int (0 : Int32)), (.ref b1_0)])) (fun _ k_ => XS.iloadN X1.here hx rfl (hb hby d14_18) rfl  k_) ?_
  refine own_caload X1 hx hZ rfl (h_1.keep K1 nin0) (j := (0 : Int32)) ⟨by decide, by decide⟩ (v := (.int i3)) rfl (hb hby d14_19) ?_
  show own_Go p e below Φ T1 (mkF m 20 #[.val (.ref a1), .val (.int (0 : Int32)), .val (.int (4 : Int32)), .val (.ref b1_0), .val (.int (0 : Int32))] [(.int i3), (.int (0 : Int32)), (.ref b1_0)])
  refine own_callS X1 hx hZ (y := (⟨"java/lang/StringUTF16", "putChar", "([BII)V"⟩ : MethodName)) hown (hw _ (List.mem_of_getElem? (i := 72) rfl)) (hw _ (List.mem_of_getElem? (i := 73) rfl)) (hw _ (List.mem_of_getElem? (i := 18) rfl)) (hw _ (List.mem_of_getElem? (i := 74) rfl)) (by decide) (al := [(.ref b1_0), (.int (0 : Int32)), (.int i3)]) (rm_putChar_2 l Z a0 g_COMPACT_STRINGS g_SIOOBE_FORMATTER hW b1_0 i3 k1_1 T1.heap O1' q1_0 (Nat.le_trans O0.2.1 ge1_0) q1_1) 0 (by decide) (by decide) rfl (by decide) (by decide) (by rw [hml]; rfl) (lenOf pd__28_5bBII_29V rfl) rfl (rest := []) (by show 2 * 0 + _ ≤ _; exact Nat.le_of_eq rfl) (hb hby d14_20) ?_
  intro v2 T2 L2 X2 hQ2
  obtain ⟨rfl, Nq2, K2, q2_0, q2_1⟩ := hQ2
  have N2 := Fr.app N1 Nq2
  have O2' := O1'.keep K2 (allS (Nat.le_trans O0.2.1 ge1_0) all0)
  show own_Go p e below Φ T2 (mkF m 23 #[.val (.ref a1), .val (.int (0 : Int32)), .val (.int (4 : Int32)), .val (.ref b1_0), .val (.int (0 : Int32))] [])
  refine own_k (T' := T2) (g' := (mkF m 26 #[.val (.ref a1), .val (.int ((0 : Int32) + (1 : Int32))), .val (.int (4 : Int32)), .val (.ref b1_0), .val (.int (0 : Int32))] [])) (fun _ k_ => XS.iinc X2.here hx rfl (hb hby d14_23) rfl (l' := #[.val (.ref a1), .val (.int ((0 : Int32) + (1 : Int32))), .val (.int (4 : Int32)), .val (.ref b1_0), .val (.int (0 : Int32))]) rfl k_) ?_
  rw [show ((0 : Int32) + (1 : Int32)) = (1 : Int32) from by decide]
  refine own_k (T' := T2) (g' := (mkF m 29 #[.val (.ref a1), .val (.int (1 : Int32)), .val (.int (4 : Int32)), .val (.ref b1_0), .val (.int ((0 : Int32) + (1 : Int32)))] [])) (fun _ k_ => XS.iinc X2.here hx rfl (hb hby d14_26) rfl (l' := #[.val (.ref a1), .val (.int (1 : Int32)), .val (.int (4 : Int32)), .val (.ref b1_0), .val (.int ((0 : Int32) + (1 : Int32)))]) rfl k_) ?_
  rw [show ((0 : Int32) + (1 : Int32)) = (1 : Int32) from by decide]
  refine own_k (T' := T2) (g' := (mkF m 8 #[.val (.ref a1), .val (.int (1 : Int32)), .val (.int (4 : Int32)), .val (.ref b1_0), .val (.int (1 : Int32))] [])) (fun _ k_ => XS.goto X2.here hx rfl (pc0 := 29) (pc' := 8) rfl (hb hby d14_29) (by decide) (by decide) k_) ?_
  refine own_k (T' := T2) (g' := (mkF m 10 #[.val (.ref a1), .val (.int (1 : Int32)), .val (.int (4 : Int32)), .val (.ref b1_0), .val (.int (1 : Int32))] [(.int (1 : Int32))])) (fun _ k_ => XS.iload X2.here hx rfl (hb hby d14_8) rfl  k_) ?_
  refine own_k (T' := T2) (g' := (mkF m 11 #[.val (.ref a1), .val (.int (1 : Int32)), .val (.int (4 : Int32)), .val (.ref b1_0), .val (.int (1 : Int32))] [(.int (4 : Int32)), (.int (1 : Int32))])) (fun _ k_ => XS.iloadN X2.here hx rfl (hb hby d14_10) rfl  k_) ?_
  refine own_k (T' := T2) (g' := (mkF m 14 #[.val (.ref a1), .val (.int (1 : Int32)), .val (.int (4 : Int32)), .val (.ref b1_0), .val (.int (1 : Int32))] [])) (fun _ k_ => XS.icmpNo X2.here hx rfl (hb hby d14_11) rfl ((tlt (by decide : ((1 : Int32) < (4 : Int32)))).2.1) k_) ?_
  refine own_k (T' := T2) (g' := (mkF m 15 #[.val (.ref a1), .val (.int (1 : Int32)), .val (.int (4 : Int32)), .val (.ref b1_0), .val (.int (1 : Int32))] [(.ref b1_0)])) (fun _ k_ => XS.aloadN X2.here hx rfl (hb hby d14_14) rfl rfl  k_) ?_
  refine own_k (T' := T2) (g' := (mkF m 17 #[.val (.ref a1), .val (.int (1 : Int32)), .val (.int (4 : Int32)), .val (.ref b1_0), .val (.int (1 : Int32))] [(.int (1 : Int32)), (.ref b1_0)])) (fun _ k_ => XS.iload X2.here hx rfl (hb hby d14_15) rfl  k_) ?_
  refine own_k (T' := T2) (g' := (mkF m 18 #[.val (.ref a1), .val (.int (1 : Int32)), .val (.int (4 : Int32)), .val (.ref b1_0), .val (.int (1 : Int32))] [(.ref a1), (.int (1 : Int32)), (.ref b1_0)])) (fun _ k_ => XS.aloadN X2.here hx rfl (hb hby d14_17) rfl rfl  k_) ?_
  refine own_k (T' := T2) (g' := (mkF m 19 #[.val (.ref a1), .val (.int (1 : Int32)), .val (.int (4 : Int32)), .val (.ref b1_0), .val (.int (1 : Int32))] [(.int (1 : Int32)), (.ref a1), (.int (1 : Int32)), (.ref b1_0)])) (fun _ k_ => XS.iloadN X2.here hx rfl (hb hby d14_18) rfl  k_) ?_
  have f3 := ((h_1.keep K1 nin0).keep K2 (ninS (Nat.ne_of_lt (Nat.lt_of_lt_of_le h_1.lt ge1_0)) nin0))
  refine own_caload X2 hx hZ rfl f3 (j := (1 : Int32)) ⟨by decide, by decide⟩ (v := (.int i4)) rfl (hb hby d14_19) ?_
  show own_Go p e below Φ T2 (mkF m 20 #[.val (.ref a1), .val (.int (1 : Int32)), .val (.int (4 : Int32)), .val (.ref b1_0), .val (.int (1 : Int32))] [(.int i4), (.int (1 : Int32)), (.ref b1_0)])
  refine own_callS X2 hx hZ (y := (⟨"java/lang/StringUTF16", "putChar", "([BII)V"⟩ : MethodName)) hown (hw _ (List.mem_of_getElem? (i := 72) rfl)) (hw _ (List.mem_of_getElem? (i := 73) rfl)) (hw _ (List.mem_of_getElem? (i := 18) rfl)) (hw _ (List.mem_of_getElem? (i := 74) rfl)) (by decide) (al := [(.ref b1_0), (.int (1 : Int32)), (.int i4)]) (rm_putChar_3 l Z a0 g_COMPACT_STRINGS g_SIOOBE_FORMATTER hW b1_0 i4 k1_1 ((i3 >>> ((0 : Int32) &&& 31)).toInt8.toInt32) ((i3 >>> ((8 : Int32) &&& 31)).toInt8.toInt32) T2.heap O2' q2_0 (Nat.le_trans O0.2.1 ge1_0) q2_1) 0 (by decide) (by decide) rfl (by decide) (by decide) (by rw [hml]; rfl) (lenOf pd__28_5bBII_29V rfl) rfl (rest := []) (by show 2 * 0 + _ ≤ _; exact Nat.le_of_eq rfl) (hb hby d14_20) ?_
  intro v4 T4 L4 X4 hQ4
  obtain ⟨rfl, Nq4, K4, q4_0, q4_1⟩ := hQ4
  have N4 := Fr.app N2 Nq4
  have O4' := O2'.keep K4 (allS (Nat.le_trans O0.2.1 ge1_0) all0)
  show own_Go p e below Φ T4 (mkF m 23 #[.val (.ref a1), .val (.int (1 : Int32)), .val (.int (4 : Int32)), .val (.ref b1_0), .val (.int (1 : Int32))] [])
  refine own_k (T' := T4) (g' := (mkF m 26 #[.val (.ref a1), .val (.int ((1 : Int32) + (1 : Int32))), .val (.int (4 : Int32)), .val (.ref b1_0), .val (.int (1 : Int32))] [])) (fun _ k_ => XS.iinc X4.here hx rfl (hb hby d14_23) rfl (l' := #[.val (.ref a1), .val (.int ((1 : Int32) + (1 : Int32))), .val (.int (4 : Int32)), .val (.ref b1_0), .val (.int (1 : Int32))]) rfl k_) ?_
  rw [show ((1 : Int32) + (1 : Int32)) = (2 : Int32) from by decide]
  refine own_k (T' := T4) (g' := (mkF m 29 #[.val (.ref a1), .val (.int (2 : Int32)), .val (.int (4 : Int32)), .val (.ref b1_0), .val (.int ((1 : Int32) + (1 : Int32)))] [])) (fun _ k_ => XS.iinc X4.here hx rfl (hb hby d14_26) rfl (l' := #[.val (.ref a1), .val (.int (2 : Int32)), .val (.int (4 : Int32)), .val (.ref b1_0), .val (.int ((1 : Int32) + (1 : Int32)))]) rfl k_) ?_
  rw [show ((1 : Int32) + (1 : Int32)) = (2 : Int32) from by decide]
  refine own_k (T' := T4) (g' := (mkF m 8 #[.val (.ref a1), .val (.int (2 : Int32)), .val (.int (4 : Int32)), .val (.ref b1_0), .val (.int (2 : Int32))] [])) (fun _ k_ => XS.goto X4.here hx rfl (pc0 := 29) (pc' := 8) rfl (hb hby d14_29) (by decide) (by decide) k_) ?_
  refine own_k (T' := T4) (g' := (mkF m 10 #[.val (.ref a1), .val (.int (2 : Int32)), .val (.int (4 : Int32)), .val (.ref b1_0), .val (.int (2 : Int32))] [(.int (2 : Int32))])) (fun _ k_ => XS.iload X4.here hx rfl (hb hby d14_8) rfl  k_) ?_
  refine own_k (T' := T4) (g' := (mkF m 11 #[.val (.ref a1), .val (.int (2 : Int32)), .val (.int (4 : Int32)), .val (.ref b1_0), .val (.int (2 : Int32))] [(.int (4 : Int32)), (.int (2 : Int32))])) (fun _ k_ => XS.iloadN X4.here hx rfl (hb hby d14_10) rfl  k_) ?_
  refine own_k (T' := T4) (g' := (mkF m 14 #[.val (.ref a1), .val (.int (2 : Int32)), .val (.int (4 : Int32)), .val (.ref b1_0), .val (.int (2 : Int32))] [])) (fun _ k_ => XS.icmpNo X4.here hx rfl (hb hby d14_11) rfl ((tlt (by decide : ((2 : Int32) < (4 : Int32)))).2.1) k_) ?_
  refine own_k (T' := T4) (g' := (mkF m 15 #[.val (.ref a1), .val (.int (2 : Int32)), .val (.int (4 : Int32)), .val (.ref b1_0), .val (.int (2 : Int32))] [(.ref b1_0)])) (fun _ k_ => XS.aloadN X4.here hx rfl (hb hby d14_14) rfl rfl  k_) ?_
  refine own_k (T' := T4) (g' := (mkF m 17 #[.val (.ref a1), .val (.int (2 : Int32)), .val (.int (4 : Int32)), .val (.ref b1_0), .val (.int (2 : Int32))] [(.int (2 : Int32)), (.ref b1_0)])) (fun _ k_ => XS.iload X4.here hx rfl (hb hby d14_15) rfl  k_) ?_
  refine own_k (T' := T4) (g' := (mkF m 18 #[.val (.ref a1), .val (.int (2 : Int32)), .val (.int (4 : Int32)), .val (.ref b1_0), .val (.int (2 : Int32))] [(.ref a1), (.int (2 : Int32)), (.ref b1_0)])) (fun _ k_ => XS.aloadN X4.here hx rfl (hb hby d14_17) rfl rfl  k_) ?_
  refine own_k (T' := T4) (g' := (mkF m 19 #[.val (.ref a1), .val (.int (2 : Int32)), .val (.int (4 : Int32)), .val (.ref b1_0), .val (.int (2 : Int32))] [(.int (2 : Int32)), (.ref a1), (.int (2 : Int32)), (.ref b1_0)])) (fun _ k_ => XS.iloadN X4.here hx rfl (hb hby d14_18) rfl  k_) ?_
  have f5 := (f3.keep K4 (ninS (Nat.ne_of_lt (Nat.lt_of_lt_of_le h_1.lt ge1_0)) nin0))
  refine own_caload X4 hx hZ rfl f5 (j := (2 : Int32)) ⟨by decide, by decide⟩ (v := (.int i5)) rfl (hb hby d14_19) ?_
  show own_Go p e below Φ T4 (mkF m 20 #[.val (.ref a1), .val (.int (2 : Int32)), .val (.int (4 : Int32)), .val (.ref b1_0), .val (.int (2 : Int32))] [(.int i5), (.int (2 : Int32)), (.ref b1_0)])
  refine own_callS X4 hx hZ (y := (⟨"java/lang/StringUTF16", "putChar", "([BII)V"⟩ : MethodName)) hown (hw _ (List.mem_of_getElem? (i := 72) rfl)) (hw _ (List.mem_of_getElem? (i := 73) rfl)) (hw _ (List.mem_of_getElem? (i := 18) rfl)) (hw _ (List.mem_of_getElem? (i := 74) rfl)) (by decide) (al := [(.ref b1_0), (.int (2 : Int32)), (.int i5)]) (rm_putChar_4 l Z a0 g_COMPACT_STRINGS g_SIOOBE_FORMATTER hW b1_0 i5 k1_1 ((i3 >>> ((0 : Int32) &&& 31)).toInt8.toInt32) ((i3 >>> ((8 : Int32) &&& 31)).toInt8.toInt32) ((i4 >>> ((0 : Int32) &&& 31)).toInt8.toInt32) ((i4 >>> ((8 : Int32) &&& 31)).toInt8.toInt32) T4.heap O4' q4_0 (Nat.le_trans O0.2.1 ge1_0) q4_1) 0 (by decide) (by decide) rfl (by decide) (by decide) (by rw [hml]; rfl) (lenOf pd__28_5bBII_29V rfl) rfl (rest := []) (by show 2 * 0 + _ ≤ _; exact Nat.le_of_eq rfl) (hb hby d14_20) ?_
  intro v6 T6 L6 X6 hQ6
  obtain ⟨rfl, Nq6, K6, q6_0, q6_1⟩ := hQ6
  have N6 := Fr.app N4 Nq6
  have O6' := O4'.keep K6 (allS (Nat.le_trans O0.2.1 ge1_0) all0)
  show own_Go p e below Φ T6 (mkF m 23 #[.val (.ref a1), .val (.int (2 : Int32)), .val (.int (4 : Int32)), .val (.ref b1_0), .val (.int (2 : Int32))] [])
  refine own_k (T' := T6) (g' := (mkF m 26 #[.val (.ref a1), .val (.int ((2 : Int32) + (1 : Int32))), .val (.int (4 : Int32)), .val (.ref b1_0), .val (.int (2 : Int32))] [])) (fun _ k_ => XS.iinc X6.here hx rfl (hb hby d14_23) rfl (l' := #[.val (.ref a1), .val (.int ((2 : Int32) + (1 : Int32))), .val (.int (4 : Int32)), .val (.ref b1_0), .val (.int (2 : Int32))]) rfl k_) ?_
  rw [show ((2 : Int32) + (1 : Int32)) = (3 : Int32) from by decide]
  refine own_k (T' := T6) (g' := (mkF m 29 #[.val (.ref a1), .val (.int (3 : Int32)), .val (.int (4 : Int32)), .val (.ref b1_0), .val (.int ((2 : Int32) + (1 : Int32)))] [])) (fun _ k_ => XS.iinc X6.here hx rfl (hb hby d14_26) rfl (l' := #[.val (.ref a1), .val (.int (3 : Int32)), .val (.int (4 : Int32)), .val (.ref b1_0), .val (.int ((2 : Int32) + (1 : Int32)))]) rfl k_) ?_
  rw [show ((2 : Int32) + (1 : Int32)) = (3 : Int32) from by decide]
  refine own_k (T' := T6) (g' := (mkF m 8 #[.val (.ref a1), .val (.int (3 : Int32)), .val (.int (4 : Int32)), .val (.ref b1_0), .val (.int (3 : Int32))] [])) (fun _ k_ => XS.goto X6.here hx rfl (pc0 := 29) (pc' := 8) rfl (hb hby d14_29) (by decide) (by decide) k_) ?_
  refine own_k (T' := T6) (g' := (mkF m 10 #[.val (.ref a1), .val (.int (3 : Int32)), .val (.int (4 : Int32)), .val (.ref b1_0), .val (.int (3 : Int32))] [(.int (3 : Int32))])) (fun _ k_ => XS.iload X6.here hx rfl (hb hby d14_8) rfl  k_) ?_
  refine own_k (T' := T6) (g' := (mkF m 11 #[.val (.ref a1), .val (.int (3 : Int32)), .val (.int (4 : Int32)), .val (.ref b1_0), .val (.int (3 : Int32))] [(.int (4 : Int32)), (.int (3 : Int32))])) (fun _ k_ => XS.iloadN X6.here hx rfl (hb hby d14_10) rfl  k_) ?_
  refine own_k (T' := T6) (g' := (mkF m 14 #[.val (.ref a1), .val (.int (3 : Int32)), .val (.int (4 : Int32)), .val (.ref b1_0), .val (.int (3 : Int32))] [])) (fun _ k_ => XS.icmpNo X6.here hx rfl (hb hby d14_11) rfl ((tlt (by decide : ((3 : Int32) < (4 : Int32)))).2.1) k_) ?_
  refine own_k (T' := T6) (g' := (mkF m 15 #[.val (.ref a1), .val (.int (3 : Int32)), .val (.int (4 : Int32)), .val (.ref b1_0), .val (.int (3 : Int32))] [(.ref b1_0)])) (fun _ k_ => XS.aloadN X6.here hx rfl (hb hby d14_14) rfl rfl  k_) ?_
  refine own_k (T' := T6) (g' := (mkF m 17 #[.val (.ref a1), .val (.int (3 : Int32)), .val (.int (4 : Int32)), .val (.ref b1_0), .val (.int (3 : Int32))] [(.int (3 : Int32)), (.ref b1_0)])) (fun _ k_ => XS.iload X6.here hx rfl (hb hby d14_15) rfl  k_) ?_
  refine own_k (T' := T6) (g' := (mkF m 18 #[.val (.ref a1), .val (.int (3 : Int32)), .val (.int (4 : Int32)), .val (.ref b1_0), .val (.int (3 : Int32))] [(.ref a1), (.int (3 : Int32)), (.ref b1_0)])) (fun _ k_ => XS.aloadN X6.here hx rfl (hb hby d14_17) rfl rfl  k_) ?_
  refine own_k (T' := T6) (g' := (mkF m 19 #[.val (.ref a1), .val (.int (3 : Int32)), .val (.int (4 : Int32)), .val (.ref b1_0), .val (.int (3 : Int32))] [(.int (3 : Int32)), (.ref a1), (.int (3 : Int32)), (.ref b1_0)])) (fun _ k_ => XS.iloadN X6.here hx rfl (hb hby d14_18) rfl  k_) ?_
  have f7 := (f5.keep K6 (ninS (Nat.ne_of_lt (Nat.lt_of_lt_of_le h_1.lt ge1_0)) nin0))
  refine own_caload X6 hx hZ rfl f7 (j := (3 : Int32)) ⟨by decide, by decide⟩ (v := (.int i6)) rfl (hb hby d14_19) ?_
  show own_Go p e below Φ T6 (mkF m 20 #[.val (.ref a1), .val (.int (3 : Int32)), .val (.int (4 : Int32)), .val (.ref b1_0), .val (.int (3 : Int32))] [(.int i6), (.int (3 : Int32)), (.ref b1_0)])
  refine own_callS X6 hx hZ (y := (⟨"java/lang/StringUTF16", "putChar", "([BII)V"⟩ : MethodName)) hown (hw _ (List.mem_of_getElem? (i := 72) rfl)) (hw _ (List.mem_of_getElem? (i := 73) rfl)) (hw _ (List.mem_of_getElem? (i := 18) rfl)) (hw _ (List.mem_of_getElem? (i := 74) rfl)) (by decide) (al := [(.ref b1_0), (.int (3 : Int32)), (.int i6)]) (rm_putChar_5 l Z a0 g_COMPACT_STRINGS g_SIOOBE_FORMATTER hW b1_0 i6 k1_1 ((i3 >>> ((0 : Int32) &&& 31)).toInt8.toInt32) ((i3 >>> ((8 : Int32) &&& 31)).toInt8.toInt32) ((i4 >>> ((0 : Int32) &&& 31)).toInt8.toInt32) ((i4 >>> ((8 : Int32) &&& 31)).toInt8.toInt32) ((i5 >>> ((0 : Int32) &&& 31)).toInt8.toInt32) ((i5 >>> ((8 : Int32) &&& 31)).toInt8.toInt32) T6.heap O6' q6_0 (Nat.le_trans O0.2.1 ge1_0) q6_1) 0 (by decide) (by decide) rfl (by decide) (by decide) (by rw [hml]; rfl) (lenOf pd__28_5bBII_29V rfl) rfl (rest := []) (by show 2 * 0 + _ ≤ _; exact Nat.le_of_eq rfl) (hb hby d14_20) ?_
  intro v8 T8 L8 X8 hQ8
  obtain ⟨rfl, Nq8, K8, q8_0, q8_1⟩ := hQ8
  have N8 := Fr.app N6 Nq8
  have O8' := O6'.keep K8 (allS (Nat.le_trans O0.2.1 ge1_0) all0)
  show own_Go p e below Φ T8 (mkF m 23 #[.val (.ref a1), .val (.int (3 : Int32)), .val (.int (4 : Int32)), .val (.ref b1_0), .val (.int (3 : Int32))] [])
  refine own_k (T' := T8) (g' := (mkF m 26 #[.val (.ref a1), .val (.int ((3 : Int32) + (1 : Int32))), .val (.int (4 : Int32)), .val (.ref b1_0), .val (.int (3 : Int32))] [])) (fun _ k_ => XS.iinc X8.here hx rfl (hb hby d14_23) rfl (l' := #[.val (.ref a1), .val (.int ((3 : Int32) + (1 : Int32))), .val (.int (4 : Int32)), .val (.ref b1_0), .val (.int (3 : Int32))]) rfl k_) ?_
  rw [show ((3 : Int32) + (1 : Int32)) = (4 : Int32) from by decide]
  refine own_k (T' := T8) (g' := (mkF m 29 #[.val (.ref a1), .val (.int (4 : Int32)), .val (.int (4 : Int32)), .val (.ref b1_0), .val (.int ((3 : Int32) + (1 : Int32)))] [])) (fun _ k_ => XS.iinc X8.here hx rfl (hb hby d14_26) rfl (l' := #[.val (.ref a1), .val (.int (4 : Int32)), .val (.int (4 : Int32)), .val (.ref b1_0), .val (.int ((3 : Int32) + (1 : Int32)))]) rfl k_) ?_
  rw [show ((3 : Int32) + (1 : Int32)) = (4 : Int32) from by decide]
  refine own_k (T' := T8) (g' := (mkF m 8 #[.val (.ref a1), .val (.int (4 : Int32)), .val (.int (4 : Int32)), .val (.ref b1_0), .val (.int (4 : Int32))] [])) (fun _ k_ => XS.goto X8.here hx rfl (pc0 := 29) (pc' := 8) rfl (hb hby d14_29) (by decide) (by decide) k_) ?_
  refine own_k (T' := T8) (g' := (mkF m 10 #[.val (.ref a1), .val (.int (4 : Int32)), .val (.int (4 : Int32)), .val (.ref b1_0), .val (.int (4 : Int32))] [(.int (4 : Int32))])) (fun _ k_ => XS.iload X8.here hx rfl (hb hby d14_8) rfl  k_) ?_
  refine own_k (T' := T8) (g' := (mkF m 11 #[.val (.ref a1), .val (.int (4 : Int32)), .val (.int (4 : Int32)), .val (.ref b1_0), .val (.int (4 : Int32))] [(.int (4 : Int32)), (.int (4 : Int32))])) (fun _ k_ => XS.iloadN X8.here hx rfl (hb hby d14_10) rfl  k_) ?_
  refine own_k (T' := T8) (g' := (mkF m 32 #[.val (.ref a1), .val (.int (4 : Int32)), .val (.int (4 : Int32)), .val (.ref b1_0), .val (.int (4 : Int32))] [])) (fun _ k_ => XS.icmpYes X8.here hx rfl (pc0 := 11) (pc' := 32) rfl (hb hby d14_11) rfl ((flt (by decide : ¬ ((4 : Int32) < (4 : Int32)))).2.1) (by decide) (by decide) k_) ?_
  refine own_k (T' := T8) (g' := (mkF m 33 #[.val (.ref a1), .val (.int (4 : Int32)), .val (.int (4 : Int32)), .val (.ref b1_0), .val (.int (4 : Int32))] [(.ref b1_0)])) (fun _ k_ => XS.aloadN X8.here hx rfl (hb hby d14_32) rfl rfl  k_) ?_
  have kp0 : Keep h0 h0 [] := Keep.refl h0 []
  have kp1 : Keep h0 T1.heap [] := kp0.trans K1 all0
  have kp2 : Keep h0 T2.heap [] := kp1.trans K2 (allS (Or.inr (Nat.le_trans kp0.1 ge1_0)) all0)
  have kp3 : Keep h0 T4.heap [] := kp2.trans K4 (allS (Or.inr (Nat.le_trans kp0.1 ge1_0)) all0)
  have kp4 : Keep h0 T6.heap [] := kp3.trans K6 (allS (Or.inr (Nat.le_trans kp0.1 ge1_0)) all0)
  have kp5 : Keep h0 T8.heap [] := kp4.trans K8 (allS (Or.inr (Nat.le_trans kp0.1 ge1_0)) all0)
  exact own_retA X8 hx hret rfl rfl hlk (hb hby d14_33) hF (⟨b1_0, k1_1, rfl, N8, kp5, (Nat.le_trans kp0.1 ge1_0), q8_1, q8_0⟩) (by decide) (by decide)
theorem d4_26 : decode jdk_52_method_16_code 26 = .ok (.astore 5, 2) := by decide +kernel
theorem d4_28 : decode jdk_52_method_16_code 28 = .ok (.aload 5, 2) := by decide +kernel
theorem d4_30 : decode jdk_52_method_16_code 30 = .ok (.iload 4, 2) := by decide +kernel
theorem d4_32 : decode jdk_52_method_16_code 32 = .ok (.invokestatic 71, 3) := by decide +kernel
theorem pd__28_5bBI_29C : parseMethodDescriptor "([BI)C" = some ⟨[(.array .byte), .int], some .char⟩ := by decide +kernel
theorem ef_18_RI (m : MethodId) (x0 : Addr) (x1 : Int32)  : entryFrame m #[(.ref x0), (.int x1)] 2 = mkF m 0 #[.val (.ref x0), .val (.int x1)] [] := by first | (simp [entryFrame, mkF, argsToLocals, Value.category]; done) | rfl
theorem d18_0 : decode jdk_52_method_5_code 0 = .ok (.getstatic 44, 3) := by decide +kernel
theorem d18_3 : decode jdk_52_method_5_code 3 = .ok (.ifCond .ne 25, 3) := by decide +kernel
theorem d18_28 : decode jdk_52_method_5_code 28 = .ok (.iload_n 1, 1) := by decide +kernel
theorem d18_29 : decode jdk_52_method_5_code 29 = .ok (.iconst 1, 1) := by decide +kernel
theorem d18_30 : decode jdk_52_method_5_code 30 = .ok (.ishl, 1) := by decide +kernel
theorem d18_31 : decode jdk_52_method_5_code 31 = .ok (.istore_n 1, 1) := by decide +kernel
theorem d18_32 : decode jdk_52_method_5_code 32 = .ok (.aload_n 0, 1) := by decide +kernel
theorem d18_33 : decode jdk_52_method_5_code 33 = .ok (.iload_n 1, 1) := by decide +kernel
theorem d18_34 : decode jdk_52_method_5_code 34 = .ok (.iinc 1 1, 3) := by decide +kernel
theorem d18_37 : decode jdk_52_method_5_code 37 = .ok (.baload, 1) := by decide +kernel
theorem d18_38 : decode jdk_52_method_5_code 38 = .ok (.sipush 255, 3) := by decide +kernel
theorem d18_41 : decode jdk_52_method_5_code 41 = .ok (.iand, 1) := by decide +kernel
theorem d18_42 : decode jdk_52_method_5_code 42 = .ok (.getstatic 59, 3) := by decide +kernel
theorem d18_45 : decode jdk_52_method_5_code 45 = .ok (.ishl, 1) := by decide +kernel
theorem d18_46 : decode jdk_52_method_5_code 46 = .ok (.aload_n 0, 1) := by decide +kernel
theorem d18_47 : decode jdk_52_method_5_code 47 = .ok (.iload_n 1, 1) := by decide +kernel
theorem d18_48 : decode jdk_52_method_5_code 48 = .ok (.baload, 1) := by decide +kernel
theorem d18_49 : decode jdk_52_method_5_code 49 = .ok (.sipush 255, 3) := by decide +kernel
theorem d18_52 : decode jdk_52_method_5_code 52 = .ok (.iand, 1) := by decide +kernel
theorem d18_53 : decode jdk_52_method_5_code 53 = .ok (.getstatic 63, 3) := by decide +kernel
theorem d18_56 : decode jdk_52_method_5_code 56 = .ok (.ishl, 1) := by decide +kernel
theorem d18_57 : decode jdk_52_method_5_code 57 = .ok (.ior, 1) := by decide +kernel
theorem d18_58 : decode jdk_52_method_5_code 58 = .ok (.i2c, 1) := by decide +kernel
theorem d18_59 : decode jdk_52_method_5_code 59 = .ok (.ireturn, 1) := by decide +kernel
set_option maxRecDepth 65536 in
set_option maxHeartbeats 40000000 in
theorem rm_getChar_7 (l : Launch) (Z : State) (a0 : Array Value) (g_COMPACT_STRINGS : Int32) (g_SIOOBE_FORMATTER : Value) (hW : own_W Z a0 g_COMPACT_STRINGS g_SIOOBE_FORMATTER) (a1 : Addr) (i2 : Int32) (q3 : ClassId) (i4 : Int32) (i5 : Int32) (i6 : Int32) (i7 : Int32) (i8 : Int32) (i9 : Int32) (i10 : Int32) (i11 : Int32) (i12 : Int32) (i13 : Int32) (h0 : Heap) (O0 : Old Z Z.heap.size h0) (h_1 : ¬ ((i2 <<< ((1 : Int32) &&& 31)) < (0 : Int32))) (h_2 : ((i2 <<< ((1 : Int32) &&& 31)) < (8 : Int32))) (h_3 : ([(.int i4), (.int i5), (.int i6), (.int i7), (.int i8), (.int i9), (.int i10), (.int i11)] : List Value).getD ((i2 <<< ((1 : Int32) &&& 31))).toNatClampNeg (.int (0 : Int32)) = (.int i12)) (h_4 : Arv Z h0 a1 q3 .byte (8 : Int32) [(.int i4), (.int i5), (.int i6), (.int i7), (.int i8), (.int i9), (.int i10), (.int i11)] (.int (0 : Int32))) (h_5 : ¬ (((i2 <<< ((1 : Int32) &&& 31)) + (1 : Int32)) < (0 : Int32))) (h_6 : (((i2 <<< ((1 : Int32) &&& 31)) + (1 : Int32)) < (8 : Int32))) (h_7 : ([(.int i4), (.int i5), (.int i6), (.int i7), (.int i8), (.int i9), (.int i10), (.int i11)] : List Value).getD (((i2 <<< ((1 : Int32) &&& 31)) + (1 : Int32))).toNatClampNeg (.int (0 : Int32)) = (.int i13)) :
    own_Met l Z (⟨"java/lang/StringUTF16", "getChar", "([BI)C"⟩ : MethodName) jdk_52_method_5_code 2 (some .char) ({ frames := 0, cells := 0, slots := 0, locals := 0 } : Room) #[(.ref a1), (.int i2)] h0 (fun v h L => v = some (.int ((((i12 &&& (255 : Int32)) <<< ((0 : Int32) &&& 31)) ||| ((i13 &&& (255 : Int32)) <<< ((8 : Int32) &&& 31))).toUInt32.toUInt16.toUInt32.toInt32)) ∧ Fr Z.heap.size L ∧ h = h0) := by
  have hW_ := hW
  obtain ⟨hw, S_g_COMPACT_STRINGS, P_g_COMPACT_STRINGS, R_g_SIOOBE_FORMATTER, S_g_SIOOBE_FORMATTER, S_g__assertionsDisabled, S_g_HI_BYTE_SHIFT, S_g_LO_BYTE_SHIFT⟩ := hW_
  refine own_met (plainFor_of_name pn_java_lang_StringUTF16) ?_
  intro p e s m below meth cc_ s₁ Φ hF X0 hx hby hml hZ hown hnm hret hlk e0
  have N0 := Fr.nil Z.heap.size
  refine own_k (T' := s₁) (g' := (mkF m 0 #[.val (.ref a1), .val (.int i2)] [])) (fun _ k_ => castTop (ef_18_RI m a1 i2) k_) ?_
  obtain ⟨T1, X1, e1, st1⟩ := getS2 X0 hx hZ hown (host := "") (Or.inl (hw _ (List.mem_of_getElem? (i := 75) rfl))) Via.refl e0 (S_g__assertionsDisabled.ext O0.2) (g := (mkF m 0 #[.val (.ref a1), .val (.int i2)] [])) rfl (hb hby d18_0)
  refine own_k (T' := T1) (g' := (mkF m 3 #[.val (.ref a1), .val (.int i2)] [(.int (1 : Int32))])) st1 ?_
  refine own_k (T' := T1) (g' := (mkF m 28 #[.val (.ref a1), .val (.int i2)] [])) (fun _ k_ => XS.ifYes X1.here hx rfl (pc0 := 3) (pc' := 28) rfl (hb hby d18_3) rfl ((if0 _ _).trans (feq (by decide : ¬ ((1 : Int32) = (0 : Int32)))).2) (by decide) (by decide) k_) ?_
  refine own_k (T' := T1) (g' := (mkF m 29 #[.val (.ref a1), .val (.int i2)] [(.int i2)])) (fun _ k_ => XS.iloadN X1.here hx rfl (hb hby d18_28) rfl  k_) ?_
  refine own_k (T' := T1) (g' := (mkF m 30 #[.val (.ref a1), .val (.int i2)] [(.int (1 : Int32)), (.int i2)])) (fun _ k_ => XS.iconst X1.here hx rfl (hb hby d18_29) k_) ?_
  refine own_k (T' := T1) (g' := (mkF m 31 #[.val (.ref a1), .val (.int i2)] [(.int (i2 <<< ((1 : Int32) &&& 31)))])) (fun _ k_ => XS.ishl X1.here hx rfl (hb hby d18_30) rfl k_) ?_
  refine own_k (T' := T1) (g' := (mkF m 32 #[.val (.ref a1), .val (.int (i2 <<< ((1 : Int32) &&& 31)))] [])) (fun _ k_ => XS.istoreN X1.here hx rfl (hb hby d18_31) rfl (l' := #[.val (.ref a1), .val (.int (i2 <<< ((1 : Int32) &&& 31)))]) rfl k_) ?_
  refine own_k (T' := T1) (g' := (mkF m 33 #[.val (.ref a1), .val (.int (i2 <<< ((1 : Int32) &&& 31)))] [(.ref a1)])) (fun _ k_ => XS.aloadN X1.here hx rfl (hb hby d18_32) rfl rfl  k_) ?_
  refine own_k (T' := T1) (g' := (mkF m 34 #[.val (.ref a1), .val (.int (i2 <<< ((1 : Int32) &&& 31)))] [(.int (i2 <<< ((1 : Int32) &&& 31))), (.ref a1)])) (fun _ k_ => XS.iloadN X1.here hx rfl (hb hby d18_33) rfl  k_) ?_
  refine own_k (T' := T1) (g' := (mkF m 37 #[.val (.ref a1), .val (.int ((i2 <<< ((1 : Int32) &&& 31)) + (1 : Int32)))] [(.int (i2 <<< ((1 : Int32) &&& 31))), (.ref a1)])) (fun _ k_ => XS.iinc X1.here hx rfl (hb hby d18_34) rfl (l' := #[.val (.ref a1), .val (.int ((i2 <<< ((1 : Int32) &&& 31)) + (1 : Int32)))]) rfl k_) ?_
  refine own_baload X1 hx hZ e1 h_4 (j := (i2 <<< ((1 : Int32) &&& 31))) ⟨h_1, h_2⟩ (v := (.int i12)) h_3 (hb hby d18_37) ?_
  show own_Go p e below Φ T1 (mkF m 38 #[.val (.ref a1), .val (.int ((i2 <<< ((1 : Int32) &&& 31)) + (1 : Int32)))] [(.int i12)])
  refine own_k (T' := T1) (g' := (mkF m 41 #[.val (.ref a1), .val (.int ((i2 <<< ((1 : Int32) &&& 31)) + (1 : Int32)))] [(.int (255 : Int32)), (.int i12)])) (fun _ k_ => XS.sipush X1.here hx rfl (hb hby d18_38) k_) ?_
  refine own_k (T' := T1) (g' := (mkF m 42 #[.val (.ref a1), .val (.int ((i2 <<< ((1 : Int32) &&& 31)) + (1 : Int32)))] [(.int (i12 &&& (255 : Int32)))])) (fun _ k_ => XS.iand X1.here hx rfl (hb hby d18_41) rfl k_) ?_
  obtain ⟨T2, X2, e2, st2⟩ := getS2 X1 hx hZ hown (host := "") (Or.inl (hw _ (List.mem_of_getElem? (i := 76) rfl))) Via.refl e1 (S_g_HI_BYTE_SHIFT.ext O0.2) (g := (mkF m 42 #[.val (.ref a1), .val (.int ((i2 <<< ((1 : Int32) &&& 31)) + (1 : Int32)))] [(.int (i12 &&& (255 : Int32)))])) rfl (hb hby d18_42)
  refine own_k (T' := T2) (g' := (mkF m 45 #[.val (.ref a1), .val (.int ((i2 <<< ((1 : Int32) &&& 31)) + (1 : Int32)))] [(.int (0 : Int32)), (.int (i12 &&& (255 : Int32)))])) st2 ?_
  refine own_k (T' := T2) (g' := (mkF m 46 #[.val (.ref a1), .val (.int ((i2 <<< ((1 : Int32) &&& 31)) + (1 : Int32)))] [(.int ((i12 &&& (255 : Int32)) <<< ((0 : Int32) &&& 31)))])) (fun _ k_ => XS.ishl X2.here hx rfl (hb hby d18_45) rfl k_) ?_
  refine own_k (T' := T2) (g' := (mkF m 47 #[.val (.ref a1), .val (.int ((i2 <<< ((1 : Int32) &&& 31)) + (1 : Int32)))] [(.ref a1), (.int ((i12 &&& (255 : Int32)) <<< ((0 : Int32) &&& 31)))])) (fun _ k_ => XS.aloadN X2.here hx rfl (hb hby d18_46) rfl rfl  k_) ?_
  refine own_k (T' := T2) (g' := (mkF m 48 #[.val (.ref a1), .val (.int ((i2 <<< ((1 : Int32) &&& 31)) + (1 : Int32)))] [(.int ((i2 <<< ((1 : Int32) &&& 31)) + (1 : Int32))), (.ref a1), (.int ((i12 &&& (255 : Int32)) <<< ((0 : Int32) &&& 31)))])) (fun _ k_ => XS.iloadN X2.here hx rfl (hb hby d18_47) rfl  k_) ?_
  refine own_baload X2 hx hZ e2 h_4 (j := ((i2 <<< ((1 : Int32) &&& 31)) + (1 : Int32))) ⟨h_5, h_6⟩ (v := (.int i13)) h_7 (hb hby d18_48) ?_
  show own_Go p e below Φ T2 (mkF m 49 #[.val (.ref a1), .val (.int ((i2 <<< ((1 : Int32) &&& 31)) + (1 : Int32)))] [(.int i13), (.int ((i12 &&& (255 : Int32)) <<< ((0 : Int32) &&& 31)))])
  refine own_k (T' := T2) (g' := (mkF m 52 #[.val (.ref a1), .val (.int ((i2 <<< ((1 : Int32) &&& 31)) + (1 : Int32)))] [(.int (255 : Int32)), (.int i13), (.int ((i12 &&& (255 : Int32)) <<< ((0 : Int32) &&& 31)))])) (fun _ k_ => XS.sipush X2.here hx rfl (hb hby d18_49) k_) ?_
  refine own_k (T' := T2) (g' := (mkF m 53 #[.val (.ref a1), .val (.int ((i2 <<< ((1 : Int32) &&& 31)) + (1 : Int32)))] [(.int (i13 &&& (255 : Int32))), (.int ((i12 &&& (255 : Int32)) <<< ((0 : Int32) &&& 31)))])) (fun _ k_ => XS.iand X2.here hx rfl (hb hby d18_52) rfl k_) ?_
  obtain ⟨T3, X3, e3, st3⟩ := getS2 X2 hx hZ hown (host := "") (Or.inl (hw _ (List.mem_of_getElem? (i := 77) rfl))) Via.refl e2 (S_g_LO_BYTE_SHIFT.ext O0.2) (g := (mkF m 53 #[.val (.ref a1), .val (.int ((i2 <<< ((1 : Int32) &&& 31)) + (1 : Int32)))] [(.int (i13 &&& (255 : Int32))), (.int ((i12 &&& (255 : Int32)) <<< ((0 : Int32) &&& 31)))])) rfl (hb hby d18_53)
  refine own_k (T' := T3) (g' := (mkF m 56 #[.val (.ref a1), .val (.int ((i2 <<< ((1 : Int32) &&& 31)) + (1 : Int32)))] [(.int (8 : Int32)), (.int (i13 &&& (255 : Int32))), (.int ((i12 &&& (255 : Int32)) <<< ((0 : Int32) &&& 31)))])) st3 ?_
  refine own_k (T' := T3) (g' := (mkF m 57 #[.val (.ref a1), .val (.int ((i2 <<< ((1 : Int32) &&& 31)) + (1 : Int32)))] [(.int ((i13 &&& (255 : Int32)) <<< ((8 : Int32) &&& 31))), (.int ((i12 &&& (255 : Int32)) <<< ((0 : Int32) &&& 31)))])) (fun _ k_ => XS.ishl X3.here hx rfl (hb hby d18_56) rfl k_) ?_
  refine own_k (T' := T3) (g' := (mkF m 58 #[.val (.ref a1), .val (.int ((i2 <<< ((1 : Int32) &&& 31)) + (1 : Int32)))] [(.int (((i12 &&& (255 : Int32)) <<< ((0 : Int32) &&& 31)) ||| ((i13 &&& (255 : Int32)) <<< ((8 : Int32) &&& 31))))])) (fun _ k_ => XS.ior X3.here hx rfl (hb hby d18_57) rfl k_) ?_
  refine own_k (T' := T3) (g' := (mkF m 59 #[.val (.ref a1), .val (.int ((i2 <<< ((1 : Int32) &&& 31)) + (1 : Int32)))] [(.int ((((i12 &&& (255 : Int32)) <<< ((0 : Int32) &&& 31)) ||| ((i13 &&& (255 : Int32)) <<< ((8 : Int32) &&& 31))).toUInt32.toUInt16.toUInt32.toInt32))])) (fun _ k_ => XS.i2c X3.here hx rfl (hb hby d18_58) rfl k_) ?_
  exact own_retN X3 hx (t := .char) hret (by simp) hlk (hb hby d18_59) hF (by rw [e3]; exact ⟨by rw [show nar .char ((((i12 &&& (255 : Int32)) <<< ((0 : Int32) &&& 31)) ||| ((i13 &&& (255 : Int32)) <<< ((8 : Int32) &&& 31))).toUInt32.toUInt16.toUInt32.toInt32) = ((((i12 &&& (255 : Int32)) <<< ((0 : Int32) &&& 31)) ||| ((i13 &&& (255 : Int32)) <<< ((8 : Int32) &&& 31))).toUInt32.toUInt16.toUInt32.toInt32) from own_nar_char _], N0, rfl⟩) (by decide) (by decide)
theorem d4_35 : decode jdk_52_method_16_code 35 = .ok (.sipush 255, 3) := by decide +kernel
theorem d4_38 : decode jdk_52_method_16_code 38 = .ok (.if_icmp .gt 16, 3) := by decide +kernel
theorem d4_54 : decode jdk_52_method_16_code 54 = .ok (.aload 5, 2) := by decide +kernel
theorem d4_56 : decode jdk_52_method_16_code 56 = .ok (.areturn, 1) := by decide +kernel
set_option maxRecDepth 65536 in
set_option maxHeartbeats 40000000 in
theorem rm_compress3 (l : Launch) (Z : State) (a0 : Array Value) (g_COMPACT_STRINGS : Int32) (g_SIOOBE_FORMATTER : Value) (hW : own_W Z a0 g_COMPACT_STRINGS g_SIOOBE_FORMATTER) (b : Addr) (kc : ClassId) (c0 : Int32) (c1 : Int32) (c2 : Int32) (c3 : Int32) (h0 : Heap) (O0 : Old Z Z.heap.size h0) (hA : Arv Z h0 b kc .char (4 : Int32) [(.int c0), (.int c1), (.int c2), (.int c3)] (.int (0 : Int32))) (r0 : own_ok c0) (r1 : own_ok c1) (r2 : own_ok c2) (r3 : own_ok c3) :
    own_Met l Z (⟨"java/lang/StringUTF16", "compress", "([CII)[B"⟩ : MethodName) jdk_52_method_16_code 6 (some (.array .byte)) ({ frames := 3, cells := 2, slots := 12, locals := 40 } : Room) #[(.ref b), (.int (0 : Int32)), (.int (4 : Int32))] h0 (fun v h L => (∃ (t : Addr) (kb : ClassId), v = some (.ref t) ∧ h0.size ≤ t ∧ own_Byt Z h t kb [c0, c1, c2, c3]) ∧ Fr Z.heap.size L ∧ Keep h0 h []) := by
  have hW_ := hW
  obtain ⟨hw, S_g_COMPACT_STRINGS, P_g_COMPACT_STRINGS, R_g_SIOOBE_FORMATTER, S_g_SIOOBE_FORMATTER, S_g__assertionsDisabled, S_g_HI_BYTE_SHIFT, S_g_LO_BYTE_SHIFT⟩ := hW_
  refine own_met (plainFor_of_name pn_java_lang_StringUTF16) ?_
  intro p e s m below meth cc_ s₁ Φ hF X0 hx hby hml hZ hown hnm hret hlk e0
  have N0 := Fr.nil Z.heap.size
  refine own_k (T' := s₁) (g' := (mkF m 0 #[.val (.ref b), .val (.int (0 : Int32)), .val (.int (4 : Int32)), .unset, .unset, .unset] [])) (fun _ k_ => castTop (ef_4_RII m b (0 : Int32) (4 : Int32)) k_) ?_
  refine own_k (T' := s₁) (g' := (mkF m 1 #[.val (.ref b), .val (.int (0 : Int32)), .val (.int (4 : Int32)), .unset, .unset, .unset] [(.int (4 : Int32))])) (fun _ k_ => XS.iloadN X0.here hx rfl (hb hby d4_0) rfl  k_) ?_
  obtain ⟨T1, h1, k1, X1, e1, E1, V1, A1, st1⟩ := own_newarr (pc := 1) (Ls := #[.val (.ref b), .val (.int (0 : Int32)), .val (.int (4 : Int32)), .unset, .unset, .unset]) (rest := []) X0 hx hZ (hw _ (List.mem_of_getElem? (i := 20) rfl)) e0 (hb hby d4_1) (n := (4 : Int32)) (by decide) (cap := 4) (by decide) (by decide) (by decide) (by decide) (ad := "[B") (by decide)
  obtain ⟨b1, g1⟩ : ∃ z, z = h0.size := ⟨_, rfl⟩
  rw [← g1] at V1 A1 st1
  have O1' := O0.ext E1
  have V1 : Arv Z h1 b1 k1 .byte (4 : Int32) [(.int (0 : Int32)), (.int (0 : Int32)), (.int (0 : Int32)), (.int (0 : Int32))] (.int (0 : Int32)) := V1
  refine own_k (T' := T1) (g' := (mkF m 3 #[.val (.ref b), .val (.int (0 : Int32)), .val (.int (4 : Int32)), .unset, .unset, .unset] [(.ref b1)])) st1 ?_
  refine own_k (T' := T1) (g' := (mkF m 4 #[.val (.ref b), .val (.int (0 : Int32)), .val (.int (4 : Int32)), .val (.ref b1), .unset, .unset] [])) (fun _ k_ => XS.astoreN X1.here hx rfl (hb hby d4_3) rfl rfl (l' := #[.val (.ref b), .val (.int (0 : Int32)), .val (.int (4 : Int32)), .val (.ref b1), .unset, .unset]) rfl k_) ?_
  refine own_k (T' := T1) (g' := (mkF m 5 #[.val (.ref b), .val (.int (0 : Int32)), .val (.int (4 : Int32)), .val (.ref b1), .unset, .unset] [(.ref b)])) (fun _ k_ => XS.aloadN X1.here hx rfl (hb hby d4_4) rfl rfl  k_) ?_
  refine own_k (T' := T1) (g' := (mkF m 6 #[.val (.ref b), .val (.int (0 : Int32)), .val (.int (4 : Int32)), .val (.ref b1), .unset, .unset] [(.int (0 : Int32)), (.ref b)])) (fun _ k_ => XS.iloadN X1.here hx rfl (hb hby d4_5) rfl  k_) ?_
  refine own_k (T' := T1) (g' := (mkF m 7 #[.val (.ref b), .val (.int (0 : Int32)), .val (.int (4 : Int32)), .val (.ref b1), .unset, .unset] [(.ref b1), (.int (0 : Int32)), (.ref b)])) (fun _ k_ => XS.aloadN X1.here hx rfl (hb hby d4_6) rfl rfl  k_) ?_
  refine own_k (T' := T1) (g' := (mkF m 8 #[.val (.ref b), .val (.int (0 : Int32)), .val (.int (4 : Int32)), .val (.ref b1), .unset, .unset] [(.int (0 : Int32)), (.ref b1), (.int (0 : Int32)), (.ref b)])) (fun _ k_ => XS.iconst X1.here hx rfl (hb hby d4_7) k_) ?_
  refine own_k (T' := T1) (g' := (mkF m 9 #[.val (.ref b), .val (.int (0 : Int32)), .val (.int (4 : Int32)), .val (.ref b1), .unset, .unset] [(.int (4 : Int32)), (.int (0 : Int32)), (.ref b1), (.int (0 : Int32)), (.ref b)])) (fun _ k_ => XS.iloadN X1.here hx rfl (hb hby d4_8) rfl  k_) ?_
  refine own_callS X1 hx hZ (y := (⟨"java/lang/StringUTF16", "compress", "([CI[BII)I"⟩ : MethodName)) hown (hw _ (List.mem_of_getElem? (i := 21) rfl)) (hw _ (List.mem_of_getElem? (i := 22) rfl)) (hw _ (List.mem_of_getElem? (i := 18) rfl)) (hw _ (List.mem_of_getElem? (i := 23) rfl)) (by decide) (al := [(.ref b), (.int (0 : Int32)), (.ref b1), (.int (0 : Int32)), (.int (4 : Int32))]) (rm_compress5 l Z a0 g_COMPACT_STRINGS g_SIOOBE_FORMATTER hW b b1 kc k1 c0 c1 c2 c3 h1 O1' (hA.ext E1) V1 (Nat.le_trans O0.2.1 (Nat.le_of_eq g1.symm)) (Nat.ne_of_lt (Nat.lt_of_lt_of_le hA.lt (Nat.le_of_eq g1.symm)))) 0 (by decide) (by decide) e1 (by decide) (by decide) (by rw [hml]; rfl) (lenOf pd__28_5bCI_5bBII_29I rfl) rfl (rest := []) (by show 2 * 0 + _ ≤ _; exact Nat.le_of_eq rfl) (hb hby d4_9) ?_
  intro v2 T2 L2 X2 hQ2
  obtain ⟨⟨r, rfl, hr⟩, Nq2, K2⟩ := hQ2
  have N2 := Fr.app N0 Nq2
  have O2' := O1'.keep K2 (allS (Nat.le_trans O0.2.1 (Nat.le_of_eq g1.symm)) all0)
  show own_Go p e below Φ T2 (mkF m 12 #[.val (.ref b), .val (.int (0 : Int32)), .val (.int (4 : Int32)), .val (.ref b1), .unset, .unset] [(.int r)])
  rcases hr with ⟨rfl, hlat, hAd⟩ | ⟨hb1, hb2, hgt_ch⟩
  · refine own_k (T' := T2) (g' := (mkF m 14 #[.val (.ref b), .val (.int (0 : Int32)), .val (.int (4 : Int32)), .val (.ref b1), .val (.int (4 : Int32)), .unset] [])) (fun _ k_ => XS.istore X2.here hx rfl (hb hby d4_12) rfl (l' := #[.val (.ref b), .val (.int (0 : Int32)), .val (.int (4 : Int32)), .val (.ref b1), .val (.int (4 : Int32)), .unset]) rfl k_) ?_
    refine own_k (T' := T2) (g' := (mkF m 16 #[.val (.ref b), .val (.int (0 : Int32)), .val (.int (4 : Int32)), .val (.ref b1), .val (.int (4 : Int32)), .unset] [(.int (4 : Int32))])) (fun _ k_ => XS.iload X2.here hx rfl (hb hby d4_14) rfl  k_) ?_
    refine own_k (T' := T2) (g' := (mkF m 17 #[.val (.ref b), .val (.int (0 : Int32)), .val (.int (4 : Int32)), .val (.ref b1), .val (.int (4 : Int32)), .unset] [(.int (4 : Int32)), (.int (4 : Int32))])) (fun _ k_ => XS.iloadN X2.here hx rfl (hb hby d4_16) rfl  k_) ?_
    refine own_k (T' := T2) (g' := (mkF m 57 #[.val (.ref b), .val (.int (0 : Int32)), .val (.int (4 : Int32)), .val (.ref b1), .val (.int (4 : Int32)), .unset] [])) (fun _ k_ => XS.icmpYes X2.here hx rfl (pc0 := 17) (pc' := 57) rfl (hb hby d4_17) rfl ((teq (by decide : ((4 : Int32) = (4 : Int32)))).1) (by decide) (by decide) k_) ?_
    refine own_k (T' := T2) (g' := (mkF m 58 #[.val (.ref b), .val (.int (0 : Int32)), .val (.int (4 : Int32)), .val (.ref b1), .val (.int (4 : Int32)), .unset] [(.ref b1)])) (fun _ k_ => XS.aloadN X2.here hx rfl (hb hby d4_57) rfl rfl  k_) ?_
    have kp0 : Keep h0 h0 [] := Keep.refl h0 []
    have kp1 : Keep h0 h1 [] := kp0.ext E1
    have kp2 : Keep h0 T2.heap [] := kp1.trans K2 (allS (Or.inr (Nat.le_trans kp0.1 (Nat.le_of_eq g1.symm))) all0)
    exact own_retA X2 hx hret rfl rfl hlk (hb hby d4_58) hF (⟨⟨b1, k1, rfl, Nat.le_trans kp0.1 (Nat.le_of_eq g1.symm), Or.inl ⟨hAd, hlat⟩⟩, N2, kp2⟩) (by decide) (by decide)
  · have hb_r : 0 ≤ r.toInt ∧ r.toInt < 4 := ⟨hb1, hb2⟩
    obtain ⟨ch, hch⟩ : ∃ c, c = [c0, c1, c2, c3].getD r.toNatClampNeg (0 : Int32) := ⟨_, rfl⟩
    rw [← hch] at hgt_ch
    have hok_ch : own_ok ch := hch ▸ own_ok_getD (own_all_4 r0 r1 r2 r3) _
    refine own_k (T' := T2) (g' := (mkF m 14 #[.val (.ref b), .val (.int (0 : Int32)), .val (.int (4 : Int32)), .val (.ref b1), .val (.int r), .unset] [])) (fun _ k_ => XS.istore X2.here hx rfl (hb hby d4_12) rfl (l' := #[.val (.ref b), .val (.int (0 : Int32)), .val (.int (4 : Int32)), .val (.ref b1), .val (.int r), .unset]) rfl k_) ?_
    refine own_k (T' := T2) (g' := (mkF m 16 #[.val (.ref b), .val (.int (0 : Int32)), .val (.int (4 : Int32)), .val (.ref b1), .val (.int r), .unset] [(.int r)])) (fun _ k_ => XS.iload X2.here hx rfl (hb hby d4_14) rfl  k_) ?_
    refine own_k (T' := T2) (g' := (mkF m 17 #[.val (.ref b), .val (.int (0 : Int32)), .val (.int (4 : Int32)), .val (.ref b1), .val (.int r), .unset] [(.int (4 : Int32)), (.int r)])) (fun _ k_ => XS.iloadN X2.here hx rfl (hb hby d4_16) rfl  k_) ?_
    refine own_k (T' := T2) (g' := (mkF m 20 #[.val (.ref b), .val (.int (0 : Int32)), .val (.int (4 : Int32)), .val (.ref b1), .val (.int r), .unset] [])) (fun _ k_ => XS.icmpNo X2.here hx rfl (hb hby d4_17) rfl ((feq (own_bnd hb_r).2.2.2.2.2.2).1) k_) ?_
    refine own_k (T' := T2) (g' := (mkF m 21 #[.val (.ref b), .val (.int (0 : Int32)), .val (.int (4 : Int32)), .val (.ref b1), .val (.int r), .unset] [(.ref b)])) (fun _ k_ => XS.aloadN X2.here hx rfl (hb hby d4_20) rfl rfl  k_) ?_
    refine own_k (T' := T2) (g' := (mkF m 22 #[.val (.ref b), .val (.int (0 : Int32)), .val (.int (4 : Int32)), .val (.ref b1), .val (.int r), .unset] [(.int (0 : Int32)), (.ref b)])) (fun _ k_ => XS.iloadN X2.here hx rfl (hb hby d4_21) rfl  k_) ?_
    refine own_k (T' := T2) (g' := (mkF m 23 #[.val (.ref b), .val (.int (0 : Int32)), .val (.int (4 : Int32)), .val (.ref b1), .val (.int r), .unset] [(.int (4 : Int32)), (.int (0 : Int32)), (.ref b)])) (fun _ k_ => XS.iloadN X2.here hx rfl (hb hby d4_22) rfl  k_) ?_
    have f4 := ((hA.ext E1).keep K2 (ninS (Nat.ne_of_lt (Nat.lt_of_lt_of_le hA.lt (Nat.le_of_eq g1.symm))) nin0))
    refine own_callS X2 hx hZ (y := (⟨"java/lang/StringUTF16", "toBytes", "([CII)[B"⟩ : MethodName)) hown (hw _ (List.mem_of_getElem? (i := 62) rfl)) (hw _ (List.mem_of_getElem? (i := 63) rfl)) (hw _ (List.mem_of_getElem? (i := 18) rfl)) (hw _ (List.mem_of_getElem? (i := 64) rfl)) (by decide) (al := [(.ref b), (.int (0 : Int32)), (.int (4 : Int32))]) (rm_toBytes_6 l Z a0 g_COMPACT_STRINGS g_SIOOBE_FORMATTER hW b kc c0 c1 c2 c3 T2.heap O2' f4) 0 (by decide) (by decide) rfl (by decide) (by decide) (by rw [hml]; rfl) (lenOf pd__28_5bCII_29_5bB rfl) rfl (rest := []) (by show 2 * 0 + _ ≤ _; exact Nat.le_of_eq rfl) (hb hby d4_23) ?_
    intro v3 T3 L3 X3 hQ3
    obtain ⟨b3_0, k3_1, rfl, Nq3, K3, ge3_0, q3_0, q3_1⟩ := hQ3
    have N3 := Fr.app N2 Nq3
    have O3' := O2'.keep K3 all0
    show own_Go p e below Φ T3 (mkF m 26 #[.val (.ref b), .val (.int (0 : Int32)), .val (.int (4 : Int32)), .val (.ref b1), .val (.int r), .unset] [(.ref b3_0)])
    refine own_k (T' := T3) (g' := (mkF m 28 #[.val (.ref b), .val (.int (0 : Int32)), .val (.int (4 : Int32)), .val (.ref b1), .val (.int r), .val (.ref b3_0)] [])) (fun _ k_ => XS.astore X3.here hx rfl (hb hby d4_26) rfl rfl (l' := #[.val (.ref b), .val (.int (0 : Int32)), .val (.int (4 : Int32)), .val (.ref b1), .val (.int r), .val (.ref b3_0)]) rfl k_) ?_
    refine own_k (T' := T3) (g' := (mkF m 30 #[.val (.ref b), .val (.int (0 : Int32)), .val (.int (4 : Int32)), .val (.ref b1), .val (.int r), .val (.ref b3_0)] [(.ref b3_0)])) (fun _ k_ => XS.aload X3.here hx rfl (hb hby d4_28) rfl rfl  k_) ?_
    refine own_k (T' := T3) (g' := (mkF m 32 #[.val (.ref b), .val (.int (0 : Int32)), .val (.int (4 : Int32)), .val (.ref b1), .val (.int r), .val (.ref b3_0)] [(.int r), (.ref b3_0)])) (fun _ k_ => XS.iload X3.here hx rfl (hb hby d4_30) rfl  k_) ?_
    refine own_callS X3 hx hZ (y := (⟨"java/lang/StringUTF16", "getChar", "([BI)C"⟩ : MethodName)) hown (hw _ (List.mem_of_getElem? (i := 78) rfl)) (hw _ (List.mem_of_getElem? (i := 79) rfl)) (hw _ (List.mem_of_getElem? (i := 18) rfl)) (hw _ (List.mem_of_getElem? (i := 80) rfl)) (by decide) (al := [(.ref b3_0), (.int r)]) (rm_getChar_7 l Z a0 g_COMPACT_STRINGS g_SIOOBE_FORMATTER hW b3_0 r k3_1 ((c0 >>> ((0 : Int32) &&& 31)).toInt8.toInt32) ((c0 >>> ((8 : Int32) &&& 31)).toInt8.toInt32) ((c1 >>> ((0 : Int32) &&& 31)).toInt8.toInt32) ((c1 >>> ((8 : Int32) &&& 31)).toInt8.toInt32) ((c2 >>> ((0 : Int32) &&& 31)).toInt8.toInt32) ((c2 >>> ((8 : Int32) &&& 31)).toInt8.toInt32) ((c3 >>> ((0 : Int32) &&& 31)).toInt8.toInt32) ((c3 >>> ((8 : Int32) &&& 31)).toInt8.toInt32) ((ch >>> ((0 : Int32) &&& 31)).toInt8.toInt32) ((ch >>> ((8 : Int32) &&& 31)).toInt8.toInt32) T3.heap O3' (own_bnd hb_r).2.2.1 (own_bnd hb_r).2.2.2.1 ((congrArg (fun z => (own_utf [c0, c1, c2, c3]).getD z (.int (0 : Int32))) (own_idx_lo ⟨hb_r.1, by omega⟩)).trans ((own_utf_lo [c0, c1, c2, c3] _).trans (by rw [← hch]))) q3_1 (own_bnd hb_r).2.2.2.2.1 (own_bnd hb_r).2.2.2.2.2.1 ((congrArg (fun z => (own_utf [c0, c1, c2, c3]).getD z (.int (0 : Int32))) (own_idx_hi ⟨hb_r.1, by omega⟩)).trans ((own_utf_hi [c0, c1, c2, c3] _).trans (by rw [← hch])))) 0 (by decide) (by decide) rfl (by decide) (by decide) (by rw [hml]; rfl) (lenOf pd__28_5bBI_29C rfl) rfl (rest := []) (by show 2 * 0 + _ ≤ _; exact Nat.le_of_eq rfl) (hb hby d4_32) ?_
    intro v5 T5 L5 X5 hQ5
    obtain ⟨rfl, Nq5, e5⟩ := hQ5
    have N5 := Fr.app N3 Nq5
    show own_Go p e below Φ T5 (mkF m 35 #[.val (.ref b), .val (.int (0 : Int32)), .val (.int (4 : Int32)), .val (.ref b1), .val (.int r), .val (.ref b3_0)] [(.int ((((((ch >>> ((0 : Int32) &&& 31)).toInt8.toInt32) &&& (255 : Int32)) <<< ((0 : Int32) &&& 31)) ||| ((((ch >>> ((8 : Int32) &&& 31)).toInt8.toInt32) &&& (255 : Int32)) <<< ((8 : Int32) &&& 31))).toUInt32.toUInt16.toUInt32.toInt32))])
    refine own_k (T' := T5) (g' := (mkF m 38 #[.val (.ref b), .val (.int (0 : Int32)), .val (.int (4 : Int32)), .val (.ref b1), .val (.int r), .val (.ref b3_0)] [(.int (255 : Int32)), (.int ((((((ch >>> ((0 : Int32) &&& 31)).toInt8.toInt32) &&& (255 : Int32)) <<< ((0 : Int32) &&& 31)) ||| ((((ch >>> ((8 : Int32) &&& 31)).toInt8.toInt32) &&& (255 : Int32)) <<< ((8 : Int32) &&& 31))).toUInt32.toUInt16.toUInt32.toInt32))])) (fun _ k_ => XS.sipush X5.here hx rfl (hb hby d4_35) k_) ?_
    refine own_k (T' := T5) (g' := (mkF m 54 #[.val (.ref b), .val (.int (0 : Int32)), .val (.int (4 : Int32)), .val (.ref b1), .val (.int r), .val (.ref b3_0)] [])) (fun _ k_ => XS.icmpYes X5.here hx rfl (pc0 := 38) (pc' := 54) rfl (hb hby d4_38) rfl ((tlt (own_rec_gt hok_ch hgt_ch)).2.2.1) (by decide) (by decide) k_) ?_
    refine own_k (T' := T5) (g' := (mkF m 56 #[.val (.ref b), .val (.int (0 : Int32)), .val (.int (4 : Int32)), .val (.ref b1), .val (.int r), .val (.ref b3_0)] [(.ref b3_0)])) (fun _ k_ => XS.aload X5.here hx rfl (hb hby d4_54) rfl rfl  k_) ?_
    have kp0 : Keep h0 h0 [] := Keep.refl h0 []
    have kp1 : Keep h0 h1 [] := kp0.ext E1
    have kp2 : Keep h0 T2.heap [] := kp1.trans K2 (allS (Or.inr (Nat.le_trans kp0.1 (Nat.le_of_eq g1.symm))) all0)
    have kp3 : Keep h0 T3.heap [] := kp2.trans K3 all0
    exact own_retA X5 hx hret rfl rfl hlk (hb hby d4_56) hF (by rw [e5]; exact ⟨⟨b3_0, k3_1, rfl, Nat.le_trans kp2.1 ge3_0, Or.inr q3_1⟩, N5, kp3⟩) (by decide) (by decide)
theorem ef_2_RRIIN (m : MethodId) (x0 : Addr) (x1 : Addr) (x2 : Int32) (x3 : Int32)  : entryFrame m #[(.ref x0), (.ref x1), (.int x2), (.int x3), .null] 6 = mkF m 0 #[.val (.ref x0), .val (.ref x1), .val (.int x2), .val (.int x3), .val .null, .unset] [] := by first | (simp [entryFrame, mkF, argsToLocals, Value.category]; done) | rfl
theorem pn_java_lang_String : plainName "java/lang/String" = true := by first | (simp [plainName, overriddenIn]; done) | decide +kernel
theorem d2_0 : decode jdk_42_method_149_code 0 = .ok (.aload_n 0, 1) := by decide +kernel
theorem d2_1 : decode jdk_42_method_149_code 1 = .ok (.invokespecial 1, 3) := by decide +kernel
theorem d2_4 : decode jdk_42_method_149_code 4 = .ok (.iload_n 3, 1) := by decide +kernel
theorem d2_5 : decode jdk_42_method_149_code 5 = .ok (.ifCond .ne 22, 3) := by decide +kernel
theorem d2_27 : decode jdk_42_method_149_code 27 = .ok (.getstatic 38, 3) := by decide +kernel
theorem d2_30 : decode jdk_42_method_149_code 30 = .ok (.ifCond .eq 28, 3) := by decide +kernel
theorem d2_33 : decode jdk_42_method_149_code 33 = .ok (.aload_n 1, 1) := by decide +kernel
theorem d2_34 : decode jdk_42_method_149_code 34 = .ok (.iload_n 2, 1) := by decide +kernel
theorem d2_35 : decode jdk_42_method_149_code 35 = .ok (.iload_n 3, 1) := by decide +kernel
theorem d2_36 : decode jdk_42_method_149_code 36 = .ok (.invokestatic 177, 3) := by decide +kernel
theorem d2_39 : decode jdk_42_method_149_code 39 = .ok (.astore 5, 2) := by decide +kernel
theorem d2_41 : decode jdk_42_method_149_code 41 = .ok (.aload_n 0, 1) := by decide +kernel
theorem d2_42 : decode jdk_42_method_149_code 42 = .ok (.aload 5, 2) := by decide +kernel
theorem d2_44 : decode jdk_42_method_149_code 44 = .ok (.iload_n 3, 1) := by decide +kernel
theorem d2_45 : decode jdk_42_method_149_code 45 = .ok (.invokestatic 47, 3) := by decide +kernel
theorem pd__28_5bBI_29B : parseMethodDescriptor "([BI)B" = some ⟨[(.array .byte), .int], some .byte⟩ := by decide +kernel
theorem ef_6_RI (m : MethodId) (x0 : Addr) (x1 : Int32)  : entryFrame m #[(.ref x0), (.int x1)] 2 = mkF m 0 #[.val (.ref x0), .val (.int x1)] [] := by first | (simp [entryFrame, mkF, argsToLocals, Value.category]; done) | rfl
theorem d6_0 : decode jdk_52_method_15_code 0 = .ok (.iload_n 1, 1) := by decide +kernel
theorem d6_1 : decode jdk_52_method_15_code 1 = .ok (.aload_n 0, 1) := by decide +kernel
theorem d6_2 : decode jdk_52_method_15_code 2 = .ok (.arraylength, 1) := by decide +kernel
theorem d6_3 : decode jdk_52_method_15_code 3 = .ok (.isub, 1) := by decide +kernel
theorem d6_4 : decode jdk_52_method_15_code 4 = .ok (.bipush 31, 2) := by decide +kernel
theorem d6_6 : decode jdk_52_method_15_code 6 = .ok (.iushr, 1) := by decide +kernel
theorem d6_7 : decode jdk_52_method_15_code 7 = .ok (.i2b, 1) := by decide +kernel
theorem d6_8 : decode jdk_52_method_15_code 8 = .ok (.ireturn, 1) := by decide +kernel
set_option maxRecDepth 65536 in
set_option maxHeartbeats 40000000 in
theorem rm_coderFromArrayLen_8 (l : Launch) (Z : State) (a0 : Array Value) (g_COMPACT_STRINGS : Int32) (g_SIOOBE_FORMATTER : Value) (hW : own_W Z a0 g_COMPACT_STRINGS g_SIOOBE_FORMATTER) (a1 : Addr) (q2 : ClassId) (l3 : List Value) (h0 : Heap) (O0 : Old Z Z.heap.size h0) (h_1 : Arv Z h0 a1 q2 .byte (4 : Int32) l3 (.int (0 : Int32))) :
    own_Met l Z (⟨"java/lang/StringUTF16", "coderFromArrayLen", "([BI)B"⟩ : MethodName) jdk_52_method_15_code 2 (some .byte) ({ frames := 0, cells := 0, slots := 0, locals := 0 } : Room) #[(.ref a1), (.int (4 : Int32))] h0 (fun v h L => v = some (.int (0 : Int32)) ∧ Fr Z.heap.size L ∧ h = h0) := by
  have hW_ := hW
  obtain ⟨hw, S_g_COMPACT_STRINGS, P_g_COMPACT_STRINGS, R_g_SIOOBE_FORMATTER, S_g_SIOOBE_FORMATTER, S_g__assertionsDisabled, S_g_HI_BYTE_SHIFT, S_g_LO_BYTE_SHIFT⟩ := hW_
  refine own_met (plainFor_of_name pn_java_lang_StringUTF16) ?_
  intro p e s m below meth cc_ s₁ Φ hF X0 hx hby hml hZ hown hnm hret hlk e0
  have N0 := Fr.nil Z.heap.size
  refine own_k (T' := s₁) (g' := (mkF m 0 #[.val (.ref a1), .val (.int (4 : Int32))] [])) (fun _ k_ => castTop (ef_6_RI m a1 (4 : Int32)) k_) ?_
  refine own_k (T' := s₁) (g' := (mkF m 1 #[.val (.ref a1), .val (.int (4 : Int32))] [(.int (4 : Int32))])) (fun _ k_ => XS.iloadN X0.here hx rfl (hb hby d6_0) rfl  k_) ?_
  refine own_k (T' := s₁) (g' := (mkF m 2 #[.val (.ref a1), .val (.int (4 : Int32))] [(.ref a1), (.int (4 : Int32))])) (fun _ k_ => XS.aloadN X0.here hx rfl (hb hby d6_1) rfl rfl  k_) ?_
  refine own_len X0 hx hZ e0 h_1 (hb hby d6_2) ?_
  show own_Go p e below Φ s₁ (mkF m 3 #[.val (.ref a1), .val (.int (4 : Int32))] [(.int (4 : Int32)), (.int (4 : Int32))])
  refine own_k (T' := s₁) (g' := (mkF m 4 #[.val (.ref a1), .val (.int (4 : Int32))] [(.int ((4 : Int32) - (4 : Int32)))])) (fun _ k_ => XS.isub X0.here hx rfl (hb hby d6_3) rfl k_) ?_
  rw [show ((4 : Int32) - (4 : Int32)) = (0 : Int32) from by decide]
  refine own_k (T' := s₁) (g' := (mkF m 6 #[.val (.ref a1), .val (.int (4 : Int32))] [(.int (31 : Int32)), (.int (0 : Int32))])) (fun _ k_ => XS.bipush X0.here hx rfl (hb hby d6_4) k_) ?_
  refine own_k (T' := s₁) (g' := (mkF m 7 #[.val (.ref a1), .val (.int (4 : Int32))] [(.int (((0 : Int32).toUInt32 >>> ((31 : Int32) &&& 31).toUInt32).toInt32))])) (fun _ k_ => XS.iushr X0.here hx rfl (hb hby d6_6) rfl k_) ?_
  rw [show (((0 : Int32).toUInt32 >>> ((31 : Int32) &&& 31).toUInt32).toInt32) = (0 : Int32) from by decide]
  refine own_k (T' := s₁) (g' := (mkF m 8 #[.val (.ref a1), .val (.int (4 : Int32))] [(.int ((0 : Int32).toInt8.toInt32))])) (fun _ k_ => XS.i2b X0.here hx rfl (hb hby d6_7) rfl k_) ?_
  rw [show ((0 : Int32).toInt8.toInt32) = (0 : Int32) from by decide]
  exact own_retN X0 hx (t := .byte) hret (by simp) hlk (hb hby d6_8) hF (by rw [e0]; exact ⟨by rw [show nar .byte (0 : Int32) = (0 : Int32) from by decide], N0, rfl⟩) (by decide) (by decide)
theorem d2_48 : decode jdk_42_method_149_code 48 = .ok (.putfield 15, 3) := by decide +kernel
theorem d2_51 : decode jdk_42_method_149_code 51 = .ok (.aload_n 0, 1) := by decide +kernel
theorem d2_52 : decode jdk_42_method_149_code 52 = .ok (.aload 5, 2) := by decide +kernel
theorem d2_54 : decode jdk_42_method_149_code 54 = .ok (.putfield 9, 3) := by decide +kernel
theorem d2_57 : decode jdk_42_method_149_code 57 = .ok (.return_, 1) := by decide +kernel
set_option maxRecDepth 65536 in
set_option maxHeartbeats 40000000 in
theorem rm_coderFromArrayLen_9 (l : Launch) (Z : State) (a0 : Array Value) (g_COMPACT_STRINGS : Int32) (g_SIOOBE_FORMATTER : Value) (hW : own_W Z a0 g_COMPACT_STRINGS g_SIOOBE_FORMATTER) (a1 : Addr) (q2 : ClassId) (l3 : List Value) (h0 : Heap) (O0 : Old Z Z.heap.size h0) (h_1 : Arv Z h0 a1 q2 .byte (8 : Int32) l3 (.int (0 : Int32))) :
    own_Met l Z (⟨"java/lang/StringUTF16", "coderFromArrayLen", "([BI)B"⟩ : MethodName) jdk_52_method_15_code 2 (some .byte) ({ frames := 0, cells := 0, slots := 0, locals := 0 } : Room) #[(.ref a1), (.int (4 : Int32))] h0 (fun v h L => v = some (.int (1 : Int32)) ∧ Fr Z.heap.size L ∧ h = h0) := by
  have hW_ := hW
  obtain ⟨hw, S_g_COMPACT_STRINGS, P_g_COMPACT_STRINGS, R_g_SIOOBE_FORMATTER, S_g_SIOOBE_FORMATTER, S_g__assertionsDisabled, S_g_HI_BYTE_SHIFT, S_g_LO_BYTE_SHIFT⟩ := hW_
  refine own_met (plainFor_of_name pn_java_lang_StringUTF16) ?_
  intro p e s m below meth cc_ s₁ Φ hF X0 hx hby hml hZ hown hnm hret hlk e0
  have N0 := Fr.nil Z.heap.size
  refine own_k (T' := s₁) (g' := (mkF m 0 #[.val (.ref a1), .val (.int (4 : Int32))] [])) (fun _ k_ => castTop (ef_6_RI m a1 (4 : Int32)) k_) ?_
  refine own_k (T' := s₁) (g' := (mkF m 1 #[.val (.ref a1), .val (.int (4 : Int32))] [(.int (4 : Int32))])) (fun _ k_ => XS.iloadN X0.here hx rfl (hb hby d6_0) rfl  k_) ?_
  refine own_k (T' := s₁) (g' := (mkF m 2 #[.val (.ref a1), .val (.int (4 : Int32))] [(.ref a1), (.int (4 : Int32))])) (fun _ k_ => XS.aloadN X0.here hx rfl (hb hby d6_1) rfl rfl  k_) ?_
  refine own_len X0 hx hZ e0 h_1 (hb hby d6_2) ?_
  show own_Go p e below Φ s₁ (mkF m 3 #[.val (.ref a1), .val (.int (4 : Int32))] [(.int (8 : Int32)), (.int (4 : Int32))])
  refine own_k (T' := s₁) (g' := (mkF m 4 #[.val (.ref a1), .val (.int (4 : Int32))] [(.int ((4 : Int32) - (8 : Int32)))])) (fun _ k_ => XS.isub X0.here hx rfl (hb hby d6_3) rfl k_) ?_
  rw [show ((4 : Int32) - (8 : Int32)) = (-4 : Int32) from by decide]
  refine own_k (T' := s₁) (g' := (mkF m 6 #[.val (.ref a1), .val (.int (4 : Int32))] [(.int (31 : Int32)), (.int (-4 : Int32))])) (fun _ k_ => XS.bipush X0.here hx rfl (hb hby d6_4) k_) ?_
  refine own_k (T' := s₁) (g' := (mkF m 7 #[.val (.ref a1), .val (.int (4 : Int32))] [(.int (((-4 : Int32).toUInt32 >>> ((31 : Int32) &&& 31).toUInt32).toInt32))])) (fun _ k_ => XS.iushr X0.here hx rfl (hb hby d6_6) rfl k_) ?_
  rw [show (((-4 : Int32).toUInt32 >>> ((31 : Int32) &&& 31).toUInt32).toInt32) = (1 : Int32) from by decide]
  refine own_k (T' := s₁) (g' := (mkF m 8 #[.val (.ref a1), .val (.int (4 : Int32))] [(.int ((1 : Int32).toInt8.toInt32))])) (fun _ k_ => XS.i2b X0.here hx rfl (hb hby d6_7) rfl k_) ?_
  rw [show ((1 : Int32).toInt8.toInt32) = (1 : Int32) from by decide]
  exact own_retN X0 hx (t := .byte) hret (by simp) hlk (hb hby d6_8) hF (by rw [e0]; exact ⟨by rw [show nar .byte (1 : Int32) = (1 : Int32) from by decide], N0, rfl⟩) (by decide) (by decide)
set_option maxRecDepth 65536 in
set_option maxHeartbeats 40000000 in
theorem rm_init4 (l : Launch) (Z : State) (a0 : Array Value) (g_COMPACT_STRINGS : Int32) (g_SIOOBE_FORMATTER : Value) (hW : own_W Z a0 g_COMPACT_STRINGS g_SIOOBE_FORMATTER) (x : Addr) (b : Addr) (kc : ClassId) (c0 : Int32) (c1 : Int32) (c2 : Int32) (c3 : Int32) (h0 : Heap) (O0 : Old Z Z.heap.size h0) (hE : Exa Z h0 x "java/lang/String") (hV : Fld Z h0 x "java/lang/String" "value" "[B" .null) (hC : Fld Z h0 x "java/lang/String" "coder" "B" (.int (0 : Int32))) (hA : Arv Z h0 b kc .char (4 : Int32) [(.int c0), (.int c1), (.int c2), (.int c3)] (.int (0 : Int32))) (hg : Z.heap.size ≤ x) (hne : x ≠ b) (r0 : own_ok c0) (r1 : own_ok c1) (r2 : own_ok c2) (r3 : own_ok c3) :
    own_Met l Z (⟨"java/lang/String", "<init>", "([CIILjava/lang/Void;)V"⟩ : MethodName) jdk_42_method_149_code 6 none ({ frames := 4, cells := 2, slots := 12, locals := 57 } : Room) #[(.ref x), (.ref b), (.int (0 : Int32)), (.int (4 : Int32)), .null] h0 (fun v h L => v = none ∧ Fr Z.heap.size L ∧ Keep h0 h [x] ∧ own_Str Z h x [c0, c1, c2, c3]) := by
  have hW_ := hW
  obtain ⟨hw, S_g_COMPACT_STRINGS, P_g_COMPACT_STRINGS, R_g_SIOOBE_FORMATTER, S_g_SIOOBE_FORMATTER, S_g__assertionsDisabled, S_g_HI_BYTE_SHIFT, S_g_LO_BYTE_SHIFT⟩ := hW_
  refine own_met (plainFor_of_name pn_java_lang_String) ?_
  intro p e s m below meth cc_ s₁ Φ hF X0 hx hby hml hZ hown hnm hret hlk e0
  have N0 := Fr.nil Z.heap.size
  refine own_k (T' := s₁) (g' := (mkF m 0 #[.val (.ref x), .val (.ref b), .val (.int (0 : Int32)), .val (.int (4 : Int32)), .val .null, .unset] [])) (fun _ k_ => castTop (ef_2_RRIIN m x b (0 : Int32) (4 : Int32)) k_) ?_
  refine own_k (T' := s₁) (g' := (mkF m 1 #[.val (.ref x), .val (.ref b), .val (.int (0 : Int32)), .val (.int (4 : Int32)), .val .null, .unset] [(.ref x)])) (fun _ k_ => XS.aloadN X0.here hx rfl (hb hby d2_0) rfl rfl  k_) ?_
  obtain ⟨T1, X1, e1, st1⟩ := initO X0 hx hZ hown (hw _ (List.mem_of_getElem? (i := 12) rfl)) (hw _ (List.mem_of_getElem? (i := 13) rfl)) (hw _ (List.mem_of_getElem? (i := 14) rfl)) e0 (g := (mkF m 1 #[.val (.ref x), .val (.ref b), .val (.int (0 : Int32)), .val (.int (4 : Int32)), .val .null, .unset] [(.ref x)])) rfl (by rw [hml]; rfl) rfl (hb hby d2_1) (by decide) (W := 0) (by show 2 * 0 + _ ≤ _; exact Nat.le_of_eq rfl) (by decide)
  refine own_k (T' := T1) (g' := (mkF m 4 #[.val (.ref x), .val (.ref b), .val (.int (0 : Int32)), .val (.int (4 : Int32)), .val .null, .unset] [])) st1 ?_
  refine own_k (T' := T1) (g' := (mkF m 5 #[.val (.ref x), .val (.ref b), .val (.int (0 : Int32)), .val (.int (4 : Int32)), .val .null, .unset] [(.int (4 : Int32))])) (fun _ k_ => XS.iloadN X1.here hx rfl (hb hby d2_4) rfl  k_) ?_
  refine own_k (T' := T1) (g' := (mkF m 27 #[.val (.ref x), .val (.ref b), .val (.int (0 : Int32)), .val (.int (4 : Int32)), .val .null, .unset] [])) (fun _ k_ => XS.ifYes X1.here hx rfl (pc0 := 5) (pc' := 27) rfl (hb hby d2_5) rfl ((if0 _ _).trans (feq (by decide : ¬ ((4 : Int32) = (0 : Int32)))).2) (by decide) (by decide) k_) ?_
  obtain ⟨T2, X2, e2, st2⟩ := getS2 X1 hx hZ hown (host := "") (Or.inl (hw _ (List.mem_of_getElem? (i := 15) rfl))) Via.refl e1 (S_g_COMPACT_STRINGS.ext O0.2) (g := (mkF m 27 #[.val (.ref x), .val (.ref b), .val (.int (0 : Int32)), .val (.int (4 : Int32)), .val .null, .unset] [])) rfl (hb hby d2_27)
  refine own_k (T' := T2) (g' := (mkF m 30 #[.val (.ref x), .val (.ref b), .val (.int (0 : Int32)), .val (.int (4 : Int32)), .val .null, .unset] [(.int g_COMPACT_STRINGS)])) st2 ?_
  refine own_k (T' := T2) (g' := (mkF m 33 #[.val (.ref x), .val (.ref b), .val (.int (0 : Int32)), .val (.int (4 : Int32)), .val .null, .unset] [])) (fun _ k_ => XS.ifNo X2.here hx rfl (hb hby d2_30) rfl ((if0 _ _).trans (feq P_g_COMPACT_STRINGS).1) k_) ?_
  refine own_k (T' := T2) (g' := (mkF m 34 #[.val (.ref x), .val (.ref b), .val (.int (0 : Int32)), .val (.int (4 : Int32)), .val .null, .unset] [(.ref b)])) (fun _ k_ => XS.aloadN X2.here hx rfl (hb hby d2_33) rfl rfl  k_) ?_
  refine own_k (T' := T2) (g' := (mkF m 35 #[.val (.ref x), .val (.ref b), .val (.int (0 : Int32)), .val (.int (4 : Int32)), .val .null, .unset] [(.int (0 : Int32)), (.ref b)])) (fun _ k_ => XS.iloadN X2.here hx rfl (hb hby d2_34) rfl  k_) ?_
  refine own_k (T' := T2) (g' := (mkF m 36 #[.val (.ref x), .val (.ref b), .val (.int (0 : Int32)), .val (.int (4 : Int32)), .val .null, .unset] [(.int (4 : Int32)), (.int (0 : Int32)), (.ref b)])) (fun _ k_ => XS.iloadN X2.here hx rfl (hb hby d2_35) rfl  k_) ?_
  refine own_callS X2 hx hZ (y := (⟨"java/lang/StringUTF16", "compress", "([CII)[B"⟩ : MethodName)) hown (hw _ (List.mem_of_getElem? (i := 16) rfl)) (hw _ (List.mem_of_getElem? (i := 17) rfl)) (hw _ (List.mem_of_getElem? (i := 18) rfl)) (hw _ (List.mem_of_getElem? (i := 19) rfl)) (by decide) (al := [(.ref b), (.int (0 : Int32)), (.int (4 : Int32))]) (rm_compress3 l Z a0 g_COMPACT_STRINGS g_SIOOBE_FORMATTER hW b kc c0 c1 c2 c3 h0 O0 hA r0 r1 r2 r3) 0 (by decide) (by decide) e2 (by decide) (by decide) (by rw [hml]; rfl) (lenOf pd__28_5bCII_29_5bB rfl) rfl (rest := []) (by show 2 * 0 + _ ≤ _; exact Nat.le_of_eq rfl) (hb hby d2_36) ?_
  intro v3 T3 L3 X3 hQ3
  obtain ⟨⟨t, kb, rfl, hge, hby_⟩, Nq3, K3⟩ := hQ3
  have N3 := Fr.app N0 Nq3
  have O3' := O0.keep K3 all0
  show own_Go p e below Φ T3 (mkF m 39 #[.val (.ref x), .val (.ref b), .val (.int (0 : Int32)), .val (.int (4 : Int32)), .val .null, .unset] [(.ref t)])
  rcases hby_ with ⟨hAd, hlat⟩ | hAd
  · refine own_k (T' := T3) (g' := (mkF m 41 #[.val (.ref x), .val (.ref b), .val (.int (0 : Int32)), .val (.int (4 : Int32)), .val .null, .val (.ref t)] [])) (fun _ k_ => XS.astore X3.here hx rfl (hb hby d2_39) rfl rfl (l' := #[.val (.ref x), .val (.ref b), .val (.int (0 : Int32)), .val (.int (4 : Int32)), .val .null, .val (.ref t)]) rfl k_) ?_
    refine own_k (T' := T3) (g' := (mkF m 42 #[.val (.ref x), .val (.ref b), .val (.int (0 : Int32)), .val (.int (4 : Int32)), .val .null, .val (.ref t)] [(.ref x)])) (fun _ k_ => XS.aloadN X3.here hx rfl (hb hby d2_41) rfl rfl  k_) ?_
    refine own_k (T' := T3) (g' := (mkF m 44 #[.val (.ref x), .val (.ref b), .val (.int (0 : Int32)), .val (.int (4 : Int32)), .val .null, .val (.ref t)] [(.ref t), (.ref x)])) (fun _ k_ => XS.aload X3.here hx rfl (hb hby d2_42) rfl rfl  k_) ?_
    refine own_k (T' := T3) (g' := (mkF m 45 #[.val (.ref x), .val (.ref b), .val (.int (0 : Int32)), .val (.int (4 : Int32)), .val .null, .val (.ref t)] [(.int (4 : Int32)), (.ref t), (.ref x)])) (fun _ k_ => XS.iloadN X3.here hx rfl (hb hby d2_44) rfl  k_) ?_
    refine own_callS X3 hx hZ (y := (⟨"java/lang/StringUTF16", "coderFromArrayLen", "([BI)B"⟩ : MethodName)) hown (hw _ (List.mem_of_getElem? (i := 24) rfl)) (hw _ (List.mem_of_getElem? (i := 25) rfl)) (hw _ (List.mem_of_getElem? (i := 18) rfl)) (hw _ (List.mem_of_getElem? (i := 26) rfl)) (by decide) (al := [(.ref t), (.int (4 : Int32))]) (rm_coderFromArrayLen_8 l Z a0 g_COMPACT_STRINGS g_SIOOBE_FORMATTER hW t kb (own_lat [c0, c1, c2, c3]) T3.heap O3' hAd) 1 (by decide) (by decide) rfl (by decide) (by decide) (by rw [hml]; rfl) (lenOf pd__28_5bBI_29B rfl) rfl (rest := [(.ref x)]) (by show 2 * 0 + _ ≤ _; exact Nat.le_of_eq rfl) (hb hby d2_45) ?_
    intro v4 T4 L4 X4 hQ4
    obtain ⟨rfl, Nq4, e4⟩ := hQ4
    have N4 := Fr.app N3 Nq4
    show own_Go p e below Φ T4 (mkF m 48 #[.val (.ref x), .val (.ref b), .val (.int (0 : Int32)), .val (.int (4 : Int32)), .val .null, .val (.ref t)] [(.int (0 : Int32)), (.ref x)])
    obtain ⟨T5, h5, X5, e5, W5, st5⟩ := putFN X4 hx hZ hown (hw _ (List.mem_of_getElem? (i := 27) rfl)) Via.refl e4 (hC.keep K3 nin0) (hE.keep K3) (Or.inr ⟨(hw _ (List.mem_of_getElem? (i := 28) rfl)), rfl, hnm⟩) (hw _ (List.mem_of_getElem? (i := 3) rfl)) (ty := .byte) (v' := (.int (nar .byte (0 : Int32)))) (by decide) rfl (fits_nar_byte _) (g := (mkF m 48 #[.val (.ref x), .val (.ref b), .val (.int (0 : Int32)), .val (.int (4 : Int32)), .val .null, .val (.ref t)] [(.int (0 : Int32)), (.ref x)])) rfl rfl (hb hby d2_48)
    have w5 := Fld.same W5 (hC.keep K3 nin0)
    rw [show nar .byte (0 : Int32) = (0 : Int32) from by decide] at w5
    have O5' := O3'.wr W5 hg
    have N5 := Fr.snoc X5 N4 hg
    refine own_k (T' := T5) (g' := (mkF m 51 #[.val (.ref x), .val (.ref b), .val (.int (0 : Int32)), .val (.int (4 : Int32)), .val .null, .val (.ref t)] [])) st5 ?_
    refine own_k (T' := T5) (g' := (mkF m 52 #[.val (.ref x), .val (.ref b), .val (.int (0 : Int32)), .val (.int (4 : Int32)), .val .null, .val (.ref t)] [(.ref x)])) (fun _ k_ => XS.aloadN X5.here hx rfl (hb hby d2_51) rfl rfl  k_) ?_
    refine own_k (T' := T5) (g' := (mkF m 54 #[.val (.ref x), .val (.ref b), .val (.int (0 : Int32)), .val (.int (4 : Int32)), .val .null, .val (.ref t)] [(.ref t), (.ref x)])) (fun _ k_ => XS.aload X5.here hx rfl (hb hby d2_52) rfl rfl  k_) ?_
    have f6 := ((hV.keep K3 nin0).other W5 (Or.inr (slot_ne (Or.inr (hw _ (List.mem_of_getElem? (i := 30) rfl))) (Or.inr (hw _ (List.mem_of_getElem? (i := 28) rfl))) (by decide) (t := (.array .byte)) (t' := .byte) (by decide) (by decide))))
    obtain ⟨T7, h7, X7, e7, W7, st7⟩ := putF X5 hx hZ hown (host := "") (Or.inl (hw _ (List.mem_of_getElem? (i := 29) rfl))) Via.refl e5 f6 ((hE.keep K3).wr W5) (Or.inr ⟨(hw _ (List.mem_of_getElem? (i := 30) rfl)), rfl, hnm⟩) (hw _ (List.mem_of_getElem? (i := 3) rfl)) (ty := (.array .byte)) (by decide) rfl rfl (g := (mkF m 54 #[.val (.ref x), .val (.ref b), .val (.int (0 : Int32)), .val (.int (4 : Int32)), .val .null, .val (.ref t)] [(.ref t), (.ref x)])) rfl rfl (hb hby d2_54)
    have w7 := Fld.same W7 f6
    have O7' := O5'.wr W7 hg
    have N7 := Fr.snoc X7 N5 hg
    refine own_k (T' := T7) (g' := (mkF m 57 #[.val (.ref x), .val (.ref b), .val (.int (0 : Int32)), .val (.int (4 : Int32)), .val .null, .val (.ref t)] [])) st7 ?_
    have kp0 : Keep h0 h0 [x] := Keep.refl h0 [x]
    have kp1 : Keep h0 T3.heap [x] := kp0.trans K3 all0
    have kp2 : Keep h0 h5 [x] := kp1.wr W5 (Or.inl (List.mem_of_getElem? (i := 0) rfl))
    have kp3 : Keep h0 h7 [x] := kp2.wr W7 (Or.inl (List.mem_of_getElem? (i := 0) rfl))
    have f8 := (w5.other W7 (Or.inr (slot_ne (Or.inr (hw _ (List.mem_of_getElem? (i := 28) rfl))) (Or.inr (hw _ (List.mem_of_getElem? (i := 30) rfl))) (by decide) (t := .byte) (t' := (.array .byte)) (by decide) (by decide))))
    have f9 := ((hAd.other W5 (Ne.symm (Nat.ne_of_lt (Nat.lt_of_lt_of_le hE.lt hge)))).other W7 (Ne.symm (Nat.ne_of_lt (Nat.lt_of_lt_of_le hE.lt hge))))
    exact own_ret0 X7 hx hret hlk (hb hby d2_57) hF (by rw [e7]; exact ⟨rfl, N7, kp3, t, kb, (((hE.keep K3).wr W5).wr W7), w7, Or.inl ⟨f8, f9, hlat⟩⟩) (by decide) (by decide)
  · refine own_k (T' := T3) (g' := (mkF m 41 #[.val (.ref x), .val (.ref b), .val (.int (0 : Int32)), .val (.int (4 : Int32)), .val .null, .val (.ref t)] [])) (fun _ k_ => XS.astore X3.here hx rfl (hb hby d2_39) rfl rfl (l' := #[.val (.ref x), .val (.ref b), .val (.int (0 : Int32)), .val (.int (4 : Int32)), .val .null, .val (.ref t)]) rfl k_) ?_
    refine own_k (T' := T3) (g' := (mkF m 42 #[.val (.ref x), .val (.ref b), .val (.int (0 : Int32)), .val (.int (4 : Int32)), .val .null, .val (.ref t)] [(.ref x)])) (fun _ k_ => XS.aloadN X3.here hx rfl (hb hby d2_41) rfl rfl  k_) ?_
    refine own_k (T' := T3) (g' := (mkF m 44 #[.val (.ref x), .val (.ref b), .val (.int (0 : Int32)), .val (.int (4 : Int32)), .val .null, .val (.ref t)] [(.ref t), (.ref x)])) (fun _ k_ => XS.aload X3.here hx rfl (hb hby d2_42) rfl rfl  k_) ?_
    refine own_k (T' := T3) (g' := (mkF m 45 #[.val (.ref x), .val (.ref b), .val (.int (0 : Int32)), .val (.int (4 : Int32)), .val .null, .val (.ref t)] [(.int (4 : Int32)), (.ref t), (.ref x)])) (fun _ k_ => XS.iloadN X3.here hx rfl (hb hby d2_44) rfl  k_) ?_
    refine own_callS X3 hx hZ (y := (⟨"java/lang/StringUTF16", "coderFromArrayLen", "([BI)B"⟩ : MethodName)) hown (hw _ (List.mem_of_getElem? (i := 24) rfl)) (hw _ (List.mem_of_getElem? (i := 25) rfl)) (hw _ (List.mem_of_getElem? (i := 18) rfl)) (hw _ (List.mem_of_getElem? (i := 26) rfl)) (by decide) (al := [(.ref t), (.int (4 : Int32))]) (rm_coderFromArrayLen_9 l Z a0 g_COMPACT_STRINGS g_SIOOBE_FORMATTER hW t kb (own_utf [c0, c1, c2, c3]) T3.heap O3' hAd) 1 (by decide) (by decide) rfl (by decide) (by decide) (by rw [hml]; rfl) (lenOf pd__28_5bBI_29B rfl) rfl (rest := [(.ref x)]) (by show 2 * 0 + _ ≤ _; exact Nat.le_of_eq rfl) (hb hby d2_45) ?_
    intro v10 T10 L10 X10 hQ10
    obtain ⟨rfl, Nq10, e10⟩ := hQ10
    have N10 := Fr.app N3 Nq10
    show own_Go p e below Φ T10 (mkF m 48 #[.val (.ref x), .val (.ref b), .val (.int (0 : Int32)), .val (.int (4 : Int32)), .val .null, .val (.ref t)] [(.int (1 : Int32)), (.ref x)])
    obtain ⟨T11, h11, X11, e11, W11, st11⟩ := putFN X10 hx hZ hown (hw _ (List.mem_of_getElem? (i := 27) rfl)) Via.refl e10 (hC.keep K3 nin0) (hE.keep K3) (Or.inr ⟨(hw _ (List.mem_of_getElem? (i := 28) rfl)), rfl, hnm⟩) (hw _ (List.mem_of_getElem? (i := 3) rfl)) (ty := .byte) (v' := (.int (nar .byte (1 : Int32)))) (by decide) rfl (fits_nar_byte _) (g := (mkF m 48 #[.val (.ref x), .val (.ref b), .val (.int (0 : Int32)), .val (.int (4 : Int32)), .val .null, .val (.ref t)] [(.int (1 : Int32)), (.ref x)])) rfl rfl (hb hby d2_48)
    have w11 := Fld.same W11 (hC.keep K3 nin0)
    rw [show nar .byte (1 : Int32) = (1 : Int32) from by decide] at w11
    have O11' := O3'.wr W11 hg
    have N11 := Fr.snoc X11 N10 hg
    refine own_k (T' := T11) (g' := (mkF m 51 #[.val (.ref x), .val (.ref b), .val (.int (0 : Int32)), .val (.int (4 : Int32)), .val .null, .val (.ref t)] [])) st11 ?_
    refine own_k (T' := T11) (g' := (mkF m 52 #[.val (.ref x), .val (.ref b), .val (.int (0 : Int32)), .val (.int (4 : Int32)), .val .null, .val (.ref t)] [(.ref x)])) (fun _ k_ => XS.aloadN X11.here hx rfl (hb hby d2_51) rfl rfl  k_) ?_
    refine own_k (T' := T11) (g' := (mkF m 54 #[.val (.ref x), .val (.ref b), .val (.int (0 : Int32)), .val (.int (4 : Int32)), .val .null, .val (.ref t)] [(.ref t), (.ref x)])) (fun _ k_ => XS.aload X11.here hx rfl (hb hby d2_52) rfl rfl  k_) ?_
    have f12 := ((hV.keep K3 nin0).other W11 (Or.inr (slot_ne (Or.inr (hw _ (List.mem_of_getElem? (i := 30) rfl))) (Or.inr (hw _ (List.mem_of_getElem? (i := 28) rfl))) (by decide) (t := (.array .byte)) (t' := .byte) (by decide) (by decide))))
    obtain ⟨T13, h13, X13, e13, W13, st13⟩ := putF X11 hx hZ hown (host := "") (Or.inl (hw _ (List.mem_of_getElem? (i := 29) rfl))) Via.refl e11 f12 ((hE.keep K3).wr W11) (Or.inr ⟨(hw _ (List.mem_of_getElem? (i := 30) rfl)), rfl, hnm⟩) (hw _ (List.mem_of_getElem? (i := 3) rfl)) (ty := (.array .byte)) (by decide) rfl rfl (g := (mkF m 54 #[.val (.ref x), .val (.ref b), .val (.int (0 : Int32)), .val (.int (4 : Int32)), .val .null, .val (.ref t)] [(.ref t), (.ref x)])) rfl rfl (hb hby d2_54)
    have w13 := Fld.same W13 f12
    have O13' := O11'.wr W13 hg
    have N13 := Fr.snoc X13 N11 hg
    refine own_k (T' := T13) (g' := (mkF m 57 #[.val (.ref x), .val (.ref b), .val (.int (0 : Int32)), .val (.int (4 : Int32)), .val .null, .val (.ref t)] [])) st13 ?_
    have kp0 : Keep h0 h0 [x] := Keep.refl h0 [x]
    have kp1 : Keep h0 T3.heap [x] := kp0.trans K3 all0
    have kp2 : Keep h0 h11 [x] := kp1.wr W11 (Or.inl (List.mem_of_getElem? (i := 0) rfl))
    have kp3 : Keep h0 h13 [x] := kp2.wr W13 (Or.inl (List.mem_of_getElem? (i := 0) rfl))
    have f14 := (w11.other W13 (Or.inr (slot_ne (Or.inr (hw _ (List.mem_of_getElem? (i := 28) rfl))) (Or.inr (hw _ (List.mem_of_getElem? (i := 30) rfl))) (by decide) (t := .byte) (t' := (.array .byte)) (by decide) (by decide))))
    have f15 := ((hAd.other W11 (Ne.symm (Nat.ne_of_lt (Nat.lt_of_lt_of_le hE.lt hge)))).other W13 (Ne.symm (Nat.ne_of_lt (Nat.lt_of_lt_of_le hE.lt hge))))
    exact own_ret0 X13 hx hret hlk (hb hby d2_57) hF (by rw [e13]; exact ⟨rfl, N13, kp3, t, kb, (((hE.keep K3).wr W11).wr W13), w13, Or.inr ⟨f14, f15⟩⟩) (by decide) (by decide)
theorem ef_1_RR (m : MethodId) (x0 : Addr) (x1 : Addr)  : entryFrame m #[(.ref x0), (.ref x1)] 2 = mkF m 0 #[.val (.ref x0), .val (.ref x1)] [] := by first | (simp [entryFrame, mkF, argsToLocals, Value.category]; done) | rfl
theorem d1_0 : decode jdk_42_method_3_code 0 = .ok (.aload_n 0, 1) := by decide +kernel
theorem d1_1 : decode jdk_42_method_3_code 1 = .ok (.aload_n 1, 1) := by decide +kernel
theorem d1_2 : decode jdk_42_method_3_code 2 = .ok (.iconst 0, 1) := by decide +kernel
theorem d1_3 : decode jdk_42_method_3_code 3 = .ok (.aload_n 1, 1) := by decide +kernel
theorem d1_4 : decode jdk_42_method_3_code 4 = .ok (.arraylength, 1) := by decide +kernel
theorem d1_5 : decode jdk_42_method_3_code 5 = .ok (.aconst_null, 1) := by decide +kernel
theorem d1_6 : decode jdk_42_method_3_code 6 = .ok (.invokespecial 27, 3) := by decide +kernel
theorem pd__28_5bCIILjava_2flang_2fVoid_3b_29V : parseMethodDescriptor "([CIILjava/lang/Void;)V" = some ⟨[(.array .char), .int, .int, (.object "java/lang/Void")], none⟩ := by decide +kernel
theorem d1_9 : decode jdk_42_method_3_code 9 = .ok (.return_, 1) := by decide +kernel
set_option maxRecDepth 65536 in
set_option maxHeartbeats 40000000 in
theorem rm_newstr (l : Launch) (Z : State) (a0 : Array Value) (g_COMPACT_STRINGS : Int32) (g_SIOOBE_FORMATTER : Value) (hW : own_W Z a0 g_COMPACT_STRINGS g_SIOOBE_FORMATTER) (x : Addr) (b : Addr) (kc : ClassId) (c0 : Int32) (c1 : Int32) (c2 : Int32) (c3 : Int32) (h0 : Heap) (O0 : Old Z Z.heap.size h0) (hE : Exa Z h0 x "java/lang/String") (hV : Fld Z h0 x "java/lang/String" "value" "[B" .null) (hC : Fld Z h0 x "java/lang/String" "coder" "B" (.int (0 : Int32))) (hA : Arv Z h0 b kc .char (4 : Int32) [(.int c0), (.int c1), (.int c2), (.int c3)] (.int (0 : Int32))) (hg : Z.heap.size ≤ x) (hne : x ≠ b) (r0 : own_ok c0) (r1 : own_ok c1) (r2 : own_ok c2) (r3 : own_ok c3) :
    own_Met l Z (⟨"java/lang/String", "<init>", "([C)V"⟩ : MethodName) jdk_42_method_3_code 2 none ({ frames := 5, cells := 2, slots := 12, locals := 74 } : Room) #[(.ref x), (.ref b)] h0 (fun v h L => v = none ∧ Fr Z.heap.size L ∧ Keep h0 h [x] ∧ own_Str Z h x [c0, c1, c2, c3]) := by
  have hW_ := hW
  obtain ⟨hw, S_g_COMPACT_STRINGS, P_g_COMPACT_STRINGS, R_g_SIOOBE_FORMATTER, S_g_SIOOBE_FORMATTER, S_g__assertionsDisabled, S_g_HI_BYTE_SHIFT, S_g_LO_BYTE_SHIFT⟩ := hW_
  refine own_met (plainFor_of_name pn_java_lang_String) ?_
  intro p e s m below meth cc_ s₁ Φ hF X0 hx hby hml hZ hown hnm hret hlk e0
  have N0 := Fr.nil Z.heap.size
  refine own_k (T' := s₁) (g' := (mkF m 0 #[.val (.ref x), .val (.ref b)] [])) (fun _ k_ => castTop (ef_1_RR m x b) k_) ?_
  refine own_k (T' := s₁) (g' := (mkF m 1 #[.val (.ref x), .val (.ref b)] [(.ref x)])) (fun _ k_ => XS.aloadN X0.here hx rfl (hb hby d1_0) rfl rfl  k_) ?_
  refine own_k (T' := s₁) (g' := (mkF m 2 #[.val (.ref x), .val (.ref b)] [(.ref b), (.ref x)])) (fun _ k_ => XS.aloadN X0.here hx rfl (hb hby d1_1) rfl rfl  k_) ?_
  refine own_k (T' := s₁) (g' := (mkF m 3 #[.val (.ref x), .val (.ref b)] [(.int (0 : Int32)), (.ref b), (.ref x)])) (fun _ k_ => XS.iconst X0.here hx rfl (hb hby d1_2) k_) ?_
  refine own_k (T' := s₁) (g' := (mkF m 4 #[.val (.ref x), .val (.ref b)] [(.ref b), (.int (0 : Int32)), (.ref b), (.ref x)])) (fun _ k_ => XS.aloadN X0.here hx rfl (hb hby d1_3) rfl rfl  k_) ?_
  refine own_len X0 hx hZ e0 hA (hb hby d1_4) ?_
  show own_Go p e below Φ s₁ (mkF m 5 #[.val (.ref x), .val (.ref b)] [(.int (4 : Int32)), (.int (0 : Int32)), (.ref b), (.ref x)])
  refine own_k (T' := s₁) (g' := (mkF m 6 #[.val (.ref x), .val (.ref b)] [.null, (.int (4 : Int32)), (.int (0 : Int32)), (.ref b), (.ref x)])) (fun _ k_ => XS.aconstNull X0.here hx rfl (hb hby d1_5) k_) ?_
  refine own_callN X0 hx hZ (y := (⟨"java/lang/String", "<init>", "([CIILjava/lang/Void;)V"⟩ : MethodName)) rfl hown (hw _ (List.mem_of_getElem? (i := 8) rfl)) (hw _ (List.mem_of_getElem? (i := 9) rfl)) (hw _ (List.mem_of_getElem? (i := 11) rfl)) (hw _ (List.mem_of_getElem? (i := 4) rfl)) (by decide) (al := [(.ref b), (.int (0 : Int32)), (.int (4 : Int32)), .null]) (b := x) (rm_init4 l Z a0 g_COMPACT_STRINGS g_SIOOBE_FORMATTER hW x b kc c0 c1 c2 c3 h0 O0 hE hV hC hA hg hne r0 r1 r2 r3) 0 (by decide) (by decide) e0 (by decide) (by decide) (by rw [hml]; rfl) (lenOf pd__28_5bCIILjava_2flang_2fVoid_3b_29V rfl) rfl (rest := []) (by show 2 * 0 + _ ≤ _; exact Nat.le_of_eq rfl) (hb hby d1_6) ?_
  intro v1 T1 L1 X1 hQ1
  obtain ⟨rfl, Nq1, K1, hS⟩ := hQ1
  have N1 := Fr.app N0 Nq1
  have O1' := O0.keep K1 (allS hg all0)
  show own_Go p e below Φ T1 (mkF m 9 #[.val (.ref x), .val (.ref b)] [])
  have K := K1
  exact own_ret0 X1 hx hret hlk (hb hby d1_9) hF (⟨rfl, N1, K, hS⟩) (by decide) (by decide)
theorem ef_9_RI (m : MethodId) (x0 : Addr) (x1 : Int32)  : entryFrame m #[(.ref x0), (.int x1)] 2 = mkF m 0 #[.val (.ref x0), .val (.int x1)] [] := by first | (simp [entryFrame, mkF, argsToLocals, Value.category]; done) | rfl
theorem d9_0 : decode jdk_42_method_56_code 0 = .ok (.aload_n 0, 1) := by decide +kernel
theorem d9_1 : decode jdk_42_method_56_code 1 = .ok (.invokevirtual 492, 3) := by decide +kernel
theorem pd__28_29Z : parseMethodDescriptor "()Z" = some ⟨[], some .boolean⟩ := by decide +kernel
theorem ef_10_R (m : MethodId) (x0 : Addr)  : entryFrame m #[(.ref x0)] 1 = mkF m 0 #[.val (.ref x0)] [] := by first | (simp [entryFrame, mkF, argsToLocals, Value.category]; done) | rfl
theorem d10_0 : decode jdk_42_method_154_code 0 = .ok (.getstatic 38, 3) := by decide +kernel
theorem d10_3 : decode jdk_42_method_154_code 3 = .ok (.ifCond .eq 14, 3) := by decide +kernel
theorem d10_6 : decode jdk_42_method_154_code 6 = .ok (.aload_n 0, 1) := by decide +kernel
theorem d10_7 : decode jdk_42_method_154_code 7 = .ok (.getfield 15, 3) := by decide +kernel
theorem d10_10 : decode jdk_42_method_154_code 10 = .ok (.ifCond .ne 7, 3) := by decide +kernel
theorem d10_13 : decode jdk_42_method_154_code 13 = .ok (.iconst 1, 1) := by decide +kernel
theorem d10_14 : decode jdk_42_method_154_code 14 = .ok (.goto 4, 3) := by decide +kernel
theorem d10_18 : decode jdk_42_method_154_code 18 = .ok (.ireturn, 1) := by decide +kernel
set_option maxRecDepth 65536 in
set_option maxHeartbeats 40000000 in
theorem rm_isLatin1_10 (l : Launch) (Z : State) (a0 : Array Value) (g_COMPACT_STRINGS : Int32) (g_SIOOBE_FORMATTER : Value) (hW : own_W Z a0 g_COMPACT_STRINGS g_SIOOBE_FORMATTER) (a1 : Addr) (h0 : Heap) (O0 : Old Z Z.heap.size h0) (h_1 : Fld Z h0 a1 "java/lang/String" "coder" "B" (.int (0 : Int32))) :
    own_Met l Z (⟨"java/lang/String", "isLatin1", "()Z"⟩ : MethodName) jdk_42_method_154_code 1 (some .boolean) ({ frames := 0, cells := 0, slots := 0, locals := 0 } : Room) #[(.ref a1)] h0 (fun v h L => v = some (.int (1 : Int32)) ∧ Fr Z.heap.size L ∧ h = h0) := by
  have hW_ := hW
  obtain ⟨hw, S_g_COMPACT_STRINGS, P_g_COMPACT_STRINGS, R_g_SIOOBE_FORMATTER, S_g_SIOOBE_FORMATTER, S_g__assertionsDisabled, S_g_HI_BYTE_SHIFT, S_g_LO_BYTE_SHIFT⟩ := hW_
  refine own_met (plainFor_of_name pn_java_lang_String) ?_
  intro p e s m below meth cc_ s₁ Φ hF X0 hx hby hml hZ hown hnm hret hlk e0
  have N0 := Fr.nil Z.heap.size
  refine own_k (T' := s₁) (g' := (mkF m 0 #[.val (.ref a1)] [])) (fun _ k_ => castTop (ef_10_R m a1) k_) ?_
  obtain ⟨T1, X1, e1, st1⟩ := getS2 X0 hx hZ hown (host := "") (Or.inl (hw _ (List.mem_of_getElem? (i := 15) rfl))) Via.refl e0 (S_g_COMPACT_STRINGS.ext O0.2) (g := (mkF m 0 #[.val (.ref a1)] [])) rfl (hb hby d10_0)
  refine own_k (T' := T1) (g' := (mkF m 3 #[.val (.ref a1)] [(.int g_COMPACT_STRINGS)])) st1 ?_
  refine own_k (T' := T1) (g' := (mkF m 6 #[.val (.ref a1)] [])) (fun _ k_ => XS.ifNo X1.here hx rfl (hb hby d10_3) rfl ((if0 _ _).trans (feq P_g_COMPACT_STRINGS).1) k_) ?_
  refine own_k (T' := T1) (g' := (mkF m 7 #[.val (.ref a1)] [(.ref a1)])) (fun _ k_ => XS.aloadN X1.here hx rfl (hb hby d10_6) rfl rfl  k_) ?_
  obtain ⟨T2, X2, e2, st2⟩ := getF X1 hx hZ hown (host := "") (Or.inl (hw _ (List.mem_of_getElem? (i := 27) rfl))) Via.refl e1 h_1 (g := (mkF m 7 #[.val (.ref a1)] [(.ref a1)])) rfl rfl (hb hby d10_7)
  refine own_k (T' := T2) (g' := (mkF m 10 #[.val (.ref a1)] [(.int (0 : Int32))])) st2 ?_
  refine own_k (T' := T2) (g' := (mkF m 13 #[.val (.ref a1)] [])) (fun _ k_ => XS.ifNo X2.here hx rfl (hb hby d10_10) rfl ((if0 _ _).trans (teq (by decide : ((0 : Int32) = (0 : Int32)))).2) k_) ?_
  refine own_k (T' := T2) (g' := (mkF m 14 #[.val (.ref a1)] [(.int (1 : Int32))])) (fun _ k_ => XS.iconst X2.here hx rfl (hb hby d10_13) k_) ?_
  refine own_k (T' := T2) (g' := (mkF m 18 #[.val (.ref a1)] [(.int (1 : Int32))])) (fun _ k_ => XS.goto X2.here hx rfl (pc0 := 14) (pc' := 18) rfl (hb hby d10_14) (by decide) (by decide) k_) ?_
  exact own_retN X2 hx (t := .boolean) hret (by simp) hlk (hb hby d10_18) hF (by rw [e2]; exact ⟨by rw [show nar .boolean (1 : Int32) = (1 : Int32) from by decide], N0, rfl⟩) (by decide) (by decide)
theorem d9_4 : decode jdk_42_method_56_code 4 = .ok (.ifCond .eq 12, 3) := by decide +kernel
theorem d9_7 : decode jdk_42_method_56_code 7 = .ok (.aload_n 0, 1) := by decide +kernel
theorem d9_8 : decode jdk_42_method_56_code 8 = .ok (.getfield 9, 3) := by decide +kernel
theorem d9_11 : decode jdk_42_method_56_code 11 = .ok (.iload_n 1, 1) := by decide +kernel
theorem d9_12 : decode jdk_42_method_56_code 12 = .ok (.invokestatic 495, 3) := by decide +kernel
theorem ef_11_RI (m : MethodId) (x0 : Addr) (x1 : Int32)  : entryFrame m #[(.ref x0), (.int x1)] 2 = mkF m 0 #[.val (.ref x0), .val (.int x1)] [] := by first | (simp [entryFrame, mkF, argsToLocals, Value.category]; done) | rfl
theorem pn_java_lang_StringLatin1 : plainName "java/lang/StringLatin1" = true := by first | (simp [plainName, overriddenIn]; done) | decide +kernel
theorem d11_0 : decode jdk_43_method_2_code 0 = .ok (.iload_n 1, 1) := by decide +kernel
theorem d11_1 : decode jdk_43_method_2_code 1 = .ok (.aload_n 0, 1) := by decide +kernel
theorem d11_2 : decode jdk_43_method_2_code 2 = .ok (.arraylength, 1) := by decide +kernel
theorem d11_3 : decode jdk_43_method_2_code 3 = .ok (.invokestatic 9, 3) := by decide +kernel
theorem pd__28II_29V : parseMethodDescriptor "(II)V" = some ⟨[.int, .int], none⟩ := by decide +kernel
theorem ef_12_II (m : MethodId) (x0 : Int32) (x1 : Int32)  : entryFrame m #[(.int x0), (.int x1)] 2 = mkF m 0 #[.val (.int x0), .val (.int x1)] [] := by first | (simp [entryFrame, mkF, argsToLocals, Value.category]; done) | rfl
theorem d12_0 : decode jdk_42_method_155_code 0 = .ok (.iload_n 0, 1) := by decide +kernel
theorem d12_1 : decode jdk_42_method_155_code 1 = .ok (.iload_n 1, 1) := by decide +kernel
theorem d12_2 : decode jdk_42_method_155_code 2 = .ok (.getstatic 1053, 3) := by decide +kernel
theorem d12_5 : decode jdk_42_method_155_code 5 = .ok (.invokestatic 1059, 3) := by decide +kernel
theorem pd__28IILjava_2futil_2ffunction_2fBiFunction_3b_29I : parseMethodDescriptor "(IILjava/util/function/BiFunction;)I" = some ⟨[.int, .int, (.object "java/util/function/BiFunction")], some .int⟩ := by decide +kernel
theorem ef_13_IIV (m : MethodId) (x0 : Int32) (x1 : Int32) (x2 : Value) (c2 : x2.category = 1) : entryFrame m #[(.int x0), (.int x1), x2] 3 = mkF m 0 #[.val (.int x0), .val (.int x1), .val x2] [] := by cases x2 <;> first | (simp [entryFrame, mkF, argsToLocals, Value.category]; done) | rfl | (simp [Value.category] at c2)
theorem pn_jdk_internal_util_Preconditions : plainName "jdk/internal/util/Preconditions" = true := by first | (simp [plainName, overriddenIn]; done) | decide +kernel
theorem d13_0 : decode jdk_41_method_11_code 0 = .ok (.iload_n 0, 1) := by decide +kernel
theorem d13_1 : decode jdk_41_method_11_code 1 = .ok (.ifCond .lt 8, 3) := by decide +kernel
theorem d13_4 : decode jdk_41_method_11_code 4 = .ok (.iload_n 0, 1) := by decide +kernel
theorem d13_5 : decode jdk_41_method_11_code 5 = .ok (.iload_n 1, 1) := by decide +kernel
theorem d13_6 : decode jdk_41_method_11_code 6 = .ok (.if_icmp .lt 10, 3) := by decide +kernel
theorem d13_16 : decode jdk_41_method_11_code 16 = .ok (.iload_n 0, 1) := by decide +kernel
theorem d13_17 : decode jdk_41_method_11_code 17 = .ok (.ireturn, 1) := by decide +kernel
set_option maxRecDepth 65536 in
set_option maxHeartbeats 40000000 in
theorem rm_checkIndex_11 (l : Launch) (Z : State) (a0 : Array Value) (g_COMPACT_STRINGS : Int32) (g_SIOOBE_FORMATTER : Value) (hW : own_W Z a0 g_COMPACT_STRINGS g_SIOOBE_FORMATTER) (i1 : Int32) (h0 : Heap) (O0 : Old Z Z.heap.size h0) (h_1 : ¬ (i1 < (0 : Int32))) (h_2 : (i1 < (4 : Int32))) :
    own_Met l Z (⟨"jdk/internal/util/Preconditions", "checkIndex", "(IILjava/util/function/BiFunction;)I"⟩ : MethodName) jdk_41_method_11_code 3 (some .int) ({ frames := 0, cells := 0, slots := 0, locals := 0 } : Room) #[(.int i1), (.int (4 : Int32)), g_SIOOBE_FORMATTER] h0 (fun v h L => v = some (.int i1) ∧ Fr Z.heap.size L ∧ h = h0) := by
  have hW_ := hW
  obtain ⟨hw, S_g_COMPACT_STRINGS, P_g_COMPACT_STRINGS, R_g_SIOOBE_FORMATTER, S_g_SIOOBE_FORMATTER, S_g__assertionsDisabled, S_g_HI_BYTE_SHIFT, S_g_LO_BYTE_SHIFT⟩ := hW_
  refine own_met (plainFor_of_name pn_jdk_internal_util_Preconditions) ?_
  intro p e s m below meth cc_ s₁ Φ hF X0 hx hby hml hZ hown hnm hret hlk e0
  have N0 := Fr.nil Z.heap.size
  refine own_k (T' := s₁) (g' := (mkF m 0 #[.val (.int i1), .val (.int (4 : Int32)), .val g_SIOOBE_FORMATTER] [])) (fun _ k_ => castTop (ef_13_IIV m i1 (4 : Int32) g_SIOOBE_FORMATTER (XT.cat1 R_g_SIOOBE_FORMATTER)) k_) ?_
  refine own_k (T' := s₁) (g' := (mkF m 1 #[.val (.int i1), .val (.int (4 : Int32)), .val g_SIOOBE_FORMATTER] [(.int i1)])) (fun _ k_ => XS.iloadN X0.here hx rfl (hb hby d13_0) rfl  k_) ?_
  refine own_k (T' := s₁) (g' := (mkF m 4 #[.val (.int i1), .val (.int (4 : Int32)), .val g_SIOOBE_FORMATTER] [])) (fun _ k_ => XS.ifNo X0.here hx rfl (hb hby d13_1) rfl ((if0 _ _).trans (flt h_1).1) k_) ?_
  refine own_k (T' := s₁) (g' := (mkF m 5 #[.val (.int i1), .val (.int (4 : Int32)), .val g_SIOOBE_FORMATTER] [(.int i1)])) (fun _ k_ => XS.iloadN X0.here hx rfl (hb hby d13_4) rfl  k_) ?_
  refine own_k (T' := s₁) (g' := (mkF m 6 #[.val (.int i1), .val (.int (4 : Int32)), .val g_SIOOBE_FORMATTER] [(.int (4 : Int32)), (.int i1)])) (fun _ k_ => XS.iloadN X0.here hx rfl (hb hby d13_5) rfl  k_) ?_
  refine own_k (T' := s₁) (g' := (mkF m 16 #[.val (.int i1), .val (.int (4 : Int32)), .val g_SIOOBE_FORMATTER] [])) (fun _ k_ => XS.icmpYes X0.here hx rfl (pc0 := 6) (pc' := 16) rfl (hb hby d13_6) rfl ((tlt h_2).1) (by decide) (by decide) k_) ?_
  refine own_k (T' := s₁) (g' := (mkF m 17 #[.val (.int i1), .val (.int (4 : Int32)), .val g_SIOOBE_FORMATTER] [(.int i1)])) (fun _ k_ => XS.iloadN X0.here hx rfl (hb hby d13_16) rfl  k_) ?_
  exact own_retI X0 hx hret hlk (hb hby d13_17) hF (by rw [e0]; exact ⟨rfl, N0, rfl⟩) (by decide) (by decide)
theorem d12_8 : decode jdk_42_method_155_code 8 = .ok (.pop, 1) := by decide +kernel
theorem d12_9 : decode jdk_42_method_155_code 9 = .ok (.return_, 1) := by decide +kernel
set_option maxRecDepth 65536 in
set_option maxHeartbeats 40000000 in
theorem rm_checkIndex_12 (l : Launch) (Z : State) (a0 : Array Value) (g_COMPACT_STRINGS : Int32) (g_SIOOBE_FORMATTER : Value) (hW : own_W Z a0 g_COMPACT_STRINGS g_SIOOBE_FORMATTER) (i1 : Int32) (h0 : Heap) (O0 : Old Z Z.heap.size h0) (h_1 : ¬ (i1 < (0 : Int32))) (h_2 : (i1 < (4 : Int32))) :
    own_Met l Z (⟨"java/lang/String", "checkIndex", "(II)V"⟩ : MethodName) jdk_42_method_155_code 2 none ({ frames := 1, cells := 0, slots := 0, locals := 14 } : Room) #[(.int i1), (.int (4 : Int32))] h0 (fun v h L => v = none ∧ Fr Z.heap.size L ∧ h = h0) := by
  have hW_ := hW
  obtain ⟨hw, S_g_COMPACT_STRINGS, P_g_COMPACT_STRINGS, R_g_SIOOBE_FORMATTER, S_g_SIOOBE_FORMATTER, S_g__assertionsDisabled, S_g_HI_BYTE_SHIFT, S_g_LO_BYTE_SHIFT⟩ := hW_
  refine own_met (plainFor_of_name pn_java_lang_String) ?_
  intro p e s m below meth cc_ s₁ Φ hF X0 hx hby hml hZ hown hnm hret hlk e0
  have N0 := Fr.nil Z.heap.size
  refine own_k (T' := s₁) (g' := (mkF m 0 #[.val (.int i1), .val (.int (4 : Int32))] [])) (fun _ k_ => castTop (ef_12_II m i1 (4 : Int32)) k_) ?_
  refine own_k (T' := s₁) (g' := (mkF m 1 #[.val (.int i1), .val (.int (4 : Int32))] [(.int i1)])) (fun _ k_ => XS.iloadN X0.here hx rfl (hb hby d12_0) rfl  k_) ?_
  refine own_k (T' := s₁) (g' := (mkF m 2 #[.val (.int i1), .val (.int (4 : Int32))] [(.int (4 : Int32)), (.int i1)])) (fun _ k_ => XS.iloadN X0.here hx rfl (hb hby d12_1) rfl  k_) ?_
  obtain ⟨T1, X1, e1, st1⟩ := getS2 X0 hx hZ hown (host := "") (Or.inl (hw _ (List.mem_of_getElem? (i := 57) rfl))) Via.refl e0 (S_g_SIOOBE_FORMATTER.ext O0.2) (g := (mkF m 2 #[.val (.int i1), .val (.int (4 : Int32))] [(.int (4 : Int32)), (.int i1)])) rfl (hb hby d12_2)
  refine own_k (T' := T1) (g' := (mkF m 5 #[.val (.int i1), .val (.int (4 : Int32))] [g_SIOOBE_FORMATTER, (.int (4 : Int32)), (.int i1)])) st1 ?_
  refine own_callS X1 hx hZ (y := (⟨"jdk/internal/util/Preconditions", "checkIndex", "(IILjava/util/function/BiFunction;)I"⟩ : MethodName)) hown (hw _ (List.mem_of_getElem? (i := 59) rfl)) (hw _ (List.mem_of_getElem? (i := 60) rfl)) (hw _ (List.mem_of_getElem? (i := 58) rfl)) (hw _ (List.mem_of_getElem? (i := 61) rfl)) (by decide) (al := [(.int i1), (.int (4 : Int32)), g_SIOOBE_FORMATTER]) (rm_checkIndex_11 l Z a0 g_COMPACT_STRINGS g_SIOOBE_FORMATTER hW i1 h0 O0 h_1 h_2) 0 (by decide) (by decide) e1 (by decide) (by decide) (by rw [hml]; rfl) (lenOf pd__28IILjava_2futil_2ffunction_2fBiFunction_3b_29I rfl) rfl (rest := []) (by show 2 * 0 + _ ≤ _; exact Nat.le_of_eq rfl) (hb hby d12_5) ?_
  intro v2 T2 L2 X2 hQ2
  obtain ⟨rfl, Nq2, e2⟩ := hQ2
  have N2 := Fr.app N0 Nq2
  show own_Go p e below Φ T2 (mkF m 8 #[.val (.int i1), .val (.int (4 : Int32))] [(.int i1)])
  refine own_k (T' := T2) (g' := (mkF m 9 #[.val (.int i1), .val (.int (4 : Int32))] [])) (fun _ k_ => XS.pop X2.here hx rfl (hb hby d12_8) rfl rfl k_) ?_
  exact own_ret0 X2 hx hret hlk (hb hby d12_9) hF (by rw [e2]; exact ⟨rfl, N2, rfl⟩) (by decide) (by decide)
theorem d11_6 : decode jdk_43_method_2_code 6 = .ok (.aload_n 0, 1) := by decide +kernel
theorem d11_7 : decode jdk_43_method_2_code 7 = .ok (.iload_n 1, 1) := by decide +kernel
theorem d11_8 : decode jdk_43_method_2_code 8 = .ok (.baload, 1) := by decide +kernel
theorem d11_9 : decode jdk_43_method_2_code 9 = .ok (.sipush 255, 3) := by decide +kernel
theorem d11_12 : decode jdk_43_method_2_code 12 = .ok (.iand, 1) := by decide +kernel
theorem d11_13 : decode jdk_43_method_2_code 13 = .ok (.i2c, 1) := by decide +kernel
theorem d11_14 : decode jdk_43_method_2_code 14 = .ok (.ireturn, 1) := by decide +kernel
set_option maxRecDepth 65536 in
set_option maxHeartbeats 40000000 in
theorem rm_charAt_13 (l : Launch) (Z : State) (a0 : Array Value) (g_COMPACT_STRINGS : Int32) (g_SIOOBE_FORMATTER : Value) (hW : own_W Z a0 g_COMPACT_STRINGS g_SIOOBE_FORMATTER) (a1 : Addr) (i2 : Int32) (q3 : ClassId) (l4 : List Value) (i5 : Int32) (h0 : Heap) (O0 : Old Z Z.heap.size h0) (h_1 : Arv Z h0 a1 q3 .byte (4 : Int32) l4 (.int (0 : Int32))) (h_2 : ¬ (i2 < (0 : Int32))) (h_3 : (i2 < (4 : Int32))) (h_4 : (l4 : List Value).getD (i2).toNatClampNeg (.int (0 : Int32)) = (.int i5)) :
    own_Met l Z (⟨"java/lang/StringLatin1", "charAt", "([BI)C"⟩ : MethodName) jdk_43_method_2_code 2 (some .char) ({ frames := 2, cells := 0, slots := 0, locals := 27 } : Room) #[(.ref a1), (.int i2)] h0 (fun v h L => v = some (.int ((i5 &&& (255 : Int32)).toUInt32.toUInt16.toUInt32.toInt32)) ∧ Fr Z.heap.size L ∧ h = h0) := by
  have hW_ := hW
  obtain ⟨hw, S_g_COMPACT_STRINGS, P_g_COMPACT_STRINGS, R_g_SIOOBE_FORMATTER, S_g_SIOOBE_FORMATTER, S_g__assertionsDisabled, S_g_HI_BYTE_SHIFT, S_g_LO_BYTE_SHIFT⟩ := hW_
  refine own_met (plainFor_of_name pn_java_lang_StringLatin1) ?_
  intro p e s m below meth cc_ s₁ Φ hF X0 hx hby hml hZ hown hnm hret hlk e0
  have N0 := Fr.nil Z.heap.size
  refine own_k (T' := s₁) (g' := (mkF m 0 #[.val (.ref a1), .val (.int i2)] [])) (fun _ k_ => castTop (ef_11_RI m a1 i2) k_) ?_
  refine own_k (T' := s₁) (g' := (mkF m 1 #[.val (.ref a1), .val (.int i2)] [(.int i2)])) (fun _ k_ => XS.iloadN X0.here hx rfl (hb hby d11_0) rfl  k_) ?_
  refine own_k (T' := s₁) (g' := (mkF m 2 #[.val (.ref a1), .val (.int i2)] [(.ref a1), (.int i2)])) (fun _ k_ => XS.aloadN X0.here hx rfl (hb hby d11_1) rfl rfl  k_) ?_
  refine own_len X0 hx hZ e0 h_1 (hb hby d11_2) ?_
  show own_Go p e below Φ s₁ (mkF m 3 #[.val (.ref a1), .val (.int i2)] [(.int (4 : Int32)), (.int i2)])
  refine own_callS X0 hx hZ (y := (⟨"java/lang/String", "checkIndex", "(II)V"⟩ : MethodName)) hown (hw _ (List.mem_of_getElem? (i := 54) rfl)) (hw _ (List.mem_of_getElem? (i := 55) rfl)) (hw _ (List.mem_of_getElem? (i := 4) rfl)) (hw _ (List.mem_of_getElem? (i := 56) rfl)) (by decide) (al := [(.int i2), (.int (4 : Int32))]) (rm_checkIndex_12 l Z a0 g_COMPACT_STRINGS g_SIOOBE_FORMATTER hW i2 h0 O0 h_2 h_3) 0 (by decide) (by decide) e0 (by decide) (by decide) (by rw [hml]; rfl) (lenOf pd__28II_29V rfl) rfl (rest := []) (by show 2 * 0 + _ ≤ _; exact Nat.le_of_eq rfl) (hb hby d11_3) ?_
  intro v1 T1 L1 X1 hQ1
  obtain ⟨rfl, Nq1, e1⟩ := hQ1
  have N1 := Fr.app N0 Nq1
  show own_Go p e below Φ T1 (mkF m 6 #[.val (.ref a1), .val (.int i2)] [])
  refine own_k (T' := T1) (g' := (mkF m 7 #[.val (.ref a1), .val (.int i2)] [(.ref a1)])) (fun _ k_ => XS.aloadN X1.here hx rfl (hb hby d11_6) rfl rfl  k_) ?_
  refine own_k (T' := T1) (g' := (mkF m 8 #[.val (.ref a1), .val (.int i2)] [(.int i2), (.ref a1)])) (fun _ k_ => XS.iloadN X1.here hx rfl (hb hby d11_7) rfl  k_) ?_
  refine own_baload X1 hx hZ e1 h_1 (j := i2) ⟨h_2, h_3⟩ (v := (.int i5)) h_4 (hb hby d11_8) ?_
  show own_Go p e below Φ T1 (mkF m 9 #[.val (.ref a1), .val (.int i2)] [(.int i5)])
  refine own_k (T' := T1) (g' := (mkF m 12 #[.val (.ref a1), .val (.int i2)] [(.int (255 : Int32)), (.int i5)])) (fun _ k_ => XS.sipush X1.here hx rfl (hb hby d11_9) k_) ?_
  refine own_k (T' := T1) (g' := (mkF m 13 #[.val (.ref a1), .val (.int i2)] [(.int (i5 &&& (255 : Int32)))])) (fun _ k_ => XS.iand X1.here hx rfl (hb hby d11_12) rfl k_) ?_
  refine own_k (T' := T1) (g' := (mkF m 14 #[.val (.ref a1), .val (.int i2)] [(.int ((i5 &&& (255 : Int32)).toUInt32.toUInt16.toUInt32.toInt32))])) (fun _ k_ => XS.i2c X1.here hx rfl (hb hby d11_13) rfl k_) ?_
  exact own_retN X1 hx (t := .char) hret (by simp) hlk (hb hby d11_14) hF (by rw [e1]; exact ⟨by rw [show nar .char ((i5 &&& (255 : Int32)).toUInt32.toUInt16.toUInt32.toInt32) = ((i5 &&& (255 : Int32)).toUInt32.toUInt16.toUInt32.toInt32) from own_nar_char _], N1, rfl⟩) (by decide) (by decide)
theorem d9_15 : decode jdk_42_method_56_code 15 = .ok (.ireturn, 1) := by decide +kernel
theorem d10_17 : decode jdk_42_method_154_code 17 = .ok (.iconst 0, 1) := by decide +kernel
set_option maxRecDepth 65536 in
set_option maxHeartbeats 40000000 in
theorem rm_isLatin1_14 (l : Launch) (Z : State) (a0 : Array Value) (g_COMPACT_STRINGS : Int32) (g_SIOOBE_FORMATTER : Value) (hW : own_W Z a0 g_COMPACT_STRINGS g_SIOOBE_FORMATTER) (a1 : Addr) (h0 : Heap) (O0 : Old Z Z.heap.size h0) (h_1 : Fld Z h0 a1 "java/lang/String" "coder" "B" (.int (1 : Int32))) :
    own_Met l Z (⟨"java/lang/String", "isLatin1", "()Z"⟩ : MethodName) jdk_42_method_154_code 1 (some .boolean) ({ frames := 0, cells := 0, slots := 0, locals := 0 } : Room) #[(.ref a1)] h0 (fun v h L => v = some (.int (0 : Int32)) ∧ Fr Z.heap.size L ∧ h = h0) := by
  have hW_ := hW
  obtain ⟨hw, S_g_COMPACT_STRINGS, P_g_COMPACT_STRINGS, R_g_SIOOBE_FORMATTER, S_g_SIOOBE_FORMATTER, S_g__assertionsDisabled, S_g_HI_BYTE_SHIFT, S_g_LO_BYTE_SHIFT⟩ := hW_
  refine own_met (plainFor_of_name pn_java_lang_String) ?_
  intro p e s m below meth cc_ s₁ Φ hF X0 hx hby hml hZ hown hnm hret hlk e0
  have N0 := Fr.nil Z.heap.size
  refine own_k (T' := s₁) (g' := (mkF m 0 #[.val (.ref a1)] [])) (fun _ k_ => castTop (ef_10_R m a1) k_) ?_
  obtain ⟨T1, X1, e1, st1⟩ := getS2 X0 hx hZ hown (host := "") (Or.inl (hw _ (List.mem_of_getElem? (i := 15) rfl))) Via.refl e0 (S_g_COMPACT_STRINGS.ext O0.2) (g := (mkF m 0 #[.val (.ref a1)] [])) rfl (hb hby d10_0)
  refine own_k (T' := T1) (g' := (mkF m 3 #[.val (.ref a1)] [(.int g_COMPACT_STRINGS)])) st1 ?_
  refine own_k (T' := T1) (g' := (mkF m 6 #[.val (.ref a1)] [])) (fun _ k_ => XS.ifNo X1.here hx rfl (hb hby d10_3) rfl ((if0 _ _).trans (feq P_g_COMPACT_STRINGS).1) k_) ?_
  refine own_k (T' := T1) (g' := (mkF m 7 #[.val (.ref a1)] [(.ref a1)])) (fun _ k_ => XS.aloadN X1.here hx rfl (hb hby d10_6) rfl rfl  k_) ?_
  obtain ⟨T2, X2, e2, st2⟩ := getF X1 hx hZ hown (host := "") (Or.inl (hw _ (List.mem_of_getElem? (i := 27) rfl))) Via.refl e1 h_1 (g := (mkF m 7 #[.val (.ref a1)] [(.ref a1)])) rfl rfl (hb hby d10_7)
  refine own_k (T' := T2) (g' := (mkF m 10 #[.val (.ref a1)] [(.int (1 : Int32))])) st2 ?_
  refine own_k (T' := T2) (g' := (mkF m 17 #[.val (.ref a1)] [])) (fun _ k_ => XS.ifYes X2.here hx rfl (pc0 := 10) (pc' := 17) rfl (hb hby d10_10) rfl ((if0 _ _).trans (feq (by decide : ¬ ((1 : Int32) = (0 : Int32)))).2) (by decide) (by decide) k_) ?_
  refine own_k (T' := T2) (g' := (mkF m 18 #[.val (.ref a1)] [(.int (0 : Int32))])) (fun _ k_ => XS.iconst X2.here hx rfl (hb hby d10_17) k_) ?_
  exact own_retN X2 hx (t := .boolean) hret (by simp) hlk (hb hby d10_18) hF (by rw [e2]; exact ⟨by rw [show nar .boolean (0 : Int32) = (0 : Int32) from by decide], N0, rfl⟩) (by decide) (by decide)
theorem d9_16 : decode jdk_42_method_56_code 16 = .ok (.aload_n 0, 1) := by decide +kernel
theorem d9_17 : decode jdk_42_method_56_code 17 = .ok (.getfield 9, 3) := by decide +kernel
theorem d9_20 : decode jdk_42_method_56_code 20 = .ok (.iload_n 1, 1) := by decide +kernel
theorem d9_21 : decode jdk_42_method_56_code 21 = .ok (.invokestatic 498, 3) := by decide +kernel
theorem ef_19_RI (m : MethodId) (x0 : Addr) (x1 : Int32)  : entryFrame m #[(.ref x0), (.int x1)] 2 = mkF m 0 #[.val (.ref x0), .val (.int x1)] [] := by first | (simp [entryFrame, mkF, argsToLocals, Value.category]; done) | rfl
theorem d19_0 : decode jdk_52_method_83_code 0 = .ok (.iload_n 1, 1) := by decide +kernel
theorem d19_1 : decode jdk_52_method_83_code 1 = .ok (.aload_n 0, 1) := by decide +kernel
theorem d19_2 : decode jdk_52_method_83_code 2 = .ok (.invokestatic 67, 3) := by decide +kernel
theorem pd__28I_5bB_29V : parseMethodDescriptor "(I[B)V" = some ⟨[.int, (.array .byte)], none⟩ := by decide +kernel
theorem ef_20_IR (m : MethodId) (x0 : Int32) (x1 : Addr)  : entryFrame m #[(.int x0), (.ref x1)] 2 = mkF m 0 #[.val (.int x0), .val (.ref x1)] [] := by first | (simp [entryFrame, mkF, argsToLocals, Value.category]; done) | rfl
theorem d20_0 : decode jdk_52_method_91_code 0 = .ok (.iload_n 0, 1) := by decide +kernel
theorem d20_1 : decode jdk_52_method_91_code 1 = .ok (.aload_n 1, 1) := by decide +kernel
theorem d20_2 : decode jdk_52_method_91_code 2 = .ok (.invokestatic 48, 3) := by decide +kernel
theorem pd__28_5bB_29I : parseMethodDescriptor "([B)I" = some ⟨[(.array .byte)], some .int⟩ := by decide +kernel
theorem ef_21_R (m : MethodId) (x0 : Addr)  : entryFrame m #[(.ref x0)] 1 = mkF m 0 #[.val (.ref x0)] [] := by first | (simp [entryFrame, mkF, argsToLocals, Value.category]; done) | rfl
theorem d21_0 : decode jdk_52_method_6_code 0 = .ok (.aload_n 0, 1) := by decide +kernel
theorem d21_1 : decode jdk_52_method_6_code 1 = .ok (.arraylength, 1) := by decide +kernel
theorem d21_2 : decode jdk_52_method_6_code 2 = .ok (.iconst 1, 1) := by decide +kernel
theorem d21_3 : decode jdk_52_method_6_code 3 = .ok (.ishr, 1) := by decide +kernel
theorem d21_4 : decode jdk_52_method_6_code 4 = .ok (.ireturn, 1) := by decide +kernel
set_option maxRecDepth 65536 in
set_option maxHeartbeats 40000000 in
theorem rm_length_15 (l : Launch) (Z : State) (a0 : Array Value) (g_COMPACT_STRINGS : Int32) (g_SIOOBE_FORMATTER : Value) (hW : own_W Z a0 g_COMPACT_STRINGS g_SIOOBE_FORMATTER) (a1 : Addr) (q2 : ClassId) (l3 : List Value) (h0 : Heap) (O0 : Old Z Z.heap.size h0) (h_1 : Arv Z h0 a1 q2 .byte (8 : Int32) l3 (.int (0 : Int32))) :
    own_Met l Z (⟨"java/lang/StringUTF16", "length", "([B)I"⟩ : MethodName) jdk_52_method_6_code 1 (some .int) ({ frames := 0, cells := 0, slots := 0, locals := 0 } : Room) #[(.ref a1)] h0 (fun v h L => v = some (.int (4 : Int32)) ∧ Fr Z.heap.size L ∧ h = h0) := by
  have hW_ := hW
  obtain ⟨hw, S_g_COMPACT_STRINGS, P_g_COMPACT_STRINGS, R_g_SIOOBE_FORMATTER, S_g_SIOOBE_FORMATTER, S_g__assertionsDisabled, S_g_HI_BYTE_SHIFT, S_g_LO_BYTE_SHIFT⟩ := hW_
  refine own_met (plainFor_of_name pn_java_lang_StringUTF16) ?_
  intro p e s m below meth cc_ s₁ Φ hF X0 hx hby hml hZ hown hnm hret hlk e0
  have N0 := Fr.nil Z.heap.size
  refine own_k (T' := s₁) (g' := (mkF m 0 #[.val (.ref a1)] [])) (fun _ k_ => castTop (ef_21_R m a1) k_) ?_
  refine own_k (T' := s₁) (g' := (mkF m 1 #[.val (.ref a1)] [(.ref a1)])) (fun _ k_ => XS.aloadN X0.here hx rfl (hb hby d21_0) rfl rfl  k_) ?_
  refine own_len X0 hx hZ e0 h_1 (hb hby d21_1) ?_
  show own_Go p e below Φ s₁ (mkF m 2 #[.val (.ref a1)] [(.int (8 : Int32))])
  refine own_k (T' := s₁) (g' := (mkF m 3 #[.val (.ref a1)] [(.int (1 : Int32)), (.int (8 : Int32))])) (fun _ k_ => XS.iconst X0.here hx rfl (hb hby d21_2) k_) ?_
  refine own_k (T' := s₁) (g' := (mkF m 4 #[.val (.ref a1)] [(.int ((8 : Int32) >>> ((1 : Int32) &&& 31)))])) (fun _ k_ => XS.ishr X0.here hx rfl (hb hby d21_3) rfl k_) ?_
  rw [show ((8 : Int32) >>> ((1 : Int32) &&& 31)) = (4 : Int32) from by decide]
  exact own_retI X0 hx hret hlk (hb hby d21_4) hF (by rw [e0]; exact ⟨rfl, N0, rfl⟩) (by decide) (by decide)
theorem d20_5 : decode jdk_52_method_91_code 5 = .ok (.invokestatic 414, 3) := by decide +kernel
theorem d20_8 : decode jdk_52_method_91_code 8 = .ok (.return_, 1) := by decide +kernel
set_option maxRecDepth 65536 in
set_option maxHeartbeats 40000000 in
theorem rm_checkIndex_16 (l : Launch) (Z : State) (a0 : Array Value) (g_COMPACT_STRINGS : Int32) (g_SIOOBE_FORMATTER : Value) (hW : own_W Z a0 g_COMPACT_STRINGS g_SIOOBE_FORMATTER) (i1 : Int32) (a2 : Addr) (q3 : ClassId) (l4 : List Value) (h0 : Heap) (O0 : Old Z Z.heap.size h0) (h_1 : Arv Z h0 a2 q3 .byte (8 : Int32) l4 (.int (0 : Int32))) (h_2 : ¬ (i1 < (0 : Int32))) (h_3 : (i1 < (4 : Int32))) :
    own_Met l Z (⟨"java/lang/StringUTF16", "checkIndex", "(I[B)V"⟩ : MethodName) jdk_52_method_91_code 2 none ({ frames := 2, cells := 0, slots := 0, locals := 27 } : Room) #[(.int i1), (.ref a2)] h0 (fun v h L => v = none ∧ Fr Z.heap.size L ∧ h = h0) := by
  have hW_ := hW
  obtain ⟨hw, S_g_COMPACT_STRINGS, P_g_COMPACT_STRINGS, R_g_SIOOBE_FORMATTER, S_g_SIOOBE_FORMATTER, S_g__assertionsDisabled, S_g_HI_BYTE_SHIFT, S_g_LO_BYTE_SHIFT⟩ := hW_
  refine own_met (plainFor_of_name pn_java_lang_StringUTF16) ?_
  intro p e s m below meth cc_ s₁ Φ hF X0 hx hby hml hZ hown hnm hret hlk e0
  have N0 := Fr.nil Z.heap.size
  refine own_k (T' := s₁) (g' := (mkF m 0 #[.val (.int i1), .val (.ref a2)] [])) (fun _ k_ => castTop (ef_20_IR m i1 a2) k_) ?_
  refine own_k (T' := s₁) (g' := (mkF m 1 #[.val (.int i1), .val (.ref a2)] [(.int i1)])) (fun _ k_ => XS.iloadN X0.here hx rfl (hb hby d20_0) rfl  k_) ?_
  refine own_k (T' := s₁) (g' := (mkF m 2 #[.val (.int i1), .val (.ref a2)] [(.ref a2), (.int i1)])) (fun _ k_ => XS.aloadN X0.here hx rfl (hb hby d20_1) rfl rfl  k_) ?_
  refine own_callS X0 hx hZ (y := (⟨"java/lang/StringUTF16", "length", "([B)I"⟩ : MethodName)) hown (hw _ (List.mem_of_getElem? (i := 87) rfl)) (hw _ (List.mem_of_getElem? (i := 88) rfl)) (hw _ (List.mem_of_getElem? (i := 18) rfl)) (hw _ (List.mem_of_getElem? (i := 89) rfl)) (by decide) (al := [(.ref a2)]) (rm_length_15 l Z a0 g_COMPACT_STRINGS g_SIOOBE_FORMATTER hW a2 q3 l4 h0 O0 h_1) 1 (by decide) (by decide) e0 (by decide) (by decide) (by rw [hml]; rfl) (lenOf pd__28_5bB_29I rfl) rfl (rest := [(.int i1)]) (by show 2 * 0 + _ ≤ _; exact Nat.le_of_eq rfl) (hb hby d20_2) ?_
  intro v1 T1 L1 X1 hQ1
  obtain ⟨rfl, Nq1, e1⟩ := hQ1
  have N1 := Fr.app N0 Nq1
  show own_Go p e below Φ T1 (mkF m 5 #[.val (.int i1), .val (.ref a2)] [(.int (4 : Int32)), (.int i1)])
  refine own_callS X1 hx hZ (y := (⟨"java/lang/String", "checkIndex", "(II)V"⟩ : MethodName)) hown (hw _ (List.mem_of_getElem? (i := 90) rfl)) (hw _ (List.mem_of_getElem? (i := 55) rfl)) (hw _ (List.mem_of_getElem? (i := 4) rfl)) (hw _ (List.mem_of_getElem? (i := 56) rfl)) (by decide) (al := [(.int i1), (.int (4 : Int32))]) (rm_checkIndex_12 l Z a0 g_COMPACT_STRINGS g_SIOOBE_FORMATTER hW i1 h0 O0 h_2 h_3) 0 (by decide) (by decide) e1 (by decide) (by decide) (by rw [hml]; rfl) (lenOf pd__28II_29V rfl) rfl (rest := []) (by show 2 * 0 + _ ≤ _; exact Nat.le_of_eq rfl) (hb hby d20_5) ?_
  intro v2 T2 L2 X2 hQ2
  obtain ⟨rfl, Nq2, e2⟩ := hQ2
  have N2 := Fr.app N1 Nq2
  show own_Go p e below Φ T2 (mkF m 8 #[.val (.int i1), .val (.ref a2)] [])
  exact own_ret0 X2 hx hret hlk (hb hby d20_8) hF (by rw [e2]; exact ⟨rfl, N2, rfl⟩) (by decide) (by decide)
theorem d19_5 : decode jdk_52_method_83_code 5 = .ok (.aload_n 0, 1) := by decide +kernel
theorem d19_6 : decode jdk_52_method_83_code 6 = .ok (.iload_n 1, 1) := by decide +kernel
theorem d19_7 : decode jdk_52_method_83_code 7 = .ok (.invokestatic 71, 3) := by decide +kernel
set_option maxRecDepth 65536 in
set_option maxHeartbeats 40000000 in
theorem rm_getChar_17 (l : Launch) (Z : State) (a0 : Array Value) (g_COMPACT_STRINGS : Int32) (g_SIOOBE_FORMATTER : Value) (hW : own_W Z a0 g_COMPACT_STRINGS g_SIOOBE_FORMATTER) (a1 : Addr) (i2 : Int32) (q3 : ClassId) (l4 : List Value) (i5 : Int32) (i6 : Int32) (h0 : Heap) (O0 : Old Z Z.heap.size h0) (h_1 : ¬ ((i2 <<< ((1 : Int32) &&& 31)) < (0 : Int32))) (h_2 : ((i2 <<< ((1 : Int32) &&& 31)) < (8 : Int32))) (h_3 : (l4 : List Value).getD ((i2 <<< ((1 : Int32) &&& 31))).toNatClampNeg (.int (0 : Int32)) = (.int i5)) (h_4 : Arv Z h0 a1 q3 .byte (8 : Int32) l4 (.int (0 : Int32))) (h_5 : ¬ (((i2 <<< ((1 : Int32) &&& 31)) + (1 : Int32)) < (0 : Int32))) (h_6 : (((i2 <<< ((1 : Int32) &&& 31)) + (1 : Int32)) < (8 : Int32))) (h_7 : (l4 : List Value).getD (((i2 <<< ((1 : Int32) &&& 31)) + (1 : Int32))).toNatClampNeg (.int (0 : Int32)) = (.int i6)) :
    own_Met l Z (⟨"java/lang/StringUTF16", "getChar", "([BI)C"⟩ : MethodName) jdk_52_method_5_code 2 (some .char) ({ frames := 0, cells := 0, slots := 0, locals := 0 } : Room) #[(.ref a1), (.int i2)] h0 (fun v h L => v = some (.int ((((i5 &&& (255 : Int32)) <<< ((0 : Int32) &&& 31)) ||| ((i6 &&& (255 : Int32)) <<< ((8 : Int32) &&& 31))).toUInt32.toUInt16.toUInt32.toInt32)) ∧ Fr Z.heap.size L ∧ h = h0) := by
  have hW_ := hW
  obtain ⟨hw, S_g_COMPACT_STRINGS, P_g_COMPACT_STRINGS, R_g_SIOOBE_FORMATTER, S_g_SIOOBE_FORMATTER, S_g__assertionsDisabled, S_g_HI_BYTE_SHIFT, S_g_LO_BYTE_SHIFT⟩ := hW_
  refine own_met (plainFor_of_name pn_java_lang_StringUTF16) ?_
  intro p e s m below meth cc_ s₁ Φ hF X0 hx hby hml hZ hown hnm hret hlk e0
  have N0 := Fr.nil Z.heap.size
  refine own_k (T' := s₁) (g' := (mkF m 0 #[.val (.ref a1), .val (.int i2)] [])) (fun _ k_ => castTop (ef_18_RI m a1 i2) k_) ?_
  obtain ⟨T1, X1, e1, st1⟩ := getS2 X0 hx hZ hown (host := "") (Or.inl (hw _ (List.mem_of_getElem? (i := 75) rfl))) Via.refl e0 (S_g__assertionsDisabled.ext O0.2) (g := (mkF m 0 #[.val (.ref a1), .val (.int i2)] [])) rfl (hb hby d18_0)
  refine own_k (T' := T1) (g' := (mkF m 3 #[.val (.ref a1), .val (.int i2)] [(.int (1 : Int32))])) st1 ?_
  refine own_k (T' := T1) (g' := (mkF m 28 #[.val (.ref a1), .val (.int i2)] [])) (fun _ k_ => XS.ifYes X1.here hx rfl (pc0 := 3) (pc' := 28) rfl (hb hby d18_3) rfl ((if0 _ _).trans (feq (by decide : ¬ ((1 : Int32) = (0 : Int32)))).2) (by decide) (by decide) k_) ?_
  refine own_k (T' := T1) (g' := (mkF m 29 #[.val (.ref a1), .val (.int i2)] [(.int i2)])) (fun _ k_ => XS.iloadN X1.here hx rfl (hb hby d18_28) rfl  k_) ?_
  refine own_k (T' := T1) (g' := (mkF m 30 #[.val (.ref a1), .val (.int i2)] [(.int (1 : Int32)), (.int i2)])) (fun _ k_ => XS.iconst X1.here hx rfl (hb hby d18_29) k_) ?_
  refine own_k (T' := T1) (g' := (mkF m 31 #[.val (.ref a1), .val (.int i2)] [(.int (i2 <<< ((1 : Int32) &&& 31)))])) (fun _ k_ => XS.ishl X1.here hx rfl (hb hby d18_30) rfl k_) ?_
  refine own_k (T' := T1) (g' := (mkF m 32 #[.val (.ref a1), .val (.int (i2 <<< ((1 : Int32) &&& 31)))] [])) (fun _ k_ => XS.istoreN X1.here hx rfl (hb hby d18_31) rfl (l' := #[.val (.ref a1), .val (.int (i2 <<< ((1 : Int32) &&& 31)))]) rfl k_) ?_
  refine own_k (T' := T1) (g' := (mkF m 33 #[.val (.ref a1), .val (.int (i2 <<< ((1 : Int32) &&& 31)))] [(.ref a1)])) (fun _ k_ => XS.aloadN X1.here hx rfl (hb hby d18_32) rfl rfl  k_) ?_
  refine own_k (T' := T1) (g' := (mkF m 34 #[.val (.ref a1), .val (.int (i2 <<< ((1 : Int32) &&& 31)))] [(.int (i2 <<< ((1 : Int32) &&& 31))), (.ref a1)])) (fun _ k_ => XS.iloadN X1.here hx rfl (hb hby d18_33) rfl  k_) ?_
  refine own_k (T' := T1) (g' := (mkF m 37 #[.val (.ref a1), .val (.int ((i2 <<< ((1 : Int32) &&& 31)) + (1 : Int32)))] [(.int (i2 <<< ((1 : Int32) &&& 31))), (.ref a1)])) (fun _ k_ => XS.iinc X1.here hx rfl (hb hby d18_34) rfl (l' := #[.val (.ref a1), .val (.int ((i2 <<< ((1 : Int32) &&& 31)) + (1 : Int32)))]) rfl k_) ?_
  refine own_baload X1 hx hZ e1 h_4 (j := (i2 <<< ((1 : Int32) &&& 31))) ⟨h_1, h_2⟩ (v := (.int i5)) h_3 (hb hby d18_37) ?_
  show own_Go p e below Φ T1 (mkF m 38 #[.val (.ref a1), .val (.int ((i2 <<< ((1 : Int32) &&& 31)) + (1 : Int32)))] [(.int i5)])
  refine own_k (T' := T1) (g' := (mkF m 41 #[.val (.ref a1), .val (.int ((i2 <<< ((1 : Int32) &&& 31)) + (1 : Int32)))] [(.int (255 : Int32)), (.int i5)])) (fun _ k_ => XS.sipush X1.here hx rfl (hb hby d18_38) k_) ?_
  refine own_k (T' := T1) (g' := (mkF m 42 #[.val (.ref a1), .val (.int ((i2 <<< ((1 : Int32) &&& 31)) + (1 : Int32)))] [(.int (i5 &&& (255 : Int32)))])) (fun _ k_ => XS.iand X1.here hx rfl (hb hby d18_41) rfl k_) ?_
  obtain ⟨T2, X2, e2, st2⟩ := getS2 X1 hx hZ hown (host := "") (Or.inl (hw _ (List.mem_of_getElem? (i := 76) rfl))) Via.refl e1 (S_g_HI_BYTE_SHIFT.ext O0.2) (g := (mkF m 42 #[.val (.ref a1), .val (.int ((i2 <<< ((1 : Int32) &&& 31)) + (1 : Int32)))] [(.int (i5 &&& (255 : Int32)))])) rfl (hb hby d18_42)
  refine own_k (T' := T2) (g' := (mkF m 45 #[.val (.ref a1), .val (.int ((i2 <<< ((1 : Int32) &&& 31)) + (1 : Int32)))] [(.int (0 : Int32)), (.int (i5 &&& (255 : Int32)))])) st2 ?_
  refine own_k (T' := T2) (g' := (mkF m 46 #[.val (.ref a1), .val (.int ((i2 <<< ((1 : Int32) &&& 31)) + (1 : Int32)))] [(.int ((i5 &&& (255 : Int32)) <<< ((0 : Int32) &&& 31)))])) (fun _ k_ => XS.ishl X2.here hx rfl (hb hby d18_45) rfl k_) ?_
  refine own_k (T' := T2) (g' := (mkF m 47 #[.val (.ref a1), .val (.int ((i2 <<< ((1 : Int32) &&& 31)) + (1 : Int32)))] [(.ref a1), (.int ((i5 &&& (255 : Int32)) <<< ((0 : Int32) &&& 31)))])) (fun _ k_ => XS.aloadN X2.here hx rfl (hb hby d18_46) rfl rfl  k_) ?_
  refine own_k (T' := T2) (g' := (mkF m 48 #[.val (.ref a1), .val (.int ((i2 <<< ((1 : Int32) &&& 31)) + (1 : Int32)))] [(.int ((i2 <<< ((1 : Int32) &&& 31)) + (1 : Int32))), (.ref a1), (.int ((i5 &&& (255 : Int32)) <<< ((0 : Int32) &&& 31)))])) (fun _ k_ => XS.iloadN X2.here hx rfl (hb hby d18_47) rfl  k_) ?_
  refine own_baload X2 hx hZ e2 h_4 (j := ((i2 <<< ((1 : Int32) &&& 31)) + (1 : Int32))) ⟨h_5, h_6⟩ (v := (.int i6)) h_7 (hb hby d18_48) ?_
  show own_Go p e below Φ T2 (mkF m 49 #[.val (.ref a1), .val (.int ((i2 <<< ((1 : Int32) &&& 31)) + (1 : Int32)))] [(.int i6), (.int ((i5 &&& (255 : Int32)) <<< ((0 : Int32) &&& 31)))])
  refine own_k (T' := T2) (g' := (mkF m 52 #[.val (.ref a1), .val (.int ((i2 <<< ((1 : Int32) &&& 31)) + (1 : Int32)))] [(.int (255 : Int32)), (.int i6), (.int ((i5 &&& (255 : Int32)) <<< ((0 : Int32) &&& 31)))])) (fun _ k_ => XS.sipush X2.here hx rfl (hb hby d18_49) k_) ?_
  refine own_k (T' := T2) (g' := (mkF m 53 #[.val (.ref a1), .val (.int ((i2 <<< ((1 : Int32) &&& 31)) + (1 : Int32)))] [(.int (i6 &&& (255 : Int32))), (.int ((i5 &&& (255 : Int32)) <<< ((0 : Int32) &&& 31)))])) (fun _ k_ => XS.iand X2.here hx rfl (hb hby d18_52) rfl k_) ?_
  obtain ⟨T3, X3, e3, st3⟩ := getS2 X2 hx hZ hown (host := "") (Or.inl (hw _ (List.mem_of_getElem? (i := 77) rfl))) Via.refl e2 (S_g_LO_BYTE_SHIFT.ext O0.2) (g := (mkF m 53 #[.val (.ref a1), .val (.int ((i2 <<< ((1 : Int32) &&& 31)) + (1 : Int32)))] [(.int (i6 &&& (255 : Int32))), (.int ((i5 &&& (255 : Int32)) <<< ((0 : Int32) &&& 31)))])) rfl (hb hby d18_53)
  refine own_k (T' := T3) (g' := (mkF m 56 #[.val (.ref a1), .val (.int ((i2 <<< ((1 : Int32) &&& 31)) + (1 : Int32)))] [(.int (8 : Int32)), (.int (i6 &&& (255 : Int32))), (.int ((i5 &&& (255 : Int32)) <<< ((0 : Int32) &&& 31)))])) st3 ?_
  refine own_k (T' := T3) (g' := (mkF m 57 #[.val (.ref a1), .val (.int ((i2 <<< ((1 : Int32) &&& 31)) + (1 : Int32)))] [(.int ((i6 &&& (255 : Int32)) <<< ((8 : Int32) &&& 31))), (.int ((i5 &&& (255 : Int32)) <<< ((0 : Int32) &&& 31)))])) (fun _ k_ => XS.ishl X3.here hx rfl (hb hby d18_56) rfl k_) ?_
  refine own_k (T' := T3) (g' := (mkF m 58 #[.val (.ref a1), .val (.int ((i2 <<< ((1 : Int32) &&& 31)) + (1 : Int32)))] [(.int (((i5 &&& (255 : Int32)) <<< ((0 : Int32) &&& 31)) ||| ((i6 &&& (255 : Int32)) <<< ((8 : Int32) &&& 31))))])) (fun _ k_ => XS.ior X3.here hx rfl (hb hby d18_57) rfl k_) ?_
  refine own_k (T' := T3) (g' := (mkF m 59 #[.val (.ref a1), .val (.int ((i2 <<< ((1 : Int32) &&& 31)) + (1 : Int32)))] [(.int ((((i5 &&& (255 : Int32)) <<< ((0 : Int32) &&& 31)) ||| ((i6 &&& (255 : Int32)) <<< ((8 : Int32) &&& 31))).toUInt32.toUInt16.toUInt32.toInt32))])) (fun _ k_ => XS.i2c X3.here hx rfl (hb hby d18_58) rfl k_) ?_
  exact own_retN X3 hx (t := .char) hret (by simp) hlk (hb hby d18_59) hF (by rw [e3]; exact ⟨by rw [show nar .char ((((i5 &&& (255 : Int32)) <<< ((0 : Int32) &&& 31)) ||| ((i6 &&& (255 : Int32)) <<< ((8 : Int32) &&& 31))).toUInt32.toUInt16.toUInt32.toInt32) = ((((i5 &&& (255 : Int32)) <<< ((0 : Int32) &&& 31)) ||| ((i6 &&& (255 : Int32)) <<< ((8 : Int32) &&& 31))).toUInt32.toUInt16.toUInt32.toInt32) from own_nar_char _], N0, rfl⟩) (by decide) (by decide)
theorem d19_10 : decode jdk_52_method_83_code 10 = .ok (.ireturn, 1) := by decide +kernel
set_option maxRecDepth 65536 in
set_option maxHeartbeats 40000000 in
theorem rm_charAt_18 (l : Launch) (Z : State) (a0 : Array Value) (g_COMPACT_STRINGS : Int32) (g_SIOOBE_FORMATTER : Value) (hW : own_W Z a0 g_COMPACT_STRINGS g_SIOOBE_FORMATTER) (a1 : Addr) (i2 : Int32) (q3 : ClassId) (l4 : List Value) (i5 : Int32) (i6 : Int32) (h0 : Heap) (O0 : Old Z Z.heap.size h0) (h_1 : ¬ (i2 < (0 : Int32))) (h_2 : (i2 < (4 : Int32))) (h_3 : Arv Z h0 a1 q3 .byte (8 : Int32) l4 (.int (0 : Int32))) (h_4 : ¬ ((i2 <<< ((1 : Int32) &&& 31)) < (0 : Int32))) (h_5 : ((i2 <<< ((1 : Int32) &&& 31)) < (8 : Int32))) (h_6 : (l4 : List Value).getD ((i2 <<< ((1 : Int32) &&& 31))).toNatClampNeg (.int (0 : Int32)) = (.int i5)) (h_7 : ¬ (((i2 <<< ((1 : Int32) &&& 31)) + (1 : Int32)) < (0 : Int32))) (h_8 : (((i2 <<< ((1 : Int32) &&& 31)) + (1 : Int32)) < (8 : Int32))) (h_9 : (l4 : List Value).getD (((i2 <<< ((1 : Int32) &&& 31)) + (1 : Int32))).toNatClampNeg (.int (0 : Int32)) = (.int i6)) :
    own_Met l Z (⟨"java/lang/StringUTF16", "charAt", "([BI)C"⟩ : MethodName) jdk_52_method_83_code 2 (some .char) ({ frames := 3, cells := 0, slots := 0, locals := 40 } : Room) #[(.ref a1), (.int i2)] h0 (fun v h L => v = some (.int ((((i5 &&& (255 : Int32)) <<< ((0 : Int32) &&& 31)) ||| ((i6 &&& (255 : Int32)) <<< ((8 : Int32) &&& 31))).toUInt32.toUInt16.toUInt32.toInt32)) ∧ Fr Z.heap.size L ∧ h = h0) := by
  have hW_ := hW
  obtain ⟨hw, S_g_COMPACT_STRINGS, P_g_COMPACT_STRINGS, R_g_SIOOBE_FORMATTER, S_g_SIOOBE_FORMATTER, S_g__assertionsDisabled, S_g_HI_BYTE_SHIFT, S_g_LO_BYTE_SHIFT⟩ := hW_
  refine own_met (plainFor_of_name pn_java_lang_StringUTF16) ?_
  intro p e s m below meth cc_ s₁ Φ hF X0 hx hby hml hZ hown hnm hret hlk e0
  have N0 := Fr.nil Z.heap.size
  refine own_k (T' := s₁) (g' := (mkF m 0 #[.val (.ref a1), .val (.int i2)] [])) (fun _ k_ => castTop (ef_19_RI m a1 i2) k_) ?_
  refine own_k (T' := s₁) (g' := (mkF m 1 #[.val (.ref a1), .val (.int i2)] [(.int i2)])) (fun _ k_ => XS.iloadN X0.here hx rfl (hb hby d19_0) rfl  k_) ?_
  refine own_k (T' := s₁) (g' := (mkF m 2 #[.val (.ref a1), .val (.int i2)] [(.ref a1), (.int i2)])) (fun _ k_ => XS.aloadN X0.here hx rfl (hb hby d19_1) rfl rfl  k_) ?_
  refine own_callS X0 hx hZ (y := (⟨"java/lang/StringUTF16", "checkIndex", "(I[B)V"⟩ : MethodName)) hown (hw _ (List.mem_of_getElem? (i := 84) rfl)) (hw _ (List.mem_of_getElem? (i := 85) rfl)) (hw _ (List.mem_of_getElem? (i := 18) rfl)) (hw _ (List.mem_of_getElem? (i := 86) rfl)) (by decide) (al := [(.int i2), (.ref a1)]) (rm_checkIndex_16 l Z a0 g_COMPACT_STRINGS g_SIOOBE_FORMATTER hW i2 a1 q3 l4 h0 O0 h_3 h_1 h_2) 0 (by decide) (by decide) e0 (by decide) (by decide) (by rw [hml]; rfl) (lenOf pd__28I_5bB_29V rfl) rfl (rest := []) (by show 2 * 0 + _ ≤ _; exact Nat.le_of_eq rfl) (hb hby d19_2) ?_
  intro v1 T1 L1 X1 hQ1
  obtain ⟨rfl, Nq1, e1⟩ := hQ1
  have N1 := Fr.app N0 Nq1
  show own_Go p e below Φ T1 (mkF m 5 #[.val (.ref a1), .val (.int i2)] [])
  refine own_k (T' := T1) (g' := (mkF m 6 #[.val (.ref a1), .val (.int i2)] [(.ref a1)])) (fun _ k_ => XS.aloadN X1.here hx rfl (hb hby d19_5) rfl rfl  k_) ?_
  refine own_k (T' := T1) (g' := (mkF m 7 #[.val (.ref a1), .val (.int i2)] [(.int i2), (.ref a1)])) (fun _ k_ => XS.iloadN X1.here hx rfl (hb hby d19_6) rfl  k_) ?_
  refine own_callS X1 hx hZ (y := (⟨"java/lang/StringUTF16", "getChar", "([BI)C"⟩ : MethodName)) hown (hw _ (List.mem_of_getElem? (i := 78) rfl)) (hw _ (List.mem_of_getElem? (i := 79) rfl)) (hw _ (List.mem_of_getElem? (i := 18) rfl)) (hw _ (List.mem_of_getElem? (i := 80) rfl)) (by decide) (al := [(.ref a1), (.int i2)]) (rm_getChar_17 l Z a0 g_COMPACT_STRINGS g_SIOOBE_FORMATTER hW a1 i2 q3 l4 i5 i6 h0 O0 h_4 h_5 h_6 h_3 h_7 h_8 h_9) 0 (by decide) (by decide) e1 (by decide) (by decide) (by rw [hml]; rfl) (lenOf pd__28_5bBI_29C rfl) rfl (rest := []) (by show 2 * 0 + _ ≤ _; exact Nat.le_of_eq rfl) (hb hby d19_7) ?_
  intro v2 T2 L2 X2 hQ2
  obtain ⟨rfl, Nq2, e2⟩ := hQ2
  have N2 := Fr.app N1 Nq2
  show own_Go p e below Φ T2 (mkF m 10 #[.val (.ref a1), .val (.int i2)] [(.int ((((i5 &&& (255 : Int32)) <<< ((0 : Int32) &&& 31)) ||| ((i6 &&& (255 : Int32)) <<< ((8 : Int32) &&& 31))).toUInt32.toUInt16.toUInt32.toInt32))])
  exact own_retN X2 hx (t := .char) hret (by simp) hlk (hb hby d19_10) hF (by rw [e2]; exact ⟨by rw [show nar .char ((((i5 &&& (255 : Int32)) <<< ((0 : Int32) &&& 31)) ||| ((i6 &&& (255 : Int32)) <<< ((8 : Int32) &&& 31))).toUInt32.toUInt16.toUInt32.toInt32) = ((((i5 &&& (255 : Int32)) <<< ((0 : Int32) &&& 31)) ||| ((i6 &&& (255 : Int32)) <<< ((8 : Int32) &&& 31))).toUInt32.toUInt16.toUInt32.toInt32) from own_nar_char _], N2, rfl⟩) (by decide) (by decide)
theorem d9_24 : decode jdk_42_method_56_code 24 = .ok (.ireturn, 1) := by decide +kernel
set_option maxRecDepth 65536 in
set_option maxHeartbeats 40000000 in
theorem rm_charAt (l : Launch) (Z : State) (a0 : Array Value) (g_COMPACT_STRINGS : Int32) (g_SIOOBE_FORMATTER : Value) (hW : own_W Z a0 g_COMPACT_STRINGS g_SIOOBE_FORMATTER) (x : Addr) (j : Int32) (cs : List Int32) (h0 : Heap) (O0 : Old Z Z.heap.size h0) (hS : own_Str Z h0 x cs) (hb_j : 0 ≤ j.toInt ∧ j.toInt < 4) (hok : ∀ c ∈ cs, own_ok c) :
    own_Met l Z (⟨"java/lang/String", "charAt", "(I)C"⟩ : MethodName) jdk_42_method_56_code 2 (some .char) ({ frames := 4, cells := 0, slots := 0, locals := 53 } : Room) #[(.ref x), (.int j)] h0 (fun v h L => v = some (.int (cs.getD j.toNatClampNeg (0 : Int32))) ∧ Fr Z.heap.size L ∧ h = h0) := by
  have hW_ := hW
  obtain ⟨hw, S_g_COMPACT_STRINGS, P_g_COMPACT_STRINGS, R_g_SIOOBE_FORMATTER, S_g_SIOOBE_FORMATTER, S_g__assertionsDisabled, S_g_HI_BYTE_SHIFT, S_g_LO_BYTE_SHIFT⟩ := hW_
  refine own_met (plainFor_of_name pn_java_lang_String) ?_
  intro p e s m below meth cc_ s₁ Φ hF X0 hx hby hml hZ hown hnm hret hlk e0
  have N0 := Fr.nil Z.heap.size
  refine own_k (T' := s₁) (g' := (mkF m 0 #[.val (.ref x), .val (.int j)] [])) (fun _ k_ => castTop (ef_9_RI m x j) k_) ?_
  obtain ⟨t, kb, hE, hV, ⟨hC, hA, hlat⟩ | ⟨hC, hA⟩⟩ := hS
  · obtain ⟨ch, hch⟩ : ∃ c, c = cs.getD j.toNatClampNeg (0 : Int32) := ⟨_, rfl⟩
    have hok_ch : own_ok ch := hch ▸ own_ok_getD hok _
    refine own_k (T' := s₁) (g' := (mkF m 1 #[.val (.ref x), .val (.int j)] [(.ref x)])) (fun _ k_ => XS.aloadN X0.here hx rfl (hb hby d9_0) rfl rfl  k_) ?_
    refine own_callV X0 hx hZ (C := "java/lang/String") (y := (⟨"java/lang/String", "isLatin1", "()Z"⟩ : MethodName)) (z := (⟨"java/lang/String", "isLatin1", "()Z"⟩ : MethodName)) hown (hw _ (List.mem_of_getElem? (i := 45) rfl)) (hw _ (List.mem_of_getElem? (i := 46) rfl)) (notFace_of_selects (args := #[]) (mvT hZ (hw _ (List.mem_of_getElem? (i := 48) rfl)))) (hw _ (List.mem_of_getElem? (i := 48) rfl)) (hw _ (List.mem_of_getElem? (i := 47) rfl)) (hw _ (List.mem_of_getElem? (i := 49) rfl)) (hw _ (List.mem_of_getElem? (i := 4) rfl)) (by decide) (al := []) hE (rm_isLatin1_10 l Z a0 g_COMPACT_STRINGS g_SIOOBE_FORMATTER hW x h0 O0 hC) 0 (by decide) (by decide) e0 (by decide) (by decide) (by rw [hml]; rfl) (lenOf pd__28_29Z rfl) rfl (rest := []) (by show 2 * 0 + _ ≤ _; exact Nat.le_of_eq rfl) (hb hby d9_1) ?_
    intro v1 T1 L1 X1 hQ1
    obtain ⟨rfl, Nq1, e1⟩ := hQ1
    have N1 := Fr.app N0 Nq1
    show own_Go p e below Φ T1 (mkF m 4 #[.val (.ref x), .val (.int j)] [(.int (1 : Int32))])
    refine own_k (T' := T1) (g' := (mkF m 7 #[.val (.ref x), .val (.int j)] [])) (fun _ k_ => XS.ifNo X1.here hx rfl (hb hby d9_4) rfl ((if0 _ _).trans (feq (by decide : ¬ ((1 : Int32) = (0 : Int32)))).1) k_) ?_
    refine own_k (T' := T1) (g' := (mkF m 8 #[.val (.ref x), .val (.int j)] [(.ref x)])) (fun _ k_ => XS.aloadN X1.here hx rfl (hb hby d9_7) rfl rfl  k_) ?_
    obtain ⟨T2, X2, e2, st2⟩ := getF X1 hx hZ hown (host := "") (Or.inl (hw _ (List.mem_of_getElem? (i := 29) rfl))) Via.refl e1 hV (g := (mkF m 8 #[.val (.ref x), .val (.int j)] [(.ref x)])) rfl rfl (hb hby d9_8)
    refine own_k (T' := T2) (g' := (mkF m 11 #[.val (.ref x), .val (.int j)] [(.ref t)])) st2 ?_
    refine own_k (T' := T2) (g' := (mkF m 12 #[.val (.ref x), .val (.int j)] [(.int j), (.ref t)])) (fun _ k_ => XS.iloadN X2.here hx rfl (hb hby d9_11) rfl  k_) ?_
    refine own_callS X2 hx hZ (y := (⟨"java/lang/StringLatin1", "charAt", "([BI)C"⟩ : MethodName)) hown (hw _ (List.mem_of_getElem? (i := 50) rfl)) (hw _ (List.mem_of_getElem? (i := 51) rfl)) (hw _ (List.mem_of_getElem? (i := 52) rfl)) (hw _ (List.mem_of_getElem? (i := 53) rfl)) (by decide) (al := [(.ref t), (.int j)]) (rm_charAt_13 l Z a0 g_COMPACT_STRINGS g_SIOOBE_FORMATTER hW t j kb (own_lat cs) (ch.toInt8.toInt32) h0 O0 hA (own_bnd hb_j).1 (own_bnd hb_j).2.1 ((own_lat_get cs _).trans (by rw [← hch]))) 0 (by decide) (by decide) e2 (by decide) (by decide) (by rw [hml]; rfl) (lenOf pd__28_5bBI_29C rfl) rfl (rest := []) (by show 2 * 0 + _ ≤ _; exact Nat.le_of_eq rfl) (hb hby d9_12) ?_
    intro v3 T3 L3 X3 hQ3
    obtain ⟨rfl, Nq3, e3⟩ := hQ3
    have N3 := Fr.app N1 Nq3
    show own_Go p e below Φ T3 (mkF m 15 #[.val (.ref x), .val (.int j)] [(.int (((ch.toInt8.toInt32) &&& (255 : Int32)).toUInt32.toUInt16.toUInt32.toInt32))])
    exact own_retN X3 hx (t := .char) hret (by simp) hlk (hb hby d9_15) hF (by rw [e3]; exact ⟨congrArg (fun z => some (Value.int z)) (((own_nar_char _).trans (own_lrec ch hok_ch.1 (hch ▸ own_nlat_getD hlat _))).trans hch), N3, rfl⟩) (by decide) (by decide)
  · obtain ⟨ch, hch⟩ : ∃ c, c = cs.getD j.toNatClampNeg (0 : Int32) := ⟨_, rfl⟩
    have hok_ch : own_ok ch := hch ▸ own_ok_getD hok _
    refine own_k (T' := s₁) (g' := (mkF m 1 #[.val (.ref x), .val (.int j)] [(.ref x)])) (fun _ k_ => XS.aloadN X0.here hx rfl (hb hby d9_0) rfl rfl  k_) ?_
    refine own_callV X0 hx hZ (C := "java/lang/String") (y := (⟨"java/lang/String", "isLatin1", "()Z"⟩ : MethodName)) (z := (⟨"java/lang/String", "isLatin1", "()Z"⟩ : MethodName)) hown (hw _ (List.mem_of_getElem? (i := 45) rfl)) (hw _ (List.mem_of_getElem? (i := 46) rfl)) (notFace_of_selects (args := #[]) (mvT hZ (hw _ (List.mem_of_getElem? (i := 48) rfl)))) (hw _ (List.mem_of_getElem? (i := 48) rfl)) (hw _ (List.mem_of_getElem? (i := 47) rfl)) (hw _ (List.mem_of_getElem? (i := 49) rfl)) (hw _ (List.mem_of_getElem? (i := 4) rfl)) (by decide) (al := []) hE (rm_isLatin1_14 l Z a0 g_COMPACT_STRINGS g_SIOOBE_FORMATTER hW x h0 O0 hC) 0 (by decide) (by decide) e0 (by decide) (by decide) (by rw [hml]; rfl) (lenOf pd__28_29Z rfl) rfl (rest := []) (by show 2 * 0 + _ ≤ _; exact Nat.le_of_eq rfl) (hb hby d9_1) ?_
    intro v4 T4 L4 X4 hQ4
    obtain ⟨rfl, Nq4, e4⟩ := hQ4
    have N4 := Fr.app N0 Nq4
    show own_Go p e below Φ T4 (mkF m 4 #[.val (.ref x), .val (.int j)] [(.int (0 : Int32))])
    refine own_k (T' := T4) (g' := (mkF m 16 #[.val (.ref x), .val (.int j)] [])) (fun _ k_ => XS.ifYes X4.here hx rfl (pc0 := 4) (pc' := 16) rfl (hb hby d9_4) rfl ((if0 _ _).trans (teq (by decide : ((0 : Int32) = (0 : Int32)))).1) (by decide) (by decide) k_) ?_
    refine own_k (T' := T4) (g' := (mkF m 17 #[.val (.ref x), .val (.int j)] [(.ref x)])) (fun _ k_ => XS.aloadN X4.here hx rfl (hb hby d9_16) rfl rfl  k_) ?_
    obtain ⟨T5, X5, e5, st5⟩ := getF X4 hx hZ hown (host := "") (Or.inl (hw _ (List.mem_of_getElem? (i := 29) rfl))) Via.refl e4 hV (g := (mkF m 17 #[.val (.ref x), .val (.int j)] [(.ref x)])) rfl rfl (hb hby d9_17)
    refine own_k (T' := T5) (g' := (mkF m 20 #[.val (.ref x), .val (.int j)] [(.ref t)])) st5 ?_
    refine own_k (T' := T5) (g' := (mkF m 21 #[.val (.ref x), .val (.int j)] [(.int j), (.ref t)])) (fun _ k_ => XS.iloadN X5.here hx rfl (hb hby d9_20) rfl  k_) ?_
    refine own_callS X5 hx hZ (y := (⟨"java/lang/StringUTF16", "charAt", "([BI)C"⟩ : MethodName)) hown (hw _ (List.mem_of_getElem? (i := 81) rfl)) (hw _ (List.mem_of_getElem? (i := 82) rfl)) (hw _ (List.mem_of_getElem? (i := 18) rfl)) (hw _ (List.mem_of_getElem? (i := 83) rfl)) (by decide) (al := [(.ref t), (.int j)]) (rm_charAt_18 l Z a0 g_COMPACT_STRINGS g_SIOOBE_FORMATTER hW t j kb (own_utf cs) ((ch >>> ((0 : Int32) &&& 31)).toInt8.toInt32) ((ch >>> ((8 : Int32) &&& 31)).toInt8.toInt32) h0 O0 (own_bnd hb_j).1 (own_bnd hb_j).2.1 hA (own_bnd hb_j).2.2.1 (own_bnd hb_j).2.2.2.1 ((congrArg (fun z => (own_utf cs).getD z (.int (0 : Int32))) (own_idx_lo ⟨hb_j.1, by omega⟩)).trans ((own_utf_lo cs _).trans (by rw [← hch]))) (own_bnd hb_j).2.2.2.2.1 (own_bnd hb_j).2.2.2.2.2.1 ((congrArg (fun z => (own_utf cs).getD z (.int (0 : Int32))) (own_idx_hi ⟨hb_j.1, by omega⟩)).trans ((own_utf_hi cs _).trans (by rw [← hch])))) 0 (by decide) (by decide) e5 (by decide) (by decide) (by rw [hml]; rfl) (lenOf pd__28_5bBI_29C rfl) rfl (rest := []) (by show 2 * 0 + _ ≤ _; exact Nat.le_of_eq rfl) (hb hby d9_21) ?_
    intro v6 T6 L6 X6 hQ6
    obtain ⟨rfl, Nq6, e6⟩ := hQ6
    have N6 := Fr.app N4 Nq6
    show own_Go p e below Φ T6 (mkF m 24 #[.val (.ref x), .val (.int j)] [(.int ((((((ch >>> ((0 : Int32) &&& 31)).toInt8.toInt32) &&& (255 : Int32)) <<< ((0 : Int32) &&& 31)) ||| ((((ch >>> ((8 : Int32) &&& 31)).toInt8.toInt32) &&& (255 : Int32)) <<< ((8 : Int32) &&& 31))).toUInt32.toUInt16.toUInt32.toInt32))])
    exact own_retN X6 hx (t := .char) hret (by simp) hlk (hb hby d9_24) hF (by rw [e6]; exact ⟨congrArg (fun z => some (Value.int z)) (((own_nar_char _).trans (own_rec ch hok_ch)).trans hch), N6, rfl⟩) (by decide) (by decide)
theorem own_yes {r : Int32} {P : Prop} (h : (r = (1 : Int32) ∧ P) ∨ (r = (0 : Int32) ∧ ¬ P)) (q : ¬ r = (0 : Int32)) : P := by
  rcases h with h | h
  · exact h.2
  · exact absurd h.1 q
theorem own_no {r : Int32} {P : Prop} (h : (r = (1 : Int32) ∧ P) ∨ (r = (0 : Int32) ∧ ¬ P)) (q : r = (0 : Int32)) : ¬ P := by
  rcases h with h | h
  · rw [h.1] at q; exact absurd q (by decide)
  · exact h.2
theorem own_is1 {r : Int32} {P : Prop} (h : (r = (1 : Int32) ∧ P) ∨ (r = (0 : Int32) ∧ ¬ P)) (q : P) : r = (1 : Int32) := by
  rcases h with h | h
  · exact h.1
  · exact absurd q h.2
theorem own_is0 {r : Int32} {P : Prop} (h : (r = (1 : Int32) ∧ P) ∨ (r = (0 : Int32) ∧ ¬ P)) (q : ¬ P) : r = (0 : Int32) := by
  rcases h with h | h
  · exact absurd h.2 q
  · exact h.1
theorem own_rem5 (x : Int32) : 0 ≤ ((x &&& (2147483647 : Int32)) % (5 : Int32)).toInt ∧ ((x &&& (2147483647 : Int32)) % (5 : Int32)).toInt < 5 := by
  have e1 : (x &&& 2147483647).toInt = x.toInt % (2 ^ 31 : Nat) := c_mask x 2147483647 31 (by decide) (by decide)
  have e2 := (c_irem (x &&& 2147483647) (5 : Int32) 5 (by decide)).1 (by omega)
  omega
theorem own_r16 (x : Int32) : own_ok (x.toUInt32.toUInt16.toUInt32.toInt32) := by
  show ¬ (x.toUInt32.toUInt16.toUInt32.toInt32) < (0 : Int32) ∧ ¬ (65535 : Int32) < (x.toUInt32.toUInt16.toUInt32.toInt32)
  have e := c_i2c x
  have z0 : (0 : Int32).toInt = 0 := by decide
  have z1 : (65535 : Int32).toInt = 65535 := by decide
  rw [Int32.lt_iff_toInt_lt, Int32.lt_iff_toInt_lt]
  omega
theorem own_nar_c {c : Int32} (r : own_ok c) : nar .char c = c := by
  have r : ¬ c < (0 : Int32) ∧ ¬ (65535 : Int32) < c := r
  rw [Int32.lt_iff_toInt_lt, Int32.lt_iff_toInt_lt] at r
  have e := c_i2c c
  have z0 : (0 : Int32).toInt = 0 := by decide
  have z1 : (65535 : Int32).toInt = 65535 := by decide
  exact Int32.toInt_inj.mp (by show (c.toUInt32.toUInt16.toUInt32.toInt32).toInt = c.toInt; omega)
def own_dg (c : Int32) : Prop := ¬ c < (48 : Int32) ∧ ¬ (57 : Int32) < c
def own_P (f t : Int32) (cs : List Int32) : Prop := ∀ j : Int32, 0 ≤ j.toInt → ¬ j < f → j < t → own_dg (cs.getD j.toNatClampNeg (0 : Int32))
def own_cov (from_ to_ i c : Int32) : Prop := ¬ i < from_ → i < to_ → own_dg c
theorem own_idx {i : Int32} (h : 0 ≤ i.toInt ∧ i.toInt < 4) : i = (0 : Int32) ∨ i = (1 : Int32) ∨ i = (2 : Int32) ∨ i = (3 : Int32) := by
  have e : i.toInt = 0 ∨ i.toInt = 1 ∨ i.toInt = 2 ∨ i.toInt = 3 := by omega
  rcases e with e | e | e | e
  · exact Or.inl (Int32.toInt_inj.mp (by rw [e]; decide))
  · exact Or.inr (Or.inl (Int32.toInt_inj.mp (by rw [e]; decide)))
  · exact Or.inr (Or.inr (Or.inl (Int32.toInt_inj.mp (by rw [e]; decide))))
  · exact Or.inr (Or.inr (Or.inr (Int32.toInt_inj.mp (by rw [e]; decide))))
theorem own_all {f t c0 c1 c2 c3 : Int32} (h : 0 ≤ f.toInt) (ht : t.toInt < 5) : own_P f t [c0, c1, c2, c3] ↔ own_cov f t (0 : Int32) c0 ∧ own_cov f t (1 : Int32) c1 ∧ own_cov f t (2 : Int32) c2 ∧ own_cov f t (3 : Int32) c3 := by
  constructor
  · intro p
    exact ⟨fun a b => p 0 (by decide) a b, fun a b => p 1 (by decide) a b, fun a b => p 2 (by decide) a b, fun a b => p 3 (by decide) a b⟩
  · rintro ⟨a0, a1, a2, a3⟩ j j0 h1 h2
    have h3 := h2
    rw [Int32.lt_iff_toInt_lt] at h3
    rcases own_idx (i := j) ⟨j0, by omega⟩ with rfl | rfl | rfl | rfl
    · exact a0 h1 h2
    · exact a1 h1 h2
    · exact a2 h1 h2
    · exact a3 h1 h2
theorem own_plus1 {i t : Int32} (hlt : i < t) : (i + (1 : Int32)).toInt = i.toInt + 1 := by
  rw [Int32.lt_iff_toInt_lt] at hlt
  have e := c_iadd i (1 : Int32)
  have z1 : (1 : Int32).toInt = 1 := by decide
  have r1 := rng32 i
  have r2 := rng32 t
  have r3 := rng32 (i + (1 : Int32))
  omega
theorem own_start {f t : Int32} (h : f < t) : t.toInt - f.toInt = ((t.toInt - f.toInt).toNat : Int) := by
  rw [Int32.lt_iff_toInt_lt] at h
  omega
theorem own_more {f i t : Int32} {D : Int32 → Prop} (hlt : i < t) (hI : ∀ j : Int32, 0 ≤ j.toInt → ¬ j < f → j < i → D j) (hd : D i) : ∀ j : Int32, 0 ≤ j.toInt → ¬ j < f → j < (i + (1 : Int32)) → D j := by
  intro j j0 h1 h2
  have e := own_plus1 hlt
  by_cases q : j < i
  · exact hI j j0 h1 q
  · rw [Int32.lt_iff_toInt_lt] at q h2
    have : j = i := Int32.toInt_inj.mp (by omega)
    rw [this]; exact hd
theorem ef_7_IIII (m : MethodId) (x0 : Int32) (x1 : Int32) (x2 : Int32) (x3 : Int32)  : entryFrame m #[(.int x0), (.int x1), (.int x2), (.int x3)] 4 = mkF m 0 #[.val (.int x0), .val (.int x1), .val (.int x2), .val (.int x3)] [] := by first | (simp [entryFrame, mkF, argsToLocals, Value.category]; done) | rfl
theorem pn_com_example_restoral_restoral_io_PlainNumbersIsDigitsPinLaw : plainName "com/example/restoral/restoral/io/PlainNumbersIsDigitsPinLaw" = true := by first | (simp [plainName, overriddenIn]; done) | decide +kernel
theorem d7_0 : decode method_3_code 0 = .ok (.iload_n 0, 1) := by decide +kernel
theorem d7_1 : decode method_3_code 1 = .ok (.iload_n 2, 1) := by decide +kernel
theorem d7_2 : decode method_3_code 2 = .ok (.if_icmp .gt 26, 3) := by decide +kernel
theorem d7_28 : decode method_3_code 28 = .ok (.iconst 1, 1) := by decide +kernel
theorem d7_29 : decode method_3_code 29 = .ok (.ireturn, 1) := by decide +kernel
theorem d7_5 : decode method_3_code 5 = .ok (.iload_n 2, 1) := by decide +kernel
theorem d7_6 : decode method_3_code 6 = .ok (.iload_n 1, 1) := by decide +kernel
theorem d7_7 : decode method_3_code 7 = .ok (.if_icmp .ge 21, 3) := by decide +kernel
theorem d7_10 : decode method_3_code 10 = .ok (.iload_n 3, 1) := by decide +kernel
theorem d7_11 : decode method_3_code 11 = .ok (.bipush 48, 2) := by decide +kernel
theorem d7_13 : decode method_3_code 13 = .ok (.if_icmp .lt 13, 3) := by decide +kernel
theorem d7_26 : decode method_3_code 26 = .ok (.iconst 0, 1) := by decide +kernel
theorem d7_27 : decode method_3_code 27 = .ok (.ireturn, 1) := by decide +kernel
theorem d7_16 : decode method_3_code 16 = .ok (.iload_n 3, 1) := by decide +kernel
theorem d7_17 : decode method_3_code 17 = .ok (.bipush 57, 2) := by decide +kernel
theorem d7_19 : decode method_3_code 19 = .ok (.if_icmp .gt 7, 3) := by decide +kernel
theorem d7_22 : decode method_3_code 22 = .ok (.iconst 1, 1) := by decide +kernel
theorem d7_23 : decode method_3_code 23 = .ok (.goto 4, 3) := by decide +kernel
set_option maxRecDepth 65536 in
set_option maxHeartbeats 40000000 in
theorem rm_covered (l : Launch) (Z : State) (a0 : Array Value) (g_COMPACT_STRINGS : Int32) (g_SIOOBE_FORMATTER : Value) (hW : own_W Z a0 g_COMPACT_STRINGS g_SIOOBE_FORMATTER) (f : Int32) (t : Int32) (i : Int32) (c : Int32) (h0 : Heap) (O0 : Old Z Z.heap.size h0)  :
    own_Met l Z (⟨"com/example/restoral/restoral/io/PlainNumbersIsDigitsPinLaw", "covered", "(IIIC)Z"⟩ : MethodName) method_3_code 4 (some .boolean) ({ frames := 0, cells := 0, slots := 0, locals := 0 } : Room) #[(.int f), (.int t), (.int i), (.int c)] h0 (fun v h L => (∃ r, v = some (.int r) ∧ ((r = (1 : Int32) ∧ own_cov f t i c) ∨ (r = (0 : Int32) ∧ ¬ own_cov f t i c))) ∧ Fr Z.heap.size L ∧ h = h0) := by
  have hW_ := hW
  obtain ⟨hw, S_g_COMPACT_STRINGS, P_g_COMPACT_STRINGS, R_g_SIOOBE_FORMATTER, S_g_SIOOBE_FORMATTER, S_g__assertionsDisabled, S_g_HI_BYTE_SHIFT, S_g_LO_BYTE_SHIFT⟩ := hW_
  refine own_met (plainFor_of_name pn_com_example_restoral_restoral_io_PlainNumbersIsDigitsPinLaw) ?_
  intro p e s m below meth cc_ s₁ Φ hF X0 hx hby hml hZ hown hnm hret hlk e0
  have N0 := Fr.nil Z.heap.size
  refine own_k (T' := s₁) (g' := (mkF m 0 #[.val (.int f), .val (.int t), .val (.int i), .val (.int c)] [])) (fun _ k_ => castTop (ef_7_IIII m f t i c) k_) ?_
  refine own_k (T' := s₁) (g' := (mkF m 1 #[.val (.int f), .val (.int t), .val (.int i), .val (.int c)] [(.int f)])) (fun _ k_ => XS.iloadN X0.here hx rfl (hb hby d7_0) rfl  k_) ?_
  refine own_k (T' := s₁) (g' := (mkF m 2 #[.val (.int f), .val (.int t), .val (.int i), .val (.int c)] [(.int i), (.int f)])) (fun _ k_ => XS.iloadN X0.here hx rfl (hb hby d7_1) rfl  k_) ?_
  by_cases hc1 : i < f
  · refine own_k (T' := s₁) (g' := (mkF m 28 #[.val (.int f), .val (.int t), .val (.int i), .val (.int c)] [])) (fun _ k_ => XS.icmpYes X0.here hx rfl (pc0 := 2) (pc' := 28) rfl (hb hby d7_2) rfl ((tlt hc1).2.2.1) (by decide) (by decide) k_) ?_
    refine own_k (T' := s₁) (g' := (mkF m 29 #[.val (.int f), .val (.int t), .val (.int i), .val (.int c)] [(.int (1 : Int32))])) (fun _ k_ => XS.iconst X0.here hx rfl (hb hby d7_28) k_) ?_
    exact own_retN X0 hx (t := .boolean) hret (by simp) hlk (hb hby d7_29) hF (by rw [e0]; exact ⟨⟨(1 : Int32), rfl, Or.inl ⟨rfl, fun a _ => absurd hc1 a⟩⟩, N0, rfl⟩) (by decide) (by decide)
  · refine own_k (T' := s₁) (g' := (mkF m 5 #[.val (.int f), .val (.int t), .val (.int i), .val (.int c)] [])) (fun _ k_ => XS.icmpNo X0.here hx rfl (hb hby d7_2) rfl ((flt hc1).2.2.1) k_) ?_
    refine own_k (T' := s₁) (g' := (mkF m 6 #[.val (.int f), .val (.int t), .val (.int i), .val (.int c)] [(.int i)])) (fun _ k_ => XS.iloadN X0.here hx rfl (hb hby d7_5) rfl  k_) ?_
    refine own_k (T' := s₁) (g' := (mkF m 7 #[.val (.int f), .val (.int t), .val (.int i), .val (.int c)] [(.int t), (.int i)])) (fun _ k_ => XS.iloadN X0.here hx rfl (hb hby d7_6) rfl  k_) ?_
    by_cases hc2 : i < t
    · refine own_k (T' := s₁) (g' := (mkF m 10 #[.val (.int f), .val (.int t), .val (.int i), .val (.int c)] [])) (fun _ k_ => XS.icmpNo X0.here hx rfl (hb hby d7_7) rfl ((tlt hc2).2.1) k_) ?_
      refine own_k (T' := s₁) (g' := (mkF m 11 #[.val (.int f), .val (.int t), .val (.int i), .val (.int c)] [(.int c)])) (fun _ k_ => XS.iloadN X0.here hx rfl (hb hby d7_10) rfl  k_) ?_
      refine own_k (T' := s₁) (g' := (mkF m 13 #[.val (.int f), .val (.int t), .val (.int i), .val (.int c)] [(.int (48 : Int32)), (.int c)])) (fun _ k_ => XS.bipush X0.here hx rfl (hb hby d7_11) k_) ?_
      by_cases hc3 : c < (48 : Int32)
      · refine own_k (T' := s₁) (g' := (mkF m 26 #[.val (.int f), .val (.int t), .val (.int i), .val (.int c)] [])) (fun _ k_ => XS.icmpYes X0.here hx rfl (pc0 := 13) (pc' := 26) rfl (hb hby d7_13) rfl ((tlt hc3).1) (by decide) (by decide) k_) ?_
        refine own_k (T' := s₁) (g' := (mkF m 27 #[.val (.int f), .val (.int t), .val (.int i), .val (.int c)] [(.int (0 : Int32))])) (fun _ k_ => XS.iconst X0.here hx rfl (hb hby d7_26) k_) ?_
        exact own_retN X0 hx (t := .boolean) hret (by simp) hlk (hb hby d7_27) hF (by rw [e0]; exact ⟨⟨(0 : Int32), rfl, Or.inr ⟨rfl, fun q => absurd hc3 (q hc1 hc2).1⟩⟩, N0, rfl⟩) (by decide) (by decide)
      · refine own_k (T' := s₁) (g' := (mkF m 16 #[.val (.int f), .val (.int t), .val (.int i), .val (.int c)] [])) (fun _ k_ => XS.icmpNo X0.here hx rfl (hb hby d7_13) rfl ((flt hc3).1) k_) ?_
        refine own_k (T' := s₁) (g' := (mkF m 17 #[.val (.int f), .val (.int t), .val (.int i), .val (.int c)] [(.int c)])) (fun _ k_ => XS.iloadN X0.here hx rfl (hb hby d7_16) rfl  k_) ?_
        refine own_k (T' := s₁) (g' := (mkF m 19 #[.val (.int f), .val (.int t), .val (.int i), .val (.int c)] [(.int (57 : Int32)), (.int c)])) (fun _ k_ => XS.bipush X0.here hx rfl (hb hby d7_17) k_) ?_
        by_cases hc4 : (57 : Int32) < c
        · refine own_k (T' := s₁) (g' := (mkF m 26 #[.val (.int f), .val (.int t), .val (.int i), .val (.int c)] [])) (fun _ k_ => XS.icmpYes X0.here hx rfl (pc0 := 19) (pc' := 26) rfl (hb hby d7_19) rfl ((tlt hc4).2.2.1) (by decide) (by decide) k_) ?_
          refine own_k (T' := s₁) (g' := (mkF m 27 #[.val (.int f), .val (.int t), .val (.int i), .val (.int c)] [(.int (0 : Int32))])) (fun _ k_ => XS.iconst X0.here hx rfl (hb hby d7_26) k_) ?_
          exact own_retN X0 hx (t := .boolean) hret (by simp) hlk (hb hby d7_27) hF (by rw [e0]; exact ⟨⟨(0 : Int32), rfl, Or.inr ⟨rfl, fun q => absurd hc4 (q hc1 hc2).2⟩⟩, N0, rfl⟩) (by decide) (by decide)
        · refine own_k (T' := s₁) (g' := (mkF m 22 #[.val (.int f), .val (.int t), .val (.int i), .val (.int c)] [])) (fun _ k_ => XS.icmpNo X0.here hx rfl (hb hby d7_19) rfl ((flt hc4).2.2.1) k_) ?_
          refine own_k (T' := s₁) (g' := (mkF m 23 #[.val (.int f), .val (.int t), .val (.int i), .val (.int c)] [(.int (1 : Int32))])) (fun _ k_ => XS.iconst X0.here hx rfl (hb hby d7_22) k_) ?_
          refine own_k (T' := s₁) (g' := (mkF m 27 #[.val (.int f), .val (.int t), .val (.int i), .val (.int c)] [(.int (1 : Int32))])) (fun _ k_ => XS.goto X0.here hx rfl (pc0 := 23) (pc' := 27) rfl (hb hby d7_23) (by decide) (by decide) k_) ?_
          exact own_retN X0 hx (t := .boolean) hret (by simp) hlk (hb hby d7_27) hF (by rw [e0]; exact ⟨⟨(1 : Int32), rfl, Or.inl ⟨rfl, fun _ _ => ⟨hc3, hc4⟩⟩⟩, N0, rfl⟩) (by decide) (by decide)
    · refine own_k (T' := s₁) (g' := (mkF m 28 #[.val (.int f), .val (.int t), .val (.int i), .val (.int c)] [])) (fun _ k_ => XS.icmpYes X0.here hx rfl (pc0 := 7) (pc' := 28) rfl (hb hby d7_7) rfl ((flt hc2).2.1) (by decide) (by decide) k_) ?_
      refine own_k (T' := s₁) (g' := (mkF m 29 #[.val (.int f), .val (.int t), .val (.int i), .val (.int c)] [(.int (1 : Int32))])) (fun _ k_ => XS.iconst X0.here hx rfl (hb hby d7_28) k_) ?_
      exact own_retN X0 hx (t := .boolean) hret (by simp) hlk (hb hby d7_29) hF (by rw [e0]; exact ⟨⟨(1 : Int32), rfl, Or.inl ⟨rfl, fun _ a => absurd a hc2⟩⟩, N0, rfl⟩) (by decide) (by decide)
theorem ef_8_RII (m : MethodId) (x0 : Addr) (x1 : Int32) (x2 : Int32)  : entryFrame m #[(.ref x0), (.int x1), (.int x2)] 4 = mkF m 0 #[.val (.ref x0), .val (.int x1), .val (.int x2), .unset] [] := by first | (simp [entryFrame, mkF, argsToLocals, Value.category]; done) | rfl
theorem pn_com_example_restoral_restoral_io_PlainNumbers : plainName "com/example/restoral/restoral/io/PlainNumbers" = true := by first | (simp [plainName, overriddenIn]; done) | decide +kernel
theorem d8_0 : decode prog_36_method_3_code 0 = .ok (.iload_n 1, 1) := by decide +kernel
theorem d8_1 : decode prog_36_method_3_code 1 = .ok (.iload_n 2, 1) := by decide +kernel
theorem d8_2 : decode prog_36_method_3_code 2 = .ok (.if_icmp .lt 5, 3) := by decide +kernel
theorem d8_7 : decode prog_36_method_3_code 7 = .ok (.iload_n 1, 1) := by decide +kernel
theorem d8_8 : decode prog_36_method_3_code 8 = .ok (.istore_n 3, 1) := by decide +kernel
theorem d8_9 : decode prog_36_method_3_code 9 = .ok (.iload_n 3, 1) := by decide +kernel
theorem d8_10 : decode prog_36_method_3_code 10 = .ok (.iload_n 2, 1) := by decide +kernel
theorem d8_11 : decode prog_36_method_3_code 11 = .ok (.if_icmp .ge 31, 3) := by decide +kernel
theorem d8_42 : decode prog_36_method_3_code 42 = .ok (.iconst 1, 1) := by decide +kernel
theorem d8_43 : decode prog_36_method_3_code 43 = .ok (.ireturn, 1) := by decide +kernel
theorem d8_14 : decode prog_36_method_3_code 14 = .ok (.aload_n 0, 1) := by decide +kernel
theorem d8_15 : decode prog_36_method_3_code 15 = .ok (.iload_n 3, 1) := by decide +kernel
theorem d8_16 : decode prog_36_method_3_code 16 = .ok (.invokevirtual 29, 3) := by decide +kernel
theorem pd__28I_29C : parseMethodDescriptor "(I)C" = some ⟨[.int], some .char⟩ := by decide +kernel
theorem d8_19 : decode prog_36_method_3_code 19 = .ok (.bipush 48, 2) := by decide +kernel
theorem d8_21 : decode prog_36_method_3_code 21 = .ok (.if_icmp .lt 13, 3) := by decide +kernel
theorem d8_34 : decode prog_36_method_3_code 34 = .ok (.iconst 0, 1) := by decide +kernel
theorem d8_35 : decode prog_36_method_3_code 35 = .ok (.ireturn, 1) := by decide +kernel
theorem d8_24 : decode prog_36_method_3_code 24 = .ok (.aload_n 0, 1) := by decide +kernel
theorem d8_25 : decode prog_36_method_3_code 25 = .ok (.iload_n 3, 1) := by decide +kernel
theorem d8_26 : decode prog_36_method_3_code 26 = .ok (.invokevirtual 29, 3) := by decide +kernel
theorem d8_29 : decode prog_36_method_3_code 29 = .ok (.bipush 57, 2) := by decide +kernel
theorem d8_31 : decode prog_36_method_3_code 31 = .ok (.if_icmp .le 5, 3) := by decide +kernel
theorem d8_36 : decode prog_36_method_3_code 36 = .ok (.iinc 3 1, 3) := by decide +kernel
theorem d8_39 : decode prog_36_method_3_code 39 = .ok (.goto (-30), 3) := by decide +kernel
theorem d8_5 : decode prog_36_method_3_code 5 = .ok (.iconst 0, 1) := by decide +kernel
theorem d8_6 : decode prog_36_method_3_code 6 = .ok (.ireturn, 1) := by decide +kernel
set_option maxRecDepth 65536 in
set_option maxHeartbeats 40000000 in
theorem rm_isDigits (l : Launch) (Z : State) (a0 : Array Value) (g_COMPACT_STRINGS : Int32) (g_SIOOBE_FORMATTER : Value) (hW : own_W Z a0 g_COMPACT_STRINGS g_SIOOBE_FORMATTER) (x : Addr) (f : Int32) (t : Int32) (cs : List Int32) (h0 : Heap) (O0 : Old Z Z.heap.size h0) (hS : own_Str Z h0 x cs) (hE : Exa Z h0 x "java/lang/String") (hft : f < t → 0 ≤ f.toInt ∧ t.toInt < 5) (hok : ∀ c ∈ cs, own_ok c) :
    own_Met l Z (⟨"com/example/restoral/restoral/io/PlainNumbers", "isDigits", "(Ljava/lang/String;II)Z"⟩ : MethodName) prog_36_method_3_code 4 (some .boolean) ({ frames := 5, cells := 0, slots := 0, locals := 66 } : Room) #[(.ref x), (.int f), (.int t)] h0 (fun v h L => (∃ r, v = some (.int r) ∧ ((r = (1 : Int32) ∧ (f < t ∧ own_P f t cs)) ∨ (r = (0 : Int32) ∧ ¬ (f < t ∧ own_P f t cs)))) ∧ Fr Z.heap.size L ∧ h = h0) := by
  have hW_ := hW
  obtain ⟨hw, S_g_COMPACT_STRINGS, P_g_COMPACT_STRINGS, R_g_SIOOBE_FORMATTER, S_g_SIOOBE_FORMATTER, S_g__assertionsDisabled, S_g_HI_BYTE_SHIFT, S_g_LO_BYTE_SHIFT⟩ := hW_
  refine own_met (plainFor_of_name pn_com_example_restoral_restoral_io_PlainNumbers) ?_
  intro p e s m below meth cc_ s₁ Φ hF X0 hx hby hml hZ hown hnm hret hlk e0
  have N0 := Fr.nil Z.heap.size
  refine own_k (T' := s₁) (g' := (mkF m 0 #[.val (.ref x), .val (.int f), .val (.int t), .unset] [])) (fun _ k_ => castTop (ef_8_RII m x f t) k_) ?_
  refine own_k (T' := s₁) (g' := (mkF m 1 #[.val (.ref x), .val (.int f), .val (.int t), .unset] [(.int f)])) (fun _ k_ => XS.iloadN X0.here hx rfl (hb hby d8_0) rfl  k_) ?_
  refine own_k (T' := s₁) (g' := (mkF m 2 #[.val (.ref x), .val (.int f), .val (.int t), .unset] [(.int t), (.int f)])) (fun _ k_ => XS.iloadN X0.here hx rfl (hb hby d8_1) rfl  k_) ?_
  by_cases hc1 : f < t
  · refine own_k (T' := s₁) (g' := (mkF m 7 #[.val (.ref x), .val (.int f), .val (.int t), .unset] [])) (fun _ k_ => XS.icmpYes X0.here hx rfl (pc0 := 2) (pc' := 7) rfl (hb hby d8_2) rfl ((tlt hc1).1) (by decide) (by decide) k_) ?_
    refine own_k (T' := s₁) (g' := (mkF m 8 #[.val (.ref x), .val (.int f), .val (.int t), .unset] [(.int f)])) (fun _ k_ => XS.iloadN X0.here hx rfl (hb hby d8_7) rfl  k_) ?_
    refine own_k (T' := s₁) (g' := (mkF m 9 #[.val (.ref x), .val (.int f), .val (.int t), .val (.int f)] [])) (fun _ k_ => XS.istoreN X0.here hx rfl (hb hby d8_8) rfl (l' := #[.val (.ref x), .val (.int f), .val (.int t), .val (.int f)]) rfl k_) ?_
    have loop : ∀ (k : Nat) (i : Int32), t.toInt - i.toInt = k → 0 ≤ i.toInt → ¬ i < f → (∀ j : Int32, 0 ≤ j.toInt → ¬ j < f → j < i → own_dg (cs.getD j.toNatClampNeg (0 : Int32))) → ∀ (T : State) (locs : List Loc), Stand p l e ({ frames := 5, cells := 0, slots := 0, locals := 66 } : Room) s m #[(.ref x), (.int f), (.int t)] below meth cc_ T locs 0 0 → Fr Z.heap.size locs → T.heap = h0 → own_Go p e below Φ T (mkF m 9 #[.val (.ref x), .val (.int f), .val (.int t), .val (.int i)] []) := by
      intro k
      induction k with
      | zero =>
        intro i h1 h0' hfi hI T locs X N eT
        have hlt : ¬ i < t := by rw [Int32.lt_iff_toInt_lt]; omega
        refine own_k (T' := T) (g' := (mkF m 10 #[.val (.ref x), .val (.int f), .val (.int t), .val (.int i)] [(.int i)])) (fun _ k_ => XS.iloadN X.here hx rfl (hb hby d8_9) rfl  k_) ?_
        refine own_k (T' := T) (g' := (mkF m 11 #[.val (.ref x), .val (.int f), .val (.int t), .val (.int i)] [(.int t), (.int i)])) (fun _ k_ => XS.iloadN X.here hx rfl (hb hby d8_10) rfl  k_) ?_
        refine own_k (T' := T) (g' := (mkF m 42 #[.val (.ref x), .val (.int f), .val (.int t), .val (.int i)] [])) (fun _ k_ => XS.icmpYes X.here hx rfl (pc0 := 11) (pc' := 42) rfl (hb hby d8_11) rfl ((flt hlt).2.1) (by decide) (by decide) k_) ?_
        refine own_k (T' := T) (g' := (mkF m 43 #[.val (.ref x), .val (.int f), .val (.int t), .val (.int i)] [(.int (1 : Int32))])) (fun _ k_ => XS.iconst X.here hx rfl (hb hby d8_42) k_) ?_
        exact own_retN X hx (t := .boolean) hret (by simp) hlk (hb hby d8_43) hF (by rw [eT]; exact ⟨⟨(1 : Int32), rfl, Or.inl ⟨rfl, hc1, fun j j0 a b => hI j j0 a (by rw [Int32.lt_iff_toInt_lt] at b ⊢; omega)⟩⟩, N, rfl⟩) (by decide) (by decide)
      | succ k ih =>
        intro i h1 h0' hfi hI T locs X N eT
        have hlt : i < t := by rw [Int32.lt_iff_toInt_lt]; omega
        have hlt' := hlt
        rw [Int32.lt_iff_toInt_lt] at hlt'
        have ht5 := (hft hc1).2
        have hix : 0 ≤ i.toInt ∧ i.toInt < 4 := ⟨h0', by omega⟩
        refine own_k (T' := T) (g' := (mkF m 10 #[.val (.ref x), .val (.int f), .val (.int t), .val (.int i)] [(.int i)])) (fun _ k_ => XS.iloadN X.here hx rfl (hb hby d8_9) rfl  k_) ?_
        refine own_k (T' := T) (g' := (mkF m 11 #[.val (.ref x), .val (.int f), .val (.int t), .val (.int i)] [(.int t), (.int i)])) (fun _ k_ => XS.iloadN X.here hx rfl (hb hby d8_10) rfl  k_) ?_
        refine own_k (T' := T) (g' := (mkF m 14 #[.val (.ref x), .val (.int f), .val (.int t), .val (.int i)] [])) (fun _ k_ => XS.icmpNo X.here hx rfl (hb hby d8_11) rfl ((tlt hlt).2.1) k_) ?_
        refine own_k (T' := T) (g' := (mkF m 15 #[.val (.ref x), .val (.int f), .val (.int t), .val (.int i)] [(.ref x)])) (fun _ k_ => XS.aloadN X.here hx rfl (hb hby d8_14) rfl rfl  k_) ?_
        refine own_k (T' := T) (g' := (mkF m 16 #[.val (.ref x), .val (.int f), .val (.int t), .val (.int i)] [(.int i), (.ref x)])) (fun _ k_ => XS.iloadN X.here hx rfl (hb hby d8_15) rfl  k_) ?_
        refine own_callV X hx hZ (C := "java/lang/String") (y := (⟨"java/lang/String", "charAt", "(I)C"⟩ : MethodName)) (z := (⟨"java/lang/String", "charAt", "(I)C"⟩ : MethodName)) hown (hw _ (List.mem_of_getElem? (i := 40) rfl)) (hw _ (List.mem_of_getElem? (i := 41) rfl)) (notFace_of_selects (args := #[]) (mvT hZ (hw _ (List.mem_of_getElem? (i := 43) rfl)))) (hw _ (List.mem_of_getElem? (i := 43) rfl)) (hw _ (List.mem_of_getElem? (i := 42) rfl)) (hw _ (List.mem_of_getElem? (i := 44) rfl)) (hw _ (List.mem_of_getElem? (i := 4) rfl)) (by decide) (al := [(.int i)]) hE (rm_charAt l Z a0 g_COMPACT_STRINGS g_SIOOBE_FORMATTER hW x i cs h0 O0 hS hix hok) 0 (by decide) (by decide) eT (by decide) (by decide) (by rw [hml]; rfl) (lenOf pd__28I_29C rfl) rfl (rest := []) (by show 2 * 0 + _ ≤ _; exact Nat.le_of_eq rfl) (hb hby d8_16) ?_
        intro v2 T2 L2 X2 hQ2
        obtain ⟨rfl, Nq2, e2⟩ := hQ2
        have N2 := Fr.app N Nq2
        show own_Go p e below Φ T2 (mkF m 19 #[.val (.ref x), .val (.int f), .val (.int t), .val (.int i)] [(.int (cs.getD i.toNatClampNeg (0 : Int32)))])
        refine own_k (T' := T2) (g' := (mkF m 21 #[.val (.ref x), .val (.int f), .val (.int t), .val (.int i)] [(.int (48 : Int32)), (.int (cs.getD i.toNatClampNeg (0 : Int32)))])) (fun _ k_ => XS.bipush X2.here hx rfl (hb hby d8_19) k_) ?_
        by_cases hc3 : (cs.getD i.toNatClampNeg (0 : Int32)) < (48 : Int32)
        · refine own_k (T' := T2) (g' := (mkF m 34 #[.val (.ref x), .val (.int f), .val (.int t), .val (.int i)] [])) (fun _ k_ => XS.icmpYes X2.here hx rfl (pc0 := 21) (pc' := 34) rfl (hb hby d8_21) rfl ((tlt hc3).1) (by decide) (by decide) k_) ?_
          refine own_k (T' := T2) (g' := (mkF m 35 #[.val (.ref x), .val (.int f), .val (.int t), .val (.int i)] [(.int (0 : Int32))])) (fun _ k_ => XS.iconst X2.here hx rfl (hb hby d8_34) k_) ?_
          exact own_retN X2 hx (t := .boolean) hret (by simp) hlk (hb hby d8_35) hF (by rw [e2]; exact ⟨⟨(0 : Int32), rfl, Or.inr ⟨rfl, fun q => absurd hc3 (q.2 i h0' hfi hlt).1⟩⟩, N2, rfl⟩) (by decide) (by decide)
        · refine own_k (T' := T2) (g' := (mkF m 24 #[.val (.ref x), .val (.int f), .val (.int t), .val (.int i)] [])) (fun _ k_ => XS.icmpNo X2.here hx rfl (hb hby d8_21) rfl ((flt hc3).1) k_) ?_
          refine own_k (T' := T2) (g' := (mkF m 25 #[.val (.ref x), .val (.int f), .val (.int t), .val (.int i)] [(.ref x)])) (fun _ k_ => XS.aloadN X2.here hx rfl (hb hby d8_24) rfl rfl  k_) ?_
          refine own_k (T' := T2) (g' := (mkF m 26 #[.val (.ref x), .val (.int f), .val (.int t), .val (.int i)] [(.int i), (.ref x)])) (fun _ k_ => XS.iloadN X2.here hx rfl (hb hby d8_25) rfl  k_) ?_
          refine own_callV X2 hx hZ (C := "java/lang/String") (y := (⟨"java/lang/String", "charAt", "(I)C"⟩ : MethodName)) (z := (⟨"java/lang/String", "charAt", "(I)C"⟩ : MethodName)) hown (hw _ (List.mem_of_getElem? (i := 40) rfl)) (hw _ (List.mem_of_getElem? (i := 41) rfl)) (notFace_of_selects (args := #[]) (mvT hZ (hw _ (List.mem_of_getElem? (i := 43) rfl)))) (hw _ (List.mem_of_getElem? (i := 43) rfl)) (hw _ (List.mem_of_getElem? (i := 42) rfl)) (hw _ (List.mem_of_getElem? (i := 44) rfl)) (hw _ (List.mem_of_getElem? (i := 4) rfl)) (by decide) (al := [(.int i)]) hE (rm_charAt l Z a0 g_COMPACT_STRINGS g_SIOOBE_FORMATTER hW x i cs h0 O0 hS hix hok) 0 (by decide) (by decide) e2 (by decide) (by decide) (by rw [hml]; rfl) (lenOf pd__28I_29C rfl) rfl (rest := []) (by show 2 * 0 + _ ≤ _; exact Nat.le_of_eq rfl) (hb hby d8_26) ?_
          intro v4 T4 L4 X4 hQ4
          obtain ⟨rfl, Nq4, e4⟩ := hQ4
          have N4 := Fr.app N2 Nq4
          show own_Go p e below Φ T4 (mkF m 29 #[.val (.ref x), .val (.int f), .val (.int t), .val (.int i)] [(.int (cs.getD i.toNatClampNeg (0 : Int32)))])
          refine own_k (T' := T4) (g' := (mkF m 31 #[.val (.ref x), .val (.int f), .val (.int t), .val (.int i)] [(.int (57 : Int32)), (.int (cs.getD i.toNatClampNeg (0 : Int32)))])) (fun _ k_ => XS.bipush X4.here hx rfl (hb hby d8_29) k_) ?_
          by_cases hc5 : (57 : Int32) < (cs.getD i.toNatClampNeg (0 : Int32))
          · refine own_k (T' := T4) (g' := (mkF m 34 #[.val (.ref x), .val (.int f), .val (.int t), .val (.int i)] [])) (fun _ k_ => XS.icmpNo X4.here hx rfl (hb hby d8_31) rfl ((tlt hc5).2.2.2) k_) ?_
            refine own_k (T' := T4) (g' := (mkF m 35 #[.val (.ref x), .val (.int f), .val (.int t), .val (.int i)] [(.int (0 : Int32))])) (fun _ k_ => XS.iconst X4.here hx rfl (hb hby d8_34) k_) ?_
            exact own_retN X4 hx (t := .boolean) hret (by simp) hlk (hb hby d8_35) hF (by rw [e4]; exact ⟨⟨(0 : Int32), rfl, Or.inr ⟨rfl, fun q => absurd hc5 (q.2 i h0' hfi hlt).2⟩⟩, N4, rfl⟩) (by decide) (by decide)
          · refine own_k (T' := T4) (g' := (mkF m 36 #[.val (.ref x), .val (.int f), .val (.int t), .val (.int i)] [])) (fun _ k_ => XS.icmpYes X4.here hx rfl (pc0 := 31) (pc' := 36) rfl (hb hby d8_31) rfl ((flt hc5).2.2.2) (by decide) (by decide) k_) ?_
            refine own_k (T' := T4) (g' := (mkF m 39 #[.val (.ref x), .val (.int f), .val (.int t), .val (.int (i + (1 : Int32)))] [])) (fun _ k_ => XS.iinc X4.here hx rfl (hb hby d8_36) rfl (l' := #[.val (.ref x), .val (.int f), .val (.int t), .val (.int (i + (1 : Int32)))]) rfl k_) ?_
            refine own_k (T' := T4) (g' := (mkF m 9 #[.val (.ref x), .val (.int f), .val (.int t), .val (.int (i + (1 : Int32)))] [])) (fun _ k_ => XS.goto X4.here hx rfl (pc0 := 39) (pc' := 9) rfl (hb hby d8_39) (by decide) (by decide) k_) ?_
            exact ih (i + (1 : Int32)) (by rw [own_plus1 hlt]; omega) (by rw [own_plus1 hlt]; omega) (by rw [Int32.lt_iff_toInt_lt] at hfi ⊢; rw [own_plus1 hlt]; omega) (own_more (D := fun j => own_dg (cs.getD j.toNatClampNeg (0 : Int32))) hlt hI ⟨hc3, hc5⟩) T4 _ X4 N4 e4
    exact loop (t.toInt - f.toInt).toNat f (own_start hc1) (hft hc1).1 (by rw [Int32.lt_iff_toInt_lt]; omega) (fun j _ a b => absurd b a) s₁ _ X0 N0 e0
  · refine own_k (T' := s₁) (g' := (mkF m 5 #[.val (.ref x), .val (.int f), .val (.int t), .unset] [])) (fun _ k_ => XS.icmpNo X0.here hx rfl (hb hby d8_2) rfl ((flt hc1).1) k_) ?_
    refine own_k (T' := s₁) (g' := (mkF m 6 #[.val (.ref x), .val (.int f), .val (.int t), .unset] [(.int (0 : Int32))])) (fun _ k_ => XS.iconst X0.here hx rfl (hb hby d8_5) k_) ?_
    exact own_retN X0 hx (t := .boolean) hret (by simp) hlk (hb hby d8_6) hF (by rw [e0]; exact ⟨⟨(0 : Int32), rfl, Or.inr ⟨rfl, fun q => hc1 q.1⟩⟩, N0, rfl⟩) (by decide) (by decide)
theorem ef_0_IIIIII (m : MethodId) (x0 : Int32) (x1 : Int32) (x2 : Int32) (x3 : Int32) (x4 : Int32) (x5 : Int32)  : entryFrame m #[(.int x0), (.int x1), (.int x2), (.int x3), (.int x4), (.int x5)] maxLocals = mkF m 0 #[.val (.int x0), .val (.int x1), .val (.int x2), .val (.int x3), .val (.int x4), .val (.int x5), .unset, .unset, .unset, .unset, .unset] [] := by first | (simp [entryFrame, mkF, argsToLocals, Value.category, maxLocals]; done) | rfl
theorem pd__28_5bC_29V : parseMethodDescriptor "([C)V" = some ⟨[(.array .char)], none⟩ := by decide +kernel
theorem pd__28IIIC_29Z : parseMethodDescriptor "(IIIC)Z" = some ⟨[.int, .int, .int, .char], some .boolean⟩ := by decide +kernel
theorem pd__28Ljava_2flang_2fString_3bII_29Z : parseMethodDescriptor "(Ljava/lang/String;II)Z" = some ⟨[(.object "java/lang/String"), .int, .int], some .boolean⟩ := by decide +kernel
set_option maxRecDepth 65536 in
set_option maxHeartbeats 40000000 in
theorem own_law (l : Launch) (Z : State) (a0 : Array Value) (g_COMPACT_STRINGS : Int32) (g_SIOOBE_FORMATTER : Value) (hW : own_W Z a0 g_COMPACT_STRINGS g_SIOOBE_FORMATTER) (p0 : Int32) (p1 : Int32) (p2 : Int32) (p3 : Int32) (p4 : Int32) (p5 : Int32) (h0 : Heap) (O0 : Old Z Z.heap.size h0)  :
    own_Met l Z x code maxLocals ret room_1 #[(.int p0), (.int p1), (.int p2), (.int p3), (.int p4), (.int p5)] h0 (fun v h L => v = some (.int (1 : Int32)) ∧ Fr Z.heap.size L ∧ True) := by
  have hW_ := hW
  obtain ⟨hw, S_g_COMPACT_STRINGS, P_g_COMPACT_STRINGS, R_g_SIOOBE_FORMATTER, S_g_SIOOBE_FORMATTER, S_g__assertionsDisabled, S_g_HI_BYTE_SHIFT, S_g_LO_BYTE_SHIFT⟩ := hW_
  refine own_met (plainFor_of_name pn_com_example_restoral_restoral_io_PlainNumbersIsDigitsPinLaw) ?_
  intro p e s m below meth cc_ s₁ Φ hF X0 hx hby hml hZ hown hnm hret hlk e0
  have N0 := Fr.nil Z.heap.size
  refine own_k (T' := s₁) (g' := (mkF m 0 #[.val (.int p0), .val (.int p1), .val (.int p2), .val (.int p3), .val (.int p4), .val (.int p5), .unset, .unset, .unset, .unset, .unset] [])) (fun _ k_ => castTop (ef_0_IIIIII m p0 p1 p2 p3 p4 p5) k_) ?_
  refine own_k (T' := s₁) (g' := (mkF m 1 #[.val (.int p0), .val (.int p1), .val (.int p2), .val (.int p3), .val (.int p4), .val (.int p5), .unset, .unset, .unset, .unset, .unset] [(.int (4 : Int32))])) (fun _ k_ => XS.iconst X0.here hx rfl (hb hby at_0) k_) ?_
  obtain ⟨T1, h1, k1, X1, e1, E1, V1, A1, st1⟩ := own_newarr (pc := 1) (Ls := #[.val (.int p0), .val (.int p1), .val (.int p2), .val (.int p3), .val (.int p4), .val (.int p5), .unset, .unset, .unset, .unset, .unset]) (rest := []) X0 hx hZ (hw _ (List.mem_of_getElem? (i := 0) rfl)) e0 (hb hby at_1) (n := (4 : Int32)) (by decide) (cap := 4) (by decide) (by decide) (by decide) (by decide) (ad := "[C") (by decide)
  obtain ⟨b1, g1⟩ : ∃ z, z = h0.size := ⟨_, rfl⟩
  rw [← g1] at V1 A1 st1
  have O1' := O0.ext E1
  have V1 : Arv Z h1 b1 k1 .char (4 : Int32) [(.int (0 : Int32)), (.int (0 : Int32)), (.int (0 : Int32)), (.int (0 : Int32))] (.int (0 : Int32)) := V1
  refine own_k (T' := T1) (g' := (mkF m 3 #[.val (.int p0), .val (.int p1), .val (.int p2), .val (.int p3), .val (.int p4), .val (.int p5), .unset, .unset, .unset, .unset, .unset] [(.ref b1)])) st1 ?_
  refine own_k (T' := T1) (g' := (mkF m 5 #[.val (.int p0), .val (.int p1), .val (.int p2), .val (.int p3), .val (.int p4), .val (.int p5), .val (.ref b1), .unset, .unset, .unset, .unset] [])) (fun _ k_ => XS.astore X1.here hx rfl (hb hby at_3) rfl rfl (l' := #[.val (.int p0), .val (.int p1), .val (.int p2), .val (.int p3), .val (.int p4), .val (.int p5), .val (.ref b1), .unset, .unset, .unset, .unset]) rfl k_) ?_
  refine own_k (T' := T1) (g' := (mkF m 7 #[.val (.int p0), .val (.int p1), .val (.int p2), .val (.int p3), .val (.int p4), .val (.int p5), .val (.ref b1), .unset, .unset, .unset, .unset] [(.ref b1)])) (fun _ k_ => XS.aload X1.here hx rfl (hb hby at_5) rfl rfl  k_) ?_
  refine own_k (T' := T1) (g' := (mkF m 8 #[.val (.int p0), .val (.int p1), .val (.int p2), .val (.int p3), .val (.int p4), .val (.int p5), .val (.ref b1), .unset, .unset, .unset, .unset] [(.int (0 : Int32)), (.ref b1)])) (fun _ k_ => XS.iconst X1.here hx rfl (hb hby at_7) k_) ?_
  refine own_k (T' := T1) (g' := (mkF m 9 #[.val (.int p0), .val (.int p1), .val (.int p2), .val (.int p3), .val (.int p4), .val (.int p5), .val (.ref b1), .unset, .unset, .unset, .unset] [(.int p0), (.int (0 : Int32)), (.ref b1)])) (fun _ k_ => XS.iloadN X1.here hx rfl (hb hby at_8) rfl  k_) ?_
  refine own_k (T' := T1) (g' := (mkF m 11 #[.val (.int p0), .val (.int p1), .val (.int p2), .val (.int p3), .val (.int p4), .val (.int p5), .val (.ref b1), .unset, .unset, .unset, .unset] [(.int (65535 : Int32)), (.int p0), (.int (0 : Int32)), (.ref b1)])) (X1.ldcInt hx hown (mvT hZ (hw _ (List.mem_of_getElem? (i := 1) rfl))) (g := (mkF m 9 #[.val (.int p0), .val (.int p1), .val (.int p2), .val (.int p3), .val (.int p4), .val (.int p5), .val (.ref b1), .unset, .unset, .unset, .unset] [(.int p0), (.int (0 : Int32)), (.ref b1)])) rfl (hb hby at_9)) ?_
  refine own_k (T' := T1) (g' := (mkF m 12 #[.val (.int p0), .val (.int p1), .val (.int p2), .val (.int p3), .val (.int p4), .val (.int p5), .val (.ref b1), .unset, .unset, .unset, .unset] [(.int (p0 &&& (65535 : Int32))), (.int (0 : Int32)), (.ref b1)])) (fun _ k_ => XS.iand X1.here hx rfl (hb hby at_11) rfl k_) ?_
  refine own_k (T' := T1) (g' := (mkF m 13 #[.val (.int p0), .val (.int p1), .val (.int p2), .val (.int p3), .val (.int p4), .val (.int p5), .val (.ref b1), .unset, .unset, .unset, .unset] [(.int ((p0 &&& (65535 : Int32)).toUInt32.toUInt16.toUInt32.toInt32)), (.int (0 : Int32)), (.ref b1)])) (fun _ k_ => XS.i2c X1.here hx rfl (hb hby at_12) rfl k_) ?_
  obtain ⟨c0, hc0⟩ : ∃ c, c = ((p0 &&& (65535 : Int32)).toUInt32.toUInt16.toUInt32.toInt32) := ⟨_, rfl⟩
  rw [← hc0]
  have r0 : own_ok c0 := hc0 ▸ own_r16 _
  obtain ⟨T2, h2, X2, e2, W2, V2, st2⟩ := own_castore (pc := 13) (Ls := #[.val (.int p0), .val (.int p1), .val (.int p2), .val (.int p3), .val (.int p4), .val (.int p5), .val (.ref b1), .unset, .unset, .unset, .unset]) (rest := []) X1 hx hZ e1 V1 (j := (0 : Int32)) (x := c0) ⟨by decide, by decide⟩ 0 rfl (Nat.le_of_ble_eq_true rfl) (hb hby at_13)
  have V2 : Arv Z h2 b1 k1 .char (4 : Int32) [(.int (nar .char c0)), (.int (0 : Int32)), (.int (0 : Int32)), (.int (0 : Int32))] (.int (0 : Int32)) := V2
  rw [show nar .char c0 = c0 from own_nar_c r0] at V2
  have O2' := O1'.wr W2 (Nat.le_trans O0.2.1 (Nat.le_of_eq g1.symm))
  have N2 := Fr.snoc X2 N0 (Nat.le_trans O0.2.1 (Nat.le_of_eq g1.symm))
  refine own_k (T' := T2) (g' := (mkF m 14 #[.val (.int p0), .val (.int p1), .val (.int p2), .val (.int p3), .val (.int p4), .val (.int p5), .val (.ref b1), .unset, .unset, .unset, .unset] [])) st2 ?_
  refine own_k (T' := T2) (g' := (mkF m 16 #[.val (.int p0), .val (.int p1), .val (.int p2), .val (.int p3), .val (.int p4), .val (.int p5), .val (.ref b1), .unset, .unset, .unset, .unset] [(.ref b1)])) (fun _ k_ => XS.aload X2.here hx rfl (hb hby at_14) rfl rfl  k_) ?_
  refine own_k (T' := T2) (g' := (mkF m 17 #[.val (.int p0), .val (.int p1), .val (.int p2), .val (.int p3), .val (.int p4), .val (.int p5), .val (.ref b1), .unset, .unset, .unset, .unset] [(.int (1 : Int32)), (.ref b1)])) (fun _ k_ => XS.iconst X2.here hx rfl (hb hby at_16) k_) ?_
  refine own_k (T' := T2) (g' := (mkF m 18 #[.val (.int p0), .val (.int p1), .val (.int p2), .val (.int p3), .val (.int p4), .val (.int p5), .val (.ref b1), .unset, .unset, .unset, .unset] [(.int p1), (.int (1 : Int32)), (.ref b1)])) (fun _ k_ => XS.iloadN X2.here hx rfl (hb hby at_17) rfl  k_) ?_
  refine own_k (T' := T2) (g' := (mkF m 20 #[.val (.int p0), .val (.int p1), .val (.int p2), .val (.int p3), .val (.int p4), .val (.int p5), .val (.ref b1), .unset, .unset, .unset, .unset] [(.int (65535 : Int32)), (.int p1), (.int (1 : Int32)), (.ref b1)])) (X2.ldcInt hx hown (mvT hZ (hw _ (List.mem_of_getElem? (i := 1) rfl))) (g := (mkF m 18 #[.val (.int p0), .val (.int p1), .val (.int p2), .val (.int p3), .val (.int p4), .val (.int p5), .val (.ref b1), .unset, .unset, .unset, .unset] [(.int p1), (.int (1 : Int32)), (.ref b1)])) rfl (hb hby at_18)) ?_
  refine own_k (T' := T2) (g' := (mkF m 21 #[.val (.int p0), .val (.int p1), .val (.int p2), .val (.int p3), .val (.int p4), .val (.int p5), .val (.ref b1), .unset, .unset, .unset, .unset] [(.int (p1 &&& (65535 : Int32))), (.int (1 : Int32)), (.ref b1)])) (fun _ k_ => XS.iand X2.here hx rfl (hb hby at_20) rfl k_) ?_
  refine own_k (T' := T2) (g' := (mkF m 22 #[.val (.int p0), .val (.int p1), .val (.int p2), .val (.int p3), .val (.int p4), .val (.int p5), .val (.ref b1), .unset, .unset, .unset, .unset] [(.int ((p1 &&& (65535 : Int32)).toUInt32.toUInt16.toUInt32.toInt32)), (.int (1 : Int32)), (.ref b1)])) (fun _ k_ => XS.i2c X2.here hx rfl (hb hby at_21) rfl k_) ?_
  obtain ⟨c1, hc1⟩ : ∃ c, c = ((p1 &&& (65535 : Int32)).toUInt32.toUInt16.toUInt32.toInt32) := ⟨_, rfl⟩
  rw [← hc1]
  have r1 : own_ok c1 := hc1 ▸ own_r16 _
  obtain ⟨T3, h3, X3, e3, W3, V3, st3⟩ := own_castore (pc := 22) (Ls := #[.val (.int p0), .val (.int p1), .val (.int p2), .val (.int p3), .val (.int p4), .val (.int p5), .val (.ref b1), .unset, .unset, .unset, .unset]) (rest := []) X2 hx hZ e2 V2 (j := (1 : Int32)) (x := c1) ⟨by decide, by decide⟩ 1 rfl (Nat.le_of_ble_eq_true rfl) (hb hby at_22)
  have V3 : Arv Z h3 b1 k1 .char (4 : Int32) [(.int c0), (.int (nar .char c1)), (.int (0 : Int32)), (.int (0 : Int32))] (.int (0 : Int32)) := V3
  rw [show nar .char c1 = c1 from own_nar_c r1] at V3
  have O3' := O2'.wr W3 (Nat.le_trans O0.2.1 (Nat.le_of_eq g1.symm))
  have N3 := Fr.snoc X3 N2 (Nat.le_trans O0.2.1 (Nat.le_of_eq g1.symm))
  refine own_k (T' := T3) (g' := (mkF m 23 #[.val (.int p0), .val (.int p1), .val (.int p2), .val (.int p3), .val (.int p4), .val (.int p5), .val (.ref b1), .unset, .unset, .unset, .unset] [])) st3 ?_
  refine own_k (T' := T3) (g' := (mkF m 25 #[.val (.int p0), .val (.int p1), .val (.int p2), .val (.int p3), .val (.int p4), .val (.int p5), .val (.ref b1), .unset, .unset, .unset, .unset] [(.ref b1)])) (fun _ k_ => XS.aload X3.here hx rfl (hb hby at_23) rfl rfl  k_) ?_
  refine own_k (T' := T3) (g' := (mkF m 26 #[.val (.int p0), .val (.int p1), .val (.int p2), .val (.int p3), .val (.int p4), .val (.int p5), .val (.ref b1), .unset, .unset, .unset, .unset] [(.int (2 : Int32)), (.ref b1)])) (fun _ k_ => XS.iconst X3.here hx rfl (hb hby at_25) k_) ?_
  refine own_k (T' := T3) (g' := (mkF m 27 #[.val (.int p0), .val (.int p1), .val (.int p2), .val (.int p3), .val (.int p4), .val (.int p5), .val (.ref b1), .unset, .unset, .unset, .unset] [(.int p2), (.int (2 : Int32)), (.ref b1)])) (fun _ k_ => XS.iloadN X3.here hx rfl (hb hby at_26) rfl  k_) ?_
  refine own_k (T' := T3) (g' := (mkF m 29 #[.val (.int p0), .val (.int p1), .val (.int p2), .val (.int p3), .val (.int p4), .val (.int p5), .val (.ref b1), .unset, .unset, .unset, .unset] [(.int (65535 : Int32)), (.int p2), (.int (2 : Int32)), (.ref b1)])) (X3.ldcInt hx hown (mvT hZ (hw _ (List.mem_of_getElem? (i := 1) rfl))) (g := (mkF m 27 #[.val (.int p0), .val (.int p1), .val (.int p2), .val (.int p3), .val (.int p4), .val (.int p5), .val (.ref b1), .unset, .unset, .unset, .unset] [(.int p2), (.int (2 : Int32)), (.ref b1)])) rfl (hb hby at_27)) ?_
  refine own_k (T' := T3) (g' := (mkF m 30 #[.val (.int p0), .val (.int p1), .val (.int p2), .val (.int p3), .val (.int p4), .val (.int p5), .val (.ref b1), .unset, .unset, .unset, .unset] [(.int (p2 &&& (65535 : Int32))), (.int (2 : Int32)), (.ref b1)])) (fun _ k_ => XS.iand X3.here hx rfl (hb hby at_29) rfl k_) ?_
  refine own_k (T' := T3) (g' := (mkF m 31 #[.val (.int p0), .val (.int p1), .val (.int p2), .val (.int p3), .val (.int p4), .val (.int p5), .val (.ref b1), .unset, .unset, .unset, .unset] [(.int ((p2 &&& (65535 : Int32)).toUInt32.toUInt16.toUInt32.toInt32)), (.int (2 : Int32)), (.ref b1)])) (fun _ k_ => XS.i2c X3.here hx rfl (hb hby at_30) rfl k_) ?_
  obtain ⟨c2, hc2⟩ : ∃ c, c = ((p2 &&& (65535 : Int32)).toUInt32.toUInt16.toUInt32.toInt32) := ⟨_, rfl⟩
  rw [← hc2]
  have r2 : own_ok c2 := hc2 ▸ own_r16 _
  obtain ⟨T4, h4, X4, e4, W4, V4, st4⟩ := own_castore (pc := 31) (Ls := #[.val (.int p0), .val (.int p1), .val (.int p2), .val (.int p3), .val (.int p4), .val (.int p5), .val (.ref b1), .unset, .unset, .unset, .unset]) (rest := []) X3 hx hZ e3 V3 (j := (2 : Int32)) (x := c2) ⟨by decide, by decide⟩ 2 rfl (Nat.le_of_ble_eq_true rfl) (hb hby at_31)
  have V4 : Arv Z h4 b1 k1 .char (4 : Int32) [(.int c0), (.int c1), (.int (nar .char c2)), (.int (0 : Int32))] (.int (0 : Int32)) := V4
  rw [show nar .char c2 = c2 from own_nar_c r2] at V4
  have O4' := O3'.wr W4 (Nat.le_trans O0.2.1 (Nat.le_of_eq g1.symm))
  have N4 := Fr.snoc X4 N3 (Nat.le_trans O0.2.1 (Nat.le_of_eq g1.symm))
  refine own_k (T' := T4) (g' := (mkF m 32 #[.val (.int p0), .val (.int p1), .val (.int p2), .val (.int p3), .val (.int p4), .val (.int p5), .val (.ref b1), .unset, .unset, .unset, .unset] [])) st4 ?_
  refine own_k (T' := T4) (g' := (mkF m 34 #[.val (.int p0), .val (.int p1), .val (.int p2), .val (.int p3), .val (.int p4), .val (.int p5), .val (.ref b1), .unset, .unset, .unset, .unset] [(.ref b1)])) (fun _ k_ => XS.aload X4.here hx rfl (hb hby at_32) rfl rfl  k_) ?_
  refine own_k (T' := T4) (g' := (mkF m 35 #[.val (.int p0), .val (.int p1), .val (.int p2), .val (.int p3), .val (.int p4), .val (.int p5), .val (.ref b1), .unset, .unset, .unset, .unset] [(.int (3 : Int32)), (.ref b1)])) (fun _ k_ => XS.iconst X4.here hx rfl (hb hby at_34) k_) ?_
  refine own_k (T' := T4) (g' := (mkF m 36 #[.val (.int p0), .val (.int p1), .val (.int p2), .val (.int p3), .val (.int p4), .val (.int p5), .val (.ref b1), .unset, .unset, .unset, .unset] [(.int p3), (.int (3 : Int32)), (.ref b1)])) (fun _ k_ => XS.iloadN X4.here hx rfl (hb hby at_35) rfl  k_) ?_
  refine own_k (T' := T4) (g' := (mkF m 38 #[.val (.int p0), .val (.int p1), .val (.int p2), .val (.int p3), .val (.int p4), .val (.int p5), .val (.ref b1), .unset, .unset, .unset, .unset] [(.int (65535 : Int32)), (.int p3), (.int (3 : Int32)), (.ref b1)])) (X4.ldcInt hx hown (mvT hZ (hw _ (List.mem_of_getElem? (i := 1) rfl))) (g := (mkF m 36 #[.val (.int p0), .val (.int p1), .val (.int p2), .val (.int p3), .val (.int p4), .val (.int p5), .val (.ref b1), .unset, .unset, .unset, .unset] [(.int p3), (.int (3 : Int32)), (.ref b1)])) rfl (hb hby at_36)) ?_
  refine own_k (T' := T4) (g' := (mkF m 39 #[.val (.int p0), .val (.int p1), .val (.int p2), .val (.int p3), .val (.int p4), .val (.int p5), .val (.ref b1), .unset, .unset, .unset, .unset] [(.int (p3 &&& (65535 : Int32))), (.int (3 : Int32)), (.ref b1)])) (fun _ k_ => XS.iand X4.here hx rfl (hb hby at_38) rfl k_) ?_
  refine own_k (T' := T4) (g' := (mkF m 40 #[.val (.int p0), .val (.int p1), .val (.int p2), .val (.int p3), .val (.int p4), .val (.int p5), .val (.ref b1), .unset, .unset, .unset, .unset] [(.int ((p3 &&& (65535 : Int32)).toUInt32.toUInt16.toUInt32.toInt32)), (.int (3 : Int32)), (.ref b1)])) (fun _ k_ => XS.i2c X4.here hx rfl (hb hby at_39) rfl k_) ?_
  obtain ⟨c3, hc3⟩ : ∃ c, c = ((p3 &&& (65535 : Int32)).toUInt32.toUInt16.toUInt32.toInt32) := ⟨_, rfl⟩
  rw [← hc3]
  have r3 : own_ok c3 := hc3 ▸ own_r16 _
  obtain ⟨T5, h5, X5, e5, W5, V5, st5⟩ := own_castore (pc := 40) (Ls := #[.val (.int p0), .val (.int p1), .val (.int p2), .val (.int p3), .val (.int p4), .val (.int p5), .val (.ref b1), .unset, .unset, .unset, .unset]) (rest := []) X4 hx hZ e4 V4 (j := (3 : Int32)) (x := c3) ⟨by decide, by decide⟩ 3 rfl (Nat.le_of_ble_eq_true rfl) (hb hby at_40)
  have V5 : Arv Z h5 b1 k1 .char (4 : Int32) [(.int c0), (.int c1), (.int c2), (.int (nar .char c3))] (.int (0 : Int32)) := V5
  rw [show nar .char c3 = c3 from own_nar_c r3] at V5
  have O5' := O4'.wr W5 (Nat.le_trans O0.2.1 (Nat.le_of_eq g1.symm))
  have N5 := Fr.snoc X5 N4 (Nat.le_trans O0.2.1 (Nat.le_of_eq g1.symm))
  refine own_k (T' := T5) (g' := (mkF m 41 #[.val (.int p0), .val (.int p1), .val (.int p2), .val (.int p3), .val (.int p4), .val (.int p5), .val (.ref b1), .unset, .unset, .unset, .unset] [])) st5 ?_
  obtain ⟨T6, h6, X6, e6, E6, A6, D6, -, st6⟩ := newO X5 hx hZ hown (hw _ (List.mem_of_getElem? (i := 2) rfl)) (hw _ (List.mem_of_getElem? (i := 3) rfl)) (hw _ (List.mem_of_getElem? (i := 4) rfl)) e5 (g := (mkF m 41 #[.val (.int p0), .val (.int p1), .val (.int p2), .val (.int p3), .val (.int p4), .val (.int p5), .val (.ref b1), .unset, .unset, .unset, .unset] [])) rfl (hb hby at_41) (by decide) (by decide)
  obtain ⟨b6, g6⟩ : ∃ z, z = h5.size := ⟨_, rfl⟩
  rw [← g6] at A6 D6 st6
  have O6' := O5'.ext E6
  have F6_coder : Fld Z h6 b6 "java/lang/String" "coder" "B" (.int (0 : Int32)) := D6 (Or.inr (hw _ (List.mem_of_getElem? (i := 28) rfl))) (ty := .byte) (by decide)
  have F6_value : Fld Z h6 b6 "java/lang/String" "value" "[B" .null := D6 (Or.inr (hw _ (List.mem_of_getElem? (i := 30) rfl))) (ty := (.array .byte)) (by decide)
  refine own_k (T' := T6) (g' := (mkF m 44 #[.val (.int p0), .val (.int p1), .val (.int p2), .val (.int p3), .val (.int p4), .val (.int p5), .val (.ref b1), .unset, .unset, .unset, .unset] [(.ref b6)])) st6 ?_
  refine own_k (T' := T6) (g' := (mkF m 45 #[.val (.int p0), .val (.int p1), .val (.int p2), .val (.int p3), .val (.int p4), .val (.int p5), .val (.ref b1), .unset, .unset, .unset, .unset] [(.ref b6), (.ref b6)])) (fun _ k_ => XS.dup X6.here hx rfl (hb hby at_44) rfl rfl k_) ?_
  refine own_k (T' := T6) (g' := (mkF m 47 #[.val (.int p0), .val (.int p1), .val (.int p2), .val (.int p3), .val (.int p4), .val (.int p5), .val (.ref b1), .unset, .unset, .unset, .unset] [(.ref b1), (.ref b6), (.ref b6)])) (fun _ k_ => XS.aload X6.here hx rfl (hb hby at_45) rfl rfl  k_) ?_
  refine own_callN X6 hx hZ (y := (⟨"java/lang/String", "<init>", "([C)V"⟩ : MethodName)) rfl hown (hw _ (List.mem_of_getElem? (i := 5) rfl)) (hw _ (List.mem_of_getElem? (i := 6) rfl)) (hw _ (List.mem_of_getElem? (i := 7) rfl)) (hw _ (List.mem_of_getElem? (i := 4) rfl)) (by decide) (al := [(.ref b1)]) (b := b6) (rm_newstr l Z a0 g_COMPACT_STRINGS g_SIOOBE_FORMATTER hW b6 b1 k1 c0 c1 c2 c3 h6 O6' A6 F6_value F6_coder (V5.ext E6) (Nat.le_trans O5'.2.1 (Nat.le_of_eq g6.symm)) (Ne.symm (Nat.ne_of_lt (Nat.lt_of_lt_of_le (Nat.lt_of_lt_of_le (Nat.lt_of_lt_of_le (Nat.lt_of_lt_of_le (Nat.lt_of_lt_of_le A1.lt (Keep.of_wr W2).1) (Keep.of_wr W3).1) (Keep.of_wr W4).1) (Keep.of_wr W5).1) (Nat.le_of_eq g6.symm)))) r0 r1 r2 r3) 1 (by decide) (by decide) e6 (by decide) (by decide) (by rw [hml]; rfl) (lenOf pd__28_5bC_29V rfl) rfl (rest := [(.ref b6)]) (by show 2 * 0 + _ ≤ _; exact Nat.le_of_eq rfl) (hb hby at_47) ?_
  intro v7 T7 L7 X7 hQ7
  obtain ⟨rfl, Nq7, K7, hS⟩ := hQ7
  have N7 := Fr.app N5 Nq7
  have O7' := O6'.keep K7 (allS (Nat.le_trans O5'.2.1 (Nat.le_of_eq g6.symm)) all0)
  show own_Go p e below Φ T7 (mkF m 50 #[.val (.int p0), .val (.int p1), .val (.int p2), .val (.int p3), .val (.int p4), .val (.int p5), .val (.ref b1), .unset, .unset, .unset, .unset] [(.ref b6)])
  refine own_k (T' := T7) (g' := (mkF m 52 #[.val (.int p0), .val (.int p1), .val (.int p2), .val (.int p3), .val (.int p4), .val (.int p5), .val (.ref b1), .val (.ref b6), .unset, .unset, .unset] [])) (fun _ k_ => XS.astore X7.here hx rfl (hb hby at_50) rfl rfl (l' := #[.val (.int p0), .val (.int p1), .val (.int p2), .val (.int p3), .val (.int p4), .val (.int p5), .val (.ref b1), .val (.ref b6), .unset, .unset, .unset]) rfl k_) ?_
  refine own_k (T' := T7) (g' := (mkF m 54 #[.val (.int p0), .val (.int p1), .val (.int p2), .val (.int p3), .val (.int p4), .val (.int p5), .val (.ref b1), .val (.ref b6), .unset, .unset, .unset] [(.int p5)])) (fun _ k_ => XS.iload X7.here hx rfl (hb hby at_52) rfl  k_) ?_
  refine own_k (T' := T7) (g' := (mkF m 56 #[.val (.int p0), .val (.int p1), .val (.int p2), .val (.int p3), .val (.int p4), .val (.int p5), .val (.ref b1), .val (.ref b6), .unset, .unset, .unset] [(.int (2147483647 : Int32)), (.int p5)])) (X7.ldcInt hx hown (mvT hZ (hw _ (List.mem_of_getElem? (i := 31) rfl))) (g := (mkF m 54 #[.val (.int p0), .val (.int p1), .val (.int p2), .val (.int p3), .val (.int p4), .val (.int p5), .val (.ref b1), .val (.ref b6), .unset, .unset, .unset] [(.int p5)])) rfl (hb hby at_54)) ?_
  refine own_k (T' := T7) (g' := (mkF m 57 #[.val (.int p0), .val (.int p1), .val (.int p2), .val (.int p3), .val (.int p4), .val (.int p5), .val (.ref b1), .val (.ref b6), .unset, .unset, .unset] [(.int (p5 &&& (2147483647 : Int32)))])) (fun _ k_ => XS.iand X7.here hx rfl (hb hby at_56) rfl k_) ?_
  refine own_k (T' := T7) (g' := (mkF m 58 #[.val (.int p0), .val (.int p1), .val (.int p2), .val (.int p3), .val (.int p4), .val (.int p5), .val (.ref b1), .val (.ref b6), .unset, .unset, .unset] [(.int (5 : Int32)), (.int (p5 &&& (2147483647 : Int32)))])) (fun _ k_ => XS.iconst X7.here hx rfl (hb hby at_57) k_) ?_
  refine own_k (T' := T7) (g' := (mkF m 59 #[.val (.int p0), .val (.int p1), .val (.int p2), .val (.int p3), .val (.int p4), .val (.int p5), .val (.ref b1), .val (.ref b6), .unset, .unset, .unset] [(.int ((p5 &&& (2147483647 : Int32)) % (5 : Int32)))])) (fun _ k_ => iremM X7 hx rfl (hb hby at_58) rfl (by decide) k_) ?_
  refine own_k (T' := T7) (g' := (mkF m 61 #[.val (.int p0), .val (.int p1), .val (.int p2), .val (.int p3), .val (.int p4), .val (.int p5), .val (.ref b1), .val (.ref b6), .val (.int ((p5 &&& (2147483647 : Int32)) % (5 : Int32))), .unset, .unset] [])) (fun _ k_ => XS.istore X7.here hx rfl (hb hby at_59) rfl (l' := #[.val (.int p0), .val (.int p1), .val (.int p2), .val (.int p3), .val (.int p4), .val (.int p5), .val (.ref b1), .val (.ref b6), .val (.int ((p5 &&& (2147483647 : Int32)) % (5 : Int32))), .unset, .unset]) rfl k_) ?_
  obtain ⟨t, ht⟩ : ∃ k, k = ((p5 &&& (2147483647 : Int32)) % (5 : Int32)) := ⟨_, rfl⟩
  rw [← ht]
  have rt : 0 ≤ t.toInt ∧ t.toInt < 5 := ht ▸ own_rem5 _
  suffices hj8 : ∀ f : Int32, (¬ f < t ∨ 0 ≤ f.toInt) → own_Go p e below Φ T7 (mkF m 82 #[.val (.int p0), .val (.int p1), .val (.int p2), .val (.int p3), .val (.int p4), .val (.int p5), .val (.ref b1), .val (.ref b6), .val (.int t), .val (.int f), .unset] []) by
    refine own_k (T' := T7) (g' := (mkF m 63 #[.val (.int p0), .val (.int p1), .val (.int p2), .val (.int p3), .val (.int p4), .val (.int p5), .val (.ref b1), .val (.ref b6), .val (.int t), .unset, .unset] [(.int p4)])) (fun _ k_ => XS.iload X7.here hx rfl (hb hby at_61) rfl  k_) ?_
    refine own_k (T' := T7) (g' := (mkF m 65 #[.val (.int p0), .val (.int p1), .val (.int p2), .val (.int p3), .val (.int p4), .val (.int p5), .val (.ref b1), .val (.ref b6), .val (.int t), .unset, .unset] [(.int t), (.int p4)])) (fun _ k_ => XS.iload X7.here hx rfl (hb hby at_63) rfl  k_) ?_
    by_cases hc9 : p4 < t
    · refine own_k (T' := T7) (g' := (mkF m 73 #[.val (.int p0), .val (.int p1), .val (.int p2), .val (.int p3), .val (.int p4), .val (.int p5), .val (.ref b1), .val (.ref b6), .val (.int t), .unset, .unset] [])) (fun _ k_ => XS.icmpYes X7.here hx rfl (pc0 := 65) (pc' := 73) rfl (hb hby at_65) rfl ((tlt hc9).1) (by decide) (by decide) k_) ?_
      refine own_k (T' := T7) (g' := (mkF m 75 #[.val (.int p0), .val (.int p1), .val (.int p2), .val (.int p3), .val (.int p4), .val (.int p5), .val (.ref b1), .val (.ref b6), .val (.int t), .unset, .unset] [(.int p4)])) (fun _ k_ => XS.iload X7.here hx rfl (hb hby at_73) rfl  k_) ?_
      refine own_k (T' := T7) (g' := (mkF m 77 #[.val (.int p0), .val (.int p1), .val (.int p2), .val (.int p3), .val (.int p4), .val (.int p5), .val (.ref b1), .val (.ref b6), .val (.int t), .unset, .unset] [(.int (2147483647 : Int32)), (.int p4)])) (X7.ldcInt hx hown (mvT hZ (hw _ (List.mem_of_getElem? (i := 31) rfl))) (g := (mkF m 75 #[.val (.int p0), .val (.int p1), .val (.int p2), .val (.int p3), .val (.int p4), .val (.int p5), .val (.ref b1), .val (.ref b6), .val (.int t), .unset, .unset] [(.int p4)])) rfl (hb hby at_75)) ?_
      refine own_k (T' := T7) (g' := (mkF m 78 #[.val (.int p0), .val (.int p1), .val (.int p2), .val (.int p3), .val (.int p4), .val (.int p5), .val (.ref b1), .val (.ref b6), .val (.int t), .unset, .unset] [(.int (p4 &&& (2147483647 : Int32)))])) (fun _ k_ => XS.iand X7.here hx rfl (hb hby at_77) rfl k_) ?_
      refine own_k (T' := T7) (g' := (mkF m 79 #[.val (.int p0), .val (.int p1), .val (.int p2), .val (.int p3), .val (.int p4), .val (.int p5), .val (.ref b1), .val (.ref b6), .val (.int t), .unset, .unset] [(.int (5 : Int32)), (.int (p4 &&& (2147483647 : Int32)))])) (fun _ k_ => XS.iconst X7.here hx rfl (hb hby at_78) k_) ?_
      refine own_k (T' := T7) (g' := (mkF m 80 #[.val (.int p0), .val (.int p1), .val (.int p2), .val (.int p3), .val (.int p4), .val (.int p5), .val (.ref b1), .val (.ref b6), .val (.int t), .unset, .unset] [(.int ((p4 &&& (2147483647 : Int32)) % (5 : Int32)))])) (fun _ k_ => iremM X7 hx rfl (hb hby at_79) rfl (by decide) k_) ?_
      refine own_k (T' := T7) (g' := (mkF m 82 #[.val (.int p0), .val (.int p1), .val (.int p2), .val (.int p3), .val (.int p4), .val (.int p5), .val (.ref b1), .val (.ref b6), .val (.int t), .val (.int ((p4 &&& (2147483647 : Int32)) % (5 : Int32))), .unset] [])) (fun _ k_ => XS.istore X7.here hx rfl (hb hby at_80) rfl (l' := #[.val (.int p0), .val (.int p1), .val (.int p2), .val (.int p3), .val (.int p4), .val (.int p5), .val (.ref b1), .val (.ref b6), .val (.int t), .val (.int ((p4 &&& (2147483647 : Int32)) % (5 : Int32))), .unset]) rfl k_) ?_
      exact hj8 _ (Or.inr (own_rem5 p4).1)
    · refine own_k (T' := T7) (g' := (mkF m 68 #[.val (.int p0), .val (.int p1), .val (.int p2), .val (.int p3), .val (.int p4), .val (.int p5), .val (.ref b1), .val (.ref b6), .val (.int t), .unset, .unset] [])) (fun _ k_ => XS.icmpNo X7.here hx rfl (hb hby at_65) rfl ((flt hc9).1) k_) ?_
      refine own_k (T' := T7) (g' := (mkF m 70 #[.val (.int p0), .val (.int p1), .val (.int p2), .val (.int p3), .val (.int p4), .val (.int p5), .val (.ref b1), .val (.ref b6), .val (.int t), .unset, .unset] [(.int p4)])) (fun _ k_ => XS.iload X7.here hx rfl (hb hby at_68) rfl  k_) ?_
      refine own_k (T' := T7) (g' := (mkF m 80 #[.val (.int p0), .val (.int p1), .val (.int p2), .val (.int p3), .val (.int p4), .val (.int p5), .val (.ref b1), .val (.ref b6), .val (.int t), .unset, .unset] [(.int p4)])) (fun _ k_ => XS.goto X7.here hx rfl (pc0 := 70) (pc' := 80) rfl (hb hby at_70) (by decide) (by decide) k_) ?_
      refine own_k (T' := T7) (g' := (mkF m 82 #[.val (.int p0), .val (.int p1), .val (.int p2), .val (.int p3), .val (.int p4), .val (.int p5), .val (.ref b1), .val (.ref b6), .val (.int t), .val (.int p4), .unset] [])) (fun _ k_ => XS.istore X7.here hx rfl (hb hby at_80) rfl (l' := #[.val (.int p0), .val (.int p1), .val (.int p2), .val (.int p3), .val (.int p4), .val (.int p5), .val (.ref b1), .val (.ref b6), .val (.int t), .val (.int p4), .unset]) rfl k_) ?_
      exact hj8 _ (Or.inl hc9)
  intro f hf
  refine own_k (T' := T7) (g' := (mkF m 84 #[.val (.int p0), .val (.int p1), .val (.int p2), .val (.int p3), .val (.int p4), .val (.int p5), .val (.ref b1), .val (.ref b6), .val (.int t), .val (.int f), .unset] [(.int f)])) (fun _ k_ => XS.iload X7.here hx rfl (hb hby at_82) rfl  k_) ?_
  refine own_k (T' := T7) (g' := (mkF m 86 #[.val (.int p0), .val (.int p1), .val (.int p2), .val (.int p3), .val (.int p4), .val (.int p5), .val (.ref b1), .val (.ref b6), .val (.int t), .val (.int f), .unset] [(.int t), (.int f)])) (fun _ k_ => XS.iload X7.here hx rfl (hb hby at_84) rfl  k_) ?_
  by_cases hc10 : f < t
  · refine own_k (T' := T7) (g' := (mkF m 89 #[.val (.int p0), .val (.int p1), .val (.int p2), .val (.int p3), .val (.int p4), .val (.int p5), .val (.ref b1), .val (.ref b6), .val (.int t), .val (.int f), .unset] [])) (fun _ k_ => XS.icmpNo X7.here hx rfl (hb hby at_86) rfl ((tlt hc10).2.1) k_) ?_
    refine own_k (T' := T7) (g' := (mkF m 91 #[.val (.int p0), .val (.int p1), .val (.int p2), .val (.int p3), .val (.int p4), .val (.int p5), .val (.ref b1), .val (.ref b6), .val (.int t), .val (.int f), .unset] [(.int f)])) (fun _ k_ => XS.iload X7.here hx rfl (hb hby at_89) rfl  k_) ?_
    refine own_k (T' := T7) (g' := (mkF m 93 #[.val (.int p0), .val (.int p1), .val (.int p2), .val (.int p3), .val (.int p4), .val (.int p5), .val (.ref b1), .val (.ref b6), .val (.int t), .val (.int f), .unset] [(.int t), (.int f)])) (fun _ k_ => XS.iload X7.here hx rfl (hb hby at_91) rfl  k_) ?_
    refine own_k (T' := T7) (g' := (mkF m 94 #[.val (.int p0), .val (.int p1), .val (.int p2), .val (.int p3), .val (.int p4), .val (.int p5), .val (.ref b1), .val (.ref b6), .val (.int t), .val (.int f), .unset] [(.int (0 : Int32)), (.int t), (.int f)])) (fun _ k_ => XS.iconst X7.here hx rfl (hb hby at_93) k_) ?_
    refine own_k (T' := T7) (g' := (mkF m 96 #[.val (.int p0), .val (.int p1), .val (.int p2), .val (.int p3), .val (.int p4), .val (.int p5), .val (.ref b1), .val (.ref b6), .val (.int t), .val (.int f), .unset] [(.ref b1), (.int (0 : Int32)), (.int t), (.int f)])) (fun _ k_ => XS.aload X7.here hx rfl (hb hby at_94) rfl rfl  k_) ?_
    refine own_k (T' := T7) (g' := (mkF m 97 #[.val (.int p0), .val (.int p1), .val (.int p2), .val (.int p3), .val (.int p4), .val (.int p5), .val (.ref b1), .val (.ref b6), .val (.int t), .val (.int f), .unset] [(.int (0 : Int32)), (.ref b1), (.int (0 : Int32)), (.int t), (.int f)])) (fun _ k_ => XS.iconst X7.here hx rfl (hb hby at_96) k_) ?_
    have f11 := ((V5.ext E6).keep K7 (ninS (Nat.ne_of_lt (Nat.lt_of_lt_of_le (Nat.lt_of_lt_of_le (Nat.lt_of_lt_of_le (Nat.lt_of_lt_of_le (Nat.lt_of_lt_of_le A1.lt (Keep.of_wr W2).1) (Keep.of_wr W3).1) (Keep.of_wr W4).1) (Keep.of_wr W5).1) (Nat.le_of_eq g6.symm))) nin0))
    refine own_caload X7 hx hZ rfl f11 (j := (0 : Int32)) ⟨by decide, by decide⟩ (v := (.int c0)) rfl (hb hby at_97) ?_
    show own_Go p e below Φ T7 (mkF m 98 #[.val (.int p0), .val (.int p1), .val (.int p2), .val (.int p3), .val (.int p4), .val (.int p5), .val (.ref b1), .val (.ref b6), .val (.int t), .val (.int f), .unset] [(.int c0), (.int (0 : Int32)), (.int t), (.int f)])
    refine own_callS X7 hx hZ (y := (⟨"com/example/restoral/restoral/io/PlainNumbersIsDigitsPinLaw", "covered", "(IIIC)Z"⟩ : MethodName)) hown (hw _ (List.mem_of_getElem? (i := 32) rfl)) (hw _ (List.mem_of_getElem? (i := 33) rfl)) (hw _ (List.mem_of_getElem? (i := 34) rfl)) (hw _ (List.mem_of_getElem? (i := 35) rfl)) (by decide) (al := [(.int f), (.int t), (.int (0 : Int32)), (.int c0)]) (rm_covered l Z a0 g_COMPACT_STRINGS g_SIOOBE_FORMATTER hW f t (0 : Int32) c0 T7.heap O7') 0 (by decide) (by decide) rfl (by decide) (by decide) (by rw [hml]; rfl) (lenOf pd__28IIIC_29Z rfl) rfl (rest := []) (by show 2 * 0 + _ ≤ _; exact Nat.le_of_eq rfl) (hb hby at_98) ?_
    intro v13 T13 L13 X13 hQ13
    obtain ⟨⟨z12, rfl, hz_z12⟩, Nq13, e13⟩ := hQ13
    have N13 := Fr.app N7 Nq13
    show own_Go p e below Φ T13 (mkF m 101 #[.val (.int p0), .val (.int p1), .val (.int p2), .val (.int p3), .val (.int p4), .val (.int p5), .val (.ref b1), .val (.ref b6), .val (.int t), .val (.int f), .unset] [(.int z12)])
    by_cases hc14 : z12 = (0 : Int32)
    · refine own_k (T' := T13) (g' := (mkF m 153 #[.val (.int p0), .val (.int p1), .val (.int p2), .val (.int p3), .val (.int p4), .val (.int p5), .val (.ref b1), .val (.ref b6), .val (.int t), .val (.int f), .unset] [])) (fun _ k_ => XS.ifYes X13.here hx rfl (pc0 := 101) (pc' := 153) rfl (hb hby at_101) rfl ((if0 _ _).trans (teq hc14).1) (by decide) (by decide) k_) ?_
      refine own_k (T' := T13) (g' := (mkF m 154 #[.val (.int p0), .val (.int p1), .val (.int p2), .val (.int p3), .val (.int p4), .val (.int p5), .val (.ref b1), .val (.ref b6), .val (.int t), .val (.int f), .unset] [(.int (0 : Int32))])) (fun _ k_ => XS.iconst X13.here hx rfl (hb hby at_153) k_) ?_
      refine own_k (T' := T13) (g' := (mkF m 156 #[.val (.int p0), .val (.int p1), .val (.int p2), .val (.int p3), .val (.int p4), .val (.int p5), .val (.ref b1), .val (.ref b6), .val (.int t), .val (.int f), .val (.int (0 : Int32))] [])) (fun _ k_ => XS.istore X13.here hx rfl (hb hby at_154) rfl (l' := #[.val (.int p0), .val (.int p1), .val (.int p2), .val (.int p3), .val (.int p4), .val (.int p5), .val (.ref b1), .val (.ref b6), .val (.int t), .val (.int f), .val (.int (0 : Int32))]) rfl k_) ?_
      refine own_k (T' := T13) (g' := (mkF m 158 #[.val (.int p0), .val (.int p1), .val (.int p2), .val (.int p3), .val (.int p4), .val (.int p5), .val (.ref b1), .val (.ref b6), .val (.int t), .val (.int f), .val (.int (0 : Int32))] [(.ref b6)])) (fun _ k_ => XS.aload X13.here hx rfl (hb hby at_156) rfl rfl  k_) ?_
      refine own_k (T' := T13) (g' := (mkF m 160 #[.val (.int p0), .val (.int p1), .val (.int p2), .val (.int p3), .val (.int p4), .val (.int p5), .val (.ref b1), .val (.ref b6), .val (.int t), .val (.int f), .val (.int (0 : Int32))] [(.int f), (.ref b6)])) (fun _ k_ => XS.iload X13.here hx rfl (hb hby at_158) rfl  k_) ?_
      refine own_k (T' := T13) (g' := (mkF m 162 #[.val (.int p0), .val (.int p1), .val (.int p2), .val (.int p3), .val (.int p4), .val (.int p5), .val (.ref b1), .val (.ref b6), .val (.int t), .val (.int f), .val (.int (0 : Int32))] [(.int t), (.int f), (.ref b6)])) (fun _ k_ => XS.iload X13.here hx rfl (hb hby at_160) rfl  k_) ?_
      have hf0 : f < t → 0 ≤ f.toInt := fun q => hf.elim (fun z => absurd q z) id
      refine own_callS X13 hx hZ (y := (⟨"com/example/restoral/restoral/io/PlainNumbers", "isDigits", "(Ljava/lang/String;II)Z"⟩ : MethodName)) hown (hw _ (List.mem_of_getElem? (i := 36) rfl)) (hw _ (List.mem_of_getElem? (i := 37) rfl)) (hw _ (List.mem_of_getElem? (i := 38) rfl)) (hw _ (List.mem_of_getElem? (i := 39) rfl)) (by decide) (al := [(.ref b6), (.int f), (.int t)]) (rm_isDigits l Z a0 g_COMPACT_STRINGS g_SIOOBE_FORMATTER hW b6 f t [c0, c1, c2, c3] T7.heap O7' hS (own_str_exa hS) (fun q => ⟨hf0 q, rt.2⟩) (own_all_4 r0 r1 r2 r3)) 0 (by decide) (by decide) e13 (by decide) (by decide) (by rw [hml]; rfl) (lenOf pd__28Ljava_2flang_2fString_3bII_29Z rfl) rfl (rest := []) (by show 2 * 0 + _ ≤ _; exact Nat.le_of_eq rfl) (hb hby at_162) ?_
      intro v15 T15 L15 X15 hQ15
      obtain ⟨⟨rr, rfl, hrr⟩, Nq15, e15⟩ := hQ15
      have N15 := Fr.app N13 Nq15
      show own_Go p e below Φ T15 (mkF m 165 #[.val (.int p0), .val (.int p1), .val (.int p2), .val (.int p3), .val (.int p4), .val (.int p5), .val (.ref b1), .val (.ref b6), .val (.int t), .val (.int f), .val (.int (0 : Int32))] [(.int rr)])
      refine own_k (T' := T15) (g' := (mkF m 167 #[.val (.int p0), .val (.int p1), .val (.int p2), .val (.int p3), .val (.int p4), .val (.int p5), .val (.ref b1), .val (.ref b6), .val (.int t), .val (.int f), .val (.int (0 : Int32))] [(.int (0 : Int32)), (.int rr)])) (fun _ k_ => XS.iload X15.here hx rfl (hb hby at_165) rfl  k_) ?_
      refine own_k (T' := T15) (g' := (mkF m 170 #[.val (.int p0), .val (.int p1), .val (.int p2), .val (.int p3), .val (.int p4), .val (.int p5), .val (.ref b1), .val (.ref b6), .val (.int t), .val (.int f), .val (.int (0 : Int32))] [])) (fun _ k_ => XS.icmpNo X15.here hx rfl (hb hby at_167) rfl ((teq (own_is0 hrr (fun q => own_no hz_z12 hc14 ((own_all (hf0 hc10) rt.2).mp q.2).1))).2) k_) ?_
      refine own_k (T' := T15) (g' := (mkF m 171 #[.val (.int p0), .val (.int p1), .val (.int p2), .val (.int p3), .val (.int p4), .val (.int p5), .val (.ref b1), .val (.ref b6), .val (.int t), .val (.int f), .val (.int (0 : Int32))] [(.int (1 : Int32))])) (fun _ k_ => XS.iconst X15.here hx rfl (hb hby at_170) k_) ?_
      refine own_k (T' := T15) (g' := (mkF m 175 #[.val (.int p0), .val (.int p1), .val (.int p2), .val (.int p3), .val (.int p4), .val (.int p5), .val (.ref b1), .val (.ref b6), .val (.int t), .val (.int f), .val (.int (0 : Int32))] [(.int (1 : Int32))])) (fun _ k_ => XS.goto X15.here hx rfl (pc0 := 171) (pc' := 175) rfl (hb hby at_171) (by decide) (by decide) k_) ?_
      exact own_retN X15 hx (t := .boolean) hret (by simp) hlk (hb hby at_175) hF (⟨by rw [show nar .boolean (1 : Int32) = (1 : Int32) from by decide], N15, trivial⟩) (by decide) (by decide)
    · refine own_k (T' := T13) (g' := (mkF m 104 #[.val (.int p0), .val (.int p1), .val (.int p2), .val (.int p3), .val (.int p4), .val (.int p5), .val (.ref b1), .val (.ref b6), .val (.int t), .val (.int f), .unset] [])) (fun _ k_ => XS.ifNo X13.here hx rfl (hb hby at_101) rfl ((if0 _ _).trans (feq hc14).1) k_) ?_
      refine own_k (T' := T13) (g' := (mkF m 106 #[.val (.int p0), .val (.int p1), .val (.int p2), .val (.int p3), .val (.int p4), .val (.int p5), .val (.ref b1), .val (.ref b6), .val (.int t), .val (.int f), .unset] [(.int f)])) (fun _ k_ => XS.iload X13.here hx rfl (hb hby at_104) rfl  k_) ?_
      refine own_k (T' := T13) (g' := (mkF m 108 #[.val (.int p0), .val (.int p1), .val (.int p2), .val (.int p3), .val (.int p4), .val (.int p5), .val (.ref b1), .val (.ref b6), .val (.int t), .val (.int f), .unset] [(.int t), (.int f)])) (fun _ k_ => XS.iload X13.here hx rfl (hb hby at_106) rfl  k_) ?_
      refine own_k (T' := T13) (g' := (mkF m 109 #[.val (.int p0), .val (.int p1), .val (.int p2), .val (.int p3), .val (.int p4), .val (.int p5), .val (.ref b1), .val (.ref b6), .val (.int t), .val (.int f), .unset] [(.int (1 : Int32)), (.int t), (.int f)])) (fun _ k_ => XS.iconst X13.here hx rfl (hb hby at_108) k_) ?_
      refine own_k (T' := T13) (g' := (mkF m 111 #[.val (.int p0), .val (.int p1), .val (.int p2), .val (.int p3), .val (.int p4), .val (.int p5), .val (.ref b1), .val (.ref b6), .val (.int t), .val (.int f), .unset] [(.ref b1), (.int (1 : Int32)), (.int t), (.int f)])) (fun _ k_ => XS.aload X13.here hx rfl (hb hby at_109) rfl rfl  k_) ?_
      refine own_k (T' := T13) (g' := (mkF m 112 #[.val (.int p0), .val (.int p1), .val (.int p2), .val (.int p3), .val (.int p4), .val (.int p5), .val (.ref b1), .val (.ref b6), .val (.int t), .val (.int f), .unset] [(.int (1 : Int32)), (.ref b1), (.int (1 : Int32)), (.int t), (.int f)])) (fun _ k_ => XS.iconst X13.here hx rfl (hb hby at_111) k_) ?_
      refine own_caload X13 hx hZ e13 f11 (j := (1 : Int32)) ⟨by decide, by decide⟩ (v := (.int c1)) rfl (hb hby at_112) ?_
      show own_Go p e below Φ T13 (mkF m 113 #[.val (.int p0), .val (.int p1), .val (.int p2), .val (.int p3), .val (.int p4), .val (.int p5), .val (.ref b1), .val (.ref b6), .val (.int t), .val (.int f), .unset] [(.int c1), (.int (1 : Int32)), (.int t), (.int f)])
      refine own_callS X13 hx hZ (y := (⟨"com/example/restoral/restoral/io/PlainNumbersIsDigitsPinLaw", "covered", "(IIIC)Z"⟩ : MethodName)) hown (hw _ (List.mem_of_getElem? (i := 32) rfl)) (hw _ (List.mem_of_getElem? (i := 33) rfl)) (hw _ (List.mem_of_getElem? (i := 34) rfl)) (hw _ (List.mem_of_getElem? (i := 35) rfl)) (by decide) (al := [(.int f), (.int t), (.int (1 : Int32)), (.int c1)]) (rm_covered l Z a0 g_COMPACT_STRINGS g_SIOOBE_FORMATTER hW f t (1 : Int32) c1 T7.heap O7') 0 (by decide) (by decide) e13 (by decide) (by decide) (by rw [hml]; rfl) (lenOf pd__28IIIC_29Z rfl) rfl (rest := []) (by show 2 * 0 + _ ≤ _; exact Nat.le_of_eq rfl) (hb hby at_113) ?_
      intro v17 T17 L17 X17 hQ17
      obtain ⟨⟨z16, rfl, hz_z16⟩, Nq17, e17⟩ := hQ17
      have N17 := Fr.app N13 Nq17
      show own_Go p e below Φ T17 (mkF m 116 #[.val (.int p0), .val (.int p1), .val (.int p2), .val (.int p3), .val (.int p4), .val (.int p5), .val (.ref b1), .val (.ref b6), .val (.int t), .val (.int f), .unset] [(.int z16)])
      by_cases hc18 : z16 = (0 : Int32)
      · refine own_k (T' := T17) (g' := (mkF m 153 #[.val (.int p0), .val (.int p1), .val (.int p2), .val (.int p3), .val (.int p4), .val (.int p5), .val (.ref b1), .val (.ref b6), .val (.int t), .val (.int f), .unset] [])) (fun _ k_ => XS.ifYes X17.here hx rfl (pc0 := 116) (pc' := 153) rfl (hb hby at_116) rfl ((if0 _ _).trans (teq hc18).1) (by decide) (by decide) k_) ?_
        refine own_k (T' := T17) (g' := (mkF m 154 #[.val (.int p0), .val (.int p1), .val (.int p2), .val (.int p3), .val (.int p4), .val (.int p5), .val (.ref b1), .val (.ref b6), .val (.int t), .val (.int f), .unset] [(.int (0 : Int32))])) (fun _ k_ => XS.iconst X17.here hx rfl (hb hby at_153) k_) ?_
        refine own_k (T' := T17) (g' := (mkF m 156 #[.val (.int p0), .val (.int p1), .val (.int p2), .val (.int p3), .val (.int p4), .val (.int p5), .val (.ref b1), .val (.ref b6), .val (.int t), .val (.int f), .val (.int (0 : Int32))] [])) (fun _ k_ => XS.istore X17.here hx rfl (hb hby at_154) rfl (l' := #[.val (.int p0), .val (.int p1), .val (.int p2), .val (.int p3), .val (.int p4), .val (.int p5), .val (.ref b1), .val (.ref b6), .val (.int t), .val (.int f), .val (.int (0 : Int32))]) rfl k_) ?_
        refine own_k (T' := T17) (g' := (mkF m 158 #[.val (.int p0), .val (.int p1), .val (.int p2), .val (.int p3), .val (.int p4), .val (.int p5), .val (.ref b1), .val (.ref b6), .val (.int t), .val (.int f), .val (.int (0 : Int32))] [(.ref b6)])) (fun _ k_ => XS.aload X17.here hx rfl (hb hby at_156) rfl rfl  k_) ?_
        refine own_k (T' := T17) (g' := (mkF m 160 #[.val (.int p0), .val (.int p1), .val (.int p2), .val (.int p3), .val (.int p4), .val (.int p5), .val (.ref b1), .val (.ref b6), .val (.int t), .val (.int f), .val (.int (0 : Int32))] [(.int f), (.ref b6)])) (fun _ k_ => XS.iload X17.here hx rfl (hb hby at_158) rfl  k_) ?_
        refine own_k (T' := T17) (g' := (mkF m 162 #[.val (.int p0), .val (.int p1), .val (.int p2), .val (.int p3), .val (.int p4), .val (.int p5), .val (.ref b1), .val (.ref b6), .val (.int t), .val (.int f), .val (.int (0 : Int32))] [(.int t), (.int f), (.ref b6)])) (fun _ k_ => XS.iload X17.here hx rfl (hb hby at_160) rfl  k_) ?_
        have hf0 : f < t → 0 ≤ f.toInt := fun q => hf.elim (fun z => absurd q z) id
        refine own_callS X17 hx hZ (y := (⟨"com/example/restoral/restoral/io/PlainNumbers", "isDigits", "(Ljava/lang/String;II)Z"⟩ : MethodName)) hown (hw _ (List.mem_of_getElem? (i := 36) rfl)) (hw _ (List.mem_of_getElem? (i := 37) rfl)) (hw _ (List.mem_of_getElem? (i := 38) rfl)) (hw _ (List.mem_of_getElem? (i := 39) rfl)) (by decide) (al := [(.ref b6), (.int f), (.int t)]) (rm_isDigits l Z a0 g_COMPACT_STRINGS g_SIOOBE_FORMATTER hW b6 f t [c0, c1, c2, c3] T7.heap O7' hS (own_str_exa hS) (fun q => ⟨hf0 q, rt.2⟩) (own_all_4 r0 r1 r2 r3)) 0 (by decide) (by decide) e17 (by decide) (by decide) (by rw [hml]; rfl) (lenOf pd__28Ljava_2flang_2fString_3bII_29Z rfl) rfl (rest := []) (by show 2 * 0 + _ ≤ _; exact Nat.le_of_eq rfl) (hb hby at_162) ?_
        intro v19 T19 L19 X19 hQ19
        obtain ⟨⟨rr, rfl, hrr⟩, Nq19, e19⟩ := hQ19
        have N19 := Fr.app N17 Nq19
        show own_Go p e below Φ T19 (mkF m 165 #[.val (.int p0), .val (.int p1), .val (.int p2), .val (.int p3), .val (.int p4), .val (.int p5), .val (.ref b1), .val (.ref b6), .val (.int t), .val (.int f), .val (.int (0 : Int32))] [(.int rr)])
        refine own_k (T' := T19) (g' := (mkF m 167 #[.val (.int p0), .val (.int p1), .val (.int p2), .val (.int p3), .val (.int p4), .val (.int p5), .val (.ref b1), .val (.ref b6), .val (.int t), .val (.int f), .val (.int (0 : Int32))] [(.int (0 : Int32)), (.int rr)])) (fun _ k_ => XS.iload X19.here hx rfl (hb hby at_165) rfl  k_) ?_
        refine own_k (T' := T19) (g' := (mkF m 170 #[.val (.int p0), .val (.int p1), .val (.int p2), .val (.int p3), .val (.int p4), .val (.int p5), .val (.ref b1), .val (.ref b6), .val (.int t), .val (.int f), .val (.int (0 : Int32))] [])) (fun _ k_ => XS.icmpNo X19.here hx rfl (hb hby at_167) rfl ((teq (own_is0 hrr (fun q => own_no hz_z16 hc18 ((own_all (hf0 hc10) rt.2).mp q.2).2.1))).2) k_) ?_
        refine own_k (T' := T19) (g' := (mkF m 171 #[.val (.int p0), .val (.int p1), .val (.int p2), .val (.int p3), .val (.int p4), .val (.int p5), .val (.ref b1), .val (.ref b6), .val (.int t), .val (.int f), .val (.int (0 : Int32))] [(.int (1 : Int32))])) (fun _ k_ => XS.iconst X19.here hx rfl (hb hby at_170) k_) ?_
        refine own_k (T' := T19) (g' := (mkF m 175 #[.val (.int p0), .val (.int p1), .val (.int p2), .val (.int p3), .val (.int p4), .val (.int p5), .val (.ref b1), .val (.ref b6), .val (.int t), .val (.int f), .val (.int (0 : Int32))] [(.int (1 : Int32))])) (fun _ k_ => XS.goto X19.here hx rfl (pc0 := 171) (pc' := 175) rfl (hb hby at_171) (by decide) (by decide) k_) ?_
        exact own_retN X19 hx (t := .boolean) hret (by simp) hlk (hb hby at_175) hF (⟨by rw [show nar .boolean (1 : Int32) = (1 : Int32) from by decide], N19, trivial⟩) (by decide) (by decide)
      · refine own_k (T' := T17) (g' := (mkF m 119 #[.val (.int p0), .val (.int p1), .val (.int p2), .val (.int p3), .val (.int p4), .val (.int p5), .val (.ref b1), .val (.ref b6), .val (.int t), .val (.int f), .unset] [])) (fun _ k_ => XS.ifNo X17.here hx rfl (hb hby at_116) rfl ((if0 _ _).trans (feq hc18).1) k_) ?_
        refine own_k (T' := T17) (g' := (mkF m 121 #[.val (.int p0), .val (.int p1), .val (.int p2), .val (.int p3), .val (.int p4), .val (.int p5), .val (.ref b1), .val (.ref b6), .val (.int t), .val (.int f), .unset] [(.int f)])) (fun _ k_ => XS.iload X17.here hx rfl (hb hby at_119) rfl  k_) ?_
        refine own_k (T' := T17) (g' := (mkF m 123 #[.val (.int p0), .val (.int p1), .val (.int p2), .val (.int p3), .val (.int p4), .val (.int p5), .val (.ref b1), .val (.ref b6), .val (.int t), .val (.int f), .unset] [(.int t), (.int f)])) (fun _ k_ => XS.iload X17.here hx rfl (hb hby at_121) rfl  k_) ?_
        refine own_k (T' := T17) (g' := (mkF m 124 #[.val (.int p0), .val (.int p1), .val (.int p2), .val (.int p3), .val (.int p4), .val (.int p5), .val (.ref b1), .val (.ref b6), .val (.int t), .val (.int f), .unset] [(.int (2 : Int32)), (.int t), (.int f)])) (fun _ k_ => XS.iconst X17.here hx rfl (hb hby at_123) k_) ?_
        refine own_k (T' := T17) (g' := (mkF m 126 #[.val (.int p0), .val (.int p1), .val (.int p2), .val (.int p3), .val (.int p4), .val (.int p5), .val (.ref b1), .val (.ref b6), .val (.int t), .val (.int f), .unset] [(.ref b1), (.int (2 : Int32)), (.int t), (.int f)])) (fun _ k_ => XS.aload X17.here hx rfl (hb hby at_124) rfl rfl  k_) ?_
        refine own_k (T' := T17) (g' := (mkF m 127 #[.val (.int p0), .val (.int p1), .val (.int p2), .val (.int p3), .val (.int p4), .val (.int p5), .val (.ref b1), .val (.ref b6), .val (.int t), .val (.int f), .unset] [(.int (2 : Int32)), (.ref b1), (.int (2 : Int32)), (.int t), (.int f)])) (fun _ k_ => XS.iconst X17.here hx rfl (hb hby at_126) k_) ?_
        refine own_caload X17 hx hZ e17 f11 (j := (2 : Int32)) ⟨by decide, by decide⟩ (v := (.int c2)) rfl (hb hby at_127) ?_
        show own_Go p e below Φ T17 (mkF m 128 #[.val (.int p0), .val (.int p1), .val (.int p2), .val (.int p3), .val (.int p4), .val (.int p5), .val (.ref b1), .val (.ref b6), .val (.int t), .val (.int f), .unset] [(.int c2), (.int (2 : Int32)), (.int t), (.int f)])
        refine own_callS X17 hx hZ (y := (⟨"com/example/restoral/restoral/io/PlainNumbersIsDigitsPinLaw", "covered", "(IIIC)Z"⟩ : MethodName)) hown (hw _ (List.mem_of_getElem? (i := 32) rfl)) (hw _ (List.mem_of_getElem? (i := 33) rfl)) (hw _ (List.mem_of_getElem? (i := 34) rfl)) (hw _ (List.mem_of_getElem? (i := 35) rfl)) (by decide) (al := [(.int f), (.int t), (.int (2 : Int32)), (.int c2)]) (rm_covered l Z a0 g_COMPACT_STRINGS g_SIOOBE_FORMATTER hW f t (2 : Int32) c2 T7.heap O7') 0 (by decide) (by decide) e17 (by decide) (by decide) (by rw [hml]; rfl) (lenOf pd__28IIIC_29Z rfl) rfl (rest := []) (by show 2 * 0 + _ ≤ _; exact Nat.le_of_eq rfl) (hb hby at_128) ?_
        intro v21 T21 L21 X21 hQ21
        obtain ⟨⟨z20, rfl, hz_z20⟩, Nq21, e21⟩ := hQ21
        have N21 := Fr.app N17 Nq21
        show own_Go p e below Φ T21 (mkF m 131 #[.val (.int p0), .val (.int p1), .val (.int p2), .val (.int p3), .val (.int p4), .val (.int p5), .val (.ref b1), .val (.ref b6), .val (.int t), .val (.int f), .unset] [(.int z20)])
        by_cases hc22 : z20 = (0 : Int32)
        · refine own_k (T' := T21) (g' := (mkF m 153 #[.val (.int p0), .val (.int p1), .val (.int p2), .val (.int p3), .val (.int p4), .val (.int p5), .val (.ref b1), .val (.ref b6), .val (.int t), .val (.int f), .unset] [])) (fun _ k_ => XS.ifYes X21.here hx rfl (pc0 := 131) (pc' := 153) rfl (hb hby at_131) rfl ((if0 _ _).trans (teq hc22).1) (by decide) (by decide) k_) ?_
          refine own_k (T' := T21) (g' := (mkF m 154 #[.val (.int p0), .val (.int p1), .val (.int p2), .val (.int p3), .val (.int p4), .val (.int p5), .val (.ref b1), .val (.ref b6), .val (.int t), .val (.int f), .unset] [(.int (0 : Int32))])) (fun _ k_ => XS.iconst X21.here hx rfl (hb hby at_153) k_) ?_
          refine own_k (T' := T21) (g' := (mkF m 156 #[.val (.int p0), .val (.int p1), .val (.int p2), .val (.int p3), .val (.int p4), .val (.int p5), .val (.ref b1), .val (.ref b6), .val (.int t), .val (.int f), .val (.int (0 : Int32))] [])) (fun _ k_ => XS.istore X21.here hx rfl (hb hby at_154) rfl (l' := #[.val (.int p0), .val (.int p1), .val (.int p2), .val (.int p3), .val (.int p4), .val (.int p5), .val (.ref b1), .val (.ref b6), .val (.int t), .val (.int f), .val (.int (0 : Int32))]) rfl k_) ?_
          refine own_k (T' := T21) (g' := (mkF m 158 #[.val (.int p0), .val (.int p1), .val (.int p2), .val (.int p3), .val (.int p4), .val (.int p5), .val (.ref b1), .val (.ref b6), .val (.int t), .val (.int f), .val (.int (0 : Int32))] [(.ref b6)])) (fun _ k_ => XS.aload X21.here hx rfl (hb hby at_156) rfl rfl  k_) ?_
          refine own_k (T' := T21) (g' := (mkF m 160 #[.val (.int p0), .val (.int p1), .val (.int p2), .val (.int p3), .val (.int p4), .val (.int p5), .val (.ref b1), .val (.ref b6), .val (.int t), .val (.int f), .val (.int (0 : Int32))] [(.int f), (.ref b6)])) (fun _ k_ => XS.iload X21.here hx rfl (hb hby at_158) rfl  k_) ?_
          refine own_k (T' := T21) (g' := (mkF m 162 #[.val (.int p0), .val (.int p1), .val (.int p2), .val (.int p3), .val (.int p4), .val (.int p5), .val (.ref b1), .val (.ref b6), .val (.int t), .val (.int f), .val (.int (0 : Int32))] [(.int t), (.int f), (.ref b6)])) (fun _ k_ => XS.iload X21.here hx rfl (hb hby at_160) rfl  k_) ?_
          have hf0 : f < t → 0 ≤ f.toInt := fun q => hf.elim (fun z => absurd q z) id
          refine own_callS X21 hx hZ (y := (⟨"com/example/restoral/restoral/io/PlainNumbers", "isDigits", "(Ljava/lang/String;II)Z"⟩ : MethodName)) hown (hw _ (List.mem_of_getElem? (i := 36) rfl)) (hw _ (List.mem_of_getElem? (i := 37) rfl)) (hw _ (List.mem_of_getElem? (i := 38) rfl)) (hw _ (List.mem_of_getElem? (i := 39) rfl)) (by decide) (al := [(.ref b6), (.int f), (.int t)]) (rm_isDigits l Z a0 g_COMPACT_STRINGS g_SIOOBE_FORMATTER hW b6 f t [c0, c1, c2, c3] T7.heap O7' hS (own_str_exa hS) (fun q => ⟨hf0 q, rt.2⟩) (own_all_4 r0 r1 r2 r3)) 0 (by decide) (by decide) e21 (by decide) (by decide) (by rw [hml]; rfl) (lenOf pd__28Ljava_2flang_2fString_3bII_29Z rfl) rfl (rest := []) (by show 2 * 0 + _ ≤ _; exact Nat.le_of_eq rfl) (hb hby at_162) ?_
          intro v23 T23 L23 X23 hQ23
          obtain ⟨⟨rr, rfl, hrr⟩, Nq23, e23⟩ := hQ23
          have N23 := Fr.app N21 Nq23
          show own_Go p e below Φ T23 (mkF m 165 #[.val (.int p0), .val (.int p1), .val (.int p2), .val (.int p3), .val (.int p4), .val (.int p5), .val (.ref b1), .val (.ref b6), .val (.int t), .val (.int f), .val (.int (0 : Int32))] [(.int rr)])
          refine own_k (T' := T23) (g' := (mkF m 167 #[.val (.int p0), .val (.int p1), .val (.int p2), .val (.int p3), .val (.int p4), .val (.int p5), .val (.ref b1), .val (.ref b6), .val (.int t), .val (.int f), .val (.int (0 : Int32))] [(.int (0 : Int32)), (.int rr)])) (fun _ k_ => XS.iload X23.here hx rfl (hb hby at_165) rfl  k_) ?_
          refine own_k (T' := T23) (g' := (mkF m 170 #[.val (.int p0), .val (.int p1), .val (.int p2), .val (.int p3), .val (.int p4), .val (.int p5), .val (.ref b1), .val (.ref b6), .val (.int t), .val (.int f), .val (.int (0 : Int32))] [])) (fun _ k_ => XS.icmpNo X23.here hx rfl (hb hby at_167) rfl ((teq (own_is0 hrr (fun q => own_no hz_z20 hc22 ((own_all (hf0 hc10) rt.2).mp q.2).2.2.1))).2) k_) ?_
          refine own_k (T' := T23) (g' := (mkF m 171 #[.val (.int p0), .val (.int p1), .val (.int p2), .val (.int p3), .val (.int p4), .val (.int p5), .val (.ref b1), .val (.ref b6), .val (.int t), .val (.int f), .val (.int (0 : Int32))] [(.int (1 : Int32))])) (fun _ k_ => XS.iconst X23.here hx rfl (hb hby at_170) k_) ?_
          refine own_k (T' := T23) (g' := (mkF m 175 #[.val (.int p0), .val (.int p1), .val (.int p2), .val (.int p3), .val (.int p4), .val (.int p5), .val (.ref b1), .val (.ref b6), .val (.int t), .val (.int f), .val (.int (0 : Int32))] [(.int (1 : Int32))])) (fun _ k_ => XS.goto X23.here hx rfl (pc0 := 171) (pc' := 175) rfl (hb hby at_171) (by decide) (by decide) k_) ?_
          exact own_retN X23 hx (t := .boolean) hret (by simp) hlk (hb hby at_175) hF (⟨by rw [show nar .boolean (1 : Int32) = (1 : Int32) from by decide], N23, trivial⟩) (by decide) (by decide)
        · refine own_k (T' := T21) (g' := (mkF m 134 #[.val (.int p0), .val (.int p1), .val (.int p2), .val (.int p3), .val (.int p4), .val (.int p5), .val (.ref b1), .val (.ref b6), .val (.int t), .val (.int f), .unset] [])) (fun _ k_ => XS.ifNo X21.here hx rfl (hb hby at_131) rfl ((if0 _ _).trans (feq hc22).1) k_) ?_
          refine own_k (T' := T21) (g' := (mkF m 136 #[.val (.int p0), .val (.int p1), .val (.int p2), .val (.int p3), .val (.int p4), .val (.int p5), .val (.ref b1), .val (.ref b6), .val (.int t), .val (.int f), .unset] [(.int f)])) (fun _ k_ => XS.iload X21.here hx rfl (hb hby at_134) rfl  k_) ?_
          refine own_k (T' := T21) (g' := (mkF m 138 #[.val (.int p0), .val (.int p1), .val (.int p2), .val (.int p3), .val (.int p4), .val (.int p5), .val (.ref b1), .val (.ref b6), .val (.int t), .val (.int f), .unset] [(.int t), (.int f)])) (fun _ k_ => XS.iload X21.here hx rfl (hb hby at_136) rfl  k_) ?_
          refine own_k (T' := T21) (g' := (mkF m 139 #[.val (.int p0), .val (.int p1), .val (.int p2), .val (.int p3), .val (.int p4), .val (.int p5), .val (.ref b1), .val (.ref b6), .val (.int t), .val (.int f), .unset] [(.int (3 : Int32)), (.int t), (.int f)])) (fun _ k_ => XS.iconst X21.here hx rfl (hb hby at_138) k_) ?_
          refine own_k (T' := T21) (g' := (mkF m 141 #[.val (.int p0), .val (.int p1), .val (.int p2), .val (.int p3), .val (.int p4), .val (.int p5), .val (.ref b1), .val (.ref b6), .val (.int t), .val (.int f), .unset] [(.ref b1), (.int (3 : Int32)), (.int t), (.int f)])) (fun _ k_ => XS.aload X21.here hx rfl (hb hby at_139) rfl rfl  k_) ?_
          refine own_k (T' := T21) (g' := (mkF m 142 #[.val (.int p0), .val (.int p1), .val (.int p2), .val (.int p3), .val (.int p4), .val (.int p5), .val (.ref b1), .val (.ref b6), .val (.int t), .val (.int f), .unset] [(.int (3 : Int32)), (.ref b1), (.int (3 : Int32)), (.int t), (.int f)])) (fun _ k_ => XS.iconst X21.here hx rfl (hb hby at_141) k_) ?_
          refine own_caload X21 hx hZ e21 f11 (j := (3 : Int32)) ⟨by decide, by decide⟩ (v := (.int c3)) rfl (hb hby at_142) ?_
          show own_Go p e below Φ T21 (mkF m 143 #[.val (.int p0), .val (.int p1), .val (.int p2), .val (.int p3), .val (.int p4), .val (.int p5), .val (.ref b1), .val (.ref b6), .val (.int t), .val (.int f), .unset] [(.int c3), (.int (3 : Int32)), (.int t), (.int f)])
          refine own_callS X21 hx hZ (y := (⟨"com/example/restoral/restoral/io/PlainNumbersIsDigitsPinLaw", "covered", "(IIIC)Z"⟩ : MethodName)) hown (hw _ (List.mem_of_getElem? (i := 32) rfl)) (hw _ (List.mem_of_getElem? (i := 33) rfl)) (hw _ (List.mem_of_getElem? (i := 34) rfl)) (hw _ (List.mem_of_getElem? (i := 35) rfl)) (by decide) (al := [(.int f), (.int t), (.int (3 : Int32)), (.int c3)]) (rm_covered l Z a0 g_COMPACT_STRINGS g_SIOOBE_FORMATTER hW f t (3 : Int32) c3 T7.heap O7') 0 (by decide) (by decide) e21 (by decide) (by decide) (by rw [hml]; rfl) (lenOf pd__28IIIC_29Z rfl) rfl (rest := []) (by show 2 * 0 + _ ≤ _; exact Nat.le_of_eq rfl) (hb hby at_143) ?_
          intro v25 T25 L25 X25 hQ25
          obtain ⟨⟨z24, rfl, hz_z24⟩, Nq25, e25⟩ := hQ25
          have N25 := Fr.app N21 Nq25
          show own_Go p e below Φ T25 (mkF m 146 #[.val (.int p0), .val (.int p1), .val (.int p2), .val (.int p3), .val (.int p4), .val (.int p5), .val (.ref b1), .val (.ref b6), .val (.int t), .val (.int f), .unset] [(.int z24)])
          by_cases hc26 : z24 = (0 : Int32)
          · refine own_k (T' := T25) (g' := (mkF m 153 #[.val (.int p0), .val (.int p1), .val (.int p2), .val (.int p3), .val (.int p4), .val (.int p5), .val (.ref b1), .val (.ref b6), .val (.int t), .val (.int f), .unset] [])) (fun _ k_ => XS.ifYes X25.here hx rfl (pc0 := 146) (pc' := 153) rfl (hb hby at_146) rfl ((if0 _ _).trans (teq hc26).1) (by decide) (by decide) k_) ?_
            refine own_k (T' := T25) (g' := (mkF m 154 #[.val (.int p0), .val (.int p1), .val (.int p2), .val (.int p3), .val (.int p4), .val (.int p5), .val (.ref b1), .val (.ref b6), .val (.int t), .val (.int f), .unset] [(.int (0 : Int32))])) (fun _ k_ => XS.iconst X25.here hx rfl (hb hby at_153) k_) ?_
            refine own_k (T' := T25) (g' := (mkF m 156 #[.val (.int p0), .val (.int p1), .val (.int p2), .val (.int p3), .val (.int p4), .val (.int p5), .val (.ref b1), .val (.ref b6), .val (.int t), .val (.int f), .val (.int (0 : Int32))] [])) (fun _ k_ => XS.istore X25.here hx rfl (hb hby at_154) rfl (l' := #[.val (.int p0), .val (.int p1), .val (.int p2), .val (.int p3), .val (.int p4), .val (.int p5), .val (.ref b1), .val (.ref b6), .val (.int t), .val (.int f), .val (.int (0 : Int32))]) rfl k_) ?_
            refine own_k (T' := T25) (g' := (mkF m 158 #[.val (.int p0), .val (.int p1), .val (.int p2), .val (.int p3), .val (.int p4), .val (.int p5), .val (.ref b1), .val (.ref b6), .val (.int t), .val (.int f), .val (.int (0 : Int32))] [(.ref b6)])) (fun _ k_ => XS.aload X25.here hx rfl (hb hby at_156) rfl rfl  k_) ?_
            refine own_k (T' := T25) (g' := (mkF m 160 #[.val (.int p0), .val (.int p1), .val (.int p2), .val (.int p3), .val (.int p4), .val (.int p5), .val (.ref b1), .val (.ref b6), .val (.int t), .val (.int f), .val (.int (0 : Int32))] [(.int f), (.ref b6)])) (fun _ k_ => XS.iload X25.here hx rfl (hb hby at_158) rfl  k_) ?_
            refine own_k (T' := T25) (g' := (mkF m 162 #[.val (.int p0), .val (.int p1), .val (.int p2), .val (.int p3), .val (.int p4), .val (.int p5), .val (.ref b1), .val (.ref b6), .val (.int t), .val (.int f), .val (.int (0 : Int32))] [(.int t), (.int f), (.ref b6)])) (fun _ k_ => XS.iload X25.here hx rfl (hb hby at_160) rfl  k_) ?_
            have hf0 : f < t → 0 ≤ f.toInt := fun q => hf.elim (fun z => absurd q z) id
            refine own_callS X25 hx hZ (y := (⟨"com/example/restoral/restoral/io/PlainNumbers", "isDigits", "(Ljava/lang/String;II)Z"⟩ : MethodName)) hown (hw _ (List.mem_of_getElem? (i := 36) rfl)) (hw _ (List.mem_of_getElem? (i := 37) rfl)) (hw _ (List.mem_of_getElem? (i := 38) rfl)) (hw _ (List.mem_of_getElem? (i := 39) rfl)) (by decide) (al := [(.ref b6), (.int f), (.int t)]) (rm_isDigits l Z a0 g_COMPACT_STRINGS g_SIOOBE_FORMATTER hW b6 f t [c0, c1, c2, c3] T7.heap O7' hS (own_str_exa hS) (fun q => ⟨hf0 q, rt.2⟩) (own_all_4 r0 r1 r2 r3)) 0 (by decide) (by decide) e25 (by decide) (by decide) (by rw [hml]; rfl) (lenOf pd__28Ljava_2flang_2fString_3bII_29Z rfl) rfl (rest := []) (by show 2 * 0 + _ ≤ _; exact Nat.le_of_eq rfl) (hb hby at_162) ?_
            intro v27 T27 L27 X27 hQ27
            obtain ⟨⟨rr, rfl, hrr⟩, Nq27, e27⟩ := hQ27
            have N27 := Fr.app N25 Nq27
            show own_Go p e below Φ T27 (mkF m 165 #[.val (.int p0), .val (.int p1), .val (.int p2), .val (.int p3), .val (.int p4), .val (.int p5), .val (.ref b1), .val (.ref b6), .val (.int t), .val (.int f), .val (.int (0 : Int32))] [(.int rr)])
            refine own_k (T' := T27) (g' := (mkF m 167 #[.val (.int p0), .val (.int p1), .val (.int p2), .val (.int p3), .val (.int p4), .val (.int p5), .val (.ref b1), .val (.ref b6), .val (.int t), .val (.int f), .val (.int (0 : Int32))] [(.int (0 : Int32)), (.int rr)])) (fun _ k_ => XS.iload X27.here hx rfl (hb hby at_165) rfl  k_) ?_
            refine own_k (T' := T27) (g' := (mkF m 170 #[.val (.int p0), .val (.int p1), .val (.int p2), .val (.int p3), .val (.int p4), .val (.int p5), .val (.ref b1), .val (.ref b6), .val (.int t), .val (.int f), .val (.int (0 : Int32))] [])) (fun _ k_ => XS.icmpNo X27.here hx rfl (hb hby at_167) rfl ((teq (own_is0 hrr (fun q => own_no hz_z24 hc26 ((own_all (hf0 hc10) rt.2).mp q.2).2.2.2))).2) k_) ?_
            refine own_k (T' := T27) (g' := (mkF m 171 #[.val (.int p0), .val (.int p1), .val (.int p2), .val (.int p3), .val (.int p4), .val (.int p5), .val (.ref b1), .val (.ref b6), .val (.int t), .val (.int f), .val (.int (0 : Int32))] [(.int (1 : Int32))])) (fun _ k_ => XS.iconst X27.here hx rfl (hb hby at_170) k_) ?_
            refine own_k (T' := T27) (g' := (mkF m 175 #[.val (.int p0), .val (.int p1), .val (.int p2), .val (.int p3), .val (.int p4), .val (.int p5), .val (.ref b1), .val (.ref b6), .val (.int t), .val (.int f), .val (.int (0 : Int32))] [(.int (1 : Int32))])) (fun _ k_ => XS.goto X27.here hx rfl (pc0 := 171) (pc' := 175) rfl (hb hby at_171) (by decide) (by decide) k_) ?_
            exact own_retN X27 hx (t := .boolean) hret (by simp) hlk (hb hby at_175) hF (⟨by rw [show nar .boolean (1 : Int32) = (1 : Int32) from by decide], N27, trivial⟩) (by decide) (by decide)
          · refine own_k (T' := T25) (g' := (mkF m 149 #[.val (.int p0), .val (.int p1), .val (.int p2), .val (.int p3), .val (.int p4), .val (.int p5), .val (.ref b1), .val (.ref b6), .val (.int t), .val (.int f), .unset] [])) (fun _ k_ => XS.ifNo X25.here hx rfl (hb hby at_146) rfl ((if0 _ _).trans (feq hc26).1) k_) ?_
            refine own_k (T' := T25) (g' := (mkF m 150 #[.val (.int p0), .val (.int p1), .val (.int p2), .val (.int p3), .val (.int p4), .val (.int p5), .val (.ref b1), .val (.ref b6), .val (.int t), .val (.int f), .unset] [(.int (1 : Int32))])) (fun _ k_ => XS.iconst X25.here hx rfl (hb hby at_149) k_) ?_
            refine own_k (T' := T25) (g' := (mkF m 154 #[.val (.int p0), .val (.int p1), .val (.int p2), .val (.int p3), .val (.int p4), .val (.int p5), .val (.ref b1), .val (.ref b6), .val (.int t), .val (.int f), .unset] [(.int (1 : Int32))])) (fun _ k_ => XS.goto X25.here hx rfl (pc0 := 150) (pc' := 154) rfl (hb hby at_150) (by decide) (by decide) k_) ?_
            refine own_k (T' := T25) (g' := (mkF m 156 #[.val (.int p0), .val (.int p1), .val (.int p2), .val (.int p3), .val (.int p4), .val (.int p5), .val (.ref b1), .val (.ref b6), .val (.int t), .val (.int f), .val (.int (1 : Int32))] [])) (fun _ k_ => XS.istore X25.here hx rfl (hb hby at_154) rfl (l' := #[.val (.int p0), .val (.int p1), .val (.int p2), .val (.int p3), .val (.int p4), .val (.int p5), .val (.ref b1), .val (.ref b6), .val (.int t), .val (.int f), .val (.int (1 : Int32))]) rfl k_) ?_
            refine own_k (T' := T25) (g' := (mkF m 158 #[.val (.int p0), .val (.int p1), .val (.int p2), .val (.int p3), .val (.int p4), .val (.int p5), .val (.ref b1), .val (.ref b6), .val (.int t), .val (.int f), .val (.int (1 : Int32))] [(.ref b6)])) (fun _ k_ => XS.aload X25.here hx rfl (hb hby at_156) rfl rfl  k_) ?_
            refine own_k (T' := T25) (g' := (mkF m 160 #[.val (.int p0), .val (.int p1), .val (.int p2), .val (.int p3), .val (.int p4), .val (.int p5), .val (.ref b1), .val (.ref b6), .val (.int t), .val (.int f), .val (.int (1 : Int32))] [(.int f), (.ref b6)])) (fun _ k_ => XS.iload X25.here hx rfl (hb hby at_158) rfl  k_) ?_
            refine own_k (T' := T25) (g' := (mkF m 162 #[.val (.int p0), .val (.int p1), .val (.int p2), .val (.int p3), .val (.int p4), .val (.int p5), .val (.ref b1), .val (.ref b6), .val (.int t), .val (.int f), .val (.int (1 : Int32))] [(.int t), (.int f), (.ref b6)])) (fun _ k_ => XS.iload X25.here hx rfl (hb hby at_160) rfl  k_) ?_
            have hf0 : f < t → 0 ≤ f.toInt := fun q => hf.elim (fun z => absurd q z) id
            refine own_callS X25 hx hZ (y := (⟨"com/example/restoral/restoral/io/PlainNumbers", "isDigits", "(Ljava/lang/String;II)Z"⟩ : MethodName)) hown (hw _ (List.mem_of_getElem? (i := 36) rfl)) (hw _ (List.mem_of_getElem? (i := 37) rfl)) (hw _ (List.mem_of_getElem? (i := 38) rfl)) (hw _ (List.mem_of_getElem? (i := 39) rfl)) (by decide) (al := [(.ref b6), (.int f), (.int t)]) (rm_isDigits l Z a0 g_COMPACT_STRINGS g_SIOOBE_FORMATTER hW b6 f t [c0, c1, c2, c3] T7.heap O7' hS (own_str_exa hS) (fun q => ⟨hf0 q, rt.2⟩) (own_all_4 r0 r1 r2 r3)) 0 (by decide) (by decide) e25 (by decide) (by decide) (by rw [hml]; rfl) (lenOf pd__28Ljava_2flang_2fString_3bII_29Z rfl) rfl (rest := []) (by show 2 * 0 + _ ≤ _; exact Nat.le_of_eq rfl) (hb hby at_162) ?_
            intro v28 T28 L28 X28 hQ28
            obtain ⟨⟨rr, rfl, hrr⟩, Nq28, e28⟩ := hQ28
            have N28 := Fr.app N25 Nq28
            show own_Go p e below Φ T28 (mkF m 165 #[.val (.int p0), .val (.int p1), .val (.int p2), .val (.int p3), .val (.int p4), .val (.int p5), .val (.ref b1), .val (.ref b6), .val (.int t), .val (.int f), .val (.int (1 : Int32))] [(.int rr)])
            refine own_k (T' := T28) (g' := (mkF m 167 #[.val (.int p0), .val (.int p1), .val (.int p2), .val (.int p3), .val (.int p4), .val (.int p5), .val (.ref b1), .val (.ref b6), .val (.int t), .val (.int f), .val (.int (1 : Int32))] [(.int (1 : Int32)), (.int rr)])) (fun _ k_ => XS.iload X28.here hx rfl (hb hby at_165) rfl  k_) ?_
            refine own_k (T' := T28) (g' := (mkF m 170 #[.val (.int p0), .val (.int p1), .val (.int p2), .val (.int p3), .val (.int p4), .val (.int p5), .val (.ref b1), .val (.ref b6), .val (.int t), .val (.int f), .val (.int (1 : Int32))] [])) (fun _ k_ => XS.icmpNo X28.here hx rfl (hb hby at_167) rfl ((teq (own_is1 hrr ⟨hc10, (own_all (hf0 hc10) rt.2).mpr ⟨own_yes hz_z12 hc14, own_yes hz_z16 hc18, own_yes hz_z20 hc22, own_yes hz_z24 hc26⟩⟩)).2) k_) ?_
            refine own_k (T' := T28) (g' := (mkF m 171 #[.val (.int p0), .val (.int p1), .val (.int p2), .val (.int p3), .val (.int p4), .val (.int p5), .val (.ref b1), .val (.ref b6), .val (.int t), .val (.int f), .val (.int (1 : Int32))] [(.int (1 : Int32))])) (fun _ k_ => XS.iconst X28.here hx rfl (hb hby at_170) k_) ?_
            refine own_k (T' := T28) (g' := (mkF m 175 #[.val (.int p0), .val (.int p1), .val (.int p2), .val (.int p3), .val (.int p4), .val (.int p5), .val (.ref b1), .val (.ref b6), .val (.int t), .val (.int f), .val (.int (1 : Int32))] [(.int (1 : Int32))])) (fun _ k_ => XS.goto X28.here hx rfl (pc0 := 171) (pc' := 175) rfl (hb hby at_171) (by decide) (by decide) k_) ?_
            exact own_retN X28 hx (t := .boolean) hret (by simp) hlk (hb hby at_175) hF (⟨by rw [show nar .boolean (1 : Int32) = (1 : Int32) from by decide], N28, trivial⟩) (by decide) (by decide)
  · refine own_k (T' := T7) (g' := (mkF m 153 #[.val (.int p0), .val (.int p1), .val (.int p2), .val (.int p3), .val (.int p4), .val (.int p5), .val (.ref b1), .val (.ref b6), .val (.int t), .val (.int f), .unset] [])) (fun _ k_ => XS.icmpYes X7.here hx rfl (pc0 := 86) (pc' := 153) rfl (hb hby at_86) rfl ((flt hc10).2.1) (by decide) (by decide) k_) ?_
    refine own_k (T' := T7) (g' := (mkF m 154 #[.val (.int p0), .val (.int p1), .val (.int p2), .val (.int p3), .val (.int p4), .val (.int p5), .val (.ref b1), .val (.ref b6), .val (.int t), .val (.int f), .unset] [(.int (0 : Int32))])) (fun _ k_ => XS.iconst X7.here hx rfl (hb hby at_153) k_) ?_
    refine own_k (T' := T7) (g' := (mkF m 156 #[.val (.int p0), .val (.int p1), .val (.int p2), .val (.int p3), .val (.int p4), .val (.int p5), .val (.ref b1), .val (.ref b6), .val (.int t), .val (.int f), .val (.int (0 : Int32))] [])) (fun _ k_ => XS.istore X7.here hx rfl (hb hby at_154) rfl (l' := #[.val (.int p0), .val (.int p1), .val (.int p2), .val (.int p3), .val (.int p4), .val (.int p5), .val (.ref b1), .val (.ref b6), .val (.int t), .val (.int f), .val (.int (0 : Int32))]) rfl k_) ?_
    refine own_k (T' := T7) (g' := (mkF m 158 #[.val (.int p0), .val (.int p1), .val (.int p2), .val (.int p3), .val (.int p4), .val (.int p5), .val (.ref b1), .val (.ref b6), .val (.int t), .val (.int f), .val (.int (0 : Int32))] [(.ref b6)])) (fun _ k_ => XS.aload X7.here hx rfl (hb hby at_156) rfl rfl  k_) ?_
    refine own_k (T' := T7) (g' := (mkF m 160 #[.val (.int p0), .val (.int p1), .val (.int p2), .val (.int p3), .val (.int p4), .val (.int p5), .val (.ref b1), .val (.ref b6), .val (.int t), .val (.int f), .val (.int (0 : Int32))] [(.int f), (.ref b6)])) (fun _ k_ => XS.iload X7.here hx rfl (hb hby at_158) rfl  k_) ?_
    refine own_k (T' := T7) (g' := (mkF m 162 #[.val (.int p0), .val (.int p1), .val (.int p2), .val (.int p3), .val (.int p4), .val (.int p5), .val (.ref b1), .val (.ref b6), .val (.int t), .val (.int f), .val (.int (0 : Int32))] [(.int t), (.int f), (.ref b6)])) (fun _ k_ => XS.iload X7.here hx rfl (hb hby at_160) rfl  k_) ?_
    have hf0 : f < t → 0 ≤ f.toInt := fun q => hf.elim (fun z => absurd q z) id
    refine own_callS X7 hx hZ (y := (⟨"com/example/restoral/restoral/io/PlainNumbers", "isDigits", "(Ljava/lang/String;II)Z"⟩ : MethodName)) hown (hw _ (List.mem_of_getElem? (i := 36) rfl)) (hw _ (List.mem_of_getElem? (i := 37) rfl)) (hw _ (List.mem_of_getElem? (i := 38) rfl)) (hw _ (List.mem_of_getElem? (i := 39) rfl)) (by decide) (al := [(.ref b6), (.int f), (.int t)]) (rm_isDigits l Z a0 g_COMPACT_STRINGS g_SIOOBE_FORMATTER hW b6 f t [c0, c1, c2, c3] T7.heap O7' hS (own_str_exa hS) (fun q => ⟨hf0 q, rt.2⟩) (own_all_4 r0 r1 r2 r3)) 0 (by decide) (by decide) rfl (by decide) (by decide) (by rw [hml]; rfl) (lenOf pd__28Ljava_2flang_2fString_3bII_29Z rfl) rfl (rest := []) (by show 2 * 0 + _ ≤ _; exact Nat.le_of_eq rfl) (hb hby at_162) ?_
    intro v29 T29 L29 X29 hQ29
    obtain ⟨⟨rr, rfl, hrr⟩, Nq29, e29⟩ := hQ29
    have N29 := Fr.app N7 Nq29
    show own_Go p e below Φ T29 (mkF m 165 #[.val (.int p0), .val (.int p1), .val (.int p2), .val (.int p3), .val (.int p4), .val (.int p5), .val (.ref b1), .val (.ref b6), .val (.int t), .val (.int f), .val (.int (0 : Int32))] [(.int rr)])
    refine own_k (T' := T29) (g' := (mkF m 167 #[.val (.int p0), .val (.int p1), .val (.int p2), .val (.int p3), .val (.int p4), .val (.int p5), .val (.ref b1), .val (.ref b6), .val (.int t), .val (.int f), .val (.int (0 : Int32))] [(.int (0 : Int32)), (.int rr)])) (fun _ k_ => XS.iload X29.here hx rfl (hb hby at_165) rfl  k_) ?_
    refine own_k (T' := T29) (g' := (mkF m 170 #[.val (.int p0), .val (.int p1), .val (.int p2), .val (.int p3), .val (.int p4), .val (.int p5), .val (.ref b1), .val (.ref b6), .val (.int t), .val (.int f), .val (.int (0 : Int32))] [])) (fun _ k_ => XS.icmpNo X29.here hx rfl (hb hby at_167) rfl ((teq (own_is0 hrr (fun q => hc10 q.1))).2) k_) ?_
    refine own_k (T' := T29) (g' := (mkF m 171 #[.val (.int p0), .val (.int p1), .val (.int p2), .val (.int p3), .val (.int p4), .val (.int p5), .val (.ref b1), .val (.ref b6), .val (.int t), .val (.int f), .val (.int (0 : Int32))] [(.int (1 : Int32))])) (fun _ k_ => XS.iconst X29.here hx rfl (hb hby at_170) k_) ?_
    refine own_k (T' := T29) (g' := (mkF m 175 #[.val (.int p0), .val (.int p1), .val (.int p2), .val (.int p3), .val (.int p4), .val (.int p5), .val (.ref b1), .val (.ref b6), .val (.int t), .val (.int f), .val (.int (0 : Int32))] [(.int (1 : Int32))])) (fun _ k_ => XS.goto X29.here hx rfl (pc0 := 171) (pc' := 175) rfl (hb hby at_171) (by decide) (by decide) k_) ?_
    exact own_retN X29 hx (t := .boolean) hret (by simp) hlk (hb hby at_175) hF (⟨by rw [show nar .boolean (1 : Int32) = (1 : Int32) from by decide], N29, trivial⟩) (by decide) (by decide)
set_option maxRecDepth 65536 in
set_option maxHeartbeats 40000000 in
theorem comes_1 {Post : Tables → Env → Array Value → State → Outcome → State → Prop} (hpost : ∀ tb e args s v u, (limb_1_1.after args s (.returned v) u = true ∧ limb_1_2.after args s (.returned v) u = true ∧ True) → FrameEnd s (.returned v) u (Jvm.fieldLocs frame_1_writes args s ++ Jvm.arrayLocs frame_1_arrays args s ++ Jvm.staticLocs frame_1_statics s) 16 128 → Post tb e args s (.returned v) u) :
    ArmFor flags0 classFile x code maxLocals ret World_1 tables_1 room_1 Calls_1 rest_1 Pre_1 Post := by
  intro l hfl _ _ p e ha hc hk s m args below hf hA hF happ hP
  obtain ⟨hcalls, hrest, hpre⟩ := hP
  obtain ⟨-, -, -, hnamed, -, -, -, hat⟩ := (Spec.applies_iff hf).mp happ
  obtain ⟨hg, hn⟩ := and_e (Cond.before_iff.mp (show (Jvm.Cond.and given_1 narrow_1).before args s = true from hpre))
  obtain ⟨g1, g2⟩ := and_e hg
  obtain ⟨g3, g4⟩ := and_e g2
  obtain ⟨g5, g6⟩ := and_e g4
  obtain ⟨g7, g8⟩ := and_e g6
  obtain ⟨g9, g10⟩ := and_e g8
  obtain ⟨g11, g12⟩ := and_e g10
  obtain ⟨w0, w1, w2, w3, w4, w5, rfl⟩ : ∃ w0 w1 w2 w3 w4 w5 : Value, args = #[w0, w1, w2, w3, w4, w5] := by
    have hs : args.size = 6 := by simpa [Cond.value, given_1] using g1
    obtain ⟨L⟩ := args
    match L, hs with
    | [w0, w1, w2, w3, w4, w5], _ => exact ⟨w0, w1, w2, w3, w4, w5, rfl⟩
  have hw := fun d (hd : d ∈ tables_1) => atoms_spec (ws := Jvm.Cond.code x code maxLocals ret :: tables_1) hat d (List.mem_cons_of_mem _ hd)
  have hfit : Fit s := fun {y c} hc i hi => by
    obtain ⟨ha, rfl⟩ := Array.getElem?_eq_some_iff.mp hc
    have q := List.all_eq_true.mp ((Array.all_eq_true_iff_forall_mem.mp hF) _ (Array.getElem_mem ha)) i (List.mem_range.mpr hi)
    simpa [Array.getElem?_eq_getElem hi] using q
  obtain ⟨hsets, hown0⟩ := atoms_of _ (rest_1_c_eq ▸ (show rest_1_c.before _ s = true from hrest))
  obtain ⟨i0, ei0⟩ := is_v g3
  obtain rfl : w0 = (.int i0) := Option.some.inj ei0
  obtain ⟨i1, ei1⟩ := is_v g5
  obtain rfl : w1 = (.int i1) := Option.some.inj ei1
  obtain ⟨i2, ei2⟩ := is_v g7
  obtain rfl : w2 = (.int i2) := Option.some.inj ei2
  obtain ⟨i3, ei3⟩ := is_v g9
  obtain rfl : w3 = (.int i3) := Option.some.inj ei3
  obtain ⟨i4, ei4⟩ := is_v g11
  obtain rfl : w4 = (.int i4) := Option.some.inj ei4
  obtain ⟨i5, ei5⟩ := is_v g12
  obtain rfl : w5 = (.int i5) := Option.some.inj ei5
  obtain ⟨g_COMPACT_STRINGS, ev_g_COMPACT_STRINGS⟩ := is_v (Cond.before_iff.mp (hsets _ (List.mem_of_getElem? (i := 1) rfl)))
  have S_g_COMPACT_STRINGS := Sta.start ev_g_COMPACT_STRINGS (Or.inl (hsets _ (List.mem_of_getElem? (i := 0) rfl)))
  have P_g_COMPACT_STRINGS : ¬ (g_COMPACT_STRINGS = (0 : Int32)) := gotF (Cond.eq_ints ev_g_COMPACT_STRINGS (Term.int_eval (0))) (not_v (Cond.before_iff.mp (hsets _ (List.mem_of_getElem? (i := 2) rfl))))
  obtain ⟨g_SIOOBE_FORMATTER, ev_g_SIOOBE_FORMATTER, R_g_SIOOBE_FORMATTER⟩ := isR_v (Cond.before_iff.mp (hsets _ (List.mem_of_getElem? (i := 8) rfl)))
  have S_g_SIOOBE_FORMATTER := Sta.start ev_g_SIOOBE_FORMATTER (Or.inl (hsets _ (List.mem_of_getElem? (i := 7) rfl)))
  have S_g__assertionsDisabled := Sta.start (own_eqI (Cond.before_iff.mp (hsets _ (List.mem_of_getElem? (i := 12) rfl)))) (Or.inl (hsets _ (List.mem_of_getElem? (i := 11) rfl)))
  have S_g_HI_BYTE_SHIFT := Sta.start (own_eqI (Cond.before_iff.mp (hsets _ (List.mem_of_getElem? (i := 15) rfl)))) (Or.inl (hsets _ (List.mem_of_getElem? (i := 14) rfl)))
  have S_g_LO_BYTE_SHIFT := Sta.start (own_eqI (Cond.before_iff.mp (hsets _ (List.mem_of_getElem? (i := 18) rfl)))) (Or.inl (hsets _ (List.mem_of_getElem? (i := 17) rfl)))
  obtain ⟨n, o, h1, h2, h3, _, L, rfl, ⟨rfl, N, -⟩, hq⟩ := own_law l s _ g_COMPACT_STRINGS g_SIOOBE_FORMATTER ⟨hw, S_g_COMPACT_STRINGS, P_g_COMPACT_STRINGS, R_g_SIOOBE_FORMATTER, S_g_SIOOBE_FORMATTER, S_g__assertionsDisabled, S_g_HI_BYTE_SHIFT, S_g_LO_BYTE_SHIFT⟩ i0 i1 i2 i3 i4 i5 s.heap (Old.start s)  tables_1 p e ha hc hk s m _ below hf ((Spec.applies_iff_loose hf).mp happ).1 ⟨rfl, State.Warmed39.refl s, rfl⟩ trivial
  refine ⟨n, _, h1, h2, h3, hpost _ _ _ _ _ _ ⟨Cond.after_iff.mpr rfl, Cond.after_iff.mpr (eq_i res_at (Term.int_eval (1)) rfl), trivial⟩ ⟨hq.1, hq.2.1, (hq.2.2.sift fun y hy => Or.inr (N y hy)).mono (by decide) (by decide)⟩⟩
theorem main_1_1 : Claimed_1_1 := comes_1 fun _ _ _ _ _ _ h hF => ⟨h.1, hF⟩
theorem main_1_2 : Claimed_1_2 := comes_1 fun _ _ _ _ _ _ h hF => ⟨h.2.1, hF⟩
end Jvm.Pilot.@@N@@
namespace Jvm.Pilot.@@N@@
open Jvm Jvm.ClassFile Sem Op Lib Jvm.Free Jvm.Stand Jvm.Pilot.@@N@@.Jvm.D
/-! MADE BY PROGRAM (witnessworld.py) out of the Statement's table words and the real class files: 20 classes; the members and pool entries that the words name. The judged class is class 1, her method 1. -/
namespace start1
open Jvm.ClassFile
def u (s : String) : CpInfo := .utf8 (stringToUtf16 s)
/-- a pool by its gaps: so many unusable entries, then the entry; so many at the end -/
def gap : Nat → List CpInfo → List CpInfo
  | 0, r => r
  | n + 1, r => .unusable :: gap n r
def poolList (es : List (Nat × CpInfo)) (last : Nat) : List CpInfo := es.foldr (fun e r => gap e.1 (e.2 :: r)) (gap last [])
def pool (es : List (Nat × CpInfo)) (last : Nat) : Array CpInfo := ⟨poolList es last⟩
def fileOf (pool : Array CpInfo) (this : Nat) (attrs : Array Attribute := #[]) (ms : Array MethodInfo := #[]) (fl : Nat := 33) (sup : Nat := 0) (ifs : Array Nat := #[]) (fds : Array FieldInfo := #[]) : ClassFile where
  minorVersion := 0
  majorVersion := 65
  constantPool := pool
  accessFlags := fl
  thisClass := this
  superClass := sup
  interfaces := ifs
  fields := fds
  methods := ms
  attributes := attrs
def plain (name : String) (sup : Option ClassId) : Class where
  name := name
  kind := .ordinary
  loader := none
  accessFlags := 33
  super := sup
  interfaces := #[]
  cf := none
  fields := #[]
  methods := #[]
  instanceTypes := #[]
  staticTypes := #[]
  resolved := #[]
  callSites := []
  init := .initialized
  statics := none
  mirror := none

def pool0 : Array CpInfo := pool [(5, u "<init>"), (0, u "()V"), (1, .class_ 10), (1, u "java/lang/Object")] 113

def k0c0 : Code := { maxStack := 0, maxLocals := 1, code := object_method_1_code, exceptionTable := #[], attributes := #[] }
def k0m0 : Method := { name := "<init>", desc := "()V", sig := { parameters := [], returnType := none }, accessFlags := 1, code := some k0c0 }
/-- java/lang/Object -/
def k0 : Class := { plain "java/lang/Object" none with
  accessFlags := 33
  interfaces := #[]
  cf := some (fileOf pool0 8 #[] #[{ accessFlags := 1, nameIndex := 5, descriptorIndex := 6, attributes := #[] }] 33 0 #[] #[])
  fields := #[]
  methods := #[k0m0]
  instanceTypes := #[]
  staticTypes := #[]
  resolved := Array.replicate 124 none
  statics := none }

def pool1 : Array CpInfo := pool [(2, .class_ 4), (1, u "java/lang/Object"), (0, u "<init>"), (0, u "()V"), (0, .integer 65535), (0, .class_ 9), (0, u "java/lang/String"), (0, .methodref 8 11), (0, .nameAndType 5 12), (0, u "([C)V"), (0, .integer 2147483647), (0, .methodref 15 16), (0, .class_ 17), (0, .nameAndType 18 19), (0, u "com/example/restoral/restoral/io/PlainNumbersIsDigitsPinLaw"), (0, u "covered"), (0, u "(IIIC)Z"), (0, .methodref 21 22), (0, .class_ 23), (0, .nameAndType 24 25), (0, u "com/example/restoral/restoral/io/PlainNumbers"), (0, u "isDigits"), (0, u "(Ljava/lang/String;II)Z"), (2, u "law"), (0, u "(IIIIII)Z")] 5

def k1m0 : Method := { name := "<init>", desc := "()V", sig := { parameters := [], returnType := none }, accessFlags := 2, code := none }
def k1c1 : Code := { maxStack := 5, maxLocals := 11, code := code, exceptionTable := #[], attributes := #[] }
def k1m1 : Method := { name := "law", desc := "(IIIIII)Z", sig := { parameters := [.int, .int, .int, .int, .int, .int], returnType := some .boolean }, accessFlags := 9, code := some k1c1 }
def k1c2 : Code := { maxStack := 2, maxLocals := 4, code := method_3_code, exceptionTable := #[], attributes := #[] }
def k1m2 : Method := { name := "covered", desc := "(IIIC)Z", sig := { parameters := [.int, .int, .int, .char], returnType := some .boolean }, accessFlags := 10, code := some k1c2 }
/-- com/example/restoral/restoral/io/PlainNumbersIsDigitsPinLaw -/
def k1 : Class := { plain "com/example/restoral/restoral/io/PlainNumbersIsDigitsPinLaw" (some 0) with
  accessFlags := 49
  interfaces := #[]
  cf := some (fileOf pool1 15 #[] #[{ accessFlags := 2, nameIndex := 5, descriptorIndex := 6, attributes := #[] }, { accessFlags := 9, nameIndex := 28, descriptorIndex := 29, attributes := #[] }, { accessFlags := 10, nameIndex := 18, descriptorIndex := 19, attributes := #[] }] 49 2 #[] #[])
  fields := #[]
  methods := #[k1m0, k1m1, k1m2]
  instanceTypes := #[]
  staticTypes := #[]
  resolved := Array.replicate 35 none
  statics := none }

def pool2 : Array CpInfo := pool [(1, .class_ 2), (0, u "java/io/Serializable"), (0, .class_ 4), (0, u "java/lang/Object")] 2

/-- java/io/Serializable -/
def k2 : Class := { plain "java/io/Serializable" (some 0) with
  accessFlags := 1537
  interfaces := #[]
  cf := some (fileOf pool2 1 #[] #[] 1537 3 #[] #[])
  fields := #[]
  methods := #[]
  instanceTypes := #[]
  staticTypes := #[]
  resolved := Array.replicate 7 none
  statics := none }

def pool3 : Array CpInfo := pool [(1, .class_ 2), (0, u "java/lang/Comparable"), (0, .class_ 4), (0, u "java/lang/Object")] 7

/-- java/lang/Comparable -/
def k3 : Class := { plain "java/lang/Comparable" (some 0) with
  accessFlags := 1537
  interfaces := #[]
  cf := some (fileOf pool3 1 #[] #[] 1537 3 #[] #[])
  fields := #[]
  methods := #[]
  instanceTypes := #[]
  staticTypes := #[]
  resolved := Array.replicate 12 none
  statics := none }

def pool4 : Array CpInfo := pool [(2, .class_ 4), (1, u "java/lang/CharSequence"), (42, .class_ 48), (0, u "java/lang/CharSequence$1CodePointIterator"), (10, .class_ 60), (0, u "java/lang/CharSequence$1CharIterator"), (5, .class_ 67), (0, u "java/lang/Object")] 63

/-- java/lang/CharSequence -/
def k4 : Class := { plain "java/lang/CharSequence" (some 0) with
  accessFlags := 1537
  interfaces := #[]
  cf := some (fileOf pool4 2 #[.nestMembers #[47, 59]] #[] 1537 66 #[] #[])
  fields := #[]
  methods := #[]
  instanceTypes := #[]
  staticTypes := #[]
  resolved := Array.replicate 131 none
  statics := none }

def pool5 : Array CpInfo := pool [(1, .class_ 2), (0, u "java/lang/constant/Constable"), (0, .class_ 4), (0, u "java/lang/Object")] 6

/-- java/lang/constant/Constable -/
def k5 : Class := { plain "java/lang/constant/Constable" (some 0) with
  accessFlags := 1537
  interfaces := #[]
  cf := some (fileOf pool5 1 #[] #[] 1537 3 #[] #[])
  fields := #[]
  methods := #[]
  instanceTypes := #[]
  staticTypes := #[]
  resolved := Array.replicate 11 none
  statics := none }

def pool6 : Array CpInfo := pool [(1, .class_ 2), (0, u "java/lang/constant/ConstantDesc"), (0, .class_ 4), (0, u "java/lang/Object")] 32

/-- java/lang/constant/ConstantDesc -/
def k6 : Class := { plain "java/lang/constant/ConstantDesc" (some 0) with
  accessFlags := 1537
  interfaces := #[]
  cf := some (fileOf pool6 1 #[] #[] 1537 3 #[] #[])
  fields := #[]
  methods := #[]
  instanceTypes := #[]
  staticTypes := #[]
  resolved := Array.replicate 37 none
  statics := none }

def pool7 : Array CpInfo := pool [(1, .methodref 2 3), (0, .class_ 4), (0, .nameAndType 5 6), (0, u "java/lang/Object"), (0, u "<init>"), (0, u "()V"), (2, .fieldref 10 11), (0, .class_ 12), (0, .nameAndType 13 14), (0, u "java/lang/String"), (0, u "value"), (0, u "[B"), (0, .fieldref 10 16), (0, .nameAndType 17 18), (0, u "coder"), (0, u "B"), (2, u "hash"), (0, u "I"), (2, u "hashIsZero"), (0, u "Z"), (0, .methodref 10 28), (0, .nameAndType 5 29), (0, u "([CIILjava/lang/Void;)V"), (8, .fieldref 10 39), (0, .nameAndType 40 26), (0, u "COMPACT_STRINGS"), (1, .class_ 44), (1, u "java/lang/StringUTF16"), (0, u "compress"), (1, .methodref 42 48), (0, .nameAndType 49 50), (0, u "coderFromArrayLen"), (0, u "([BI)B"), (56, .class_ 109), (1, u "java/lang/StringLatin1"), (32, u "()Z"), (34, .methodref 42 178), (0, .nameAndType 45 179), (0, u "([CII)[B"), (183, u "([BI)C"), (27, u "(II)V"), (35, u "(I)C"), (64, .methodref 10 493), (0, .nameAndType 494 142), (0, u "isLatin1"), (0, .methodref 107 496), (0, .nameAndType 497 363), (0, u "charAt"), (0, .methodref 42 496), (2, u "checkIndex"), (73, .class_ 576), (0, u "java/lang/CharSequence"), (22, u "CASE_INSENSITIVE_ORDER"), (0, u "Ljava/util/Comparator;"), (409, u "([C)V"), (42, .fieldref 1054 1055), (0, .class_ 1056), (0, .nameAndType 1057 1058), (0, u "jdk/internal/util/Preconditions"), (0, u "SIOOBE_FORMATTER"), (0, u "Ljava/util/function/BiFunction;"), (0, .methodref 1054 1060), (0, .nameAndType 501 1061), (0, u "(IILjava/util/function/BiFunction;)I"), (39, u "serialPersistentFields"), (0, u "[Ljava/io/ObjectStreamField;"), (0, .class_ 1104), (0, u "java/lang/String$CaseInsensitiveComparator"), (1, .class_ 1107), (0, u "java/io/Serializable"), (0, .class_ 1109), (0, u "java/lang/Comparable"), (0, .class_ 1111), (0, u "java/lang/constant/Constable"), (0, .class_ 1113), (0, u "java/lang/constant/ConstantDesc"), (2, u "serialVersionUID"), (0, u "J"), (3, u "REPL"), (0, u "C"), (2, u "LATIN1"), (1, u "UTF16")] 323

def k7m0 : Method := { name := "<init>", desc := "()V", sig := { parameters := [], returnType := none }, accessFlags := 1, code := none }
def k7c1 : Code := { maxStack := 5, maxLocals := 2, code := jdk_42_method_3_code, exceptionTable := #[], attributes := #[] }
def k7m1 : Method := { name := "<init>", desc := "([C)V", sig := { parameters := [(.array .char)], returnType := none }, accessFlags := 1, code := some k7c1 }
def k7c2 : Code := { maxStack := 2, maxLocals := 2, code := jdk_42_method_56_code, exceptionTable := #[], attributes := #[] }
def k7m2 : Method := { name := "charAt", desc := "(I)C", sig := { parameters := [.int], returnType := some .char }, accessFlags := 1, code := some k7c2 }
def k7c3 : Code := { maxStack := 4, maxLocals := 6, code := jdk_42_method_149_code, exceptionTable := #[], attributes := #[] }
def k7m3 : Method := { name := "<init>", desc := "([CIILjava/lang/Void;)V", sig := { parameters := [(.array .char), .int, .int, (.object "java/lang/Void")], returnType := none }, accessFlags := 2, code := some k7c3 }
def k7c4 : Code := { maxStack := 1, maxLocals := 1, code := jdk_42_method_154_code, exceptionTable := #[], attributes := #[] }
def k7m4 : Method := { name := "isLatin1", desc := "()Z", sig := { parameters := [], returnType := some .boolean }, accessFlags := 0, code := some k7c4 }
def k7c5 : Code := { maxStack := 3, maxLocals := 2, code := jdk_42_method_155_code, exceptionTable := #[], attributes := #[] }
def k7m5 : Method := { name := "checkIndex", desc := "(II)V", sig := { parameters := [.int, .int], returnType := none }, accessFlags := 8, code := some k7c5 }
/-- java/lang/String -/
def k7 : Class := { plain "java/lang/String" (some 0) with
  accessFlags := 49
  interfaces := #[2, 3, 4, 5, 6]
  cf := some (fileOf pool7 10 #[.nestMembers #[1103]] #[{ accessFlags := 1, nameIndex := 5, descriptorIndex := 6, attributes := #[] }, { accessFlags := 1, nameIndex := 5, descriptorIndex := 1010, attributes := #[] }, { accessFlags := 1, nameIndex := 497, descriptorIndex := 427, attributes := #[] }, { accessFlags := 2, nameIndex := 5, descriptorIndex := 29, attributes := #[] }, { accessFlags := 0, nameIndex := 494, descriptorIndex := 142, attributes := #[] }, { accessFlags := 8, nameIndex := 501, descriptorIndex := 391, attributes := #[] }] 49 2 #[1106, 1108, 575, 1110, 1112] #[{ accessFlags := 18, nameIndex := 13, descriptorIndex := 14, attributes := #[] }, { accessFlags := 18, nameIndex := 17, descriptorIndex := 18, attributes := #[] }, { accessFlags := 2, nameIndex := 21, descriptorIndex := 22, attributes := #[] }, { accessFlags := 2, nameIndex := 25, descriptorIndex := 26, attributes := #[] }, { accessFlags := 26, nameIndex := 1116, descriptorIndex := 1117, attributes := #[] }, { accessFlags := 24, nameIndex := 40, descriptorIndex := 26, attributes := #[] }, { accessFlags := 26, nameIndex := 1101, descriptorIndex := 1102, attributes := #[] }, { accessFlags := 26, nameIndex := 1121, descriptorIndex := 1122, attributes := #[] }, { accessFlags := 25, nameIndex := 599, descriptorIndex := 600, attributes := #[] }, { accessFlags := 24, nameIndex := 1125, descriptorIndex := 18, attributes := #[] }, { accessFlags := 24, nameIndex := 1127, descriptorIndex := 18, attributes := #[] }])
  fields := #[{ name := "value", type := (.array .byte), accessFlags := 18, slot := 0, constantValue := 0 }, { name := "coder", type := .byte, accessFlags := 18, slot := 1, constantValue := 0 }, { name := "hash", type := .int, accessFlags := 2, slot := 2, constantValue := 0 }, { name := "hashIsZero", type := .boolean, accessFlags := 2, slot := 3, constantValue := 0 }, { name := "serialVersionUID", type := .long, accessFlags := 26, slot := 0, constantValue := 0 }, { name := "COMPACT_STRINGS", type := .boolean, accessFlags := 24, slot := 1, constantValue := 0 }, { name := "serialPersistentFields", type := (.array (.object "java/io/ObjectStreamField")), accessFlags := 26, slot := 2, constantValue := 0 }, { name := "REPL", type := .char, accessFlags := 26, slot := 3, constantValue := 0 }, { name := "CASE_INSENSITIVE_ORDER", type := (.object "java/util/Comparator"), accessFlags := 25, slot := 4, constantValue := 0 }, { name := "LATIN1", type := .byte, accessFlags := 24, slot := 5, constantValue := 0 }, { name := "UTF16", type := .byte, accessFlags := 24, slot := 6, constantValue := 0 }]
  methods := #[k7m0, k7m1, k7m2, k7m3, k7m4, k7m5]
  instanceTypes := #[(.array .byte), .byte, .int, .boolean]
  staticTypes := #[.long, .boolean, (.array (.object "java/io/ObjectStreamField")), .char, (.object "java/util/Comparator"), .byte, .byte]
  resolved := Array.replicate 1451 none
  statics := some 0 }

def pool8 : Array CpInfo := pool [(3, .class_ 4), (0, u "java/lang/String"), (1, .class_ 8), (1, u "java/lang/Object"), (0, u "<init>"), (0, u "()V"), (0, .methodref 12 13), (0, .class_ 14), (0, .nameAndType 15 16), (0, u "java/lang/StringUTF16"), (0, u "newBytesLength"), (0, u "(I)I"), (3, .integer 1073741823), (23, .fieldref 12 45), (0, .nameAndType 46 47), (0, u "$assertionsDisabled"), (0, u "Z"), (0, .methodref 12 49), (0, .nameAndType 50 51), (0, u "length"), (0, u "([B)I"), (7, .fieldref 12 60), (0, .nameAndType 61 62), (0, u "HI_BYTE_SHIFT"), (0, u "I"), (0, .fieldref 12 64), (0, .nameAndType 65 62), (0, u "LO_BYTE_SHIFT"), (1, .methodref 12 68), (0, .nameAndType 69 70), (0, u "checkIndex"), (0, u "(I[B)V"), (0, .methodref 12 72), (0, .nameAndType 73 74), (0, u "getChar"), (0, u "([BI)C"), (32, .methodref 12 108), (0, .nameAndType 109 110), (0, u "newBytesFor"), (0, u "(I)[B"), (0, .methodref 12 112), (0, .nameAndType 113 114), (0, u "putChar"), (0, u "([BII)V"), (0, .methodref 12 116), (0, .nameAndType 117 118), (0, u "compress"), (0, u "([CI[BII)I"), (0, .methodref 12 120), (0, .nameAndType 121 122), (0, u "toBytes"), (0, u "([CII)[B"), (138, u "coderFromArrayLen"), (0, u "([BI)B"), (106, .class_ 371), (1, u "java/lang/StringUTF16$LinesSpliterator"), (20, u "charAt"), (21, .methodref 3 415), (0, .nameAndType 69 416), (0, u "(II)V"), (13, u "MAX_LENGTH"), (196, .class_ 628), (0, u "java/lang/StringUTF16$CodePointsSpliterator"), (0, .class_ 630), (0, u "java/lang/StringUTF16$CharsSpliterator")] 4

def k8m0 : Method := { name := "<init>", desc := "()V", sig := { parameters := [], returnType := none }, accessFlags := 0, code := none }
def k8c1 : Code := { maxStack := 1, maxLocals := 1, code := jdk_52_method_2_code, exceptionTable := #[], attributes := #[] }
def k8m1 : Method := { name := "newBytesFor", desc := "(I)[B", sig := { parameters := [.int], returnType := some (.array .byte) }, accessFlags := 9, code := some k8c1 }
def k8c2 : Code := { maxStack := 4, maxLocals := 1, code := jdk_52_method_3_code, exceptionTable := #[], attributes := #[] }
def k8m2 : Method := { name := "newBytesLength", desc := "(I)I", sig := { parameters := [.int], returnType := some .int }, accessFlags := 9, code := some k8c2 }
def k8c3 : Code := { maxStack := 4, maxLocals := 3, code := jdk_52_method_4_code, exceptionTable := #[], attributes := #[] }
def k8m3 : Method := { name := "putChar", desc := "([BII)V", sig := { parameters := [(.array .byte), .int, .int], returnType := none }, accessFlags := 8, code := some k8c3 }
def k8c4 : Code := { maxStack := 3, maxLocals := 2, code := jdk_52_method_5_code, exceptionTable := #[], attributes := #[] }
def k8m4 : Method := { name := "getChar", desc := "([BI)C", sig := { parameters := [(.array .byte), .int], returnType := some .char }, accessFlags := 8, code := some k8c4 }
def k8c5 : Code := { maxStack := 2, maxLocals := 1, code := jdk_52_method_6_code, exceptionTable := #[], attributes := #[] }
def k8m5 : Method := { name := "length", desc := "([B)I", sig := { parameters := [(.array .byte)], returnType := some .int }, accessFlags := 9, code := some k8c5 }
def k8c6 : Code := { maxStack := 4, maxLocals := 5, code := jdk_52_method_14_code, exceptionTable := #[], attributes := #[] }
def k8m6 : Method := { name := "toBytes", desc := "([CII)[B", sig := { parameters := [(.array .char), .int, .int], returnType := some (.array .byte) }, accessFlags := 9, code := some k8c6 }
def k8c7 : Code := { maxStack := 2, maxLocals := 2, code := jdk_52_method_15_code, exceptionTable := #[], attributes := #[] }
def k8m7 : Method := { name := "coderFromArrayLen", desc := "([BI)B", sig := { parameters := [(.array .byte), .int], returnType := some .byte }, accessFlags := 8, code := some k8c7 }
def k8c8 : Code := { maxStack := 5, maxLocals := 6, code := jdk_52_method_16_code, exceptionTable := #[], attributes := #[] }
def k8m8 : Method := { name := "compress", desc := "([CII)[B", sig := { parameters := [(.array .char), .int, .int], returnType := some (.array .byte) }, accessFlags := 9, code := some k8c8 }
def k8c9 : Code := { maxStack := 3, maxLocals := 7, code := jdk_52_method_21_code, exceptionTable := #[], attributes := #[] }
def k8m9 : Method := { name := "compress", desc := "([CI[BII)I", sig := { parameters := [(.array .char), .int, (.array .byte), .int, .int], returnType := some .int }, accessFlags := 9, code := some k8c9 }
def k8c10 : Code := { maxStack := 2, maxLocals := 2, code := jdk_52_method_83_code, exceptionTable := #[], attributes := #[] }
def k8m10 : Method := { name := "charAt", desc := "([BI)C", sig := { parameters := [(.array .byte), .int], returnType := some .char }, accessFlags := 9, code := some k8c10 }
def k8c11 : Code := { maxStack := 2, maxLocals := 2, code := jdk_52_method_91_code, exceptionTable := #[], attributes := #[] }
def k8m11 : Method := { name := "checkIndex", desc := "(I[B)V", sig := { parameters := [.int, (.array .byte)], returnType := none }, accessFlags := 9, code := some k8c11 }
/-- java/lang/StringUTF16 -/
def k8 : Class := { plain "java/lang/StringUTF16" (some 0) with
  accessFlags := 48
  interfaces := #[]
  cf := some (fileOf pool8 12 #[.nestMembers #[627, 629, 369]] #[{ accessFlags := 0, nameIndex := 9, descriptorIndex := 10, attributes := #[] }, { accessFlags := 9, nameIndex := 109, descriptorIndex := 110, attributes := #[] }, { accessFlags := 9, nameIndex := 15, descriptorIndex := 16, attributes := #[] }, { accessFlags := 8, nameIndex := 113, descriptorIndex := 114, attributes := #[] }, { accessFlags := 8, nameIndex := 73, descriptorIndex := 74, attributes := #[] }, { accessFlags := 9, nameIndex := 50, descriptorIndex := 51, attributes := #[] }, { accessFlags := 9, nameIndex := 121, descriptorIndex := 122, attributes := #[] }, { accessFlags := 8, nameIndex := 261, descriptorIndex := 262, attributes := #[] }, { accessFlags := 9, nameIndex := 117, descriptorIndex := 122, attributes := #[] }, { accessFlags := 9, nameIndex := 117, descriptorIndex := 118, attributes := #[] }, { accessFlags := 9, nameIndex := 392, descriptorIndex := 74, attributes := #[] }, { accessFlags := 9, nameIndex := 69, descriptorIndex := 70, attributes := #[] }] 48 6 #[] #[{ accessFlags := 26, nameIndex := 61, descriptorIndex := 62, attributes := #[] }, { accessFlags := 26, nameIndex := 65, descriptorIndex := 62, attributes := #[] }, { accessFlags := 24, nameIndex := 430, descriptorIndex := 62, attributes := #[] }, { accessFlags := 4120, nameIndex := 46, descriptorIndex := 47, attributes := #[] }])
  fields := #[{ name := "HI_BYTE_SHIFT", type := .int, accessFlags := 26, slot := 0, constantValue := 0 }, { name := "LO_BYTE_SHIFT", type := .int, accessFlags := 26, slot := 1, constantValue := 0 }, { name := "MAX_LENGTH", type := .int, accessFlags := 24, slot := 2, constantValue := 0 }, { name := "$assertionsDisabled", type := .boolean, accessFlags := 4120, slot := 3, constantValue := 0 }]
  methods := #[k8m0, k8m1, k8m2, k8m3, k8m4, k8m5, k8m6, k8m7, k8m8, k8m9, k8m10, k8m11]
  instanceTypes := #[]
  staticTypes := #[.int, .int, .int, .boolean]
  resolved := Array.replicate 635 none
  statics := some 1 }

def pool9 : Array CpInfo := pool [(2, .class_ 4), (1, u "java/lang/Object"), (0, u "<init>"), (0, u "()V"), (3, .class_ 12), (1, u "java/lang/String"), (11, .class_ 26), (1, u "com/example/restoral/restoral/io/PlainNumbers"), (0, u "isDigits"), (0, u "(Ljava/lang/String;II)Z"), (0, .methodref 10 30), (0, .nameAndType 31 32), (0, u "charAt"), (0, u "(I)C")] 6

def k9m0 : Method := { name := "<init>", desc := "()V", sig := { parameters := [], returnType := none }, accessFlags := 2, code := none }
def k9c1 : Code := { maxStack := 2, maxLocals := 4, code := prog_36_method_3_code, exceptionTable := #[], attributes := #[] }
def k9m1 : Method := { name := "isDigits", desc := "(Ljava/lang/String;II)Z", sig := { parameters := [(.object "java/lang/String"), .int, .int], returnType := some .boolean }, accessFlags := 8, code := some k9c1 }
/-- com/example/restoral/restoral/io/PlainNumbers -/
def k9 : Class := { plain "com/example/restoral/restoral/io/PlainNumbers" (some 0) with
  accessFlags := 48
  interfaces := #[]
  cf := some (fileOf pool9 24 #[] #[{ accessFlags := 2, nameIndex := 5, descriptorIndex := 6, attributes := #[] }, { accessFlags := 8, nameIndex := 27, descriptorIndex := 28, attributes := #[] }] 48 2 #[] #[])
  fields := #[]
  methods := #[k9m0, k9m1]
  instanceTypes := #[]
  staticTypes := #[]
  resolved := Array.replicate 39 none
  statics := none }

def pool10 : Array CpInfo := pool [(1, .class_ 2), (0, u "java/lang/String"), (1, .class_ 6), (1, u "java/lang/Object"), (0, u "<init>"), (0, u "()V"), (0, .methodref 1 10), (0, .nameAndType 11 12), (0, u "checkIndex"), (0, u "(II)V"), (1, .class_ 16), (1, u "java/lang/StringLatin1"), (36, u "([BI)C"), (67, u "$assertionsDisabled"), (0, u "Z"), (98, .class_ 223), (1, u "java/lang/StringLatin1$LinesSpliterator"), (28, u "charAt"), (137, .class_ 391), (0, u "java/lang/StringLatin1$CharsSpliterator")] 3

def k10m0 : Method := { name := "<init>", desc := "()V", sig := { parameters := [], returnType := none }, accessFlags := 0, code := none }
def k10c1 : Code := { maxStack := 2, maxLocals := 2, code := jdk_43_method_2_code, exceptionTable := #[], attributes := #[] }
def k10m1 : Method := { name := "charAt", desc := "([BI)C", sig := { parameters := [(.array .byte), .int], returnType := some .char }, accessFlags := 9, code := some k10c1 }
/-- java/lang/StringLatin1 -/
def k10 : Class := { plain "java/lang/StringLatin1" (some 0) with
  accessFlags := 48
  interfaces := #[]
  cf := some (fileOf pool10 14 #[.nestMembers #[390, 221]] #[{ accessFlags := 0, nameIndex := 7, descriptorIndex := 8, attributes := #[] }, { accessFlags := 9, nameIndex := 252, descriptorIndex := 53, attributes := #[] }] 48 4 #[] #[{ accessFlags := 4120, nameIndex := 121, descriptorIndex := 122, attributes := #[] }])
  fields := #[{ name := "$assertionsDisabled", type := .boolean, accessFlags := 4120, slot := 0, constantValue := 0 }]
  methods := #[k10m0, k10m1]
  instanceTypes := #[]
  staticTypes := #[.boolean]
  resolved := Array.replicate 395 none
  statics := none }

def pool11 : Array CpInfo := pool [(2, .class_ 4), (1, u "java/lang/Object"), (0, u "<init>"), (0, u "()V"), (17, .class_ 26), (1, u "jdk/internal/util/Preconditions"), (6, u "checkIndex"), (21, .class_ 56), (0, u "jdk/internal/util/Preconditions$4"), (57, .class_ 115), (0, u "jdk/internal/util/Preconditions$1"), (7, u "SIOOBE_FORMATTER"), (0, u "Ljava/util/function/BiFunction;"), (0, .class_ 126), (0, u "jdk/internal/util/Preconditions$2"), (3, u "AIOOBE_FORMATTER"), (0, .class_ 132), (0, u "jdk/internal/util/Preconditions$3"), (3, u "IOOBE_FORMATTER"), (41, u "(IILjava/util/function/BiFunction;)I")] 15

def k11m0 : Method := { name := "<init>", desc := "()V", sig := { parameters := [], returnType := none }, accessFlags := 1, code := none }
def k11c1 : Code := { maxStack := 3, maxLocals := 3, code := jdk_41_method_11_code, exceptionTable := #[], attributes := #[] }
def k11m1 : Method := { name := "checkIndex", desc := "(IILjava/util/function/BiFunction;)I", sig := { parameters := [.int, .int, (.object "java/util/function/BiFunction")], returnType := some .int }, accessFlags := 9, code := some k11c1 }
/-- jdk/internal/util/Preconditions -/
def k11 : Class := { plain "jdk/internal/util/Preconditions" (some 0) with
  accessFlags := 33
  interfaces := #[]
  cf := some (fileOf pool11 24 #[.nestMembers #[55, 131, 125, 114]] #[{ accessFlags := 1, nameIndex := 5, descriptorIndex := 6, attributes := #[] }, { accessFlags := 9, nameIndex := 33, descriptorIndex := 178, attributes := #[] }] 33 2 #[] #[{ accessFlags := 25, nameIndex := 123, descriptorIndex := 124, attributes := #[] }, { accessFlags := 25, nameIndex := 130, descriptorIndex := 124, attributes := #[] }, { accessFlags := 25, nameIndex := 136, descriptorIndex := 124, attributes := #[] }])
  fields := #[{ name := "SIOOBE_FORMATTER", type := (.object "java/util/function/BiFunction"), accessFlags := 25, slot := 0, constantValue := 0 }, { name := "AIOOBE_FORMATTER", type := (.object "java/util/function/BiFunction"), accessFlags := 25, slot := 1, constantValue := 0 }, { name := "IOOBE_FORMATTER", type := (.object "java/util/function/BiFunction"), accessFlags := 25, slot := 2, constantValue := 0 }]
  methods := #[k11m0, k11m1]
  instanceTypes := #[]
  staticTypes := #[(.object "java/util/function/BiFunction"), (.object "java/util/function/BiFunction"), (.object "java/util/function/BiFunction")]
  resolved := Array.replicate 194 none
  statics := some 2 }

def pool12 : Array CpInfo := pool [(9, u "<init>"), (6, .class_ 18), (1, u "java/lang/Object"), (0, u "()V"), (1, .class_ 23), (1, u "jdk/internal/util/ArraysSupport"), (0, u "LOG2_ARRAY_LONG_INDEX_SCALE"), (0, u "I"), (2, u "U"), (0, u "Ljdk/internal/misc/Unsafe;"), (8, u "BIG_ENDIAN"), (0, u "Z"), (8, u "LOG2_BYTE_BIT_SIZE"), (4, u "LOG2_ARRAY_INT_INDEX_SCALE"), (54, u "JLA"), (0, u "Ljdk/internal/access/JavaLangAccess;"), (11, u "LOG2_ARRAY_BOOLEAN_INDEX_SCALE"), (9, u "LOG2_ARRAY_BYTE_INDEX_SCALE"), (5, u "LOG2_ARRAY_CHAR_INDEX_SCALE"), (5, u "LOG2_ARRAY_SHORT_INDEX_SCALE"), (18, u "LOG2_ARRAY_FLOAT_INDEX_SCALE"), (24, u "LOG2_ARRAY_DOUBLE_INDEX_SCALE"), (89, u "T_BOOLEAN"), (2, u "T_CHAR"), (1, u "T_FLOAT"), (1, u "T_DOUBLE"), (1, u "T_BYTE"), (1, u "T_SHORT"), (1, u "T_INT"), (1, u "T_LONG"), (1, u "SOFT_MAX_ARRAY_LENGTH")] 83

def k12m0 : Method := { name := "<init>", desc := "()V", sig := { parameters := [], returnType := none }, accessFlags := 2, code := none }
/-- jdk/internal/util/ArraysSupport -/
def k12 : Class := { plain "jdk/internal/util/ArraysSupport" (some 0) with
  accessFlags := 33
  interfaces := #[]
  cf := some (fileOf pool12 21 #[] #[{ accessFlags := 2, nameIndex := 9, descriptorIndex := 19, attributes := #[] }] 33 16 #[] #[{ accessFlags := 24, nameIndex := 28, descriptorIndex := 29, attributes := #[] }, { accessFlags := 26, nameIndex := 38, descriptorIndex := 39, attributes := #[] }, { accessFlags := 25, nameIndex := 121, descriptorIndex := 25, attributes := #[] }, { accessFlags := 25, nameIndex := 131, descriptorIndex := 25, attributes := #[] }, { accessFlags := 25, nameIndex := 137, descriptorIndex := 25, attributes := #[] }, { accessFlags := 25, nameIndex := 143, descriptorIndex := 25, attributes := #[] }, { accessFlags := 25, nameIndex := 53, descriptorIndex := 25, attributes := #[] }, { accessFlags := 25, nameIndex := 24, descriptorIndex := 25, attributes := #[] }, { accessFlags := 25, nameIndex := 162, descriptorIndex := 25, attributes := #[] }, { accessFlags := 25, nameIndex := 187, descriptorIndex := 25, attributes := #[] }, { accessFlags := 26, nameIndex := 48, descriptorIndex := 25, attributes := #[] }, { accessFlags := 25, nameIndex := 277, descriptorIndex := 25, attributes := #[] }, { accessFlags := 25, nameIndex := 280, descriptorIndex := 25, attributes := #[] }, { accessFlags := 25, nameIndex := 282, descriptorIndex := 25, attributes := #[] }, { accessFlags := 25, nameIndex := 284, descriptorIndex := 25, attributes := #[] }, { accessFlags := 25, nameIndex := 286, descriptorIndex := 25, attributes := #[] }, { accessFlags := 25, nameIndex := 288, descriptorIndex := 25, attributes := #[] }, { accessFlags := 25, nameIndex := 290, descriptorIndex := 25, attributes := #[] }, { accessFlags := 25, nameIndex := 292, descriptorIndex := 25, attributes := #[] }, { accessFlags := 26, nameIndex := 108, descriptorIndex := 109, attributes := #[] }, { accessFlags := 25, nameIndex := 294, descriptorIndex := 25, attributes := #[] }])
  fields := #[{ name := "U", type := (.object "jdk/internal/misc/Unsafe"), accessFlags := 24, slot := 0, constantValue := 0 }, { name := "BIG_ENDIAN", type := .boolean, accessFlags := 26, slot := 1, constantValue := 0 }, { name := "LOG2_ARRAY_BOOLEAN_INDEX_SCALE", type := .int, accessFlags := 25, slot := 2, constantValue := 0 }, { name := "LOG2_ARRAY_BYTE_INDEX_SCALE", type := .int, accessFlags := 25, slot := 3, constantValue := 0 }, { name := "LOG2_ARRAY_CHAR_INDEX_SCALE", type := .int, accessFlags := 25, slot := 4, constantValue := 0 }, { name := "LOG2_ARRAY_SHORT_INDEX_SCALE", type := .int, accessFlags := 25, slot := 5, constantValue := 0 }, { name := "LOG2_ARRAY_INT_INDEX_SCALE", type := .int, accessFlags := 25, slot := 6, constantValue := 0 }, { name := "LOG2_ARRAY_LONG_INDEX_SCALE", type := .int, accessFlags := 25, slot := 7, constantValue := 0 }, { name := "LOG2_ARRAY_FLOAT_INDEX_SCALE", type := .int, accessFlags := 25, slot := 8, constantValue := 0 }, { name := "LOG2_ARRAY_DOUBLE_INDEX_SCALE", type := .int, accessFlags := 25, slot := 9, constantValue := 0 }, { name := "LOG2_BYTE_BIT_SIZE", type := .int, accessFlags := 26, slot := 10, constantValue := 0 }, { name := "T_BOOLEAN", type := .int, accessFlags := 25, slot := 11, constantValue := 0 }, { name := "T_CHAR", type := .int, accessFlags := 25, slot := 12, constantValue := 0 }, { name := "T_FLOAT", type := .int, accessFlags := 25, slot := 13, constantValue := 0 }, { name := "T_DOUBLE", type := .int, accessFlags := 25, slot := 14, constantValue := 0 }, { name := "T_BYTE", type := .int, accessFlags := 25, slot := 15, constantValue := 0 }, { name := "T_SHORT", type := .int, accessFlags := 25, slot := 16, constantValue := 0 }, { name := "T_INT", type := .int, accessFlags := 25, slot := 17, constantValue := 0 }, { name := "T_LONG", type := .int, accessFlags := 25, slot := 18, constantValue := 0 }, { name := "JLA", type := (.object "jdk/internal/access/JavaLangAccess"), accessFlags := 26, slot := 19, constantValue := 0 }, { name := "SOFT_MAX_ARRAY_LENGTH", type := .int, accessFlags := 25, slot := 20, constantValue := 0 }]
  methods := #[k12m0]
  instanceTypes := #[]
  staticTypes := #[(.object "jdk/internal/misc/Unsafe"), .boolean, .int, .int, .int, .int, .int, .int, .int, .int, .int, .int, .int, .int, .int, .int, .int, .int, .int, (.object "jdk/internal/access/JavaLangAccess"), .int]
  resolved := Array.replicate 378 none
  statics := none }

def pool13 : Array CpInfo := pool [(1, u "java/lang/Cloneable"), (0, .class_ 1), (0, u "java/lang/Object"), (0, .class_ 3)] 3

/-- java/lang/Cloneable -/
def k13 : Class := { plain "java/lang/Cloneable" (some 0) with
  accessFlags := 1537
  interfaces := #[]
  cf := some (fileOf pool13 2 #[] #[] 1537 4 #[] #[])
  fields := #[]
  methods := #[]
  instanceTypes := #[]
  staticTypes := #[]
  resolved := Array.replicate 8 none
  statics := none }

/-- the primitive byte -/
def k14 : Class := { plain "byte" none with kind := .primitive 'B', accessFlags := 0x411 }
/-- [B -/
def k15 : Class := { plain "[B" (some 0) with kind := .array 14 .byte, interfaces := #[13, 2], accessFlags := 1041 }

/-- the primitive char -/
def k16 : Class := { plain "char" none with kind := .primitive 'C', accessFlags := 0x411 }
/-- [C -/
def k17 : Class := { plain "[C" (some 0) with kind := .array 16 .char, interfaces := #[13, 2], accessFlags := 1041 }

/-- the primitive int -/
def k18 : Class := { plain "int" none with kind := .primitive 'I', accessFlags := 0x411 }
/-- [I -/
def k19 : Class := { plain "[I" (some 0) with kind := .array 18 .int, interfaces := #[13, 2], accessFlags := 1041 }

def heap : Heap := #[{ cls := 7, slots := #[.long 0, .int 1, .null, .int 0, .null, .int 0, .int 0], vm := .statics 7 },
  { cls := 8, slots := #[.int 0, .int 8, .int 0, .int 1], vm := .statics 8 },
  { cls := 11, slots := #[.null, .null, .null], vm := .statics 11 }]
def classes : Array Class := #[k0, k1, k2, k3, k4, k5, k6, k7, k8, k9, k10, k11, k12, k13, k14, k15, k16, k17, k18, k19]
def interned : List (Array UInt16 × Addr) := []
def slotsUsed : Nat := 14
def theMethod : MethodId := ⟨1, 1⟩
def args0 : Array Value := #[.int 5, .int 5, .int 5, .int 5, .int 5, .int 5]
def aboutOver (below : List Frame) : State where
  vm := { classes := classes, interned := interned.toArray }
  heap := heap
  slotsUsed := slotsUsed
  threads := #[{ frames := .invoking theMethod args0 :: below }]
def below0 : List Frame := [.native { method := ⟨0, 0⟩, args := #[] }]
def about1 : State := aboutOver below0
def p0 : Program := .bare "" "" ""
def e0 : Env := launch0.env 0 0 0
theorem w_frames : about1.frames = Frame.invoking theMethod args0 :: below0 := rfl
set_option maxRecDepth 65536 in
theorem w_args : argsFit about1.vm theMethod args0 = true := by decide +kernel
set_option maxRecDepth 65536 in
theorem w_heap : heapFits about1 = true := by decide +kernel
set_option maxRecDepth 65536 in
theorem w_runnable : about1.curStatus? = some .runnable := by decide +kernel
set_option maxRecDepth 65536 in
theorem w_alone : about1.alone = true := by decide +kernel
set_option maxRecDepth 65536 in
theorem w_named : about1.methodNamed? x = some theMethod := by decide +kernel
set_option maxRecDepth 65536 in
theorem w_hears : about1.hears theMethod below0 = true := by decide +kernel
set_option maxRecDepth 65536 in
theorem w_ripe : about1.ripe theMethod args0 below0 = true := by decide +kernel
theorem w_running : about1.status = .running := rfl
set_option maxRecDepth 65536 in
theorem w_room : about1.hasRoom e0.platform room_1 = true :=
  launch0.hasRoom_least _ room_1 (by decide +kernel) (by decide +kernel) (by decide +kernel) (by decide +kernel) (by decide +kernel) (by decide +kernel)
theorem allAtoms_all (ts : List Jvm.Cond) (a : Array Jvm.Value) (st : Jvm.State) : (allAtoms ts).before a st = ts.all (fun c => c.before a st) := by
  induction ts with
  | nil => rfl
  | cons c t ih =>
    show (Jvm.Cond.and c (allAtoms t)).before a st = _
    rw [Jvm.Cond.before_and, ih, List.all_cons]
def words1 : List Jvm.Cond := Jvm.Cond.code x code maxLocals ret :: tables_1
/-- a 'code' word, met by the world's own term for the bytes: nothing is compared byte by byte -/
theorem code_word {y : MethodName} {bytes : ByteArray} {mx : Nat} {rt : Option FieldType} {a : Array Value} {s : State} {m : MethodId} {meth : Method} {c : Code} (h1 : s.methodNamed? y = some m) (h2 : s.vm.method? m = some meth) (h3 : meth.code = some c) (h4 : c.code = bytes)
    (h5 : (c.maxLocals == mx && c.exceptionTable.isEmpty && decide (c.maxStack ≤ mostOperands) && decide (meth.sig.returnType = rt) && !meth.locks && decide (parseMethodDescriptor y.desc = some meth.sig)) = true) : (Jvm.Cond.code y bytes mx rt).before a s = true := by
  simp only [Bool.and_eq_true, beq_iff_eq, Bool.not_eq_true', decide_eq_true_eq] at h5
  obtain ⟨⟨⟨⟨⟨g1, g2⟩, g3⟩, g4⟩, g5⟩, g6⟩ := h5
  simp [Cond.before, Cond.holds, Cond.value, h1, h2, h3, h4, g1, g2, g3, g4, g5, g6]
def isCode : Jvm.Cond → Bool
  | .code _ _ _ _ => true
  | _ => false
theorem all_split {L : List Jvm.Cond} {P : Jvm.Cond → Bool} (h1 : L.all (fun c => isCode c || P c) = true) (h2 : ∀ c ∈ L.filter isCode, P c = true) : L.all P = true := by
  refine List.all_eq_true.mpr fun c hc => ?_
  have h := List.all_eq_true.mp h1 c hc
  rcases Bool.eq_false_or_eq_true (isCode c) with hi | hi
  · exact h2 c (List.mem_filter.mpr ⟨hc, hi⟩)
  · simpa [hi] using h
set_option maxRecDepth 65536 in
theorem w_c0 : (Jvm.Cond.code x code maxLocals ret).before args0 about1 = true := code_word (m := ⟨1, 1⟩) (meth := k1m1) (c := k1c1) (by decide +kernel) rfl rfl rfl (by decide +kernel)
set_option maxRecDepth 65536 in
theorem w_c1 : (Jvm.Cond.code ({ cls := "java/lang/String", name := "<init>", desc := "([C)V" } : Jvm.MethodName) jdk_42_method_3_code (2 : Nat) (Option.none : Option Jvm.ClassFile.FieldType)).before args0 about1 = true := code_word (m := ⟨7, 1⟩) (meth := k7m1) (c := k7c1) (by decide +kernel) rfl rfl rfl (by decide +kernel)
set_option maxRecDepth 65536 in
theorem w_c2 : (Jvm.Cond.code ({ cls := "java/lang/String", name := "<init>", desc := "([CIILjava/lang/Void;)V" } : Jvm.MethodName) jdk_42_method_149_code (6 : Nat) (Option.none : Option Jvm.ClassFile.FieldType)).before args0 about1 = true := code_word (m := ⟨7, 3⟩) (meth := k7m3) (c := k7c3) (by decide +kernel) rfl rfl rfl (by decide +kernel)
set_option maxRecDepth 65536 in
theorem w_c3 : (Jvm.Cond.code ({ cls := "java/lang/Object", name := "<init>", desc := "()V" } : Jvm.MethodName) object_method_1_code (1 : Nat) (Option.none : Option Jvm.ClassFile.FieldType)).before args0 about1 = true := code_word (m := ⟨0, 0⟩) (meth := k0m0) (c := k0c0) (by decide +kernel) rfl rfl rfl (by decide +kernel)
set_option maxRecDepth 65536 in
theorem w_c4 : (Jvm.Cond.code ({ cls := "java/lang/StringUTF16", name := "compress", desc := "([CII)[B" } : Jvm.MethodName) jdk_52_method_16_code (6 : Nat) (Option.some (Jvm.ClassFile.FieldType.array Jvm.ClassFile.FieldType.byte))).before args0 about1 = true := code_word (m := ⟨8, 8⟩) (meth := k8m8) (c := k8c8) (by decide +kernel) rfl rfl rfl (by decide +kernel)
set_option maxRecDepth 65536 in
theorem w_c5 : (Jvm.Cond.code ({ cls := "java/lang/StringUTF16", name := "compress", desc := "([CI[BII)I" } : Jvm.MethodName) jdk_52_method_21_code (7 : Nat) (Option.some Jvm.ClassFile.FieldType.int)).before args0 about1 = true := code_word (m := ⟨8, 9⟩) (meth := k8m9) (c := k8c9) (by decide +kernel) rfl rfl rfl (by decide +kernel)
set_option maxRecDepth 65536 in
theorem w_c6 : (Jvm.Cond.code ({ cls := "java/lang/StringUTF16", name := "coderFromArrayLen", desc := "([BI)B" } : Jvm.MethodName) jdk_52_method_15_code (2 : Nat) (Option.some Jvm.ClassFile.FieldType.byte)).before args0 about1 = true := code_word (m := ⟨8, 7⟩) (meth := k8m7) (c := k8c7) (by decide +kernel) rfl rfl rfl (by decide +kernel)
set_option maxRecDepth 65536 in
theorem w_c7 : (Jvm.Cond.code ({ cls := "com/example/restoral/restoral/io/PlainNumbersIsDigitsPinLaw", name := "covered", desc := "(IIIC)Z" } : Jvm.MethodName) method_3_code (4 : Nat) (Option.some Jvm.ClassFile.FieldType.boolean)).before args0 about1 = true := code_word (m := ⟨1, 2⟩) (meth := k1m2) (c := k1c2) (by decide +kernel) rfl rfl rfl (by decide +kernel)
set_option maxRecDepth 65536 in
theorem w_c8 : (Jvm.Cond.code ({ cls := "com/example/restoral/restoral/io/PlainNumbers", name := "isDigits", desc := "(Ljava/lang/String;II)Z" } : Jvm.MethodName) prog_36_method_3_code (4 : Nat) (Option.some Jvm.ClassFile.FieldType.boolean)).before args0 about1 = true := code_word (m := ⟨9, 1⟩) (meth := k9m1) (c := k9c1) (by decide +kernel) rfl rfl rfl (by decide +kernel)
set_option maxRecDepth 65536 in
theorem w_c9 : (Jvm.Cond.code ({ cls := "java/lang/String", name := "charAt", desc := "(I)C" } : Jvm.MethodName) jdk_42_method_56_code (2 : Nat) (Option.some Jvm.ClassFile.FieldType.char)).before args0 about1 = true := code_word (m := ⟨7, 2⟩) (meth := k7m2) (c := k7c2) (by decide +kernel) rfl rfl rfl (by decide +kernel)
set_option maxRecDepth 65536 in
theorem w_c10 : (Jvm.Cond.code ({ cls := "java/lang/String", name := "isLatin1", desc := "()Z" } : Jvm.MethodName) jdk_42_method_154_code (1 : Nat) (Option.some Jvm.ClassFile.FieldType.boolean)).before args0 about1 = true := code_word (m := ⟨7, 4⟩) (meth := k7m4) (c := k7c4) (by decide +kernel) rfl rfl rfl (by decide +kernel)
set_option maxRecDepth 65536 in
theorem w_c11 : (Jvm.Cond.code ({ cls := "java/lang/StringLatin1", name := "charAt", desc := "([BI)C" } : Jvm.MethodName) jdk_43_method_2_code (2 : Nat) (Option.some Jvm.ClassFile.FieldType.char)).before args0 about1 = true := code_word (m := ⟨10, 1⟩) (meth := k10m1) (c := k10c1) (by decide +kernel) rfl rfl rfl (by decide +kernel)
set_option maxRecDepth 65536 in
theorem w_c12 : (Jvm.Cond.code ({ cls := "java/lang/String", name := "checkIndex", desc := "(II)V" } : Jvm.MethodName) jdk_42_method_155_code (2 : Nat) (Option.none : Option Jvm.ClassFile.FieldType)).before args0 about1 = true := code_word (m := ⟨7, 5⟩) (meth := k7m5) (c := k7c5) (by decide +kernel) rfl rfl rfl (by decide +kernel)
set_option maxRecDepth 65536 in
theorem w_c13 : (Jvm.Cond.code ({ cls := "jdk/internal/util/Preconditions", name := "checkIndex", desc := "(IILjava/util/function/BiFunction;)I" } : Jvm.MethodName) jdk_41_method_11_code (3 : Nat) (Option.some Jvm.ClassFile.FieldType.int)).before args0 about1 = true := code_word (m := ⟨11, 1⟩) (meth := k11m1) (c := k11c1) (by decide +kernel) rfl rfl rfl (by decide +kernel)
set_option maxRecDepth 65536 in
theorem w_c14 : (Jvm.Cond.code ({ cls := "java/lang/StringUTF16", name := "toBytes", desc := "([CII)[B" } : Jvm.MethodName) jdk_52_method_14_code (5 : Nat) (Option.some (Jvm.ClassFile.FieldType.array Jvm.ClassFile.FieldType.byte))).before args0 about1 = true := code_word (m := ⟨8, 6⟩) (meth := k8m6) (c := k8c6) (by decide +kernel) rfl rfl rfl (by decide +kernel)
set_option maxRecDepth 65536 in
theorem w_c15 : (Jvm.Cond.code ({ cls := "java/lang/StringUTF16", name := "newBytesFor", desc := "(I)[B" } : Jvm.MethodName) jdk_52_method_2_code (1 : Nat) (Option.some (Jvm.ClassFile.FieldType.array Jvm.ClassFile.FieldType.byte))).before args0 about1 = true := code_word (m := ⟨8, 1⟩) (meth := k8m1) (c := k8c1) (by decide +kernel) rfl rfl rfl (by decide +kernel)
set_option maxRecDepth 65536 in
theorem w_c16 : (Jvm.Cond.code ({ cls := "java/lang/StringUTF16", name := "newBytesLength", desc := "(I)I" } : Jvm.MethodName) jdk_52_method_3_code (1 : Nat) (Option.some Jvm.ClassFile.FieldType.int)).before args0 about1 = true := code_word (m := ⟨8, 2⟩) (meth := k8m2) (c := k8c2) (by decide +kernel) rfl rfl rfl (by decide +kernel)
set_option maxRecDepth 65536 in
theorem w_c17 : (Jvm.Cond.code ({ cls := "java/lang/StringUTF16", name := "putChar", desc := "([BII)V" } : Jvm.MethodName) jdk_52_method_4_code (3 : Nat) (Option.none : Option Jvm.ClassFile.FieldType)).before args0 about1 = true := code_word (m := ⟨8, 3⟩) (meth := k8m3) (c := k8c3) (by decide +kernel) rfl rfl rfl (by decide +kernel)
set_option maxRecDepth 65536 in
theorem w_c18 : (Jvm.Cond.code ({ cls := "java/lang/StringUTF16", name := "getChar", desc := "([BI)C" } : Jvm.MethodName) jdk_52_method_5_code (2 : Nat) (Option.some Jvm.ClassFile.FieldType.char)).before args0 about1 = true := code_word (m := ⟨8, 4⟩) (meth := k8m4) (c := k8c4) (by decide +kernel) rfl rfl rfl (by decide +kernel)
set_option maxRecDepth 65536 in
theorem w_c19 : (Jvm.Cond.code ({ cls := "java/lang/StringUTF16", name := "charAt", desc := "([BI)C" } : Jvm.MethodName) jdk_52_method_83_code (2 : Nat) (Option.some Jvm.ClassFile.FieldType.char)).before args0 about1 = true := code_word (m := ⟨8, 10⟩) (meth := k8m10) (c := k8c10) (by decide +kernel) rfl rfl rfl (by decide +kernel)
set_option maxRecDepth 65536 in
theorem w_c20 : (Jvm.Cond.code ({ cls := "java/lang/StringUTF16", name := "checkIndex", desc := "(I[B)V" } : Jvm.MethodName) jdk_52_method_91_code (2 : Nat) (Option.none : Option Jvm.ClassFile.FieldType)).before args0 about1 = true := code_word (m := ⟨8, 11⟩) (meth := k8m11) (c := k8c11) (by decide +kernel) rfl rfl rfl (by decide +kernel)
set_option maxRecDepth 65536 in
theorem w_c21 : (Jvm.Cond.code ({ cls := "java/lang/StringUTF16", name := "length", desc := "([B)I" } : Jvm.MethodName) jdk_52_method_6_code (1 : Nat) (Option.some Jvm.ClassFile.FieldType.int)).before args0 about1 = true := code_word (m := ⟨8, 5⟩) (meth := k8m5) (c := k8c5) (by decide +kernel) rfl rfl rfl (by decide +kernel)
def codes1 : List Jvm.Cond := [Jvm.Cond.code x code maxLocals ret, Jvm.Cond.code ({ cls := "java/lang/String", name := "<init>", desc := "([C)V" } : Jvm.MethodName) jdk_42_method_3_code (2 : Nat) (Option.none : Option Jvm.ClassFile.FieldType), Jvm.Cond.code ({ cls := "java/lang/String", name := "<init>", desc := "([CIILjava/lang/Void;)V" } : Jvm.MethodName) jdk_42_method_149_code (6 : Nat) (Option.none : Option Jvm.ClassFile.FieldType), Jvm.Cond.code ({ cls := "java/lang/Object", name := "<init>", desc := "()V" } : Jvm.MethodName) object_method_1_code (1 : Nat) (Option.none : Option Jvm.ClassFile.FieldType), Jvm.Cond.code ({ cls := "java/lang/StringUTF16", name := "compress", desc := "([CII)[B" } : Jvm.MethodName) jdk_52_method_16_code (6 : Nat) (Option.some (Jvm.ClassFile.FieldType.array Jvm.ClassFile.FieldType.byte)), Jvm.Cond.code ({ cls := "java/lang/StringUTF16", name := "compress", desc := "([CI[BII)I" } : Jvm.MethodName) jdk_52_method_21_code (7 : Nat) (Option.some Jvm.ClassFile.FieldType.int), Jvm.Cond.code ({ cls := "java/lang/StringUTF16", name := "coderFromArrayLen", desc := "([BI)B" } : Jvm.MethodName) jdk_52_method_15_code (2 : Nat) (Option.some Jvm.ClassFile.FieldType.byte), Jvm.Cond.code ({ cls := "com/example/restoral/restoral/io/PlainNumbersIsDigitsPinLaw", name := "covered", desc := "(IIIC)Z" } : Jvm.MethodName) method_3_code (4 : Nat) (Option.some Jvm.ClassFile.FieldType.boolean), Jvm.Cond.code ({ cls := "com/example/restoral/restoral/io/PlainNumbers", name := "isDigits", desc := "(Ljava/lang/String;II)Z" } : Jvm.MethodName) prog_36_method_3_code (4 : Nat) (Option.some Jvm.ClassFile.FieldType.boolean), Jvm.Cond.code ({ cls := "java/lang/String", name := "charAt", desc := "(I)C" } : Jvm.MethodName) jdk_42_method_56_code (2 : Nat) (Option.some Jvm.ClassFile.FieldType.char), Jvm.Cond.code ({ cls := "java/lang/String", name := "isLatin1", desc := "()Z" } : Jvm.MethodName) jdk_42_method_154_code (1 : Nat) (Option.some Jvm.ClassFile.FieldType.boolean), Jvm.Cond.code ({ cls := "java/lang/StringLatin1", name := "charAt", desc := "([BI)C" } : Jvm.MethodName) jdk_43_method_2_code (2 : Nat) (Option.some Jvm.ClassFile.FieldType.char), Jvm.Cond.code ({ cls := "java/lang/String", name := "checkIndex", desc := "(II)V" } : Jvm.MethodName) jdk_42_method_155_code (2 : Nat) (Option.none : Option Jvm.ClassFile.FieldType), Jvm.Cond.code ({ cls := "jdk/internal/util/Preconditions", name := "checkIndex", desc := "(IILjava/util/function/BiFunction;)I" } : Jvm.MethodName) jdk_41_method_11_code (3 : Nat) (Option.some Jvm.ClassFile.FieldType.int), Jvm.Cond.code ({ cls := "java/lang/StringUTF16", name := "toBytes", desc := "([CII)[B" } : Jvm.MethodName) jdk_52_method_14_code (5 : Nat) (Option.some (Jvm.ClassFile.FieldType.array Jvm.ClassFile.FieldType.byte)), Jvm.Cond.code ({ cls := "java/lang/StringUTF16", name := "newBytesFor", desc := "(I)[B" } : Jvm.MethodName) jdk_52_method_2_code (1 : Nat) (Option.some (Jvm.ClassFile.FieldType.array Jvm.ClassFile.FieldType.byte)), Jvm.Cond.code ({ cls := "java/lang/StringUTF16", name := "newBytesLength", desc := "(I)I" } : Jvm.MethodName) jdk_52_method_3_code (1 : Nat) (Option.some Jvm.ClassFile.FieldType.int), Jvm.Cond.code ({ cls := "java/lang/StringUTF16", name := "putChar", desc := "([BII)V" } : Jvm.MethodName) jdk_52_method_4_code (3 : Nat) (Option.none : Option Jvm.ClassFile.FieldType), Jvm.Cond.code ({ cls := "java/lang/StringUTF16", name := "getChar", desc := "([BI)C" } : Jvm.MethodName) jdk_52_method_5_code (2 : Nat) (Option.some Jvm.ClassFile.FieldType.char), Jvm.Cond.code ({ cls := "java/lang/StringUTF16", name := "charAt", desc := "([BI)C" } : Jvm.MethodName) jdk_52_method_83_code (2 : Nat) (Option.some Jvm.ClassFile.FieldType.char), Jvm.Cond.code ({ cls := "java/lang/StringUTF16", name := "checkIndex", desc := "(I[B)V" } : Jvm.MethodName) jdk_52_method_91_code (2 : Nat) (Option.none : Option Jvm.ClassFile.FieldType), Jvm.Cond.code ({ cls := "java/lang/StringUTF16", name := "length", desc := "([B)I" } : Jvm.MethodName) jdk_52_method_6_code (1 : Nat) (Option.some Jvm.ClassFile.FieldType.int)]
set_option maxRecDepth 65536 in
theorem codes_eq : words1.filter isCode = codes1 := rfl
theorem w_codes : ∀ c ∈ words1.filter isCode, c.before args0 about1 = true := by
  rw [codes_eq]
  intro c hc
  simp only [codes1, List.mem_cons, List.not_mem_nil, or_false] at hc
  rcases hc with rfl | rfl | rfl | rfl | rfl | rfl | rfl | rfl | rfl | rfl | rfl | rfl | rfl | rfl | rfl | rfl | rfl | rfl | rfl | rfl | rfl | rfl
  · exact w_c0
  · exact w_c1
  · exact w_c2
  · exact w_c3
  · exact w_c4
  · exact w_c5
  · exact w_c6
  · exact w_c7
  · exact w_c8
  · exact w_c9
  · exact w_c10
  · exact w_c11
  · exact w_c12
  · exact w_c13
  · exact w_c14
  · exact w_c15
  · exact w_c16
  · exact w_c17
  · exact w_c18
  · exact w_c19
  · exact w_c20
  · exact w_c21
set_option maxRecDepth 65536 in
theorem w_t1 : (words1.take 24).all (fun c => isCode c || c.before args0 about1) = true := by decide +kernel
set_option maxRecDepth 65536 in
theorem w_t2 : ((words1.drop 24).take 24).all (fun c => isCode c || c.before args0 about1) = true := by decide +kernel
set_option maxRecDepth 65536 in
theorem w_t3 : (((words1.drop 24).drop 24).take 24).all (fun c => isCode c || c.before args0 about1) = true := by decide +kernel
set_option maxRecDepth 65536 in
theorem w_t4 : (((words1.drop 24).drop 24).drop 24).all (fun c => isCode c || c.before args0 about1) = true := by decide +kernel
theorem w_tables : (allAtoms (Jvm.Cond.code x code maxLocals ret :: tables_1)).before args0 about1 = true := by
  rw [allAtoms_all]
  show words1.all (fun c => c.before args0 about1) = true
  refine all_split ?_ w_codes
  rw [← List.take_append_drop 24 words1, List.all_append, w_t1, ← List.take_append_drop 24 (words1.drop 24), List.all_append, w_t2, ← List.take_append_drop 24 ((words1.drop 24).drop 24), List.all_append, w_t3, w_t4]
  rfl
set_option maxRecDepth 65536 in
theorem w_rest : rest_1_c.before args0 about1 = true := by decide +kernel
set_option maxRecDepth 65536 in
theorem w_case : (Jvm.Cond.and given_1 narrow_1).before args0 about1 = true := by decide +kernel
theorem w_applies : (headSpec (Jvm.Cond.code x code maxLocals ret :: tables_1) room_1).applies x e0.platform about1 = true :=
  (Spec.applies_iff w_frames).mpr ⟨w_running, w_runnable, w_alone, w_named, w_hears, w_ripe, w_room, w_tables⟩
theorem atStart : AtStart classFile x code maxLocals ret World_1 tables_1 room_1 Calls_1 rest_1 Pre_1 launch0 p0 e0 about1 theMethod args0 below0 :=
  ⟨lists_1, trivial, launch0.admits_env _ _ _, launch0.least_env, fairChoices_fair.cas, fairChoices_fair.clock, w_frames, w_args, w_heap, w_applies, trivial, w_rest, w_case⟩
end start1
theorem witness_1 : WitnessClaimed_1 := ⟨start1.p0, start1.e0, start1.about1, start1.theMethod, start1.args0, start1.below0, start1.atStart⟩
end Jvm.Pilot.@@N@@
