import JvmDerived
import JvmDerived.Pilot.@@N@@Statement
import JvmDerived.Pilot.@@N@@Code
set_option linter.unusedVariables false
set_option linter.unusedSimpArgs false
namespace Jvm.RoadKit
open Sem ClassFile Op Lib Jvm.Stand Jvm.Free Jvm.LawKit
section Own
variable {p : Program} {l : Launch} {e : Env} {R : Room} {s : State} {m : MethodId} {args : Array Value} {below : List Frame} {meth : Method} {c : Code} {T T' : State} {locs : List Loc} {cells slots : Nat} {Z : State} {a0 : Array Value} {h : Heap} {Φ : State → Prop} {g g' : JFrame} {Q : Option Value → Heap → List Loc → Prop} {kc ks pc : Nat} {Ls : Array Slot} {st rest : List Value}
/-- from the frame g of T the run comes to a state of which Φ holds -/
def own_Go (p : Program) (e : Env) (below : List Frame) (Φ : State → Prop) (T : State) (g : JFrame) : Prop := ∃ t, Steps p.tables e below (T.setTop g) t ∧ Φ t
theorem own_k (st : ∀ t, Steps p.tables e below (T'.setTop g') t → Steps p.tables e below (T.setTop g) t) (k : own_Go p e below Φ T' g') : own_Go p e below Φ T g := by
  obtain ⟨t, h1, h2⟩ := k
  exact ⟨t, st t h1, h2⟩
theorem own_s (st : Steps p.tables e below (T.setTop g) (T'.setTop g')) (k : own_Go p e below Φ T' g') : own_Go p e below Φ T g := by
  obtain ⟨t, h1, h2⟩ := k
  exact ⟨t, st.trans h1, h2⟩
def own_Fin (s : State) (below : List Frame) (Q : Option Value → Heap → List Loc → Prop) (kc ks : Nat) (t : State) : Prop := t.status = .running ∧ ∃ v L, Ended t below (.returned v) ∧ Q v t.heap L ∧ FrameEnd s (.returned v) t L kc ks
def own_Met (l : Launch) (Z : State) (y : MethodName) (bytes : ByteArray) (maxL : Nat) (ret : Option FieldType) (rm : Room) (av : Array Value) (h : Heap) (Q : Option Value → Heap → List Loc → Prop) : Prop :=
  ∀ ws : List Jvm.Cond, MetFree l y (head1 (Cond.code y bytes maxL ret :: ws) rm) (fun a U => a = av ∧ Z.Warmed39 U.vm ∧ U.heap = h) (fun _ _ _ _ _ => True) (fun _ U o U' => ∃ v L, o = .returned v ∧ Q v U'.heap L ∧ FrameEnd U o U' L rm.cells rm.slots)
theorem own_met {y : MethodName} {bytes : ByteArray} {maxL : Nat} {ret : Option FieldType} {rm : Room} {av : Array Value} (hpl : plainFor y = true)
    (body : ∀ (p : Program) (e : Env) (s : State) (m : MethodId) (below : List Frame) (meth : Method) (c : Code) (s₁ : State) (Φ : State → Prop), (∀ t, own_Fin s below Q rm.cells rm.slots t → Φ t) → Stand p l e rm s m av below meth c s₁ [] 0 0 → p.tables.exec = Jvm.exec → c.code = bytes → c.maxLocals = maxL → Z.Warmed39 s.vm → s.vm.findClass y.cls = some m.cls → meth.name = y.name → meth.sig.returnType = ret → meth.locks = false → s₁.heap = h →
      own_Go p e below Φ s₁ (entryFrame m av maxL)) : own_Met l Z y bytes maxL ret rm av h Q := by
  intro ws
  refine MetFree.of_bodySF hpl hisR ?_
  intro p e s m args below meth c s₁ Bd hml hP hK
  obtain ⟨rfl, hZ, hh⟩ := hP
  obtain ⟨t, h1, hrun, v, L, h2, h3, h4⟩ := body p e s m below meth c s₁ (own_Fin s below Q rm.cells rm.slots) (fun _ q => q) (Stand.of_body Bd) Bd.exec Bd.bytes hml hZ (findClass_of_methodNamed Bd.named) (name_of_methodNamed Bd.named Bd.method).1 Bd.returns Bd.notSynchronized (by rw [← hh, Bd.state]; rfl)
  exact ⟨t, _, h1, hrun, h2, v, L, rfl, h3, h4⟩
theorem own_fin {v : Option Value} (X : Stand p l e R s m args below meth c T locs cells slots) (hv : meth.sig.returnType = none → v = none) (hlk : meth.locks = false)
    (hs : ∀ fs, (∀ (f : JFrame) (acts : List Action), f.method = m → f.locked = none → f.entered = [] → (doReturn e (T.setTop f) acts v).1 = T.setFrames fs) → Steps p.tables e below (T.setTop g) (T.setFrames fs))
    (hF : ∀ t, own_Fin s below Q kc ks t → Φ t) (hQ : Q v T.heap locs) (hk : cells ≤ kc) (hn : slots ≤ ks) : own_Go p e below Φ T g := by
  obtain ⟨fs, hr, hrun, hended, hW, hsame⟩ := X.leave (v := v) hv hlk
  exact ⟨T.setFrames fs, hs fs hr, hF _ ⟨hrun, v, locs, hended, hQ, ⟨_, rfl⟩, hW, hsame.mono hk hn⟩⟩
theorem own_retI (X : Stand p l e R s m args below meth c T locs cells slots) (hx : p.tables.exec = Jvm.exec) {z : Int32} (hret : meth.sig.returnType = some .int) (hlk : meth.locks = false) (hd : decode c.code pc = .ok (.ireturn, 1)) (hF : ∀ t, own_Fin s below Q kc ks t → Φ t) (hQ : Q (some (.int z)) T.heap locs) (hk : cells ≤ kc) (hn : slots ≤ ks) :
    own_Go p e below Φ T (mkF m pc Ls (.int z :: rest)) :=
  own_fin X (fun q => by rw [hret] at q; cases q) hlk (fun fs hr => retOut X hx hret (narrow_int z) (Or.inl ⟨rfl, Or.inl rfl, z, rfl⟩) hd hr) hF hQ hk hn
where narrow_int (z : Int32) : narrow .int (.int z) = .int z := rfl
theorem own_retN (X : Stand p l e R s m args below meth c T locs cells slots) (hx : p.tables.exec = Jvm.exec) {z : Int32} {t : FieldType} (hret : meth.sig.returnType = some t) (ht : t = .boolean ∨ t = .byte ∨ t = .char ∨ t = .short) (hlk : meth.locks = false) (hd : decode c.code pc = .ok (.ireturn, 1)) (hF : ∀ t, own_Fin s below Q kc ks t → Φ t) (hQ : Q (some (.int (nar t z))) T.heap locs) (hk : cells ≤ kc) (hn : slots ≤ ks) :
    own_Go p e below Φ T (mkF m pc Ls (.int z :: rest)) :=
  own_fin X (fun q => by rw [hret] at q; cases q) hlk (fun fs hr => retN X hx hret ht hd hr) hF hQ hk hn
theorem own_retA (X : Stand p l e R s m args below meth c T locs cells slots) (hx : p.tables.exec = Jvm.exec) {w : Value} {t : FieldType} (hret : meth.sig.returnType = some t) (ht : t.isReference = true) (hw : w.isRef = true) (hlk : meth.locks = false) (hd : decode c.code pc = .ok (.areturn, 1)) (hF : ∀ t, own_Fin s below Q kc ks t → Φ t) (hQ : Q (some w) T.heap locs) (hk : cells ≤ kc) (hn : slots ≤ ks) :
    own_Go p e below Φ T (mkF m pc Ls (w :: rest)) :=
  own_fin X (fun q => by rw [hret] at q; cases q) hlk (fun fs hr => retOut X hx hret (by cases t <;> cases w <;> first | rfl | cases ht | cases hw) (Or.inr (Or.inr (Or.inr (Or.inr ⟨rfl, ht, hw⟩)))) hd hr) hF hQ hk hn
theorem own_retJ (X : Stand p l e R s m args below meth c T locs cells slots) (hx : p.tables.exec = Jvm.exec) {z : Int64} (hret : meth.sig.returnType = some .long) (hlk : meth.locks = false) (hd : decode c.code pc = .ok (.lreturn, 1)) (hF : ∀ t, own_Fin s below Q kc ks t → Φ t) (hQ : Q (some (.long z)) T.heap locs) (hk : cells ≤ kc) (hn : slots ≤ ks) :
    own_Go p e below Φ T (mkF m pc Ls (.long z :: rest)) :=
  own_fin X (fun q => by rw [hret] at q; cases q) hlk (fun fs hr => retOut X hx hret rfl (Or.inr (Or.inl ⟨rfl, rfl, z, rfl⟩)) hd hr) hF hQ hk hn
theorem own_ret0 (X : Stand p l e R s m args below meth c T locs cells slots) (hx : p.tables.exec = Jvm.exec) (hret : meth.sig.returnType = none) (hlk : meth.locks = false) (hd : decode c.code pc = .ok (.return_, 1)) (hF : ∀ t, own_Fin s below Q kc ks t → Φ t) (hQ : Q none T.heap locs) (hk : cells ≤ kc) (hn : slots ≤ ks) :
    own_Go p e below Φ T (mkF m pc Ls []) :=
  own_fin X (fun _ => rfl) hlk (fun fs hr => X.returnOut hx hret hd hr) hF hQ hk hn
theorem own_back {y : MethodName} {bytes : ByteArray} {maxL : Nat} {ret : Option FieldType} {rm : Room} {len W : Nat} {av : Array Value} (hM : own_Met l Z y bytes maxL ret rm av h Q)
    (hZ : Z.Warmed39 s.vm) (wc : (Cond.code y bytes maxL ret).before a0 Z = true) (wz : (Cond.initialized y.cls).before a0 Z = true) (hf : rm.frames + 1 ≤ R.frames) (hl : W + (maxL + 11) + rm.locals ≤ R.locals) :
    Back l R p e below s args y len W (fun A a => a = av ∧ A.U.heap = h ∧ A.cells + rm.cells ≤ R.cells ∧ A.slots + rm.slots ≤ R.slots)
      (fun A _ v B => ∃ L, Q v B.U.heap L ∧ B.locs = A.locs ++ L ∧ B.cells = A.cells + rm.cells ∧ B.slots = A.slots + rm.slots) :=
  backOf (Q := Q) (hM []) hZ wc wz hf hl
theorem own_callS (X : Stand p l e R s m args below meth c T locs cells slots) (hx : p.tables.exec = Jvm.exec) (hZ : Z.Warmed39 s.vm) {own : String} {index : Nat} {y : MethodName} {bytes : ByteArray} {maxL : Nat} {ret : Option FieldType} (hown : s.vm.findClass own = some m.cls)
    (w1 : (Cond.methodLink own index y).before a0 Z = true) (w2 : (Cond.static y).before a0 Z = true) (w3 : (Cond.initialized y.cls).before a0 Z = true) (w4 : (Cond.code y bytes maxL ret).before a0 Z = true) (hy : y.cls ≠ "java/lang/invoke/MethodHandle" ∧ y.cls ≠ "java/lang/invoke/VarHandle")
    {rm : Room} {al : List Value} (hM : own_Met l Z y bytes maxL ret rm al.toArray h Q) (W : Nat) (hf : rm.frames + 1 ≤ R.frames) (hl : W + (maxL + 11) + rm.locals ≤ R.locals) (eT : T.heap = h) (hc : cells + rm.cells ≤ R.cells) (hn : slots + rm.slots ≤ R.slots)
    (hsz : Ls.size = c.maxLocals) (hlen : ∀ sig, parseMethodDescriptor y.desc = some sig → al.length = sig.parameters.length) (hst : st = al.reverse ++ rest) (hW : 2 * 0 + (rest.map fun v => v.category).sum ≤ W) (hd : decode c.code pc = .ok (.invokestatic index, 3))
    (k : ∀ (v : Option Value) (T' : State) (L : List Loc), Stand p l e R s m args below meth c T' (locs ++ L) (cells + rm.cells) (slots + rm.slots) → Q v T'.heap L → own_Go p e below Φ T' (mkF m (pc + 3) Ls (v.toList ++ rest))) : own_Go p e below Φ T (mkF m pc Ls st) := by
  obtain ⟨v, vm₁, ⟨T', L', k', n'⟩, -, X', ⟨L, hQ, l1, l2, l3⟩, st'⟩ := Jvm.LawKit.callS X hx (y := y) hown (mvT hZ w1) (mvT hZ w2) (mvT hZ w3) (mvT hZ w4) hy (own_back (W := W) hM hZ w4 w3 hf hl) (g := mkF m pc Ls st) rfl hsz (argsL := al) (rest := rest) hlen hst hW hd (fun _ _ => ⟨rfl, eT, hc, hn⟩)
  dsimp only [Pt.U, Pt.locs, Pt.cells, Pt.slots] at X' l1 l2 l3 st' hQ
  subst l1 l2 l3
  exact own_k st' (k v T' L X' hQ)
theorem own_callV (X : Stand p l e R s m args below meth c T locs cells slots) (hx : p.tables.exec = Jvm.exec) (hZ : Z.Warmed39 s.vm) {own C : String} {index : Nat} {y z : MethodName} {bytes : ByteArray} {maxL : Nat} {ret : Option FieldType} (hown : s.vm.findClass own = some m.cls)
    (w1 : (Cond.methodLink own index y).before a0 Z = true) (w2 : (Cond.declares y).before a0 Z = true) (hnf : NotFace s y) (w3 : (Cond.selects C y z).before a0 Z = true) (w4 : (Cond.instanceMethod z).before a0 Z = true) (w5 : (Cond.code z bytes maxL ret).before a0 Z = true) (w6 : (Cond.initialized z.cls).before a0 Z = true) (hy : y.cls ≠ "java/lang/invoke/MethodHandle" ∧ y.cls ≠ "java/lang/invoke/VarHandle")
    {rm : Room} {al : List Value} {b : Addr} (E : Exa Z h b C) (hM : own_Met l Z z bytes maxL ret rm (.ref b :: al).toArray h Q) (W : Nat) (hf : rm.frames + 1 ≤ R.frames) (hl : W + (maxL + 11) + rm.locals ≤ R.locals) (eT : T.heap = h) (hc : cells + rm.cells ≤ R.cells) (hn : slots + rm.slots ≤ R.slots)
    (hsz : Ls.size = c.maxLocals) (hlen : ∀ sig, parseMethodDescriptor y.desc = some sig → al.length = sig.parameters.length) (hst : st = al.reverse ++ .ref b :: rest) (hW : 2 * 0 + (rest.map fun v => v.category).sum ≤ W) (hd : decode c.code pc = .ok (.invokevirtual index, 3))
    (k : ∀ (v : Option Value) (T' : State) (L : List Loc), Stand p l e R s m args below meth c T' (locs ++ L) (cells + rm.cells) (slots + rm.slots) → Q v T'.heap L → own_Go p e below Φ T' (mkF m (pc + 3) Ls (v.toList ++ rest))) : own_Go p e below Φ T (mkF m pc Ls st) := by
  obtain ⟨cB, kB, q1, q2, q3⟩ := isOf hZ eT E
  obtain ⟨v, vm₁, ⟨T', L', k', n'⟩, -, X', ⟨L, hQ, l1, l2, l3⟩, st'⟩ := X.virtualBack hx (y := y) (z := z) hown (mvT hZ w1) (mvT hZ w2) hnf (mvT hZ w3) (mvT hZ w4) hy (own_back (W := W) hM hZ w5 w6 hf hl) q1 q3 (g := mkF m pc Ls st) rfl hsz (Steps.refl _) (argsL := al) (rest := rest) hlen hst hW hd (fun _ _ => ⟨rfl, eT, hc, hn⟩)
  dsimp only [Pt.U, Pt.locs, Pt.cells, Pt.slots] at X' l1 l2 l3 st' hQ
  subst l1 l2 l3
  exact own_s st' (k v T' L X' hQ)
theorem own_callU (X : Stand p l e R s m args below meth c T locs cells slots) (hx : p.tables.exec = Jvm.exec) (hZ : Z.Warmed39 s.vm) {own C owner : String} {index : Nat} {y z : MethodName} {bytes : ByteArray} {maxL : Nat} {ret : Option FieldType} (hown : s.vm.findClass own = some m.cls)
    (w1 : (Cond.methodLink own index y).before a0 Z = true) (w2 : (Cond.sameMethod y.cls owner y.name y.desc).before a0 Z = true) (w2' : (Cond.declares ⟨owner, y.name, y.desc⟩).before a0 Z = true) (w3 : (Cond.selects C y z).before a0 Z = true) (w4 : (Cond.instanceMethod z).before a0 Z = true) (w5 : (Cond.code z bytes maxL ret).before a0 Z = true) (w6 : (Cond.initialized z.cls).before a0 Z = true) (hy : owner ≠ "java/lang/invoke/MethodHandle" ∧ owner ≠ "java/lang/invoke/VarHandle")
    {rm : Room} {al : List Value} {b : Addr} (E : Exa Z h b C) (hM : own_Met l Z z bytes maxL ret rm (.ref b :: al).toArray h Q) (W : Nat) (hf : rm.frames + 1 ≤ R.frames) (hl : W + (maxL + 11) + rm.locals ≤ R.locals) (eT : T.heap = h) (hc : cells + rm.cells ≤ R.cells) (hn : slots + rm.slots ≤ R.slots)
    (hsz : Ls.size = c.maxLocals) (hlen : ∀ sig, parseMethodDescriptor y.desc = some sig → al.length = sig.parameters.length) (hst : st = al.reverse ++ .ref b :: rest) (hW : 2 * 0 + (rest.map fun v => v.category).sum ≤ W) (hd : decode c.code pc = .ok (.invokevirtual index, 3))
    (k : ∀ (v : Option Value) (T' : State) (L : List Loc), Stand p l e R s m args below meth c T' (locs ++ L) (cells + rm.cells) (slots + rm.slots) → Q v T'.heap L → own_Go p e below Φ T' (mkF m (pc + 3) Ls (v.toList ++ rest))) : own_Go p e below Φ T (mkF m pc Ls st) := by
  obtain ⟨cB, kB, q1, q2, q3⟩ := isOf hZ eT E
  obtain ⟨v, vm₁, ⟨T', L', k', n'⟩, -, X', ⟨L, hQ, l1, l2, l3⟩, st'⟩ := X.virtualBackUp hx (x := y) (y := z) hown (mvT hZ w1) (mvT hZ w2) (mvT hZ w2') hy (mvT hZ w3) (mvT hZ w4) (own_back (W := W) hM hZ w5 w6 hf hl) q1 q3 (g := mkF m pc Ls st) rfl hsz (Steps.refl _) (argsL := al) (rest := rest) hlen hst hW hd (fun _ _ => ⟨rfl, eT, hc, hn⟩)
  dsimp only [Pt.U, Pt.locs, Pt.cells, Pt.slots] at X' l1 l2 l3 st' hQ
  subst l1 l2 l3
  exact own_s st' (k v T' L X' hQ)
theorem own_callN (X : Stand p l e R s m args below meth c T locs cells slots) (hx : p.tables.exec = Jvm.exec) (hZ : Z.Warmed39 s.vm) {own : String} {index : Nat} {y : MethodName} {bytes : ByteArray} {maxL : Nat} (hy1 : y.name = "<init>") (hown : s.vm.findClass own = some m.cls)
    (w1 : (Cond.methodLink own index y).before a0 Z = true) (w2 : (Cond.instanceMethod y).before a0 Z = true) (w3 : (Cond.code y bytes maxL none).before a0 Z = true) (w4 : (Cond.initialized y.cls).before a0 Z = true) (hy : y.cls ≠ "java/lang/invoke/MethodHandle" ∧ y.cls ≠ "java/lang/invoke/VarHandle")
    {rm : Room} {al : List Value} {b : Addr} (hM : own_Met l Z y bytes maxL none rm (.ref b :: al).toArray h Q) (W : Nat) (hf : rm.frames + 1 ≤ R.frames) (hl : W + (maxL + 11) + rm.locals ≤ R.locals) (eT : T.heap = h) (hc : cells + rm.cells ≤ R.cells) (hn : slots + rm.slots ≤ R.slots)
    (hsz : Ls.size = c.maxLocals) (hlen : ∀ sig, parseMethodDescriptor y.desc = some sig → al.length = sig.parameters.length) (hst : st = al.reverse ++ .ref b :: rest) (hW : 2 * 0 + (rest.map fun v => v.category).sum ≤ W) (hd : decode c.code pc = .ok (.invokespecial index, 3))
    (k : ∀ (v : Option Value) (T' : State) (L : List Loc), Stand p l e R s m args below meth c T' (locs ++ L) (cells + rm.cells) (slots + rm.slots) → Q v T'.heap L → own_Go p e below Φ T' (mkF m (pc + 3) Ls (v.toList ++ rest))) : own_Go p e below Φ T (mkF m pc Ls st) := by
  obtain ⟨v, vm₁, ⟨T', L', k', n'⟩, -, X', ⟨L, hQ, l1, l2, l3⟩, st'⟩ := X.specialBack hx (y := y) hy1 hown (mvT hZ w1) (mvT hZ w2) (mvT hZ w3) hy (own_back (W := W) hM hZ w3 w4 hf hl) (g := mkF m pc Ls st) rfl hsz (Steps.refl _) (a := b) (argsL := al) (rest := rest) hlen hst hW hd (fun _ _ => ⟨rfl, eT, hc, hn⟩)
  dsimp only [Pt.U, Pt.locs, Pt.cells, Pt.slots] at X' l1 l2 l3 st' hQ
  subst l1 l2 l3
  exact own_s st' (k v T' L X' hQ)
theorem own_iaload (X : Stand p l e R s m args below meth c T locs cells slots) (hx : p.tables.exec = Jvm.exec) (hZ : Z.Warmed39 s.vm) (eT : T.heap = h) {a : Addr} {k : ClassId} {n : Int32} {vs : List Value} {d : Value} (V : Arv Z h a k .int n vs d) {j : Int32} (hj : ¬ j < 0 ∧ j < n) {v : Value} (hv : vs.getD j.toNatClampNeg d = v) (hd : decode c.code pc = .ok (.iaload, 1)) (kk : own_Go p e below Φ T (mkF m (pc + 1) Ls (v :: rest))) : own_Go p e below Φ T (mkF m pc Ls (.int j :: .ref a :: rest)) := by
  obtain ⟨cl, A, -, S, N, H, -⟩ := V
  have hin := inb_of S hj
  exact own_k (fun t q => X.iaload hx (j := j) (v := v) (by rw [eT]; exact A.1) (State.isArrayOf_alike hZ.alike A.2.1) A.2.2 hin (H.at hin hv) (g := mkF m pc Ls (.int j :: .ref a :: rest)) rfl rfl hd t q) kk
theorem own_saload (X : Stand p l e R s m args below meth c T locs cells slots) (hx : p.tables.exec = Jvm.exec) (hZ : Z.Warmed39 s.vm) (eT : T.heap = h) {a : Addr} {k : ClassId} {n : Int32} {vs : List Value} {d : Value} (V : Arv Z h a k .short n vs d) {j : Int32} (hj : ¬ j < 0 ∧ j < n) {v : Value} (hv : vs.getD j.toNatClampNeg d = v) (hd : decode c.code pc = .ok (.saload, 1)) (kk : own_Go p e below Φ T (mkF m (pc + 1) Ls (v :: rest))) : own_Go p e below Φ T (mkF m pc Ls (.int j :: .ref a :: rest)) := by
  obtain ⟨cl, A, -, S, N, H, -⟩ := V
  have hin := inb_of S hj
  exact own_k (fun t q => X.saload hx (j := j) (v := v) (by rw [eT]; exact A.1) (State.isArrayOf_alike hZ.alike A.2.1) A.2.2 hin (H.at hin hv) (g := mkF m pc Ls (.int j :: .ref a :: rest)) rfl rfl hd t q) kk
theorem own_caload (X : Stand p l e R s m args below meth c T locs cells slots) (hx : p.tables.exec = Jvm.exec) (hZ : Z.Warmed39 s.vm) (eT : T.heap = h) {a : Addr} {k : ClassId} {n : Int32} {vs : List Value} {d : Value} (V : Arv Z h a k .char n vs d) {j : Int32} (hj : ¬ j < 0 ∧ j < n) {v : Value} (hv : vs.getD j.toNatClampNeg d = v) (hd : decode c.code pc = .ok (.caload, 1)) (kk : own_Go p e below Φ T (mkF m (pc + 1) Ls (v :: rest))) : own_Go p e below Φ T (mkF m pc Ls (.int j :: .ref a :: rest)) := by
  obtain ⟨cl, A, -, S, N, H, -⟩ := V
  have hin := inb_of S hj
  exact own_k (fun t q => X.caload hx (j := j) (v := v) (by rw [eT]; exact A.1) (State.isArrayOf_alike hZ.alike A.2.1) A.2.2 hin (H.at hin hv) (g := mkF m pc Ls (.int j :: .ref a :: rest)) rfl rfl hd t q) kk
theorem own_laload (X : Stand p l e R s m args below meth c T locs cells slots) (hx : p.tables.exec = Jvm.exec) (hZ : Z.Warmed39 s.vm) (eT : T.heap = h) {a : Addr} {k : ClassId} {n : Int32} {vs : List Value} {d : Value} (V : Arv Z h a k .long n vs d) {j : Int32} (hj : ¬ j < 0 ∧ j < n) {v : Value} (hv : vs.getD j.toNatClampNeg d = v) (hd : decode c.code pc = .ok (.laload, 1)) (kk : own_Go p e below Φ T (mkF m (pc + 1) Ls (v :: rest))) : own_Go p e below Φ T (mkF m pc Ls (.int j :: .ref a :: rest)) := by
  obtain ⟨cl, A, -, S, N, H, -⟩ := V
  have hin := inb_of S hj
  exact own_k (fun t q => X.laload hx (j := j) (v := v) (by rw [eT]; exact A.1) (State.isArrayOf_alike hZ.alike A.2.1) A.2.2 hin (H.at hin hv) (g := mkF m pc Ls (.int j :: .ref a :: rest)) rfl rfl hd t q) kk
theorem own_baload (X : Stand p l e R s m args below meth c T locs cells slots) (hx : p.tables.exec = Jvm.exec) (hZ : Z.Warmed39 s.vm) (eT : T.heap = h) {a : Addr} {k : ClassId} {n : Int32} {vs : List Value} {d : Value} (V : Arv Z h a k .byte n vs d) {j : Int32} (hj : ¬ j < 0 ∧ j < n) {v : Value} (hv : vs.getD j.toNatClampNeg d = v) (hd : decode c.code pc = .ok (.baload, 1)) (kk : own_Go p e below Φ T (mkF m (pc + 1) Ls (v :: rest))) : own_Go p e below Φ T (mkF m pc Ls (.int j :: .ref a :: rest)) := by
  obtain ⟨cl, A, -, S, N, H, -⟩ := V
  have hin := inb_of S hj
  exact own_k (fun t q => X.baloadBytes hx (j := j) (v := v) (by rw [eT]; exact A.1) (State.isArrayOf_alike hZ.alike A.2.1) A.2.2 hin (H.at hin hv) (g := mkF m pc Ls (.int j :: .ref a :: rest)) rfl rfl hd t q) kk
theorem own_aaload (X : Stand p l e R s m args below meth c T locs cells slots) (hx : p.tables.exec = Jvm.exec) (hZ : Z.Warmed39 s.vm) (eT : T.heap = h) {a : Addr} {k : ClassId} {n : Int32} {vs : List Value} {d : Value} {ty : FieldType} (V : Arv Z h a k ty n vs d) (ht : ty.isReference = true) {j : Int32} (hj : ¬ j < 0 ∧ j < n) {v : Value} (hv : vs.getD j.toNatClampNeg d = v) (hd : decode c.code pc = .ok (.aaload, 1)) (kk : own_Go p e below Φ T (mkF m (pc + 1) Ls (v :: rest))) : own_Go p e below Φ T (mkF m pc Ls (.int j :: .ref a :: rest)) := by
  obtain ⟨cl, A, -, S, N, H, -⟩ := V
  have hin := inb_of S hj
  exact own_k (fun t q => X.aaload hx (j := j) (v := v) (by rw [eT]; exact A.1) (State.isArrayOf_alike hZ.alike A.2.1) ht A.2.2 hin (H.at hin hv) (g := mkF m pc Ls (.int j :: .ref a :: rest)) rfl rfl hd t q) kk
theorem own_len (X : Stand p l e R s m args below meth c T locs cells slots) (hx : p.tables.exec = Jvm.exec) (hZ : Z.Warmed39 s.vm) (eT : T.heap = h) {a : Addr} {k : ClassId} {n : Int32} {vs : List Value} {d : Value} {ty : FieldType} (V : Arv Z h a k ty n vs d) (hd : decode c.code pc = .ok (.arraylength, 1)) (kk : own_Go p e below Φ T (mkF m (pc + 1) Ls (.int n :: rest))) : own_Go p e below Φ T (mkF m pc Ls (.ref a :: rest)) := by
  obtain ⟨cl, A, -, S, N, H, -⟩ := V
  refine own_k (fun t q => X.arraylength hx (by rw [eT]; exact A.1) (State.isArrayOf_alike hZ.alike A.2.1) (g := mkF m pc Ls (.ref a :: rest)) rfl rfl hd t q) ?_
  rw [len_of S N]
  exact kk
theorem own_iastore (X : Stand p l e R s m args below meth c T locs cells slots) (hx : p.tables.exec = Jvm.exec) (hZ : Z.Warmed39 s.vm) (eT : T.heap = h) {a : Addr} {k : ClassId} {n : Int32} {vs : List Value} {d : Value} (V : Arv Z h a k .int n vs d) {j : Int32} {x : Int32} (hj : ¬ j < 0 ∧ j < n) (i : Nat) (hi : j.toNatClampNeg = i) (hl : i < vs.length) (hd : decode c.code pc = .ok (.iastore, 1)) :
    ∃ T' h', Stand p l e R s m args below meth c T' (locs ++ [⟨a, j.toNatClampNeg⟩]) cells slots ∧ T'.heap = h' ∧ Wr h h' a j.toNatClampNeg (.int x) ∧ Arv Z h' a k .int n (vs.set i (.int x)) d ∧ ∀ t, Steps p.tables e below (T'.setTop (mkF m (pc + 1) Ls rest)) t → Steps p.tables e below (T.setTop (mkF m pc Ls ((.int x) :: .int j :: .ref a :: rest))) t := by
  obtain ⟨cl, A, q, S, N, H, G⟩ := V
  have hin := inb_of S hj
  obtain ⟨T', h', X', e', W, st'⟩ := stI X hx hZ eT A (j := j) (x := x) hin (g := mkF m pc Ls ((.int x) :: .int j :: .ref a :: rest)) rfl rfl hd
  exact ⟨T', h', X', e', W, Arv.set A q S N H G rfl W i hi hl, st'⟩
theorem own_lastore (X : Stand p l e R s m args below meth c T locs cells slots) (hx : p.tables.exec = Jvm.exec) (hZ : Z.Warmed39 s.vm) (eT : T.heap = h) {a : Addr} {k : ClassId} {n : Int32} {vs : List Value} {d : Value} (V : Arv Z h a k .long n vs d) {j : Int32} {x : Int64} (hj : ¬ j < 0 ∧ j < n) (i : Nat) (hi : j.toNatClampNeg = i) (hl : i < vs.length) (hd : decode c.code pc = .ok (.lastore, 1)) :
    ∃ T' h', Stand p l e R s m args below meth c T' (locs ++ [⟨a, j.toNatClampNeg⟩]) cells slots ∧ T'.heap = h' ∧ Wr h h' a j.toNatClampNeg (.long x) ∧ Arv Z h' a k .long n (vs.set i (.long x)) d ∧ ∀ t, Steps p.tables e below (T'.setTop (mkF m (pc + 1) Ls rest)) t → Steps p.tables e below (T.setTop (mkF m pc Ls ((.long x) :: .int j :: .ref a :: rest))) t := by
  obtain ⟨cl, A, q, S, N, H, G⟩ := V
  have hin := inb_of S hj
  obtain ⟨T', h', X', e', W, st'⟩ := stJ X hx hZ eT A (j := j) (x := x) hin (g := mkF m pc Ls ((.long x) :: .int j :: .ref a :: rest)) rfl rfl hd
  exact ⟨T', h', X', e', W, Arv.set A q S N H G rfl W i hi hl, st'⟩
theorem own_castore (X : Stand p l e R s m args below meth c T locs cells slots) (hx : p.tables.exec = Jvm.exec) (hZ : Z.Warmed39 s.vm) (eT : T.heap = h) {a : Addr} {k : ClassId} {n : Int32} {vs : List Value} {d : Value} (V : Arv Z h a k .char n vs d) {j : Int32} {x : Int32} (hj : ¬ j < 0 ∧ j < n) (i : Nat) (hi : j.toNatClampNeg = i) (hl : i < vs.length) (hd : decode c.code pc = .ok (.castore, 1)) :
    ∃ T' h', Stand p l e R s m args below meth c T' (locs ++ [⟨a, j.toNatClampNeg⟩]) cells slots ∧ T'.heap = h' ∧ Wr h h' a j.toNatClampNeg (.int (nar .char x)) ∧ Arv Z h' a k .char n (vs.set i (.int (nar .char x))) d ∧ ∀ t, Steps p.tables e below (T'.setTop (mkF m (pc + 1) Ls rest)) t → Steps p.tables e below (T.setTop (mkF m pc Ls ((.int x) :: .int j :: .ref a :: rest))) t := by
  obtain ⟨cl, A, q, S, N, H, G⟩ := V
  have hin := inb_of S hj
  obtain ⟨T', h', X', e', W, st'⟩ := stC X hx hZ eT A (j := j) (x := x) hin (g := mkF m pc Ls ((.int x) :: .int j :: .ref a :: rest)) rfl rfl hd
  exact ⟨T', h', X', e', W, Arv.set A q S N H G (fits_nar_char x) W i hi hl, st'⟩
theorem own_sastore (X : Stand p l e R s m args below meth c T locs cells slots) (hx : p.tables.exec = Jvm.exec) (hZ : Z.Warmed39 s.vm) (eT : T.heap = h) {a : Addr} {k : ClassId} {n : Int32} {vs : List Value} {d : Value} (V : Arv Z h a k .short n vs d) {j : Int32} {x : Int32} (hj : ¬ j < 0 ∧ j < n) (i : Nat) (hi : j.toNatClampNeg = i) (hl : i < vs.length) (hd : decode c.code pc = .ok (.sastore, 1)) :
    ∃ T' h', Stand p l e R s m args below meth c T' (locs ++ [⟨a, j.toNatClampNeg⟩]) cells slots ∧ T'.heap = h' ∧ Wr h h' a j.toNatClampNeg (.int (nar .short x)) ∧ Arv Z h' a k .short n (vs.set i (.int (nar .short x))) d ∧ ∀ t, Steps p.tables e below (T'.setTop (mkF m (pc + 1) Ls rest)) t → Steps p.tables e below (T.setTop (mkF m pc Ls ((.int x) :: .int j :: .ref a :: rest))) t := by
  obtain ⟨cl, A, q, S, N, H, G⟩ := V
  have hin := inb_of S hj
  obtain ⟨T', h', X', e', W, st'⟩ := stS X hx hZ eT A (j := j) (x := x) hin (g := mkF m pc Ls ((.int x) :: .int j :: .ref a :: rest)) rfl rfl hd
  exact ⟨T', h', X', e', W, Arv.set A q S N H G (fits_nar_short x) W i hi hl, st'⟩
theorem own_bastore (X : Stand p l e R s m args below meth c T locs cells slots) (hx : p.tables.exec = Jvm.exec) (hZ : Z.Warmed39 s.vm) (eT : T.heap = h) {a : Addr} {k : ClassId} {n : Int32} {vs : List Value} {d : Value} (V : Arv Z h a k .byte n vs d) {j : Int32} {x : Int32} (hj : ¬ j < 0 ∧ j < n) (i : Nat) (hi : j.toNatClampNeg = i) (hl : i < vs.length) (hd : decode c.code pc = .ok (.bastore, 1)) :
    ∃ T' h', Stand p l e R s m args below meth c T' (locs ++ [⟨a, j.toNatClampNeg⟩]) cells slots ∧ T'.heap = h' ∧ Wr h h' a j.toNatClampNeg (.int (nar .byte x)) ∧ Arv Z h' a k .byte n (vs.set i (.int (nar .byte x))) d ∧ ∀ t, Steps p.tables e below (T'.setTop (mkF m (pc + 1) Ls rest)) t → Steps p.tables e below (T.setTop (mkF m pc Ls ((.int x) :: .int j :: .ref a :: rest))) t := by
  obtain ⟨cl, A, q, S, N, H, G⟩ := V
  have hin := inb_of S hj
  obtain ⟨T', h', X', e', W, st'⟩ := stB X hx hZ eT A (j := j) (x := x) hin (g := mkF m pc Ls ((.int x) :: .int j :: .ref a :: rest)) rfl rfl hd
  exact ⟨T', h', X', e', W, Arv.set A q S N H G (fits_nar_byte x) W i hi hl, st'⟩
theorem own_aastore (X : Stand p l e R s m args below meth c T locs cells slots) (hx : p.tables.exec = Jvm.exec) (hZ : Z.Warmed39 s.vm) (eT : T.heap = h) {a : Addr} {k : ClassId} {n : Int32} {vs : List Value} {d : Value} {ty : FieldType} (V : Arv Z h a k ty n vs d) (ht : ty.isReference = true) {j : Int32} {v : Value} (hj : ¬ j < 0 ∧ j < n) (hf : fits ty v = true) (F : ∀ cl : Cell, Arr Z h a cl ty → cl.cls = k → Sto Z h a v) (i : Nat) (hi : j.toNatClampNeg = i) (hl : i < vs.length) (hd : decode c.code pc = .ok (.aastore, 1)) :
    ∃ T' h', Stand p l e R s m args below meth c T' (locs ++ [⟨a, j.toNatClampNeg⟩]) cells slots ∧ T'.heap = h' ∧ Wr h h' a j.toNatClampNeg v ∧ Arv Z h' a k ty n (vs.set i v) d ∧ ∀ t, Steps p.tables e below (T'.setTop (mkF m (pc + 1) Ls rest)) t → Steps p.tables e below (T.setTop (mkF m pc Ls (v :: .int j :: .ref a :: rest))) t := by
  obtain ⟨cl, A, q, S, N, H, G⟩ := V
  have hin := inb_of S hj
  obtain ⟨T', h', X', e', W, st'⟩ := stR X hx hZ eT A (j := j) (v := v) hin ht (F cl A q) (g := mkF m pc Ls (v :: .int j :: .ref a :: rest)) rfl rfl hd
  exact ⟨T', h', X', e', W, Arv.set A q S N H G hf W i hi hl, st'⟩
theorem own_newarr (X : Stand p l e R s m args below meth c T locs cells slots) (hx : p.tables.exec = Jvm.exec) (hZ : Z.Warmed39 s.vm) {aty : ArrayType} (w : (Cond.arrayClass (newarray.typeOf aty)).before a0 Z = true) (eT : T.heap = h) (hd : decode c.code pc = .ok (.newarray aty, 2)) {n : Int32} (hn : ¬ n < 0) {cap : Nat} (hcap : n.toNatClampNeg ≤ cap) (hb : cap * 8 ≤ 536870912) (hc : cells + 1 ≤ R.cells) (hl : slots + cap ≤ R.slots) {ad : String} (had : "[" ++ (newarray.typeOf aty).toString = ad) :
    ∃ T' h' cA, Stand p l e R s m args below meth c T' locs (cells + 1) (slots + cap) ∧ T'.heap = h' ∧ Ext h h' ∧ Arv Z h' h.size cA (newarray.typeOf aty) n (List.replicate cap (defaultValue (newarray.typeOf aty))) (defaultValue (newarray.typeOf aty)) ∧ Exa Z h' h.size ad ∧
      ∀ t, Steps p.tables e below (T'.setTop (mkF m (pc + 2) Ls (.ref h.size :: rest))) t → Steps p.tables e below (T.setTop (mkF m pc Ls (.int n :: rest))) t := by
  obtain ⟨T', h', cA, X', e', E', A', C', st'⟩ := newPE X hx hZ w eT (g := mkF m pc Ls (.int n :: rest)) rfl hd rfl hn hcap hb hc hl had
  exact ⟨T', h', cA, X', e', E', (Arv.new A' hn).pad (fun i => by have q := pad_rep [] (defaultValue (newarray.typeOf aty)) cap i; simpa using q), C', st'⟩
theorem own_newref (X : Stand p l e R s m args below meth c T locs cells slots) (hx : p.tables.exec = Jvm.exec) (hZ : Z.Warmed39 s.vm) {own C : String} {index : Nat} (hown : s.vm.findClass own = some m.cls) (w1 : (Cond.classLink own index C).before a0 Z = true) (w2 : (Cond.arrayOver (.object C)).before a0 Z = true) (eT : T.heap = h) (hd : decode c.code pc = .ok (.anewarray index, 3)) {n : Int32} (hn : ¬ n < 0) {cap : Nat} (hcap : n.toNatClampNeg ≤ cap) (hb : cap * 8 ≤ 536870912) (hc : cells + 1 ≤ R.cells) (hl : slots + cap ≤ R.slots) {ad : String} (had : "[" ++ (FieldType.object C).toString = ad) :
    ∃ T' h' cA, Stand p l e R s m args below meth c T' locs (cells + 1) (slots + cap) ∧ T'.heap = h' ∧ Ext h h' ∧ Arv Z h' h.size cA (.object C) n (List.replicate cap .null) .null ∧ Exa Z h' h.size ad ∧ Ovr Z cA C ∧
      ∀ t, Steps p.tables e below (T'.setTop (mkF m (pc + 3) Ls (.ref h.size :: rest))) t → Steps p.tables e below (T.setTop (mkF m pc Ls (.int n :: rest))) t := by
  obtain ⟨T', h', cA, X', e', E', A', C', O', st'⟩ := newRE X hx hZ hown w1 w2 eT (g := mkF m pc Ls (.int n :: rest)) rfl hd rfl hn hcap hb hc hl had
  exact ⟨T', h', cA, X', e', E', (Arv.new A' hn).pad (fun i => by have q := pad_rep [] (.null) cap i; simpa [defaultValue] using q), C', O', st'⟩
theorem own_newarr2 (X : Stand p l e R s m args below meth c T locs cells slots) (hx : p.tables.exec = Jvm.exec) (hZ : Z.Warmed39 s.vm) {own C : String} {ty : FieldType} {index : Nat} (hown : s.vm.findClass own = some m.cls) (hC : (FieldType.array ty).toString = C) (w1 : (Cond.classLink own index C).before a0 Z = true) (w2 : (Cond.arrayOver (.array ty)).before a0 Z = true) (eT : T.heap = h) (hd : decode c.code pc = .ok (.anewarray index, 3)) {n : Int32} (hn : ¬ n < 0) {cap : Nat} (hcap : n.toNatClampNeg ≤ cap) (hb : cap * 8 ≤ 536870912) (hc : cells + 1 ≤ R.cells) (hl : slots + cap ≤ R.slots) {ad : String} (had : "[" ++ C = ad) :
    ∃ T' h' cA, Stand p l e R s m args below meth c T' locs (cells + 1) (slots + cap) ∧ T'.heap = h' ∧ Ext h h' ∧ Arv Z h' h.size cA (.array ty) n (List.replicate cap .null) .null ∧ Exa Z h' h.size ad ∧ OvrA Z cA ty C ∧
      ∀ t, Steps p.tables e below (T'.setTop (mkF m (pc + 3) Ls (.ref h.size :: rest))) t → Steps p.tables e below (T.setTop (mkF m pc Ls (.int n :: rest))) t := by
  obtain ⟨T', h', cA, X', e', E', A', C', O', st'⟩ := newRA X hx hZ hown hC w1 w2 eT (g := mkF m pc Ls (.int n :: rest)) rfl hd rfl hn hcap hb hc hl had
  exact ⟨T', h', cA, X', e', E', (Arv.new A' hn).pad (fun i => by have q := pad_rep [] (.null) cap i; simpa [defaultValue] using q), C', O', st'⟩
theorem own_callP (X : Stand p l e R s m args below meth c T locs cells slots) (hx : p.tables.exec = Jvm.exec) (hZ : Z.Warmed39 s.vm) {own : String} {index kk : Nat} {y : MethodName} {bytes : ByteArray} {maxL : Nat} {ret : Option FieldType} (hown : s.vm.findClass own = some m.cls)
    (w1 : (Cond.methodLink own index y).before a0 Z = true) (w2 : (Cond.instanceMethod y).before a0 Z = true) (w3 : (Cond.privateMethod y).before a0 Z = true) (w4 : (Cond.code y bytes maxL ret).before a0 Z = true) (w5 : (Cond.initialized y.cls).before a0 Z = true) (w6 : (Cond.instantiable y.cls kk).before a0 Z = true) (hy : y.cls ≠ "java/lang/invoke/MethodHandle" ∧ y.cls ≠ "java/lang/invoke/VarHandle")
    {rm : Room} {al : List Value} {b : Addr} {C : String} (E : Exa Z h b C) (hM : own_Met l Z y bytes maxL ret rm (.ref b :: al).toArray h Q) (W : Nat) (hf : rm.frames + 1 ≤ R.frames) (hl : W + (maxL + 11) + rm.locals ≤ R.locals) (eT : T.heap = h) (hc : cells + rm.cells ≤ R.cells) (hn : slots + rm.slots ≤ R.slots)
    (hsz : Ls.size = c.maxLocals) (hlen : ∀ sig, parseMethodDescriptor y.desc = some sig → al.length = sig.parameters.length) (hst : st = al.reverse ++ .ref b :: rest) (hW : 2 * 0 + (rest.map fun v => v.category).sum ≤ W) (hd : decode c.code pc = .ok (.invokevirtual index, 3))
    (k : ∀ (v : Option Value) (T' : State) (L : List Loc), Stand p l e R s m args below meth c T' (locs ++ L) (cells + rm.cells) (slots + rm.slots) → Q v T'.heap L → own_Go p e below Φ T' (mkF m (pc + 3) Ls (v.toList ++ rest))) : own_Go p e below Φ T (mkF m pc Ls st) := by
  obtain ⟨cB, q1, q2⟩ := E.cell
  have hp : s.PrivateAt y := Cond.privateMethod_at (mvP hZ w3 (args := #[]))
  obtain ⟨cc, ki, z1, z2, -, z4, -⟩ := Cond.instantiable_spec (mvT (s := s) (args := args) hZ w6)
  have hsel : (Cond.selects y.cls y y).before args s = true := selects_self_of_private z1 z2 (by simp only [Bool.or_eq_false_iff] at z4; exact z4.1) hp (mvT hZ w2) hy
  obtain ⟨v, vm₁, ⟨T', L', k', n'⟩, -, X', ⟨L, hQ, l1, l2, l3⟩, st'⟩ := X.privateBack hx (y := y) hown (mvT hZ w1) (mvT hZ w2) hsel hp (mvT hZ w4) hy (own_back (W := W) hM hZ w4 w5 hf hl) (g := mkF m pc Ls st) rfl hsz (Steps.refl _) (a := b) (cell := cB) (by rw [eT]; exact q1) q2 (argsL := al) (rest := rest) hlen hst hW hd (fun _ _ => ⟨rfl, eT, hc, hn⟩)
  dsimp only [Pt.U, Pt.locs, Pt.cells, Pt.slots] at X' l1 l2 l3 st' hQ
  subst l1 l2 l3
  exact own_s st' (k v T' L X' hQ)
theorem own_eqI {args : Array Value} {t : Term} {n : Int32} (hq : (Cond.eq t (.int n)).value args Z none Z [] = some true) : t.eval args Z none [] Z = some (.int n) := eqv_i (Term.int_eval n) hq
theorem own_fldI {args : Array Value} {t : Term} {n : Int32} {a : Addr} {C f d : String} (ev : t.eval args Z none [] Z = some (.ref a)) (hq : (Cond.eq (.field t C f d) (.int n)).value args Z none Z [] = some true) : Fld Z Z.heap a C f d (.int n) := by
  have q := own_eqI hq
  rw [fld_at ev] at q
  exact Fld.start q
theorem own_nar_short (x : Int32) : nar .short x.toInt16.toInt32 = x.toInt16.toInt32 := by simp [nar]
theorem own_nar_byte (x : Int32) : nar .byte x.toInt8.toInt32 = x.toInt8.toInt32 := by simp [nar]
theorem own_nar_char (x : Int32) : nar .char x.toUInt32.toUInt16.toUInt32.toInt32 = x.toUInt32.toUInt16.toUInt32.toInt32 := by
  have e1 := c_i2c x
  have e2 := c_i2c (x.toUInt32.toUInt16.toUInt32.toInt32)
  exact Int32.toInt_inj.mp (by show (x.toUInt32.toUInt16.toUInt32.toInt32.toUInt32.toUInt16.toUInt32.toInt32).toInt = _; omega)
end Own
end Jvm.RoadKit
namespace Jvm.Pilot.@@N@@
open Jvm Jvm.ClassFile Sem Op Lib Jvm.Free Jvm.Stand Jvm.LawKit Jvm.RoadKit Bundle Jvm.Pilot.@@N@@.Jvm.D
def own_W (Z : State) (a0 : Array Value) (c_CONJUNCT : Addr) (c_POSITIVE : Addr) (c_NONE : Addr) (c_NEGATIVE : Addr) : Prop := (∀ d ∈ tables_1, d.before a0 Z = true) ∧ (Sta Z Z.heap "com/example/nepean/nepean/query/Polarity" "CONJUNCT" "Lcom/example/nepean/nepean/query/Polarity;" (.ref c_CONJUNCT)) ∧ (Exa Z Z.heap c_CONJUNCT "com/example/nepean/nepean/query/Polarity") ∧ (Sta Z Z.heap "com/example/nepean/nepean/query/Polarity" "POSITIVE" "Lcom/example/nepean/nepean/query/Polarity;" (.ref c_POSITIVE)) ∧ (Exa Z Z.heap c_POSITIVE "com/example/nepean/nepean/query/Polarity") ∧ (Sta Z Z.heap "com/example/nepean/nepean/query/Polarity" "NONE" "Lcom/example/nepean/nepean/query/Polarity;" (.ref c_NONE)) ∧ (Exa Z Z.heap c_NONE "com/example/nepean/nepean/query/Polarity") ∧ (Sta Z Z.heap "com/example/nepean/nepean/query/Polarity" "NEGATIVE" "Lcom/example/nepean/nepean/query/Polarity;" (.ref c_NEGATIVE)) ∧ (Exa Z Z.heap c_NEGATIVE "com/example/nepean/nepean/query/Polarity") ∧ (Fld Z Z.heap c_POSITIVE "java/lang/Enum" "ordinal" "I" (.int (1 : Int32))) ∧ (Fld Z Z.heap c_CONJUNCT "java/lang/Enum" "ordinal" "I" (.int (0 : Int32))) ∧ (Fld Z Z.heap c_NONE "java/lang/Enum" "ordinal" "I" (.int (3 : Int32))) ∧ (Fld Z Z.heap c_NEGATIVE "java/lang/Enum" "ordinal" "I" (.int (2 : Int32)))
theorem own_and3 (x : Int32) : (x &&& (3 : Int32)) = (0 : Int32) ∨ (x &&& (3 : Int32)) = (1 : Int32) ∨ (x &&& (3 : Int32)) = (2 : Int32) ∨ (x &&& (3 : Int32)) = (3 : Int32) := by
  have e1 : (x &&& 3).toInt = x.toInt % (2 ^ 2 : Nat) := c_mask x 3 2 (by decide) (by decide)
  have e3 : (x &&& 3).toInt = 0 ∨ (x &&& 3).toInt = 1 ∨ (x &&& 3).toInt = 2 ∨ (x &&& 3).toInt = 3 := by omega
  rcases e3 with e3 | e3 | e3 | e3
  · exact Or.inl <| (Int32.toInt_inj.mp (by rw [e3]; decide))
  · exact Or.inr <| Or.inl <| (Int32.toInt_inj.mp (by rw [e3]; decide))
  · exact Or.inr <| Or.inr <| Or.inl <| (Int32.toInt_inj.mp (by rw [e3]; decide))
  · exact Or.inr <| Or.inr <| Or.inr <| (Int32.toInt_inj.mp (by rw [e3]; decide))
theorem ef_0_I (m : MethodId) (x0 : Int32)  : entryFrame m #[(.int x0)] maxLocals = mkF m 0 #[.val (.int x0), .unset, .unset] [] := by first | (simp [entryFrame, mkF, argsToLocals, Value.category, maxLocals]; done) | rfl
theorem pn_com_example_nepean_nepean_query_PolarityDisjunctPinLaw : plainName "com/example/nepean/nepean/query/PolarityDisjunctPinLaw" = true := by first | (simp [plainName, overriddenIn]; done) | decide +kernel
theorem pd__28I_29Lcom_2fexample_2fnepean_2fnepean_2fquery_2fPolarity_3b : parseMethodDescriptor "(I)Lcom/example/nepean/nepean/query/Polarity;" = some ⟨[.int], some (.object "com/example/nepean/nepean/query/Polarity")⟩ := by decide +kernel
theorem ef_1_I (m : MethodId) (x0 : Int32)  : entryFrame m #[(.int x0)] 2 = mkF m 0 #[.val (.int x0), .unset] [] := by first | (simp [entryFrame, mkF, argsToLocals, Value.category]; done) | rfl
theorem d1_0 : decode method_2_code 0 = .ok (.iload_n 0, 1) := by decide +kernel
theorem d1_1 : decode method_2_code 1 = .ok (.iconst 3, 1) := by decide +kernel
theorem d1_2 : decode method_2_code 2 = .ok (.iand, 1) := by decide +kernel
theorem d1_3 : decode method_2_code 3 = .ok (.istore_n 1, 1) := by decide +kernel
theorem d1_4 : decode method_2_code 4 = .ok (.iload_n 1, 1) := by decide +kernel
theorem d1_5 : decode method_2_code 5 = .ok (.ifCond .ne 7, 3) := by decide +kernel
theorem d1_8 : decode method_2_code 8 = .ok (.getstatic 7, 3) := by decide +kernel
theorem d1_11 : decode method_2_code 11 = .ok (.areturn, 1) := by decide +kernel
set_option maxRecDepth 65536 in
set_option maxHeartbeats 40000000 in
theorem rm_pick_0 (l : Launch) (Z : State) (a0 : Array Value) (c_CONJUNCT : Addr) (c_POSITIVE : Addr) (c_NONE : Addr) (c_NEGATIVE : Addr) (hW : own_W Z a0 c_CONJUNCT c_POSITIVE c_NONE c_NEGATIVE) (k : Int32) (h0 : Heap) (O0 : Ext Z.heap h0) (hk : (k &&& (3 : Int32)) = (0 : Int32)) :
    own_Met l Z (⟨"com/example/nepean/nepean/query/PolarityDisjunctPinLaw", "pick", "(I)Lcom/example/nepean/nepean/query/Polarity;"⟩ : MethodName) method_2_code 2 (some (.object "com/example/nepean/nepean/query/Polarity")) ({ frames := 0, cells := 0, slots := 0, locals := 0 } : Room) #[(.int k)] h0 (fun v h L => v = some (.ref c_CONJUNCT) ∧ Fr Z.heap.size L ∧ h = h0) := by
  have hW_ := hW
  obtain ⟨hw, S_c_CONJUNCT, E_c_CONJUNCT, S_c_POSITIVE, E_c_POSITIVE, S_c_NONE, E_c_NONE, S_c_NEGATIVE, E_c_NEGATIVE, F_c_POSITIVE_ordinal, F_c_CONJUNCT_ordinal, F_c_NONE_ordinal, F_c_NEGATIVE_ordinal⟩ := hW_
  refine own_met (plainFor_of_name pn_com_example_nepean_nepean_query_PolarityDisjunctPinLaw) ?_
  intro p e s m below meth cc_ s₁ Φ hF X0 hx hby hml hZ hown hnm hret hlk e0
  have N0 := Fr.nil Z.heap.size
  refine own_k (T' := s₁) (g' := (mkF m 0 #[.val (.int k), .unset] [])) (fun _ k_ => castTop (ef_1_I m k) k_) ?_
  refine own_k (T' := s₁) (g' := (mkF m 1 #[.val (.int k), .unset] [(.int k)])) (fun _ k_ => XS.iloadN X0.here hx rfl (hb hby d1_0) rfl  k_) ?_
  refine own_k (T' := s₁) (g' := (mkF m 2 #[.val (.int k), .unset] [(.int (3 : Int32)), (.int k)])) (fun _ k_ => XS.iconst X0.here hx rfl (hb hby d1_1) k_) ?_
  refine own_k (T' := s₁) (g' := (mkF m 3 #[.val (.int k), .unset] [(.int (k &&& (3 : Int32)))])) (fun _ k_ => XS.iand X0.here hx rfl (hb hby d1_2) rfl k_) ?_
  refine own_k (T' := s₁) (g' := (mkF m 4 #[.val (.int k), .val (.int (k &&& (3 : Int32)))] [])) (fun _ k_ => XS.istoreN X0.here hx rfl (hb hby d1_3) rfl (l' := #[.val (.int k), .val (.int (k &&& (3 : Int32)))]) rfl k_) ?_
  rw [hk]
  refine own_k (T' := s₁) (g' := (mkF m 5 #[.val (.int k), .val (.int (0 : Int32))] [(.int (0 : Int32))])) (fun _ k_ => XS.iloadN X0.here hx rfl (hb hby d1_4) rfl  k_) ?_
  refine own_k (T' := s₁) (g' := (mkF m 8 #[.val (.int k), .val (.int (0 : Int32))] [])) (fun _ k_ => XS.ifNo X0.here hx rfl (hb hby d1_5) rfl ((if0 _ _).trans (teq (by decide : ((0 : Int32) = (0 : Int32)))).2) k_) ?_
  obtain ⟨T1, X1, e1, st1⟩ := getS2 X0 hx hZ hown (host := "") (Or.inl (hw _ (List.mem_of_getElem? (i := 4) rfl))) Via.refl e0 (S_c_CONJUNCT.ext O0) (g := (mkF m 8 #[.val (.int k), .val (.int (0 : Int32))] [])) rfl (hb hby d1_8)
  refine own_k (T' := T1) (g' := (mkF m 11 #[.val (.int k), .val (.int (0 : Int32))] [(.ref c_CONJUNCT)])) st1 ?_
  exact own_retA X1 hx hret rfl rfl hlk (hb hby d1_11) hF (by rw [e1]; exact ⟨rfl, N0, rfl⟩) (by decide) (by decide)
theorem pd__28_29Lcom_2fexample_2fnepean_2fnepean_2fquery_2fPolarity_3b : parseMethodDescriptor "()Lcom/example/nepean/nepean/query/Polarity;" = some ⟨[], some (.object "com/example/nepean/nepean/query/Polarity")⟩ := by decide +kernel
theorem ef_2_R (m : MethodId) (x0 : Addr)  : entryFrame m #[(.ref x0)] 1 = mkF m 0 #[.val (.ref x0)] [] := by first | (simp [entryFrame, mkF, argsToLocals, Value.category]; done) | rfl
theorem pn_com_example_nepean_nepean_query_Polarity : plainName "com/example/nepean/nepean/query/Polarity" = true := by first | (simp [plainName, overriddenIn]; done) | decide +kernel
theorem d2_0 : decode prog_20_method_5_code 0 = .ok (.aload_n 0, 1) := by decide +kernel
theorem d2_1 : decode prog_20_method_5_code 1 = .ok (.getstatic 3, 3) := by decide +kernel
theorem d2_4 : decode prog_20_method_5_code 4 = .ok (.if_acmp .ne 9, 3) := by decide +kernel
theorem d2_7 : decode prog_20_method_5_code 7 = .ok (.getstatic 7, 3) := by decide +kernel
theorem d2_10 : decode prog_20_method_5_code 10 = .ok (.goto 4, 3) := by decide +kernel
theorem d2_14 : decode prog_20_method_5_code 14 = .ok (.areturn, 1) := by decide +kernel
set_option maxRecDepth 65536 in
set_option maxHeartbeats 40000000 in
theorem rm_disjunct_1 (l : Launch) (Z : State) (a0 : Array Value) (c_CONJUNCT : Addr) (c_POSITIVE : Addr) (c_NONE : Addr) (c_NEGATIVE : Addr) (hW : own_W Z a0 c_CONJUNCT c_POSITIVE c_NONE c_NEGATIVE)  (h0 : Heap) (O0 : Ext Z.heap h0)  :
    own_Met l Z (⟨"com/example/nepean/nepean/query/Polarity", "disjunct", "()Lcom/example/nepean/nepean/query/Polarity;"⟩ : MethodName) prog_20_method_5_code 1 (some (.object "com/example/nepean/nepean/query/Polarity")) ({ frames := 0, cells := 0, slots := 0, locals := 0 } : Room) #[(.ref c_CONJUNCT)] h0 (fun v h L => v = some (.ref c_POSITIVE) ∧ Fr Z.heap.size L ∧ h = h0) := by
  have hW_ := hW
  obtain ⟨hw, S_c_CONJUNCT, E_c_CONJUNCT, S_c_POSITIVE, E_c_POSITIVE, S_c_NONE, E_c_NONE, S_c_NEGATIVE, E_c_NEGATIVE, F_c_POSITIVE_ordinal, F_c_CONJUNCT_ordinal, F_c_NONE_ordinal, F_c_NEGATIVE_ordinal⟩ := hW_
  refine own_met (plainFor_of_name pn_com_example_nepean_nepean_query_Polarity) ?_
  intro p e s m below meth cc_ s₁ Φ hF X0 hx hby hml hZ hown hnm hret hlk e0
  have N0 := Fr.nil Z.heap.size
  refine own_k (T' := s₁) (g' := (mkF m 0 #[.val (.ref c_CONJUNCT)] [])) (fun _ k_ => castTop (ef_2_R m c_CONJUNCT) k_) ?_
  refine own_k (T' := s₁) (g' := (mkF m 1 #[.val (.ref c_CONJUNCT)] [(.ref c_CONJUNCT)])) (fun _ k_ => XS.aloadN X0.here hx rfl (hb hby d2_0) rfl rfl  k_) ?_
  obtain ⟨T1, X1, e1, st1⟩ := getS2 X0 hx hZ hown (host := "") (Or.inl (hw _ (List.mem_of_getElem? (i := 12) rfl))) Via.refl e0 (S_c_CONJUNCT.ext O0) (g := (mkF m 1 #[.val (.ref c_CONJUNCT)] [(.ref c_CONJUNCT)])) rfl (hb hby d2_1)
  refine own_k (T' := T1) (g' := (mkF m 4 #[.val (.ref c_CONJUNCT)] [(.ref c_CONJUNCT), (.ref c_CONJUNCT)])) st1 ?_
  refine own_k (T' := T1) (g' := (mkF m 7 #[.val (.ref c_CONJUNCT)] [])) (fun _ k_ => Jvm.RoadKit.acmp (g := (mkF m 4 #[.val (.ref c_CONJUNCT)] [(.ref c_CONJUNCT), (.ref c_CONJUNCT)])) X1 hx rfl rfl rfl (pc0 := 4) (pc' := 7) (same := true) rfl (hb hby d2_4) rfl (decide_eq_true rfl) (by decide) (by decide) k_) ?_
  obtain ⟨T2, X2, e2, st2⟩ := getS2 X1 hx hZ hown (host := "") (Or.inl (hw _ (List.mem_of_getElem? (i := 13) rfl))) Via.refl e1 (S_c_POSITIVE.ext O0) (g := (mkF m 7 #[.val (.ref c_CONJUNCT)] [])) rfl (hb hby d2_7)
  refine own_k (T' := T2) (g' := (mkF m 10 #[.val (.ref c_CONJUNCT)] [(.ref c_POSITIVE)])) st2 ?_
  refine own_k (T' := T2) (g' := (mkF m 14 #[.val (.ref c_CONJUNCT)] [(.ref c_POSITIVE)])) (fun _ k_ => XS.goto X2.here hx rfl (pc0 := 10) (pc' := 14) rfl (hb hby d2_10) (by decide) (by decide) k_) ?_
  exact own_retA X2 hx hret rfl rfl hlk (hb hby d2_14) hF (by rw [e2]; exact ⟨rfl, N0, rfl⟩) (by decide) (by decide)
theorem pd__28Z_29Z : parseMethodDescriptor "(Z)Z" = some ⟨[.boolean], some .boolean⟩ := by decide +kernel
theorem ef_3_RI (m : MethodId) (x0 : Addr) (x1 : Int32)  : entryFrame m #[(.ref x0), (.int x1)] 2 = mkF m 0 #[.val (.ref x0), .val (.int x1)] [] := by first | (simp [entryFrame, mkF, argsToLocals, Value.category]; done) | rfl
theorem d3_0 : decode prog_20_method_6_code 0 = .ok (.aload_n 0, 1) := by decide +kernel
theorem d3_1 : decode prog_20_method_6_code 1 = .ok (.invokevirtual 35, 3) := by decide +kernel
theorem pd__28_29I : parseMethodDescriptor "()I" = some ⟨[], some .int⟩ := by decide +kernel
theorem ef_4_R (m : MethodId) (x0 : Addr)  : entryFrame m #[(.ref x0)] 1 = mkF m 0 #[.val (.ref x0)] [] := by first | (simp [entryFrame, mkF, argsToLocals, Value.category]; done) | rfl
theorem pn_java_lang_Enum : plainName "java/lang/Enum" = true := by first | (simp [plainName, overriddenIn]; done) | decide +kernel
theorem d4_0 : decode jdk_37_method_2_code 0 = .ok (.aload_n 0, 1) := by decide +kernel
theorem d4_1 : decode jdk_37_method_2_code 1 = .ok (.getfield 7, 3) := by decide +kernel
theorem d4_4 : decode jdk_37_method_2_code 4 = .ok (.ireturn, 1) := by decide +kernel
set_option maxRecDepth 65536 in
set_option maxHeartbeats 40000000 in
theorem rm_ordinal_3 (l : Launch) (Z : State) (a0 : Array Value) (c_CONJUNCT : Addr) (c_POSITIVE : Addr) (c_NONE : Addr) (c_NEGATIVE : Addr) (hW : own_W Z a0 c_CONJUNCT c_POSITIVE c_NONE c_NEGATIVE)  (h0 : Heap) (O0 : Ext Z.heap h0)  :
    own_Met l Z (⟨"java/lang/Enum", "ordinal", "()I"⟩ : MethodName) jdk_37_method_2_code 1 (some .int) ({ frames := 0, cells := 0, slots := 0, locals := 0 } : Room) #[(.ref c_POSITIVE)] h0 (fun v h L => v = some (.int (1 : Int32)) ∧ Fr Z.heap.size L ∧ h = h0) := by
  have hW_ := hW
  obtain ⟨hw, S_c_CONJUNCT, E_c_CONJUNCT, S_c_POSITIVE, E_c_POSITIVE, S_c_NONE, E_c_NONE, S_c_NEGATIVE, E_c_NEGATIVE, F_c_POSITIVE_ordinal, F_c_CONJUNCT_ordinal, F_c_NONE_ordinal, F_c_NEGATIVE_ordinal⟩ := hW_
  refine own_met (plainFor_of_name pn_java_lang_Enum) ?_
  intro p e s m below meth cc_ s₁ Φ hF X0 hx hby hml hZ hown hnm hret hlk e0
  have N0 := Fr.nil Z.heap.size
  refine own_k (T' := s₁) (g' := (mkF m 0 #[.val (.ref c_POSITIVE)] [])) (fun _ k_ => castTop (ef_4_R m c_POSITIVE) k_) ?_
  refine own_k (T' := s₁) (g' := (mkF m 1 #[.val (.ref c_POSITIVE)] [(.ref c_POSITIVE)])) (fun _ k_ => XS.aloadN X0.here hx rfl (hb hby d4_0) rfl rfl  k_) ?_
  obtain ⟨T1, X1, e1, st1⟩ := getF X0 hx hZ hown (host := "") (Or.inl (hw _ (List.mem_of_getElem? (i := 27) rfl))) Via.refl e0 (F_c_POSITIVE_ordinal.ext O0) (g := (mkF m 1 #[.val (.ref c_POSITIVE)] [(.ref c_POSITIVE)])) rfl rfl (hb hby d4_1)
  refine own_k (T' := T1) (g' := (mkF m 4 #[.val (.ref c_POSITIVE)] [(.int (1 : Int32))])) st1 ?_
  exact own_retI X1 hx hret hlk (hb hby d4_4) hF (by rw [e1]; exact ⟨rfl, N0, rfl⟩) (by decide) (by decide)
theorem d3_4 : decode prog_20_method_6_code 4 = .ok (.tableswitch 32 0 3 #[42, 42, 46, 58], 32) := by decide +kernel
theorem d3_46 : decode prog_20_method_6_code 46 = .ok (.iload_n 1, 1) := by decide +kernel
theorem d3_47 : decode prog_20_method_6_code 47 = .ok (.goto 16, 3) := by decide +kernel
theorem d3_63 : decode prog_20_method_6_code 63 = .ok (.ireturn, 1) := by decide +kernel
set_option maxRecDepth 65536 in
set_option maxHeartbeats 40000000 in
theorem rm_tellsFromUnknown_2 (l : Launch) (Z : State) (a0 : Array Value) (c_CONJUNCT : Addr) (c_POSITIVE : Addr) (c_NONE : Addr) (c_NEGATIVE : Addr) (hW : own_W Z a0 c_CONJUNCT c_POSITIVE c_NONE c_NEGATIVE)  (h0 : Heap) (O0 : Ext Z.heap h0)  :
    own_Met l Z (⟨"com/example/nepean/nepean/query/Polarity", "tellsFromUnknown", "(Z)Z"⟩ : MethodName) prog_20_method_6_code 2 (some .boolean) ({ frames := 1, cells := 0, slots := 0, locals := 12 } : Room) #[(.ref c_POSITIVE), (.int (1 : Int32))] h0 (fun v h L => v = some (.int (1 : Int32)) ∧ Fr Z.heap.size L ∧ h = h0) := by
  have hW_ := hW
  obtain ⟨hw, S_c_CONJUNCT, E_c_CONJUNCT, S_c_POSITIVE, E_c_POSITIVE, S_c_NONE, E_c_NONE, S_c_NEGATIVE, E_c_NEGATIVE, F_c_POSITIVE_ordinal, F_c_CONJUNCT_ordinal, F_c_NONE_ordinal, F_c_NEGATIVE_ordinal⟩ := hW_
  refine own_met (plainFor_of_name pn_com_example_nepean_nepean_query_Polarity) ?_
  intro p e s m below meth cc_ s₁ Φ hF X0 hx hby hml hZ hown hnm hret hlk e0
  have N0 := Fr.nil Z.heap.size
  refine own_k (T' := s₁) (g' := (mkF m 0 #[.val (.ref c_POSITIVE), .val (.int (1 : Int32))] [])) (fun _ k_ => castTop (ef_3_RI m c_POSITIVE (1 : Int32)) k_) ?_
  refine own_k (T' := s₁) (g' := (mkF m 1 #[.val (.ref c_POSITIVE), .val (.int (1 : Int32))] [(.ref c_POSITIVE)])) (fun _ k_ => XS.aloadN X0.here hx rfl (hb hby d3_0) rfl rfl  k_) ?_
  refine own_callU X0 hx hZ (C := "com/example/nepean/nepean/query/Polarity") (owner := "java/lang/Enum") (y := (⟨"com/example/nepean/nepean/query/Polarity", "ordinal", "()I"⟩ : MethodName)) (z := (⟨"java/lang/Enum", "ordinal", "()I"⟩ : MethodName)) hown (hw _ (List.mem_of_getElem? (i := 20) rfl)) (hw _ (List.mem_of_getElem? (i := 21) rfl)) (hw _ (List.mem_of_getElem? (i := 22) rfl)) (hw _ (List.mem_of_getElem? (i := 24) rfl)) (hw _ (List.mem_of_getElem? (i := 23) rfl)) (hw _ (List.mem_of_getElem? (i := 26) rfl)) (hw _ (List.mem_of_getElem? (i := 25) rfl)) (by decide) (al := []) (E_c_POSITIVE.ext O0) (rm_ordinal_3 l Z a0 c_CONJUNCT c_POSITIVE c_NONE c_NEGATIVE hW h0 O0) 0 (by decide) (by decide) e0 (by decide) (by decide) (by rw [hml]; rfl) (lenOf pd__28_29I rfl) rfl (rest := []) (by show 2 * 0 + _ ≤ _; exact Nat.le_of_eq rfl) (hb hby d3_1) ?_
  intro v1 T1 L1 X1 hQ1
  obtain ⟨rfl, Nq1, e1⟩ := hQ1
  have N1 := Fr.app N0 Nq1
  show own_Go p e below Φ T1 (mkF m 4 #[.val (.ref c_POSITIVE), .val (.int (1 : Int32))] [(.int (1 : Int32))])
  refine own_k (T' := T1) (g' := (mkF m 46 #[.val (.ref c_POSITIVE), .val (.int (1 : Int32))] [])) (fun _ k_ => XS.tswIn X1.here hx rfl (pc0 := 4) (pc' := 46) (o := 42) rfl (hb hby d3_4) rfl (by decide) (by decide) (by decide) (by decide) k_) ?_
  refine own_k (T' := T1) (g' := (mkF m 47 #[.val (.ref c_POSITIVE), .val (.int (1 : Int32))] [(.int (1 : Int32))])) (fun _ k_ => XS.iloadN X1.here hx rfl (hb hby d3_46) rfl  k_) ?_
  refine own_k (T' := T1) (g' := (mkF m 63 #[.val (.ref c_POSITIVE), .val (.int (1 : Int32))] [(.int (1 : Int32))])) (fun _ k_ => XS.goto X1.here hx rfl (pc0 := 47) (pc' := 63) rfl (hb hby d3_47) (by decide) (by decide) k_) ?_
  exact own_retN X1 hx (t := .boolean) hret (by simp) hlk (hb hby d3_63) hF (by rw [e1]; exact ⟨rfl, N1, rfl⟩) (by decide) (by decide)
set_option maxRecDepth 65536 in
set_option maxHeartbeats 40000000 in
theorem rm_ordinal_5 (l : Launch) (Z : State) (a0 : Array Value) (c_CONJUNCT : Addr) (c_POSITIVE : Addr) (c_NONE : Addr) (c_NEGATIVE : Addr) (hW : own_W Z a0 c_CONJUNCT c_POSITIVE c_NONE c_NEGATIVE)  (h0 : Heap) (O0 : Ext Z.heap h0)  :
    own_Met l Z (⟨"java/lang/Enum", "ordinal", "()I"⟩ : MethodName) jdk_37_method_2_code 1 (some .int) ({ frames := 0, cells := 0, slots := 0, locals := 0 } : Room) #[(.ref c_CONJUNCT)] h0 (fun v h L => v = some (.int (0 : Int32)) ∧ Fr Z.heap.size L ∧ h = h0) := by
  have hW_ := hW
  obtain ⟨hw, S_c_CONJUNCT, E_c_CONJUNCT, S_c_POSITIVE, E_c_POSITIVE, S_c_NONE, E_c_NONE, S_c_NEGATIVE, E_c_NEGATIVE, F_c_POSITIVE_ordinal, F_c_CONJUNCT_ordinal, F_c_NONE_ordinal, F_c_NEGATIVE_ordinal⟩ := hW_
  refine own_met (plainFor_of_name pn_java_lang_Enum) ?_
  intro p e s m below meth cc_ s₁ Φ hF X0 hx hby hml hZ hown hnm hret hlk e0
  have N0 := Fr.nil Z.heap.size
  refine own_k (T' := s₁) (g' := (mkF m 0 #[.val (.ref c_CONJUNCT)] [])) (fun _ k_ => castTop (ef_4_R m c_CONJUNCT) k_) ?_
  refine own_k (T' := s₁) (g' := (mkF m 1 #[.val (.ref c_CONJUNCT)] [(.ref c_CONJUNCT)])) (fun _ k_ => XS.aloadN X0.here hx rfl (hb hby d4_0) rfl rfl  k_) ?_
  obtain ⟨T1, X1, e1, st1⟩ := getF X0 hx hZ hown (host := "") (Or.inl (hw _ (List.mem_of_getElem? (i := 27) rfl))) Via.refl e0 (F_c_CONJUNCT_ordinal.ext O0) (g := (mkF m 1 #[.val (.ref c_CONJUNCT)] [(.ref c_CONJUNCT)])) rfl rfl (hb hby d4_1)
  refine own_k (T' := T1) (g' := (mkF m 4 #[.val (.ref c_CONJUNCT)] [(.int (0 : Int32))])) st1 ?_
  exact own_retI X1 hx hret hlk (hb hby d4_4) hF (by rw [e1]; exact ⟨rfl, N0, rfl⟩) (by decide) (by decide)
set_option maxRecDepth 65536 in
set_option maxHeartbeats 40000000 in
theorem rm_tellsFromUnknown_4 (l : Launch) (Z : State) (a0 : Array Value) (c_CONJUNCT : Addr) (c_POSITIVE : Addr) (c_NONE : Addr) (c_NEGATIVE : Addr) (hW : own_W Z a0 c_CONJUNCT c_POSITIVE c_NONE c_NEGATIVE)  (h0 : Heap) (O0 : Ext Z.heap h0)  :
    own_Met l Z (⟨"com/example/nepean/nepean/query/Polarity", "tellsFromUnknown", "(Z)Z"⟩ : MethodName) prog_20_method_6_code 2 (some .boolean) ({ frames := 1, cells := 0, slots := 0, locals := 12 } : Room) #[(.ref c_CONJUNCT), (.int (1 : Int32))] h0 (fun v h L => v = some (.int (1 : Int32)) ∧ Fr Z.heap.size L ∧ h = h0) := by
  have hW_ := hW
  obtain ⟨hw, S_c_CONJUNCT, E_c_CONJUNCT, S_c_POSITIVE, E_c_POSITIVE, S_c_NONE, E_c_NONE, S_c_NEGATIVE, E_c_NEGATIVE, F_c_POSITIVE_ordinal, F_c_CONJUNCT_ordinal, F_c_NONE_ordinal, F_c_NEGATIVE_ordinal⟩ := hW_
  refine own_met (plainFor_of_name pn_com_example_nepean_nepean_query_Polarity) ?_
  intro p e s m below meth cc_ s₁ Φ hF X0 hx hby hml hZ hown hnm hret hlk e0
  have N0 := Fr.nil Z.heap.size
  refine own_k (T' := s₁) (g' := (mkF m 0 #[.val (.ref c_CONJUNCT), .val (.int (1 : Int32))] [])) (fun _ k_ => castTop (ef_3_RI m c_CONJUNCT (1 : Int32)) k_) ?_
  refine own_k (T' := s₁) (g' := (mkF m 1 #[.val (.ref c_CONJUNCT), .val (.int (1 : Int32))] [(.ref c_CONJUNCT)])) (fun _ k_ => XS.aloadN X0.here hx rfl (hb hby d3_0) rfl rfl  k_) ?_
  refine own_callU X0 hx hZ (C := "com/example/nepean/nepean/query/Polarity") (owner := "java/lang/Enum") (y := (⟨"com/example/nepean/nepean/query/Polarity", "ordinal", "()I"⟩ : MethodName)) (z := (⟨"java/lang/Enum", "ordinal", "()I"⟩ : MethodName)) hown (hw _ (List.mem_of_getElem? (i := 20) rfl)) (hw _ (List.mem_of_getElem? (i := 21) rfl)) (hw _ (List.mem_of_getElem? (i := 22) rfl)) (hw _ (List.mem_of_getElem? (i := 24) rfl)) (hw _ (List.mem_of_getElem? (i := 23) rfl)) (hw _ (List.mem_of_getElem? (i := 26) rfl)) (hw _ (List.mem_of_getElem? (i := 25) rfl)) (by decide) (al := []) (E_c_CONJUNCT.ext O0) (rm_ordinal_5 l Z a0 c_CONJUNCT c_POSITIVE c_NONE c_NEGATIVE hW h0 O0) 0 (by decide) (by decide) e0 (by decide) (by decide) (by rw [hml]; rfl) (lenOf pd__28_29I rfl) rfl (rest := []) (by show 2 * 0 + _ ≤ _; exact Nat.le_of_eq rfl) (hb hby d3_1) ?_
  intro v1 T1 L1 X1 hQ1
  obtain ⟨rfl, Nq1, e1⟩ := hQ1
  have N1 := Fr.app N0 Nq1
  show own_Go p e below Φ T1 (mkF m 4 #[.val (.ref c_CONJUNCT), .val (.int (1 : Int32))] [(.int (0 : Int32))])
  refine own_k (T' := T1) (g' := (mkF m 46 #[.val (.ref c_CONJUNCT), .val (.int (1 : Int32))] [])) (fun _ k_ => XS.tswIn X1.here hx rfl (pc0 := 4) (pc' := 46) (o := 42) rfl (hb hby d3_4) rfl (by decide) (by decide) (by decide) (by decide) k_) ?_
  refine own_k (T' := T1) (g' := (mkF m 47 #[.val (.ref c_CONJUNCT), .val (.int (1 : Int32))] [(.int (1 : Int32))])) (fun _ k_ => XS.iloadN X1.here hx rfl (hb hby d3_46) rfl  k_) ?_
  refine own_k (T' := T1) (g' := (mkF m 63 #[.val (.ref c_CONJUNCT), .val (.int (1 : Int32))] [(.int (1 : Int32))])) (fun _ k_ => XS.goto X1.here hx rfl (pc0 := 47) (pc' := 63) rfl (hb hby d3_47) (by decide) (by decide) k_) ?_
  exact own_retN X1 hx (t := .boolean) hret (by simp) hlk (hb hby d3_63) hF (by rw [e1]; exact ⟨rfl, N1, rfl⟩) (by decide) (by decide)
set_option maxRecDepth 65536 in
set_option maxHeartbeats 40000000 in
theorem rm_tellsFromUnknown_6 (l : Launch) (Z : State) (a0 : Array Value) (c_CONJUNCT : Addr) (c_POSITIVE : Addr) (c_NONE : Addr) (c_NEGATIVE : Addr) (hW : own_W Z a0 c_CONJUNCT c_POSITIVE c_NONE c_NEGATIVE)  (h0 : Heap) (O0 : Ext Z.heap h0)  :
    own_Met l Z (⟨"com/example/nepean/nepean/query/Polarity", "tellsFromUnknown", "(Z)Z"⟩ : MethodName) prog_20_method_6_code 2 (some .boolean) ({ frames := 1, cells := 0, slots := 0, locals := 12 } : Room) #[(.ref c_POSITIVE), (.int (0 : Int32))] h0 (fun v h L => v = some (.int (0 : Int32)) ∧ Fr Z.heap.size L ∧ h = h0) := by
  have hW_ := hW
  obtain ⟨hw, S_c_CONJUNCT, E_c_CONJUNCT, S_c_POSITIVE, E_c_POSITIVE, S_c_NONE, E_c_NONE, S_c_NEGATIVE, E_c_NEGATIVE, F_c_POSITIVE_ordinal, F_c_CONJUNCT_ordinal, F_c_NONE_ordinal, F_c_NEGATIVE_ordinal⟩ := hW_
  refine own_met (plainFor_of_name pn_com_example_nepean_nepean_query_Polarity) ?_
  intro p e s m below meth cc_ s₁ Φ hF X0 hx hby hml hZ hown hnm hret hlk e0
  have N0 := Fr.nil Z.heap.size
  refine own_k (T' := s₁) (g' := (mkF m 0 #[.val (.ref c_POSITIVE), .val (.int (0 : Int32))] [])) (fun _ k_ => castTop (ef_3_RI m c_POSITIVE (0 : Int32)) k_) ?_
  refine own_k (T' := s₁) (g' := (mkF m 1 #[.val (.ref c_POSITIVE), .val (.int (0 : Int32))] [(.ref c_POSITIVE)])) (fun _ k_ => XS.aloadN X0.here hx rfl (hb hby d3_0) rfl rfl  k_) ?_
  refine own_callU X0 hx hZ (C := "com/example/nepean/nepean/query/Polarity") (owner := "java/lang/Enum") (y := (⟨"com/example/nepean/nepean/query/Polarity", "ordinal", "()I"⟩ : MethodName)) (z := (⟨"java/lang/Enum", "ordinal", "()I"⟩ : MethodName)) hown (hw _ (List.mem_of_getElem? (i := 20) rfl)) (hw _ (List.mem_of_getElem? (i := 21) rfl)) (hw _ (List.mem_of_getElem? (i := 22) rfl)) (hw _ (List.mem_of_getElem? (i := 24) rfl)) (hw _ (List.mem_of_getElem? (i := 23) rfl)) (hw _ (List.mem_of_getElem? (i := 26) rfl)) (hw _ (List.mem_of_getElem? (i := 25) rfl)) (by decide) (al := []) (E_c_POSITIVE.ext O0) (rm_ordinal_3 l Z a0 c_CONJUNCT c_POSITIVE c_NONE c_NEGATIVE hW h0 O0) 0 (by decide) (by decide) e0 (by decide) (by decide) (by rw [hml]; rfl) (lenOf pd__28_29I rfl) rfl (rest := []) (by show 2 * 0 + _ ≤ _; exact Nat.le_of_eq rfl) (hb hby d3_1) ?_
  intro v1 T1 L1 X1 hQ1
  obtain ⟨rfl, Nq1, e1⟩ := hQ1
  have N1 := Fr.app N0 Nq1
  show own_Go p e below Φ T1 (mkF m 4 #[.val (.ref c_POSITIVE), .val (.int (0 : Int32))] [(.int (1 : Int32))])
  refine own_k (T' := T1) (g' := (mkF m 46 #[.val (.ref c_POSITIVE), .val (.int (0 : Int32))] [])) (fun _ k_ => XS.tswIn X1.here hx rfl (pc0 := 4) (pc' := 46) (o := 42) rfl (hb hby d3_4) rfl (by decide) (by decide) (by decide) (by decide) k_) ?_
  refine own_k (T' := T1) (g' := (mkF m 47 #[.val (.ref c_POSITIVE), .val (.int (0 : Int32))] [(.int (0 : Int32))])) (fun _ k_ => XS.iloadN X1.here hx rfl (hb hby d3_46) rfl  k_) ?_
  refine own_k (T' := T1) (g' := (mkF m 63 #[.val (.ref c_POSITIVE), .val (.int (0 : Int32))] [(.int (0 : Int32))])) (fun _ k_ => XS.goto X1.here hx rfl (pc0 := 47) (pc' := 63) rfl (hb hby d3_47) (by decide) (by decide) k_) ?_
  exact own_retN X1 hx (t := .boolean) hret (by simp) hlk (hb hby d3_63) hF (by rw [e1]; exact ⟨rfl, N1, rfl⟩) (by decide) (by decide)
set_option maxRecDepth 65536 in
set_option maxHeartbeats 40000000 in
theorem rm_tellsFromUnknown_7 (l : Launch) (Z : State) (a0 : Array Value) (c_CONJUNCT : Addr) (c_POSITIVE : Addr) (c_NONE : Addr) (c_NEGATIVE : Addr) (hW : own_W Z a0 c_CONJUNCT c_POSITIVE c_NONE c_NEGATIVE)  (h0 : Heap) (O0 : Ext Z.heap h0)  :
    own_Met l Z (⟨"com/example/nepean/nepean/query/Polarity", "tellsFromUnknown", "(Z)Z"⟩ : MethodName) prog_20_method_6_code 2 (some .boolean) ({ frames := 1, cells := 0, slots := 0, locals := 12 } : Room) #[(.ref c_CONJUNCT), (.int (0 : Int32))] h0 (fun v h L => v = some (.int (0 : Int32)) ∧ Fr Z.heap.size L ∧ h = h0) := by
  have hW_ := hW
  obtain ⟨hw, S_c_CONJUNCT, E_c_CONJUNCT, S_c_POSITIVE, E_c_POSITIVE, S_c_NONE, E_c_NONE, S_c_NEGATIVE, E_c_NEGATIVE, F_c_POSITIVE_ordinal, F_c_CONJUNCT_ordinal, F_c_NONE_ordinal, F_c_NEGATIVE_ordinal⟩ := hW_
  refine own_met (plainFor_of_name pn_com_example_nepean_nepean_query_Polarity) ?_
  intro p e s m below meth cc_ s₁ Φ hF X0 hx hby hml hZ hown hnm hret hlk e0
  have N0 := Fr.nil Z.heap.size
  refine own_k (T' := s₁) (g' := (mkF m 0 #[.val (.ref c_CONJUNCT), .val (.int (0 : Int32))] [])) (fun _ k_ => castTop (ef_3_RI m c_CONJUNCT (0 : Int32)) k_) ?_
  refine own_k (T' := s₁) (g' := (mkF m 1 #[.val (.ref c_CONJUNCT), .val (.int (0 : Int32))] [(.ref c_CONJUNCT)])) (fun _ k_ => XS.aloadN X0.here hx rfl (hb hby d3_0) rfl rfl  k_) ?_
  refine own_callU X0 hx hZ (C := "com/example/nepean/nepean/query/Polarity") (owner := "java/lang/Enum") (y := (⟨"com/example/nepean/nepean/query/Polarity", "ordinal", "()I"⟩ : MethodName)) (z := (⟨"java/lang/Enum", "ordinal", "()I"⟩ : MethodName)) hown (hw _ (List.mem_of_getElem? (i := 20) rfl)) (hw _ (List.mem_of_getElem? (i := 21) rfl)) (hw _ (List.mem_of_getElem? (i := 22) rfl)) (hw _ (List.mem_of_getElem? (i := 24) rfl)) (hw _ (List.mem_of_getElem? (i := 23) rfl)) (hw _ (List.mem_of_getElem? (i := 26) rfl)) (hw _ (List.mem_of_getElem? (i := 25) rfl)) (by decide) (al := []) (E_c_CONJUNCT.ext O0) (rm_ordinal_5 l Z a0 c_CONJUNCT c_POSITIVE c_NONE c_NEGATIVE hW h0 O0) 0 (by decide) (by decide) e0 (by decide) (by decide) (by rw [hml]; rfl) (lenOf pd__28_29I rfl) rfl (rest := []) (by show 2 * 0 + _ ≤ _; exact Nat.le_of_eq rfl) (hb hby d3_1) ?_
  intro v1 T1 L1 X1 hQ1
  obtain ⟨rfl, Nq1, e1⟩ := hQ1
  have N1 := Fr.app N0 Nq1
  show own_Go p e below Φ T1 (mkF m 4 #[.val (.ref c_CONJUNCT), .val (.int (0 : Int32))] [(.int (0 : Int32))])
  refine own_k (T' := T1) (g' := (mkF m 46 #[.val (.ref c_CONJUNCT), .val (.int (0 : Int32))] [])) (fun _ k_ => XS.tswIn X1.here hx rfl (pc0 := 4) (pc' := 46) (o := 42) rfl (hb hby d3_4) rfl (by decide) (by decide) (by decide) (by decide) k_) ?_
  refine own_k (T' := T1) (g' := (mkF m 47 #[.val (.ref c_CONJUNCT), .val (.int (0 : Int32))] [(.int (0 : Int32))])) (fun _ k_ => XS.iloadN X1.here hx rfl (hb hby d3_46) rfl  k_) ?_
  refine own_k (T' := T1) (g' := (mkF m 63 #[.val (.ref c_CONJUNCT), .val (.int (0 : Int32))] [(.int (0 : Int32))])) (fun _ k_ => XS.goto X1.here hx rfl (pc0 := 47) (pc' := 63) rfl (hb hby d3_47) (by decide) (by decide) k_) ?_
  exact own_retN X1 hx (t := .boolean) hret (by simp) hlk (hb hby d3_63) hF (by rw [e1]; exact ⟨rfl, N1, rfl⟩) (by decide) (by decide)
theorem d2_13 : decode prog_20_method_5_code 13 = .ok (.aload_n 0, 1) := by decide +kernel
set_option maxRecDepth 65536 in
set_option maxHeartbeats 40000000 in
theorem rm_disjunct_8 (l : Launch) (Z : State) (a0 : Array Value) (c_CONJUNCT : Addr) (c_POSITIVE : Addr) (c_NONE : Addr) (c_NEGATIVE : Addr) (hW : own_W Z a0 c_CONJUNCT c_POSITIVE c_NONE c_NEGATIVE)  (h0 : Heap) (O0 : Ext Z.heap h0)  :
    own_Met l Z (⟨"com/example/nepean/nepean/query/Polarity", "disjunct", "()Lcom/example/nepean/nepean/query/Polarity;"⟩ : MethodName) prog_20_method_5_code 1 (some (.object "com/example/nepean/nepean/query/Polarity")) ({ frames := 0, cells := 0, slots := 0, locals := 0 } : Room) #[(.ref c_POSITIVE)] h0 (fun v h L => v = some (.ref c_POSITIVE) ∧ Fr Z.heap.size L ∧ h = h0) := by
  have hW_ := hW
  obtain ⟨hw, S_c_CONJUNCT, E_c_CONJUNCT, S_c_POSITIVE, E_c_POSITIVE, S_c_NONE, E_c_NONE, S_c_NEGATIVE, E_c_NEGATIVE, F_c_POSITIVE_ordinal, F_c_CONJUNCT_ordinal, F_c_NONE_ordinal, F_c_NEGATIVE_ordinal⟩ := hW_
  refine own_met (plainFor_of_name pn_com_example_nepean_nepean_query_Polarity) ?_
  intro p e s m below meth cc_ s₁ Φ hF X0 hx hby hml hZ hown hnm hret hlk e0
  have N0 := Fr.nil Z.heap.size
  refine own_k (T' := s₁) (g' := (mkF m 0 #[.val (.ref c_POSITIVE)] [])) (fun _ k_ => castTop (ef_2_R m c_POSITIVE) k_) ?_
  refine own_k (T' := s₁) (g' := (mkF m 1 #[.val (.ref c_POSITIVE)] [(.ref c_POSITIVE)])) (fun _ k_ => XS.aloadN X0.here hx rfl (hb hby d2_0) rfl rfl  k_) ?_
  obtain ⟨T1, X1, e1, st1⟩ := getS2 X0 hx hZ hown (host := "") (Or.inl (hw _ (List.mem_of_getElem? (i := 12) rfl))) Via.refl e0 (S_c_CONJUNCT.ext O0) (g := (mkF m 1 #[.val (.ref c_POSITIVE)] [(.ref c_POSITIVE)])) rfl (hb hby d2_1)
  refine own_k (T' := T1) (g' := (mkF m 4 #[.val (.ref c_POSITIVE)] [(.ref c_CONJUNCT), (.ref c_POSITIVE)])) st1 ?_
  refine own_k (T' := T1) (g' := (mkF m 13 #[.val (.ref c_POSITIVE)] [])) (fun _ k_ => Jvm.RoadKit.acmp (g := (mkF m 4 #[.val (.ref c_POSITIVE)] [(.ref c_CONJUNCT), (.ref c_POSITIVE)])) X1 hx rfl rfl rfl (pc0 := 4) (pc' := 13) (same := false) rfl (hb hby d2_4) rfl (decide_eq_false fun q => (Fld.ne F_c_POSITIVE_ordinal F_c_CONJUNCT_ordinal (by decide)) (Value.ref.inj q)) (by decide) (by decide) k_) ?_
  refine own_k (T' := T1) (g' := (mkF m 14 #[.val (.ref c_POSITIVE)] [(.ref c_POSITIVE)])) (fun _ k_ => XS.aloadN X1.here hx rfl (hb hby d2_13) rfl rfl  k_) ?_
  exact own_retA X1 hx hret rfl rfl hlk (hb hby d2_14) hF (by rw [e1]; exact ⟨rfl, N0, rfl⟩) (by decide) (by decide)
theorem d1_12 : decode method_2_code 12 = .ok (.iload_n 1, 1) := by decide +kernel
theorem d1_13 : decode method_2_code 13 = .ok (.iconst 1, 1) := by decide +kernel
theorem d1_14 : decode method_2_code 14 = .ok (.if_icmp .ne 7, 3) := by decide +kernel
theorem d1_17 : decode method_2_code 17 = .ok (.getstatic 13, 3) := by decide +kernel
theorem d1_20 : decode method_2_code 20 = .ok (.areturn, 1) := by decide +kernel
set_option maxRecDepth 65536 in
set_option maxHeartbeats 40000000 in
theorem rm_pick_1 (l : Launch) (Z : State) (a0 : Array Value) (c_CONJUNCT : Addr) (c_POSITIVE : Addr) (c_NONE : Addr) (c_NEGATIVE : Addr) (hW : own_W Z a0 c_CONJUNCT c_POSITIVE c_NONE c_NEGATIVE) (k : Int32) (h0 : Heap) (O0 : Ext Z.heap h0) (hk : (k &&& (3 : Int32)) = (1 : Int32)) :
    own_Met l Z (⟨"com/example/nepean/nepean/query/PolarityDisjunctPinLaw", "pick", "(I)Lcom/example/nepean/nepean/query/Polarity;"⟩ : MethodName) method_2_code 2 (some (.object "com/example/nepean/nepean/query/Polarity")) ({ frames := 0, cells := 0, slots := 0, locals := 0 } : Room) #[(.int k)] h0 (fun v h L => v = some (.ref c_POSITIVE) ∧ Fr Z.heap.size L ∧ h = h0) := by
  have hW_ := hW
  obtain ⟨hw, S_c_CONJUNCT, E_c_CONJUNCT, S_c_POSITIVE, E_c_POSITIVE, S_c_NONE, E_c_NONE, S_c_NEGATIVE, E_c_NEGATIVE, F_c_POSITIVE_ordinal, F_c_CONJUNCT_ordinal, F_c_NONE_ordinal, F_c_NEGATIVE_ordinal⟩ := hW_
  refine own_met (plainFor_of_name pn_com_example_nepean_nepean_query_PolarityDisjunctPinLaw) ?_
  intro p e s m below meth cc_ s₁ Φ hF X0 hx hby hml hZ hown hnm hret hlk e0
  have N0 := Fr.nil Z.heap.size
  refine own_k (T' := s₁) (g' := (mkF m 0 #[.val (.int k), .unset] [])) (fun _ k_ => castTop (ef_1_I m k) k_) ?_
  refine own_k (T' := s₁) (g' := (mkF m 1 #[.val (.int k), .unset] [(.int k)])) (fun _ k_ => XS.iloadN X0.here hx rfl (hb hby d1_0) rfl  k_) ?_
  refine own_k (T' := s₁) (g' := (mkF m 2 #[.val (.int k), .unset] [(.int (3 : Int32)), (.int k)])) (fun _ k_ => XS.iconst X0.here hx rfl (hb hby d1_1) k_) ?_
  refine own_k (T' := s₁) (g' := (mkF m 3 #[.val (.int k), .unset] [(.int (k &&& (3 : Int32)))])) (fun _ k_ => XS.iand X0.here hx rfl (hb hby d1_2) rfl k_) ?_
  refine own_k (T' := s₁) (g' := (mkF m 4 #[.val (.int k), .val (.int (k &&& (3 : Int32)))] [])) (fun _ k_ => XS.istoreN X0.here hx rfl (hb hby d1_3) rfl (l' := #[.val (.int k), .val (.int (k &&& (3 : Int32)))]) rfl k_) ?_
  rw [hk]
  refine own_k (T' := s₁) (g' := (mkF m 5 #[.val (.int k), .val (.int (1 : Int32))] [(.int (1 : Int32))])) (fun _ k_ => XS.iloadN X0.here hx rfl (hb hby d1_4) rfl  k_) ?_
  refine own_k (T' := s₁) (g' := (mkF m 12 #[.val (.int k), .val (.int (1 : Int32))] [])) (fun _ k_ => XS.ifYes X0.here hx rfl (pc0 := 5) (pc' := 12) rfl (hb hby d1_5) rfl ((if0 _ _).trans (feq (by decide : ¬ ((1 : Int32) = (0 : Int32)))).2) (by decide) (by decide) k_) ?_
  refine own_k (T' := s₁) (g' := (mkF m 13 #[.val (.int k), .val (.int (1 : Int32))] [(.int (1 : Int32))])) (fun _ k_ => XS.iloadN X0.here hx rfl (hb hby d1_12) rfl  k_) ?_
  refine own_k (T' := s₁) (g' := (mkF m 14 #[.val (.int k), .val (.int (1 : Int32))] [(.int (1 : Int32)), (.int (1 : Int32))])) (fun _ k_ => XS.iconst X0.here hx rfl (hb hby d1_13) k_) ?_
  refine own_k (T' := s₁) (g' := (mkF m 17 #[.val (.int k), .val (.int (1 : Int32))] [])) (fun _ k_ => XS.icmpNo X0.here hx rfl (hb hby d1_14) rfl ((teq (by decide : ((1 : Int32) = (1 : Int32)))).2) k_) ?_
  obtain ⟨T1, X1, e1, st1⟩ := getS2 X0 hx hZ hown (host := "") (Or.inl (hw _ (List.mem_of_getElem? (i := 33) rfl))) Via.refl e0 (S_c_POSITIVE.ext O0) (g := (mkF m 17 #[.val (.int k), .val (.int (1 : Int32))] [])) rfl (hb hby d1_17)
  refine own_k (T' := T1) (g' := (mkF m 20 #[.val (.int k), .val (.int (1 : Int32))] [(.ref c_POSITIVE)])) st1 ?_
  exact own_retA X1 hx hret rfl rfl hlk (hb hby d1_20) hF (by rw [e1]; exact ⟨rfl, N0, rfl⟩) (by decide) (by decide)
theorem d1_21 : decode method_2_code 21 = .ok (.iload_n 1, 1) := by decide +kernel
theorem d1_22 : decode method_2_code 22 = .ok (.iconst 2, 1) := by decide +kernel
theorem d1_23 : decode method_2_code 23 = .ok (.if_icmp .ne 7, 3) := by decide +kernel
theorem d1_26 : decode method_2_code 26 = .ok (.getstatic 16, 3) := by decide +kernel
theorem d1_29 : decode method_2_code 29 = .ok (.areturn, 1) := by decide +kernel
set_option maxRecDepth 65536 in
set_option maxHeartbeats 40000000 in
theorem rm_pick_2 (l : Launch) (Z : State) (a0 : Array Value) (c_CONJUNCT : Addr) (c_POSITIVE : Addr) (c_NONE : Addr) (c_NEGATIVE : Addr) (hW : own_W Z a0 c_CONJUNCT c_POSITIVE c_NONE c_NEGATIVE) (k : Int32) (h0 : Heap) (O0 : Ext Z.heap h0) (hk : (k &&& (3 : Int32)) = (2 : Int32)) :
    own_Met l Z (⟨"com/example/nepean/nepean/query/PolarityDisjunctPinLaw", "pick", "(I)Lcom/example/nepean/nepean/query/Polarity;"⟩ : MethodName) method_2_code 2 (some (.object "com/example/nepean/nepean/query/Polarity")) ({ frames := 0, cells := 0, slots := 0, locals := 0 } : Room) #[(.int k)] h0 (fun v h L => v = some (.ref c_NEGATIVE) ∧ Fr Z.heap.size L ∧ h = h0) := by
  have hW_ := hW
  obtain ⟨hw, S_c_CONJUNCT, E_c_CONJUNCT, S_c_POSITIVE, E_c_POSITIVE, S_c_NONE, E_c_NONE, S_c_NEGATIVE, E_c_NEGATIVE, F_c_POSITIVE_ordinal, F_c_CONJUNCT_ordinal, F_c_NONE_ordinal, F_c_NEGATIVE_ordinal⟩ := hW_
  refine own_met (plainFor_of_name pn_com_example_nepean_nepean_query_PolarityDisjunctPinLaw) ?_
  intro p e s m below meth cc_ s₁ Φ hF X0 hx hby hml hZ hown hnm hret hlk e0
  have N0 := Fr.nil Z.heap.size
  refine own_k (T' := s₁) (g' := (mkF m 0 #[.val (.int k), .unset] [])) (fun _ k_ => castTop (ef_1_I m k) k_) ?_
  refine own_k (T' := s₁) (g' := (mkF m 1 #[.val (.int k), .unset] [(.int k)])) (fun _ k_ => XS.iloadN X0.here hx rfl (hb hby d1_0) rfl  k_) ?_
  refine own_k (T' := s₁) (g' := (mkF m 2 #[.val (.int k), .unset] [(.int (3 : Int32)), (.int k)])) (fun _ k_ => XS.iconst X0.here hx rfl (hb hby d1_1) k_) ?_
  refine own_k (T' := s₁) (g' := (mkF m 3 #[.val (.int k), .unset] [(.int (k &&& (3 : Int32)))])) (fun _ k_ => XS.iand X0.here hx rfl (hb hby d1_2) rfl k_) ?_
  refine own_k (T' := s₁) (g' := (mkF m 4 #[.val (.int k), .val (.int (k &&& (3 : Int32)))] [])) (fun _ k_ => XS.istoreN X0.here hx rfl (hb hby d1_3) rfl (l' := #[.val (.int k), .val (.int (k &&& (3 : Int32)))]) rfl k_) ?_
  rw [hk]
  refine own_k (T' := s₁) (g' := (mkF m 5 #[.val (.int k), .val (.int (2 : Int32))] [(.int (2 : Int32))])) (fun _ k_ => XS.iloadN X0.here hx rfl (hb hby d1_4) rfl  k_) ?_
  refine own_k (T' := s₁) (g' := (mkF m 12 #[.val (.int k), .val (.int (2 : Int32))] [])) (fun _ k_ => XS.ifYes X0.here hx rfl (pc0 := 5) (pc' := 12) rfl (hb hby d1_5) rfl ((if0 _ _).trans (feq (by decide : ¬ ((2 : Int32) = (0 : Int32)))).2) (by decide) (by decide) k_) ?_
  refine own_k (T' := s₁) (g' := (mkF m 13 #[.val (.int k), .val (.int (2 : Int32))] [(.int (2 : Int32))])) (fun _ k_ => XS.iloadN X0.here hx rfl (hb hby d1_12) rfl  k_) ?_
  refine own_k (T' := s₁) (g' := (mkF m 14 #[.val (.int k), .val (.int (2 : Int32))] [(.int (1 : Int32)), (.int (2 : Int32))])) (fun _ k_ => XS.iconst X0.here hx rfl (hb hby d1_13) k_) ?_
  refine own_k (T' := s₁) (g' := (mkF m 21 #[.val (.int k), .val (.int (2 : Int32))] [])) (fun _ k_ => XS.icmpYes X0.here hx rfl (pc0 := 14) (pc' := 21) rfl (hb hby d1_14) rfl ((feq (by decide : ¬ ((2 : Int32) = (1 : Int32)))).2) (by decide) (by decide) k_) ?_
  refine own_k (T' := s₁) (g' := (mkF m 22 #[.val (.int k), .val (.int (2 : Int32))] [(.int (2 : Int32))])) (fun _ k_ => XS.iloadN X0.here hx rfl (hb hby d1_21) rfl  k_) ?_
  refine own_k (T' := s₁) (g' := (mkF m 23 #[.val (.int k), .val (.int (2 : Int32))] [(.int (2 : Int32)), (.int (2 : Int32))])) (fun _ k_ => XS.iconst X0.here hx rfl (hb hby d1_22) k_) ?_
  refine own_k (T' := s₁) (g' := (mkF m 26 #[.val (.int k), .val (.int (2 : Int32))] [])) (fun _ k_ => XS.icmpNo X0.here hx rfl (hb hby d1_23) rfl ((teq (by decide : ((2 : Int32) = (2 : Int32)))).2) k_) ?_
  obtain ⟨T1, X1, e1, st1⟩ := getS2 X0 hx hZ hown (host := "") (Or.inl (hw _ (List.mem_of_getElem? (i := 31) rfl))) Via.refl e0 (S_c_NEGATIVE.ext O0) (g := (mkF m 26 #[.val (.int k), .val (.int (2 : Int32))] [])) rfl (hb hby d1_26)
  refine own_k (T' := T1) (g' := (mkF m 29 #[.val (.int k), .val (.int (2 : Int32))] [(.ref c_NEGATIVE)])) st1 ?_
  exact own_retA X1 hx hret rfl rfl hlk (hb hby d1_29) hF (by rw [e1]; exact ⟨rfl, N0, rfl⟩) (by decide) (by decide)
set_option maxRecDepth 65536 in
set_option maxHeartbeats 40000000 in
theorem rm_disjunct_11 (l : Launch) (Z : State) (a0 : Array Value) (c_CONJUNCT : Addr) (c_POSITIVE : Addr) (c_NONE : Addr) (c_NEGATIVE : Addr) (hW : own_W Z a0 c_CONJUNCT c_POSITIVE c_NONE c_NEGATIVE)  (h0 : Heap) (O0 : Ext Z.heap h0)  :
    own_Met l Z (⟨"com/example/nepean/nepean/query/Polarity", "disjunct", "()Lcom/example/nepean/nepean/query/Polarity;"⟩ : MethodName) prog_20_method_5_code 1 (some (.object "com/example/nepean/nepean/query/Polarity")) ({ frames := 0, cells := 0, slots := 0, locals := 0 } : Room) #[(.ref c_NEGATIVE)] h0 (fun v h L => v = some (.ref c_NEGATIVE) ∧ Fr Z.heap.size L ∧ h = h0) := by
  have hW_ := hW
  obtain ⟨hw, S_c_CONJUNCT, E_c_CONJUNCT, S_c_POSITIVE, E_c_POSITIVE, S_c_NONE, E_c_NONE, S_c_NEGATIVE, E_c_NEGATIVE, F_c_POSITIVE_ordinal, F_c_CONJUNCT_ordinal, F_c_NONE_ordinal, F_c_NEGATIVE_ordinal⟩ := hW_
  refine own_met (plainFor_of_name pn_com_example_nepean_nepean_query_Polarity) ?_
  intro p e s m below meth cc_ s₁ Φ hF X0 hx hby hml hZ hown hnm hret hlk e0
  have N0 := Fr.nil Z.heap.size
  refine own_k (T' := s₁) (g' := (mkF m 0 #[.val (.ref c_NEGATIVE)] [])) (fun _ k_ => castTop (ef_2_R m c_NEGATIVE) k_) ?_
  refine own_k (T' := s₁) (g' := (mkF m 1 #[.val (.ref c_NEGATIVE)] [(.ref c_NEGATIVE)])) (fun _ k_ => XS.aloadN X0.here hx rfl (hb hby d2_0) rfl rfl  k_) ?_
  obtain ⟨T1, X1, e1, st1⟩ := getS2 X0 hx hZ hown (host := "") (Or.inl (hw _ (List.mem_of_getElem? (i := 12) rfl))) Via.refl e0 (S_c_CONJUNCT.ext O0) (g := (mkF m 1 #[.val (.ref c_NEGATIVE)] [(.ref c_NEGATIVE)])) rfl (hb hby d2_1)
  refine own_k (T' := T1) (g' := (mkF m 4 #[.val (.ref c_NEGATIVE)] [(.ref c_CONJUNCT), (.ref c_NEGATIVE)])) st1 ?_
  refine own_k (T' := T1) (g' := (mkF m 13 #[.val (.ref c_NEGATIVE)] [])) (fun _ k_ => Jvm.RoadKit.acmp (g := (mkF m 4 #[.val (.ref c_NEGATIVE)] [(.ref c_CONJUNCT), (.ref c_NEGATIVE)])) X1 hx rfl rfl rfl (pc0 := 4) (pc' := 13) (same := false) rfl (hb hby d2_4) rfl (decide_eq_false fun q => (Fld.ne F_c_NEGATIVE_ordinal F_c_CONJUNCT_ordinal (by decide)) (Value.ref.inj q)) (by decide) (by decide) k_) ?_
  refine own_k (T' := T1) (g' := (mkF m 14 #[.val (.ref c_NEGATIVE)] [(.ref c_NEGATIVE)])) (fun _ k_ => XS.aloadN X1.here hx rfl (hb hby d2_13) rfl rfl  k_) ?_
  exact own_retA X1 hx hret rfl rfl hlk (hb hby d2_14) hF (by rw [e1]; exact ⟨rfl, N0, rfl⟩) (by decide) (by decide)
set_option maxRecDepth 65536 in
set_option maxHeartbeats 40000000 in
theorem rm_ordinal_13 (l : Launch) (Z : State) (a0 : Array Value) (c_CONJUNCT : Addr) (c_POSITIVE : Addr) (c_NONE : Addr) (c_NEGATIVE : Addr) (hW : own_W Z a0 c_CONJUNCT c_POSITIVE c_NONE c_NEGATIVE)  (h0 : Heap) (O0 : Ext Z.heap h0)  :
    own_Met l Z (⟨"java/lang/Enum", "ordinal", "()I"⟩ : MethodName) jdk_37_method_2_code 1 (some .int) ({ frames := 0, cells := 0, slots := 0, locals := 0 } : Room) #[(.ref c_NEGATIVE)] h0 (fun v h L => v = some (.int (2 : Int32)) ∧ Fr Z.heap.size L ∧ h = h0) := by
  have hW_ := hW
  obtain ⟨hw, S_c_CONJUNCT, E_c_CONJUNCT, S_c_POSITIVE, E_c_POSITIVE, S_c_NONE, E_c_NONE, S_c_NEGATIVE, E_c_NEGATIVE, F_c_POSITIVE_ordinal, F_c_CONJUNCT_ordinal, F_c_NONE_ordinal, F_c_NEGATIVE_ordinal⟩ := hW_
  refine own_met (plainFor_of_name pn_java_lang_Enum) ?_
  intro p e s m below meth cc_ s₁ Φ hF X0 hx hby hml hZ hown hnm hret hlk e0
  have N0 := Fr.nil Z.heap.size
  refine own_k (T' := s₁) (g' := (mkF m 0 #[.val (.ref c_NEGATIVE)] [])) (fun _ k_ => castTop (ef_4_R m c_NEGATIVE) k_) ?_
  refine own_k (T' := s₁) (g' := (mkF m 1 #[.val (.ref c_NEGATIVE)] [(.ref c_NEGATIVE)])) (fun _ k_ => XS.aloadN X0.here hx rfl (hb hby d4_0) rfl rfl  k_) ?_
  obtain ⟨T1, X1, e1, st1⟩ := getF X0 hx hZ hown (host := "") (Or.inl (hw _ (List.mem_of_getElem? (i := 27) rfl))) Via.refl e0 (F_c_NEGATIVE_ordinal.ext O0) (g := (mkF m 1 #[.val (.ref c_NEGATIVE)] [(.ref c_NEGATIVE)])) rfl rfl (hb hby d4_1)
  refine own_k (T' := T1) (g' := (mkF m 4 #[.val (.ref c_NEGATIVE)] [(.int (2 : Int32))])) st1 ?_
  exact own_retI X1 hx hret hlk (hb hby d4_4) hF (by rw [e1]; exact ⟨rfl, N0, rfl⟩) (by decide) (by decide)
theorem d3_50 : decode prog_20_method_6_code 50 = .ok (.iload_n 1, 1) := by decide +kernel
theorem d3_51 : decode prog_20_method_6_code 51 = .ok (.ifCond .ne 7, 3) := by decide +kernel
theorem d3_58 : decode prog_20_method_6_code 58 = .ok (.iconst 0, 1) := by decide +kernel
theorem d3_59 : decode prog_20_method_6_code 59 = .ok (.goto 4, 3) := by decide +kernel
set_option maxRecDepth 65536 in
set_option maxHeartbeats 40000000 in
theorem rm_tellsFromUnknown_12 (l : Launch) (Z : State) (a0 : Array Value) (c_CONJUNCT : Addr) (c_POSITIVE : Addr) (c_NONE : Addr) (c_NEGATIVE : Addr) (hW : own_W Z a0 c_CONJUNCT c_POSITIVE c_NONE c_NEGATIVE)  (h0 : Heap) (O0 : Ext Z.heap h0)  :
    own_Met l Z (⟨"com/example/nepean/nepean/query/Polarity", "tellsFromUnknown", "(Z)Z"⟩ : MethodName) prog_20_method_6_code 2 (some .boolean) ({ frames := 1, cells := 0, slots := 0, locals := 12 } : Room) #[(.ref c_NEGATIVE), (.int (1 : Int32))] h0 (fun v h L => v = some (.int (0 : Int32)) ∧ Fr Z.heap.size L ∧ h = h0) := by
  have hW_ := hW
  obtain ⟨hw, S_c_CONJUNCT, E_c_CONJUNCT, S_c_POSITIVE, E_c_POSITIVE, S_c_NONE, E_c_NONE, S_c_NEGATIVE, E_c_NEGATIVE, F_c_POSITIVE_ordinal, F_c_CONJUNCT_ordinal, F_c_NONE_ordinal, F_c_NEGATIVE_ordinal⟩ := hW_
  refine own_met (plainFor_of_name pn_com_example_nepean_nepean_query_Polarity) ?_
  intro p e s m below meth cc_ s₁ Φ hF X0 hx hby hml hZ hown hnm hret hlk e0
  have N0 := Fr.nil Z.heap.size
  refine own_k (T' := s₁) (g' := (mkF m 0 #[.val (.ref c_NEGATIVE), .val (.int (1 : Int32))] [])) (fun _ k_ => castTop (ef_3_RI m c_NEGATIVE (1 : Int32)) k_) ?_
  refine own_k (T' := s₁) (g' := (mkF m 1 #[.val (.ref c_NEGATIVE), .val (.int (1 : Int32))] [(.ref c_NEGATIVE)])) (fun _ k_ => XS.aloadN X0.here hx rfl (hb hby d3_0) rfl rfl  k_) ?_
  refine own_callU X0 hx hZ (C := "com/example/nepean/nepean/query/Polarity") (owner := "java/lang/Enum") (y := (⟨"com/example/nepean/nepean/query/Polarity", "ordinal", "()I"⟩ : MethodName)) (z := (⟨"java/lang/Enum", "ordinal", "()I"⟩ : MethodName)) hown (hw _ (List.mem_of_getElem? (i := 20) rfl)) (hw _ (List.mem_of_getElem? (i := 21) rfl)) (hw _ (List.mem_of_getElem? (i := 22) rfl)) (hw _ (List.mem_of_getElem? (i := 24) rfl)) (hw _ (List.mem_of_getElem? (i := 23) rfl)) (hw _ (List.mem_of_getElem? (i := 26) rfl)) (hw _ (List.mem_of_getElem? (i := 25) rfl)) (by decide) (al := []) (E_c_NEGATIVE.ext O0) (rm_ordinal_13 l Z a0 c_CONJUNCT c_POSITIVE c_NONE c_NEGATIVE hW h0 O0) 0 (by decide) (by decide) e0 (by decide) (by decide) (by rw [hml]; rfl) (lenOf pd__28_29I rfl) rfl (rest := []) (by show 2 * 0 + _ ≤ _; exact Nat.le_of_eq rfl) (hb hby d3_1) ?_
  intro v1 T1 L1 X1 hQ1
  obtain ⟨rfl, Nq1, e1⟩ := hQ1
  have N1 := Fr.app N0 Nq1
  show own_Go p e below Φ T1 (mkF m 4 #[.val (.ref c_NEGATIVE), .val (.int (1 : Int32))] [(.int (2 : Int32))])
  refine own_k (T' := T1) (g' := (mkF m 50 #[.val (.ref c_NEGATIVE), .val (.int (1 : Int32))] [])) (fun _ k_ => XS.tswIn X1.here hx rfl (pc0 := 4) (pc' := 50) (o := 46) rfl (hb hby d3_4) rfl (by decide) (by decide) (by decide) (by decide) k_) ?_
  refine own_k (T' := T1) (g' := (mkF m 51 #[.val (.ref c_NEGATIVE), .val (.int (1 : Int32))] [(.int (1 : Int32))])) (fun _ k_ => XS.iloadN X1.here hx rfl (hb hby d3_50) rfl  k_) ?_
  refine own_k (T' := T1) (g' := (mkF m 58 #[.val (.ref c_NEGATIVE), .val (.int (1 : Int32))] [])) (fun _ k_ => XS.ifYes X1.here hx rfl (pc0 := 51) (pc' := 58) rfl (hb hby d3_51) rfl ((if0 _ _).trans (feq (by decide : ¬ ((1 : Int32) = (0 : Int32)))).2) (by decide) (by decide) k_) ?_
  refine own_k (T' := T1) (g' := (mkF m 59 #[.val (.ref c_NEGATIVE), .val (.int (1 : Int32))] [(.int (0 : Int32))])) (fun _ k_ => XS.iconst X1.here hx rfl (hb hby d3_58) k_) ?_
  refine own_k (T' := T1) (g' := (mkF m 63 #[.val (.ref c_NEGATIVE), .val (.int (1 : Int32))] [(.int (0 : Int32))])) (fun _ k_ => XS.goto X1.here hx rfl (pc0 := 59) (pc' := 63) rfl (hb hby d3_59) (by decide) (by decide) k_) ?_
  exact own_retN X1 hx (t := .boolean) hret (by simp) hlk (hb hby d3_63) hF (by rw [e1]; exact ⟨rfl, N1, rfl⟩) (by decide) (by decide)
theorem d3_54 : decode prog_20_method_6_code 54 = .ok (.iconst 1, 1) := by decide +kernel
theorem d3_55 : decode prog_20_method_6_code 55 = .ok (.goto 8, 3) := by decide +kernel
set_option maxRecDepth 65536 in
set_option maxHeartbeats 40000000 in
theorem rm_tellsFromUnknown_14 (l : Launch) (Z : State) (a0 : Array Value) (c_CONJUNCT : Addr) (c_POSITIVE : Addr) (c_NONE : Addr) (c_NEGATIVE : Addr) (hW : own_W Z a0 c_CONJUNCT c_POSITIVE c_NONE c_NEGATIVE)  (h0 : Heap) (O0 : Ext Z.heap h0)  :
    own_Met l Z (⟨"com/example/nepean/nepean/query/Polarity", "tellsFromUnknown", "(Z)Z"⟩ : MethodName) prog_20_method_6_code 2 (some .boolean) ({ frames := 1, cells := 0, slots := 0, locals := 12 } : Room) #[(.ref c_NEGATIVE), (.int (0 : Int32))] h0 (fun v h L => v = some (.int (1 : Int32)) ∧ Fr Z.heap.size L ∧ h = h0) := by
  have hW_ := hW
  obtain ⟨hw, S_c_CONJUNCT, E_c_CONJUNCT, S_c_POSITIVE, E_c_POSITIVE, S_c_NONE, E_c_NONE, S_c_NEGATIVE, E_c_NEGATIVE, F_c_POSITIVE_ordinal, F_c_CONJUNCT_ordinal, F_c_NONE_ordinal, F_c_NEGATIVE_ordinal⟩ := hW_
  refine own_met (plainFor_of_name pn_com_example_nepean_nepean_query_Polarity) ?_
  intro p e s m below meth cc_ s₁ Φ hF X0 hx hby hml hZ hown hnm hret hlk e0
  have N0 := Fr.nil Z.heap.size
  refine own_k (T' := s₁) (g' := (mkF m 0 #[.val (.ref c_NEGATIVE), .val (.int (0 : Int32))] [])) (fun _ k_ => castTop (ef_3_RI m c_NEGATIVE (0 : Int32)) k_) ?_
  refine own_k (T' := s₁) (g' := (mkF m 1 #[.val (.ref c_NEGATIVE), .val (.int (0 : Int32))] [(.ref c_NEGATIVE)])) (fun _ k_ => XS.aloadN X0.here hx rfl (hb hby d3_0) rfl rfl  k_) ?_
  refine own_callU X0 hx hZ (C := "com/example/nepean/nepean/query/Polarity") (owner := "java/lang/Enum") (y := (⟨"com/example/nepean/nepean/query/Polarity", "ordinal", "()I"⟩ : MethodName)) (z := (⟨"java/lang/Enum", "ordinal", "()I"⟩ : MethodName)) hown (hw _ (List.mem_of_getElem? (i := 20) rfl)) (hw _ (List.mem_of_getElem? (i := 21) rfl)) (hw _ (List.mem_of_getElem? (i := 22) rfl)) (hw _ (List.mem_of_getElem? (i := 24) rfl)) (hw _ (List.mem_of_getElem? (i := 23) rfl)) (hw _ (List.mem_of_getElem? (i := 26) rfl)) (hw _ (List.mem_of_getElem? (i := 25) rfl)) (by decide) (al := []) (E_c_NEGATIVE.ext O0) (rm_ordinal_13 l Z a0 c_CONJUNCT c_POSITIVE c_NONE c_NEGATIVE hW h0 O0) 0 (by decide) (by decide) e0 (by decide) (by decide) (by rw [hml]; rfl) (lenOf pd__28_29I rfl) rfl (rest := []) (by show 2 * 0 + _ ≤ _; exact Nat.le_of_eq rfl) (hb hby d3_1) ?_
  intro v1 T1 L1 X1 hQ1
  obtain ⟨rfl, Nq1, e1⟩ := hQ1
  have N1 := Fr.app N0 Nq1
  show own_Go p e below Φ T1 (mkF m 4 #[.val (.ref c_NEGATIVE), .val (.int (0 : Int32))] [(.int (2 : Int32))])
  refine own_k (T' := T1) (g' := (mkF m 50 #[.val (.ref c_NEGATIVE), .val (.int (0 : Int32))] [])) (fun _ k_ => XS.tswIn X1.here hx rfl (pc0 := 4) (pc' := 50) (o := 46) rfl (hb hby d3_4) rfl (by decide) (by decide) (by decide) (by decide) k_) ?_
  refine own_k (T' := T1) (g' := (mkF m 51 #[.val (.ref c_NEGATIVE), .val (.int (0 : Int32))] [(.int (0 : Int32))])) (fun _ k_ => XS.iloadN X1.here hx rfl (hb hby d3_50) rfl  k_) ?_
  refine own_k (T' := T1) (g' := (mkF m 54 #[.val (.ref c_NEGATIVE), .val (.int (0 : Int32))] [])) (fun _ k_ => XS.ifNo X1.here hx rfl (hb hby d3_51) rfl ((if0 _ _).trans (teq (by decide : ((0 : Int32) = (0 : Int32)))).2) k_) ?_
  refine own_k (T' := T1) (g' := (mkF m 55 #[.val (.ref c_NEGATIVE), .val (.int (0 : Int32))] [(.int (1 : Int32))])) (fun _ k_ => XS.iconst X1.here hx rfl (hb hby d3_54) k_) ?_
  refine own_k (T' := T1) (g' := (mkF m 63 #[.val (.ref c_NEGATIVE), .val (.int (0 : Int32))] [(.int (1 : Int32))])) (fun _ k_ => XS.goto X1.here hx rfl (pc0 := 55) (pc' := 63) rfl (hb hby d3_55) (by decide) (by decide) k_) ?_
  exact own_retN X1 hx (t := .boolean) hret (by simp) hlk (hb hby d3_63) hF (by rw [e1]; exact ⟨rfl, N1, rfl⟩) (by decide) (by decide)
theorem d1_30 : decode method_2_code 30 = .ok (.getstatic 19, 3) := by decide +kernel
theorem d1_33 : decode method_2_code 33 = .ok (.areturn, 1) := by decide +kernel
set_option maxRecDepth 65536 in
set_option maxHeartbeats 40000000 in
theorem rm_pick_3 (l : Launch) (Z : State) (a0 : Array Value) (c_CONJUNCT : Addr) (c_POSITIVE : Addr) (c_NONE : Addr) (c_NEGATIVE : Addr) (hW : own_W Z a0 c_CONJUNCT c_POSITIVE c_NONE c_NEGATIVE) (k : Int32) (h0 : Heap) (O0 : Ext Z.heap h0) (hk : (k &&& (3 : Int32)) = (3 : Int32)) :
    own_Met l Z (⟨"com/example/nepean/nepean/query/PolarityDisjunctPinLaw", "pick", "(I)Lcom/example/nepean/nepean/query/Polarity;"⟩ : MethodName) method_2_code 2 (some (.object "com/example/nepean/nepean/query/Polarity")) ({ frames := 0, cells := 0, slots := 0, locals := 0 } : Room) #[(.int k)] h0 (fun v h L => v = some (.ref c_NONE) ∧ Fr Z.heap.size L ∧ h = h0) := by
  have hW_ := hW
  obtain ⟨hw, S_c_CONJUNCT, E_c_CONJUNCT, S_c_POSITIVE, E_c_POSITIVE, S_c_NONE, E_c_NONE, S_c_NEGATIVE, E_c_NEGATIVE, F_c_POSITIVE_ordinal, F_c_CONJUNCT_ordinal, F_c_NONE_ordinal, F_c_NEGATIVE_ordinal⟩ := hW_
  refine own_met (plainFor_of_name pn_com_example_nepean_nepean_query_PolarityDisjunctPinLaw) ?_
  intro p e s m below meth cc_ s₁ Φ hF X0 hx hby hml hZ hown hnm hret hlk e0
  have N0 := Fr.nil Z.heap.size
  refine own_k (T' := s₁) (g' := (mkF m 0 #[.val (.int k), .unset] [])) (fun _ k_ => castTop (ef_1_I m k) k_) ?_
  refine own_k (T' := s₁) (g' := (mkF m 1 #[.val (.int k), .unset] [(.int k)])) (fun _ k_ => XS.iloadN X0.here hx rfl (hb hby d1_0) rfl  k_) ?_
  refine own_k (T' := s₁) (g' := (mkF m 2 #[.val (.int k), .unset] [(.int (3 : Int32)), (.int k)])) (fun _ k_ => XS.iconst X0.here hx rfl (hb hby d1_1) k_) ?_
  refine own_k (T' := s₁) (g' := (mkF m 3 #[.val (.int k), .unset] [(.int (k &&& (3 : Int32)))])) (fun _ k_ => XS.iand X0.here hx rfl (hb hby d1_2) rfl k_) ?_
  refine own_k (T' := s₁) (g' := (mkF m 4 #[.val (.int k), .val (.int (k &&& (3 : Int32)))] [])) (fun _ k_ => XS.istoreN X0.here hx rfl (hb hby d1_3) rfl (l' := #[.val (.int k), .val (.int (k &&& (3 : Int32)))]) rfl k_) ?_
  rw [hk]
  refine own_k (T' := s₁) (g' := (mkF m 5 #[.val (.int k), .val (.int (3 : Int32))] [(.int (3 : Int32))])) (fun _ k_ => XS.iloadN X0.here hx rfl (hb hby d1_4) rfl  k_) ?_
  refine own_k (T' := s₁) (g' := (mkF m 12 #[.val (.int k), .val (.int (3 : Int32))] [])) (fun _ k_ => XS.ifYes X0.here hx rfl (pc0 := 5) (pc' := 12) rfl (hb hby d1_5) rfl ((if0 _ _).trans (feq (by decide : ¬ ((3 : Int32) = (0 : Int32)))).2) (by decide) (by decide) k_) ?_
  refine own_k (T' := s₁) (g' := (mkF m 13 #[.val (.int k), .val (.int (3 : Int32))] [(.int (3 : Int32))])) (fun _ k_ => XS.iloadN X0.here hx rfl (hb hby d1_12) rfl  k_) ?_
  refine own_k (T' := s₁) (g' := (mkF m 14 #[.val (.int k), .val (.int (3 : Int32))] [(.int (1 : Int32)), (.int (3 : Int32))])) (fun _ k_ => XS.iconst X0.here hx rfl (hb hby d1_13) k_) ?_
  refine own_k (T' := s₁) (g' := (mkF m 21 #[.val (.int k), .val (.int (3 : Int32))] [])) (fun _ k_ => XS.icmpYes X0.here hx rfl (pc0 := 14) (pc' := 21) rfl (hb hby d1_14) rfl ((feq (by decide : ¬ ((3 : Int32) = (1 : Int32)))).2) (by decide) (by decide) k_) ?_
  refine own_k (T' := s₁) (g' := (mkF m 22 #[.val (.int k), .val (.int (3 : Int32))] [(.int (3 : Int32))])) (fun _ k_ => XS.iloadN X0.here hx rfl (hb hby d1_21) rfl  k_) ?_
  refine own_k (T' := s₁) (g' := (mkF m 23 #[.val (.int k), .val (.int (3 : Int32))] [(.int (2 : Int32)), (.int (3 : Int32))])) (fun _ k_ => XS.iconst X0.here hx rfl (hb hby d1_22) k_) ?_
  refine own_k (T' := s₁) (g' := (mkF m 30 #[.val (.int k), .val (.int (3 : Int32))] [])) (fun _ k_ => XS.icmpYes X0.here hx rfl (pc0 := 23) (pc' := 30) rfl (hb hby d1_23) rfl ((feq (by decide : ¬ ((3 : Int32) = (2 : Int32)))).2) (by decide) (by decide) k_) ?_
  obtain ⟨T1, X1, e1, st1⟩ := getS2 X0 hx hZ hown (host := "") (Or.inl (hw _ (List.mem_of_getElem? (i := 29) rfl))) Via.refl e0 (S_c_NONE.ext O0) (g := (mkF m 30 #[.val (.int k), .val (.int (3 : Int32))] [])) rfl (hb hby d1_30)
  refine own_k (T' := T1) (g' := (mkF m 33 #[.val (.int k), .val (.int (3 : Int32))] [(.ref c_NONE)])) st1 ?_
  exact own_retA X1 hx hret rfl rfl hlk (hb hby d1_33) hF (by rw [e1]; exact ⟨rfl, N0, rfl⟩) (by decide) (by decide)
set_option maxRecDepth 65536 in
set_option maxHeartbeats 40000000 in
theorem rm_disjunct_16 (l : Launch) (Z : State) (a0 : Array Value) (c_CONJUNCT : Addr) (c_POSITIVE : Addr) (c_NONE : Addr) (c_NEGATIVE : Addr) (hW : own_W Z a0 c_CONJUNCT c_POSITIVE c_NONE c_NEGATIVE)  (h0 : Heap) (O0 : Ext Z.heap h0)  :
    own_Met l Z (⟨"com/example/nepean/nepean/query/Polarity", "disjunct", "()Lcom/example/nepean/nepean/query/Polarity;"⟩ : MethodName) prog_20_method_5_code 1 (some (.object "com/example/nepean/nepean/query/Polarity")) ({ frames := 0, cells := 0, slots := 0, locals := 0 } : Room) #[(.ref c_NONE)] h0 (fun v h L => v = some (.ref c_NONE) ∧ Fr Z.heap.size L ∧ h = h0) := by
  have hW_ := hW
  obtain ⟨hw, S_c_CONJUNCT, E_c_CONJUNCT, S_c_POSITIVE, E_c_POSITIVE, S_c_NONE, E_c_NONE, S_c_NEGATIVE, E_c_NEGATIVE, F_c_POSITIVE_ordinal, F_c_CONJUNCT_ordinal, F_c_NONE_ordinal, F_c_NEGATIVE_ordinal⟩ := hW_
  refine own_met (plainFor_of_name pn_com_example_nepean_nepean_query_Polarity) ?_
  intro p e s m below meth cc_ s₁ Φ hF X0 hx hby hml hZ hown hnm hret hlk e0
  have N0 := Fr.nil Z.heap.size
  refine own_k (T' := s₁) (g' := (mkF m 0 #[.val (.ref c_NONE)] [])) (fun _ k_ => castTop (ef_2_R m c_NONE) k_) ?_
  refine own_k (T' := s₁) (g' := (mkF m 1 #[.val (.ref c_NONE)] [(.ref c_NONE)])) (fun _ k_ => XS.aloadN X0.here hx rfl (hb hby d2_0) rfl rfl  k_) ?_
  obtain ⟨T1, X1, e1, st1⟩ := getS2 X0 hx hZ hown (host := "") (Or.inl (hw _ (List.mem_of_getElem? (i := 12) rfl))) Via.refl e0 (S_c_CONJUNCT.ext O0) (g := (mkF m 1 #[.val (.ref c_NONE)] [(.ref c_NONE)])) rfl (hb hby d2_1)
  refine own_k (T' := T1) (g' := (mkF m 4 #[.val (.ref c_NONE)] [(.ref c_CONJUNCT), (.ref c_NONE)])) st1 ?_
  refine own_k (T' := T1) (g' := (mkF m 13 #[.val (.ref c_NONE)] [])) (fun _ k_ => Jvm.RoadKit.acmp (g := (mkF m 4 #[.val (.ref c_NONE)] [(.ref c_CONJUNCT), (.ref c_NONE)])) X1 hx rfl rfl rfl (pc0 := 4) (pc' := 13) (same := false) rfl (hb hby d2_4) rfl (decide_eq_false fun q => (Fld.ne F_c_NONE_ordinal F_c_CONJUNCT_ordinal (by decide)) (Value.ref.inj q)) (by decide) (by decide) k_) ?_
  refine own_k (T' := T1) (g' := (mkF m 14 #[.val (.ref c_NONE)] [(.ref c_NONE)])) (fun _ k_ => XS.aloadN X1.here hx rfl (hb hby d2_13) rfl rfl  k_) ?_
  exact own_retA X1 hx hret rfl rfl hlk (hb hby d2_14) hF (by rw [e1]; exact ⟨rfl, N0, rfl⟩) (by decide) (by decide)
set_option maxRecDepth 65536 in
set_option maxHeartbeats 40000000 in
theorem rm_ordinal_18 (l : Launch) (Z : State) (a0 : Array Value) (c_CONJUNCT : Addr) (c_POSITIVE : Addr) (c_NONE : Addr) (c_NEGATIVE : Addr) (hW : own_W Z a0 c_CONJUNCT c_POSITIVE c_NONE c_NEGATIVE)  (h0 : Heap) (O0 : Ext Z.heap h0)  :
    own_Met l Z (⟨"java/lang/Enum", "ordinal", "()I"⟩ : MethodName) jdk_37_method_2_code 1 (some .int) ({ frames := 0, cells := 0, slots := 0, locals := 0 } : Room) #[(.ref c_NONE)] h0 (fun v h L => v = some (.int (3 : Int32)) ∧ Fr Z.heap.size L ∧ h = h0) := by
  have hW_ := hW
  obtain ⟨hw, S_c_CONJUNCT, E_c_CONJUNCT, S_c_POSITIVE, E_c_POSITIVE, S_c_NONE, E_c_NONE, S_c_NEGATIVE, E_c_NEGATIVE, F_c_POSITIVE_ordinal, F_c_CONJUNCT_ordinal, F_c_NONE_ordinal, F_c_NEGATIVE_ordinal⟩ := hW_
  refine own_met (plainFor_of_name pn_java_lang_Enum) ?_
  intro p e s m below meth cc_ s₁ Φ hF X0 hx hby hml hZ hown hnm hret hlk e0
  have N0 := Fr.nil Z.heap.size
  refine own_k (T' := s₁) (g' := (mkF m 0 #[.val (.ref c_NONE)] [])) (fun _ k_ => castTop (ef_4_R m c_NONE) k_) ?_
  refine own_k (T' := s₁) (g' := (mkF m 1 #[.val (.ref c_NONE)] [(.ref c_NONE)])) (fun _ k_ => XS.aloadN X0.here hx rfl (hb hby d4_0) rfl rfl  k_) ?_
  obtain ⟨T1, X1, e1, st1⟩ := getF X0 hx hZ hown (host := "") (Or.inl (hw _ (List.mem_of_getElem? (i := 27) rfl))) Via.refl e0 (F_c_NONE_ordinal.ext O0) (g := (mkF m 1 #[.val (.ref c_NONE)] [(.ref c_NONE)])) rfl rfl (hb hby d4_1)
  refine own_k (T' := T1) (g' := (mkF m 4 #[.val (.ref c_NONE)] [(.int (3 : Int32))])) st1 ?_
  exact own_retI X1 hx hret hlk (hb hby d4_4) hF (by rw [e1]; exact ⟨rfl, N0, rfl⟩) (by decide) (by decide)
theorem d3_62 : decode prog_20_method_6_code 62 = .ok (.iconst 1, 1) := by decide +kernel
set_option maxRecDepth 65536 in
set_option maxHeartbeats 40000000 in
theorem rm_tellsFromUnknown_17 (l : Launch) (Z : State) (a0 : Array Value) (c_CONJUNCT : Addr) (c_POSITIVE : Addr) (c_NONE : Addr) (c_NEGATIVE : Addr) (hW : own_W Z a0 c_CONJUNCT c_POSITIVE c_NONE c_NEGATIVE)  (h0 : Heap) (O0 : Ext Z.heap h0)  :
    own_Met l Z (⟨"com/example/nepean/nepean/query/Polarity", "tellsFromUnknown", "(Z)Z"⟩ : MethodName) prog_20_method_6_code 2 (some .boolean) ({ frames := 1, cells := 0, slots := 0, locals := 12 } : Room) #[(.ref c_NONE), (.int (1 : Int32))] h0 (fun v h L => v = some (.int (1 : Int32)) ∧ Fr Z.heap.size L ∧ h = h0) := by
  have hW_ := hW
  obtain ⟨hw, S_c_CONJUNCT, E_c_CONJUNCT, S_c_POSITIVE, E_c_POSITIVE, S_c_NONE, E_c_NONE, S_c_NEGATIVE, E_c_NEGATIVE, F_c_POSITIVE_ordinal, F_c_CONJUNCT_ordinal, F_c_NONE_ordinal, F_c_NEGATIVE_ordinal⟩ := hW_
  refine own_met (plainFor_of_name pn_com_example_nepean_nepean_query_Polarity) ?_
  intro p e s m below meth cc_ s₁ Φ hF X0 hx hby hml hZ hown hnm hret hlk e0
  have N0 := Fr.nil Z.heap.size
  refine own_k (T' := s₁) (g' := (mkF m 0 #[.val (.ref c_NONE), .val (.int (1 : Int32))] [])) (fun _ k_ => castTop (ef_3_RI m c_NONE (1 : Int32)) k_) ?_
  refine own_k (T' := s₁) (g' := (mkF m 1 #[.val (.ref c_NONE), .val (.int (1 : Int32))] [(.ref c_NONE)])) (fun _ k_ => XS.aloadN X0.here hx rfl (hb hby d3_0) rfl rfl  k_) ?_
  refine own_callU X0 hx hZ (C := "com/example/nepean/nepean/query/Polarity") (owner := "java/lang/Enum") (y := (⟨"com/example/nepean/nepean/query/Polarity", "ordinal", "()I"⟩ : MethodName)) (z := (⟨"java/lang/Enum", "ordinal", "()I"⟩ : MethodName)) hown (hw _ (List.mem_of_getElem? (i := 20) rfl)) (hw _ (List.mem_of_getElem? (i := 21) rfl)) (hw _ (List.mem_of_getElem? (i := 22) rfl)) (hw _ (List.mem_of_getElem? (i := 24) rfl)) (hw _ (List.mem_of_getElem? (i := 23) rfl)) (hw _ (List.mem_of_getElem? (i := 26) rfl)) (hw _ (List.mem_of_getElem? (i := 25) rfl)) (by decide) (al := []) (E_c_NONE.ext O0) (rm_ordinal_18 l Z a0 c_CONJUNCT c_POSITIVE c_NONE c_NEGATIVE hW h0 O0) 0 (by decide) (by decide) e0 (by decide) (by decide) (by rw [hml]; rfl) (lenOf pd__28_29I rfl) rfl (rest := []) (by show 2 * 0 + _ ≤ _; exact Nat.le_of_eq rfl) (hb hby d3_1) ?_
  intro v1 T1 L1 X1 hQ1
  obtain ⟨rfl, Nq1, e1⟩ := hQ1
  have N1 := Fr.app N0 Nq1
  show own_Go p e below Φ T1 (mkF m 4 #[.val (.ref c_NONE), .val (.int (1 : Int32))] [(.int (3 : Int32))])
  refine own_k (T' := T1) (g' := (mkF m 62 #[.val (.ref c_NONE), .val (.int (1 : Int32))] [])) (fun _ k_ => XS.tswIn X1.here hx rfl (pc0 := 4) (pc' := 62) (o := 58) rfl (hb hby d3_4) rfl (by decide) (by decide) (by decide) (by decide) k_) ?_
  refine own_k (T' := T1) (g' := (mkF m 63 #[.val (.ref c_NONE), .val (.int (1 : Int32))] [(.int (1 : Int32))])) (fun _ k_ => XS.iconst X1.here hx rfl (hb hby d3_62) k_) ?_
  exact own_retN X1 hx (t := .boolean) hret (by simp) hlk (hb hby d3_63) hF (by rw [e1]; exact ⟨rfl, N1, rfl⟩) (by decide) (by decide)
set_option maxRecDepth 65536 in
set_option maxHeartbeats 40000000 in
theorem rm_tellsFromUnknown_19 (l : Launch) (Z : State) (a0 : Array Value) (c_CONJUNCT : Addr) (c_POSITIVE : Addr) (c_NONE : Addr) (c_NEGATIVE : Addr) (hW : own_W Z a0 c_CONJUNCT c_POSITIVE c_NONE c_NEGATIVE)  (h0 : Heap) (O0 : Ext Z.heap h0)  :
    own_Met l Z (⟨"com/example/nepean/nepean/query/Polarity", "tellsFromUnknown", "(Z)Z"⟩ : MethodName) prog_20_method_6_code 2 (some .boolean) ({ frames := 1, cells := 0, slots := 0, locals := 12 } : Room) #[(.ref c_NONE), (.int (0 : Int32))] h0 (fun v h L => v = some (.int (1 : Int32)) ∧ Fr Z.heap.size L ∧ h = h0) := by
  have hW_ := hW
  obtain ⟨hw, S_c_CONJUNCT, E_c_CONJUNCT, S_c_POSITIVE, E_c_POSITIVE, S_c_NONE, E_c_NONE, S_c_NEGATIVE, E_c_NEGATIVE, F_c_POSITIVE_ordinal, F_c_CONJUNCT_ordinal, F_c_NONE_ordinal, F_c_NEGATIVE_ordinal⟩ := hW_
  refine own_met (plainFor_of_name pn_com_example_nepean_nepean_query_Polarity) ?_
  intro p e s m below meth cc_ s₁ Φ hF X0 hx hby hml hZ hown hnm hret hlk e0
  have N0 := Fr.nil Z.heap.size
  refine own_k (T' := s₁) (g' := (mkF m 0 #[.val (.ref c_NONE), .val (.int (0 : Int32))] [])) (fun _ k_ => castTop (ef_3_RI m c_NONE (0 : Int32)) k_) ?_
  refine own_k (T' := s₁) (g' := (mkF m 1 #[.val (.ref c_NONE), .val (.int (0 : Int32))] [(.ref c_NONE)])) (fun _ k_ => XS.aloadN X0.here hx rfl (hb hby d3_0) rfl rfl  k_) ?_
  refine own_callU X0 hx hZ (C := "com/example/nepean/nepean/query/Polarity") (owner := "java/lang/Enum") (y := (⟨"com/example/nepean/nepean/query/Polarity", "ordinal", "()I"⟩ : MethodName)) (z := (⟨"java/lang/Enum", "ordinal", "()I"⟩ : MethodName)) hown (hw _ (List.mem_of_getElem? (i := 20) rfl)) (hw _ (List.mem_of_getElem? (i := 21) rfl)) (hw _ (List.mem_of_getElem? (i := 22) rfl)) (hw _ (List.mem_of_getElem? (i := 24) rfl)) (hw _ (List.mem_of_getElem? (i := 23) rfl)) (hw _ (List.mem_of_getElem? (i := 26) rfl)) (hw _ (List.mem_of_getElem? (i := 25) rfl)) (by decide) (al := []) (E_c_NONE.ext O0) (rm_ordinal_18 l Z a0 c_CONJUNCT c_POSITIVE c_NONE c_NEGATIVE hW h0 O0) 0 (by decide) (by decide) e0 (by decide) (by decide) (by rw [hml]; rfl) (lenOf pd__28_29I rfl) rfl (rest := []) (by show 2 * 0 + _ ≤ _; exact Nat.le_of_eq rfl) (hb hby d3_1) ?_
  intro v1 T1 L1 X1 hQ1
  obtain ⟨rfl, Nq1, e1⟩ := hQ1
  have N1 := Fr.app N0 Nq1
  show own_Go p e below Φ T1 (mkF m 4 #[.val (.ref c_NONE), .val (.int (0 : Int32))] [(.int (3 : Int32))])
  refine own_k (T' := T1) (g' := (mkF m 62 #[.val (.ref c_NONE), .val (.int (0 : Int32))] [])) (fun _ k_ => XS.tswIn X1.here hx rfl (pc0 := 4) (pc' := 62) (o := 58) rfl (hb hby d3_4) rfl (by decide) (by decide) (by decide) (by decide) k_) ?_
  refine own_k (T' := T1) (g' := (mkF m 63 #[.val (.ref c_NONE), .val (.int (0 : Int32))] [(.int (1 : Int32))])) (fun _ k_ => XS.iconst X1.here hx rfl (hb hby d3_62) k_) ?_
  exact own_retN X1 hx (t := .boolean) hret (by simp) hlk (hb hby d3_63) hF (by rw [e1]; exact ⟨rfl, N1, rfl⟩) (by decide) (by decide)
set_option maxRecDepth 65536 in
set_option maxHeartbeats 40000000 in
theorem own_law (l : Launch) (Z : State) (a0 : Array Value) (c_CONJUNCT : Addr) (c_POSITIVE : Addr) (c_NONE : Addr) (c_NEGATIVE : Addr) (hW : own_W Z a0 c_CONJUNCT c_POSITIVE c_NONE c_NEGATIVE) (p0 : Int32) (h0 : Heap) (O0 : Ext Z.heap h0)  :
    own_Met l Z x code maxLocals ret room_1 #[(.int p0)] h0 (fun v h L => v = some (.int (1 : Int32)) ∧ Fr Z.heap.size L ∧ True) := by
  have hW_ := hW
  obtain ⟨hw, S_c_CONJUNCT, E_c_CONJUNCT, S_c_POSITIVE, E_c_POSITIVE, S_c_NONE, E_c_NONE, S_c_NEGATIVE, E_c_NEGATIVE, F_c_POSITIVE_ordinal, F_c_CONJUNCT_ordinal, F_c_NONE_ordinal, F_c_NEGATIVE_ordinal⟩ := hW_
  refine own_met (plainFor_of_name pn_com_example_nepean_nepean_query_PolarityDisjunctPinLaw) ?_
  intro p e s m below meth cc_ s₁ Φ hF X0 hx hby hml hZ hown hnm hret hlk e0
  have N0 := Fr.nil Z.heap.size
  refine own_k (T' := s₁) (g' := (mkF m 0 #[.val (.int p0), .unset, .unset] [])) (fun _ k_ => castTop (ef_0_I m p0) k_) ?_
  rcases own_and3 p0 with hk0 | hk1 | hk2 | hk3
  · refine own_k (T' := s₁) (g' := (mkF m 1 #[.val (.int p0), .unset, .unset] [(.int p0)])) (fun _ k_ => XS.iloadN X0.here hx rfl (hb hby at_0) rfl  k_) ?_
    refine own_callS X0 hx hZ (y := (⟨"com/example/nepean/nepean/query/PolarityDisjunctPinLaw", "pick", "(I)Lcom/example/nepean/nepean/query/Polarity;"⟩ : MethodName)) hown (hw _ (List.mem_of_getElem? (i := 0) rfl)) (hw _ (List.mem_of_getElem? (i := 1) rfl)) (hw _ (List.mem_of_getElem? (i := 2) rfl)) (hw _ (List.mem_of_getElem? (i := 3) rfl)) (by decide) (al := [(.int p0)]) (rm_pick_0 l Z a0 c_CONJUNCT c_POSITIVE c_NONE c_NEGATIVE hW p0 h0 O0 hk0) 0 (by decide) (by decide) e0 (by decide) (by decide) (by rw [hml]; rfl) (lenOf pd__28I_29Lcom_2fexample_2fnepean_2fnepean_2fquery_2fPolarity_3b rfl) rfl (rest := []) (by show 2 * 0 + _ ≤ _; exact Nat.le_of_eq rfl) (hb hby at_1) ?_
    intro v1 T1 L1 X1 hQ1
    obtain ⟨rfl, Nq1, e1⟩ := hQ1
    have N1 := Fr.app N0 Nq1
    show own_Go p e below Φ T1 (mkF m 4 #[.val (.int p0), .unset, .unset] [(.ref c_CONJUNCT)])
    refine own_k (T' := T1) (g' := (mkF m 5 #[.val (.int p0), .val (.ref c_CONJUNCT), .unset] [])) (fun _ k_ => XS.astoreN X1.here hx rfl (hb hby at_4) rfl rfl (l' := #[.val (.int p0), .val (.ref c_CONJUNCT), .unset]) rfl k_) ?_
    refine own_k (T' := T1) (g' := (mkF m 6 #[.val (.int p0), .val (.ref c_CONJUNCT), .unset] [(.ref c_CONJUNCT)])) (fun _ k_ => XS.aloadN X1.here hx rfl (hb hby at_5) rfl rfl  k_) ?_
    refine own_callV X1 hx hZ (C := "com/example/nepean/nepean/query/Polarity") (y := (⟨"com/example/nepean/nepean/query/Polarity", "disjunct", "()Lcom/example/nepean/nepean/query/Polarity;"⟩ : MethodName)) (z := (⟨"com/example/nepean/nepean/query/Polarity", "disjunct", "()Lcom/example/nepean/nepean/query/Polarity;"⟩ : MethodName)) hown (hw _ (List.mem_of_getElem? (i := 7) rfl)) (hw _ (List.mem_of_getElem? (i := 8) rfl)) (notFace_of_selects (args := #[]) (mvT hZ (hw _ (List.mem_of_getElem? (i := 10) rfl)))) (hw _ (List.mem_of_getElem? (i := 10) rfl)) (hw _ (List.mem_of_getElem? (i := 9) rfl)) (hw _ (List.mem_of_getElem? (i := 11) rfl)) (hw _ (List.mem_of_getElem? (i := 5) rfl)) (by decide) (al := []) (E_c_CONJUNCT.ext O0) (rm_disjunct_1 l Z a0 c_CONJUNCT c_POSITIVE c_NONE c_NEGATIVE hW h0 O0) 0 (by decide) (by decide) e1 (by decide) (by decide) (by rw [hml]; rfl) (lenOf pd__28_29Lcom_2fexample_2fnepean_2fnepean_2fquery_2fPolarity_3b rfl) rfl (rest := []) (by show 2 * 0 + _ ≤ _; exact Nat.le_of_eq rfl) (hb hby at_6) ?_
    intro v2 T2 L2 X2 hQ2
    obtain ⟨rfl, Nq2, e2⟩ := hQ2
    have N2 := Fr.app N1 Nq2
    show own_Go p e below Φ T2 (mkF m 9 #[.val (.int p0), .val (.ref c_CONJUNCT), .unset] [(.ref c_POSITIVE)])
    refine own_k (T' := T2) (g' := (mkF m 10 #[.val (.int p0), .val (.ref c_CONJUNCT), .val (.ref c_POSITIVE)] [])) (fun _ k_ => XS.astoreN X2.here hx rfl (hb hby at_9) rfl rfl (l' := #[.val (.int p0), .val (.ref c_CONJUNCT), .val (.ref c_POSITIVE)]) rfl k_) ?_
    refine own_k (T' := T2) (g' := (mkF m 11 #[.val (.int p0), .val (.ref c_CONJUNCT), .val (.ref c_POSITIVE)] [(.ref c_POSITIVE)])) (fun _ k_ => XS.aloadN X2.here hx rfl (hb hby at_10) rfl rfl  k_) ?_
    refine own_k (T' := T2) (g' := (mkF m 16 #[.val (.int p0), .val (.ref c_CONJUNCT), .val (.ref c_POSITIVE)] [])) (fun _ k_ => XS.ifnonnullYes X2.here hx rfl (pc0 := 11) (pc' := 16) rfl (hb hby at_11) rfl (by decide) (by decide) k_) ?_
    refine own_k (T' := T2) (g' := (mkF m 17 #[.val (.int p0), .val (.ref c_CONJUNCT), .val (.ref c_POSITIVE)] [(.ref c_POSITIVE)])) (fun _ k_ => XS.aloadN X2.here hx rfl (hb hby at_16) rfl rfl  k_) ?_
    obtain ⟨T3, X3, e3, st3⟩ := getS2 X2 hx hZ hown (host := "") (Or.inl (hw _ (List.mem_of_getElem? (i := 4) rfl))) Via.refl e2 (S_c_CONJUNCT.ext O0) (g := (mkF m 17 #[.val (.int p0), .val (.ref c_CONJUNCT), .val (.ref c_POSITIVE)] [(.ref c_POSITIVE)])) rfl (hb hby at_17)
    refine own_k (T' := T3) (g' := (mkF m 20 #[.val (.int p0), .val (.ref c_CONJUNCT), .val (.ref c_POSITIVE)] [(.ref c_CONJUNCT), (.ref c_POSITIVE)])) st3 ?_
    refine own_k (T' := T3) (g' := (mkF m 25 #[.val (.int p0), .val (.ref c_CONJUNCT), .val (.ref c_POSITIVE)] [])) (fun _ k_ => Jvm.RoadKit.acmp (g := (mkF m 20 #[.val (.int p0), .val (.ref c_CONJUNCT), .val (.ref c_POSITIVE)] [(.ref c_CONJUNCT), (.ref c_POSITIVE)])) X3 hx rfl rfl rfl (pc0 := 20) (pc' := 25) (same := false) rfl (hb hby at_20) rfl (decide_eq_false fun q => (Fld.ne F_c_POSITIVE_ordinal F_c_CONJUNCT_ordinal (by decide)) (Value.ref.inj q)) (by decide) (by decide) k_) ?_
    refine own_k (T' := T3) (g' := (mkF m 26 #[.val (.int p0), .val (.ref c_CONJUNCT), .val (.ref c_POSITIVE)] [(.ref c_POSITIVE)])) (fun _ k_ => XS.aloadN X3.here hx rfl (hb hby at_25) rfl rfl  k_) ?_
    refine own_k (T' := T3) (g' := (mkF m 27 #[.val (.int p0), .val (.ref c_CONJUNCT), .val (.ref c_POSITIVE)] [(.int (1 : Int32)), (.ref c_POSITIVE)])) (fun _ k_ => XS.iconst X3.here hx rfl (hb hby at_26) k_) ?_
    refine own_callV X3 hx hZ (C := "com/example/nepean/nepean/query/Polarity") (y := (⟨"com/example/nepean/nepean/query/Polarity", "tellsFromUnknown", "(Z)Z"⟩ : MethodName)) (z := (⟨"com/example/nepean/nepean/query/Polarity", "tellsFromUnknown", "(Z)Z"⟩ : MethodName)) hown (hw _ (List.mem_of_getElem? (i := 15) rfl)) (hw _ (List.mem_of_getElem? (i := 16) rfl)) (notFace_of_selects (args := #[]) (mvT hZ (hw _ (List.mem_of_getElem? (i := 18) rfl)))) (hw _ (List.mem_of_getElem? (i := 18) rfl)) (hw _ (List.mem_of_getElem? (i := 17) rfl)) (hw _ (List.mem_of_getElem? (i := 19) rfl)) (hw _ (List.mem_of_getElem? (i := 5) rfl)) (by decide) (al := [(.int (1 : Int32))]) (E_c_POSITIVE.ext O0) (rm_tellsFromUnknown_2 l Z a0 c_CONJUNCT c_POSITIVE c_NONE c_NEGATIVE hW h0 O0) 0 (by decide) (by decide) e3 (by decide) (by decide) (by rw [hml]; rfl) (lenOf pd__28Z_29Z rfl) rfl (rest := []) (by show 2 * 0 + _ ≤ _; exact Nat.le_of_eq rfl) (hb hby at_27) ?_
    intro v4 T4 L4 X4 hQ4
    obtain ⟨rfl, Nq4, e4⟩ := hQ4
    have N4 := Fr.app N2 Nq4
    show own_Go p e below Φ T4 (mkF m 30 #[.val (.int p0), .val (.ref c_CONJUNCT), .val (.ref c_POSITIVE)] [(.int (1 : Int32))])
    refine own_k (T' := T4) (g' := (mkF m 31 #[.val (.int p0), .val (.ref c_CONJUNCT), .val (.ref c_POSITIVE)] [(.ref c_CONJUNCT), (.int (1 : Int32))])) (fun _ k_ => XS.aloadN X4.here hx rfl (hb hby at_30) rfl rfl  k_) ?_
    refine own_k (T' := T4) (g' := (mkF m 32 #[.val (.int p0), .val (.ref c_CONJUNCT), .val (.ref c_POSITIVE)] [(.int (1 : Int32)), (.ref c_CONJUNCT), (.int (1 : Int32))])) (fun _ k_ => XS.iconst X4.here hx rfl (hb hby at_31) k_) ?_
    refine own_callV X4 hx hZ (C := "com/example/nepean/nepean/query/Polarity") (y := (⟨"com/example/nepean/nepean/query/Polarity", "tellsFromUnknown", "(Z)Z"⟩ : MethodName)) (z := (⟨"com/example/nepean/nepean/query/Polarity", "tellsFromUnknown", "(Z)Z"⟩ : MethodName)) hown (hw _ (List.mem_of_getElem? (i := 15) rfl)) (hw _ (List.mem_of_getElem? (i := 16) rfl)) (notFace_of_selects (args := #[]) (mvT hZ (hw _ (List.mem_of_getElem? (i := 18) rfl)))) (hw _ (List.mem_of_getElem? (i := 18) rfl)) (hw _ (List.mem_of_getElem? (i := 17) rfl)) (hw _ (List.mem_of_getElem? (i := 19) rfl)) (hw _ (List.mem_of_getElem? (i := 5) rfl)) (by decide) (al := [(.int (1 : Int32))]) (E_c_CONJUNCT.ext O0) (rm_tellsFromUnknown_4 l Z a0 c_CONJUNCT c_POSITIVE c_NONE c_NEGATIVE hW h0 O0) 1 (by decide) (by decide) e4 (by decide) (by decide) (by rw [hml]; rfl) (lenOf pd__28Z_29Z rfl) rfl (rest := [(.int (1 : Int32))]) (by show 2 * 0 + _ ≤ _; exact Nat.le_of_eq rfl) (hb hby at_32) ?_
    intro v5 T5 L5 X5 hQ5
    obtain ⟨rfl, Nq5, e5⟩ := hQ5
    have N5 := Fr.app N4 Nq5
    show own_Go p e below Φ T5 (mkF m 35 #[.val (.int p0), .val (.ref c_CONJUNCT), .val (.ref c_POSITIVE)] [(.int (1 : Int32)), (.int (1 : Int32))])
    refine own_k (T' := T5) (g' := (mkF m 40 #[.val (.int p0), .val (.ref c_CONJUNCT), .val (.ref c_POSITIVE)] [])) (fun _ k_ => XS.icmpYes X5.here hx rfl (pc0 := 35) (pc' := 40) rfl (hb hby at_35) rfl ((teq (by decide : ((1 : Int32) = (1 : Int32)))).1) (by decide) (by decide) k_) ?_
    refine own_k (T' := T5) (g' := (mkF m 41 #[.val (.int p0), .val (.ref c_CONJUNCT), .val (.ref c_POSITIVE)] [(.ref c_POSITIVE)])) (fun _ k_ => XS.aloadN X5.here hx rfl (hb hby at_40) rfl rfl  k_) ?_
    refine own_k (T' := T5) (g' := (mkF m 42 #[.val (.int p0), .val (.ref c_CONJUNCT), .val (.ref c_POSITIVE)] [(.int (0 : Int32)), (.ref c_POSITIVE)])) (fun _ k_ => XS.iconst X5.here hx rfl (hb hby at_41) k_) ?_
    refine own_callV X5 hx hZ (C := "com/example/nepean/nepean/query/Polarity") (y := (⟨"com/example/nepean/nepean/query/Polarity", "tellsFromUnknown", "(Z)Z"⟩ : MethodName)) (z := (⟨"com/example/nepean/nepean/query/Polarity", "tellsFromUnknown", "(Z)Z"⟩ : MethodName)) hown (hw _ (List.mem_of_getElem? (i := 15) rfl)) (hw _ (List.mem_of_getElem? (i := 16) rfl)) (notFace_of_selects (args := #[]) (mvT hZ (hw _ (List.mem_of_getElem? (i := 18) rfl)))) (hw _ (List.mem_of_getElem? (i := 18) rfl)) (hw _ (List.mem_of_getElem? (i := 17) rfl)) (hw _ (List.mem_of_getElem? (i := 19) rfl)) (hw _ (List.mem_of_getElem? (i := 5) rfl)) (by decide) (al := [(.int (0 : Int32))]) (E_c_POSITIVE.ext O0) (rm_tellsFromUnknown_6 l Z a0 c_CONJUNCT c_POSITIVE c_NONE c_NEGATIVE hW h0 O0) 0 (by decide) (by decide) e5 (by decide) (by decide) (by rw [hml]; rfl) (lenOf pd__28Z_29Z rfl) rfl (rest := []) (by show 2 * 0 + _ ≤ _; exact Nat.le_of_eq rfl) (hb hby at_42) ?_
    intro v6 T6 L6 X6 hQ6
    obtain ⟨rfl, Nq6, e6⟩ := hQ6
    have N6 := Fr.app N5 Nq6
    show own_Go p e below Φ T6 (mkF m 45 #[.val (.int p0), .val (.ref c_CONJUNCT), .val (.ref c_POSITIVE)] [(.int (0 : Int32))])
    refine own_k (T' := T6) (g' := (mkF m 46 #[.val (.int p0), .val (.ref c_CONJUNCT), .val (.ref c_POSITIVE)] [(.ref c_CONJUNCT), (.int (0 : Int32))])) (fun _ k_ => XS.aloadN X6.here hx rfl (hb hby at_45) rfl rfl  k_) ?_
    refine own_k (T' := T6) (g' := (mkF m 47 #[.val (.int p0), .val (.ref c_CONJUNCT), .val (.ref c_POSITIVE)] [(.int (0 : Int32)), (.ref c_CONJUNCT), (.int (0 : Int32))])) (fun _ k_ => XS.iconst X6.here hx rfl (hb hby at_46) k_) ?_
    refine own_callV X6 hx hZ (C := "com/example/nepean/nepean/query/Polarity") (y := (⟨"com/example/nepean/nepean/query/Polarity", "tellsFromUnknown", "(Z)Z"⟩ : MethodName)) (z := (⟨"com/example/nepean/nepean/query/Polarity", "tellsFromUnknown", "(Z)Z"⟩ : MethodName)) hown (hw _ (List.mem_of_getElem? (i := 15) rfl)) (hw _ (List.mem_of_getElem? (i := 16) rfl)) (notFace_of_selects (args := #[]) (mvT hZ (hw _ (List.mem_of_getElem? (i := 18) rfl)))) (hw _ (List.mem_of_getElem? (i := 18) rfl)) (hw _ (List.mem_of_getElem? (i := 17) rfl)) (hw _ (List.mem_of_getElem? (i := 19) rfl)) (hw _ (List.mem_of_getElem? (i := 5) rfl)) (by decide) (al := [(.int (0 : Int32))]) (E_c_CONJUNCT.ext O0) (rm_tellsFromUnknown_7 l Z a0 c_CONJUNCT c_POSITIVE c_NONE c_NEGATIVE hW h0 O0) 1 (by decide) (by decide) e6 (by decide) (by decide) (by rw [hml]; rfl) (lenOf pd__28Z_29Z rfl) rfl (rest := [(.int (0 : Int32))]) (by show 2 * 0 + _ ≤ _; exact Nat.le_of_eq rfl) (hb hby at_47) ?_
    intro v7 T7 L7 X7 hQ7
    obtain ⟨rfl, Nq7, e7⟩ := hQ7
    have N7 := Fr.app N6 Nq7
    show own_Go p e below Φ T7 (mkF m 50 #[.val (.int p0), .val (.ref c_CONJUNCT), .val (.ref c_POSITIVE)] [(.int (0 : Int32)), (.int (0 : Int32))])
    refine own_k (T' := T7) (g' := (mkF m 55 #[.val (.int p0), .val (.ref c_CONJUNCT), .val (.ref c_POSITIVE)] [])) (fun _ k_ => XS.icmpYes X7.here hx rfl (pc0 := 50) (pc' := 55) rfl (hb hby at_50) rfl ((teq (by decide : ((0 : Int32) = (0 : Int32)))).1) (by decide) (by decide) k_) ?_
    refine own_k (T' := T7) (g' := (mkF m 56 #[.val (.int p0), .val (.ref c_CONJUNCT), .val (.ref c_POSITIVE)] [(.ref c_POSITIVE)])) (fun _ k_ => XS.aloadN X7.here hx rfl (hb hby at_55) rfl rfl  k_) ?_
    refine own_callV X7 hx hZ (C := "com/example/nepean/nepean/query/Polarity") (y := (⟨"com/example/nepean/nepean/query/Polarity", "disjunct", "()Lcom/example/nepean/nepean/query/Polarity;"⟩ : MethodName)) (z := (⟨"com/example/nepean/nepean/query/Polarity", "disjunct", "()Lcom/example/nepean/nepean/query/Polarity;"⟩ : MethodName)) hown (hw _ (List.mem_of_getElem? (i := 7) rfl)) (hw _ (List.mem_of_getElem? (i := 8) rfl)) (notFace_of_selects (args := #[]) (mvT hZ (hw _ (List.mem_of_getElem? (i := 10) rfl)))) (hw _ (List.mem_of_getElem? (i := 10) rfl)) (hw _ (List.mem_of_getElem? (i := 9) rfl)) (hw _ (List.mem_of_getElem? (i := 11) rfl)) (hw _ (List.mem_of_getElem? (i := 5) rfl)) (by decide) (al := []) (E_c_POSITIVE.ext O0) (rm_disjunct_8 l Z a0 c_CONJUNCT c_POSITIVE c_NONE c_NEGATIVE hW h0 O0) 0 (by decide) (by decide) e7 (by decide) (by decide) (by rw [hml]; rfl) (lenOf pd__28_29Lcom_2fexample_2fnepean_2fnepean_2fquery_2fPolarity_3b rfl) rfl (rest := []) (by show 2 * 0 + _ ≤ _; exact Nat.le_of_eq rfl) (hb hby at_56) ?_
    intro v8 T8 L8 X8 hQ8
    obtain ⟨rfl, Nq8, e8⟩ := hQ8
    have N8 := Fr.app N7 Nq8
    show own_Go p e below Φ T8 (mkF m 59 #[.val (.int p0), .val (.ref c_CONJUNCT), .val (.ref c_POSITIVE)] [(.ref c_POSITIVE)])
    refine own_k (T' := T8) (g' := (mkF m 60 #[.val (.int p0), .val (.ref c_CONJUNCT), .val (.ref c_POSITIVE)] [(.ref c_POSITIVE), (.ref c_POSITIVE)])) (fun _ k_ => XS.aloadN X8.here hx rfl (hb hby at_59) rfl rfl  k_) ?_
    refine own_k (T' := T8) (g' := (mkF m 63 #[.val (.int p0), .val (.ref c_CONJUNCT), .val (.ref c_POSITIVE)] [])) (fun _ k_ => Jvm.RoadKit.acmp (g := (mkF m 60 #[.val (.int p0), .val (.ref c_CONJUNCT), .val (.ref c_POSITIVE)] [(.ref c_POSITIVE), (.ref c_POSITIVE)])) X8 hx rfl rfl rfl (pc0 := 60) (pc' := 63) (same := true) rfl (hb hby at_60) rfl (decide_eq_true rfl) (by decide) (by decide) k_) ?_
    refine own_k (T' := T8) (g' := (mkF m 64 #[.val (.int p0), .val (.ref c_CONJUNCT), .val (.ref c_POSITIVE)] [(.int (1 : Int32))])) (fun _ k_ => XS.iconst X8.here hx rfl (hb hby at_63) k_) ?_
    refine own_k (T' := T8) (g' := (mkF m 68 #[.val (.int p0), .val (.ref c_CONJUNCT), .val (.ref c_POSITIVE)] [(.int (1 : Int32))])) (fun _ k_ => XS.goto X8.here hx rfl (pc0 := 64) (pc' := 68) rfl (hb hby at_64) (by decide) (by decide) k_) ?_
    exact own_retN X8 hx (t := .boolean) hret (by simp) hlk (hb hby at_68) hF (⟨rfl, N8, trivial⟩) (by decide) (by decide)
  · refine own_k (T' := s₁) (g' := (mkF m 1 #[.val (.int p0), .unset, .unset] [(.int p0)])) (fun _ k_ => XS.iloadN X0.here hx rfl (hb hby at_0) rfl  k_) ?_
    refine own_callS X0 hx hZ (y := (⟨"com/example/nepean/nepean/query/PolarityDisjunctPinLaw", "pick", "(I)Lcom/example/nepean/nepean/query/Polarity;"⟩ : MethodName)) hown (hw _ (List.mem_of_getElem? (i := 0) rfl)) (hw _ (List.mem_of_getElem? (i := 1) rfl)) (hw _ (List.mem_of_getElem? (i := 2) rfl)) (hw _ (List.mem_of_getElem? (i := 3) rfl)) (by decide) (al := [(.int p0)]) (rm_pick_1 l Z a0 c_CONJUNCT c_POSITIVE c_NONE c_NEGATIVE hW p0 h0 O0 hk1) 0 (by decide) (by decide) e0 (by decide) (by decide) (by rw [hml]; rfl) (lenOf pd__28I_29Lcom_2fexample_2fnepean_2fnepean_2fquery_2fPolarity_3b rfl) rfl (rest := []) (by show 2 * 0 + _ ≤ _; exact Nat.le_of_eq rfl) (hb hby at_1) ?_
    intro v9 T9 L9 X9 hQ9
    obtain ⟨rfl, Nq9, e9⟩ := hQ9
    have N9 := Fr.app N0 Nq9
    show own_Go p e below Φ T9 (mkF m 4 #[.val (.int p0), .unset, .unset] [(.ref c_POSITIVE)])
    refine own_k (T' := T9) (g' := (mkF m 5 #[.val (.int p0), .val (.ref c_POSITIVE), .unset] [])) (fun _ k_ => XS.astoreN X9.here hx rfl (hb hby at_4) rfl rfl (l' := #[.val (.int p0), .val (.ref c_POSITIVE), .unset]) rfl k_) ?_
    refine own_k (T' := T9) (g' := (mkF m 6 #[.val (.int p0), .val (.ref c_POSITIVE), .unset] [(.ref c_POSITIVE)])) (fun _ k_ => XS.aloadN X9.here hx rfl (hb hby at_5) rfl rfl  k_) ?_
    refine own_callV X9 hx hZ (C := "com/example/nepean/nepean/query/Polarity") (y := (⟨"com/example/nepean/nepean/query/Polarity", "disjunct", "()Lcom/example/nepean/nepean/query/Polarity;"⟩ : MethodName)) (z := (⟨"com/example/nepean/nepean/query/Polarity", "disjunct", "()Lcom/example/nepean/nepean/query/Polarity;"⟩ : MethodName)) hown (hw _ (List.mem_of_getElem? (i := 7) rfl)) (hw _ (List.mem_of_getElem? (i := 8) rfl)) (notFace_of_selects (args := #[]) (mvT hZ (hw _ (List.mem_of_getElem? (i := 10) rfl)))) (hw _ (List.mem_of_getElem? (i := 10) rfl)) (hw _ (List.mem_of_getElem? (i := 9) rfl)) (hw _ (List.mem_of_getElem? (i := 11) rfl)) (hw _ (List.mem_of_getElem? (i := 5) rfl)) (by decide) (al := []) (E_c_POSITIVE.ext O0) (rm_disjunct_8 l Z a0 c_CONJUNCT c_POSITIVE c_NONE c_NEGATIVE hW h0 O0) 0 (by decide) (by decide) e9 (by decide) (by decide) (by rw [hml]; rfl) (lenOf pd__28_29Lcom_2fexample_2fnepean_2fnepean_2fquery_2fPolarity_3b rfl) rfl (rest := []) (by show 2 * 0 + _ ≤ _; exact Nat.le_of_eq rfl) (hb hby at_6) ?_
    intro v10 T10 L10 X10 hQ10
    obtain ⟨rfl, Nq10, e10⟩ := hQ10
    have N10 := Fr.app N9 Nq10
    show own_Go p e below Φ T10 (mkF m 9 #[.val (.int p0), .val (.ref c_POSITIVE), .unset] [(.ref c_POSITIVE)])
    refine own_k (T' := T10) (g' := (mkF m 10 #[.val (.int p0), .val (.ref c_POSITIVE), .val (.ref c_POSITIVE)] [])) (fun _ k_ => XS.astoreN X10.here hx rfl (hb hby at_9) rfl rfl (l' := #[.val (.int p0), .val (.ref c_POSITIVE), .val (.ref c_POSITIVE)]) rfl k_) ?_
    refine own_k (T' := T10) (g' := (mkF m 11 #[.val (.int p0), .val (.ref c_POSITIVE), .val (.ref c_POSITIVE)] [(.ref c_POSITIVE)])) (fun _ k_ => XS.aloadN X10.here hx rfl (hb hby at_10) rfl rfl  k_) ?_
    refine own_k (T' := T10) (g' := (mkF m 16 #[.val (.int p0), .val (.ref c_POSITIVE), .val (.ref c_POSITIVE)] [])) (fun _ k_ => XS.ifnonnullYes X10.here hx rfl (pc0 := 11) (pc' := 16) rfl (hb hby at_11) rfl (by decide) (by decide) k_) ?_
    refine own_k (T' := T10) (g' := (mkF m 17 #[.val (.int p0), .val (.ref c_POSITIVE), .val (.ref c_POSITIVE)] [(.ref c_POSITIVE)])) (fun _ k_ => XS.aloadN X10.here hx rfl (hb hby at_16) rfl rfl  k_) ?_
    obtain ⟨T11, X11, e11, st11⟩ := getS2 X10 hx hZ hown (host := "") (Or.inl (hw _ (List.mem_of_getElem? (i := 4) rfl))) Via.refl e10 (S_c_CONJUNCT.ext O0) (g := (mkF m 17 #[.val (.int p0), .val (.ref c_POSITIVE), .val (.ref c_POSITIVE)] [(.ref c_POSITIVE)])) rfl (hb hby at_17)
    refine own_k (T' := T11) (g' := (mkF m 20 #[.val (.int p0), .val (.ref c_POSITIVE), .val (.ref c_POSITIVE)] [(.ref c_CONJUNCT), (.ref c_POSITIVE)])) st11 ?_
    refine own_k (T' := T11) (g' := (mkF m 25 #[.val (.int p0), .val (.ref c_POSITIVE), .val (.ref c_POSITIVE)] [])) (fun _ k_ => Jvm.RoadKit.acmp (g := (mkF m 20 #[.val (.int p0), .val (.ref c_POSITIVE), .val (.ref c_POSITIVE)] [(.ref c_CONJUNCT), (.ref c_POSITIVE)])) X11 hx rfl rfl rfl (pc0 := 20) (pc' := 25) (same := false) rfl (hb hby at_20) rfl (decide_eq_false fun q => (Fld.ne F_c_POSITIVE_ordinal F_c_CONJUNCT_ordinal (by decide)) (Value.ref.inj q)) (by decide) (by decide) k_) ?_
    refine own_k (T' := T11) (g' := (mkF m 26 #[.val (.int p0), .val (.ref c_POSITIVE), .val (.ref c_POSITIVE)] [(.ref c_POSITIVE)])) (fun _ k_ => XS.aloadN X11.here hx rfl (hb hby at_25) rfl rfl  k_) ?_
    refine own_k (T' := T11) (g' := (mkF m 27 #[.val (.int p0), .val (.ref c_POSITIVE), .val (.ref c_POSITIVE)] [(.int (1 : Int32)), (.ref c_POSITIVE)])) (fun _ k_ => XS.iconst X11.here hx rfl (hb hby at_26) k_) ?_
    refine own_callV X11 hx hZ (C := "com/example/nepean/nepean/query/Polarity") (y := (⟨"com/example/nepean/nepean/query/Polarity", "tellsFromUnknown", "(Z)Z"⟩ : MethodName)) (z := (⟨"com/example/nepean/nepean/query/Polarity", "tellsFromUnknown", "(Z)Z"⟩ : MethodName)) hown (hw _ (List.mem_of_getElem? (i := 15) rfl)) (hw _ (List.mem_of_getElem? (i := 16) rfl)) (notFace_of_selects (args := #[]) (mvT hZ (hw _ (List.mem_of_getElem? (i := 18) rfl)))) (hw _ (List.mem_of_getElem? (i := 18) rfl)) (hw _ (List.mem_of_getElem? (i := 17) rfl)) (hw _ (List.mem_of_getElem? (i := 19) rfl)) (hw _ (List.mem_of_getElem? (i := 5) rfl)) (by decide) (al := [(.int (1 : Int32))]) (E_c_POSITIVE.ext O0) (rm_tellsFromUnknown_2 l Z a0 c_CONJUNCT c_POSITIVE c_NONE c_NEGATIVE hW h0 O0) 0 (by decide) (by decide) e11 (by decide) (by decide) (by rw [hml]; rfl) (lenOf pd__28Z_29Z rfl) rfl (rest := []) (by show 2 * 0 + _ ≤ _; exact Nat.le_of_eq rfl) (hb hby at_27) ?_
    intro v12 T12 L12 X12 hQ12
    obtain ⟨rfl, Nq12, e12⟩ := hQ12
    have N12 := Fr.app N10 Nq12
    show own_Go p e below Φ T12 (mkF m 30 #[.val (.int p0), .val (.ref c_POSITIVE), .val (.ref c_POSITIVE)] [(.int (1 : Int32))])
    refine own_k (T' := T12) (g' := (mkF m 31 #[.val (.int p0), .val (.ref c_POSITIVE), .val (.ref c_POSITIVE)] [(.ref c_POSITIVE), (.int (1 : Int32))])) (fun _ k_ => XS.aloadN X12.here hx rfl (hb hby at_30) rfl rfl  k_) ?_
    refine own_k (T' := T12) (g' := (mkF m 32 #[.val (.int p0), .val (.ref c_POSITIVE), .val (.ref c_POSITIVE)] [(.int (1 : Int32)), (.ref c_POSITIVE), (.int (1 : Int32))])) (fun _ k_ => XS.iconst X12.here hx rfl (hb hby at_31) k_) ?_
    refine own_callV X12 hx hZ (C := "com/example/nepean/nepean/query/Polarity") (y := (⟨"com/example/nepean/nepean/query/Polarity", "tellsFromUnknown", "(Z)Z"⟩ : MethodName)) (z := (⟨"com/example/nepean/nepean/query/Polarity", "tellsFromUnknown", "(Z)Z"⟩ : MethodName)) hown (hw _ (List.mem_of_getElem? (i := 15) rfl)) (hw _ (List.mem_of_getElem? (i := 16) rfl)) (notFace_of_selects (args := #[]) (mvT hZ (hw _ (List.mem_of_getElem? (i := 18) rfl)))) (hw _ (List.mem_of_getElem? (i := 18) rfl)) (hw _ (List.mem_of_getElem? (i := 17) rfl)) (hw _ (List.mem_of_getElem? (i := 19) rfl)) (hw _ (List.mem_of_getElem? (i := 5) rfl)) (by decide) (al := [(.int (1 : Int32))]) (E_c_POSITIVE.ext O0) (rm_tellsFromUnknown_2 l Z a0 c_CONJUNCT c_POSITIVE c_NONE c_NEGATIVE hW h0 O0) 1 (by decide) (by decide) e12 (by decide) (by decide) (by rw [hml]; rfl) (lenOf pd__28Z_29Z rfl) rfl (rest := [(.int (1 : Int32))]) (by show 2 * 0 + _ ≤ _; exact Nat.le_of_eq rfl) (hb hby at_32) ?_
    intro v13 T13 L13 X13 hQ13
    obtain ⟨rfl, Nq13, e13⟩ := hQ13
    have N13 := Fr.app N12 Nq13
    show own_Go p e below Φ T13 (mkF m 35 #[.val (.int p0), .val (.ref c_POSITIVE), .val (.ref c_POSITIVE)] [(.int (1 : Int32)), (.int (1 : Int32))])
    refine own_k (T' := T13) (g' := (mkF m 40 #[.val (.int p0), .val (.ref c_POSITIVE), .val (.ref c_POSITIVE)] [])) (fun _ k_ => XS.icmpYes X13.here hx rfl (pc0 := 35) (pc' := 40) rfl (hb hby at_35) rfl ((teq (by decide : ((1 : Int32) = (1 : Int32)))).1) (by decide) (by decide) k_) ?_
    refine own_k (T' := T13) (g' := (mkF m 41 #[.val (.int p0), .val (.ref c_POSITIVE), .val (.ref c_POSITIVE)] [(.ref c_POSITIVE)])) (fun _ k_ => XS.aloadN X13.here hx rfl (hb hby at_40) rfl rfl  k_) ?_
    refine own_k (T' := T13) (g' := (mkF m 42 #[.val (.int p0), .val (.ref c_POSITIVE), .val (.ref c_POSITIVE)] [(.int (0 : Int32)), (.ref c_POSITIVE)])) (fun _ k_ => XS.iconst X13.here hx rfl (hb hby at_41) k_) ?_
    refine own_callV X13 hx hZ (C := "com/example/nepean/nepean/query/Polarity") (y := (⟨"com/example/nepean/nepean/query/Polarity", "tellsFromUnknown", "(Z)Z"⟩ : MethodName)) (z := (⟨"com/example/nepean/nepean/query/Polarity", "tellsFromUnknown", "(Z)Z"⟩ : MethodName)) hown (hw _ (List.mem_of_getElem? (i := 15) rfl)) (hw _ (List.mem_of_getElem? (i := 16) rfl)) (notFace_of_selects (args := #[]) (mvT hZ (hw _ (List.mem_of_getElem? (i := 18) rfl)))) (hw _ (List.mem_of_getElem? (i := 18) rfl)) (hw _ (List.mem_of_getElem? (i := 17) rfl)) (hw _ (List.mem_of_getElem? (i := 19) rfl)) (hw _ (List.mem_of_getElem? (i := 5) rfl)) (by decide) (al := [(.int (0 : Int32))]) (E_c_POSITIVE.ext O0) (rm_tellsFromUnknown_6 l Z a0 c_CONJUNCT c_POSITIVE c_NONE c_NEGATIVE hW h0 O0) 0 (by decide) (by decide) e13 (by decide) (by decide) (by rw [hml]; rfl) (lenOf pd__28Z_29Z rfl) rfl (rest := []) (by show 2 * 0 + _ ≤ _; exact Nat.le_of_eq rfl) (hb hby at_42) ?_
    intro v14 T14 L14 X14 hQ14
    obtain ⟨rfl, Nq14, e14⟩ := hQ14
    have N14 := Fr.app N13 Nq14
    show own_Go p e below Φ T14 (mkF m 45 #[.val (.int p0), .val (.ref c_POSITIVE), .val (.ref c_POSITIVE)] [(.int (0 : Int32))])
    refine own_k (T' := T14) (g' := (mkF m 46 #[.val (.int p0), .val (.ref c_POSITIVE), .val (.ref c_POSITIVE)] [(.ref c_POSITIVE), (.int (0 : Int32))])) (fun _ k_ => XS.aloadN X14.here hx rfl (hb hby at_45) rfl rfl  k_) ?_
    refine own_k (T' := T14) (g' := (mkF m 47 #[.val (.int p0), .val (.ref c_POSITIVE), .val (.ref c_POSITIVE)] [(.int (0 : Int32)), (.ref c_POSITIVE), (.int (0 : Int32))])) (fun _ k_ => XS.iconst X14.here hx rfl (hb hby at_46) k_) ?_
    refine own_callV X14 hx hZ (C := "com/example/nepean/nepean/query/Polarity") (y := (⟨"com/example/nepean/nepean/query/Polarity", "tellsFromUnknown", "(Z)Z"⟩ : MethodName)) (z := (⟨"com/example/nepean/nepean/query/Polarity", "tellsFromUnknown", "(Z)Z"⟩ : MethodName)) hown (hw _ (List.mem_of_getElem? (i := 15) rfl)) (hw _ (List.mem_of_getElem? (i := 16) rfl)) (notFace_of_selects (args := #[]) (mvT hZ (hw _ (List.mem_of_getElem? (i := 18) rfl)))) (hw _ (List.mem_of_getElem? (i := 18) rfl)) (hw _ (List.mem_of_getElem? (i := 17) rfl)) (hw _ (List.mem_of_getElem? (i := 19) rfl)) (hw _ (List.mem_of_getElem? (i := 5) rfl)) (by decide) (al := [(.int (0 : Int32))]) (E_c_POSITIVE.ext O0) (rm_tellsFromUnknown_6 l Z a0 c_CONJUNCT c_POSITIVE c_NONE c_NEGATIVE hW h0 O0) 1 (by decide) (by decide) e14 (by decide) (by decide) (by rw [hml]; rfl) (lenOf pd__28Z_29Z rfl) rfl (rest := [(.int (0 : Int32))]) (by show 2 * 0 + _ ≤ _; exact Nat.le_of_eq rfl) (hb hby at_47) ?_
    intro v15 T15 L15 X15 hQ15
    obtain ⟨rfl, Nq15, e15⟩ := hQ15
    have N15 := Fr.app N14 Nq15
    show own_Go p e below Φ T15 (mkF m 50 #[.val (.int p0), .val (.ref c_POSITIVE), .val (.ref c_POSITIVE)] [(.int (0 : Int32)), (.int (0 : Int32))])
    refine own_k (T' := T15) (g' := (mkF m 55 #[.val (.int p0), .val (.ref c_POSITIVE), .val (.ref c_POSITIVE)] [])) (fun _ k_ => XS.icmpYes X15.here hx rfl (pc0 := 50) (pc' := 55) rfl (hb hby at_50) rfl ((teq (by decide : ((0 : Int32) = (0 : Int32)))).1) (by decide) (by decide) k_) ?_
    refine own_k (T' := T15) (g' := (mkF m 56 #[.val (.int p0), .val (.ref c_POSITIVE), .val (.ref c_POSITIVE)] [(.ref c_POSITIVE)])) (fun _ k_ => XS.aloadN X15.here hx rfl (hb hby at_55) rfl rfl  k_) ?_
    refine own_callV X15 hx hZ (C := "com/example/nepean/nepean/query/Polarity") (y := (⟨"com/example/nepean/nepean/query/Polarity", "disjunct", "()Lcom/example/nepean/nepean/query/Polarity;"⟩ : MethodName)) (z := (⟨"com/example/nepean/nepean/query/Polarity", "disjunct", "()Lcom/example/nepean/nepean/query/Polarity;"⟩ : MethodName)) hown (hw _ (List.mem_of_getElem? (i := 7) rfl)) (hw _ (List.mem_of_getElem? (i := 8) rfl)) (notFace_of_selects (args := #[]) (mvT hZ (hw _ (List.mem_of_getElem? (i := 10) rfl)))) (hw _ (List.mem_of_getElem? (i := 10) rfl)) (hw _ (List.mem_of_getElem? (i := 9) rfl)) (hw _ (List.mem_of_getElem? (i := 11) rfl)) (hw _ (List.mem_of_getElem? (i := 5) rfl)) (by decide) (al := []) (E_c_POSITIVE.ext O0) (rm_disjunct_8 l Z a0 c_CONJUNCT c_POSITIVE c_NONE c_NEGATIVE hW h0 O0) 0 (by decide) (by decide) e15 (by decide) (by decide) (by rw [hml]; rfl) (lenOf pd__28_29Lcom_2fexample_2fnepean_2fnepean_2fquery_2fPolarity_3b rfl) rfl (rest := []) (by show 2 * 0 + _ ≤ _; exact Nat.le_of_eq rfl) (hb hby at_56) ?_
    intro v16 T16 L16 X16 hQ16
    obtain ⟨rfl, Nq16, e16⟩ := hQ16
    have N16 := Fr.app N15 Nq16
    show own_Go p e below Φ T16 (mkF m 59 #[.val (.int p0), .val (.ref c_POSITIVE), .val (.ref c_POSITIVE)] [(.ref c_POSITIVE)])
    refine own_k (T' := T16) (g' := (mkF m 60 #[.val (.int p0), .val (.ref c_POSITIVE), .val (.ref c_POSITIVE)] [(.ref c_POSITIVE), (.ref c_POSITIVE)])) (fun _ k_ => XS.aloadN X16.here hx rfl (hb hby at_59) rfl rfl  k_) ?_
    refine own_k (T' := T16) (g' := (mkF m 63 #[.val (.int p0), .val (.ref c_POSITIVE), .val (.ref c_POSITIVE)] [])) (fun _ k_ => Jvm.RoadKit.acmp (g := (mkF m 60 #[.val (.int p0), .val (.ref c_POSITIVE), .val (.ref c_POSITIVE)] [(.ref c_POSITIVE), (.ref c_POSITIVE)])) X16 hx rfl rfl rfl (pc0 := 60) (pc' := 63) (same := true) rfl (hb hby at_60) rfl (decide_eq_true rfl) (by decide) (by decide) k_) ?_
    refine own_k (T' := T16) (g' := (mkF m 64 #[.val (.int p0), .val (.ref c_POSITIVE), .val (.ref c_POSITIVE)] [(.int (1 : Int32))])) (fun _ k_ => XS.iconst X16.here hx rfl (hb hby at_63) k_) ?_
    refine own_k (T' := T16) (g' := (mkF m 68 #[.val (.int p0), .val (.ref c_POSITIVE), .val (.ref c_POSITIVE)] [(.int (1 : Int32))])) (fun _ k_ => XS.goto X16.here hx rfl (pc0 := 64) (pc' := 68) rfl (hb hby at_64) (by decide) (by decide) k_) ?_
    exact own_retN X16 hx (t := .boolean) hret (by simp) hlk (hb hby at_68) hF (⟨rfl, N16, trivial⟩) (by decide) (by decide)
  · refine own_k (T' := s₁) (g' := (mkF m 1 #[.val (.int p0), .unset, .unset] [(.int p0)])) (fun _ k_ => XS.iloadN X0.here hx rfl (hb hby at_0) rfl  k_) ?_
    refine own_callS X0 hx hZ (y := (⟨"com/example/nepean/nepean/query/PolarityDisjunctPinLaw", "pick", "(I)Lcom/example/nepean/nepean/query/Polarity;"⟩ : MethodName)) hown (hw _ (List.mem_of_getElem? (i := 0) rfl)) (hw _ (List.mem_of_getElem? (i := 1) rfl)) (hw _ (List.mem_of_getElem? (i := 2) rfl)) (hw _ (List.mem_of_getElem? (i := 3) rfl)) (by decide) (al := [(.int p0)]) (rm_pick_2 l Z a0 c_CONJUNCT c_POSITIVE c_NONE c_NEGATIVE hW p0 h0 O0 hk2) 0 (by decide) (by decide) e0 (by decide) (by decide) (by rw [hml]; rfl) (lenOf pd__28I_29Lcom_2fexample_2fnepean_2fnepean_2fquery_2fPolarity_3b rfl) rfl (rest := []) (by show 2 * 0 + _ ≤ _; exact Nat.le_of_eq rfl) (hb hby at_1) ?_
    intro v17 T17 L17 X17 hQ17
    obtain ⟨rfl, Nq17, e17⟩ := hQ17
    have N17 := Fr.app N0 Nq17
    show own_Go p e below Φ T17 (mkF m 4 #[.val (.int p0), .unset, .unset] [(.ref c_NEGATIVE)])
    refine own_k (T' := T17) (g' := (mkF m 5 #[.val (.int p0), .val (.ref c_NEGATIVE), .unset] [])) (fun _ k_ => XS.astoreN X17.here hx rfl (hb hby at_4) rfl rfl (l' := #[.val (.int p0), .val (.ref c_NEGATIVE), .unset]) rfl k_) ?_
    refine own_k (T' := T17) (g' := (mkF m 6 #[.val (.int p0), .val (.ref c_NEGATIVE), .unset] [(.ref c_NEGATIVE)])) (fun _ k_ => XS.aloadN X17.here hx rfl (hb hby at_5) rfl rfl  k_) ?_
    refine own_callV X17 hx hZ (C := "com/example/nepean/nepean/query/Polarity") (y := (⟨"com/example/nepean/nepean/query/Polarity", "disjunct", "()Lcom/example/nepean/nepean/query/Polarity;"⟩ : MethodName)) (z := (⟨"com/example/nepean/nepean/query/Polarity", "disjunct", "()Lcom/example/nepean/nepean/query/Polarity;"⟩ : MethodName)) hown (hw _ (List.mem_of_getElem? (i := 7) rfl)) (hw _ (List.mem_of_getElem? (i := 8) rfl)) (notFace_of_selects (args := #[]) (mvT hZ (hw _ (List.mem_of_getElem? (i := 10) rfl)))) (hw _ (List.mem_of_getElem? (i := 10) rfl)) (hw _ (List.mem_of_getElem? (i := 9) rfl)) (hw _ (List.mem_of_getElem? (i := 11) rfl)) (hw _ (List.mem_of_getElem? (i := 5) rfl)) (by decide) (al := []) (E_c_NEGATIVE.ext O0) (rm_disjunct_11 l Z a0 c_CONJUNCT c_POSITIVE c_NONE c_NEGATIVE hW h0 O0) 0 (by decide) (by decide) e17 (by decide) (by decide) (by rw [hml]; rfl) (lenOf pd__28_29Lcom_2fexample_2fnepean_2fnepean_2fquery_2fPolarity_3b rfl) rfl (rest := []) (by show 2 * 0 + _ ≤ _; exact Nat.le_of_eq rfl) (hb hby at_6) ?_
    intro v18 T18 L18 X18 hQ18
    obtain ⟨rfl, Nq18, e18⟩ := hQ18
    have N18 := Fr.app N17 Nq18
    show own_Go p e below Φ T18 (mkF m 9 #[.val (.int p0), .val (.ref c_NEGATIVE), .unset] [(.ref c_NEGATIVE)])
    refine own_k (T' := T18) (g' := (mkF m 10 #[.val (.int p0), .val (.ref c_NEGATIVE), .val (.ref c_NEGATIVE)] [])) (fun _ k_ => XS.astoreN X18.here hx rfl (hb hby at_9) rfl rfl (l' := #[.val (.int p0), .val (.ref c_NEGATIVE), .val (.ref c_NEGATIVE)]) rfl k_) ?_
    refine own_k (T' := T18) (g' := (mkF m 11 #[.val (.int p0), .val (.ref c_NEGATIVE), .val (.ref c_NEGATIVE)] [(.ref c_NEGATIVE)])) (fun _ k_ => XS.aloadN X18.here hx rfl (hb hby at_10) rfl rfl  k_) ?_
    refine own_k (T' := T18) (g' := (mkF m 16 #[.val (.int p0), .val (.ref c_NEGATIVE), .val (.ref c_NEGATIVE)] [])) (fun _ k_ => XS.ifnonnullYes X18.here hx rfl (pc0 := 11) (pc' := 16) rfl (hb hby at_11) rfl (by decide) (by decide) k_) ?_
    refine own_k (T' := T18) (g' := (mkF m 17 #[.val (.int p0), .val (.ref c_NEGATIVE), .val (.ref c_NEGATIVE)] [(.ref c_NEGATIVE)])) (fun _ k_ => XS.aloadN X18.here hx rfl (hb hby at_16) rfl rfl  k_) ?_
    obtain ⟨T19, X19, e19, st19⟩ := getS2 X18 hx hZ hown (host := "") (Or.inl (hw _ (List.mem_of_getElem? (i := 4) rfl))) Via.refl e18 (S_c_CONJUNCT.ext O0) (g := (mkF m 17 #[.val (.int p0), .val (.ref c_NEGATIVE), .val (.ref c_NEGATIVE)] [(.ref c_NEGATIVE)])) rfl (hb hby at_17)
    refine own_k (T' := T19) (g' := (mkF m 20 #[.val (.int p0), .val (.ref c_NEGATIVE), .val (.ref c_NEGATIVE)] [(.ref c_CONJUNCT), (.ref c_NEGATIVE)])) st19 ?_
    refine own_k (T' := T19) (g' := (mkF m 25 #[.val (.int p0), .val (.ref c_NEGATIVE), .val (.ref c_NEGATIVE)] [])) (fun _ k_ => Jvm.RoadKit.acmp (g := (mkF m 20 #[.val (.int p0), .val (.ref c_NEGATIVE), .val (.ref c_NEGATIVE)] [(.ref c_CONJUNCT), (.ref c_NEGATIVE)])) X19 hx rfl rfl rfl (pc0 := 20) (pc' := 25) (same := false) rfl (hb hby at_20) rfl (decide_eq_false fun q => (Fld.ne F_c_NEGATIVE_ordinal F_c_CONJUNCT_ordinal (by decide)) (Value.ref.inj q)) (by decide) (by decide) k_) ?_
    refine own_k (T' := T19) (g' := (mkF m 26 #[.val (.int p0), .val (.ref c_NEGATIVE), .val (.ref c_NEGATIVE)] [(.ref c_NEGATIVE)])) (fun _ k_ => XS.aloadN X19.here hx rfl (hb hby at_25) rfl rfl  k_) ?_
    refine own_k (T' := T19) (g' := (mkF m 27 #[.val (.int p0), .val (.ref c_NEGATIVE), .val (.ref c_NEGATIVE)] [(.int (1 : Int32)), (.ref c_NEGATIVE)])) (fun _ k_ => XS.iconst X19.here hx rfl (hb hby at_26) k_) ?_
    refine own_callV X19 hx hZ (C := "com/example/nepean/nepean/query/Polarity") (y := (⟨"com/example/nepean/nepean/query/Polarity", "tellsFromUnknown", "(Z)Z"⟩ : MethodName)) (z := (⟨"com/example/nepean/nepean/query/Polarity", "tellsFromUnknown", "(Z)Z"⟩ : MethodName)) hown (hw _ (List.mem_of_getElem? (i := 15) rfl)) (hw _ (List.mem_of_getElem? (i := 16) rfl)) (notFace_of_selects (args := #[]) (mvT hZ (hw _ (List.mem_of_getElem? (i := 18) rfl)))) (hw _ (List.mem_of_getElem? (i := 18) rfl)) (hw _ (List.mem_of_getElem? (i := 17) rfl)) (hw _ (List.mem_of_getElem? (i := 19) rfl)) (hw _ (List.mem_of_getElem? (i := 5) rfl)) (by decide) (al := [(.int (1 : Int32))]) (E_c_NEGATIVE.ext O0) (rm_tellsFromUnknown_12 l Z a0 c_CONJUNCT c_POSITIVE c_NONE c_NEGATIVE hW h0 O0) 0 (by decide) (by decide) e19 (by decide) (by decide) (by rw [hml]; rfl) (lenOf pd__28Z_29Z rfl) rfl (rest := []) (by show 2 * 0 + _ ≤ _; exact Nat.le_of_eq rfl) (hb hby at_27) ?_
    intro v20 T20 L20 X20 hQ20
    obtain ⟨rfl, Nq20, e20⟩ := hQ20
    have N20 := Fr.app N18 Nq20
    show own_Go p e below Φ T20 (mkF m 30 #[.val (.int p0), .val (.ref c_NEGATIVE), .val (.ref c_NEGATIVE)] [(.int (0 : Int32))])
    refine own_k (T' := T20) (g' := (mkF m 31 #[.val (.int p0), .val (.ref c_NEGATIVE), .val (.ref c_NEGATIVE)] [(.ref c_NEGATIVE), (.int (0 : Int32))])) (fun _ k_ => XS.aloadN X20.here hx rfl (hb hby at_30) rfl rfl  k_) ?_
    refine own_k (T' := T20) (g' := (mkF m 32 #[.val (.int p0), .val (.ref c_NEGATIVE), .val (.ref c_NEGATIVE)] [(.int (1 : Int32)), (.ref c_NEGATIVE), (.int (0 : Int32))])) (fun _ k_ => XS.iconst X20.here hx rfl (hb hby at_31) k_) ?_
    refine own_callV X20 hx hZ (C := "com/example/nepean/nepean/query/Polarity") (y := (⟨"com/example/nepean/nepean/query/Polarity", "tellsFromUnknown", "(Z)Z"⟩ : MethodName)) (z := (⟨"com/example/nepean/nepean/query/Polarity", "tellsFromUnknown", "(Z)Z"⟩ : MethodName)) hown (hw _ (List.mem_of_getElem? (i := 15) rfl)) (hw _ (List.mem_of_getElem? (i := 16) rfl)) (notFace_of_selects (args := #[]) (mvT hZ (hw _ (List.mem_of_getElem? (i := 18) rfl)))) (hw _ (List.mem_of_getElem? (i := 18) rfl)) (hw _ (List.mem_of_getElem? (i := 17) rfl)) (hw _ (List.mem_of_getElem? (i := 19) rfl)) (hw _ (List.mem_of_getElem? (i := 5) rfl)) (by decide) (al := [(.int (1 : Int32))]) (E_c_NEGATIVE.ext O0) (rm_tellsFromUnknown_12 l Z a0 c_CONJUNCT c_POSITIVE c_NONE c_NEGATIVE hW h0 O0) 1 (by decide) (by decide) e20 (by decide) (by decide) (by rw [hml]; rfl) (lenOf pd__28Z_29Z rfl) rfl (rest := [(.int (0 : Int32))]) (by show 2 * 0 + _ ≤ _; exact Nat.le_of_eq rfl) (hb hby at_32) ?_
    intro v21 T21 L21 X21 hQ21
    obtain ⟨rfl, Nq21, e21⟩ := hQ21
    have N21 := Fr.app N20 Nq21
    show own_Go p e below Φ T21 (mkF m 35 #[.val (.int p0), .val (.ref c_NEGATIVE), .val (.ref c_NEGATIVE)] [(.int (0 : Int32)), (.int (0 : Int32))])
    refine own_k (T' := T21) (g' := (mkF m 40 #[.val (.int p0), .val (.ref c_NEGATIVE), .val (.ref c_NEGATIVE)] [])) (fun _ k_ => XS.icmpYes X21.here hx rfl (pc0 := 35) (pc' := 40) rfl (hb hby at_35) rfl ((teq (by decide : ((0 : Int32) = (0 : Int32)))).1) (by decide) (by decide) k_) ?_
    refine own_k (T' := T21) (g' := (mkF m 41 #[.val (.int p0), .val (.ref c_NEGATIVE), .val (.ref c_NEGATIVE)] [(.ref c_NEGATIVE)])) (fun _ k_ => XS.aloadN X21.here hx rfl (hb hby at_40) rfl rfl  k_) ?_
    refine own_k (T' := T21) (g' := (mkF m 42 #[.val (.int p0), .val (.ref c_NEGATIVE), .val (.ref c_NEGATIVE)] [(.int (0 : Int32)), (.ref c_NEGATIVE)])) (fun _ k_ => XS.iconst X21.here hx rfl (hb hby at_41) k_) ?_
    refine own_callV X21 hx hZ (C := "com/example/nepean/nepean/query/Polarity") (y := (⟨"com/example/nepean/nepean/query/Polarity", "tellsFromUnknown", "(Z)Z"⟩ : MethodName)) (z := (⟨"com/example/nepean/nepean/query/Polarity", "tellsFromUnknown", "(Z)Z"⟩ : MethodName)) hown (hw _ (List.mem_of_getElem? (i := 15) rfl)) (hw _ (List.mem_of_getElem? (i := 16) rfl)) (notFace_of_selects (args := #[]) (mvT hZ (hw _ (List.mem_of_getElem? (i := 18) rfl)))) (hw _ (List.mem_of_getElem? (i := 18) rfl)) (hw _ (List.mem_of_getElem? (i := 17) rfl)) (hw _ (List.mem_of_getElem? (i := 19) rfl)) (hw _ (List.mem_of_getElem? (i := 5) rfl)) (by decide) (al := [(.int (0 : Int32))]) (E_c_NEGATIVE.ext O0) (rm_tellsFromUnknown_14 l Z a0 c_CONJUNCT c_POSITIVE c_NONE c_NEGATIVE hW h0 O0) 0 (by decide) (by decide) e21 (by decide) (by decide) (by rw [hml]; rfl) (lenOf pd__28Z_29Z rfl) rfl (rest := []) (by show 2 * 0 + _ ≤ _; exact Nat.le_of_eq rfl) (hb hby at_42) ?_
    intro v22 T22 L22 X22 hQ22
    obtain ⟨rfl, Nq22, e22⟩ := hQ22
    have N22 := Fr.app N21 Nq22
    show own_Go p e below Φ T22 (mkF m 45 #[.val (.int p0), .val (.ref c_NEGATIVE), .val (.ref c_NEGATIVE)] [(.int (1 : Int32))])
    refine own_k (T' := T22) (g' := (mkF m 46 #[.val (.int p0), .val (.ref c_NEGATIVE), .val (.ref c_NEGATIVE)] [(.ref c_NEGATIVE), (.int (1 : Int32))])) (fun _ k_ => XS.aloadN X22.here hx rfl (hb hby at_45) rfl rfl  k_) ?_
    refine own_k (T' := T22) (g' := (mkF m 47 #[.val (.int p0), .val (.ref c_NEGATIVE), .val (.ref c_NEGATIVE)] [(.int (0 : Int32)), (.ref c_NEGATIVE), (.int (1 : Int32))])) (fun _ k_ => XS.iconst X22.here hx rfl (hb hby at_46) k_) ?_
    refine own_callV X22 hx hZ (C := "com/example/nepean/nepean/query/Polarity") (y := (⟨"com/example/nepean/nepean/query/Polarity", "tellsFromUnknown", "(Z)Z"⟩ : MethodName)) (z := (⟨"com/example/nepean/nepean/query/Polarity", "tellsFromUnknown", "(Z)Z"⟩ : MethodName)) hown (hw _ (List.mem_of_getElem? (i := 15) rfl)) (hw _ (List.mem_of_getElem? (i := 16) rfl)) (notFace_of_selects (args := #[]) (mvT hZ (hw _ (List.mem_of_getElem? (i := 18) rfl)))) (hw _ (List.mem_of_getElem? (i := 18) rfl)) (hw _ (List.mem_of_getElem? (i := 17) rfl)) (hw _ (List.mem_of_getElem? (i := 19) rfl)) (hw _ (List.mem_of_getElem? (i := 5) rfl)) (by decide) (al := [(.int (0 : Int32))]) (E_c_NEGATIVE.ext O0) (rm_tellsFromUnknown_14 l Z a0 c_CONJUNCT c_POSITIVE c_NONE c_NEGATIVE hW h0 O0) 1 (by decide) (by decide) e22 (by decide) (by decide) (by rw [hml]; rfl) (lenOf pd__28Z_29Z rfl) rfl (rest := [(.int (1 : Int32))]) (by show 2 * 0 + _ ≤ _; exact Nat.le_of_eq rfl) (hb hby at_47) ?_
    intro v23 T23 L23 X23 hQ23
    obtain ⟨rfl, Nq23, e23⟩ := hQ23
    have N23 := Fr.app N22 Nq23
    show own_Go p e below Φ T23 (mkF m 50 #[.val (.int p0), .val (.ref c_NEGATIVE), .val (.ref c_NEGATIVE)] [(.int (1 : Int32)), (.int (1 : Int32))])
    refine own_k (T' := T23) (g' := (mkF m 55 #[.val (.int p0), .val (.ref c_NEGATIVE), .val (.ref c_NEGATIVE)] [])) (fun _ k_ => XS.icmpYes X23.here hx rfl (pc0 := 50) (pc' := 55) rfl (hb hby at_50) rfl ((teq (by decide : ((1 : Int32) = (1 : Int32)))).1) (by decide) (by decide) k_) ?_
    refine own_k (T' := T23) (g' := (mkF m 56 #[.val (.int p0), .val (.ref c_NEGATIVE), .val (.ref c_NEGATIVE)] [(.ref c_NEGATIVE)])) (fun _ k_ => XS.aloadN X23.here hx rfl (hb hby at_55) rfl rfl  k_) ?_
    refine own_callV X23 hx hZ (C := "com/example/nepean/nepean/query/Polarity") (y := (⟨"com/example/nepean/nepean/query/Polarity", "disjunct", "()Lcom/example/nepean/nepean/query/Polarity;"⟩ : MethodName)) (z := (⟨"com/example/nepean/nepean/query/Polarity", "disjunct", "()Lcom/example/nepean/nepean/query/Polarity;"⟩ : MethodName)) hown (hw _ (List.mem_of_getElem? (i := 7) rfl)) (hw _ (List.mem_of_getElem? (i := 8) rfl)) (notFace_of_selects (args := #[]) (mvT hZ (hw _ (List.mem_of_getElem? (i := 10) rfl)))) (hw _ (List.mem_of_getElem? (i := 10) rfl)) (hw _ (List.mem_of_getElem? (i := 9) rfl)) (hw _ (List.mem_of_getElem? (i := 11) rfl)) (hw _ (List.mem_of_getElem? (i := 5) rfl)) (by decide) (al := []) (E_c_NEGATIVE.ext O0) (rm_disjunct_11 l Z a0 c_CONJUNCT c_POSITIVE c_NONE c_NEGATIVE hW h0 O0) 0 (by decide) (by decide) e23 (by decide) (by decide) (by rw [hml]; rfl) (lenOf pd__28_29Lcom_2fexample_2fnepean_2fnepean_2fquery_2fPolarity_3b rfl) rfl (rest := []) (by show 2 * 0 + _ ≤ _; exact Nat.le_of_eq rfl) (hb hby at_56) ?_
    intro v24 T24 L24 X24 hQ24
    obtain ⟨rfl, Nq24, e24⟩ := hQ24
    have N24 := Fr.app N23 Nq24
    show own_Go p e below Φ T24 (mkF m 59 #[.val (.int p0), .val (.ref c_NEGATIVE), .val (.ref c_NEGATIVE)] [(.ref c_NEGATIVE)])
    refine own_k (T' := T24) (g' := (mkF m 60 #[.val (.int p0), .val (.ref c_NEGATIVE), .val (.ref c_NEGATIVE)] [(.ref c_NEGATIVE), (.ref c_NEGATIVE)])) (fun _ k_ => XS.aloadN X24.here hx rfl (hb hby at_59) rfl rfl  k_) ?_
    refine own_k (T' := T24) (g' := (mkF m 63 #[.val (.int p0), .val (.ref c_NEGATIVE), .val (.ref c_NEGATIVE)] [])) (fun _ k_ => Jvm.RoadKit.acmp (g := (mkF m 60 #[.val (.int p0), .val (.ref c_NEGATIVE), .val (.ref c_NEGATIVE)] [(.ref c_NEGATIVE), (.ref c_NEGATIVE)])) X24 hx rfl rfl rfl (pc0 := 60) (pc' := 63) (same := true) rfl (hb hby at_60) rfl (decide_eq_true rfl) (by decide) (by decide) k_) ?_
    refine own_k (T' := T24) (g' := (mkF m 64 #[.val (.int p0), .val (.ref c_NEGATIVE), .val (.ref c_NEGATIVE)] [(.int (1 : Int32))])) (fun _ k_ => XS.iconst X24.here hx rfl (hb hby at_63) k_) ?_
    refine own_k (T' := T24) (g' := (mkF m 68 #[.val (.int p0), .val (.ref c_NEGATIVE), .val (.ref c_NEGATIVE)] [(.int (1 : Int32))])) (fun _ k_ => XS.goto X24.here hx rfl (pc0 := 64) (pc' := 68) rfl (hb hby at_64) (by decide) (by decide) k_) ?_
    exact own_retN X24 hx (t := .boolean) hret (by simp) hlk (hb hby at_68) hF (⟨rfl, N24, trivial⟩) (by decide) (by decide)
  · refine own_k (T' := s₁) (g' := (mkF m 1 #[.val (.int p0), .unset, .unset] [(.int p0)])) (fun _ k_ => XS.iloadN X0.here hx rfl (hb hby at_0) rfl  k_) ?_
    refine own_callS X0 hx hZ (y := (⟨"com/example/nepean/nepean/query/PolarityDisjunctPinLaw", "pick", "(I)Lcom/example/nepean/nepean/query/Polarity;"⟩ : MethodName)) hown (hw _ (List.mem_of_getElem? (i := 0) rfl)) (hw _ (List.mem_of_getElem? (i := 1) rfl)) (hw _ (List.mem_of_getElem? (i := 2) rfl)) (hw _ (List.mem_of_getElem? (i := 3) rfl)) (by decide) (al := [(.int p0)]) (rm_pick_3 l Z a0 c_CONJUNCT c_POSITIVE c_NONE c_NEGATIVE hW p0 h0 O0 hk3) 0 (by decide) (by decide) e0 (by decide) (by decide) (by rw [hml]; rfl) (lenOf pd__28I_29Lcom_2fexample_2fnepean_2fnepean_2fquery_2fPolarity_3b rfl) rfl (rest := []) (by show 2 * 0 + _ ≤ _; exact Nat.le_of_eq rfl) (hb hby at_1) ?_
    intro v25 T25 L25 X25 hQ25
    obtain ⟨rfl, Nq25, e25⟩ := hQ25
    have N25 := Fr.app N0 Nq25
    show own_Go p e below Φ T25 (mkF m 4 #[.val (.int p0), .unset, .unset] [(.ref c_NONE)])
    refine own_k (T' := T25) (g' := (mkF m 5 #[.val (.int p0), .val (.ref c_NONE), .unset] [])) (fun _ k_ => XS.astoreN X25.here hx rfl (hb hby at_4) rfl rfl (l' := #[.val (.int p0), .val (.ref c_NONE), .unset]) rfl k_) ?_
    refine own_k (T' := T25) (g' := (mkF m 6 #[.val (.int p0), .val (.ref c_NONE), .unset] [(.ref c_NONE)])) (fun _ k_ => XS.aloadN X25.here hx rfl (hb hby at_5) rfl rfl  k_) ?_
    refine own_callV X25 hx hZ (C := "com/example/nepean/nepean/query/Polarity") (y := (⟨"com/example/nepean/nepean/query/Polarity", "disjunct", "()Lcom/example/nepean/nepean/query/Polarity;"⟩ : MethodName)) (z := (⟨"com/example/nepean/nepean/query/Polarity", "disjunct", "()Lcom/example/nepean/nepean/query/Polarity;"⟩ : MethodName)) hown (hw _ (List.mem_of_getElem? (i := 7) rfl)) (hw _ (List.mem_of_getElem? (i := 8) rfl)) (notFace_of_selects (args := #[]) (mvT hZ (hw _ (List.mem_of_getElem? (i := 10) rfl)))) (hw _ (List.mem_of_getElem? (i := 10) rfl)) (hw _ (List.mem_of_getElem? (i := 9) rfl)) (hw _ (List.mem_of_getElem? (i := 11) rfl)) (hw _ (List.mem_of_getElem? (i := 5) rfl)) (by decide) (al := []) (E_c_NONE.ext O0) (rm_disjunct_16 l Z a0 c_CONJUNCT c_POSITIVE c_NONE c_NEGATIVE hW h0 O0) 0 (by decide) (by decide) e25 (by decide) (by decide) (by rw [hml]; rfl) (lenOf pd__28_29Lcom_2fexample_2fnepean_2fnepean_2fquery_2fPolarity_3b rfl) rfl (rest := []) (by show 2 * 0 + _ ≤ _; exact Nat.le_of_eq rfl) (hb hby at_6) ?_
    intro v26 T26 L26 X26 hQ26
    obtain ⟨rfl, Nq26, e26⟩ := hQ26
    have N26 := Fr.app N25 Nq26
    show own_Go p e below Φ T26 (mkF m 9 #[.val (.int p0), .val (.ref c_NONE), .unset] [(.ref c_NONE)])
    refine own_k (T' := T26) (g' := (mkF m 10 #[.val (.int p0), .val (.ref c_NONE), .val (.ref c_NONE)] [])) (fun _ k_ => XS.astoreN X26.here hx rfl (hb hby at_9) rfl rfl (l' := #[.val (.int p0), .val (.ref c_NONE), .val (.ref c_NONE)]) rfl k_) ?_
    refine own_k (T' := T26) (g' := (mkF m 11 #[.val (.int p0), .val (.ref c_NONE), .val (.ref c_NONE)] [(.ref c_NONE)])) (fun _ k_ => XS.aloadN X26.here hx rfl (hb hby at_10) rfl rfl  k_) ?_
    refine own_k (T' := T26) (g' := (mkF m 16 #[.val (.int p0), .val (.ref c_NONE), .val (.ref c_NONE)] [])) (fun _ k_ => XS.ifnonnullYes X26.here hx rfl (pc0 := 11) (pc' := 16) rfl (hb hby at_11) rfl (by decide) (by decide) k_) ?_
    refine own_k (T' := T26) (g' := (mkF m 17 #[.val (.int p0), .val (.ref c_NONE), .val (.ref c_NONE)] [(.ref c_NONE)])) (fun _ k_ => XS.aloadN X26.here hx rfl (hb hby at_16) rfl rfl  k_) ?_
    obtain ⟨T27, X27, e27, st27⟩ := getS2 X26 hx hZ hown (host := "") (Or.inl (hw _ (List.mem_of_getElem? (i := 4) rfl))) Via.refl e26 (S_c_CONJUNCT.ext O0) (g := (mkF m 17 #[.val (.int p0), .val (.ref c_NONE), .val (.ref c_NONE)] [(.ref c_NONE)])) rfl (hb hby at_17)
    refine own_k (T' := T27) (g' := (mkF m 20 #[.val (.int p0), .val (.ref c_NONE), .val (.ref c_NONE)] [(.ref c_CONJUNCT), (.ref c_NONE)])) st27 ?_
    refine own_k (T' := T27) (g' := (mkF m 25 #[.val (.int p0), .val (.ref c_NONE), .val (.ref c_NONE)] [])) (fun _ k_ => Jvm.RoadKit.acmp (g := (mkF m 20 #[.val (.int p0), .val (.ref c_NONE), .val (.ref c_NONE)] [(.ref c_CONJUNCT), (.ref c_NONE)])) X27 hx rfl rfl rfl (pc0 := 20) (pc' := 25) (same := false) rfl (hb hby at_20) rfl (decide_eq_false fun q => (Fld.ne F_c_NONE_ordinal F_c_CONJUNCT_ordinal (by decide)) (Value.ref.inj q)) (by decide) (by decide) k_) ?_
    refine own_k (T' := T27) (g' := (mkF m 26 #[.val (.int p0), .val (.ref c_NONE), .val (.ref c_NONE)] [(.ref c_NONE)])) (fun _ k_ => XS.aloadN X27.here hx rfl (hb hby at_25) rfl rfl  k_) ?_
    refine own_k (T' := T27) (g' := (mkF m 27 #[.val (.int p0), .val (.ref c_NONE), .val (.ref c_NONE)] [(.int (1 : Int32)), (.ref c_NONE)])) (fun _ k_ => XS.iconst X27.here hx rfl (hb hby at_26) k_) ?_
    refine own_callV X27 hx hZ (C := "com/example/nepean/nepean/query/Polarity") (y := (⟨"com/example/nepean/nepean/query/Polarity", "tellsFromUnknown", "(Z)Z"⟩ : MethodName)) (z := (⟨"com/example/nepean/nepean/query/Polarity", "tellsFromUnknown", "(Z)Z"⟩ : MethodName)) hown (hw _ (List.mem_of_getElem? (i := 15) rfl)) (hw _ (List.mem_of_getElem? (i := 16) rfl)) (notFace_of_selects (args := #[]) (mvT hZ (hw _ (List.mem_of_getElem? (i := 18) rfl)))) (hw _ (List.mem_of_getElem? (i := 18) rfl)) (hw _ (List.mem_of_getElem? (i := 17) rfl)) (hw _ (List.mem_of_getElem? (i := 19) rfl)) (hw _ (List.mem_of_getElem? (i := 5) rfl)) (by decide) (al := [(.int (1 : Int32))]) (E_c_NONE.ext O0) (rm_tellsFromUnknown_17 l Z a0 c_CONJUNCT c_POSITIVE c_NONE c_NEGATIVE hW h0 O0) 0 (by decide) (by decide) e27 (by decide) (by decide) (by rw [hml]; rfl) (lenOf pd__28Z_29Z rfl) rfl (rest := []) (by show 2 * 0 + _ ≤ _; exact Nat.le_of_eq rfl) (hb hby at_27) ?_
    intro v28 T28 L28 X28 hQ28
    obtain ⟨rfl, Nq28, e28⟩ := hQ28
    have N28 := Fr.app N26 Nq28
    show own_Go p e below Φ T28 (mkF m 30 #[.val (.int p0), .val (.ref c_NONE), .val (.ref c_NONE)] [(.int (1 : Int32))])
    refine own_k (T' := T28) (g' := (mkF m 31 #[.val (.int p0), .val (.ref c_NONE), .val (.ref c_NONE)] [(.ref c_NONE), (.int (1 : Int32))])) (fun _ k_ => XS.aloadN X28.here hx rfl (hb hby at_30) rfl rfl  k_) ?_
    refine own_k (T' := T28) (g' := (mkF m 32 #[.val (.int p0), .val (.ref c_NONE), .val (.ref c_NONE)] [(.int (1 : Int32)), (.ref c_NONE), (.int (1 : Int32))])) (fun _ k_ => XS.iconst X28.here hx rfl (hb hby at_31) k_) ?_
    refine own_callV X28 hx hZ (C := "com/example/nepean/nepean/query/Polarity") (y := (⟨"com/example/nepean/nepean/query/Polarity", "tellsFromUnknown", "(Z)Z"⟩ : MethodName)) (z := (⟨"com/example/nepean/nepean/query/Polarity", "tellsFromUnknown", "(Z)Z"⟩ : MethodName)) hown (hw _ (List.mem_of_getElem? (i := 15) rfl)) (hw _ (List.mem_of_getElem? (i := 16) rfl)) (notFace_of_selects (args := #[]) (mvT hZ (hw _ (List.mem_of_getElem? (i := 18) rfl)))) (hw _ (List.mem_of_getElem? (i := 18) rfl)) (hw _ (List.mem_of_getElem? (i := 17) rfl)) (hw _ (List.mem_of_getElem? (i := 19) rfl)) (hw _ (List.mem_of_getElem? (i := 5) rfl)) (by decide) (al := [(.int (1 : Int32))]) (E_c_NONE.ext O0) (rm_tellsFromUnknown_17 l Z a0 c_CONJUNCT c_POSITIVE c_NONE c_NEGATIVE hW h0 O0) 1 (by decide) (by decide) e28 (by decide) (by decide) (by rw [hml]; rfl) (lenOf pd__28Z_29Z rfl) rfl (rest := [(.int (1 : Int32))]) (by show 2 * 0 + _ ≤ _; exact Nat.le_of_eq rfl) (hb hby at_32) ?_
    intro v29 T29 L29 X29 hQ29
    obtain ⟨rfl, Nq29, e29⟩ := hQ29
    have N29 := Fr.app N28 Nq29
    show own_Go p e below Φ T29 (mkF m 35 #[.val (.int p0), .val (.ref c_NONE), .val (.ref c_NONE)] [(.int (1 : Int32)), (.int (1 : Int32))])
    refine own_k (T' := T29) (g' := (mkF m 40 #[.val (.int p0), .val (.ref c_NONE), .val (.ref c_NONE)] [])) (fun _ k_ => XS.icmpYes X29.here hx rfl (pc0 := 35) (pc' := 40) rfl (hb hby at_35) rfl ((teq (by decide : ((1 : Int32) = (1 : Int32)))).1) (by decide) (by decide) k_) ?_
    refine own_k (T' := T29) (g' := (mkF m 41 #[.val (.int p0), .val (.ref c_NONE), .val (.ref c_NONE)] [(.ref c_NONE)])) (fun _ k_ => XS.aloadN X29.here hx rfl (hb hby at_40) rfl rfl  k_) ?_
    refine own_k (T' := T29) (g' := (mkF m 42 #[.val (.int p0), .val (.ref c_NONE), .val (.ref c_NONE)] [(.int (0 : Int32)), (.ref c_NONE)])) (fun _ k_ => XS.iconst X29.here hx rfl (hb hby at_41) k_) ?_
    refine own_callV X29 hx hZ (C := "com/example/nepean/nepean/query/Polarity") (y := (⟨"com/example/nepean/nepean/query/Polarity", "tellsFromUnknown", "(Z)Z"⟩ : MethodName)) (z := (⟨"com/example/nepean/nepean/query/Polarity", "tellsFromUnknown", "(Z)Z"⟩ : MethodName)) hown (hw _ (List.mem_of_getElem? (i := 15) rfl)) (hw _ (List.mem_of_getElem? (i := 16) rfl)) (notFace_of_selects (args := #[]) (mvT hZ (hw _ (List.mem_of_getElem? (i := 18) rfl)))) (hw _ (List.mem_of_getElem? (i := 18) rfl)) (hw _ (List.mem_of_getElem? (i := 17) rfl)) (hw _ (List.mem_of_getElem? (i := 19) rfl)) (hw _ (List.mem_of_getElem? (i := 5) rfl)) (by decide) (al := [(.int (0 : Int32))]) (E_c_NONE.ext O0) (rm_tellsFromUnknown_19 l Z a0 c_CONJUNCT c_POSITIVE c_NONE c_NEGATIVE hW h0 O0) 0 (by decide) (by decide) e29 (by decide) (by decide) (by rw [hml]; rfl) (lenOf pd__28Z_29Z rfl) rfl (rest := []) (by show 2 * 0 + _ ≤ _; exact Nat.le_of_eq rfl) (hb hby at_42) ?_
    intro v30 T30 L30 X30 hQ30
    obtain ⟨rfl, Nq30, e30⟩ := hQ30
    have N30 := Fr.app N29 Nq30
    show own_Go p e below Φ T30 (mkF m 45 #[.val (.int p0), .val (.ref c_NONE), .val (.ref c_NONE)] [(.int (1 : Int32))])
    refine own_k (T' := T30) (g' := (mkF m 46 #[.val (.int p0), .val (.ref c_NONE), .val (.ref c_NONE)] [(.ref c_NONE), (.int (1 : Int32))])) (fun _ k_ => XS.aloadN X30.here hx rfl (hb hby at_45) rfl rfl  k_) ?_
    refine own_k (T' := T30) (g' := (mkF m 47 #[.val (.int p0), .val (.ref c_NONE), .val (.ref c_NONE)] [(.int (0 : Int32)), (.ref c_NONE), (.int (1 : Int32))])) (fun _ k_ => XS.iconst X30.here hx rfl (hb hby at_46) k_) ?_
    refine own_callV X30 hx hZ (C := "com/example/nepean/nepean/query/Polarity") (y := (⟨"com/example/nepean/nepean/query/Polarity", "tellsFromUnknown", "(Z)Z"⟩ : MethodName)) (z := (⟨"com/example/nepean/nepean/query/Polarity", "tellsFromUnknown", "(Z)Z"⟩ : MethodName)) hown (hw _ (List.mem_of_getElem? (i := 15) rfl)) (hw _ (List.mem_of_getElem? (i := 16) rfl)) (notFace_of_selects (args := #[]) (mvT hZ (hw _ (List.mem_of_getElem? (i := 18) rfl)))) (hw _ (List.mem_of_getElem? (i := 18) rfl)) (hw _ (List.mem_of_getElem? (i := 17) rfl)) (hw _ (List.mem_of_getElem? (i := 19) rfl)) (hw _ (List.mem_of_getElem? (i := 5) rfl)) (by decide) (al := [(.int (0 : Int32))]) (E_c_NONE.ext O0) (rm_tellsFromUnknown_19 l Z a0 c_CONJUNCT c_POSITIVE c_NONE c_NEGATIVE hW h0 O0) 1 (by decide) (by decide) e30 (by decide) (by decide) (by rw [hml]; rfl) (lenOf pd__28Z_29Z rfl) rfl (rest := [(.int (1 : Int32))]) (by show 2 * 0 + _ ≤ _; exact Nat.le_of_eq rfl) (hb hby at_47) ?_
    intro v31 T31 L31 X31 hQ31
    obtain ⟨rfl, Nq31, e31⟩ := hQ31
    have N31 := Fr.app N30 Nq31
    show own_Go p e below Φ T31 (mkF m 50 #[.val (.int p0), .val (.ref c_NONE), .val (.ref c_NONE)] [(.int (1 : Int32)), (.int (1 : Int32))])
    refine own_k (T' := T31) (g' := (mkF m 55 #[.val (.int p0), .val (.ref c_NONE), .val (.ref c_NONE)] [])) (fun _ k_ => XS.icmpYes X31.here hx rfl (pc0 := 50) (pc' := 55) rfl (hb hby at_50) rfl ((teq (by decide : ((1 : Int32) = (1 : Int32)))).1) (by decide) (by decide) k_) ?_
    refine own_k (T' := T31) (g' := (mkF m 56 #[.val (.int p0), .val (.ref c_NONE), .val (.ref c_NONE)] [(.ref c_NONE)])) (fun _ k_ => XS.aloadN X31.here hx rfl (hb hby at_55) rfl rfl  k_) ?_
    refine own_callV X31 hx hZ (C := "com/example/nepean/nepean/query/Polarity") (y := (⟨"com/example/nepean/nepean/query/Polarity", "disjunct", "()Lcom/example/nepean/nepean/query/Polarity;"⟩ : MethodName)) (z := (⟨"com/example/nepean/nepean/query/Polarity", "disjunct", "()Lcom/example/nepean/nepean/query/Polarity;"⟩ : MethodName)) hown (hw _ (List.mem_of_getElem? (i := 7) rfl)) (hw _ (List.mem_of_getElem? (i := 8) rfl)) (notFace_of_selects (args := #[]) (mvT hZ (hw _ (List.mem_of_getElem? (i := 10) rfl)))) (hw _ (List.mem_of_getElem? (i := 10) rfl)) (hw _ (List.mem_of_getElem? (i := 9) rfl)) (hw _ (List.mem_of_getElem? (i := 11) rfl)) (hw _ (List.mem_of_getElem? (i := 5) rfl)) (by decide) (al := []) (E_c_NONE.ext O0) (rm_disjunct_16 l Z a0 c_CONJUNCT c_POSITIVE c_NONE c_NEGATIVE hW h0 O0) 0 (by decide) (by decide) e31 (by decide) (by decide) (by rw [hml]; rfl) (lenOf pd__28_29Lcom_2fexample_2fnepean_2fnepean_2fquery_2fPolarity_3b rfl) rfl (rest := []) (by show 2 * 0 + _ ≤ _; exact Nat.le_of_eq rfl) (hb hby at_56) ?_
    intro v32 T32 L32 X32 hQ32
    obtain ⟨rfl, Nq32, e32⟩ := hQ32
    have N32 := Fr.app N31 Nq32
    show own_Go p e below Φ T32 (mkF m 59 #[.val (.int p0), .val (.ref c_NONE), .val (.ref c_NONE)] [(.ref c_NONE)])
    refine own_k (T' := T32) (g' := (mkF m 60 #[.val (.int p0), .val (.ref c_NONE), .val (.ref c_NONE)] [(.ref c_NONE), (.ref c_NONE)])) (fun _ k_ => XS.aloadN X32.here hx rfl (hb hby at_59) rfl rfl  k_) ?_
    refine own_k (T' := T32) (g' := (mkF m 63 #[.val (.int p0), .val (.ref c_NONE), .val (.ref c_NONE)] [])) (fun _ k_ => Jvm.RoadKit.acmp (g := (mkF m 60 #[.val (.int p0), .val (.ref c_NONE), .val (.ref c_NONE)] [(.ref c_NONE), (.ref c_NONE)])) X32 hx rfl rfl rfl (pc0 := 60) (pc' := 63) (same := true) rfl (hb hby at_60) rfl (decide_eq_true rfl) (by decide) (by decide) k_) ?_
    refine own_k (T' := T32) (g' := (mkF m 64 #[.val (.int p0), .val (.ref c_NONE), .val (.ref c_NONE)] [(.int (1 : Int32))])) (fun _ k_ => XS.iconst X32.here hx rfl (hb hby at_63) k_) ?_
    refine own_k (T' := T32) (g' := (mkF m 68 #[.val (.int p0), .val (.ref c_NONE), .val (.ref c_NONE)] [(.int (1 : Int32))])) (fun _ k_ => XS.goto X32.here hx rfl (pc0 := 64) (pc' := 68) rfl (hb hby at_64) (by decide) (by decide) k_) ?_
    exact own_retN X32 hx (t := .boolean) hret (by simp) hlk (hb hby at_68) hF (⟨rfl, N32, trivial⟩) (by decide) (by decide)
set_option maxRecDepth 65536 in
set_option maxHeartbeats 40000000 in
theorem comes_1 {Post : Tables → Env → Array Value → State → Outcome → State → Prop} (hpost : ∀ tb e args s v u, (limb_1_1.after args s (.returned v) u = true ∧ limb_1_2.after args s (.returned v) u = true ∧ True) → FrameEnd s (.returned v) u (Jvm.fieldLocs frame_1_writes args s ++ Jvm.arrayLocs frame_1_arrays args s ++ Jvm.staticLocs frame_1_statics s) 0 0 → Post tb e args s (.returned v) u) :
    ArmFor flags0 classFile x code maxLocals ret World_1 tables_1 room_1 Calls_1 rest_1 Pre_1 Post := by
  intro l hfl _ _ p e ha hc hk s m args below hf hA hF happ hP
  obtain ⟨hcalls, hrest, hpre⟩ := hP
  obtain ⟨-, -, -, hnamed, -, -, -, hat⟩ := (Spec.applies_iff hf).mp happ
  obtain ⟨hg, hn⟩ := and_e (Cond.before_iff.mp (show (Jvm.Cond.and given_1 narrow_1).before args s = true from hpre))
  obtain ⟨g1, g2⟩ := and_e hg
  obtain ⟨w0, rfl⟩ : ∃ w0 : Value, args = #[w0] := by
    have hs : args.size = 1 := by simpa [Cond.value, given_1] using g1
    obtain ⟨L⟩ := args
    match L, hs with
    | [w0], _ => exact ⟨w0, rfl⟩
  have hw := fun d (hd : d ∈ tables_1) => atoms_spec (ws := Jvm.Cond.code x code maxLocals ret :: tables_1) hat d (List.mem_cons_of_mem _ hd)
  obtain ⟨i0, ei0⟩ := is_v g2
  obtain rfl : w0 = (.int i0) := Option.some.inj ei0
  obtain ⟨n1, n2⟩ := and_e hn
  obtain ⟨n3, n4⟩ := and_e n2
  obtain ⟨n5, n6⟩ := and_e n4
  obtain ⟨n7, n8⟩ := and_e n6
  obtain ⟨n9, n10⟩ := and_e n8
  obtain ⟨n11, n12⟩ := and_e n10
  obtain ⟨n13, n14⟩ := and_e n12
  obtain ⟨c_CONJUNCT, ev_c_CONJUNCT⟩ := exa_v n1
  have E_c_CONJUNCT := Exa.start ev_c_CONJUNCT n1
  have S_c_CONJUNCT := Sta.start ev_c_CONJUNCT (Or.inr ⟨(hw _ (List.mem_of_getElem? (i := 5) rfl)), (hw _ (List.mem_of_getElem? (i := 6) rfl))⟩)
  obtain ⟨c_POSITIVE, ev_c_POSITIVE⟩ := exa_v n3
  have E_c_POSITIVE := Exa.start ev_c_POSITIVE n3
  have S_c_POSITIVE := Sta.start ev_c_POSITIVE (Or.inr ⟨(hw _ (List.mem_of_getElem? (i := 5) rfl)), (hw _ (List.mem_of_getElem? (i := 14) rfl))⟩)
  obtain ⟨c_NONE, ev_c_NONE⟩ := exa_v n9
  have E_c_NONE := Exa.start ev_c_NONE n9
  have S_c_NONE := Sta.start ev_c_NONE (Or.inr ⟨(hw _ (List.mem_of_getElem? (i := 5) rfl)), (hw _ (List.mem_of_getElem? (i := 30) rfl))⟩)
  obtain ⟨c_NEGATIVE, ev_c_NEGATIVE⟩ := exa_v n13
  have E_c_NEGATIVE := Exa.start ev_c_NEGATIVE n13
  have S_c_NEGATIVE := Sta.start ev_c_NEGATIVE (Or.inr ⟨(hw _ (List.mem_of_getElem? (i := 5) rfl)), (hw _ (List.mem_of_getElem? (i := 32) rfl))⟩)
  have F_c_POSITIVE_ordinal := own_fldI ev_c_POSITIVE n5
  have F_c_CONJUNCT_ordinal := own_fldI ev_c_CONJUNCT n7
  have F_c_NONE_ordinal := own_fldI ev_c_NONE n11
  have F_c_NEGATIVE_ordinal := own_fldI ev_c_NEGATIVE n14
  obtain ⟨n, o, h1, h2, h3, _, L, rfl, ⟨rfl, N, -⟩, hq⟩ := own_law l s _ c_CONJUNCT c_POSITIVE c_NONE c_NEGATIVE ⟨hw, S_c_CONJUNCT, E_c_CONJUNCT, S_c_POSITIVE, E_c_POSITIVE, S_c_NONE, E_c_NONE, S_c_NEGATIVE, E_c_NEGATIVE, F_c_POSITIVE_ordinal, F_c_CONJUNCT_ordinal, F_c_NONE_ordinal, F_c_NEGATIVE_ordinal⟩ i0 s.heap ⟨Nat.le_refl _, fun _ _ q => q⟩  tables_1 p e ha hc hk s m _ below hf ((Spec.applies_iff_loose hf).mp happ).1 ⟨rfl, State.Warmed39.refl s, rfl⟩ trivial
  refine ⟨n, _, h1, h2, h3, hpost _ _ _ _ _ _ ⟨Cond.after_iff.mpr rfl, Cond.after_iff.mpr (eq_i res_at (Term.int_eval (1)) rfl), trivial⟩ ⟨hq.1, hq.2.1, (hq.2.2.sift fun y hy => Or.inr (N y hy)).mono (by decide) (by decide)⟩⟩
theorem main_1_1 : Claimed_1_1 := comes_1 fun _ _ _ _ _ _ h hF => ⟨h.1, hF⟩
theorem main_1_2 : Claimed_1_2 := comes_1 fun _ _ _ _ _ _ h hF => ⟨h.2.1, hF⟩
end Jvm.Pilot.@@N@@
namespace Jvm.Pilot.@@N@@
open Jvm Jvm.ClassFile Sem Op Lib Jvm.Free Jvm.Stand Jvm.Pilot.@@N@@.Jvm.D
/-! MADE BY PROGRAM (witnessworld.py) out of the Statement's table words and the real class files: 12 classes; the members and pool entries that the words name. The judged class is class 1, her method 2. -/
namespace start1
open Jvm.ClassFile
def u (s : String) : CpInfo := .utf8 (stringToUtf16 s)
/-- a pool by its gaps: so many unusable entries, then the entry; so many at the end -/
def gap : Nat → List CpInfo → List CpInfo
  | 0, r => r
  | n + 1, r => .unusable :: gap n r
def poolList (es : List (Nat × CpInfo)) (last : Nat) : List CpInfo := es.foldr (fun e r => gap e.1 (e.2 :: r)) (gap last [])
def pool (es : List (Nat × CpInfo)) (last : Nat) : Array CpInfo := ⟨poolList es last⟩
def fileOf (pool : Array CpInfo) (this : Nat) (attrs : Array Attribute := #[]) (ms : Array MethodInfo := #[]) (fl : Nat := 33) (sup : Nat := 0) (ifs : Array Nat := #[]) (fds : Array FieldInfo := #[]) : ClassFile where
  minorVersion := 0
  majorVersion := 65
  constantPool := pool
  accessFlags := fl
  thisClass := this
  superClass := sup
  interfaces := ifs
  fields := fds
  methods := ms
  attributes := attrs
def plain (name : String) (sup : Option ClassId) : Class where
  name := name
  kind := .ordinary
  loader := none
  accessFlags := 33
  super := sup
  interfaces := #[]
  cf := none
  fields := #[]
  methods := #[]
  instanceTypes := #[]
  staticTypes := #[]
  resolved := #[]
  callSites := []
  init := .initialized
  statics := none
  mirror := none

def pool0 : Array CpInfo := pool [(5, u "<init>"), (0, u "()V"), (1, .class_ 10), (1, u "java/lang/Object")] 113

def k0m0 : Method := { name := "<init>", desc := "()V", sig := { parameters := [], returnType := none }, accessFlags := 1, code := none }
/-- java/lang/Object -/
def k0 : Class := { plain "java/lang/Object" none with
  accessFlags := 33
  interfaces := #[]
  cf := some (fileOf pool0 8 #[] #[{ accessFlags := 1, nameIndex := 5, descriptorIndex := 6, attributes := #[] }] 33 0 #[] #[])
  fields := #[]
  methods := #[k0m0]
  instanceTypes := #[]
  staticTypes := #[]
  resolved := Array.replicate 124 none
  statics := none }

def pool1 : Array CpInfo := pool [(2, .class_ 4), (1, u "java/lang/Object"), (0, u "<init>"), (0, u "()V"), (0, .fieldref 8 9), (0, .class_ 10), (0, .nameAndType 11 12), (0, u "com/example/nepean/nepean/query/Polarity"), (0, u "CONJUNCT"), (0, u "Lcom/example/nepean/nepean/query/Polarity;"), (0, .fieldref 8 14), (0, .nameAndType 15 12), (0, u "POSITIVE"), (0, .fieldref 8 17), (0, .nameAndType 18 12), (0, u "NEGATIVE"), (0, .fieldref 8 20), (0, .nameAndType 21 12), (0, u "NONE"), (0, .methodref 23 24), (0, .class_ 25), (0, .nameAndType 26 27), (0, u "com/example/nepean/nepean/query/PolarityDisjunctPinLaw"), (0, u "pick"), (0, u "(I)Lcom/example/nepean/nepean/query/Polarity;"), (0, .methodref 8 29), (0, .nameAndType 30 31), (0, u "disjunct"), (0, u "()Lcom/example/nepean/nepean/query/Polarity;"), (0, .methodref 8 33), (0, .nameAndType 34 35), (0, u "tellsFromUnknown"), (0, u "(Z)Z"), (3, u "law"), (0, u "(I)Z")] 2

def k1m0 : Method := { name := "<init>", desc := "()V", sig := { parameters := [], returnType := none }, accessFlags := 2, code := none }
def k1c1 : Code := { maxStack := 2, maxLocals := 2, code := method_2_code, exceptionTable := #[], attributes := #[] }
def k1m1 : Method := { name := "pick", desc := "(I)Lcom/example/nepean/nepean/query/Polarity;", sig := { parameters := [.int], returnType := some (.object "com/example/nepean/nepean/query/Polarity") }, accessFlags := 10, code := some k1c1 }
def k1c2 : Code := { maxStack := 3, maxLocals := 3, code := code, exceptionTable := #[], attributes := #[] }
def k1m2 : Method := { name := "law", desc := "(I)Z", sig := { parameters := [.int], returnType := some .boolean }, accessFlags := 9, code := some k1c2 }
/-- com/example/nepean/nepean/query/PolarityDisjunctPinLaw -/
def k1 : Class := { plain "com/example/nepean/nepean/query/PolarityDisjunctPinLaw" (some 0) with
  accessFlags := 49
  interfaces := #[]
  cf := some (fileOf pool1 23 #[] #[{ accessFlags := 2, nameIndex := 5, descriptorIndex := 6, attributes := #[] }, { accessFlags := 10, nameIndex := 26, descriptorIndex := 27, attributes := #[] }, { accessFlags := 9, nameIndex := 39, descriptorIndex := 40, attributes := #[] }] 49 2 #[] #[])
  fields := #[]
  methods := #[k1m0, k1m1, k1m2]
  instanceTypes := #[]
  staticTypes := #[]
  resolved := Array.replicate 43 none
  statics := none }

def pool2 : Array CpInfo := pool [(1, .class_ 2), (0, u "java/lang/constant/Constable"), (0, .class_ 4), (0, u "java/lang/Object")] 6

/-- java/lang/constant/Constable -/
def k2 : Class := { plain "java/lang/constant/Constable" (some 0) with
  accessFlags := 1537
  interfaces := #[]
  cf := some (fileOf pool2 1 #[] #[] 1537 3 #[] #[])
  fields := #[]
  methods := #[]
  instanceTypes := #[]
  staticTypes := #[]
  resolved := Array.replicate 11 none
  statics := none }

def pool3 : Array CpInfo := pool [(1, .class_ 2), (0, u "java/lang/Comparable"), (0, .class_ 4), (0, u "java/lang/Object")] 7

/-- java/lang/Comparable -/
def k3 : Class := { plain "java/lang/Comparable" (some 0) with
  accessFlags := 1537
  interfaces := #[]
  cf := some (fileOf pool3 1 #[] #[] 1537 3 #[] #[])
  fields := #[]
  methods := #[]
  instanceTypes := #[]
  staticTypes := #[]
  resolved := Array.replicate 12 none
  statics := none }

def pool4 : Array CpInfo := pool [(1, .class_ 2), (0, u "java/io/Serializable"), (0, .class_ 4), (0, u "java/lang/Object")] 2

/-- java/io/Serializable -/
def k4 : Class := { plain "java/io/Serializable" (some 0) with
  accessFlags := 1537
  interfaces := #[]
  cf := some (fileOf pool4 1 #[] #[] 1537 3 #[] #[])
  fields := #[]
  methods := #[]
  instanceTypes := #[]
  staticTypes := #[]
  resolved := Array.replicate 7 none
  statics := none }

def pool5 : Array CpInfo := pool [(2, .class_ 4), (1, u "java/lang/Enum"), (0, u "name"), (0, u "Ljava/lang/String;"), (0, .fieldref 2 8), (0, .nameAndType 9 10), (0, u "ordinal"), (0, u "I"), (1, .class_ 14), (1, u "java/lang/Object"), (4, u "hash"), (86, .class_ 108), (1, u "java/lang/Enum$EnumDesc"), (2, .class_ 112), (0, u "java/lang/constant/Constable"), (0, .class_ 114), (0, u "java/lang/Comparable"), (0, .class_ 116), (0, u "java/io/Serializable"), (9, u "()I")] 77

def k5c0 : Code := { maxStack := 1, maxLocals := 1, code := jdk_37_method_2_code, exceptionTable := #[], attributes := #[] }
def k5m0 : Method := { name := "ordinal", desc := "()I", sig := { parameters := [], returnType := some .int }, accessFlags := 17, code := some k5c0 }
/-- java/lang/Enum -/
def k5 : Class := { plain "java/lang/Enum" (some 0) with
  accessFlags := 1057
  interfaces := #[2, 3, 4]
  cf := some (fileOf pool5 2 #[.nestMembers #[106]] #[{ accessFlags := 17, nameIndex := 9, descriptorIndex := 126, attributes := #[] }] 1057 12 #[111, 113, 115] #[{ accessFlags := 18, nameIndex := 5, descriptorIndex := 6, attributes := #[] }, { accessFlags := 18, nameIndex := 9, descriptorIndex := 10, attributes := #[] }, { accessFlags := 2, nameIndex := 19, descriptorIndex := 10, attributes := #[] }])
  fields := #[{ name := "name", type := (.object "java/lang/String"), accessFlags := 18, slot := 0, constantValue := 0 }, { name := "ordinal", type := .int, accessFlags := 18, slot := 1, constantValue := 0 }, { name := "hash", type := .int, accessFlags := 2, slot := 2, constantValue := 0 }]
  methods := #[k5m0]
  instanceTypes := #[(.object "java/lang/String"), .int, .int]
  staticTypes := #[]
  resolved := Array.replicate 204 none
  statics := none }

def pool6 : Array CpInfo := pool [(1, .class_ 2), (0, u "com/example/nepean/nepean/query/Polarity"), (0, .fieldref 1 4), (0, .nameAndType 5 6), (0, u "CONJUNCT"), (0, u "Lcom/example/nepean/nepean/query/Polarity;"), (0, .fieldref 1 8), (0, .nameAndType 9 6), (0, u "POSITIVE"), (2, u "NEGATIVE"), (2, u "NONE"), (2, u "$VALUES"), (0, u "[Lcom/example/nepean/nepean/query/Polarity;"), (6, .class_ 28), (1, u "java/lang/Enum"), (6, .methodref 1 36), (0, .nameAndType 37 38), (0, u "ordinal"), (0, u "()I"), (22, u "()Lcom/example/nepean/nepean/query/Polarity;"), (1, u "disjunct"), (0, u "tellsFromUnknown"), (0, u "(Z)Z")] 4

def k6c0 : Code := { maxStack := 2, maxLocals := 1, code := prog_20_method_5_code, exceptionTable := #[], attributes := #[] }
def k6m0 : Method := { name := "disjunct", desc := "()Lcom/example/nepean/nepean/query/Polarity;", sig := { parameters := [], returnType := some (.object "com/example/nepean/nepean/query/Polarity") }, accessFlags := 0, code := some k6c0 }
def k6c1 : Code := { maxStack := 4, maxLocals := 2, code := prog_20_method_6_code, exceptionTable := #[], attributes := #[] }
def k6m1 : Method := { name := "tellsFromUnknown", desc := "(Z)Z", sig := { parameters := [.boolean], returnType := some .boolean }, accessFlags := 0, code := some k6c1 }
/-- com/example/nepean/nepean/query/Polarity -/
def k6 : Class := { plain "com/example/nepean/nepean/query/Polarity" (some 5) with
  accessFlags := 16432
  interfaces := #[]
  cf := some (fileOf pool6 1 #[] #[{ accessFlags := 0, nameIndex := 63, descriptorIndex := 61, attributes := #[] }, { accessFlags := 0, nameIndex := 64, descriptorIndex := 65, attributes := #[] }] 16432 26 #[] #[{ accessFlags := 16409, nameIndex := 5, descriptorIndex := 6, attributes := #[] }, { accessFlags := 16409, nameIndex := 9, descriptorIndex := 6, attributes := #[] }, { accessFlags := 16409, nameIndex := 12, descriptorIndex := 6, attributes := #[] }, { accessFlags := 16409, nameIndex := 15, descriptorIndex := 6, attributes := #[] }, { accessFlags := 4122, nameIndex := 18, descriptorIndex := 19, attributes := #[] }])
  fields := #[{ name := "CONJUNCT", type := (.object "com/example/nepean/nepean/query/Polarity"), accessFlags := 16409, slot := 0, constantValue := 0 }, { name := "POSITIVE", type := (.object "com/example/nepean/nepean/query/Polarity"), accessFlags := 16409, slot := 1, constantValue := 0 }, { name := "NEGATIVE", type := (.object "com/example/nepean/nepean/query/Polarity"), accessFlags := 16409, slot := 2, constantValue := 0 }, { name := "NONE", type := (.object "com/example/nepean/nepean/query/Polarity"), accessFlags := 16409, slot := 3, constantValue := 0 }, { name := "$VALUES", type := (.array (.object "com/example/nepean/nepean/query/Polarity")), accessFlags := 4122, slot := 4, constantValue := 0 }]
  methods := #[k6m0, k6m1]
  instanceTypes := #[(.object "java/lang/String"), .int, .int]
  staticTypes := #[(.object "com/example/nepean/nepean/query/Polarity"), (.object "com/example/nepean/nepean/query/Polarity"), (.object "com/example/nepean/nepean/query/Polarity"), (.object "com/example/nepean/nepean/query/Polarity"), (.array (.object "com/example/nepean/nepean/query/Polarity"))]
  resolved := Array.replicate 70 none
  statics := some 0 }

def pool7 : Array CpInfo := pool [(1, u "java/lang/Cloneable"), (0, .class_ 1), (0, u "java/lang/Object"), (0, .class_ 3)] 3

/-- java/lang/Cloneable -/
def k7 : Class := { plain "java/lang/Cloneable" (some 0) with
  accessFlags := 1537
  interfaces := #[]
  cf := some (fileOf pool7 2 #[] #[] 1537 4 #[] #[])
  fields := #[]
  methods := #[]
  instanceTypes := #[]
  staticTypes := #[]
  resolved := Array.replicate 8 none
  statics := none }

/-- the primitive byte -/
def k8 : Class := { plain "byte" none with kind := .primitive 'B', accessFlags := 0x411 }
/-- [B -/
def k9 : Class := { plain "[B" (some 0) with kind := .array 8 .byte, interfaces := #[7, 4], accessFlags := 1041 }

/-- the primitive int -/
def k10 : Class := { plain "int" none with kind := .primitive 'I', accessFlags := 0x411 }
/-- [I -/
def k11 : Class := { plain "[I" (some 0) with kind := .array 10 .int, interfaces := #[7, 4], accessFlags := 1041 }

def heap : Heap := #[{ cls := 6, slots := #[.ref 1, .ref 2, .ref 4, .ref 3, .null], vm := .statics 6 },
  { cls := 6, slots := #[.null, .int 0, .int 0], vm := .none },
  { cls := 6, slots := #[.null, .int 1, .int 0], vm := .none },
  { cls := 6, slots := #[.null, .int 3, .int 0], vm := .none },
  { cls := 6, slots := #[.null, .int 2, .int 0], vm := .none }]
def classes : Array Class := #[k0, k1, k2, k3, k4, k5, k6, k7, k8, k9, k10, k11]
def interned : List (Array UInt16 × Addr) := []
def slotsUsed : Nat := 17
def theMethod : MethodId := ⟨1, 2⟩
def args0 : Array Value := #[.int 5]
def aboutOver (below : List Frame) : State where
  vm := { classes := classes, interned := interned.toArray }
  heap := heap
  slotsUsed := slotsUsed
  threads := #[{ frames := .invoking theMethod args0 :: below }]
def below0 : List Frame := [.native { method := ⟨0, 0⟩, args := #[] }]
def about1 : State := aboutOver below0
def p0 : Program := .bare "" "" ""
def e0 : Env := launch0.env 0 0 0
theorem w_frames : about1.frames = Frame.invoking theMethod args0 :: below0 := rfl
set_option maxRecDepth 65536 in
theorem w_args : argsFit about1.vm theMethod args0 = true := by decide +kernel
set_option maxRecDepth 65536 in
theorem w_heap : heapFits about1 = true := by decide +kernel
set_option maxRecDepth 65536 in
theorem w_runnable : about1.curStatus? = some .runnable := by decide +kernel
set_option maxRecDepth 65536 in
theorem w_alone : about1.alone = true := by decide +kernel
set_option maxRecDepth 65536 in
theorem w_named : about1.methodNamed? x = some theMethod := by decide +kernel
set_option maxRecDepth 65536 in
theorem w_hears : about1.hears theMethod below0 = true := by decide +kernel
set_option maxRecDepth 65536 in
theorem w_ripe : about1.ripe theMethod args0 below0 = true := by decide +kernel
theorem w_running : about1.status = .running := rfl
set_option maxRecDepth 65536 in
theorem w_room : about1.hasRoom e0.platform room_1 = true :=
  launch0.hasRoom_least _ room_1 (by decide +kernel) (by decide +kernel) (by decide +kernel) (by decide +kernel) (by decide +kernel) (by decide +kernel)
theorem allAtoms_all (ts : List Jvm.Cond) (a : Array Jvm.Value) (st : Jvm.State) : (allAtoms ts).before a st = ts.all (fun c => c.before a st) := by
  induction ts with
  | nil => rfl
  | cons c t ih =>
    show (Jvm.Cond.and c (allAtoms t)).before a st = _
    rw [Jvm.Cond.before_and, ih, List.all_cons]
def words1 : List Jvm.Cond := Jvm.Cond.code x code maxLocals ret :: tables_1
/-- a 'code' word, met by the world's own term for the bytes: nothing is compared byte by byte -/
theorem code_word {y : MethodName} {bytes : ByteArray} {mx : Nat} {rt : Option FieldType} {a : Array Value} {s : State} {m : MethodId} {meth : Method} {c : Code} (h1 : s.methodNamed? y = some m) (h2 : s.vm.method? m = some meth) (h3 : meth.code = some c) (h4 : c.code = bytes)
    (h5 : (c.maxLocals == mx && c.exceptionTable.isEmpty && decide (c.maxStack ≤ mostOperands) && decide (meth.sig.returnType = rt) && !meth.locks && decide (parseMethodDescriptor y.desc = some meth.sig)) = true) : (Jvm.Cond.code y bytes mx rt).before a s = true := by
  simp only [Bool.and_eq_true, beq_iff_eq, Bool.not_eq_true', decide_eq_true_eq] at h5
  obtain ⟨⟨⟨⟨⟨g1, g2⟩, g3⟩, g4⟩, g5⟩, g6⟩ := h5
  simp [Cond.before, Cond.holds, Cond.value, h1, h2, h3, h4, g1, g2, g3, g4, g5, g6]
def isCode : Jvm.Cond → Bool
  | .code _ _ _ _ => true
  | _ => false
theorem all_split {L : List Jvm.Cond} {P : Jvm.Cond → Bool} (h1 : L.all (fun c => isCode c || P c) = true) (h2 : ∀ c ∈ L.filter isCode, P c = true) : L.all P = true := by
  refine List.all_eq_true.mpr fun c hc => ?_
  have h := List.all_eq_true.mp h1 c hc
  rcases Bool.eq_false_or_eq_true (isCode c) with hi | hi
  · exact h2 c (List.mem_filter.mpr ⟨hc, hi⟩)
  · simpa [hi] using h
set_option maxRecDepth 65536 in
theorem w_c0 : (Jvm.Cond.code x code maxLocals ret).before args0 about1 = true := code_word (m := ⟨1, 2⟩) (meth := k1m2) (c := k1c2) (by decide +kernel) rfl rfl rfl (by decide +kernel)
set_option maxRecDepth 65536 in
theorem w_c1 : (Jvm.Cond.code ({ cls := "com/example/nepean/nepean/query/PolarityDisjunctPinLaw", name := "pick", desc := "(I)Lcom/example/nepean/nepean/query/Polarity;" } : Jvm.MethodName) method_2_code (2 : Nat) (Option.some (Jvm.ClassFile.FieldType.object "com/example/nepean/nepean/query/Polarity"))).before args0 about1 = true := code_word (m := ⟨1, 1⟩) (meth := k1m1) (c := k1c1) (by decide +kernel) rfl rfl rfl (by decide +kernel)
set_option maxRecDepth 65536 in
theorem w_c2 : (Jvm.Cond.code ({ cls := "com/example/nepean/nepean/query/Polarity", name := "disjunct", desc := "()Lcom/example/nepean/nepean/query/Polarity;" } : Jvm.MethodName) prog_20_method_5_code (1 : Nat) (Option.some (Jvm.ClassFile.FieldType.object "com/example/nepean/nepean/query/Polarity"))).before args0 about1 = true := code_word (m := ⟨6, 0⟩) (meth := k6m0) (c := k6c0) (by decide +kernel) rfl rfl rfl (by decide +kernel)
set_option maxRecDepth 65536 in
theorem w_c3 : (Jvm.Cond.code ({ cls := "com/example/nepean/nepean/query/Polarity", name := "tellsFromUnknown", desc := "(Z)Z" } : Jvm.MethodName) prog_20_method_6_code (2 : Nat) (Option.some Jvm.ClassFile.FieldType.boolean)).before args0 about1 = true := code_word (m := ⟨6, 1⟩) (meth := k6m1) (c := k6c1) (by decide +kernel) rfl rfl rfl (by decide +kernel)
set_option maxRecDepth 65536 in
theorem w_c4 : (Jvm.Cond.code ({ cls := "java/lang/Enum", name := "ordinal", desc := "()I" } : Jvm.MethodName) jdk_37_method_2_code (1 : Nat) (Option.some Jvm.ClassFile.FieldType.int)).before args0 about1 = true := code_word (m := ⟨5, 0⟩) (meth := k5m0) (c := k5c0) (by decide +kernel) rfl rfl rfl (by decide +kernel)
def codes1 : List Jvm.Cond := [Jvm.Cond.code x code maxLocals ret, Jvm.Cond.code ({ cls := "com/example/nepean/nepean/query/PolarityDisjunctPinLaw", name := "pick", desc := "(I)Lcom/example/nepean/nepean/query/Polarity;" } : Jvm.MethodName) method_2_code (2 : Nat) (Option.some (Jvm.ClassFile.FieldType.object "com/example/nepean/nepean/query/Polarity")), Jvm.Cond.code ({ cls := "com/example/nepean/nepean/query/Polarity", name := "disjunct", desc := "()Lcom/example/nepean/nepean/query/Polarity;" } : Jvm.MethodName) prog_20_method_5_code (1 : Nat) (Option.some (Jvm.ClassFile.FieldType.object "com/example/nepean/nepean/query/Polarity")), Jvm.Cond.code ({ cls := "com/example/nepean/nepean/query/Polarity", name := "tellsFromUnknown", desc := "(Z)Z" } : Jvm.MethodName) prog_20_method_6_code (2 : Nat) (Option.some Jvm.ClassFile.FieldType.boolean), Jvm.Cond.code ({ cls := "java/lang/Enum", name := "ordinal", desc := "()I" } : Jvm.MethodName) jdk_37_method_2_code (1 : Nat) (Option.some Jvm.ClassFile.FieldType.int)]
set_option maxRecDepth 65536 in
theorem codes_eq : words1.filter isCode = codes1 := rfl
theorem w_codes : ∀ c ∈ words1.filter isCode, c.before args0 about1 = true := by
  rw [codes_eq]
  intro c hc
  simp only [codes1, List.mem_cons, List.not_mem_nil, or_false] at hc
  rcases hc with rfl | rfl | rfl | rfl | rfl
  · exact w_c0
  · exact w_c1
  · exact w_c2
  · exact w_c3
  · exact w_c4
set_option maxRecDepth 65536 in
theorem w_t1 : (words1.take 24).all (fun c => isCode c || c.before args0 about1) = true := by decide +kernel
set_option maxRecDepth 65536 in
theorem w_t2 : (words1.drop 24).all (fun c => isCode c || c.before args0 about1) = true := by decide +kernel
theorem w_tables : (allAtoms (Jvm.Cond.code x code maxLocals ret :: tables_1)).before args0 about1 = true := by
  rw [allAtoms_all]
  show words1.all (fun c => c.before args0 about1) = true
  refine all_split ?_ w_codes
  rw [← List.take_append_drop 24 words1, List.all_append, w_t1, w_t2]
  rfl
set_option maxRecDepth 65536 in
theorem w_case : (Jvm.Cond.and given_1 narrow_1).before args0 about1 = true := by decide +kernel
theorem w_applies : (headSpec (Jvm.Cond.code x code maxLocals ret :: tables_1) room_1).applies x e0.platform about1 = true :=
  (Spec.applies_iff w_frames).mpr ⟨w_running, w_runnable, w_alone, w_named, w_hears, w_ripe, w_room, w_tables⟩
theorem atStart : AtStart classFile x code maxLocals ret World_1 tables_1 room_1 Calls_1 rest_1 Pre_1 launch0 p0 e0 about1 theMethod args0 below0 :=
  ⟨lists_1, trivial, launch0.admits_env _ _ _, launch0.least_env, fairChoices_fair.cas, fairChoices_fair.clock, w_frames, w_args, w_heap, w_applies, trivial, trivial, w_case⟩
end start1
theorem witness_1 : WitnessClaimed_1 := ⟨start1.p0, start1.e0, start1.about1, start1.theMethod, start1.args0, start1.below0, start1.atStart⟩
end Jvm.Pilot.@@N@@
