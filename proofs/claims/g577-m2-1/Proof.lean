import JvmDerived
import JvmDerived.Pilot.@@N@@Statement
import JvmDerived.Pilot.@@N@@Code
set_option linter.unusedVariables false
set_option linter.unusedSimpArgs false
namespace Jvm.RoadKit
open Sem ClassFile Op Lib Jvm.Stand Jvm.Free Jvm.LawKit
section Own
variable {p : Program} {l : Launch} {e : Env} {R : Room} {s : State} {m : MethodId} {args : Array Value} {below : List Frame} {meth : Method} {c : Code} {T T' : State} {locs : List Loc} {cells slots : Nat} {Z : State} {a0 : Array Value} {h : Heap} {Φ : State → Prop} {g g' : JFrame} {Q : Option Value → Heap → List Loc → Prop} {kc ks pc : Nat} {Ls : Array Slot} {st rest : List Value}
/-- from the frame g of T the run comes to a state of which Φ holds -/
def own_Go (p : Program) (e : Env) (below : List Frame) (Φ : State → Prop) (T : State) (g : JFrame) : Prop := ∃ t, Steps p.tables e below (T.setTop g) t ∧ Φ t
theorem own_k (st : ∀ t, Steps p.tables e below (T'.setTop g') t → Steps p.tables e below (T.setTop g) t) (k : own_Go p e below Φ T' g') : own_Go p e below Φ T g := by
  obtain ⟨t, h1, h2⟩ := k
  exact ⟨t, st t h1, h2⟩
theorem own_s (st : Steps p.tables e below (T.setTop g) (T'.setTop g')) (k : own_Go p e below Φ T' g') : own_Go p e below Φ T g := by
  obtain ⟨t, h1, h2⟩ := k
  exact ⟨t, st.trans h1, h2⟩
def own_Fin (s : State) (below : List Frame) (Q : Option Value → Heap → List Loc → Prop) (kc ks : Nat) (t : State) : Prop := t.status = .running ∧ ∃ v L, Ended t below (.returned v) ∧ Q v t.heap L ∧ FrameEnd s (.returned v) t L kc ks
def own_Met (l : Launch) (Z : State) (y : MethodName) (bytes : ByteArray) (maxL : Nat) (ret : Option FieldType) (rm : Room) (av : Array Value) (h : Heap) (Q : Option Value → Heap → List Loc → Prop) : Prop :=
  ∀ ws : List Jvm.Cond, MetFree l y (head1 (Cond.code y bytes maxL ret :: ws) rm) (fun a U => a = av ∧ Z.Warmed39 U.vm ∧ U.heap = h) (fun _ _ _ _ _ => True) (fun _ U o U' => ∃ v L, o = .returned v ∧ Q v U'.heap L ∧ FrameEnd U o U' L rm.cells rm.slots)
theorem own_met {y : MethodName} {bytes : ByteArray} {maxL : Nat} {ret : Option FieldType} {rm : Room} {av : Array Value} (hpl : plainFor y = true)
    (body : ∀ (p : Program) (e : Env) (s : State) (m : MethodId) (below : List Frame) (meth : Method) (c : Code) (s₁ : State) (Φ : State → Prop), (∀ t, own_Fin s below Q rm.cells rm.slots t → Φ t) → Stand p l e rm s m av below meth c s₁ [] 0 0 → p.tables.exec = Jvm.exec → c.code = bytes → c.maxLocals = maxL → Z.Warmed39 s.vm → s.vm.findClass y.cls = some m.cls → meth.name = y.name → meth.sig.returnType = ret → meth.locks = false → s₁.heap = h →
      own_Go p e below Φ s₁ (entryFrame m av maxL)) : own_Met l Z y bytes maxL ret rm av h Q := by
  intro ws
  refine MetFree.of_bodySF hpl hisR ?_
  intro p e s m args below meth c s₁ Bd hml hP hK
  obtain ⟨rfl, hZ, hh⟩ := hP
  obtain ⟨t, h1, hrun, v, L, h2, h3, h4⟩ := body p e s m below meth c s₁ (own_Fin s below Q rm.cells rm.slots) (fun _ q => q) (Stand.of_body Bd) Bd.exec Bd.bytes hml hZ (findClass_of_methodNamed Bd.named) (name_of_methodNamed Bd.named Bd.method).1 Bd.returns Bd.notSynchronized (by rw [← hh, Bd.state]; rfl)
  exact ⟨t, _, h1, hrun, h2, v, L, rfl, h3, h4⟩
theorem own_fin {v : Option Value} (X : Stand p l e R s m args below meth c T locs cells slots) (hv : meth.sig.returnType = none → v = none) (hlk : meth.locks = false)
    (hs : ∀ fs, (∀ (f : JFrame) (acts : List Action), f.method = m → f.locked = none → f.entered = [] → (doReturn e (T.setTop f) acts v).1 = T.setFrames fs) → Steps p.tables e below (T.setTop g) (T.setFrames fs))
    (hF : ∀ t, own_Fin s below Q kc ks t → Φ t) (hQ : Q v T.heap locs) (hk : cells ≤ kc) (hn : slots ≤ ks) : own_Go p e below Φ T g := by
  obtain ⟨fs, hr, hrun, hended, hW, hsame⟩ := X.leave (v := v) hv hlk
  exact ⟨T.setFrames fs, hs fs hr, hF _ ⟨hrun, v, locs, hended, hQ, ⟨_, rfl⟩, hW, hsame.mono hk hn⟩⟩
theorem own_retI (X : Stand p l e R s m args below meth c T locs cells slots) (hx : p.tables.exec = Jvm.exec) {z : Int32} (hret : meth.sig.returnType = some .int) (hlk : meth.locks = false) (hd : decode c.code pc = .ok (.ireturn, 1)) (hF : ∀ t, own_Fin s below Q kc ks t → Φ t) (hQ : Q (some (.int z)) T.heap locs) (hk : cells ≤ kc) (hn : slots ≤ ks) :
    own_Go p e below Φ T (mkF m pc Ls (.int z :: rest)) :=
  own_fin X (fun q => by rw [hret] at q; cases q) hlk (fun fs hr => retOut X hx hret (narrow_int z) (Or.inl ⟨rfl, Or.inl rfl, z, rfl⟩) hd hr) hF hQ hk hn
where narrow_int (z : Int32) : narrow .int (.int z) = .int z := rfl
theorem own_retN (X : Stand p l e R s m args below meth c T locs cells slots) (hx : p.tables.exec = Jvm.exec) {z : Int32} {t : FieldType} (hret : meth.sig.returnType = some t) (ht : t = .boolean ∨ t = .byte ∨ t = .char ∨ t = .short) (hlk : meth.locks = false) (hd : decode c.code pc = .ok (.ireturn, 1)) (hF : ∀ t, own_Fin s below Q kc ks t → Φ t) (hQ : Q (some (.int (nar t z))) T.heap locs) (hk : cells ≤ kc) (hn : slots ≤ ks) :
    own_Go p e below Φ T (mkF m pc Ls (.int z :: rest)) :=
  own_fin X (fun q => by rw [hret] at q; cases q) hlk (fun fs hr => retN X hx hret ht hd hr) hF hQ hk hn
theorem own_retA (X : Stand p l e R s m args below meth c T locs cells slots) (hx : p.tables.exec = Jvm.exec) {w : Value} {t : FieldType} (hret : meth.sig.returnType = some t) (ht : t.isReference = true) (hw : w.isRef = true) (hlk : meth.locks = false) (hd : decode c.code pc = .ok (.areturn, 1)) (hF : ∀ t, own_Fin s below Q kc ks t → Φ t) (hQ : Q (some w) T.heap locs) (hk : cells ≤ kc) (hn : slots ≤ ks) :
    own_Go p e below Φ T (mkF m pc Ls (w :: rest)) :=
  own_fin X (fun q => by rw [hret] at q; cases q) hlk (fun fs hr => retOut X hx hret (by cases t <;> cases w <;> first | rfl | cases ht | cases hw) (Or.inr (Or.inr (Or.inr (Or.inr ⟨rfl, ht, hw⟩)))) hd hr) hF hQ hk hn
theorem own_retJ (X : Stand p l e R s m args below meth c T locs cells slots) (hx : p.tables.exec = Jvm.exec) {z : Int64} (hret : meth.sig.returnType = some .long) (hlk : meth.locks = false) (hd : decode c.code pc = .ok (.lreturn, 1)) (hF : ∀ t, own_Fin s below Q kc ks t → Φ t) (hQ : Q (some (.long z)) T.heap locs) (hk : cells ≤ kc) (hn : slots ≤ ks) :
    own_Go p e below Φ T (mkF m pc Ls (.long z :: rest)) :=
  own_fin X (fun q => by rw [hret] at q; cases q) hlk (fun fs hr => retOut X hx hret rfl (Or.inr (Or.inl ⟨rfl, rfl, z, rfl⟩)) hd hr) hF hQ hk hn
theorem own_ret0 (X : Stand p l e R s m args below meth c T locs cells slots) (hx : p.tables.exec = Jvm.exec) (hret : meth.sig.returnType = none) (hlk : meth.locks = false) (hd : decode c.code pc = .ok (.return_, 1)) (hF : ∀ t, own_Fin s below Q kc ks t → Φ t) (hQ : Q none T.heap locs) (hk : cells ≤ kc) (hn : slots ≤ ks) :
    own_Go p e below Φ T (mkF m pc Ls []) :=
  own_fin X (fun _ => rfl) hlk (fun fs hr => X.returnOut hx hret hd hr) hF hQ hk hn
theorem own_back {y : MethodName} {bytes : ByteArray} {maxL : Nat} {ret : Option FieldType} {rm : Room} {len W : Nat} {av : Array Value} (hM : own_Met l Z y bytes maxL ret rm av h Q)
    (hZ : Z.Warmed39 s.vm) (wc : (Cond.code y bytes maxL ret).before a0 Z = true) (wz : (Cond.initialized y.cls).before a0 Z = true) (hf : rm.frames + 1 ≤ R.frames) (hl : W + (maxL + 11) + rm.locals ≤ R.locals) :
    Back l R p e below s args y len W (fun A a => a = av ∧ A.U.heap = h ∧ A.cells + rm.cells ≤ R.cells ∧ A.slots + rm.slots ≤ R.slots)
      (fun A _ v B => ∃ L, Q v B.U.heap L ∧ B.locs = A.locs ++ L ∧ B.cells = A.cells + rm.cells ∧ B.slots = A.slots + rm.slots) :=
  backOf (Q := Q) (hM []) hZ wc wz hf hl
theorem own_callS (X : Stand p l e R s m args below meth c T locs cells slots) (hx : p.tables.exec = Jvm.exec) (hZ : Z.Warmed39 s.vm) {own : String} {index : Nat} {y : MethodName} {bytes : ByteArray} {maxL : Nat} {ret : Option FieldType} (hown : s.vm.findClass own = some m.cls)
    (w1 : (Cond.methodLink own index y).before a0 Z = true) (w2 : (Cond.static y).before a0 Z = true) (w3 : (Cond.initialized y.cls).before a0 Z = true) (w4 : (Cond.code y bytes maxL ret).before a0 Z = true) (hy : y.cls ≠ "java/lang/invoke/MethodHandle" ∧ y.cls ≠ "java/lang/invoke/VarHandle")
    {rm : Room} {al : List Value} (hM : own_Met l Z y bytes maxL ret rm al.toArray h Q) (W : Nat) (hf : rm.frames + 1 ≤ R.frames) (hl : W + (maxL + 11) + rm.locals ≤ R.locals) (eT : T.heap = h) (hc : cells + rm.cells ≤ R.cells) (hn : slots + rm.slots ≤ R.slots)
    (hsz : Ls.size = c.maxLocals) (hlen : ∀ sig, parseMethodDescriptor y.desc = some sig → al.length = sig.parameters.length) (hst : st = al.reverse ++ rest) (hW : 2 * 0 + (rest.map fun v => v.category).sum ≤ W) (hd : decode c.code pc = .ok (.invokestatic index, 3))
    (k : ∀ (v : Option Value) (T' : State) (L : List Loc), Stand p l e R s m args below meth c T' (locs ++ L) (cells + rm.cells) (slots + rm.slots) → Q v T'.heap L → own_Go p e below Φ T' (mkF m (pc + 3) Ls (v.toList ++ rest))) : own_Go p e below Φ T (mkF m pc Ls st) := by
  obtain ⟨v, vm₁, ⟨T', L', k', n'⟩, -, X', ⟨L, hQ, l1, l2, l3⟩, st'⟩ := Jvm.LawKit.callS X hx (y := y) hown (mvT hZ w1) (mvT hZ w2) (mvT hZ w3) (mvT hZ w4) hy (own_back (W := W) hM hZ w4 w3 hf hl) (g := mkF m pc Ls st) rfl hsz (argsL := al) (rest := rest) hlen hst hW hd (fun _ _ => ⟨rfl, eT, hc, hn⟩)
  dsimp only [Pt.U, Pt.locs, Pt.cells, Pt.slots] at X' l1 l2 l3 st' hQ
  subst l1 l2 l3
  exact own_k st' (k v T' L X' hQ)
theorem own_callV (X : Stand p l e R s m args below meth c T locs cells slots) (hx : p.tables.exec = Jvm.exec) (hZ : Z.Warmed39 s.vm) {own C : String} {index : Nat} {y z : MethodName} {bytes : ByteArray} {maxL : Nat} {ret : Option FieldType} (hown : s.vm.findClass own = some m.cls)
    (w1 : (Cond.methodLink own index y).before a0 Z = true) (w2 : (Cond.declares y).before a0 Z = true) (hnf : NotFace s y) (w3 : (Cond.selects C y z).before a0 Z = true) (w4 : (Cond.instanceMethod z).before a0 Z = true) (w5 : (Cond.code z bytes maxL ret).before a0 Z = true) (w6 : (Cond.initialized z.cls).before a0 Z = true) (hy : y.cls ≠ "java/lang/invoke/MethodHandle" ∧ y.cls ≠ "java/lang/invoke/VarHandle")
    {rm : Room} {al : List Value} {b : Addr} (E : Exa Z h b C) (hM : own_Met l Z z bytes maxL ret rm (.ref b :: al).toArray h Q) (W : Nat) (hf : rm.frames + 1 ≤ R.frames) (hl : W + (maxL + 11) + rm.locals ≤ R.locals) (eT : T.heap = h) (hc : cells + rm.cells ≤ R.cells) (hn : slots + rm.slots ≤ R.slots)
    (hsz : Ls.size = c.maxLocals) (hlen : ∀ sig, parseMethodDescriptor y.desc = some sig → al.length = sig.parameters.length) (hst : st = al.reverse ++ .ref b :: rest) (hW : 2 * 0 + (rest.map fun v => v.category).sum ≤ W) (hd : decode c.code pc = .ok (.invokevirtual index, 3))
    (k : ∀ (v : Option Value) (T' : State) (L : List Loc), Stand p l e R s m args below meth c T' (locs ++ L) (cells + rm.cells) (slots + rm.slots) → Q v T'.heap L → own_Go p e below Φ T' (mkF m (pc + 3) Ls (v.toList ++ rest))) : own_Go p e below Φ T (mkF m pc Ls st) := by
  obtain ⟨cB, kB, q1, q2, q3⟩ := isOf hZ eT E
  obtain ⟨v, vm₁, ⟨T', L', k', n'⟩, -, X', ⟨L, hQ, l1, l2, l3⟩, st'⟩ := X.virtualBack hx (y := y) (z := z) hown (mvT hZ w1) (mvT hZ w2) hnf (mvT hZ w3) (mvT hZ w4) hy (own_back (W := W) hM hZ w5 w6 hf hl) q1 q3 (g := mkF m pc Ls st) rfl hsz (Steps.refl _) (argsL := al) (rest := rest) hlen hst hW hd (fun _ _ => ⟨rfl, eT, hc, hn⟩)
  dsimp only [Pt.U, Pt.locs, Pt.cells, Pt.slots] at X' l1 l2 l3 st' hQ
  subst l1 l2 l3
  exact own_s st' (k v T' L X' hQ)
theorem own_callU (X : Stand p l e R s m args below meth c T locs cells slots) (hx : p.tables.exec = Jvm.exec) (hZ : Z.Warmed39 s.vm) {own C owner : String} {index : Nat} {y z : MethodName} {bytes : ByteArray} {maxL : Nat} {ret : Option FieldType} (hown : s.vm.findClass own = some m.cls)
    (w1 : (Cond.methodLink own index y).before a0 Z = true) (w2 : (Cond.sameMethod y.cls owner y.name y.desc).before a0 Z = true) (w2' : (Cond.declares ⟨owner, y.name, y.desc⟩).before a0 Z = true) (w3 : (Cond.selects C y z).before a0 Z = true) (w4 : (Cond.instanceMethod z).before a0 Z = true) (w5 : (Cond.code z bytes maxL ret).before a0 Z = true) (w6 : (Cond.initialized z.cls).before a0 Z = true) (hy : owner ≠ "java/lang/invoke/MethodHandle" ∧ owner ≠ "java/lang/invoke/VarHandle")
    {rm : Room} {al : List Value} {b : Addr} (E : Exa Z h b C) (hM : own_Met l Z z bytes maxL ret rm (.ref b :: al).toArray h Q) (W : Nat) (hf : rm.frames + 1 ≤ R.frames) (hl : W + (maxL + 11) + rm.locals ≤ R.locals) (eT : T.heap = h) (hc : cells + rm.cells ≤ R.cells) (hn : slots + rm.slots ≤ R.slots)
    (hsz : Ls.size = c.maxLocals) (hlen : ∀ sig, parseMethodDescriptor y.desc = some sig → al.length = sig.parameters.length) (hst : st = al.reverse ++ .ref b :: rest) (hW : 2 * 0 + (rest.map fun v => v.category).sum ≤ W) (hd : decode c.code pc = .ok (.invokevirtual index, 3))
    (k : ∀ (v : Option Value) (T' : State) (L : List Loc), Stand p l e R s m args below meth c T' (locs ++ L) (cells + rm.cells) (slots + rm.slots) → Q v T'.heap L → own_Go p e below Φ T' (mkF m (pc + 3) Ls (v.toList ++ rest))) : own_Go p e below Φ T (mkF m pc Ls st) := by
  obtain ⟨cB, kB, q1, q2, q3⟩ := isOf hZ eT E
  obtain ⟨v, vm₁, ⟨T', L', k', n'⟩, -, X', ⟨L, hQ, l1, l2, l3⟩, st'⟩ := X.virtualBackUp hx (x := y) (y := z) hown (mvT hZ w1) (mvT hZ w2) (mvT hZ w2') hy (mvT hZ w3) (mvT hZ w4) (own_back (W := W) hM hZ w5 w6 hf hl) q1 q3 (g := mkF m pc Ls st) rfl hsz (Steps.refl _) (argsL := al) (rest := rest) hlen hst hW hd (fun _ _ => ⟨rfl, eT, hc, hn⟩)
  dsimp only [Pt.U, Pt.locs, Pt.cells, Pt.slots] at X' l1 l2 l3 st' hQ
  subst l1 l2 l3
  exact own_s st' (k v T' L X' hQ)
theorem own_callN (X : Stand p l e R s m args below meth c T locs cells slots) (hx : p.tables.exec = Jvm.exec) (hZ : Z.Warmed39 s.vm) {own : String} {index : Nat} {y : MethodName} {bytes : ByteArray} {maxL : Nat} (hy1 : y.name = "<init>") (hown : s.vm.findClass own = some m.cls)
    (w1 : (Cond.methodLink own index y).before a0 Z = true) (w2 : (Cond.instanceMethod y).before a0 Z = true) (w3 : (Cond.code y bytes maxL none).before a0 Z = true) (w4 : (Cond.initialized y.cls).before a0 Z = true) (hy : y.cls ≠ "java/lang/invoke/MethodHandle" ∧ y.cls ≠ "java/lang/invoke/VarHandle")
    {rm : Room} {al : List Value} {b : Addr} (hM : own_Met l Z y bytes maxL none rm (.ref b :: al).toArray h Q) (W : Nat) (hf : rm.frames + 1 ≤ R.frames) (hl : W + (maxL + 11) + rm.locals ≤ R.locals) (eT : T.heap = h) (hc : cells + rm.cells ≤ R.cells) (hn : slots + rm.slots ≤ R.slots)
    (hsz : Ls.size = c.maxLocals) (hlen : ∀ sig, parseMethodDescriptor y.desc = some sig → al.length = sig.parameters.length) (hst : st = al.reverse ++ .ref b :: rest) (hW : 2 * 0 + (rest.map fun v => v.category).sum ≤ W) (hd : decode c.code pc = .ok (.invokespecial index, 3))
    (k : ∀ (v : Option Value) (T' : State) (L : List Loc), Stand p l e R s m args below meth c T' (locs ++ L) (cells + rm.cells) (slots + rm.slots) → Q v T'.heap L → own_Go p e below Φ T' (mkF m (pc + 3) Ls (v.toList ++ rest))) : own_Go p e below Φ T (mkF m pc Ls st) := by
  obtain ⟨v, vm₁, ⟨T', L', k', n'⟩, -, X', ⟨L, hQ, l1, l2, l3⟩, st'⟩ := X.specialBack hx (y := y) hy1 hown (mvT hZ w1) (mvT hZ w2) (mvT hZ w3) hy (own_back (W := W) hM hZ w3 w4 hf hl) (g := mkF m pc Ls st) rfl hsz (Steps.refl _) (a := b) (argsL := al) (rest := rest) hlen hst hW hd (fun _ _ => ⟨rfl, eT, hc, hn⟩)
  dsimp only [Pt.U, Pt.locs, Pt.cells, Pt.slots] at X' l1 l2 l3 st' hQ
  subst l1 l2 l3
  exact own_s st' (k v T' L X' hQ)
theorem own_iaload (X : Stand p l e R s m args below meth c T locs cells slots) (hx : p.tables.exec = Jvm.exec) (hZ : Z.Warmed39 s.vm) (eT : T.heap = h) {a : Addr} {k : ClassId} {n : Int32} {vs : List Value} {d : Value} (V : Arv Z h a k .int n vs d) {j : Int32} (hj : ¬ j < 0 ∧ j < n) {v : Value} (hv : vs.getD j.toNatClampNeg d = v) (hd : decode c.code pc = .ok (.iaload, 1)) (kk : own_Go p e below Φ T (mkF m (pc + 1) Ls (v :: rest))) : own_Go p e below Φ T (mkF m pc Ls (.int j :: .ref a :: rest)) := by
  obtain ⟨cl, A, -, S, N, H, -⟩ := V
  have hin := inb_of S hj
  exact own_k (fun t q => X.iaload hx (j := j) (v := v) (by rw [eT]; exact A.1) (State.isArrayOf_alike hZ.alike A.2.1) A.2.2 hin (H.at hin hv) (g := mkF m pc Ls (.int j :: .ref a :: rest)) rfl rfl hd t q) kk
theorem own_saload (X : Stand p l e R s m args below meth c T locs cells slots) (hx : p.tables.exec = Jvm.exec) (hZ : Z.Warmed39 s.vm) (eT : T.heap = h) {a : Addr} {k : ClassId} {n : Int32} {vs : List Value} {d : Value} (V : Arv Z h a k .short n vs d) {j : Int32} (hj : ¬ j < 0 ∧ j < n) {v : Value} (hv : vs.getD j.toNatClampNeg d = v) (hd : decode c.code pc = .ok (.saload, 1)) (kk : own_Go p e below Φ T (mkF m (pc + 1) Ls (v :: rest))) : own_Go p e below Φ T (mkF m pc Ls (.int j :: .ref a :: rest)) := by
  obtain ⟨cl, A, -, S, N, H, -⟩ := V
  have hin := inb_of S hj
  exact own_k (fun t q => X.saload hx (j := j) (v := v) (by rw [eT]; exact A.1) (State.isArrayOf_alike hZ.alike A.2.1) A.2.2 hin (H.at hin hv) (g := mkF m pc Ls (.int j :: .ref a :: rest)) rfl rfl hd t q) kk
theorem own_caload (X : Stand p l e R s m args below meth c T locs cells slots) (hx : p.tables.exec = Jvm.exec) (hZ : Z.Warmed39 s.vm) (eT : T.heap = h) {a : Addr} {k : ClassId} {n : Int32} {vs : List Value} {d : Value} (V : Arv Z h a k .char n vs d) {j : Int32} (hj : ¬ j < 0 ∧ j < n) {v : Value} (hv : vs.getD j.toNatClampNeg d = v) (hd : decode c.code pc = .ok (.caload, 1)) (kk : own_Go p e below Φ T (mkF m (pc + 1) Ls (v :: rest))) : own_Go p e below Φ T (mkF m pc Ls (.int j :: .ref a :: rest)) := by
  obtain ⟨cl, A, -, S, N, H, -⟩ := V
  have hin := inb_of S hj
  exact own_k (fun t q => X.caload hx (j := j) (v := v) (by rw [eT]; exact A.1) (State.isArrayOf_alike hZ.alike A.2.1) A.2.2 hin (H.at hin hv) (g := mkF m pc Ls (.int j :: .ref a :: rest)) rfl rfl hd t q) kk
theorem own_laload (X : Stand p l e R s m args below meth c T locs cells slots) (hx : p.tables.exec = Jvm.exec) (hZ : Z.Warmed39 s.vm) (eT : T.heap = h) {a : Addr} {k : ClassId} {n : Int32} {vs : List Value} {d : Value} (V : Arv Z h a k .long n vs d) {j : Int32} (hj : ¬ j < 0 ∧ j < n) {v : Value} (hv : vs.getD j.toNatClampNeg d = v) (hd : decode c.code pc = .ok (.laload, 1)) (kk : own_Go p e below Φ T (mkF m (pc + 1) Ls (v :: rest))) : own_Go p e below Φ T (mkF m pc Ls (.int j :: .ref a :: rest)) := by
  obtain ⟨cl, A, -, S, N, H, -⟩ := V
  have hin := inb_of S hj
  exact own_k (fun t q => X.laload hx (j := j) (v := v) (by rw [eT]; exact A.1) (State.isArrayOf_alike hZ.alike A.2.1) A.2.2 hin (H.at hin hv) (g := mkF m pc Ls (.int j :: .ref a :: rest)) rfl rfl hd t q) kk
theorem own_baload (X : Stand p l e R s m args below meth c T locs cells slots) (hx : p.tables.exec = Jvm.exec) (hZ : Z.Warmed39 s.vm) (eT : T.heap = h) {a : Addr} {k : ClassId} {n : Int32} {vs : List Value} {d : Value} (V : Arv Z h a k .byte n vs d) {j : Int32} (hj : ¬ j < 0 ∧ j < n) {v : Value} (hv : vs.getD j.toNatClampNeg d = v) (hd : decode c.code pc = .ok (.baload, 1)) (kk : own_Go p e below Φ T (mkF m (pc + 1) Ls (v :: rest))) : own_Go p e below Φ T (mkF m pc Ls (.int j :: .ref a :: rest)) := by
  obtain ⟨cl, A, -, S, N, H, -⟩ := V
  have hin := inb_of S hj
  exact own_k (fun t q => X.baloadBytes hx (j := j) (v := v) (by rw [eT]; exact A.1) (State.isArrayOf_alike hZ.alike A.2.1) A.2.2 hin (H.at hin hv) (g := mkF m pc Ls (.int j :: .ref a :: rest)) rfl rfl hd t q) kk
theorem own_aaload (X : Stand p l e R s m args below meth c T locs cells slots) (hx : p.tables.exec = Jvm.exec) (hZ : Z.Warmed39 s.vm) (eT : T.heap = h) {a : Addr} {k : ClassId} {n : Int32} {vs : List Value} {d : Value} {ty : FieldType} (V : Arv Z h a k ty n vs d) (ht : ty.isReference = true) {j : Int32} (hj : ¬ j < 0 ∧ j < n) {v : Value} (hv : vs.getD j.toNatClampNeg d = v) (hd : decode c.code pc = .ok (.aaload, 1)) (kk : own_Go p e below Φ T (mkF m (pc + 1) Ls (v :: rest))) : own_Go p e below Φ T (mkF m pc Ls (.int j :: .ref a :: rest)) := by
  obtain ⟨cl, A, -, S, N, H, -⟩ := V
  have hin := inb_of S hj
  exact own_k (fun t q => X.aaload hx (j := j) (v := v) (by rw [eT]; exact A.1) (State.isArrayOf_alike hZ.alike A.2.1) ht A.2.2 hin (H.at hin hv) (g := mkF m pc Ls (.int j :: .ref a :: rest)) rfl rfl hd t q) kk
theorem own_len (X : Stand p l e R s m args below meth c T locs cells slots) (hx : p.tables.exec = Jvm.exec) (hZ : Z.Warmed39 s.vm) (eT : T.heap = h) {a : Addr} {k : ClassId} {n : Int32} {vs : List Value} {d : Value} {ty : FieldType} (V : Arv Z h a k ty n vs d) (hd : decode c.code pc = .ok (.arraylength, 1)) (kk : own_Go p e below Φ T (mkF m (pc + 1) Ls (.int n :: rest))) : own_Go p e below Φ T (mkF m pc Ls (.ref a :: rest)) := by
  obtain ⟨cl, A, -, S, N, H, -⟩ := V
  refine own_k (fun t q => X.arraylength hx (by rw [eT]; exact A.1) (State.isArrayOf_alike hZ.alike A.2.1) (g := mkF m pc Ls (.ref a :: rest)) rfl rfl hd t q) ?_
  rw [len_of S N]
  exact kk
theorem own_iastore (X : Stand p l e R s m args below meth c T locs cells slots) (hx : p.tables.exec = Jvm.exec) (hZ : Z.Warmed39 s.vm) (eT : T.heap = h) {a : Addr} {k : ClassId} {n : Int32} {vs : List Value} {d : Value} (V : Arv Z h a k .int n vs d) {j : Int32} {x : Int32} (hj : ¬ j < 0 ∧ j < n) (i : Nat) (hi : j.toNatClampNeg = i) (hl : i < vs.length) (hd : decode c.code pc = .ok (.iastore, 1)) :
    ∃ T' h', Stand p l e R s m args below meth c T' (locs ++ [⟨a, j.toNatClampNeg⟩]) cells slots ∧ T'.heap = h' ∧ Wr h h' a j.toNatClampNeg (.int x) ∧ Arv Z h' a k .int n (vs.set i (.int x)) d ∧ ∀ t, Steps p.tables e below (T'.setTop (mkF m (pc + 1) Ls rest)) t → Steps p.tables e below (T.setTop (mkF m pc Ls ((.int x) :: .int j :: .ref a :: rest))) t := by
  obtain ⟨cl, A, q, S, N, H, G⟩ := V
  have hin := inb_of S hj
  obtain ⟨T', h', X', e', W, st'⟩ := stI X hx hZ eT A (j := j) (x := x) hin (g := mkF m pc Ls ((.int x) :: .int j :: .ref a :: rest)) rfl rfl hd
  exact ⟨T', h', X', e', W, Arv.set A q S N H G rfl W i hi hl, st'⟩
theorem own_lastore (X : Stand p l e R s m args below meth c T locs cells slots) (hx : p.tables.exec = Jvm.exec) (hZ : Z.Warmed39 s.vm) (eT : T.heap = h) {a : Addr} {k : ClassId} {n : Int32} {vs : List Value} {d : Value} (V : Arv Z h a k .long n vs d) {j : Int32} {x : Int64} (hj : ¬ j < 0 ∧ j < n) (i : Nat) (hi : j.toNatClampNeg = i) (hl : i < vs.length) (hd : decode c.code pc = .ok (.lastore, 1)) :
    ∃ T' h', Stand p l e R s m args below meth c T' (locs ++ [⟨a, j.toNatClampNeg⟩]) cells slots ∧ T'.heap = h' ∧ Wr h h' a j.toNatClampNeg (.long x) ∧ Arv Z h' a k .long n (vs.set i (.long x)) d ∧ ∀ t, Steps p.tables e below (T'.setTop (mkF m (pc + 1) Ls rest)) t → Steps p.tables e below (T.setTop (mkF m pc Ls ((.long x) :: .int j :: .ref a :: rest))) t := by
  obtain ⟨cl, A, q, S, N, H, G⟩ := V
  have hin := inb_of S hj
  obtain ⟨T', h', X', e', W, st'⟩ := stJ X hx hZ eT A (j := j) (x := x) hin (g := mkF m pc Ls ((.long x) :: .int j :: .ref a :: rest)) rfl rfl hd
  exact ⟨T', h', X', e', W, Arv.set A q S N H G rfl W i hi hl, st'⟩
theorem own_castore (X : Stand p l e R s m args below meth c T locs cells slots) (hx : p.tables.exec = Jvm.exec) (hZ : Z.Warmed39 s.vm) (eT : T.heap = h) {a : Addr} {k : ClassId} {n : Int32} {vs : List Value} {d : Value} (V : Arv Z h a k .char n vs d) {j : Int32} {x : Int32} (hj : ¬ j < 0 ∧ j < n) (i : Nat) (hi : j.toNatClampNeg = i) (hl : i < vs.length) (hd : decode c.code pc = .ok (.castore, 1)) :
    ∃ T' h', Stand p l e R s m args below meth c T' (locs ++ [⟨a, j.toNatClampNeg⟩]) cells slots ∧ T'.heap = h' ∧ Wr h h' a j.toNatClampNeg (.int (nar .char x)) ∧ Arv Z h' a k .char n (vs.set i (.int (nar .char x))) d ∧ ∀ t, Steps p.tables e below (T'.setTop (mkF m (pc + 1) Ls rest)) t → Steps p.tables e below (T.setTop (mkF m pc Ls ((.int x) :: .int j :: .ref a :: rest))) t := by
  obtain ⟨cl, A, q, S, N, H, G⟩ := V
  have hin := inb_of S hj
  obtain ⟨T', h', X', e', W, st'⟩ := stC X hx hZ eT A (j := j) (x := x) hin (g := mkF m pc Ls ((.int x) :: .int j :: .ref a :: rest)) rfl rfl hd
  exact ⟨T', h', X', e', W, Arv.set A q S N H G (fits_nar_char x) W i hi hl, st'⟩
theorem own_sastore (X : Stand p l e R s m args below meth c T locs cells slots) (hx : p.tables.exec = Jvm.exec) (hZ : Z.Warmed39 s.vm) (eT : T.heap = h) {a : Addr} {k : ClassId} {n : Int32} {vs : List Value} {d : Value} (V : Arv Z h a k .short n vs d) {j : Int32} {x : Int32} (hj : ¬ j < 0 ∧ j < n) (i : Nat) (hi : j.toNatClampNeg = i) (hl : i < vs.length) (hd : decode c.code pc = .ok (.sastore, 1)) :
    ∃ T' h', Stand p l e R s m args below meth c T' (locs ++ [⟨a, j.toNatClampNeg⟩]) cells slots ∧ T'.heap = h' ∧ Wr h h' a j.toNatClampNeg (.int (nar .short x)) ∧ Arv Z h' a k .short n (vs.set i (.int (nar .short x))) d ∧ ∀ t, Steps p.tables e below (T'.setTop (mkF m (pc + 1) Ls rest)) t → Steps p.tables e below (T.setTop (mkF m pc Ls ((.int x) :: .int j :: .ref a :: rest))) t := by
  obtain ⟨cl, A, q, S, N, H, G⟩ := V
  have hin := inb_of S hj
  obtain ⟨T', h', X', e', W, st'⟩ := stS X hx hZ eT A (j := j) (x := x) hin (g := mkF m pc Ls ((.int x) :: .int j :: .ref a :: rest)) rfl rfl hd
  exact ⟨T', h', X', e', W, Arv.set A q S N H G (fits_nar_short x) W i hi hl, st'⟩
theorem own_bastore (X : Stand p l e R s m args below meth c T locs cells slots) (hx : p.tables.exec = Jvm.exec) (hZ : Z.Warmed39 s.vm) (eT : T.heap = h) {a : Addr} {k : ClassId} {n : Int32} {vs : List Value} {d : Value} (V : Arv Z h a k .byte n vs d) {j : Int32} {x : Int32} (hj : ¬ j < 0 ∧ j < n) (i : Nat) (hi : j.toNatClampNeg = i) (hl : i < vs.length) (hd : decode c.code pc = .ok (.bastore, 1)) :
    ∃ T' h', Stand p l e R s m args below meth c T' (locs ++ [⟨a, j.toNatClampNeg⟩]) cells slots ∧ T'.heap = h' ∧ Wr h h' a j.toNatClampNeg (.int (nar .byte x)) ∧ Arv Z h' a k .byte n (vs.set i (.int (nar .byte x))) d ∧ ∀ t, Steps p.tables e below (T'.setTop (mkF m (pc + 1) Ls rest)) t → Steps p.tables e below (T.setTop (mkF m pc Ls ((.int x) :: .int j :: .ref a :: rest))) t := by
  obtain ⟨cl, A, q, S, N, H, G⟩ := V
  have hin := inb_of S hj
  obtain ⟨T', h', X', e', W, st'⟩ := stB X hx hZ eT A (j := j) (x := x) hin (g := mkF m pc Ls ((.int x) :: .int j :: .ref a :: rest)) rfl rfl hd
  exact ⟨T', h', X', e', W, Arv.set A q S N H G (fits_nar_byte x) W i hi hl, st'⟩
theorem own_aastore (X : Stand p l e R s m args below meth c T locs cells slots) (hx : p.tables.exec = Jvm.exec) (hZ : Z.Warmed39 s.vm) (eT : T.heap = h) {a : Addr} {k : ClassId} {n : Int32} {vs : List Value} {d : Value} {ty : FieldType} (V : Arv Z h a k ty n vs d) (ht : ty.isReference = true) {j : Int32} {v : Value} (hj : ¬ j < 0 ∧ j < n) (hf : fits ty v = true) (F : ∀ cl : Cell, Arr Z h a cl ty → cl.cls = k → Sto Z h a v) (i : Nat) (hi : j.toNatClampNeg = i) (hl : i < vs.length) (hd : decode c.code pc = .ok (.aastore, 1)) :
    ∃ T' h', Stand p l e R s m args below meth c T' (locs ++ [⟨a, j.toNatClampNeg⟩]) cells slots ∧ T'.heap = h' ∧ Wr h h' a j.toNatClampNeg v ∧ Arv Z h' a k ty n (vs.set i v) d ∧ ∀ t, Steps p.tables e below (T'.setTop (mkF m (pc + 1) Ls rest)) t → Steps p.tables e below (T.setTop (mkF m pc Ls (v :: .int j :: .ref a :: rest))) t := by
  obtain ⟨cl, A, q, S, N, H, G⟩ := V
  have hin := inb_of S hj
  obtain ⟨T', h', X', e', W, st'⟩ := stR X hx hZ eT A (j := j) (v := v) hin ht (F cl A q) (g := mkF m pc Ls (v :: .int j :: .ref a :: rest)) rfl rfl hd
  exact ⟨T', h', X', e', W, Arv.set A q S N H G hf W i hi hl, st'⟩
theorem own_newarr (X : Stand p l e R s m args below meth c T locs cells slots) (hx : p.tables.exec = Jvm.exec) (hZ : Z.Warmed39 s.vm) {aty : ArrayType} (w : (Cond.arrayClass (newarray.typeOf aty)).before a0 Z = true) (eT : T.heap = h) (hd : decode c.code pc = .ok (.newarray aty, 2)) {n : Int32} (hn : ¬ n < 0) {cap : Nat} (hcap : n.toNatClampNeg ≤ cap) (hb : cap * 8 ≤ 536870912) (hc : cells + 1 ≤ R.cells) (hl : slots + cap ≤ R.slots) {ad : String} (had : "[" ++ (newarray.typeOf aty).toString = ad) :
    ∃ T' h' cA, Stand p l e R s m args below meth c T' locs (cells + 1) (slots + cap) ∧ T'.heap = h' ∧ Ext h h' ∧ Arv Z h' h.size cA (newarray.typeOf aty) n (List.replicate cap (defaultValue (newarray.typeOf aty))) (defaultValue (newarray.typeOf aty)) ∧ Exa Z h' h.size ad ∧
      ∀ t, Steps p.tables e below (T'.setTop (mkF m (pc + 2) Ls (.ref h.size :: rest))) t → Steps p.tables e below (T.setTop (mkF m pc Ls (.int n :: rest))) t := by
  obtain ⟨T', h', cA, X', e', E', A', C', st'⟩ := newPE X hx hZ w eT (g := mkF m pc Ls (.int n :: rest)) rfl hd rfl hn hcap hb hc hl had
  exact ⟨T', h', cA, X', e', E', (Arv.new A' hn).pad (fun i => by have q := pad_rep [] (defaultValue (newarray.typeOf aty)) cap i; simpa using q), C', st'⟩
theorem own_newref (X : Stand p l e R s m args below meth c T locs cells slots) (hx : p.tables.exec = Jvm.exec) (hZ : Z.Warmed39 s.vm) {own C : String} {index : Nat} (hown : s.vm.findClass own = some m.cls) (w1 : (Cond.classLink own index C).before a0 Z = true) (w2 : (Cond.arrayOver (.object C)).before a0 Z = true) (eT : T.heap = h) (hd : decode c.code pc = .ok (.anewarray index, 3)) {n : Int32} (hn : ¬ n < 0) {cap : Nat} (hcap : n.toNatClampNeg ≤ cap) (hb : cap * 8 ≤ 536870912) (hc : cells + 1 ≤ R.cells) (hl : slots + cap ≤ R.slots) {ad : String} (had : "[" ++ (FieldType.object C).toString = ad) :
    ∃ T' h' cA, Stand p l e R s m args below meth c T' locs (cells + 1) (slots + cap) ∧ T'.heap = h' ∧ Ext h h' ∧ Arv Z h' h.size cA (.object C) n (List.replicate cap .null) .null ∧ Exa Z h' h.size ad ∧ Ovr Z cA C ∧
      ∀ t, Steps p.tables e below (T'.setTop (mkF m (pc + 3) Ls (.ref h.size :: rest))) t → Steps p.tables e below (T.setTop (mkF m pc Ls (.int n :: rest))) t := by
  obtain ⟨T', h', cA, X', e', E', A', C', O', st'⟩ := newRE X hx hZ hown w1 w2 eT (g := mkF m pc Ls (.int n :: rest)) rfl hd rfl hn hcap hb hc hl had
  exact ⟨T', h', cA, X', e', E', (Arv.new A' hn).pad (fun i => by have q := pad_rep [] (.null) cap i; simpa [defaultValue] using q), C', O', st'⟩
theorem own_newarr2 (X : Stand p l e R s m args below meth c T locs cells slots) (hx : p.tables.exec = Jvm.exec) (hZ : Z.Warmed39 s.vm) {own C : String} {ty : FieldType} {index : Nat} (hown : s.vm.findClass own = some m.cls) (hC : (FieldType.array ty).toString = C) (w1 : (Cond.classLink own index C).before a0 Z = true) (w2 : (Cond.arrayOver (.array ty)).before a0 Z = true) (eT : T.heap = h) (hd : decode c.code pc = .ok (.anewarray index, 3)) {n : Int32} (hn : ¬ n < 0) {cap : Nat} (hcap : n.toNatClampNeg ≤ cap) (hb : cap * 8 ≤ 536870912) (hc : cells + 1 ≤ R.cells) (hl : slots + cap ≤ R.slots) {ad : String} (had : "[" ++ C = ad) :
    ∃ T' h' cA, Stand p l e R s m args below meth c T' locs (cells + 1) (slots + cap) ∧ T'.heap = h' ∧ Ext h h' ∧ Arv Z h' h.size cA (.array ty) n (List.replicate cap .null) .null ∧ Exa Z h' h.size ad ∧ OvrA Z cA ty C ∧
      ∀ t, Steps p.tables e below (T'.setTop (mkF m (pc + 3) Ls (.ref h.size :: rest))) t → Steps p.tables e below (T.setTop (mkF m pc Ls (.int n :: rest))) t := by
  obtain ⟨T', h', cA, X', e', E', A', C', O', st'⟩ := newRA X hx hZ hown hC w1 w2 eT (g := mkF m pc Ls (.int n :: rest)) rfl hd rfl hn hcap hb hc hl had
  exact ⟨T', h', cA, X', e', E', (Arv.new A' hn).pad (fun i => by have q := pad_rep [] (.null) cap i; simpa [defaultValue] using q), C', O', st'⟩
theorem own_callP (X : Stand p l e R s m args below meth c T locs cells slots) (hx : p.tables.exec = Jvm.exec) (hZ : Z.Warmed39 s.vm) {own : String} {index kk : Nat} {y : MethodName} {bytes : ByteArray} {maxL : Nat} {ret : Option FieldType} (hown : s.vm.findClass own = some m.cls)
    (w1 : (Cond.methodLink own index y).before a0 Z = true) (w2 : (Cond.instanceMethod y).before a0 Z = true) (w3 : (Cond.privateMethod y).before a0 Z = true) (w4 : (Cond.code y bytes maxL ret).before a0 Z = true) (w5 : (Cond.initialized y.cls).before a0 Z = true) (w6 : (Cond.instantiable y.cls kk).before a0 Z = true) (hy : y.cls ≠ "java/lang/invoke/MethodHandle" ∧ y.cls ≠ "java/lang/invoke/VarHandle")
    {rm : Room} {al : List Value} {b : Addr} {C : String} (E : Exa Z h b C) (hM : own_Met l Z y bytes maxL ret rm (.ref b :: al).toArray h Q) (W : Nat) (hf : rm.frames + 1 ≤ R.frames) (hl : W + (maxL + 11) + rm.locals ≤ R.locals) (eT : T.heap = h) (hc : cells + rm.cells ≤ R.cells) (hn : slots + rm.slots ≤ R.slots)
    (hsz : Ls.size = c.maxLocals) (hlen : ∀ sig, parseMethodDescriptor y.desc = some sig → al.length = sig.parameters.length) (hst : st = al.reverse ++ .ref b :: rest) (hW : 2 * 0 + (rest.map fun v => v.category).sum ≤ W) (hd : decode c.code pc = .ok (.invokevirtual index, 3))
    (k : ∀ (v : Option Value) (T' : State) (L : List Loc), Stand p l e R s m args below meth c T' (locs ++ L) (cells + rm.cells) (slots + rm.slots) → Q v T'.heap L → own_Go p e below Φ T' (mkF m (pc + 3) Ls (v.toList ++ rest))) : own_Go p e below Φ T (mkF m pc Ls st) := by
  obtain ⟨cB, q1, q2⟩ := E.cell
  have hp : s.PrivateAt y := Cond.privateMethod_at (mvP hZ w3 (args := #[]))
  obtain ⟨cc, ki, z1, z2, -, z4, -⟩ := Cond.instantiable_spec (mvT (s := s) (args := args) hZ w6)
  have hsel : (Cond.selects y.cls y y).before args s = true := selects_self_of_private z1 z2 (by simp only [Bool.or_eq_false_iff] at z4; exact z4.1) hp (mvT hZ w2) hy
  obtain ⟨v, vm₁, ⟨T', L', k', n'⟩, -, X', ⟨L, hQ, l1, l2, l3⟩, st'⟩ := X.privateBack hx (y := y) hown (mvT hZ w1) (mvT hZ w2) hsel hp (mvT hZ w4) hy (own_back (W := W) hM hZ w4 w5 hf hl) (g := mkF m pc Ls st) rfl hsz (Steps.refl _) (a := b) (cell := cB) (by rw [eT]; exact q1) q2 (argsL := al) (rest := rest) hlen hst hW hd (fun _ _ => ⟨rfl, eT, hc, hn⟩)
  dsimp only [Pt.U, Pt.locs, Pt.cells, Pt.slots] at X' l1 l2 l3 st' hQ
  subst l1 l2 l3
  exact own_s st' (k v T' L X' hQ)
theorem own_eqI {args : Array Value} {t : Term} {n : Int32} (hq : (Cond.eq t (.int n)).value args Z none Z [] = some true) : t.eval args Z none [] Z = some (.int n) := eqv_i (Term.int_eval n) hq
theorem own_fldI {args : Array Value} {t : Term} {n : Int32} {a : Addr} {C f d : String} (ev : t.eval args Z none [] Z = some (.ref a)) (hq : (Cond.eq (.field t C f d) (.int n)).value args Z none Z [] = some true) : Fld Z Z.heap a C f d (.int n) := by
  have q := own_eqI hq
  rw [fld_at ev] at q
  exact Fld.start q
theorem own_nar_short (x : Int32) : nar .short x.toInt16.toInt32 = x.toInt16.toInt32 := by simp [nar]
theorem own_nar_byte (x : Int32) : nar .byte x.toInt8.toInt32 = x.toInt8.toInt32 := by simp [nar]
theorem own_nar_char (x : Int32) : nar .char x.toUInt32.toUInt16.toUInt32.toInt32 = x.toUInt32.toUInt16.toUInt32.toInt32 := by
  have e1 := c_i2c x
  have e2 := c_i2c (x.toUInt32.toUInt16.toUInt32.toInt32)
  exact Int32.toInt_inj.mp (by show (x.toUInt32.toUInt16.toUInt32.toInt32.toUInt32.toUInt16.toUInt32.toInt32).toInt = _; omega)
end Own
end Jvm.RoadKit
namespace Jvm.Pilot.@@N@@
open Jvm Jvm.ClassFile Sem Op Lib Jvm.Free Jvm.Stand Jvm.LawKit Jvm.RoadKit Bundle Jvm.Pilot.@@N@@.Jvm.D
def own_W (Z : State) (a0 : Array Value) (g_COMPACT_STRINGS : Int32) (g_SIOOBE_FORMATTER : Value) : Prop := (∀ d ∈ tables_1, d.before a0 Z = true) ∧ (Sta Z Z.heap "java/lang/String" "COMPACT_STRINGS" "Z" (.int g_COMPACT_STRINGS)) ∧ (¬ (g_COMPACT_STRINGS = (0 : Int32))) ∧ (g_SIOOBE_FORMATTER.isRef = true) ∧ (Sta Z Z.heap "jdk/internal/util/Preconditions" "SIOOBE_FORMATTER" "Ljava/util/function/BiFunction;" g_SIOOBE_FORMATTER) ∧ (Sta Z Z.heap "java/lang/StringUTF16" "$assertionsDisabled" "Z" (.int (1 : Int32))) ∧ (Sta Z Z.heap "java/lang/StringUTF16" "HI_BYTE_SHIFT" "I" (.int (0 : Int32))) ∧ (Sta Z Z.heap "java/lang/StringUTF16" "LO_BYTE_SHIFT" "I" (.int (8 : Int32)))
theorem own_rec (c : Int32) (r : ¬ c < (0 : Int32) ∧ ¬ (65535 : Int32) < c) : ((((((c >>> ((0 : Int32) &&& 31)).toInt8.toInt32) &&& (255 : Int32)) <<< ((0 : Int32) &&& 31)) ||| ((((c >>> ((8 : Int32) &&& 31)).toInt8.toInt32) &&& (255 : Int32)) <<< ((8 : Int32) &&& 31))).toUInt32.toUInt16.toUInt32.toInt32) = c := by
  obtain ⟨r1, r2⟩ := r
  rw [Int32.lt_iff_toInt_lt] at r1 r2
  have z0 : (0 : Int32).toInt = 0 := by decide
  have z1 : (65535 : Int32).toInt = 65535 := by decide
  have e0 := c_ishr c (0 : Int32) 0 (by decide)
  have e1 := c_ishr c (8 : Int32) 8 (by decide)
  generalize hA : (c >>> ((0 : Int32) &&& 31)) = A at *
  generalize hB : (c >>> ((8 : Int32) &&& 31)) = B at *
  have f0 := c_i2b A
  have f1 := c_i2b B
  have g0 : ((A.toInt8.toInt32) &&& (255 : Int32)).toInt = (A.toInt8.toInt32).toInt % (2 ^ 8 : Nat) := c_mask _ 255 8 (by decide) (by decide)
  have g1 : ((B.toInt8.toInt32) &&& (255 : Int32)).toInt = (B.toInt8.toInt32).toInt % (2 ^ 8 : Nat) := c_mask _ 255 8 (by decide) (by decide)
  generalize ((A.toInt8.toInt32) &&& (255 : Int32)) = a at *
  generalize ((B.toInt8.toInt32) &&& (255 : Int32)) = b at *
  have i0 := c_ishl a (0 : Int32) 0 (by decide)
  have i1 := c_ishl b (8 : Int32) 8 (by decide)
  have k0 := rng32 (a <<< ((0 : Int32) &&& 31))
  have k1 := rng32 (b <<< ((8 : Int32) &&& 31))
  generalize (a <<< ((0 : Int32) &&& 31)) = u at *
  generalize (b <<< ((8 : Int32) &&& 31)) = w at *
  have j := c_or' u w 8 (by decide) 256 (by decide) (by omega) (by omega) (by omega)
  have k2 := rng32 (u ||| w)
  have j2 := c_i2c (u ||| w)
  exact Int32.toInt_inj.mp (by omega)
theorem own_rec_gt {c : Int32} (r : ¬ c < (0 : Int32) ∧ ¬ (65535 : Int32) < c) (h : (255 : Int32) < c) : (255 : Int32) < ((((((c >>> ((0 : Int32) &&& 31)).toInt8.toInt32) &&& (255 : Int32)) <<< ((0 : Int32) &&& 31)) ||| ((((c >>> ((8 : Int32) &&& 31)).toInt8.toInt32) &&& (255 : Int32)) <<< ((8 : Int32) &&& 31))).toUInt32.toUInt16.toUInt32.toInt32) := by
  rw [own_rec c r]; exact h
theorem own_lrec (c : Int32) (r : ¬ c < (0 : Int32)) (q : ¬ (255 : Int32) < c) : (((c.toInt8.toInt32) &&& (255 : Int32)).toUInt32.toUInt16.toUInt32.toInt32) = c := by
  rw [Int32.lt_iff_toInt_lt] at r q
  have z0 : (0 : Int32).toInt = 0 := by decide
  have z1 : (255 : Int32).toInt = 255 := by decide
  have f0 := c_i2b c
  have g0 : ((c.toInt8.toInt32) &&& (255 : Int32)).toInt = (c.toInt8.toInt32).toInt % (2 ^ 8 : Nat) := c_mask _ 255 8 (by decide) (by decide)
  have j2 := c_i2c ((c.toInt8.toInt32) &&& (255 : Int32))
  exact Int32.toInt_inj.mp (by omega)
def own_lat (cs : List Int32) : List Value := cs.map fun c => .int (c.toInt8.toInt32)
def own_utf : List Int32 → List Value
  | [] => []
  | c :: r => .int (((c >>> ((0 : Int32) &&& 31)).toInt8.toInt32)) :: .int (((c >>> ((8 : Int32) &&& 31)).toInt8.toInt32)) :: own_utf r
def own_ok (c : Int32) : Prop := ¬ c < (0 : Int32) ∧ ¬ (65535 : Int32) < c
theorem own_ok_getD {cs : List Int32} (h : ∀ c ∈ cs, own_ok c) (i : Nat) : own_ok (cs.getD i (0 : Int32)) := by
  rw [List.getD_eq_getElem?_getD]
  cases q : cs[i]? with
  | none => exact ⟨by decide, by decide⟩
  | some c => exact h c (List.mem_of_getElem? q)
theorem own_nlat_getD {cs : List Int32} (h : ∀ c ∈ cs, ¬ (255 : Int32) < c) (i : Nat) : ¬ (255 : Int32) < cs.getD i (0 : Int32) := by
  rw [List.getD_eq_getElem?_getD]
  cases q : cs[i]? with
  | none => show ¬ (255 : Int32) < (0 : Int32); decide
  | some c => exact h c (List.mem_of_getElem? q)
theorem own_lat_get (cs : List Int32) (i : Nat) : (own_lat cs).getD i (.int (0 : Int32)) = .int ((cs.getD i (0 : Int32)).toInt8.toInt32) := by
  simp only [own_lat, List.getD_eq_getElem?_getD, List.getElem?_map]
  cases cs[i]? <;> rfl
theorem own_utf_lo : ∀ (cs : List Int32) (i : Nat), (own_utf cs).getD (2 * i) (.int (0 : Int32)) = .int (((cs.getD i (0 : Int32)) >>> ((0 : Int32) &&& 31)).toInt8.toInt32)
  | [], i => by first | (simp [own_utf]; done) | (simp [own_utf]; decide)
  | c :: r, 0 => rfl
  | c :: r, i + 1 => by
    have q := own_utf_lo r i
    rw [show 2 * (i + 1) = 2 * i + 1 + 1 from by omega]
    simpa [own_utf, List.getD_eq_getElem?_getD] using q
theorem own_utf_hi : ∀ (cs : List Int32) (i : Nat), (own_utf cs).getD (2 * i + 1) (.int (0 : Int32)) = .int (((cs.getD i (0 : Int32)) >>> ((8 : Int32) &&& 31)).toInt8.toInt32)
  | [], i => by first | (simp [own_utf]; done) | (simp [own_utf]; decide)
  | c :: r, 0 => rfl
  | c :: r, i + 1 => by
    have q := own_utf_hi r i
    rw [show 2 * (i + 1) + 1 = 2 * i + 1 + 1 + 1 from by omega]
    simpa [own_utf, List.getD_eq_getElem?_getD] using q
theorem own_shl1 {j : Int32} (h : 0 ≤ j.toInt ∧ j.toInt < 1000) : (j <<< ((1 : Int32) &&& 31)).toInt = 2 * j.toInt ∧ ((j <<< ((1 : Int32) &&& 31)) + (1 : Int32)).toInt = 2 * j.toInt + 1 := by
  have e := c_ishl j (1 : Int32) 1 (by decide)
  have r := rng32 (j <<< ((1 : Int32) &&& 31))
  have e2 := c_iadd (j <<< ((1 : Int32) &&& 31)) (1 : Int32)
  have r2 := rng32 ((j <<< ((1 : Int32) &&& 31)) + (1 : Int32))
  have z1 : (1 : Int32).toInt = 1 := by decide
  omega
theorem own_clamp {j : Int32} (h : 0 ≤ j.toInt) : (j.toNatClampNeg : Int) = j.toInt := by
  have q := nat_of (j := j) (by rw [Int32.lt_iff_toInt_lt]; have z0 : (0 : Int32).toInt = 0 := by decide
                                omega)
  omega
theorem own_idx_lo {j : Int32} (h : 0 ≤ j.toInt ∧ j.toInt < 1000) : (j <<< ((1 : Int32) &&& 31)).toNatClampNeg = 2 * j.toNatClampNeg := by
  have e := own_shl1 h
  have a := own_clamp (j := (j <<< ((1 : Int32) &&& 31))) (by omega)
  have b := own_clamp h.1
  omega
theorem own_idx_hi {j : Int32} (h : 0 ≤ j.toInt ∧ j.toInt < 1000) : ((j <<< ((1 : Int32) &&& 31)) + (1 : Int32)).toNatClampNeg = 2 * j.toNatClampNeg + 1 := by
  have e := own_shl1 h
  have a := own_clamp (j := ((j <<< ((1 : Int32) &&& 31)) + (1 : Int32))) (by omega)
  have b := own_clamp h.1
  omega
def own_Byt (Z : State) (h : Heap) (t : Addr) (kb : ClassId) (cs : List Int32) : Prop := (Arv Z h t kb .byte (12 : Int32) (own_lat cs) (.int (0 : Int32)) ∧ ∀ c ∈ cs, ¬ (255 : Int32) < c) ∨ Arv Z h t kb .byte (24 : Int32) (own_utf cs) (.int (0 : Int32))
def own_Str (Z : State) (h : Heap) (x : Addr) (cs : List Int32) : Prop := ∃ (t : Addr) (kb : ClassId), Exa Z h x "java/lang/String" ∧ Fld Z h x "java/lang/String" "value" "[B" (.ref t) ∧ ((Fld Z h x "java/lang/String" "coder" "B" (.int (0 : Int32)) ∧ Arv Z h t kb .byte (12 : Int32) (own_lat cs) (.int (0 : Int32)) ∧ ∀ c ∈ cs, ¬ (255 : Int32) < c) ∨ (Fld Z h x "java/lang/String" "coder" "B" (.int (1 : Int32)) ∧ Arv Z h t kb .byte (24 : Int32) (own_utf cs) (.int (0 : Int32))))
theorem own_str_exa {Z : State} {h : Heap} {x : Addr} {cs : List Int32} (q : own_Str Z h x cs) : Exa Z h x "java/lang/String" := by
  obtain ⟨_, _, q, -⟩ := q
  exact q
theorem own_bnd {j : Int32} (h : 0 ≤ j.toInt ∧ j.toInt < 12) : (¬ j < (0 : Int32)) ∧ (j < (12 : Int32)) ∧ (¬ (j <<< ((1 : Int32) &&& 31)) < (0 : Int32)) ∧ ((j <<< ((1 : Int32) &&& 31)) < (24 : Int32)) ∧ (¬ ((j <<< ((1 : Int32) &&& 31)) + (1 : Int32)) < (0 : Int32)) ∧ (((j <<< ((1 : Int32) &&& 31)) + (1 : Int32)) < (24 : Int32)) ∧ ¬ j = (12 : Int32) := by
  have e := own_shl1 (j := j) (by omega)
  have z0 : (0 : Int32).toInt = 0 := by decide
  have z1 : (12 : Int32).toInt = 12 := by decide
  have z2 : (24 : Int32).toInt = 24 := by decide
  refine ⟨?_, ?_, ?_, ?_, ?_, ?_, fun q => ?_⟩
  all_goals first | (rw [Int32.lt_iff_toInt_lt]; omega) | (rw [q, z1] at h; omega)
theorem own_all_12 {P : Int32 → Prop} {c0 c1 c2 c3 c4 c5 c6 c7 c8 c9 c10 c11 : Int32} (h0 : P c0) (h1 : P c1) (h2 : P c2) (h3 : P c3) (h4 : P c4) (h5 : P c5) (h6 : P c6) (h7 : P c7) (h8 : P c8) (h9 : P c9) (h10 : P c10) (h11 : P c11) : ∀ c ∈ [c0, c1, c2, c3, c4, c5, c6, c7, c8, c9, c10, c11], P c := by
  intro c hc
  simp only [List.mem_cons, List.not_mem_nil, or_false] at hc
  rcases hc with rfl | rfl | rfl | rfl | rfl | rfl | rfl | rfl | rfl | rfl | rfl | rfl
  · exact h0
  · exact h1
  · exact h2
  · exact h3
  · exact h4
  · exact h5
  · exact h6
  · exact h7
  · exact h8
  · exact h9
  · exact h10
  · exact h11
theorem ef_6_RIRII (m : MethodId) (x0 : Addr) (x1 : Int32) (x2 : Addr) (x3 : Int32) (x4 : Int32)  : entryFrame m #[(.ref x0), (.int x1), (.ref x2), (.int x3), (.int x4)] 7 = mkF m 0 #[.val (.ref x0), .val (.int x1), .val (.ref x2), .val (.int x3), .val (.int x4), .unset, .unset] [] := by first | (simp [entryFrame, mkF, argsToLocals, Value.category]; done) | rfl
theorem pn_java_lang_StringUTF16 : plainName "java/lang/StringUTF16" = true := by first | (simp [plainName, overriddenIn]; done) | decide +kernel
theorem d6_0 : decode jdk_52_method_21_code 0 = .ok (.iconst 0, 1) := by decide +kernel
theorem d6_1 : decode jdk_52_method_21_code 1 = .ok (.istore 5, 2) := by decide +kernel
theorem d6_3 : decode jdk_52_method_21_code 3 = .ok (.iload 5, 2) := by decide +kernel
theorem d6_5 : decode jdk_52_method_21_code 5 = .ok (.iload 4, 2) := by decide +kernel
theorem d6_7 : decode jdk_52_method_21_code 7 = .ok (.if_icmp .ge 37, 3) := by decide +kernel
theorem d6_10 : decode jdk_52_method_21_code 10 = .ok (.aload_n 0, 1) := by decide +kernel
theorem d6_11 : decode jdk_52_method_21_code 11 = .ok (.iload_n 1, 1) := by decide +kernel
theorem d6_12 : decode jdk_52_method_21_code 12 = .ok (.caload, 1) := by decide +kernel
theorem d6_13 : decode jdk_52_method_21_code 13 = .ok (.istore 6, 2) := by decide +kernel
theorem d6_15 : decode jdk_52_method_21_code 15 = .ok (.iload 6, 2) := by decide +kernel
theorem d6_17 : decode jdk_52_method_21_code 17 = .ok (.sipush 255, 3) := by decide +kernel
theorem d6_20 : decode jdk_52_method_21_code 20 = .ok (.if_icmp .le 6, 3) := by decide +kernel
theorem d6_23 : decode jdk_52_method_21_code 23 = .ok (.iload 5, 2) := by decide +kernel
theorem d6_25 : decode jdk_52_method_21_code 25 = .ok (.ireturn, 1) := by decide +kernel
theorem d6_26 : decode jdk_52_method_21_code 26 = .ok (.aload_n 2, 1) := by decide +kernel
theorem d6_27 : decode jdk_52_method_21_code 27 = .ok (.iload_n 3, 1) := by decide +kernel
theorem d6_28 : decode jdk_52_method_21_code 28 = .ok (.iload 6, 2) := by decide +kernel
theorem d6_30 : decode jdk_52_method_21_code 30 = .ok (.i2b, 1) := by decide +kernel
theorem d6_31 : decode jdk_52_method_21_code 31 = .ok (.bastore, 1) := by decide +kernel
theorem d6_32 : decode jdk_52_method_21_code 32 = .ok (.iinc 1 1, 3) := by decide +kernel
theorem d6_35 : decode jdk_52_method_21_code 35 = .ok (.iinc 3 1, 3) := by decide +kernel
theorem d6_38 : decode jdk_52_method_21_code 38 = .ok (.iinc 5 1, 3) := by decide +kernel
theorem d6_41 : decode jdk_52_method_21_code 41 = .ok (.goto (-38), 3) := by decide +kernel
theorem d6_44 : decode jdk_52_method_21_code 44 = .ok (.iload 4, 2) := by decide +kernel
theorem d6_46 : decode jdk_52_method_21_code 46 = .ok (.ireturn, 1) := by decide +kernel
set_option maxRecDepth 65536 in
set_option maxHeartbeats 40000000 in
theorem rm_compress5 (l : Launch) (Z : State) (a0 : Array Value) (g_COMPACT_STRINGS : Int32) (g_SIOOBE_FORMATTER : Value) (hW : own_W Z a0 g_COMPACT_STRINGS g_SIOOBE_FORMATTER) (b : Addr) (d : Addr) (kc : ClassId) (kd : ClassId) (c0 : Int32) (c1 : Int32) (c2 : Int32) (c3 : Int32) (c4 : Int32) (c5 : Int32) (c6 : Int32) (c7 : Int32) (c8 : Int32) (c9 : Int32) (c10 : Int32) (c11 : Int32) (h0 : Heap) (O0 : Old Z Z.heap.size h0) (hA : Arv Z h0 b kc .char (12 : Int32) [(.int c0), (.int c1), (.int c2), (.int c3), (.int c4), (.int c5), (.int c6), (.int c7), (.int c8), (.int c9), (.int c10), (.int c11)] (.int (0 : Int32))) (hD : Arv Z h0 d kd .byte (12 : Int32) [(.int (0 : Int32)), (.int (0 : Int32)), (.int (0 : Int32)), (.int (0 : Int32)), (.int (0 : Int32)), (.int (0 : Int32)), (.int (0 : Int32)), (.int (0 : Int32)), (.int (0 : Int32)), (.int (0 : Int32)), (.int (0 : Int32)), (.int (0 : Int32))] (.int (0 : Int32))) (hg : Z.heap.size ≤ d) (hne : b ≠ d) :
    own_Met l Z (⟨"java/lang/StringUTF16", "compress", "([CI[BII)I"⟩ : MethodName) jdk_52_method_21_code 7 (some .int) ({ frames := 0, cells := 0, slots := 0, locals := 0 } : Room) #[(.ref b), (.int (0 : Int32)), (.ref d), (.int (0 : Int32)), (.int (12 : Int32))] h0 (fun v h L => (∃ r, v = some (.int r) ∧ ((r = (12 : Int32) ∧ (∀ c ∈ [c0, c1, c2, c3, c4, c5, c6, c7, c8, c9, c10, c11], ¬ (255 : Int32) < c) ∧ Arv Z h d kd .byte (12 : Int32) (own_lat [c0, c1, c2, c3, c4, c5, c6, c7, c8, c9, c10, c11]) (.int (0 : Int32))) ∨ (0 ≤ r.toInt ∧ r.toInt < 12 ∧ (255 : Int32) < [c0, c1, c2, c3, c4, c5, c6, c7, c8, c9, c10, c11].getD r.toNatClampNeg (0 : Int32)))) ∧ Fr Z.heap.size L ∧ Keep h0 h [d]) := by
  have hW_ := hW
  obtain ⟨hw, S_g_COMPACT_STRINGS, P_g_COMPACT_STRINGS, R_g_SIOOBE_FORMATTER, S_g_SIOOBE_FORMATTER, S_g__assertionsDisabled, S_g_HI_BYTE_SHIFT, S_g_LO_BYTE_SHIFT⟩ := hW_
  refine own_met (plainFor_of_name pn_java_lang_StringUTF16) ?_
  intro p e s m below meth cc_ s₁ Φ hF X0 hx hby hml hZ hown hnm hret hlk e0
  have N0 := Fr.nil Z.heap.size
  refine own_k (T' := s₁) (g' := (mkF m 0 #[.val (.ref b), .val (.int (0 : Int32)), .val (.ref d), .val (.int (0 : Int32)), .val (.int (12 : Int32)), .unset, .unset] [])) (fun _ k_ => castTop (ef_6_RIRII m b (0 : Int32) d (0 : Int32) (12 : Int32)) k_) ?_
  refine own_k (T' := s₁) (g' := (mkF m 1 #[.val (.ref b), .val (.int (0 : Int32)), .val (.ref d), .val (.int (0 : Int32)), .val (.int (12 : Int32)), .unset, .unset] [(.int (0 : Int32))])) (fun _ k_ => XS.iconst X0.here hx rfl (hb hby d6_0) k_) ?_
  refine own_k (T' := s₁) (g' := (mkF m 3 #[.val (.ref b), .val (.int (0 : Int32)), .val (.ref d), .val (.int (0 : Int32)), .val (.int (12 : Int32)), .val (.int (0 : Int32)), .unset] [])) (fun _ k_ => XS.istore X0.here hx rfl (hb hby d6_1) rfl (l' := #[.val (.ref b), .val (.int (0 : Int32)), .val (.ref d), .val (.int (0 : Int32)), .val (.int (12 : Int32)), .val (.int (0 : Int32)), .unset]) rfl k_) ?_
  refine own_k (T' := s₁) (g' := (mkF m 5 #[.val (.ref b), .val (.int (0 : Int32)), .val (.ref d), .val (.int (0 : Int32)), .val (.int (12 : Int32)), .val (.int (0 : Int32)), .unset] [(.int (0 : Int32))])) (fun _ k_ => XS.iload X0.here hx rfl (hb hby d6_3) rfl  k_) ?_
  refine own_k (T' := s₁) (g' := (mkF m 7 #[.val (.ref b), .val (.int (0 : Int32)), .val (.ref d), .val (.int (0 : Int32)), .val (.int (12 : Int32)), .val (.int (0 : Int32)), .unset] [(.int (12 : Int32)), (.int (0 : Int32))])) (fun _ k_ => XS.iload X0.here hx rfl (hb hby d6_5) rfl  k_) ?_
  refine own_k (T' := s₁) (g' := (mkF m 10 #[.val (.ref b), .val (.int (0 : Int32)), .val (.ref d), .val (.int (0 : Int32)), .val (.int (12 : Int32)), .val (.int (0 : Int32)), .unset] [])) (fun _ k_ => XS.icmpNo X0.here hx rfl (hb hby d6_7) rfl ((tlt (by decide : ((0 : Int32) < (12 : Int32)))).2.1) k_) ?_
  refine own_k (T' := s₁) (g' := (mkF m 11 #[.val (.ref b), .val (.int (0 : Int32)), .val (.ref d), .val (.int (0 : Int32)), .val (.int (12 : Int32)), .val (.int (0 : Int32)), .unset] [(.ref b)])) (fun _ k_ => XS.aloadN X0.here hx rfl (hb hby d6_10) rfl rfl  k_) ?_
  refine own_k (T' := s₁) (g' := (mkF m 12 #[.val (.ref b), .val (.int (0 : Int32)), .val (.ref d), .val (.int (0 : Int32)), .val (.int (12 : Int32)), .val (.int (0 : Int32)), .unset] [(.int (0 : Int32)), (.ref b)])) (fun _ k_ => XS.iloadN X0.here hx rfl (hb hby d6_11) rfl  k_) ?_
  refine own_caload X0 hx hZ e0 hA (j := (0 : Int32)) ⟨by decide, by decide⟩ (v := (.int c0)) rfl (hb hby d6_12) ?_
  show own_Go p e below Φ s₁ (mkF m 13 #[.val (.ref b), .val (.int (0 : Int32)), .val (.ref d), .val (.int (0 : Int32)), .val (.int (12 : Int32)), .val (.int (0 : Int32)), .unset] [(.int c0)])
  refine own_k (T' := s₁) (g' := (mkF m 15 #[.val (.ref b), .val (.int (0 : Int32)), .val (.ref d), .val (.int (0 : Int32)), .val (.int (12 : Int32)), .val (.int (0 : Int32)), .val (.int c0)] [])) (fun _ k_ => XS.istore X0.here hx rfl (hb hby d6_13) rfl (l' := #[.val (.ref b), .val (.int (0 : Int32)), .val (.ref d), .val (.int (0 : Int32)), .val (.int (12 : Int32)), .val (.int (0 : Int32)), .val (.int c0)]) rfl k_) ?_
  refine own_k (T' := s₁) (g' := (mkF m 17 #[.val (.ref b), .val (.int (0 : Int32)), .val (.ref d), .val (.int (0 : Int32)), .val (.int (12 : Int32)), .val (.int (0 : Int32)), .val (.int c0)] [(.int c0)])) (fun _ k_ => XS.iload X0.here hx rfl (hb hby d6_15) rfl  k_) ?_
  refine own_k (T' := s₁) (g' := (mkF m 20 #[.val (.ref b), .val (.int (0 : Int32)), .val (.ref d), .val (.int (0 : Int32)), .val (.int (12 : Int32)), .val (.int (0 : Int32)), .val (.int c0)] [(.int (255 : Int32)), (.int c0)])) (fun _ k_ => XS.sipush X0.here hx rfl (hb hby d6_17) k_) ?_
  by_cases hc1 : (255 : Int32) < c0
  · refine own_k (T' := s₁) (g' := (mkF m 23 #[.val (.ref b), .val (.int (0 : Int32)), .val (.ref d), .val (.int (0 : Int32)), .val (.int (12 : Int32)), .val (.int (0 : Int32)), .val (.int c0)] [])) (fun _ k_ => XS.icmpNo X0.here hx rfl (hb hby d6_20) rfl ((tlt hc1).2.2.2) k_) ?_
    refine own_k (T' := s₁) (g' := (mkF m 25 #[.val (.ref b), .val (.int (0 : Int32)), .val (.ref d), .val (.int (0 : Int32)), .val (.int (12 : Int32)), .val (.int (0 : Int32)), .val (.int c0)] [(.int (0 : Int32))])) (fun _ k_ => XS.iload X0.here hx rfl (hb hby d6_23) rfl  k_) ?_
    have kp0 : Keep h0 h0 [d] := Keep.refl h0 [d]
    exact own_retI X0 hx hret hlk (hb hby d6_25) hF (by rw [e0]; exact ⟨⟨(0 : Int32), rfl, Or.inr ⟨by decide, by decide, hc1⟩⟩, N0, kp0⟩) (by decide) (by decide)
  · refine own_k (T' := s₁) (g' := (mkF m 26 #[.val (.ref b), .val (.int (0 : Int32)), .val (.ref d), .val (.int (0 : Int32)), .val (.int (12 : Int32)), .val (.int (0 : Int32)), .val (.int c0)] [])) (fun _ k_ => XS.icmpYes X0.here hx rfl (pc0 := 20) (pc' := 26) rfl (hb hby d6_20) rfl ((flt hc1).2.2.2) (by decide) (by decide) k_) ?_
    refine own_k (T' := s₁) (g' := (mkF m 27 #[.val (.ref b), .val (.int (0 : Int32)), .val (.ref d), .val (.int (0 : Int32)), .val (.int (12 : Int32)), .val (.int (0 : Int32)), .val (.int c0)] [(.ref d)])) (fun _ k_ => XS.aloadN X0.here hx rfl (hb hby d6_26) rfl rfl  k_) ?_
    refine own_k (T' := s₁) (g' := (mkF m 28 #[.val (.ref b), .val (.int (0 : Int32)), .val (.ref d), .val (.int (0 : Int32)), .val (.int (12 : Int32)), .val (.int (0 : Int32)), .val (.int c0)] [(.int (0 : Int32)), (.ref d)])) (fun _ k_ => XS.iloadN X0.here hx rfl (hb hby d6_27) rfl  k_) ?_
    refine own_k (T' := s₁) (g' := (mkF m 30 #[.val (.ref b), .val (.int (0 : Int32)), .val (.ref d), .val (.int (0 : Int32)), .val (.int (12 : Int32)), .val (.int (0 : Int32)), .val (.int c0)] [(.int c0), (.int (0 : Int32)), (.ref d)])) (fun _ k_ => XS.iload X0.here hx rfl (hb hby d6_28) rfl  k_) ?_
    refine own_k (T' := s₁) (g' := (mkF m 31 #[.val (.ref b), .val (.int (0 : Int32)), .val (.ref d), .val (.int (0 : Int32)), .val (.int (12 : Int32)), .val (.int (0 : Int32)), .val (.int c0)] [(.int (c0.toInt8.toInt32)), (.int (0 : Int32)), (.ref d)])) (fun _ k_ => XS.i2b X0.here hx rfl (hb hby d6_30) rfl k_) ?_
    obtain ⟨T2, h2, X2, e2, W2, V2, st2⟩ := own_bastore (pc := 31) (Ls := #[.val (.ref b), .val (.int (0 : Int32)), .val (.ref d), .val (.int (0 : Int32)), .val (.int (12 : Int32)), .val (.int (0 : Int32)), .val (.int c0)]) (rest := []) X0 hx hZ e0 hD (j := (0 : Int32)) (x := (c0.toInt8.toInt32)) ⟨by decide, by decide⟩ 0 rfl (Nat.le_of_ble_eq_true rfl) (hb hby d6_31)
    have V2 : Arv Z h2 d kd .byte (12 : Int32) [(.int (nar .byte (c0.toInt8.toInt32))), (.int (0 : Int32)), (.int (0 : Int32)), (.int (0 : Int32)), (.int (0 : Int32)), (.int (0 : Int32)), (.int (0 : Int32)), (.int (0 : Int32)), (.int (0 : Int32)), (.int (0 : Int32)), (.int (0 : Int32)), (.int (0 : Int32))] (.int (0 : Int32)) := V2
    rw [show nar .byte (c0.toInt8.toInt32) = (c0.toInt8.toInt32) from own_nar_byte _] at V2
    have O2' := O0.wr W2 hg
    have N2 := Fr.snoc X2 N0 hg
    refine own_k (T' := T2) (g' := (mkF m 32 #[.val (.ref b), .val (.int (0 : Int32)), .val (.ref d), .val (.int (0 : Int32)), .val (.int (12 : Int32)), .val (.int (0 : Int32)), .val (.int c0)] [])) st2 ?_
    refine own_k (T' := T2) (g' := (mkF m 35 #[.val (.ref b), .val (.int ((0 : Int32) + (1 : Int32))), .val (.ref d), .val (.int (0 : Int32)), .val (.int (12 : Int32)), .val (.int (0 : Int32)), .val (.int c0)] [])) (fun _ k_ => XS.iinc X2.here hx rfl (hb hby d6_32) rfl (l' := #[.val (.ref b), .val (.int ((0 : Int32) + (1 : Int32))), .val (.ref d), .val (.int (0 : Int32)), .val (.int (12 : Int32)), .val (.int (0 : Int32)), .val (.int c0)]) rfl k_) ?_
    rw [show ((0 : Int32) + (1 : Int32)) = (1 : Int32) from by decide]
    refine own_k (T' := T2) (g' := (mkF m 38 #[.val (.ref b), .val (.int (1 : Int32)), .val (.ref d), .val (.int ((0 : Int32) + (1 : Int32))), .val (.int (12 : Int32)), .val (.int (0 : Int32)), .val (.int c0)] [])) (fun _ k_ => XS.iinc X2.here hx rfl (hb hby d6_35) rfl (l' := #[.val (.ref b), .val (.int (1 : Int32)), .val (.ref d), .val (.int ((0 : Int32) + (1 : Int32))), .val (.int (12 : Int32)), .val (.int (0 : Int32)), .val (.int c0)]) rfl k_) ?_
    rw [show ((0 : Int32) + (1 : Int32)) = (1 : Int32) from by decide]
    refine own_k (T' := T2) (g' := (mkF m 41 #[.val (.ref b), .val (.int (1 : Int32)), .val (.ref d), .val (.int (1 : Int32)), .val (.int (12 : Int32)), .val (.int ((0 : Int32) + (1 : Int32))), .val (.int c0)] [])) (fun _ k_ => XS.iinc X2.here hx rfl (hb hby d6_38) rfl (l' := #[.val (.ref b), .val (.int (1 : Int32)), .val (.ref d), .val (.int (1 : Int32)), .val (.int (12 : Int32)), .val (.int ((0 : Int32) + (1 : Int32))), .val (.int c0)]) rfl k_) ?_
    rw [show ((0 : Int32) + (1 : Int32)) = (1 : Int32) from by decide]
    refine own_k (T' := T2) (g' := (mkF m 3 #[.val (.ref b), .val (.int (1 : Int32)), .val (.ref d), .val (.int (1 : Int32)), .val (.int (12 : Int32)), .val (.int (1 : Int32)), .val (.int c0)] [])) (fun _ k_ => XS.goto X2.here hx rfl (pc0 := 41) (pc' := 3) rfl (hb hby d6_41) (by decide) (by decide) k_) ?_
    refine own_k (T' := T2) (g' := (mkF m 5 #[.val (.ref b), .val (.int (1 : Int32)), .val (.ref d), .val (.int (1 : Int32)), .val (.int (12 : Int32)), .val (.int (1 : Int32)), .val (.int c0)] [(.int (1 : Int32))])) (fun _ k_ => XS.iload X2.here hx rfl (hb hby d6_3) rfl  k_) ?_
    refine own_k (T' := T2) (g' := (mkF m 7 #[.val (.ref b), .val (.int (1 : Int32)), .val (.ref d), .val (.int (1 : Int32)), .val (.int (12 : Int32)), .val (.int (1 : Int32)), .val (.int c0)] [(.int (12 : Int32)), (.int (1 : Int32))])) (fun _ k_ => XS.iload X2.here hx rfl (hb hby d6_5) rfl  k_) ?_
    refine own_k (T' := T2) (g' := (mkF m 10 #[.val (.ref b), .val (.int (1 : Int32)), .val (.ref d), .val (.int (1 : Int32)), .val (.int (12 : Int32)), .val (.int (1 : Int32)), .val (.int c0)] [])) (fun _ k_ => XS.icmpNo X2.here hx rfl (hb hby d6_7) rfl ((tlt (by decide : ((1 : Int32) < (12 : Int32)))).2.1) k_) ?_
    refine own_k (T' := T2) (g' := (mkF m 11 #[.val (.ref b), .val (.int (1 : Int32)), .val (.ref d), .val (.int (1 : Int32)), .val (.int (12 : Int32)), .val (.int (1 : Int32)), .val (.int c0)] [(.ref b)])) (fun _ k_ => XS.aloadN X2.here hx rfl (hb hby d6_10) rfl rfl  k_) ?_
    refine own_k (T' := T2) (g' := (mkF m 12 #[.val (.ref b), .val (.int (1 : Int32)), .val (.ref d), .val (.int (1 : Int32)), .val (.int (12 : Int32)), .val (.int (1 : Int32)), .val (.int c0)] [(.int (1 : Int32)), (.ref b)])) (fun _ k_ => XS.iloadN X2.here hx rfl (hb hby d6_11) rfl  k_) ?_
    refine own_caload X2 hx hZ e2 (hA.other W2 hne) (j := (1 : Int32)) ⟨by decide, by decide⟩ (v := (.int c1)) rfl (hb hby d6_12) ?_
    show own_Go p e below Φ T2 (mkF m 13 #[.val (.ref b), .val (.int (1 : Int32)), .val (.ref d), .val (.int (1 : Int32)), .val (.int (12 : Int32)), .val (.int (1 : Int32)), .val (.int c0)] [(.int c1)])
    refine own_k (T' := T2) (g' := (mkF m 15 #[.val (.ref b), .val (.int (1 : Int32)), .val (.ref d), .val (.int (1 : Int32)), .val (.int (12 : Int32)), .val (.int (1 : Int32)), .val (.int c1)] [])) (fun _ k_ => XS.istore X2.here hx rfl (hb hby d6_13) rfl (l' := #[.val (.ref b), .val (.int (1 : Int32)), .val (.ref d), .val (.int (1 : Int32)), .val (.int (12 : Int32)), .val (.int (1 : Int32)), .val (.int c1)]) rfl k_) ?_
    refine own_k (T' := T2) (g' := (mkF m 17 #[.val (.ref b), .val (.int (1 : Int32)), .val (.ref d), .val (.int (1 : Int32)), .val (.int (12 : Int32)), .val (.int (1 : Int32)), .val (.int c1)] [(.int c1)])) (fun _ k_ => XS.iload X2.here hx rfl (hb hby d6_15) rfl  k_) ?_
    refine own_k (T' := T2) (g' := (mkF m 20 #[.val (.ref b), .val (.int (1 : Int32)), .val (.ref d), .val (.int (1 : Int32)), .val (.int (12 : Int32)), .val (.int (1 : Int32)), .val (.int c1)] [(.int (255 : Int32)), (.int c1)])) (fun _ k_ => XS.sipush X2.here hx rfl (hb hby d6_17) k_) ?_
    by_cases hc3 : (255 : Int32) < c1
    · refine own_k (T' := T2) (g' := (mkF m 23 #[.val (.ref b), .val (.int (1 : Int32)), .val (.ref d), .val (.int (1 : Int32)), .val (.int (12 : Int32)), .val (.int (1 : Int32)), .val (.int c1)] [])) (fun _ k_ => XS.icmpNo X2.here hx rfl (hb hby d6_20) rfl ((tlt hc3).2.2.2) k_) ?_
      refine own_k (T' := T2) (g' := (mkF m 25 #[.val (.ref b), .val (.int (1 : Int32)), .val (.ref d), .val (.int (1 : Int32)), .val (.int (12 : Int32)), .val (.int (1 : Int32)), .val (.int c1)] [(.int (1 : Int32))])) (fun _ k_ => XS.iload X2.here hx rfl (hb hby d6_23) rfl  k_) ?_
      have kp0 : Keep h0 h0 [d] := Keep.refl h0 [d]
      have kp1 : Keep h0 h2 [d] := kp0.wr W2 (Or.inl (List.mem_of_getElem? (i := 0) rfl))
      exact own_retI X2 hx hret hlk (hb hby d6_25) hF (by rw [e2]; exact ⟨⟨(1 : Int32), rfl, Or.inr ⟨by decide, by decide, hc3⟩⟩, N2, kp1⟩) (by decide) (by decide)
    · refine own_k (T' := T2) (g' := (mkF m 26 #[.val (.ref b), .val (.int (1 : Int32)), .val (.ref d), .val (.int (1 : Int32)), .val (.int (12 : Int32)), .val (.int (1 : Int32)), .val (.int c1)] [])) (fun _ k_ => XS.icmpYes X2.here hx rfl (pc0 := 20) (pc' := 26) rfl (hb hby d6_20) rfl ((flt hc3).2.2.2) (by decide) (by decide) k_) ?_
      refine own_k (T' := T2) (g' := (mkF m 27 #[.val (.ref b), .val (.int (1 : Int32)), .val (.ref d), .val (.int (1 : Int32)), .val (.int (12 : Int32)), .val (.int (1 : Int32)), .val (.int c1)] [(.ref d)])) (fun _ k_ => XS.aloadN X2.here hx rfl (hb hby d6_26) rfl rfl  k_) ?_
      refine own_k (T' := T2) (g' := (mkF m 28 #[.val (.ref b), .val (.int (1 : Int32)), .val (.ref d), .val (.int (1 : Int32)), .val (.int (12 : Int32)), .val (.int (1 : Int32)), .val (.int c1)] [(.int (1 : Int32)), (.ref d)])) (fun _ k_ => XS.iloadN X2.here hx rfl (hb hby d6_27) rfl  k_) ?_
      refine own_k (T' := T2) (g' := (mkF m 30 #[.val (.ref b), .val (.int (1 : Int32)), .val (.ref d), .val (.int (1 : Int32)), .val (.int (12 : Int32)), .val (.int (1 : Int32)), .val (.int c1)] [(.int c1), (.int (1 : Int32)), (.ref d)])) (fun _ k_ => XS.iload X2.here hx rfl (hb hby d6_28) rfl  k_) ?_
      refine own_k (T' := T2) (g' := (mkF m 31 #[.val (.ref b), .val (.int (1 : Int32)), .val (.ref d), .val (.int (1 : Int32)), .val (.int (12 : Int32)), .val (.int (1 : Int32)), .val (.int c1)] [(.int (c1.toInt8.toInt32)), (.int (1 : Int32)), (.ref d)])) (fun _ k_ => XS.i2b X2.here hx rfl (hb hby d6_30) rfl k_) ?_
      obtain ⟨T4, h4, X4, e4, W4, V4, st4⟩ := own_bastore (pc := 31) (Ls := #[.val (.ref b), .val (.int (1 : Int32)), .val (.ref d), .val (.int (1 : Int32)), .val (.int (12 : Int32)), .val (.int (1 : Int32)), .val (.int c1)]) (rest := []) X2 hx hZ e2 V2 (j := (1 : Int32)) (x := (c1.toInt8.toInt32)) ⟨by decide, by decide⟩ 1 rfl (Nat.le_of_ble_eq_true rfl) (hb hby d6_31)
      have V4 : Arv Z h4 d kd .byte (12 : Int32) [(.int (c0.toInt8.toInt32)), (.int (nar .byte (c1.toInt8.toInt32))), (.int (0 : Int32)), (.int (0 : Int32)), (.int (0 : Int32)), (.int (0 : Int32)), (.int (0 : Int32)), (.int (0 : Int32)), (.int (0 : Int32)), (.int (0 : Int32)), (.int (0 : Int32)), (.int (0 : Int32))] (.int (0 : Int32)) := V4
      rw [show nar .byte (c1.toInt8.toInt32) = (c1.toInt8.toInt32) from own_nar_byte _] at V4
      have O4' := O2'.wr W4 hg
      have N4 := Fr.snoc X4 N2 hg
      refine own_k (T' := T4) (g' := (mkF m 32 #[.val (.ref b), .val (.int (1 : Int32)), .val (.ref d), .val (.int (1 : Int32)), .val (.int (12 : Int32)), .val (.int (1 : Int32)), .val (.int c1)] [])) st4 ?_
      refine own_k (T' := T4) (g' := (mkF m 35 #[.val (.ref b), .val (.int ((1 : Int32) + (1 : Int32))), .val (.ref d), .val (.int (1 : Int32)), .val (.int (12 : Int32)), .val (.int (1 : Int32)), .val (.int c1)] [])) (fun _ k_ => XS.iinc X4.here hx rfl (hb hby d6_32) rfl (l' := #[.val (.ref b), .val (.int ((1 : Int32) + (1 : Int32))), .val (.ref d), .val (.int (1 : Int32)), .val (.int (12 : Int32)), .val (.int (1 : Int32)), .val (.int c1)]) rfl k_) ?_
      rw [show ((1 : Int32) + (1 : Int32)) = (2 : Int32) from by decide]
      refine own_k (T' := T4) (g' := (mkF m 38 #[.val (.ref b), .val (.int (2 : Int32)), .val (.ref d), .val (.int ((1 : Int32) + (1 : Int32))), .val (.int (12 : Int32)), .val (.int (1 : Int32)), .val (.int c1)] [])) (fun _ k_ => XS.iinc X4.here hx rfl (hb hby d6_35) rfl (l' := #[.val (.ref b), .val (.int (2 : Int32)), .val (.ref d), .val (.int ((1 : Int32) + (1 : Int32))), .val (.int (12 : Int32)), .val (.int (1 : Int32)), .val (.int c1)]) rfl k_) ?_
      rw [show ((1 : Int32) + (1 : Int32)) = (2 : Int32) from by decide]
      refine own_k (T' := T4) (g' := (mkF m 41 #[.val (.ref b), .val (.int (2 : Int32)), .val (.ref d), .val (.int (2 : Int32)), .val (.int (12 : Int32)), .val (.int ((1 : Int32) + (1 : Int32))), .val (.int c1)] [])) (fun _ k_ => XS.iinc X4.here hx rfl (hb hby d6_38) rfl (l' := #[.val (.ref b), .val (.int (2 : Int32)), .val (.ref d), .val (.int (2 : Int32)), .val (.int (12 : Int32)), .val (.int ((1 : Int32) + (1 : Int32))), .val (.int c1)]) rfl k_) ?_
      rw [show ((1 : Int32) + (1 : Int32)) = (2 : Int32) from by decide]
      refine own_k (T' := T4) (g' := (mkF m 3 #[.val (.ref b), .val (.int (2 : Int32)), .val (.ref d), .val (.int (2 : Int32)), .val (.int (12 : Int32)), .val (.int (2 : Int32)), .val (.int c1)] [])) (fun _ k_ => XS.goto X4.here hx rfl (pc0 := 41) (pc' := 3) rfl (hb hby d6_41) (by decide) (by decide) k_) ?_
      refine own_k (T' := T4) (g' := (mkF m 5 #[.val (.ref b), .val (.int (2 : Int32)), .val (.ref d), .val (.int (2 : Int32)), .val (.int (12 : Int32)), .val (.int (2 : Int32)), .val (.int c1)] [(.int (2 : Int32))])) (fun _ k_ => XS.iload X4.here hx rfl (hb hby d6_3) rfl  k_) ?_
      refine own_k (T' := T4) (g' := (mkF m 7 #[.val (.ref b), .val (.int (2 : Int32)), .val (.ref d), .val (.int (2 : Int32)), .val (.int (12 : Int32)), .val (.int (2 : Int32)), .val (.int c1)] [(.int (12 : Int32)), (.int (2 : Int32))])) (fun _ k_ => XS.iload X4.here hx rfl (hb hby d6_5) rfl  k_) ?_
      refine own_k (T' := T4) (g' := (mkF m 10 #[.val (.ref b), .val (.int (2 : Int32)), .val (.ref d), .val (.int (2 : Int32)), .val (.int (12 : Int32)), .val (.int (2 : Int32)), .val (.int c1)] [])) (fun _ k_ => XS.icmpNo X4.here hx rfl (hb hby d6_7) rfl ((tlt (by decide : ((2 : Int32) < (12 : Int32)))).2.1) k_) ?_
      refine own_k (T' := T4) (g' := (mkF m 11 #[.val (.ref b), .val (.int (2 : Int32)), .val (.ref d), .val (.int (2 : Int32)), .val (.int (12 : Int32)), .val (.int (2 : Int32)), .val (.int c1)] [(.ref b)])) (fun _ k_ => XS.aloadN X4.here hx rfl (hb hby d6_10) rfl rfl  k_) ?_
      refine own_k (T' := T4) (g' := (mkF m 12 #[.val (.ref b), .val (.int (2 : Int32)), .val (.ref d), .val (.int (2 : Int32)), .val (.int (12 : Int32)), .val (.int (2 : Int32)), .val (.int c1)] [(.int (2 : Int32)), (.ref b)])) (fun _ k_ => XS.iloadN X4.here hx rfl (hb hby d6_11) rfl  k_) ?_
      refine own_caload X4 hx hZ e4 ((hA.other W2 hne).other W4 hne) (j := (2 : Int32)) ⟨by decide, by decide⟩ (v := (.int c2)) rfl (hb hby d6_12) ?_
      show own_Go p e below Φ T4 (mkF m 13 #[.val (.ref b), .val (.int (2 : Int32)), .val (.ref d), .val (.int (2 : Int32)), .val (.int (12 : Int32)), .val (.int (2 : Int32)), .val (.int c1)] [(.int c2)])
      refine own_k (T' := T4) (g' := (mkF m 15 #[.val (.ref b), .val (.int (2 : Int32)), .val (.ref d), .val (.int (2 : Int32)), .val (.int (12 : Int32)), .val (.int (2 : Int32)), .val (.int c2)] [])) (fun _ k_ => XS.istore X4.here hx rfl (hb hby d6_13) rfl (l' := #[.val (.ref b), .val (.int (2 : Int32)), .val (.ref d), .val (.int (2 : Int32)), .val (.int (12 : Int32)), .val (.int (2 : Int32)), .val (.int c2)]) rfl k_) ?_
      refine own_k (T' := T4) (g' := (mkF m 17 #[.val (.ref b), .val (.int (2 : Int32)), .val (.ref d), .val (.int (2 : Int32)), .val (.int (12 : Int32)), .val (.int (2 : Int32)), .val (.int c2)] [(.int c2)])) (fun _ k_ => XS.iload X4.here hx rfl (hb hby d6_15) rfl  k_) ?_
      refine own_k (T' := T4) (g' := (mkF m 20 #[.val (.ref b), .val (.int (2 : Int32)), .val (.ref d), .val (.int (2 : Int32)), .val (.int (12 : Int32)), .val (.int (2 : Int32)), .val (.int c2)] [(.int (255 : Int32)), (.int c2)])) (fun _ k_ => XS.sipush X4.here hx rfl (hb hby d6_17) k_) ?_
      by_cases hc5 : (255 : Int32) < c2
      · refine own_k (T' := T4) (g' := (mkF m 23 #[.val (.ref b), .val (.int (2 : Int32)), .val (.ref d), .val (.int (2 : Int32)), .val (.int (12 : Int32)), .val (.int (2 : Int32)), .val (.int c2)] [])) (fun _ k_ => XS.icmpNo X4.here hx rfl (hb hby d6_20) rfl ((tlt hc5).2.2.2) k_) ?_
        refine own_k (T' := T4) (g' := (mkF m 25 #[.val (.ref b), .val (.int (2 : Int32)), .val (.ref d), .val (.int (2 : Int32)), .val (.int (12 : Int32)), .val (.int (2 : Int32)), .val (.int c2)] [(.int (2 : Int32))])) (fun _ k_ => XS.iload X4.here hx rfl (hb hby d6_23) rfl  k_) ?_
        have kp0 : Keep h0 h0 [d] := Keep.refl h0 [d]
        have kp1 : Keep h0 h2 [d] := kp0.wr W2 (Or.inl (List.mem_of_getElem? (i := 0) rfl))
        have kp2 : Keep h0 h4 [d] := kp1.wr W4 (Or.inl (List.mem_of_getElem? (i := 0) rfl))
        exact own_retI X4 hx hret hlk (hb hby d6_25) hF (by rw [e4]; exact ⟨⟨(2 : Int32), rfl, Or.inr ⟨by decide, by decide, hc5⟩⟩, N4, kp2⟩) (by decide) (by decide)
      · refine own_k (T' := T4) (g' := (mkF m 26 #[.val (.ref b), .val (.int (2 : Int32)), .val (.ref d), .val (.int (2 : Int32)), .val (.int (12 : Int32)), .val (.int (2 : Int32)), .val (.int c2)] [])) (fun _ k_ => XS.icmpYes X4.here hx rfl (pc0 := 20) (pc' := 26) rfl (hb hby d6_20) rfl ((flt hc5).2.2.2) (by decide) (by decide) k_) ?_
        refine own_k (T' := T4) (g' := (mkF m 27 #[.val (.ref b), .val (.int (2 : Int32)), .val (.ref d), .val (.int (2 : Int32)), .val (.int (12 : Int32)), .val (.int (2 : Int32)), .val (.int c2)] [(.ref d)])) (fun _ k_ => XS.aloadN X4.here hx rfl (hb hby d6_26) rfl rfl  k_) ?_
        refine own_k (T' := T4) (g' := (mkF m 28 #[.val (.ref b), .val (.int (2 : Int32)), .val (.ref d), .val (.int (2 : Int32)), .val (.int (12 : Int32)), .val (.int (2 : Int32)), .val (.int c2)] [(.int (2 : Int32)), (.ref d)])) (fun _ k_ => XS.iloadN X4.here hx rfl (hb hby d6_27) rfl  k_) ?_
        refine own_k (T' := T4) (g' := (mkF m 30 #[.val (.ref b), .val (.int (2 : Int32)), .val (.ref d), .val (.int (2 : Int32)), .val (.int (12 : Int32)), .val (.int (2 : Int32)), .val (.int c2)] [(.int c2), (.int (2 : Int32)), (.ref d)])) (fun _ k_ => XS.iload X4.here hx rfl (hb hby d6_28) rfl  k_) ?_
        refine own_k (T' := T4) (g' := (mkF m 31 #[.val (.ref b), .val (.int (2 : Int32)), .val (.ref d), .val (.int (2 : Int32)), .val (.int (12 : Int32)), .val (.int (2 : Int32)), .val (.int c2)] [(.int (c2.toInt8.toInt32)), (.int (2 : Int32)), (.ref d)])) (fun _ k_ => XS.i2b X4.here hx rfl (hb hby d6_30) rfl k_) ?_
        obtain ⟨T6, h6, X6, e6, W6, V6, st6⟩ := own_bastore (pc := 31) (Ls := #[.val (.ref b), .val (.int (2 : Int32)), .val (.ref d), .val (.int (2 : Int32)), .val (.int (12 : Int32)), .val (.int (2 : Int32)), .val (.int c2)]) (rest := []) X4 hx hZ e4 V4 (j := (2 : Int32)) (x := (c2.toInt8.toInt32)) ⟨by decide, by decide⟩ 2 rfl (Nat.le_of_ble_eq_true rfl) (hb hby d6_31)
        have V6 : Arv Z h6 d kd .byte (12 : Int32) [(.int (c0.toInt8.toInt32)), (.int (c1.toInt8.toInt32)), (.int (nar .byte (c2.toInt8.toInt32))), (.int (0 : Int32)), (.int (0 : Int32)), (.int (0 : Int32)), (.int (0 : Int32)), (.int (0 : Int32)), (.int (0 : Int32)), (.int (0 : Int32)), (.int (0 : Int32)), (.int (0 : Int32))] (.int (0 : Int32)) := V6
        rw [show nar .byte (c2.toInt8.toInt32) = (c2.toInt8.toInt32) from own_nar_byte _] at V6
        have O6' := O4'.wr W6 hg
        have N6 := Fr.snoc X6 N4 hg
        refine own_k (T' := T6) (g' := (mkF m 32 #[.val (.ref b), .val (.int (2 : Int32)), .val (.ref d), .val (.int (2 : Int32)), .val (.int (12 : Int32)), .val (.int (2 : Int32)), .val (.int c2)] [])) st6 ?_
        refine own_k (T' := T6) (g' := (mkF m 35 #[.val (.ref b), .val (.int ((2 : Int32) + (1 : Int32))), .val (.ref d), .val (.int (2 : Int32)), .val (.int (12 : Int32)), .val (.int (2 : Int32)), .val (.int c2)] [])) (fun _ k_ => XS.iinc X6.here hx rfl (hb hby d6_32) rfl (l' := #[.val (.ref b), .val (.int ((2 : Int32) + (1 : Int32))), .val (.ref d), .val (.int (2 : Int32)), .val (.int (12 : Int32)), .val (.int (2 : Int32)), .val (.int c2)]) rfl k_) ?_
        rw [show ((2 : Int32) + (1 : Int32)) = (3 : Int32) from by decide]
        refine own_k (T' := T6) (g' := (mkF m 38 #[.val (.ref b), .val (.int (3 : Int32)), .val (.ref d), .val (.int ((2 : Int32) + (1 : Int32))), .val (.int (12 : Int32)), .val (.int (2 : Int32)), .val (.int c2)] [])) (fun _ k_ => XS.iinc X6.here hx rfl (hb hby d6_35) rfl (l' := #[.val (.ref b), .val (.int (3 : Int32)), .val (.ref d), .val (.int ((2 : Int32) + (1 : Int32))), .val (.int (12 : Int32)), .val (.int (2 : Int32)), .val (.int c2)]) rfl k_) ?_
        rw [show ((2 : Int32) + (1 : Int32)) = (3 : Int32) from by decide]
        refine own_k (T' := T6) (g' := (mkF m 41 #[.val (.ref b), .val (.int (3 : Int32)), .val (.ref d), .val (.int (3 : Int32)), .val (.int (12 : Int32)), .val (.int ((2 : Int32) + (1 : Int32))), .val (.int c2)] [])) (fun _ k_ => XS.iinc X6.here hx rfl (hb hby d6_38) rfl (l' := #[.val (.ref b), .val (.int (3 : Int32)), .val (.ref d), .val (.int (3 : Int32)), .val (.int (12 : Int32)), .val (.int ((2 : Int32) + (1 : Int32))), .val (.int c2)]) rfl k_) ?_
        rw [show ((2 : Int32) + (1 : Int32)) = (3 : Int32) from by decide]
        refine own_k (T' := T6) (g' := (mkF m 3 #[.val (.ref b), .val (.int (3 : Int32)), .val (.ref d), .val (.int (3 : Int32)), .val (.int (12 : Int32)), .val (.int (3 : Int32)), .val (.int c2)] [])) (fun _ k_ => XS.goto X6.here hx rfl (pc0 := 41) (pc' := 3) rfl (hb hby d6_41) (by decide) (by decide) k_) ?_
        refine own_k (T' := T6) (g' := (mkF m 5 #[.val (.ref b), .val (.int (3 : Int32)), .val (.ref d), .val (.int (3 : Int32)), .val (.int (12 : Int32)), .val (.int (3 : Int32)), .val (.int c2)] [(.int (3 : Int32))])) (fun _ k_ => XS.iload X6.here hx rfl (hb hby d6_3) rfl  k_) ?_
        refine own_k (T' := T6) (g' := (mkF m 7 #[.val (.ref b), .val (.int (3 : Int32)), .val (.ref d), .val (.int (3 : Int32)), .val (.int (12 : Int32)), .val (.int (3 : Int32)), .val (.int c2)] [(.int (12 : Int32)), (.int (3 : Int32))])) (fun _ k_ => XS.iload X6.here hx rfl (hb hby d6_5) rfl  k_) ?_
        refine own_k (T' := T6) (g' := (mkF m 10 #[.val (.ref b), .val (.int (3 : Int32)), .val (.ref d), .val (.int (3 : Int32)), .val (.int (12 : Int32)), .val (.int (3 : Int32)), .val (.int c2)] [])) (fun _ k_ => XS.icmpNo X6.here hx rfl (hb hby d6_7) rfl ((tlt (by decide : ((3 : Int32) < (12 : Int32)))).2.1) k_) ?_
        refine own_k (T' := T6) (g' := (mkF m 11 #[.val (.ref b), .val (.int (3 : Int32)), .val (.ref d), .val (.int (3 : Int32)), .val (.int (12 : Int32)), .val (.int (3 : Int32)), .val (.int c2)] [(.ref b)])) (fun _ k_ => XS.aloadN X6.here hx rfl (hb hby d6_10) rfl rfl  k_) ?_
        refine own_k (T' := T6) (g' := (mkF m 12 #[.val (.ref b), .val (.int (3 : Int32)), .val (.ref d), .val (.int (3 : Int32)), .val (.int (12 : Int32)), .val (.int (3 : Int32)), .val (.int c2)] [(.int (3 : Int32)), (.ref b)])) (fun _ k_ => XS.iloadN X6.here hx rfl (hb hby d6_11) rfl  k_) ?_
        refine own_caload X6 hx hZ e6 (((hA.other W2 hne).other W4 hne).other W6 hne) (j := (3 : Int32)) ⟨by decide, by decide⟩ (v := (.int c3)) rfl (hb hby d6_12) ?_
        show own_Go p e below Φ T6 (mkF m 13 #[.val (.ref b), .val (.int (3 : Int32)), .val (.ref d), .val (.int (3 : Int32)), .val (.int (12 : Int32)), .val (.int (3 : Int32)), .val (.int c2)] [(.int c3)])
        refine own_k (T' := T6) (g' := (mkF m 15 #[.val (.ref b), .val (.int (3 : Int32)), .val (.ref d), .val (.int (3 : Int32)), .val (.int (12 : Int32)), .val (.int (3 : Int32)), .val (.int c3)] [])) (fun _ k_ => XS.istore X6.here hx rfl (hb hby d6_13) rfl (l' := #[.val (.ref b), .val (.int (3 : Int32)), .val (.ref d), .val (.int (3 : Int32)), .val (.int (12 : Int32)), .val (.int (3 : Int32)), .val (.int c3)]) rfl k_) ?_
        refine own_k (T' := T6) (g' := (mkF m 17 #[.val (.ref b), .val (.int (3 : Int32)), .val (.ref d), .val (.int (3 : Int32)), .val (.int (12 : Int32)), .val (.int (3 : Int32)), .val (.int c3)] [(.int c3)])) (fun _ k_ => XS.iload X6.here hx rfl (hb hby d6_15) rfl  k_) ?_
        refine own_k (T' := T6) (g' := (mkF m 20 #[.val (.ref b), .val (.int (3 : Int32)), .val (.ref d), .val (.int (3 : Int32)), .val (.int (12 : Int32)), .val (.int (3 : Int32)), .val (.int c3)] [(.int (255 : Int32)), (.int c3)])) (fun _ k_ => XS.sipush X6.here hx rfl (hb hby d6_17) k_) ?_
        by_cases hc7 : (255 : Int32) < c3
        · refine own_k (T' := T6) (g' := (mkF m 23 #[.val (.ref b), .val (.int (3 : Int32)), .val (.ref d), .val (.int (3 : Int32)), .val (.int (12 : Int32)), .val (.int (3 : Int32)), .val (.int c3)] [])) (fun _ k_ => XS.icmpNo X6.here hx rfl (hb hby d6_20) rfl ((tlt hc7).2.2.2) k_) ?_
          refine own_k (T' := T6) (g' := (mkF m 25 #[.val (.ref b), .val (.int (3 : Int32)), .val (.ref d), .val (.int (3 : Int32)), .val (.int (12 : Int32)), .val (.int (3 : Int32)), .val (.int c3)] [(.int (3 : Int32))])) (fun _ k_ => XS.iload X6.here hx rfl (hb hby d6_23) rfl  k_) ?_
          have kp0 : Keep h0 h0 [d] := Keep.refl h0 [d]
          have kp1 : Keep h0 h2 [d] := kp0.wr W2 (Or.inl (List.mem_of_getElem? (i := 0) rfl))
          have kp2 : Keep h0 h4 [d] := kp1.wr W4 (Or.inl (List.mem_of_getElem? (i := 0) rfl))
          have kp3 : Keep h0 h6 [d] := kp2.wr W6 (Or.inl (List.mem_of_getElem? (i := 0) rfl))
          exact own_retI X6 hx hret hlk (hb hby d6_25) hF (by rw [e6]; exact ⟨⟨(3 : Int32), rfl, Or.inr ⟨by decide, by decide, hc7⟩⟩, N6, kp3⟩) (by decide) (by decide)
        · refine own_k (T' := T6) (g' := (mkF m 26 #[.val (.ref b), .val (.int (3 : Int32)), .val (.ref d), .val (.int (3 : Int32)), .val (.int (12 : Int32)), .val (.int (3 : Int32)), .val (.int c3)] [])) (fun _ k_ => XS.icmpYes X6.here hx rfl (pc0 := 20) (pc' := 26) rfl (hb hby d6_20) rfl ((flt hc7).2.2.2) (by decide) (by decide) k_) ?_
          refine own_k (T' := T6) (g' := (mkF m 27 #[.val (.ref b), .val (.int (3 : Int32)), .val (.ref d), .val (.int (3 : Int32)), .val (.int (12 : Int32)), .val (.int (3 : Int32)), .val (.int c3)] [(.ref d)])) (fun _ k_ => XS.aloadN X6.here hx rfl (hb hby d6_26) rfl rfl  k_) ?_
          refine own_k (T' := T6) (g' := (mkF m 28 #[.val (.ref b), .val (.int (3 : Int32)), .val (.ref d), .val (.int (3 : Int32)), .val (.int (12 : Int32)), .val (.int (3 : Int32)), .val (.int c3)] [(.int (3 : Int32)), (.ref d)])) (fun _ k_ => XS.iloadN X6.here hx rfl (hb hby d6_27) rfl  k_) ?_
          refine own_k (T' := T6) (g' := (mkF m 30 #[.val (.ref b), .val (.int (3 : Int32)), .val (.ref d), .val (.int (3 : Int32)), .val (.int (12 : Int32)), .val (.int (3 : Int32)), .val (.int c3)] [(.int c3), (.int (3 : Int32)), (.ref d)])) (fun _ k_ => XS.iload X6.here hx rfl (hb hby d6_28) rfl  k_) ?_
          refine own_k (T' := T6) (g' := (mkF m 31 #[.val (.ref b), .val (.int (3 : Int32)), .val (.ref d), .val (.int (3 : Int32)), .val (.int (12 : Int32)), .val (.int (3 : Int32)), .val (.int c3)] [(.int (c3.toInt8.toInt32)), (.int (3 : Int32)), (.ref d)])) (fun _ k_ => XS.i2b X6.here hx rfl (hb hby d6_30) rfl k_) ?_
          obtain ⟨T8, h8, X8, e8, W8, V8, st8⟩ := own_bastore (pc := 31) (Ls := #[.val (.ref b), .val (.int (3 : Int32)), .val (.ref d), .val (.int (3 : Int32)), .val (.int (12 : Int32)), .val (.int (3 : Int32)), .val (.int c3)]) (rest := []) X6 hx hZ e6 V6 (j := (3 : Int32)) (x := (c3.toInt8.toInt32)) ⟨by decide, by decide⟩ 3 rfl (Nat.le_of_ble_eq_true rfl) (hb hby d6_31)
          have V8 : Arv Z h8 d kd .byte (12 : Int32) [(.int (c0.toInt8.toInt32)), (.int (c1.toInt8.toInt32)), (.int (c2.toInt8.toInt32)), (.int (nar .byte (c3.toInt8.toInt32))), (.int (0 : Int32)), (.int (0 : Int32)), (.int (0 : Int32)), (.int (0 : Int32)), (.int (0 : Int32)), (.int (0 : Int32)), (.int (0 : Int32)), (.int (0 : Int32))] (.int (0 : Int32)) := V8
          rw [show nar .byte (c3.toInt8.toInt32) = (c3.toInt8.toInt32) from own_nar_byte _] at V8
          have O8' := O6'.wr W8 hg
          have N8 := Fr.snoc X8 N6 hg
          refine own_k (T' := T8) (g' := (mkF m 32 #[.val (.ref b), .val (.int (3 : Int32)), .val (.ref d), .val (.int (3 : Int32)), .val (.int (12 : Int32)), .val (.int (3 : Int32)), .val (.int c3)] [])) st8 ?_
          refine own_k (T' := T8) (g' := (mkF m 35 #[.val (.ref b), .val (.int ((3 : Int32) + (1 : Int32))), .val (.ref d), .val (.int (3 : Int32)), .val (.int (12 : Int32)), .val (.int (3 : Int32)), .val (.int c3)] [])) (fun _ k_ => XS.iinc X8.here hx rfl (hb hby d6_32) rfl (l' := #[.val (.ref b), .val (.int ((3 : Int32) + (1 : Int32))), .val (.ref d), .val (.int (3 : Int32)), .val (.int (12 : Int32)), .val (.int (3 : Int32)), .val (.int c3)]) rfl k_) ?_
          rw [show ((3 : Int32) + (1 : Int32)) = (4 : Int32) from by decide]
          refine own_k (T' := T8) (g' := (mkF m 38 #[.val (.ref b), .val (.int (4 : Int32)), .val (.ref d), .val (.int ((3 : Int32) + (1 : Int32))), .val (.int (12 : Int32)), .val (.int (3 : Int32)), .val (.int c3)] [])) (fun _ k_ => XS.iinc X8.here hx rfl (hb hby d6_35) rfl (l' := #[.val (.ref b), .val (.int (4 : Int32)), .val (.ref d), .val (.int ((3 : Int32) + (1 : Int32))), .val (.int (12 : Int32)), .val (.int (3 : Int32)), .val (.int c3)]) rfl k_) ?_
          rw [show ((3 : Int32) + (1 : Int32)) = (4 : Int32) from by decide]
          refine own_k (T' := T8) (g' := (mkF m 41 #[.val (.ref b), .val (.int (4 : Int32)), .val (.ref d), .val (.int (4 : Int32)), .val (.int (12 : Int32)), .val (.int ((3 : Int32) + (1 : Int32))), .val (.int c3)] [])) (fun _ k_ => XS.iinc X8.here hx rfl (hb hby d6_38) rfl (l' := #[.val (.ref b), .val (.int (4 : Int32)), .val (.ref d), .val (.int (4 : Int32)), .val (.int (12 : Int32)), .val (.int ((3 : Int32) + (1 : Int32))), .val (.int c3)]) rfl k_) ?_
          rw [show ((3 : Int32) + (1 : Int32)) = (4 : Int32) from by decide]
          refine own_k (T' := T8) (g' := (mkF m 3 #[.val (.ref b), .val (.int (4 : Int32)), .val (.ref d), .val (.int (4 : Int32)), .val (.int (12 : Int32)), .val (.int (4 : Int32)), .val (.int c3)] [])) (fun _ k_ => XS.goto X8.here hx rfl (pc0 := 41) (pc' := 3) rfl (hb hby d6_41) (by decide) (by decide) k_) ?_
          refine own_k (T' := T8) (g' := (mkF m 5 #[.val (.ref b), .val (.int (4 : Int32)), .val (.ref d), .val (.int (4 : Int32)), .val (.int (12 : Int32)), .val (.int (4 : Int32)), .val (.int c3)] [(.int (4 : Int32))])) (fun _ k_ => XS.iload X8.here hx rfl (hb hby d6_3) rfl  k_) ?_
          refine own_k (T' := T8) (g' := (mkF m 7 #[.val (.ref b), .val (.int (4 : Int32)), .val (.ref d), .val (.int (4 : Int32)), .val (.int (12 : Int32)), .val (.int (4 : Int32)), .val (.int c3)] [(.int (12 : Int32)), (.int (4 : Int32))])) (fun _ k_ => XS.iload X8.here hx rfl (hb hby d6_5) rfl  k_) ?_
          refine own_k (T' := T8) (g' := (mkF m 10 #[.val (.ref b), .val (.int (4 : Int32)), .val (.ref d), .val (.int (4 : Int32)), .val (.int (12 : Int32)), .val (.int (4 : Int32)), .val (.int c3)] [])) (fun _ k_ => XS.icmpNo X8.here hx rfl (hb hby d6_7) rfl ((tlt (by decide : ((4 : Int32) < (12 : Int32)))).2.1) k_) ?_
          refine own_k (T' := T8) (g' := (mkF m 11 #[.val (.ref b), .val (.int (4 : Int32)), .val (.ref d), .val (.int (4 : Int32)), .val (.int (12 : Int32)), .val (.int (4 : Int32)), .val (.int c3)] [(.ref b)])) (fun _ k_ => XS.aloadN X8.here hx rfl (hb hby d6_10) rfl rfl  k_) ?_
          refine own_k (T' := T8) (g' := (mkF m 12 #[.val (.ref b), .val (.int (4 : Int32)), .val (.ref d), .val (.int (4 : Int32)), .val (.int (12 : Int32)), .val (.int (4 : Int32)), .val (.int c3)] [(.int (4 : Int32)), (.ref b)])) (fun _ k_ => XS.iloadN X8.here hx rfl (hb hby d6_11) rfl  k_) ?_
          have f9 := ((((hA.other W2 hne).other W4 hne).other W6 hne).other W8 hne)
          refine own_caload X8 hx hZ e8 f9 (j := (4 : Int32)) ⟨by decide, by decide⟩ (v := (.int c4)) rfl (hb hby d6_12) ?_
          show own_Go p e below Φ T8 (mkF m 13 #[.val (.ref b), .val (.int (4 : Int32)), .val (.ref d), .val (.int (4 : Int32)), .val (.int (12 : Int32)), .val (.int (4 : Int32)), .val (.int c3)] [(.int c4)])
          refine own_k (T' := T8) (g' := (mkF m 15 #[.val (.ref b), .val (.int (4 : Int32)), .val (.ref d), .val (.int (4 : Int32)), .val (.int (12 : Int32)), .val (.int (4 : Int32)), .val (.int c4)] [])) (fun _ k_ => XS.istore X8.here hx rfl (hb hby d6_13) rfl (l' := #[.val (.ref b), .val (.int (4 : Int32)), .val (.ref d), .val (.int (4 : Int32)), .val (.int (12 : Int32)), .val (.int (4 : Int32)), .val (.int c4)]) rfl k_) ?_
          refine own_k (T' := T8) (g' := (mkF m 17 #[.val (.ref b), .val (.int (4 : Int32)), .val (.ref d), .val (.int (4 : Int32)), .val (.int (12 : Int32)), .val (.int (4 : Int32)), .val (.int c4)] [(.int c4)])) (fun _ k_ => XS.iload X8.here hx rfl (hb hby d6_15) rfl  k_) ?_
          refine own_k (T' := T8) (g' := (mkF m 20 #[.val (.ref b), .val (.int (4 : Int32)), .val (.ref d), .val (.int (4 : Int32)), .val (.int (12 : Int32)), .val (.int (4 : Int32)), .val (.int c4)] [(.int (255 : Int32)), (.int c4)])) (fun _ k_ => XS.sipush X8.here hx rfl (hb hby d6_17) k_) ?_
          by_cases hc10 : (255 : Int32) < c4
          · refine own_k (T' := T8) (g' := (mkF m 23 #[.val (.ref b), .val (.int (4 : Int32)), .val (.ref d), .val (.int (4 : Int32)), .val (.int (12 : Int32)), .val (.int (4 : Int32)), .val (.int c4)] [])) (fun _ k_ => XS.icmpNo X8.here hx rfl (hb hby d6_20) rfl ((tlt hc10).2.2.2) k_) ?_
            refine own_k (T' := T8) (g' := (mkF m 25 #[.val (.ref b), .val (.int (4 : Int32)), .val (.ref d), .val (.int (4 : Int32)), .val (.int (12 : Int32)), .val (.int (4 : Int32)), .val (.int c4)] [(.int (4 : Int32))])) (fun _ k_ => XS.iload X8.here hx rfl (hb hby d6_23) rfl  k_) ?_
            have kp0 : Keep h0 h0 [d] := Keep.refl h0 [d]
            have kp1 : Keep h0 h2 [d] := kp0.wr W2 (Or.inl (List.mem_of_getElem? (i := 0) rfl))
            have kp2 : Keep h0 h4 [d] := kp1.wr W4 (Or.inl (List.mem_of_getElem? (i := 0) rfl))
            have kp3 : Keep h0 h6 [d] := kp2.wr W6 (Or.inl (List.mem_of_getElem? (i := 0) rfl))
            have kp4 : Keep h0 h8 [d] := kp3.wr W8 (Or.inl (List.mem_of_getElem? (i := 0) rfl))
            exact own_retI X8 hx hret hlk (hb hby d6_25) hF (by rw [e8]; exact ⟨⟨(4 : Int32), rfl, Or.inr ⟨by decide, by decide, hc10⟩⟩, N8, kp4⟩) (by decide) (by decide)
          · refine own_k (T' := T8) (g' := (mkF m 26 #[.val (.ref b), .val (.int (4 : Int32)), .val (.ref d), .val (.int (4 : Int32)), .val (.int (12 : Int32)), .val (.int (4 : Int32)), .val (.int c4)] [])) (fun _ k_ => XS.icmpYes X8.here hx rfl (pc0 := 20) (pc' := 26) rfl (hb hby d6_20) rfl ((flt hc10).2.2.2) (by decide) (by decide) k_) ?_
            refine own_k (T' := T8) (g' := (mkF m 27 #[.val (.ref b), .val (.int (4 : Int32)), .val (.ref d), .val (.int (4 : Int32)), .val (.int (12 : Int32)), .val (.int (4 : Int32)), .val (.int c4)] [(.ref d)])) (fun _ k_ => XS.aloadN X8.here hx rfl (hb hby d6_26) rfl rfl  k_) ?_
            refine own_k (T' := T8) (g' := (mkF m 28 #[.val (.ref b), .val (.int (4 : Int32)), .val (.ref d), .val (.int (4 : Int32)), .val (.int (12 : Int32)), .val (.int (4 : Int32)), .val (.int c4)] [(.int (4 : Int32)), (.ref d)])) (fun _ k_ => XS.iloadN X8.here hx rfl (hb hby d6_27) rfl  k_) ?_
            refine own_k (T' := T8) (g' := (mkF m 30 #[.val (.ref b), .val (.int (4 : Int32)), .val (.ref d), .val (.int (4 : Int32)), .val (.int (12 : Int32)), .val (.int (4 : Int32)), .val (.int c4)] [(.int c4), (.int (4 : Int32)), (.ref d)])) (fun _ k_ => XS.iload X8.here hx rfl (hb hby d6_28) rfl  k_) ?_
            refine own_k (T' := T8) (g' := (mkF m 31 #[.val (.ref b), .val (.int (4 : Int32)), .val (.ref d), .val (.int (4 : Int32)), .val (.int (12 : Int32)), .val (.int (4 : Int32)), .val (.int c4)] [(.int (c4.toInt8.toInt32)), (.int (4 : Int32)), (.ref d)])) (fun _ k_ => XS.i2b X8.here hx rfl (hb hby d6_30) rfl k_) ?_
            obtain ⟨T11, h11, X11, e11, W11, V11, st11⟩ := own_bastore (pc := 31) (Ls := #[.val (.ref b), .val (.int (4 : Int32)), .val (.ref d), .val (.int (4 : Int32)), .val (.int (12 : Int32)), .val (.int (4 : Int32)), .val (.int c4)]) (rest := []) X8 hx hZ e8 V8 (j := (4 : Int32)) (x := (c4.toInt8.toInt32)) ⟨by decide, by decide⟩ 4 rfl (Nat.le_of_ble_eq_true rfl) (hb hby d6_31)
            have V11 : Arv Z h11 d kd .byte (12 : Int32) [(.int (c0.toInt8.toInt32)), (.int (c1.toInt8.toInt32)), (.int (c2.toInt8.toInt32)), (.int (c3.toInt8.toInt32)), (.int (nar .byte (c4.toInt8.toInt32))), (.int (0 : Int32)), (.int (0 : Int32)), (.int (0 : Int32)), (.int (0 : Int32)), (.int (0 : Int32)), (.int (0 : Int32)), (.int (0 : Int32))] (.int (0 : Int32)) := V11
            rw [show nar .byte (c4.toInt8.toInt32) = (c4.toInt8.toInt32) from own_nar_byte _] at V11
            have O11' := O8'.wr W11 hg
            have N11 := Fr.snoc X11 N8 hg
            refine own_k (T' := T11) (g' := (mkF m 32 #[.val (.ref b), .val (.int (4 : Int32)), .val (.ref d), .val (.int (4 : Int32)), .val (.int (12 : Int32)), .val (.int (4 : Int32)), .val (.int c4)] [])) st11 ?_
            refine own_k (T' := T11) (g' := (mkF m 35 #[.val (.ref b), .val (.int ((4 : Int32) + (1 : Int32))), .val (.ref d), .val (.int (4 : Int32)), .val (.int (12 : Int32)), .val (.int (4 : Int32)), .val (.int c4)] [])) (fun _ k_ => XS.iinc X11.here hx rfl (hb hby d6_32) rfl (l' := #[.val (.ref b), .val (.int ((4 : Int32) + (1 : Int32))), .val (.ref d), .val (.int (4 : Int32)), .val (.int (12 : Int32)), .val (.int (4 : Int32)), .val (.int c4)]) rfl k_) ?_
            rw [show ((4 : Int32) + (1 : Int32)) = (5 : Int32) from by decide]
            refine own_k (T' := T11) (g' := (mkF m 38 #[.val (.ref b), .val (.int (5 : Int32)), .val (.ref d), .val (.int ((4 : Int32) + (1 : Int32))), .val (.int (12 : Int32)), .val (.int (4 : Int32)), .val (.int c4)] [])) (fun _ k_ => XS.iinc X11.here hx rfl (hb hby d6_35) rfl (l' := #[.val (.ref b), .val (.int (5 : Int32)), .val (.ref d), .val (.int ((4 : Int32) + (1 : Int32))), .val (.int (12 : Int32)), .val (.int (4 : Int32)), .val (.int c4)]) rfl k_) ?_
            rw [show ((4 : Int32) + (1 : Int32)) = (5 : Int32) from by decide]
            refine own_k (T' := T11) (g' := (mkF m 41 #[.val (.ref b), .val (.int (5 : Int32)), .val (.ref d), .val (.int (5 : Int32)), .val (.int (12 : Int32)), .val (.int ((4 : Int32) + (1 : Int32))), .val (.int c4)] [])) (fun _ k_ => XS.iinc X11.here hx rfl (hb hby d6_38) rfl (l' := #[.val (.ref b), .val (.int (5 : Int32)), .val (.ref d), .val (.int (5 : Int32)), .val (.int (12 : Int32)), .val (.int ((4 : Int32) + (1 : Int32))), .val (.int c4)]) rfl k_) ?_
            rw [show ((4 : Int32) + (1 : Int32)) = (5 : Int32) from by decide]
            refine own_k (T' := T11) (g' := (mkF m 3 #[.val (.ref b), .val (.int (5 : Int32)), .val (.ref d), .val (.int (5 : Int32)), .val (.int (12 : Int32)), .val (.int (5 : Int32)), .val (.int c4)] [])) (fun _ k_ => XS.goto X11.here hx rfl (pc0 := 41) (pc' := 3) rfl (hb hby d6_41) (by decide) (by decide) k_) ?_
            refine own_k (T' := T11) (g' := (mkF m 5 #[.val (.ref b), .val (.int (5 : Int32)), .val (.ref d), .val (.int (5 : Int32)), .val (.int (12 : Int32)), .val (.int (5 : Int32)), .val (.int c4)] [(.int (5 : Int32))])) (fun _ k_ => XS.iload X11.here hx rfl (hb hby d6_3) rfl  k_) ?_
            refine own_k (T' := T11) (g' := (mkF m 7 #[.val (.ref b), .val (.int (5 : Int32)), .val (.ref d), .val (.int (5 : Int32)), .val (.int (12 : Int32)), .val (.int (5 : Int32)), .val (.int c4)] [(.int (12 : Int32)), (.int (5 : Int32))])) (fun _ k_ => XS.iload X11.here hx rfl (hb hby d6_5) rfl  k_) ?_
            refine own_k (T' := T11) (g' := (mkF m 10 #[.val (.ref b), .val (.int (5 : Int32)), .val (.ref d), .val (.int (5 : Int32)), .val (.int (12 : Int32)), .val (.int (5 : Int32)), .val (.int c4)] [])) (fun _ k_ => XS.icmpNo X11.here hx rfl (hb hby d6_7) rfl ((tlt (by decide : ((5 : Int32) < (12 : Int32)))).2.1) k_) ?_
            refine own_k (T' := T11) (g' := (mkF m 11 #[.val (.ref b), .val (.int (5 : Int32)), .val (.ref d), .val (.int (5 : Int32)), .val (.int (12 : Int32)), .val (.int (5 : Int32)), .val (.int c4)] [(.ref b)])) (fun _ k_ => XS.aloadN X11.here hx rfl (hb hby d6_10) rfl rfl  k_) ?_
            refine own_k (T' := T11) (g' := (mkF m 12 #[.val (.ref b), .val (.int (5 : Int32)), .val (.ref d), .val (.int (5 : Int32)), .val (.int (12 : Int32)), .val (.int (5 : Int32)), .val (.int c4)] [(.int (5 : Int32)), (.ref b)])) (fun _ k_ => XS.iloadN X11.here hx rfl (hb hby d6_11) rfl  k_) ?_
            refine own_caload X11 hx hZ e11 (f9.other W11 hne) (j := (5 : Int32)) ⟨by decide, by decide⟩ (v := (.int c5)) rfl (hb hby d6_12) ?_
            show own_Go p e below Φ T11 (mkF m 13 #[.val (.ref b), .val (.int (5 : Int32)), .val (.ref d), .val (.int (5 : Int32)), .val (.int (12 : Int32)), .val (.int (5 : Int32)), .val (.int c4)] [(.int c5)])
            refine own_k (T' := T11) (g' := (mkF m 15 #[.val (.ref b), .val (.int (5 : Int32)), .val (.ref d), .val (.int (5 : Int32)), .val (.int (12 : Int32)), .val (.int (5 : Int32)), .val (.int c5)] [])) (fun _ k_ => XS.istore X11.here hx rfl (hb hby d6_13) rfl (l' := #[.val (.ref b), .val (.int (5 : Int32)), .val (.ref d), .val (.int (5 : Int32)), .val (.int (12 : Int32)), .val (.int (5 : Int32)), .val (.int c5)]) rfl k_) ?_
            refine own_k (T' := T11) (g' := (mkF m 17 #[.val (.ref b), .val (.int (5 : Int32)), .val (.ref d), .val (.int (5 : Int32)), .val (.int (12 : Int32)), .val (.int (5 : Int32)), .val (.int c5)] [(.int c5)])) (fun _ k_ => XS.iload X11.here hx rfl (hb hby d6_15) rfl  k_) ?_
            refine own_k (T' := T11) (g' := (mkF m 20 #[.val (.ref b), .val (.int (5 : Int32)), .val (.ref d), .val (.int (5 : Int32)), .val (.int (12 : Int32)), .val (.int (5 : Int32)), .val (.int c5)] [(.int (255 : Int32)), (.int c5)])) (fun _ k_ => XS.sipush X11.here hx rfl (hb hby d6_17) k_) ?_
            by_cases hc12 : (255 : Int32) < c5
            · refine own_k (T' := T11) (g' := (mkF m 23 #[.val (.ref b), .val (.int (5 : Int32)), .val (.ref d), .val (.int (5 : Int32)), .val (.int (12 : Int32)), .val (.int (5 : Int32)), .val (.int c5)] [])) (fun _ k_ => XS.icmpNo X11.here hx rfl (hb hby d6_20) rfl ((tlt hc12).2.2.2) k_) ?_
              refine own_k (T' := T11) (g' := (mkF m 25 #[.val (.ref b), .val (.int (5 : Int32)), .val (.ref d), .val (.int (5 : Int32)), .val (.int (12 : Int32)), .val (.int (5 : Int32)), .val (.int c5)] [(.int (5 : Int32))])) (fun _ k_ => XS.iload X11.here hx rfl (hb hby d6_23) rfl  k_) ?_
              have kp0 : Keep h0 h0 [d] := Keep.refl h0 [d]
              have kp1 : Keep h0 h2 [d] := kp0.wr W2 (Or.inl (List.mem_of_getElem? (i := 0) rfl))
              have kp2 : Keep h0 h4 [d] := kp1.wr W4 (Or.inl (List.mem_of_getElem? (i := 0) rfl))
              have kp3 : Keep h0 h6 [d] := kp2.wr W6 (Or.inl (List.mem_of_getElem? (i := 0) rfl))
              have kp4 : Keep h0 h8 [d] := kp3.wr W8 (Or.inl (List.mem_of_getElem? (i := 0) rfl))
              have kp5 : Keep h0 h11 [d] := kp4.wr W11 (Or.inl (List.mem_of_getElem? (i := 0) rfl))
              exact own_retI X11 hx hret hlk (hb hby d6_25) hF (by rw [e11]; exact ⟨⟨(5 : Int32), rfl, Or.inr ⟨by decide, by decide, hc12⟩⟩, N11, kp5⟩) (by decide) (by decide)
            · refine own_k (T' := T11) (g' := (mkF m 26 #[.val (.ref b), .val (.int (5 : Int32)), .val (.ref d), .val (.int (5 : Int32)), .val (.int (12 : Int32)), .val (.int (5 : Int32)), .val (.int c5)] [])) (fun _ k_ => XS.icmpYes X11.here hx rfl (pc0 := 20) (pc' := 26) rfl (hb hby d6_20) rfl ((flt hc12).2.2.2) (by decide) (by decide) k_) ?_
              refine own_k (T' := T11) (g' := (mkF m 27 #[.val (.ref b), .val (.int (5 : Int32)), .val (.ref d), .val (.int (5 : Int32)), .val (.int (12 : Int32)), .val (.int (5 : Int32)), .val (.int c5)] [(.ref d)])) (fun _ k_ => XS.aloadN X11.here hx rfl (hb hby d6_26) rfl rfl  k_) ?_
              refine own_k (T' := T11) (g' := (mkF m 28 #[.val (.ref b), .val (.int (5 : Int32)), .val (.ref d), .val (.int (5 : Int32)), .val (.int (12 : Int32)), .val (.int (5 : Int32)), .val (.int c5)] [(.int (5 : Int32)), (.ref d)])) (fun _ k_ => XS.iloadN X11.here hx rfl (hb hby d6_27) rfl  k_) ?_
              refine own_k (T' := T11) (g' := (mkF m 30 #[.val (.ref b), .val (.int (5 : Int32)), .val (.ref d), .val (.int (5 : Int32)), .val (.int (12 : Int32)), .val (.int (5 : Int32)), .val (.int c5)] [(.int c5), (.int (5 : Int32)), (.ref d)])) (fun _ k_ => XS.iload X11.here hx rfl (hb hby d6_28) rfl  k_) ?_
              refine own_k (T' := T11) (g' := (mkF m 31 #[.val (.ref b), .val (.int (5 : Int32)), .val (.ref d), .val (.int (5 : Int32)), .val (.int (12 : Int32)), .val (.int (5 : Int32)), .val (.int c5)] [(.int (c5.toInt8.toInt32)), (.int (5 : Int32)), (.ref d)])) (fun _ k_ => XS.i2b X11.here hx rfl (hb hby d6_30) rfl k_) ?_
              obtain ⟨T13, h13, X13, e13, W13, V13, st13⟩ := own_bastore (pc := 31) (Ls := #[.val (.ref b), .val (.int (5 : Int32)), .val (.ref d), .val (.int (5 : Int32)), .val (.int (12 : Int32)), .val (.int (5 : Int32)), .val (.int c5)]) (rest := []) X11 hx hZ e11 V11 (j := (5 : Int32)) (x := (c5.toInt8.toInt32)) ⟨by decide, by decide⟩ 5 rfl (Nat.le_of_ble_eq_true rfl) (hb hby d6_31)
              have V13 : Arv Z h13 d kd .byte (12 : Int32) [(.int (c0.toInt8.toInt32)), (.int (c1.toInt8.toInt32)), (.int (c2.toInt8.toInt32)), (.int (c3.toInt8.toInt32)), (.int (c4.toInt8.toInt32)), (.int (nar .byte (c5.toInt8.toInt32))), (.int (0 : Int32)), (.int (0 : Int32)), (.int (0 : Int32)), (.int (0 : Int32)), (.int (0 : Int32)), (.int (0 : Int32))] (.int (0 : Int32)) := V13
              rw [show nar .byte (c5.toInt8.toInt32) = (c5.toInt8.toInt32) from own_nar_byte _] at V13
              have O13' := O11'.wr W13 hg
              have N13 := Fr.snoc X13 N11 hg
              refine own_k (T' := T13) (g' := (mkF m 32 #[.val (.ref b), .val (.int (5 : Int32)), .val (.ref d), .val (.int (5 : Int32)), .val (.int (12 : Int32)), .val (.int (5 : Int32)), .val (.int c5)] [])) st13 ?_
              refine own_k (T' := T13) (g' := (mkF m 35 #[.val (.ref b), .val (.int ((5 : Int32) + (1 : Int32))), .val (.ref d), .val (.int (5 : Int32)), .val (.int (12 : Int32)), .val (.int (5 : Int32)), .val (.int c5)] [])) (fun _ k_ => XS.iinc X13.here hx rfl (hb hby d6_32) rfl (l' := #[.val (.ref b), .val (.int ((5 : Int32) + (1 : Int32))), .val (.ref d), .val (.int (5 : Int32)), .val (.int (12 : Int32)), .val (.int (5 : Int32)), .val (.int c5)]) rfl k_) ?_
              rw [show ((5 : Int32) + (1 : Int32)) = (6 : Int32) from by decide]
              refine own_k (T' := T13) (g' := (mkF m 38 #[.val (.ref b), .val (.int (6 : Int32)), .val (.ref d), .val (.int ((5 : Int32) + (1 : Int32))), .val (.int (12 : Int32)), .val (.int (5 : Int32)), .val (.int c5)] [])) (fun _ k_ => XS.iinc X13.here hx rfl (hb hby d6_35) rfl (l' := #[.val (.ref b), .val (.int (6 : Int32)), .val (.ref d), .val (.int ((5 : Int32) + (1 : Int32))), .val (.int (12 : Int32)), .val (.int (5 : Int32)), .val (.int c5)]) rfl k_) ?_
              rw [show ((5 : Int32) + (1 : Int32)) = (6 : Int32) from by decide]
              refine own_k (T' := T13) (g' := (mkF m 41 #[.val (.ref b), .val (.int (6 : Int32)), .val (.ref d), .val (.int (6 : Int32)), .val (.int (12 : Int32)), .val (.int ((5 : Int32) + (1 : Int32))), .val (.int c5)] [])) (fun _ k_ => XS.iinc X13.here hx rfl (hb hby d6_38) rfl (l' := #[.val (.ref b), .val (.int (6 : Int32)), .val (.ref d), .val (.int (6 : Int32)), .val (.int (12 : Int32)), .val (.int ((5 : Int32) + (1 : Int32))), .val (.int c5)]) rfl k_) ?_
              rw [show ((5 : Int32) + (1 : Int32)) = (6 : Int32) from by decide]
              refine own_k (T' := T13) (g' := (mkF m 3 #[.val (.ref b), .val (.int (6 : Int32)), .val (.ref d), .val (.int (6 : Int32)), .val (.int (12 : Int32)), .val (.int (6 : Int32)), .val (.int c5)] [])) (fun _ k_ => XS.goto X13.here hx rfl (pc0 := 41) (pc' := 3) rfl (hb hby d6_41) (by decide) (by decide) k_) ?_
              refine own_k (T' := T13) (g' := (mkF m 5 #[.val (.ref b), .val (.int (6 : Int32)), .val (.ref d), .val (.int (6 : Int32)), .val (.int (12 : Int32)), .val (.int (6 : Int32)), .val (.int c5)] [(.int (6 : Int32))])) (fun _ k_ => XS.iload X13.here hx rfl (hb hby d6_3) rfl  k_) ?_
              refine own_k (T' := T13) (g' := (mkF m 7 #[.val (.ref b), .val (.int (6 : Int32)), .val (.ref d), .val (.int (6 : Int32)), .val (.int (12 : Int32)), .val (.int (6 : Int32)), .val (.int c5)] [(.int (12 : Int32)), (.int (6 : Int32))])) (fun _ k_ => XS.iload X13.here hx rfl (hb hby d6_5) rfl  k_) ?_
              refine own_k (T' := T13) (g' := (mkF m 10 #[.val (.ref b), .val (.int (6 : Int32)), .val (.ref d), .val (.int (6 : Int32)), .val (.int (12 : Int32)), .val (.int (6 : Int32)), .val (.int c5)] [])) (fun _ k_ => XS.icmpNo X13.here hx rfl (hb hby d6_7) rfl ((tlt (by decide : ((6 : Int32) < (12 : Int32)))).2.1) k_) ?_
              refine own_k (T' := T13) (g' := (mkF m 11 #[.val (.ref b), .val (.int (6 : Int32)), .val (.ref d), .val (.int (6 : Int32)), .val (.int (12 : Int32)), .val (.int (6 : Int32)), .val (.int c5)] [(.ref b)])) (fun _ k_ => XS.aloadN X13.here hx rfl (hb hby d6_10) rfl rfl  k_) ?_
              refine own_k (T' := T13) (g' := (mkF m 12 #[.val (.ref b), .val (.int (6 : Int32)), .val (.ref d), .val (.int (6 : Int32)), .val (.int (12 : Int32)), .val (.int (6 : Int32)), .val (.int c5)] [(.int (6 : Int32)), (.ref b)])) (fun _ k_ => XS.iloadN X13.here hx rfl (hb hby d6_11) rfl  k_) ?_
              refine own_caload X13 hx hZ e13 ((f9.other W11 hne).other W13 hne) (j := (6 : Int32)) ⟨by decide, by decide⟩ (v := (.int c6)) rfl (hb hby d6_12) ?_
              show own_Go p e below Φ T13 (mkF m 13 #[.val (.ref b), .val (.int (6 : Int32)), .val (.ref d), .val (.int (6 : Int32)), .val (.int (12 : Int32)), .val (.int (6 : Int32)), .val (.int c5)] [(.int c6)])
              refine own_k (T' := T13) (g' := (mkF m 15 #[.val (.ref b), .val (.int (6 : Int32)), .val (.ref d), .val (.int (6 : Int32)), .val (.int (12 : Int32)), .val (.int (6 : Int32)), .val (.int c6)] [])) (fun _ k_ => XS.istore X13.here hx rfl (hb hby d6_13) rfl (l' := #[.val (.ref b), .val (.int (6 : Int32)), .val (.ref d), .val (.int (6 : Int32)), .val (.int (12 : Int32)), .val (.int (6 : Int32)), .val (.int c6)]) rfl k_) ?_
              refine own_k (T' := T13) (g' := (mkF m 17 #[.val (.ref b), .val (.int (6 : Int32)), .val (.ref d), .val (.int (6 : Int32)), .val (.int (12 : Int32)), .val (.int (6 : Int32)), .val (.int c6)] [(.int c6)])) (fun _ k_ => XS.iload X13.here hx rfl (hb hby d6_15) rfl  k_) ?_
              refine own_k (T' := T13) (g' := (mkF m 20 #[.val (.ref b), .val (.int (6 : Int32)), .val (.ref d), .val (.int (6 : Int32)), .val (.int (12 : Int32)), .val (.int (6 : Int32)), .val (.int c6)] [(.int (255 : Int32)), (.int c6)])) (fun _ k_ => XS.sipush X13.here hx rfl (hb hby d6_17) k_) ?_
              by_cases hc14 : (255 : Int32) < c6
              · refine own_k (T' := T13) (g' := (mkF m 23 #[.val (.ref b), .val (.int (6 : Int32)), .val (.ref d), .val (.int (6 : Int32)), .val (.int (12 : Int32)), .val (.int (6 : Int32)), .val (.int c6)] [])) (fun _ k_ => XS.icmpNo X13.here hx rfl (hb hby d6_20) rfl ((tlt hc14).2.2.2) k_) ?_
                refine own_k (T' := T13) (g' := (mkF m 25 #[.val (.ref b), .val (.int (6 : Int32)), .val (.ref d), .val (.int (6 : Int32)), .val (.int (12 : Int32)), .val (.int (6 : Int32)), .val (.int c6)] [(.int (6 : Int32))])) (fun _ k_ => XS.iload X13.here hx rfl (hb hby d6_23) rfl  k_) ?_
                have kp0 : Keep h0 h0 [d] := Keep.refl h0 [d]
                have kp1 : Keep h0 h2 [d] := kp0.wr W2 (Or.inl (List.mem_of_getElem? (i := 0) rfl))
                have kp2 : Keep h0 h4 [d] := kp1.wr W4 (Or.inl (List.mem_of_getElem? (i := 0) rfl))
                have kp3 : Keep h0 h6 [d] := kp2.wr W6 (Or.inl (List.mem_of_getElem? (i := 0) rfl))
                have kp4 : Keep h0 h8 [d] := kp3.wr W8 (Or.inl (List.mem_of_getElem? (i := 0) rfl))
                have kp5 : Keep h0 h11 [d] := kp4.wr W11 (Or.inl (List.mem_of_getElem? (i := 0) rfl))
                have kp6 : Keep h0 h13 [d] := kp5.wr W13 (Or.inl (List.mem_of_getElem? (i := 0) rfl))
                exact own_retI X13 hx hret hlk (hb hby d6_25) hF (by rw [e13]; exact ⟨⟨(6 : Int32), rfl, Or.inr ⟨by decide, by decide, hc14⟩⟩, N13, kp6⟩) (by decide) (by decide)
              · refine own_k (T' := T13) (g' := (mkF m 26 #[.val (.ref b), .val (.int (6 : Int32)), .val (.ref d), .val (.int (6 : Int32)), .val (.int (12 : Int32)), .val (.int (6 : Int32)), .val (.int c6)] [])) (fun _ k_ => XS.icmpYes X13.here hx rfl (pc0 := 20) (pc' := 26) rfl (hb hby d6_20) rfl ((flt hc14).2.2.2) (by decide) (by decide) k_) ?_
                refine own_k (T' := T13) (g' := (mkF m 27 #[.val (.ref b), .val (.int (6 : Int32)), .val (.ref d), .val (.int (6 : Int32)), .val (.int (12 : Int32)), .val (.int (6 : Int32)), .val (.int c6)] [(.ref d)])) (fun _ k_ => XS.aloadN X13.here hx rfl (hb hby d6_26) rfl rfl  k_) ?_
                refine own_k (T' := T13) (g' := (mkF m 28 #[.val (.ref b), .val (.int (6 : Int32)), .val (.ref d), .val (.int (6 : Int32)), .val (.int (12 : Int32)), .val (.int (6 : Int32)), .val (.int c6)] [(.int (6 : Int32)), (.ref d)])) (fun _ k_ => XS.iloadN X13.here hx rfl (hb hby d6_27) rfl  k_) ?_
                refine own_k (T' := T13) (g' := (mkF m 30 #[.val (.ref b), .val (.int (6 : Int32)), .val (.ref d), .val (.int (6 : Int32)), .val (.int (12 : Int32)), .val (.int (6 : Int32)), .val (.int c6)] [(.int c6), (.int (6 : Int32)), (.ref d)])) (fun _ k_ => XS.iload X13.here hx rfl (hb hby d6_28) rfl  k_) ?_
                refine own_k (T' := T13) (g' := (mkF m 31 #[.val (.ref b), .val (.int (6 : Int32)), .val (.ref d), .val (.int (6 : Int32)), .val (.int (12 : Int32)), .val (.int (6 : Int32)), .val (.int c6)] [(.int (c6.toInt8.toInt32)), (.int (6 : Int32)), (.ref d)])) (fun _ k_ => XS.i2b X13.here hx rfl (hb hby d6_30) rfl k_) ?_
                obtain ⟨T15, h15, X15, e15, W15, V15, st15⟩ := own_bastore (pc := 31) (Ls := #[.val (.ref b), .val (.int (6 : Int32)), .val (.ref d), .val (.int (6 : Int32)), .val (.int (12 : Int32)), .val (.int (6 : Int32)), .val (.int c6)]) (rest := []) X13 hx hZ e13 V13 (j := (6 : Int32)) (x := (c6.toInt8.toInt32)) ⟨by decide, by decide⟩ 6 rfl (Nat.le_of_ble_eq_true rfl) (hb hby d6_31)
                have V15 : Arv Z h15 d kd .byte (12 : Int32) [(.int (c0.toInt8.toInt32)), (.int (c1.toInt8.toInt32)), (.int (c2.toInt8.toInt32)), (.int (c3.toInt8.toInt32)), (.int (c4.toInt8.toInt32)), (.int (c5.toInt8.toInt32)), (.int (nar .byte (c6.toInt8.toInt32))), (.int (0 : Int32)), (.int (0 : Int32)), (.int (0 : Int32)), (.int (0 : Int32)), (.int (0 : Int32))] (.int (0 : Int32)) := V15
                rw [show nar .byte (c6.toInt8.toInt32) = (c6.toInt8.toInt32) from own_nar_byte _] at V15
                have O15' := O13'.wr W15 hg
                have N15 := Fr.snoc X15 N13 hg
                refine own_k (T' := T15) (g' := (mkF m 32 #[.val (.ref b), .val (.int (6 : Int32)), .val (.ref d), .val (.int (6 : Int32)), .val (.int (12 : Int32)), .val (.int (6 : Int32)), .val (.int c6)] [])) st15 ?_
                refine own_k (T' := T15) (g' := (mkF m 35 #[.val (.ref b), .val (.int ((6 : Int32) + (1 : Int32))), .val (.ref d), .val (.int (6 : Int32)), .val (.int (12 : Int32)), .val (.int (6 : Int32)), .val (.int c6)] [])) (fun _ k_ => XS.iinc X15.here hx rfl (hb hby d6_32) rfl (l' := #[.val (.ref b), .val (.int ((6 : Int32) + (1 : Int32))), .val (.ref d), .val (.int (6 : Int32)), .val (.int (12 : Int32)), .val (.int (6 : Int32)), .val (.int c6)]) rfl k_) ?_
                rw [show ((6 : Int32) + (1 : Int32)) = (7 : Int32) from by decide]
                refine own_k (T' := T15) (g' := (mkF m 38 #[.val (.ref b), .val (.int (7 : Int32)), .val (.ref d), .val (.int ((6 : Int32) + (1 : Int32))), .val (.int (12 : Int32)), .val (.int (6 : Int32)), .val (.int c6)] [])) (fun _ k_ => XS.iinc X15.here hx rfl (hb hby d6_35) rfl (l' := #[.val (.ref b), .val (.int (7 : Int32)), .val (.ref d), .val (.int ((6 : Int32) + (1 : Int32))), .val (.int (12 : Int32)), .val (.int (6 : Int32)), .val (.int c6)]) rfl k_) ?_
                rw [show ((6 : Int32) + (1 : Int32)) = (7 : Int32) from by decide]
                refine own_k (T' := T15) (g' := (mkF m 41 #[.val (.ref b), .val (.int (7 : Int32)), .val (.ref d), .val (.int (7 : Int32)), .val (.int (12 : Int32)), .val (.int ((6 : Int32) + (1 : Int32))), .val (.int c6)] [])) (fun _ k_ => XS.iinc X15.here hx rfl (hb hby d6_38) rfl (l' := #[.val (.ref b), .val (.int (7 : Int32)), .val (.ref d), .val (.int (7 : Int32)), .val (.int (12 : Int32)), .val (.int ((6 : Int32) + (1 : Int32))), .val (.int c6)]) rfl k_) ?_
                rw [show ((6 : Int32) + (1 : Int32)) = (7 : Int32) from by decide]
                refine own_k (T' := T15) (g' := (mkF m 3 #[.val (.ref b), .val (.int (7 : Int32)), .val (.ref d), .val (.int (7 : Int32)), .val (.int (12 : Int32)), .val (.int (7 : Int32)), .val (.int c6)] [])) (fun _ k_ => XS.goto X15.here hx rfl (pc0 := 41) (pc' := 3) rfl (hb hby d6_41) (by decide) (by decide) k_) ?_
                refine own_k (T' := T15) (g' := (mkF m 5 #[.val (.ref b), .val (.int (7 : Int32)), .val (.ref d), .val (.int (7 : Int32)), .val (.int (12 : Int32)), .val (.int (7 : Int32)), .val (.int c6)] [(.int (7 : Int32))])) (fun _ k_ => XS.iload X15.here hx rfl (hb hby d6_3) rfl  k_) ?_
                refine own_k (T' := T15) (g' := (mkF m 7 #[.val (.ref b), .val (.int (7 : Int32)), .val (.ref d), .val (.int (7 : Int32)), .val (.int (12 : Int32)), .val (.int (7 : Int32)), .val (.int c6)] [(.int (12 : Int32)), (.int (7 : Int32))])) (fun _ k_ => XS.iload X15.here hx rfl (hb hby d6_5) rfl  k_) ?_
                refine own_k (T' := T15) (g' := (mkF m 10 #[.val (.ref b), .val (.int (7 : Int32)), .val (.ref d), .val (.int (7 : Int32)), .val (.int (12 : Int32)), .val (.int (7 : Int32)), .val (.int c6)] [])) (fun _ k_ => XS.icmpNo X15.here hx rfl (hb hby d6_7) rfl ((tlt (by decide : ((7 : Int32) < (12 : Int32)))).2.1) k_) ?_
                refine own_k (T' := T15) (g' := (mkF m 11 #[.val (.ref b), .val (.int (7 : Int32)), .val (.ref d), .val (.int (7 : Int32)), .val (.int (12 : Int32)), .val (.int (7 : Int32)), .val (.int c6)] [(.ref b)])) (fun _ k_ => XS.aloadN X15.here hx rfl (hb hby d6_10) rfl rfl  k_) ?_
                refine own_k (T' := T15) (g' := (mkF m 12 #[.val (.ref b), .val (.int (7 : Int32)), .val (.ref d), .val (.int (7 : Int32)), .val (.int (12 : Int32)), .val (.int (7 : Int32)), .val (.int c6)] [(.int (7 : Int32)), (.ref b)])) (fun _ k_ => XS.iloadN X15.here hx rfl (hb hby d6_11) rfl  k_) ?_
                refine own_caload X15 hx hZ e15 (((f9.other W11 hne).other W13 hne).other W15 hne) (j := (7 : Int32)) ⟨by decide, by decide⟩ (v := (.int c7)) rfl (hb hby d6_12) ?_
                show own_Go p e below Φ T15 (mkF m 13 #[.val (.ref b), .val (.int (7 : Int32)), .val (.ref d), .val (.int (7 : Int32)), .val (.int (12 : Int32)), .val (.int (7 : Int32)), .val (.int c6)] [(.int c7)])
                refine own_k (T' := T15) (g' := (mkF m 15 #[.val (.ref b), .val (.int (7 : Int32)), .val (.ref d), .val (.int (7 : Int32)), .val (.int (12 : Int32)), .val (.int (7 : Int32)), .val (.int c7)] [])) (fun _ k_ => XS.istore X15.here hx rfl (hb hby d6_13) rfl (l' := #[.val (.ref b), .val (.int (7 : Int32)), .val (.ref d), .val (.int (7 : Int32)), .val (.int (12 : Int32)), .val (.int (7 : Int32)), .val (.int c7)]) rfl k_) ?_
                refine own_k (T' := T15) (g' := (mkF m 17 #[.val (.ref b), .val (.int (7 : Int32)), .val (.ref d), .val (.int (7 : Int32)), .val (.int (12 : Int32)), .val (.int (7 : Int32)), .val (.int c7)] [(.int c7)])) (fun _ k_ => XS.iload X15.here hx rfl (hb hby d6_15) rfl  k_) ?_
                refine own_k (T' := T15) (g' := (mkF m 20 #[.val (.ref b), .val (.int (7 : Int32)), .val (.ref d), .val (.int (7 : Int32)), .val (.int (12 : Int32)), .val (.int (7 : Int32)), .val (.int c7)] [(.int (255 : Int32)), (.int c7)])) (fun _ k_ => XS.sipush X15.here hx rfl (hb hby d6_17) k_) ?_
                by_cases hc16 : (255 : Int32) < c7
                · refine own_k (T' := T15) (g' := (mkF m 23 #[.val (.ref b), .val (.int (7 : Int32)), .val (.ref d), .val (.int (7 : Int32)), .val (.int (12 : Int32)), .val (.int (7 : Int32)), .val (.int c7)] [])) (fun _ k_ => XS.icmpNo X15.here hx rfl (hb hby d6_20) rfl ((tlt hc16).2.2.2) k_) ?_
                  refine own_k (T' := T15) (g' := (mkF m 25 #[.val (.ref b), .val (.int (7 : Int32)), .val (.ref d), .val (.int (7 : Int32)), .val (.int (12 : Int32)), .val (.int (7 : Int32)), .val (.int c7)] [(.int (7 : Int32))])) (fun _ k_ => XS.iload X15.here hx rfl (hb hby d6_23) rfl  k_) ?_
                  have kp0 : Keep h0 h0 [d] := Keep.refl h0 [d]
                  have kp1 : Keep h0 h2 [d] := kp0.wr W2 (Or.inl (List.mem_of_getElem? (i := 0) rfl))
                  have kp2 : Keep h0 h4 [d] := kp1.wr W4 (Or.inl (List.mem_of_getElem? (i := 0) rfl))
                  have kp3 : Keep h0 h6 [d] := kp2.wr W6 (Or.inl (List.mem_of_getElem? (i := 0) rfl))
                  have kp4 : Keep h0 h8 [d] := kp3.wr W8 (Or.inl (List.mem_of_getElem? (i := 0) rfl))
                  have kp5 : Keep h0 h11 [d] := kp4.wr W11 (Or.inl (List.mem_of_getElem? (i := 0) rfl))
                  have kp6 : Keep h0 h13 [d] := kp5.wr W13 (Or.inl (List.mem_of_getElem? (i := 0) rfl))
                  have kp7 : Keep h0 h15 [d] := kp6.wr W15 (Or.inl (List.mem_of_getElem? (i := 0) rfl))
                  exact own_retI X15 hx hret hlk (hb hby d6_25) hF (by rw [e15]; exact ⟨⟨(7 : Int32), rfl, Or.inr ⟨by decide, by decide, hc16⟩⟩, N15, kp7⟩) (by decide) (by decide)
                · refine own_k (T' := T15) (g' := (mkF m 26 #[.val (.ref b), .val (.int (7 : Int32)), .val (.ref d), .val (.int (7 : Int32)), .val (.int (12 : Int32)), .val (.int (7 : Int32)), .val (.int c7)] [])) (fun _ k_ => XS.icmpYes X15.here hx rfl (pc0 := 20) (pc' := 26) rfl (hb hby d6_20) rfl ((flt hc16).2.2.2) (by decide) (by decide) k_) ?_
                  refine own_k (T' := T15) (g' := (mkF m 27 #[.val (.ref b), .val (.int (7 : Int32)), .val (.ref d), .val (.int (7 : Int32)), .val (.int (12 : Int32)), .val (.int (7 : Int32)), .val (.int c7)] [(.ref d)])) (fun _ k_ => XS.aloadN X15.here hx rfl (hb hby d6_26) rfl rfl  k_) ?_
                  refine own_k (T' := T15) (g' := (mkF m 28 #[.val (.ref b), .val (.int (7 : Int32)), .val (.ref d), .val (.int (7 : Int32)), .val (.int (12 : Int32)), .val (.int (7 : Int32)), .val (.int c7)] [(.int (7 : Int32)), (.ref d)])) (fun _ k_ => XS.iloadN X15.here hx rfl (hb hby d6_27) rfl  k_) ?_
                  refine own_k (T' := T15) (g' := (mkF m 30 #[.val (.ref b), .val (.int (7 : Int32)), .val (.ref d), .val (.int (7 : Int32)), .val (.int (12 : Int32)), .val (.int (7 : Int32)), .val (.int c7)] [(.int c7), (.int (7 : Int32)), (.ref d)])) (fun _ k_ => XS.iload X15.here hx rfl (hb hby d6_28) rfl  k_) ?_
                  refine own_k (T' := T15) (g' := (mkF m 31 #[.val (.ref b), .val (.int (7 : Int32)), .val (.ref d), .val (.int (7 : Int32)), .val (.int (12 : Int32)), .val (.int (7 : Int32)), .val (.int c7)] [(.int (c7.toInt8.toInt32)), (.int (7 : Int32)), (.ref d)])) (fun _ k_ => XS.i2b X15.here hx rfl (hb hby d6_30) rfl k_) ?_
                  obtain ⟨T17, h17, X17, e17, W17, V17, st17⟩ := own_bastore (pc := 31) (Ls := #[.val (.ref b), .val (.int (7 : Int32)), .val (.ref d), .val (.int (7 : Int32)), .val (.int (12 : Int32)), .val (.int (7 : Int32)), .val (.int c7)]) (rest := []) X15 hx hZ e15 V15 (j := (7 : Int32)) (x := (c7.toInt8.toInt32)) ⟨by decide, by decide⟩ 7 rfl (Nat.le_of_ble_eq_true rfl) (hb hby d6_31)
                  have V17 : Arv Z h17 d kd .byte (12 : Int32) [(.int (c0.toInt8.toInt32)), (.int (c1.toInt8.toInt32)), (.int (c2.toInt8.toInt32)), (.int (c3.toInt8.toInt32)), (.int (c4.toInt8.toInt32)), (.int (c5.toInt8.toInt32)), (.int (c6.toInt8.toInt32)), (.int (nar .byte (c7.toInt8.toInt32))), (.int (0 : Int32)), (.int (0 : Int32)), (.int (0 : Int32)), (.int (0 : Int32))] (.int (0 : Int32)) := V17
                  rw [show nar .byte (c7.toInt8.toInt32) = (c7.toInt8.toInt32) from own_nar_byte _] at V17
                  have O17' := O15'.wr W17 hg
                  have N17 := Fr.snoc X17 N15 hg
                  refine own_k (T' := T17) (g' := (mkF m 32 #[.val (.ref b), .val (.int (7 : Int32)), .val (.ref d), .val (.int (7 : Int32)), .val (.int (12 : Int32)), .val (.int (7 : Int32)), .val (.int c7)] [])) st17 ?_
                  refine own_k (T' := T17) (g' := (mkF m 35 #[.val (.ref b), .val (.int ((7 : Int32) + (1 : Int32))), .val (.ref d), .val (.int (7 : Int32)), .val (.int (12 : Int32)), .val (.int (7 : Int32)), .val (.int c7)] [])) (fun _ k_ => XS.iinc X17.here hx rfl (hb hby d6_32) rfl (l' := #[.val (.ref b), .val (.int ((7 : Int32) + (1 : Int32))), .val (.ref d), .val (.int (7 : Int32)), .val (.int (12 : Int32)), .val (.int (7 : Int32)), .val (.int c7)]) rfl k_) ?_
                  rw [show ((7 : Int32) + (1 : Int32)) = (8 : Int32) from by decide]
                  refine own_k (T' := T17) (g' := (mkF m 38 #[.val (.ref b), .val (.int (8 : Int32)), .val (.ref d), .val (.int ((7 : Int32) + (1 : Int32))), .val (.int (12 : Int32)), .val (.int (7 : Int32)), .val (.int c7)] [])) (fun _ k_ => XS.iinc X17.here hx rfl (hb hby d6_35) rfl (l' := #[.val (.ref b), .val (.int (8 : Int32)), .val (.ref d), .val (.int ((7 : Int32) + (1 : Int32))), .val (.int (12 : Int32)), .val (.int (7 : Int32)), .val (.int c7)]) rfl k_) ?_
                  rw [show ((7 : Int32) + (1 : Int32)) = (8 : Int32) from by decide]
                  refine own_k (T' := T17) (g' := (mkF m 41 #[.val (.ref b), .val (.int (8 : Int32)), .val (.ref d), .val (.int (8 : Int32)), .val (.int (12 : Int32)), .val (.int ((7 : Int32) + (1 : Int32))), .val (.int c7)] [])) (fun _ k_ => XS.iinc X17.here hx rfl (hb hby d6_38) rfl (l' := #[.val (.ref b), .val (.int (8 : Int32)), .val (.ref d), .val (.int (8 : Int32)), .val (.int (12 : Int32)), .val (.int ((7 : Int32) + (1 : Int32))), .val (.int c7)]) rfl k_) ?_
                  rw [show ((7 : Int32) + (1 : Int32)) = (8 : Int32) from by decide]
                  refine own_k (T' := T17) (g' := (mkF m 3 #[.val (.ref b), .val (.int (8 : Int32)), .val (.ref d), .val (.int (8 : Int32)), .val (.int (12 : Int32)), .val (.int (8 : Int32)), .val (.int c7)] [])) (fun _ k_ => XS.goto X17.here hx rfl (pc0 := 41) (pc' := 3) rfl (hb hby d6_41) (by decide) (by decide) k_) ?_
                  refine own_k (T' := T17) (g' := (mkF m 5 #[.val (.ref b), .val (.int (8 : Int32)), .val (.ref d), .val (.int (8 : Int32)), .val (.int (12 : Int32)), .val (.int (8 : Int32)), .val (.int c7)] [(.int (8 : Int32))])) (fun _ k_ => XS.iload X17.here hx rfl (hb hby d6_3) rfl  k_) ?_
                  refine own_k (T' := T17) (g' := (mkF m 7 #[.val (.ref b), .val (.int (8 : Int32)), .val (.ref d), .val (.int (8 : Int32)), .val (.int (12 : Int32)), .val (.int (8 : Int32)), .val (.int c7)] [(.int (12 : Int32)), (.int (8 : Int32))])) (fun _ k_ => XS.iload X17.here hx rfl (hb hby d6_5) rfl  k_) ?_
                  refine own_k (T' := T17) (g' := (mkF m 10 #[.val (.ref b), .val (.int (8 : Int32)), .val (.ref d), .val (.int (8 : Int32)), .val (.int (12 : Int32)), .val (.int (8 : Int32)), .val (.int c7)] [])) (fun _ k_ => XS.icmpNo X17.here hx rfl (hb hby d6_7) rfl ((tlt (by decide : ((8 : Int32) < (12 : Int32)))).2.1) k_) ?_
                  refine own_k (T' := T17) (g' := (mkF m 11 #[.val (.ref b), .val (.int (8 : Int32)), .val (.ref d), .val (.int (8 : Int32)), .val (.int (12 : Int32)), .val (.int (8 : Int32)), .val (.int c7)] [(.ref b)])) (fun _ k_ => XS.aloadN X17.here hx rfl (hb hby d6_10) rfl rfl  k_) ?_
                  refine own_k (T' := T17) (g' := (mkF m 12 #[.val (.ref b), .val (.int (8 : Int32)), .val (.ref d), .val (.int (8 : Int32)), .val (.int (12 : Int32)), .val (.int (8 : Int32)), .val (.int c7)] [(.int (8 : Int32)), (.ref b)])) (fun _ k_ => XS.iloadN X17.here hx rfl (hb hby d6_11) rfl  k_) ?_
                  have f18 := ((((f9.other W11 hne).other W13 hne).other W15 hne).other W17 hne)
                  refine own_caload X17 hx hZ e17 f18 (j := (8 : Int32)) ⟨by decide, by decide⟩ (v := (.int c8)) rfl (hb hby d6_12) ?_
                  show own_Go p e below Φ T17 (mkF m 13 #[.val (.ref b), .val (.int (8 : Int32)), .val (.ref d), .val (.int (8 : Int32)), .val (.int (12 : Int32)), .val (.int (8 : Int32)), .val (.int c7)] [(.int c8)])
                  refine own_k (T' := T17) (g' := (mkF m 15 #[.val (.ref b), .val (.int (8 : Int32)), .val (.ref d), .val (.int (8 : Int32)), .val (.int (12 : Int32)), .val (.int (8 : Int32)), .val (.int c8)] [])) (fun _ k_ => XS.istore X17.here hx rfl (hb hby d6_13) rfl (l' := #[.val (.ref b), .val (.int (8 : Int32)), .val (.ref d), .val (.int (8 : Int32)), .val (.int (12 : Int32)), .val (.int (8 : Int32)), .val (.int c8)]) rfl k_) ?_
                  refine own_k (T' := T17) (g' := (mkF m 17 #[.val (.ref b), .val (.int (8 : Int32)), .val (.ref d), .val (.int (8 : Int32)), .val (.int (12 : Int32)), .val (.int (8 : Int32)), .val (.int c8)] [(.int c8)])) (fun _ k_ => XS.iload X17.here hx rfl (hb hby d6_15) rfl  k_) ?_
                  refine own_k (T' := T17) (g' := (mkF m 20 #[.val (.ref b), .val (.int (8 : Int32)), .val (.ref d), .val (.int (8 : Int32)), .val (.int (12 : Int32)), .val (.int (8 : Int32)), .val (.int c8)] [(.int (255 : Int32)), (.int c8)])) (fun _ k_ => XS.sipush X17.here hx rfl (hb hby d6_17) k_) ?_
                  by_cases hc19 : (255 : Int32) < c8
                  · refine own_k (T' := T17) (g' := (mkF m 23 #[.val (.ref b), .val (.int (8 : Int32)), .val (.ref d), .val (.int (8 : Int32)), .val (.int (12 : Int32)), .val (.int (8 : Int32)), .val (.int c8)] [])) (fun _ k_ => XS.icmpNo X17.here hx rfl (hb hby d6_20) rfl ((tlt hc19).2.2.2) k_) ?_
                    refine own_k (T' := T17) (g' := (mkF m 25 #[.val (.ref b), .val (.int (8 : Int32)), .val (.ref d), .val (.int (8 : Int32)), .val (.int (12 : Int32)), .val (.int (8 : Int32)), .val (.int c8)] [(.int (8 : Int32))])) (fun _ k_ => XS.iload X17.here hx rfl (hb hby d6_23) rfl  k_) ?_
                    have kp0 : Keep h0 h0 [d] := Keep.refl h0 [d]
                    have kp1 : Keep h0 h2 [d] := kp0.wr W2 (Or.inl (List.mem_of_getElem? (i := 0) rfl))
                    have kp2 : Keep h0 h4 [d] := kp1.wr W4 (Or.inl (List.mem_of_getElem? (i := 0) rfl))
                    have kp3 : Keep h0 h6 [d] := kp2.wr W6 (Or.inl (List.mem_of_getElem? (i := 0) rfl))
                    have kp4 : Keep h0 h8 [d] := kp3.wr W8 (Or.inl (List.mem_of_getElem? (i := 0) rfl))
                    have kp5 : Keep h0 h11 [d] := kp4.wr W11 (Or.inl (List.mem_of_getElem? (i := 0) rfl))
                    have kp6 : Keep h0 h13 [d] := kp5.wr W13 (Or.inl (List.mem_of_getElem? (i := 0) rfl))
                    have kp7 : Keep h0 h15 [d] := kp6.wr W15 (Or.inl (List.mem_of_getElem? (i := 0) rfl))
                    have kp8 : Keep h0 h17 [d] := kp7.wr W17 (Or.inl (List.mem_of_getElem? (i := 0) rfl))
                    exact own_retI X17 hx hret hlk (hb hby d6_25) hF (by rw [e17]; exact ⟨⟨(8 : Int32), rfl, Or.inr ⟨by decide, by decide, hc19⟩⟩, N17, kp8⟩) (by decide) (by decide)
                  · refine own_k (T' := T17) (g' := (mkF m 26 #[.val (.ref b), .val (.int (8 : Int32)), .val (.ref d), .val (.int (8 : Int32)), .val (.int (12 : Int32)), .val (.int (8 : Int32)), .val (.int c8)] [])) (fun _ k_ => XS.icmpYes X17.here hx rfl (pc0 := 20) (pc' := 26) rfl (hb hby d6_20) rfl ((flt hc19).2.2.2) (by decide) (by decide) k_) ?_
                    refine own_k (T' := T17) (g' := (mkF m 27 #[.val (.ref b), .val (.int (8 : Int32)), .val (.ref d), .val (.int (8 : Int32)), .val (.int (12 : Int32)), .val (.int (8 : Int32)), .val (.int c8)] [(.ref d)])) (fun _ k_ => XS.aloadN X17.here hx rfl (hb hby d6_26) rfl rfl  k_) ?_
                    refine own_k (T' := T17) (g' := (mkF m 28 #[.val (.ref b), .val (.int (8 : Int32)), .val (.ref d), .val (.int (8 : Int32)), .val (.int (12 : Int32)), .val (.int (8 : Int32)), .val (.int c8)] [(.int (8 : Int32)), (.ref d)])) (fun _ k_ => XS.iloadN X17.here hx rfl (hb hby d6_27) rfl  k_) ?_
                    refine own_k (T' := T17) (g' := (mkF m 30 #[.val (.ref b), .val (.int (8 : Int32)), .val (.ref d), .val (.int (8 : Int32)), .val (.int (12 : Int32)), .val (.int (8 : Int32)), .val (.int c8)] [(.int c8), (.int (8 : Int32)), (.ref d)])) (fun _ k_ => XS.iload X17.here hx rfl (hb hby d6_28) rfl  k_) ?_
                    refine own_k (T' := T17) (g' := (mkF m 31 #[.val (.ref b), .val (.int (8 : Int32)), .val (.ref d), .val (.int (8 : Int32)), .val (.int (12 : Int32)), .val (.int (8 : Int32)), .val (.int c8)] [(.int (c8.toInt8.toInt32)), (.int (8 : Int32)), (.ref d)])) (fun _ k_ => XS.i2b X17.here hx rfl (hb hby d6_30) rfl k_) ?_
                    obtain ⟨T20, h20, X20, e20, W20, V20, st20⟩ := own_bastore (pc := 31) (Ls := #[.val (.ref b), .val (.int (8 : Int32)), .val (.ref d), .val (.int (8 : Int32)), .val (.int (12 : Int32)), .val (.int (8 : Int32)), .val (.int c8)]) (rest := []) X17 hx hZ e17 V17 (j := (8 : Int32)) (x := (c8.toInt8.toInt32)) ⟨by decide, by decide⟩ 8 rfl (Nat.le_of_ble_eq_true rfl) (hb hby d6_31)
                    have V20 : Arv Z h20 d kd .byte (12 : Int32) [(.int (c0.toInt8.toInt32)), (.int (c1.toInt8.toInt32)), (.int (c2.toInt8.toInt32)), (.int (c3.toInt8.toInt32)), (.int (c4.toInt8.toInt32)), (.int (c5.toInt8.toInt32)), (.int (c6.toInt8.toInt32)), (.int (c7.toInt8.toInt32)), (.int (nar .byte (c8.toInt8.toInt32))), (.int (0 : Int32)), (.int (0 : Int32)), (.int (0 : Int32))] (.int (0 : Int32)) := V20
                    rw [show nar .byte (c8.toInt8.toInt32) = (c8.toInt8.toInt32) from own_nar_byte _] at V20
                    have O20' := O17'.wr W20 hg
                    have N20 := Fr.snoc X20 N17 hg
                    refine own_k (T' := T20) (g' := (mkF m 32 #[.val (.ref b), .val (.int (8 : Int32)), .val (.ref d), .val (.int (8 : Int32)), .val (.int (12 : Int32)), .val (.int (8 : Int32)), .val (.int c8)] [])) st20 ?_
                    refine own_k (T' := T20) (g' := (mkF m 35 #[.val (.ref b), .val (.int ((8 : Int32) + (1 : Int32))), .val (.ref d), .val (.int (8 : Int32)), .val (.int (12 : Int32)), .val (.int (8 : Int32)), .val (.int c8)] [])) (fun _ k_ => XS.iinc X20.here hx rfl (hb hby d6_32) rfl (l' := #[.val (.ref b), .val (.int ((8 : Int32) + (1 : Int32))), .val (.ref d), .val (.int (8 : Int32)), .val (.int (12 : Int32)), .val (.int (8 : Int32)), .val (.int c8)]) rfl k_) ?_
                    rw [show ((8 : Int32) + (1 : Int32)) = (9 : Int32) from by decide]
                    refine own_k (T' := T20) (g' := (mkF m 38 #[.val (.ref b), .val (.int (9 : Int32)), .val (.ref d), .val (.int ((8 : Int32) + (1 : Int32))), .val (.int (12 : Int32)), .val (.int (8 : Int32)), .val (.int c8)] [])) (fun _ k_ => XS.iinc X20.here hx rfl (hb hby d6_35) rfl (l' := #[.val (.ref b), .val (.int (9 : Int32)), .val (.ref d), .val (.int ((8 : Int32) + (1 : Int32))), .val (.int (12 : Int32)), .val (.int (8 : Int32)), .val (.int c8)]) rfl k_) ?_
                    rw [show ((8 : Int32) + (1 : Int32)) = (9 : Int32) from by decide]
                    refine own_k (T' := T20) (g' := (mkF m 41 #[.val (.ref b), .val (.int (9 : Int32)), .val (.ref d), .val (.int (9 : Int32)), .val (.int (12 : Int32)), .val (.int ((8 : Int32) + (1 : Int32))), .val (.int c8)] [])) (fun _ k_ => XS.iinc X20.here hx rfl (hb hby d6_38) rfl (l' := #[.val (.ref b), .val (.int (9 : Int32)), .val (.ref d), .val (.int (9 : Int32)), .val (.int (12 : Int32)), .val (.int ((8 : Int32) + (1 : Int32))), .val (.int c8)]) rfl k_) ?_
                    rw [show ((8 : Int32) + (1 : Int32)) = (9 : Int32) from by decide]
                    refine own_k (T' := T20) (g' := (mkF m 3 #[.val (.ref b), .val (.int (9 : Int32)), .val (.ref d), .val (.int (9 : Int32)), .val (.int (12 : Int32)), .val (.int (9 : Int32)), .val (.int c8)] [])) (fun _ k_ => XS.goto X20.here hx rfl (pc0 := 41) (pc' := 3) rfl (hb hby d6_41) (by decide) (by decide) k_) ?_
                    refine own_k (T' := T20) (g' := (mkF m 5 #[.val (.ref b), .val (.int (9 : Int32)), .val (.ref d), .val (.int (9 : Int32)), .val (.int (12 : Int32)), .val (.int (9 : Int32)), .val (.int c8)] [(.int (9 : Int32))])) (fun _ k_ => XS.iload X20.here hx rfl (hb hby d6_3) rfl  k_) ?_
                    refine own_k (T' := T20) (g' := (mkF m 7 #[.val (.ref b), .val (.int (9 : Int32)), .val (.ref d), .val (.int (9 : Int32)), .val (.int (12 : Int32)), .val (.int (9 : Int32)), .val (.int c8)] [(.int (12 : Int32)), (.int (9 : Int32))])) (fun _ k_ => XS.iload X20.here hx rfl (hb hby d6_5) rfl  k_) ?_
                    refine own_k (T' := T20) (g' := (mkF m 10 #[.val (.ref b), .val (.int (9 : Int32)), .val (.ref d), .val (.int (9 : Int32)), .val (.int (12 : Int32)), .val (.int (9 : Int32)), .val (.int c8)] [])) (fun _ k_ => XS.icmpNo X20.here hx rfl (hb hby d6_7) rfl ((tlt (by decide : ((9 : Int32) < (12 : Int32)))).2.1) k_) ?_
                    refine own_k (T' := T20) (g' := (mkF m 11 #[.val (.ref b), .val (.int (9 : Int32)), .val (.ref d), .val (.int (9 : Int32)), .val (.int (12 : Int32)), .val (.int (9 : Int32)), .val (.int c8)] [(.ref b)])) (fun _ k_ => XS.aloadN X20.here hx rfl (hb hby d6_10) rfl rfl  k_) ?_
                    refine own_k (T' := T20) (g' := (mkF m 12 #[.val (.ref b), .val (.int (9 : Int32)), .val (.ref d), .val (.int (9 : Int32)), .val (.int (12 : Int32)), .val (.int (9 : Int32)), .val (.int c8)] [(.int (9 : Int32)), (.ref b)])) (fun _ k_ => XS.iloadN X20.here hx rfl (hb hby d6_11) rfl  k_) ?_
                    refine own_caload X20 hx hZ e20 (f18.other W20 hne) (j := (9 : Int32)) ⟨by decide, by decide⟩ (v := (.int c9)) rfl (hb hby d6_12) ?_
                    show own_Go p e below Φ T20 (mkF m 13 #[.val (.ref b), .val (.int (9 : Int32)), .val (.ref d), .val (.int (9 : Int32)), .val (.int (12 : Int32)), .val (.int (9 : Int32)), .val (.int c8)] [(.int c9)])
                    refine own_k (T' := T20) (g' := (mkF m 15 #[.val (.ref b), .val (.int (9 : Int32)), .val (.ref d), .val (.int (9 : Int32)), .val (.int (12 : Int32)), .val (.int (9 : Int32)), .val (.int c9)] [])) (fun _ k_ => XS.istore X20.here hx rfl (hb hby d6_13) rfl (l' := #[.val (.ref b), .val (.int (9 : Int32)), .val (.ref d), .val (.int (9 : Int32)), .val (.int (12 : Int32)), .val (.int (9 : Int32)), .val (.int c9)]) rfl k_) ?_
                    refine own_k (T' := T20) (g' := (mkF m 17 #[.val (.ref b), .val (.int (9 : Int32)), .val (.ref d), .val (.int (9 : Int32)), .val (.int (12 : Int32)), .val (.int (9 : Int32)), .val (.int c9)] [(.int c9)])) (fun _ k_ => XS.iload X20.here hx rfl (hb hby d6_15) rfl  k_) ?_
                    refine own_k (T' := T20) (g' := (mkF m 20 #[.val (.ref b), .val (.int (9 : Int32)), .val (.ref d), .val (.int (9 : Int32)), .val (.int (12 : Int32)), .val (.int (9 : Int32)), .val (.int c9)] [(.int (255 : Int32)), (.int c9)])) (fun _ k_ => XS.sipush X20.here hx rfl (hb hby d6_17) k_) ?_
                    by_cases hc21 : (255 : Int32) < c9
                    · refine own_k (T' := T20) (g' := (mkF m 23 #[.val (.ref b), .val (.int (9 : Int32)), .val (.ref d), .val (.int (9 : Int32)), .val (.int (12 : Int32)), .val (.int (9 : Int32)), .val (.int c9)] [])) (fun _ k_ => XS.icmpNo X20.here hx rfl (hb hby d6_20) rfl ((tlt hc21).2.2.2) k_) ?_
                      refine own_k (T' := T20) (g' := (mkF m 25 #[.val (.ref b), .val (.int (9 : Int32)), .val (.ref d), .val (.int (9 : Int32)), .val (.int (12 : Int32)), .val (.int (9 : Int32)), .val (.int c9)] [(.int (9 : Int32))])) (fun _ k_ => XS.iload X20.here hx rfl (hb hby d6_23) rfl  k_) ?_
                      have kp0 : Keep h0 h0 [d] := Keep.refl h0 [d]
                      have kp1 : Keep h0 h2 [d] := kp0.wr W2 (Or.inl (List.mem_of_getElem? (i := 0) rfl))
                      have kp2 : Keep h0 h4 [d] := kp1.wr W4 (Or.inl (List.mem_of_getElem? (i := 0) rfl))
                      have kp3 : Keep h0 h6 [d] := kp2.wr W6 (Or.inl (List.mem_of_getElem? (i := 0) rfl))
                      have kp4 : Keep h0 h8 [d] := kp3.wr W8 (Or.inl (List.mem_of_getElem? (i := 0) rfl))
                      have kp5 : Keep h0 h11 [d] := kp4.wr W11 (Or.inl (List.mem_of_getElem? (i := 0) rfl))
                      have kp6 : Keep h0 h13 [d] := kp5.wr W13 (Or.inl (List.mem_of_getElem? (i := 0) rfl))
                      have kp7 : Keep h0 h15 [d] := kp6.wr W15 (Or.inl (List.mem_of_getElem? (i := 0) rfl))
                      have kp8 : Keep h0 h17 [d] := kp7.wr W17 (Or.inl (List.mem_of_getElem? (i := 0) rfl))
                      have kp9 : Keep h0 h20 [d] := kp8.wr W20 (Or.inl (List.mem_of_getElem? (i := 0) rfl))
                      exact own_retI X20 hx hret hlk (hb hby d6_25) hF (by rw [e20]; exact ⟨⟨(9 : Int32), rfl, Or.inr ⟨by decide, by decide, hc21⟩⟩, N20, kp9⟩) (by decide) (by decide)
                    · refine own_k (T' := T20) (g' := (mkF m 26 #[.val (.ref b), .val (.int (9 : Int32)), .val (.ref d), .val (.int (9 : Int32)), .val (.int (12 : Int32)), .val (.int (9 : Int32)), .val (.int c9)] [])) (fun _ k_ => XS.icmpYes X20.here hx rfl (pc0 := 20) (pc' := 26) rfl (hb hby d6_20) rfl ((flt hc21).2.2.2) (by decide) (by decide) k_) ?_
                      refine own_k (T' := T20) (g' := (mkF m 27 #[.val (.ref b), .val (.int (9 : Int32)), .val (.ref d), .val (.int (9 : Int32)), .val (.int (12 : Int32)), .val (.int (9 : Int32)), .val (.int c9)] [(.ref d)])) (fun _ k_ => XS.aloadN X20.here hx rfl (hb hby d6_26) rfl rfl  k_) ?_
                      refine own_k (T' := T20) (g' := (mkF m 28 #[.val (.ref b), .val (.int (9 : Int32)), .val (.ref d), .val (.int (9 : Int32)), .val (.int (12 : Int32)), .val (.int (9 : Int32)), .val (.int c9)] [(.int (9 : Int32)), (.ref d)])) (fun _ k_ => XS.iloadN X20.here hx rfl (hb hby d6_27) rfl  k_) ?_
                      refine own_k (T' := T20) (g' := (mkF m 30 #[.val (.ref b), .val (.int (9 : Int32)), .val (.ref d), .val (.int (9 : Int32)), .val (.int (12 : Int32)), .val (.int (9 : Int32)), .val (.int c9)] [(.int c9), (.int (9 : Int32)), (.ref d)])) (fun _ k_ => XS.iload X20.here hx rfl (hb hby d6_28) rfl  k_) ?_
                      refine own_k (T' := T20) (g' := (mkF m 31 #[.val (.ref b), .val (.int (9 : Int32)), .val (.ref d), .val (.int (9 : Int32)), .val (.int (12 : Int32)), .val (.int (9 : Int32)), .val (.int c9)] [(.int (c9.toInt8.toInt32)), (.int (9 : Int32)), (.ref d)])) (fun _ k_ => XS.i2b X20.here hx rfl (hb hby d6_30) rfl k_) ?_
                      obtain ⟨T22, h22, X22, e22, W22, V22, st22⟩ := own_bastore (pc := 31) (Ls := #[.val (.ref b), .val (.int (9 : Int32)), .val (.ref d), .val (.int (9 : Int32)), .val (.int (12 : Int32)), .val (.int (9 : Int32)), .val (.int c9)]) (rest := []) X20 hx hZ e20 V20 (j := (9 : Int32)) (x := (c9.toInt8.toInt32)) ⟨by decide, by decide⟩ 9 rfl (Nat.le_of_ble_eq_true rfl) (hb hby d6_31)
                      have V22 : Arv Z h22 d kd .byte (12 : Int32) [(.int (c0.toInt8.toInt32)), (.int (c1.toInt8.toInt32)), (.int (c2.toInt8.toInt32)), (.int (c3.toInt8.toInt32)), (.int (c4.toInt8.toInt32)), (.int (c5.toInt8.toInt32)), (.int (c6.toInt8.toInt32)), (.int (c7.toInt8.toInt32)), (.int (c8.toInt8.toInt32)), (.int (nar .byte (c9.toInt8.toInt32))), (.int (0 : Int32)), (.int (0 : Int32))] (.int (0 : Int32)) := V22
                      rw [show nar .byte (c9.toInt8.toInt32) = (c9.toInt8.toInt32) from own_nar_byte _] at V22
                      have O22' := O20'.wr W22 hg
                      have N22 := Fr.snoc X22 N20 hg
                      refine own_k (T' := T22) (g' := (mkF m 32 #[.val (.ref b), .val (.int (9 : Int32)), .val (.ref d), .val (.int (9 : Int32)), .val (.int (12 : Int32)), .val (.int (9 : Int32)), .val (.int c9)] [])) st22 ?_
                      refine own_k (T' := T22) (g' := (mkF m 35 #[.val (.ref b), .val (.int ((9 : Int32) + (1 : Int32))), .val (.ref d), .val (.int (9 : Int32)), .val (.int (12 : Int32)), .val (.int (9 : Int32)), .val (.int c9)] [])) (fun _ k_ => XS.iinc X22.here hx rfl (hb hby d6_32) rfl (l' := #[.val (.ref b), .val (.int ((9 : Int32) + (1 : Int32))), .val (.ref d), .val (.int (9 : Int32)), .val (.int (12 : Int32)), .val (.int (9 : Int32)), .val (.int c9)]) rfl k_) ?_
                      rw [show ((9 : Int32) + (1 : Int32)) = (10 : Int32) from by decide]
                      refine own_k (T' := T22) (g' := (mkF m 38 #[.val (.ref b), .val (.int (10 : Int32)), .val (.ref d), .val (.int ((9 : Int32) + (1 : Int32))), .val (.int (12 : Int32)), .val (.int (9 : Int32)), .val (.int c9)] [])) (fun _ k_ => XS.iinc X22.here hx rfl (hb hby d6_35) rfl (l' := #[.val (.ref b), .val (.int (10 : Int32)), .val (.ref d), .val (.int ((9 : Int32) + (1 : Int32))), .val (.int (12 : Int32)), .val (.int (9 : Int32)), .val (.int c9)]) rfl k_) ?_
                      rw [show ((9 : Int32) + (1 : Int32)) = (10 : Int32) from by decide]
                      refine own_k (T' := T22) (g' := (mkF m 41 #[.val (.ref b), .val (.int (10 : Int32)), .val (.ref d), .val (.int (10 : Int32)), .val (.int (12 : Int32)), .val (.int ((9 : Int32) + (1 : Int32))), .val (.int c9)] [])) (fun _ k_ => XS.iinc X22.here hx rfl (hb hby d6_38) rfl (l' := #[.val (.ref b), .val (.int (10 : Int32)), .val (.ref d), .val (.int (10 : Int32)), .val (.int (12 : Int32)), .val (.int ((9 : Int32) + (1 : Int32))), .val (.int c9)]) rfl k_) ?_
                      rw [show ((9 : Int32) + (1 : Int32)) = (10 : Int32) from by decide]
                      refine own_k (T' := T22) (g' := (mkF m 3 #[.val (.ref b), .val (.int (10 : Int32)), .val (.ref d), .val (.int (10 : Int32)), .val (.int (12 : Int32)), .val (.int (10 : Int32)), .val (.int c9)] [])) (fun _ k_ => XS.goto X22.here hx rfl (pc0 := 41) (pc' := 3) rfl (hb hby d6_41) (by decide) (by decide) k_) ?_
                      refine own_k (T' := T22) (g' := (mkF m 5 #[.val (.ref b), .val (.int (10 : Int32)), .val (.ref d), .val (.int (10 : Int32)), .val (.int (12 : Int32)), .val (.int (10 : Int32)), .val (.int c9)] [(.int (10 : Int32))])) (fun _ k_ => XS.iload X22.here hx rfl (hb hby d6_3) rfl  k_) ?_
                      refine own_k (T' := T22) (g' := (mkF m 7 #[.val (.ref b), .val (.int (10 : Int32)), .val (.ref d), .val (.int (10 : Int32)), .val (.int (12 : Int32)), .val (.int (10 : Int32)), .val (.int c9)] [(.int (12 : Int32)), (.int (10 : Int32))])) (fun _ k_ => XS.iload X22.here hx rfl (hb hby d6_5) rfl  k_) ?_
                      refine own_k (T' := T22) (g' := (mkF m 10 #[.val (.ref b), .val (.int (10 : Int32)), .val (.ref d), .val (.int (10 : Int32)), .val (.int (12 : Int32)), .val (.int (10 : Int32)), .val (.int c9)] [])) (fun _ k_ => XS.icmpNo X22.here hx rfl (hb hby d6_7) rfl ((tlt (by decide : ((10 : Int32) < (12 : Int32)))).2.1) k_) ?_
                      refine own_k (T' := T22) (g' := (mkF m 11 #[.val (.ref b), .val (.int (10 : Int32)), .val (.ref d), .val (.int (10 : Int32)), .val (.int (12 : Int32)), .val (.int (10 : Int32)), .val (.int c9)] [(.ref b)])) (fun _ k_ => XS.aloadN X22.here hx rfl (hb hby d6_10) rfl rfl  k_) ?_
                      refine own_k (T' := T22) (g' := (mkF m 12 #[.val (.ref b), .val (.int (10 : Int32)), .val (.ref d), .val (.int (10 : Int32)), .val (.int (12 : Int32)), .val (.int (10 : Int32)), .val (.int c9)] [(.int (10 : Int32)), (.ref b)])) (fun _ k_ => XS.iloadN X22.here hx rfl (hb hby d6_11) rfl  k_) ?_
                      refine own_caload X22 hx hZ e22 ((f18.other W20 hne).other W22 hne) (j := (10 : Int32)) ⟨by decide, by decide⟩ (v := (.int c10)) rfl (hb hby d6_12) ?_
                      show own_Go p e below Φ T22 (mkF m 13 #[.val (.ref b), .val (.int (10 : Int32)), .val (.ref d), .val (.int (10 : Int32)), .val (.int (12 : Int32)), .val (.int (10 : Int32)), .val (.int c9)] [(.int c10)])
                      refine own_k (T' := T22) (g' := (mkF m 15 #[.val (.ref b), .val (.int (10 : Int32)), .val (.ref d), .val (.int (10 : Int32)), .val (.int (12 : Int32)), .val (.int (10 : Int32)), .val (.int c10)] [])) (fun _ k_ => XS.istore X22.here hx rfl (hb hby d6_13) rfl (l' := #[.val (.ref b), .val (.int (10 : Int32)), .val (.ref d), .val (.int (10 : Int32)), .val (.int (12 : Int32)), .val (.int (10 : Int32)), .val (.int c10)]) rfl k_) ?_
                      refine own_k (T' := T22) (g' := (mkF m 17 #[.val (.ref b), .val (.int (10 : Int32)), .val (.ref d), .val (.int (10 : Int32)), .val (.int (12 : Int32)), .val (.int (10 : Int32)), .val (.int c10)] [(.int c10)])) (fun _ k_ => XS.iload X22.here hx rfl (hb hby d6_15) rfl  k_) ?_
                      refine own_k (T' := T22) (g' := (mkF m 20 #[.val (.ref b), .val (.int (10 : Int32)), .val (.ref d), .val (.int (10 : Int32)), .val (.int (12 : Int32)), .val (.int (10 : Int32)), .val (.int c10)] [(.int (255 : Int32)), (.int c10)])) (fun _ k_ => XS.sipush X22.here hx rfl (hb hby d6_17) k_) ?_
                      by_cases hc23 : (255 : Int32) < c10
                      · refine own_k (T' := T22) (g' := (mkF m 23 #[.val (.ref b), .val (.int (10 : Int32)), .val (.ref d), .val (.int (10 : Int32)), .val (.int (12 : Int32)), .val (.int (10 : Int32)), .val (.int c10)] [])) (fun _ k_ => XS.icmpNo X22.here hx rfl (hb hby d6_20) rfl ((tlt hc23).2.2.2) k_) ?_
                        refine own_k (T' := T22) (g' := (mkF m 25 #[.val (.ref b), .val (.int (10 : Int32)), .val (.ref d), .val (.int (10 : Int32)), .val (.int (12 : Int32)), .val (.int (10 : Int32)), .val (.int c10)] [(.int (10 : Int32))])) (fun _ k_ => XS.iload X22.here hx rfl (hb hby d6_23) rfl  k_) ?_
                        have kp0 : Keep h0 h0 [d] := Keep.refl h0 [d]
                        have kp1 : Keep h0 h2 [d] := kp0.wr W2 (Or.inl (List.mem_of_getElem? (i := 0) rfl))
                        have kp2 : Keep h0 h4 [d] := kp1.wr W4 (Or.inl (List.mem_of_getElem? (i := 0) rfl))
                        have kp3 : Keep h0 h6 [d] := kp2.wr W6 (Or.inl (List.mem_of_getElem? (i := 0) rfl))
                        have kp4 : Keep h0 h8 [d] := kp3.wr W8 (Or.inl (List.mem_of_getElem? (i := 0) rfl))
                        have kp5 : Keep h0 h11 [d] := kp4.wr W11 (Or.inl (List.mem_of_getElem? (i := 0) rfl))
                        have kp6 : Keep h0 h13 [d] := kp5.wr W13 (Or.inl (List.mem_of_getElem? (i := 0) rfl))
                        have kp7 : Keep h0 h15 [d] := kp6.wr W15 (Or.inl (List.mem_of_getElem? (i := 0) rfl))
                        have kp8 : Keep h0 h17 [d] := kp7.wr W17 (Or.inl (List.mem_of_getElem? (i := 0) rfl))
                        have kp9 : Keep h0 h20 [d] := kp8.wr W20 (Or.inl (List.mem_of_getElem? (i := 0) rfl))
                        have kp10 : Keep h0 h22 [d] := kp9.wr W22 (Or.inl (List.mem_of_getElem? (i := 0) rfl))
                        exact own_retI X22 hx hret hlk (hb hby d6_25) hF (by rw [e22]; exact ⟨⟨(10 : Int32), rfl, Or.inr ⟨by decide, by decide, hc23⟩⟩, N22, kp10⟩) (by decide) (by decide)
                      · refine own_k (T' := T22) (g' := (mkF m 26 #[.val (.ref b), .val (.int (10 : Int32)), .val (.ref d), .val (.int (10 : Int32)), .val (.int (12 : Int32)), .val (.int (10 : Int32)), .val (.int c10)] [])) (fun _ k_ => XS.icmpYes X22.here hx rfl (pc0 := 20) (pc' := 26) rfl (hb hby d6_20) rfl ((flt hc23).2.2.2) (by decide) (by decide) k_) ?_
                        refine own_k (T' := T22) (g' := (mkF m 27 #[.val (.ref b), .val (.int (10 : Int32)), .val (.ref d), .val (.int (10 : Int32)), .val (.int (12 : Int32)), .val (.int (10 : Int32)), .val (.int c10)] [(.ref d)])) (fun _ k_ => XS.aloadN X22.here hx rfl (hb hby d6_26) rfl rfl  k_) ?_
                        refine own_k (T' := T22) (g' := (mkF m 28 #[.val (.ref b), .val (.int (10 : Int32)), .val (.ref d), .val (.int (10 : Int32)), .val (.int (12 : Int32)), .val (.int (10 : Int32)), .val (.int c10)] [(.int (10 : Int32)), (.ref d)])) (fun _ k_ => XS.iloadN X22.here hx rfl (hb hby d6_27) rfl  k_) ?_
                        refine own_k (T' := T22) (g' := (mkF m 30 #[.val (.ref b), .val (.int (10 : Int32)), .val (.ref d), .val (.int (10 : Int32)), .val (.int (12 : Int32)), .val (.int (10 : Int32)), .val (.int c10)] [(.int c10), (.int (10 : Int32)), (.ref d)])) (fun _ k_ => XS.iload X22.here hx rfl (hb hby d6_28) rfl  k_) ?_
                        refine own_k (T' := T22) (g' := (mkF m 31 #[.val (.ref b), .val (.int (10 : Int32)), .val (.ref d), .val (.int (10 : Int32)), .val (.int (12 : Int32)), .val (.int (10 : Int32)), .val (.int c10)] [(.int (c10.toInt8.toInt32)), (.int (10 : Int32)), (.ref d)])) (fun _ k_ => XS.i2b X22.here hx rfl (hb hby d6_30) rfl k_) ?_
                        obtain ⟨T24, h24, X24, e24, W24, V24, st24⟩ := own_bastore (pc := 31) (Ls := #[.val (.ref b), .val (.int (10 : Int32)), .val (.ref d), .val (.int (10 : Int32)), .val (.int (12 : Int32)), .val (.int (10 : Int32)), .val (.int c10)]) (rest := []) X22 hx hZ e22 V22 (j := (10 : Int32)) (x := (c10.toInt8.toInt32)) ⟨by decide, by decide⟩ 10 rfl (Nat.le_of_ble_eq_true rfl) (hb hby d6_31)
                        have V24 : Arv Z h24 d kd .byte (12 : Int32) [(.int (c0.toInt8.toInt32)), (.int (c1.toInt8.toInt32)), (.int (c2.toInt8.toInt32)), (.int (c3.toInt8.toInt32)), (.int (c4.toInt8.toInt32)), (.int (c5.toInt8.toInt32)), (.int (c6.toInt8.toInt32)), (.int (c7.toInt8.toInt32)), (.int (c8.toInt8.toInt32)), (.int (c9.toInt8.toInt32)), (.int (nar .byte (c10.toInt8.toInt32))), (.int (0 : Int32))] (.int (0 : Int32)) := V24
                        rw [show nar .byte (c10.toInt8.toInt32) = (c10.toInt8.toInt32) from own_nar_byte _] at V24
                        have O24' := O22'.wr W24 hg
                        have N24 := Fr.snoc X24 N22 hg
                        refine own_k (T' := T24) (g' := (mkF m 32 #[.val (.ref b), .val (.int (10 : Int32)), .val (.ref d), .val (.int (10 : Int32)), .val (.int (12 : Int32)), .val (.int (10 : Int32)), .val (.int c10)] [])) st24 ?_
                        refine own_k (T' := T24) (g' := (mkF m 35 #[.val (.ref b), .val (.int ((10 : Int32) + (1 : Int32))), .val (.ref d), .val (.int (10 : Int32)), .val (.int (12 : Int32)), .val (.int (10 : Int32)), .val (.int c10)] [])) (fun _ k_ => XS.iinc X24.here hx rfl (hb hby d6_32) rfl (l' := #[.val (.ref b), .val (.int ((10 : Int32) + (1 : Int32))), .val (.ref d), .val (.int (10 : Int32)), .val (.int (12 : Int32)), .val (.int (10 : Int32)), .val (.int c10)]) rfl k_) ?_
                        rw [show ((10 : Int32) + (1 : Int32)) = (11 : Int32) from by decide]
                        refine own_k (T' := T24) (g' := (mkF m 38 #[.val (.ref b), .val (.int (11 : Int32)), .val (.ref d), .val (.int ((10 : Int32) + (1 : Int32))), .val (.int (12 : Int32)), .val (.int (10 : Int32)), .val (.int c10)] [])) (fun _ k_ => XS.iinc X24.here hx rfl (hb hby d6_35) rfl (l' := #[.val (.ref b), .val (.int (11 : Int32)), .val (.ref d), .val (.int ((10 : Int32) + (1 : Int32))), .val (.int (12 : Int32)), .val (.int (10 : Int32)), .val (.int c10)]) rfl k_) ?_
                        rw [show ((10 : Int32) + (1 : Int32)) = (11 : Int32) from by decide]
                        refine own_k (T' := T24) (g' := (mkF m 41 #[.val (.ref b), .val (.int (11 : Int32)), .val (.ref d), .val (.int (11 : Int32)), .val (.int (12 : Int32)), .val (.int ((10 : Int32) + (1 : Int32))), .val (.int c10)] [])) (fun _ k_ => XS.iinc X24.here hx rfl (hb hby d6_38) rfl (l' := #[.val (.ref b), .val (.int (11 : Int32)), .val (.ref d), .val (.int (11 : Int32)), .val (.int (12 : Int32)), .val (.int ((10 : Int32) + (1 : Int32))), .val (.int c10)]) rfl k_) ?_
                        rw [show ((10 : Int32) + (1 : Int32)) = (11 : Int32) from by decide]
                        refine own_k (T' := T24) (g' := (mkF m 3 #[.val (.ref b), .val (.int (11 : Int32)), .val (.ref d), .val (.int (11 : Int32)), .val (.int (12 : Int32)), .val (.int (11 : Int32)), .val (.int c10)] [])) (fun _ k_ => XS.goto X24.here hx rfl (pc0 := 41) (pc' := 3) rfl (hb hby d6_41) (by decide) (by decide) k_) ?_
                        refine own_k (T' := T24) (g' := (mkF m 5 #[.val (.ref b), .val (.int (11 : Int32)), .val (.ref d), .val (.int (11 : Int32)), .val (.int (12 : Int32)), .val (.int (11 : Int32)), .val (.int c10)] [(.int (11 : Int32))])) (fun _ k_ => XS.iload X24.here hx rfl (hb hby d6_3) rfl  k_) ?_
                        refine own_k (T' := T24) (g' := (mkF m 7 #[.val (.ref b), .val (.int (11 : Int32)), .val (.ref d), .val (.int (11 : Int32)), .val (.int (12 : Int32)), .val (.int (11 : Int32)), .val (.int c10)] [(.int (12 : Int32)), (.int (11 : Int32))])) (fun _ k_ => XS.iload X24.here hx rfl (hb hby d6_5) rfl  k_) ?_
                        refine own_k (T' := T24) (g' := (mkF m 10 #[.val (.ref b), .val (.int (11 : Int32)), .val (.ref d), .val (.int (11 : Int32)), .val (.int (12 : Int32)), .val (.int (11 : Int32)), .val (.int c10)] [])) (fun _ k_ => XS.icmpNo X24.here hx rfl (hb hby d6_7) rfl ((tlt (by decide : ((11 : Int32) < (12 : Int32)))).2.1) k_) ?_
                        refine own_k (T' := T24) (g' := (mkF m 11 #[.val (.ref b), .val (.int (11 : Int32)), .val (.ref d), .val (.int (11 : Int32)), .val (.int (12 : Int32)), .val (.int (11 : Int32)), .val (.int c10)] [(.ref b)])) (fun _ k_ => XS.aloadN X24.here hx rfl (hb hby d6_10) rfl rfl  k_) ?_
                        refine own_k (T' := T24) (g' := (mkF m 12 #[.val (.ref b), .val (.int (11 : Int32)), .val (.ref d), .val (.int (11 : Int32)), .val (.int (12 : Int32)), .val (.int (11 : Int32)), .val (.int c10)] [(.int (11 : Int32)), (.ref b)])) (fun _ k_ => XS.iloadN X24.here hx rfl (hb hby d6_11) rfl  k_) ?_
                        refine own_caload X24 hx hZ e24 (((f18.other W20 hne).other W22 hne).other W24 hne) (j := (11 : Int32)) ⟨by decide, by decide⟩ (v := (.int c11)) rfl (hb hby d6_12) ?_
                        show own_Go p e below Φ T24 (mkF m 13 #[.val (.ref b), .val (.int (11 : Int32)), .val (.ref d), .val (.int (11 : Int32)), .val (.int (12 : Int32)), .val (.int (11 : Int32)), .val (.int c10)] [(.int c11)])
                        refine own_k (T' := T24) (g' := (mkF m 15 #[.val (.ref b), .val (.int (11 : Int32)), .val (.ref d), .val (.int (11 : Int32)), .val (.int (12 : Int32)), .val (.int (11 : Int32)), .val (.int c11)] [])) (fun _ k_ => XS.istore X24.here hx rfl (hb hby d6_13) rfl (l' := #[.val (.ref b), .val (.int (11 : Int32)), .val (.ref d), .val (.int (11 : Int32)), .val (.int (12 : Int32)), .val (.int (11 : Int32)), .val (.int c11)]) rfl k_) ?_
                        refine own_k (T' := T24) (g' := (mkF m 17 #[.val (.ref b), .val (.int (11 : Int32)), .val (.ref d), .val (.int (11 : Int32)), .val (.int (12 : Int32)), .val (.int (11 : Int32)), .val (.int c11)] [(.int c11)])) (fun _ k_ => XS.iload X24.here hx rfl (hb hby d6_15) rfl  k_) ?_
                        refine own_k (T' := T24) (g' := (mkF m 20 #[.val (.ref b), .val (.int (11 : Int32)), .val (.ref d), .val (.int (11 : Int32)), .val (.int (12 : Int32)), .val (.int (11 : Int32)), .val (.int c11)] [(.int (255 : Int32)), (.int c11)])) (fun _ k_ => XS.sipush X24.here hx rfl (hb hby d6_17) k_) ?_
                        by_cases hc25 : (255 : Int32) < c11
                        · refine own_k (T' := T24) (g' := (mkF m 23 #[.val (.ref b), .val (.int (11 : Int32)), .val (.ref d), .val (.int (11 : Int32)), .val (.int (12 : Int32)), .val (.int (11 : Int32)), .val (.int c11)] [])) (fun _ k_ => XS.icmpNo X24.here hx rfl (hb hby d6_20) rfl ((tlt hc25).2.2.2) k_) ?_
                          refine own_k (T' := T24) (g' := (mkF m 25 #[.val (.ref b), .val (.int (11 : Int32)), .val (.ref d), .val (.int (11 : Int32)), .val (.int (12 : Int32)), .val (.int (11 : Int32)), .val (.int c11)] [(.int (11 : Int32))])) (fun _ k_ => XS.iload X24.here hx rfl (hb hby d6_23) rfl  k_) ?_
                          have kp0 : Keep h0 h0 [d] := Keep.refl h0 [d]
                          have kp1 : Keep h0 h2 [d] := kp0.wr W2 (Or.inl (List.mem_of_getElem? (i := 0) rfl))
                          have kp2 : Keep h0 h4 [d] := kp1.wr W4 (Or.inl (List.mem_of_getElem? (i := 0) rfl))
                          have kp3 : Keep h0 h6 [d] := kp2.wr W6 (Or.inl (List.mem_of_getElem? (i := 0) rfl))
                          have kp4 : Keep h0 h8 [d] := kp3.wr W8 (Or.inl (List.mem_of_getElem? (i := 0) rfl))
                          have kp5 : Keep h0 h11 [d] := kp4.wr W11 (Or.inl (List.mem_of_getElem? (i := 0) rfl))
                          have kp6 : Keep h0 h13 [d] := kp5.wr W13 (Or.inl (List.mem_of_getElem? (i := 0) rfl))
                          have kp7 : Keep h0 h15 [d] := kp6.wr W15 (Or.inl (List.mem_of_getElem? (i := 0) rfl))
                          have kp8 : Keep h0 h17 [d] := kp7.wr W17 (Or.inl (List.mem_of_getElem? (i := 0) rfl))
                          have kp9 : Keep h0 h20 [d] := kp8.wr W20 (Or.inl (List.mem_of_getElem? (i := 0) rfl))
                          have kp10 : Keep h0 h22 [d] := kp9.wr W22 (Or.inl (List.mem_of_getElem? (i := 0) rfl))
                          have kp11 : Keep h0 h24 [d] := kp10.wr W24 (Or.inl (List.mem_of_getElem? (i := 0) rfl))
                          exact own_retI X24 hx hret hlk (hb hby d6_25) hF (by rw [e24]; exact ⟨⟨(11 : Int32), rfl, Or.inr ⟨by decide, by decide, hc25⟩⟩, N24, kp11⟩) (by decide) (by decide)
                        · refine own_k (T' := T24) (g' := (mkF m 26 #[.val (.ref b), .val (.int (11 : Int32)), .val (.ref d), .val (.int (11 : Int32)), .val (.int (12 : Int32)), .val (.int (11 : Int32)), .val (.int c11)] [])) (fun _ k_ => XS.icmpYes X24.here hx rfl (pc0 := 20) (pc' := 26) rfl (hb hby d6_20) rfl ((flt hc25).2.2.2) (by decide) (by decide) k_) ?_
                          refine own_k (T' := T24) (g' := (mkF m 27 #[.val (.ref b), .val (.int (11 : Int32)), .val (.ref d), .val (.int (11 : Int32)), .val (.int (12 : Int32)), .val (.int (11 : Int32)), .val (.int c11)] [(.ref d)])) (fun _ k_ => XS.aloadN X24.here hx rfl (hb hby d6_26) rfl rfl  k_) ?_
                          refine own_k (T' := T24) (g' := (mkF m 28 #[.val (.ref b), .val (.int (11 : Int32)), .val (.ref d), .val (.int (11 : Int32)), .val (.int (12 : Int32)), .val (.int (11 : Int32)), .val (.int c11)] [(.int (11 : Int32)), (.ref d)])) (fun _ k_ => XS.iloadN X24.here hx rfl (hb hby d6_27) rfl  k_) ?_
                          refine own_k (T' := T24) (g' := (mkF m 30 #[.val (.ref b), .val (.int (11 : Int32)), .val (.ref d), .val (.int (11 : Int32)), .val (.int (12 : Int32)), .val (.int (11 : Int32)), .val (.int c11)] [(.int c11), (.int (11 : Int32)), (.ref d)])) (fun _ k_ => XS.iload X24.here hx rfl (hb hby d6_28) rfl  k_) ?_
                          refine own_k (T' := T24) (g' := (mkF m 31 #[.val (.ref b), .val (.int (11 : Int32)), .val (.ref d), .val (.int (11 : Int32)), .val (.int (12 : Int32)), .val (.int (11 : Int32)), .val (.int c11)] [(.int (c11.toInt8.toInt32)), (.int (11 : Int32)), (.ref d)])) (fun _ k_ => XS.i2b X24.here hx rfl (hb hby d6_30) rfl k_) ?_
                          obtain ⟨T26, h26, X26, e26, W26, V26, st26⟩ := own_bastore (pc := 31) (Ls := #[.val (.ref b), .val (.int (11 : Int32)), .val (.ref d), .val (.int (11 : Int32)), .val (.int (12 : Int32)), .val (.int (11 : Int32)), .val (.int c11)]) (rest := []) X24 hx hZ e24 V24 (j := (11 : Int32)) (x := (c11.toInt8.toInt32)) ⟨by decide, by decide⟩ 11 rfl (Nat.le_of_ble_eq_true rfl) (hb hby d6_31)
                          have V26 : Arv Z h26 d kd .byte (12 : Int32) [(.int (c0.toInt8.toInt32)), (.int (c1.toInt8.toInt32)), (.int (c2.toInt8.toInt32)), (.int (c3.toInt8.toInt32)), (.int (c4.toInt8.toInt32)), (.int (c5.toInt8.toInt32)), (.int (c6.toInt8.toInt32)), (.int (c7.toInt8.toInt32)), (.int (c8.toInt8.toInt32)), (.int (c9.toInt8.toInt32)), (.int (c10.toInt8.toInt32)), (.int (nar .byte (c11.toInt8.toInt32)))] (.int (0 : Int32)) := V26
                          rw [show nar .byte (c11.toInt8.toInt32) = (c11.toInt8.toInt32) from own_nar_byte _] at V26
                          have O26' := O24'.wr W26 hg
                          have N26 := Fr.snoc X26 N24 hg
                          refine own_k (T' := T26) (g' := (mkF m 32 #[.val (.ref b), .val (.int (11 : Int32)), .val (.ref d), .val (.int (11 : Int32)), .val (.int (12 : Int32)), .val (.int (11 : Int32)), .val (.int c11)] [])) st26 ?_
                          refine own_k (T' := T26) (g' := (mkF m 35 #[.val (.ref b), .val (.int ((11 : Int32) + (1 : Int32))), .val (.ref d), .val (.int (11 : Int32)), .val (.int (12 : Int32)), .val (.int (11 : Int32)), .val (.int c11)] [])) (fun _ k_ => XS.iinc X26.here hx rfl (hb hby d6_32) rfl (l' := #[.val (.ref b), .val (.int ((11 : Int32) + (1 : Int32))), .val (.ref d), .val (.int (11 : Int32)), .val (.int (12 : Int32)), .val (.int (11 : Int32)), .val (.int c11)]) rfl k_) ?_
                          rw [show ((11 : Int32) + (1 : Int32)) = (12 : Int32) from by decide]
                          refine own_k (T' := T26) (g' := (mkF m 38 #[.val (.ref b), .val (.int (12 : Int32)), .val (.ref d), .val (.int ((11 : Int32) + (1 : Int32))), .val (.int (12 : Int32)), .val (.int (11 : Int32)), .val (.int c11)] [])) (fun _ k_ => XS.iinc X26.here hx rfl (hb hby d6_35) rfl (l' := #[.val (.ref b), .val (.int (12 : Int32)), .val (.ref d), .val (.int ((11 : Int32) + (1 : Int32))), .val (.int (12 : Int32)), .val (.int (11 : Int32)), .val (.int c11)]) rfl k_) ?_
                          rw [show ((11 : Int32) + (1 : Int32)) = (12 : Int32) from by decide]
                          refine own_k (T' := T26) (g' := (mkF m 41 #[.val (.ref b), .val (.int (12 : Int32)), .val (.ref d), .val (.int (12 : Int32)), .val (.int (12 : Int32)), .val (.int ((11 : Int32) + (1 : Int32))), .val (.int c11)] [])) (fun _ k_ => XS.iinc X26.here hx rfl (hb hby d6_38) rfl (l' := #[.val (.ref b), .val (.int (12 : Int32)), .val (.ref d), .val (.int (12 : Int32)), .val (.int (12 : Int32)), .val (.int ((11 : Int32) + (1 : Int32))), .val (.int c11)]) rfl k_) ?_
                          rw [show ((11 : Int32) + (1 : Int32)) = (12 : Int32) from by decide]
                          refine own_k (T' := T26) (g' := (mkF m 3 #[.val (.ref b), .val (.int (12 : Int32)), .val (.ref d), .val (.int (12 : Int32)), .val (.int (12 : Int32)), .val (.int (12 : Int32)), .val (.int c11)] [])) (fun _ k_ => XS.goto X26.here hx rfl (pc0 := 41) (pc' := 3) rfl (hb hby d6_41) (by decide) (by decide) k_) ?_
                          refine own_k (T' := T26) (g' := (mkF m 5 #[.val (.ref b), .val (.int (12 : Int32)), .val (.ref d), .val (.int (12 : Int32)), .val (.int (12 : Int32)), .val (.int (12 : Int32)), .val (.int c11)] [(.int (12 : Int32))])) (fun _ k_ => XS.iload X26.here hx rfl (hb hby d6_3) rfl  k_) ?_
                          refine own_k (T' := T26) (g' := (mkF m 7 #[.val (.ref b), .val (.int (12 : Int32)), .val (.ref d), .val (.int (12 : Int32)), .val (.int (12 : Int32)), .val (.int (12 : Int32)), .val (.int c11)] [(.int (12 : Int32)), (.int (12 : Int32))])) (fun _ k_ => XS.iload X26.here hx rfl (hb hby d6_5) rfl  k_) ?_
                          refine own_k (T' := T26) (g' := (mkF m 44 #[.val (.ref b), .val (.int (12 : Int32)), .val (.ref d), .val (.int (12 : Int32)), .val (.int (12 : Int32)), .val (.int (12 : Int32)), .val (.int c11)] [])) (fun _ k_ => XS.icmpYes X26.here hx rfl (pc0 := 7) (pc' := 44) rfl (hb hby d6_7) rfl ((flt (by decide : ¬ ((12 : Int32) < (12 : Int32)))).2.1) (by decide) (by decide) k_) ?_
                          refine own_k (T' := T26) (g' := (mkF m 46 #[.val (.ref b), .val (.int (12 : Int32)), .val (.ref d), .val (.int (12 : Int32)), .val (.int (12 : Int32)), .val (.int (12 : Int32)), .val (.int c11)] [(.int (12 : Int32))])) (fun _ k_ => XS.iload X26.here hx rfl (hb hby d6_44) rfl  k_) ?_
                          have kp0 : Keep h0 h0 [d] := Keep.refl h0 [d]
                          have kp1 : Keep h0 h2 [d] := kp0.wr W2 (Or.inl (List.mem_of_getElem? (i := 0) rfl))
                          have kp2 : Keep h0 h4 [d] := kp1.wr W4 (Or.inl (List.mem_of_getElem? (i := 0) rfl))
                          have kp3 : Keep h0 h6 [d] := kp2.wr W6 (Or.inl (List.mem_of_getElem? (i := 0) rfl))
                          have kp4 : Keep h0 h8 [d] := kp3.wr W8 (Or.inl (List.mem_of_getElem? (i := 0) rfl))
                          have kp5 : Keep h0 h11 [d] := kp4.wr W11 (Or.inl (List.mem_of_getElem? (i := 0) rfl))
                          have kp6 : Keep h0 h13 [d] := kp5.wr W13 (Or.inl (List.mem_of_getElem? (i := 0) rfl))
                          have kp7 : Keep h0 h15 [d] := kp6.wr W15 (Or.inl (List.mem_of_getElem? (i := 0) rfl))
                          have kp8 : Keep h0 h17 [d] := kp7.wr W17 (Or.inl (List.mem_of_getElem? (i := 0) rfl))
                          have kp9 : Keep h0 h20 [d] := kp8.wr W20 (Or.inl (List.mem_of_getElem? (i := 0) rfl))
                          have kp10 : Keep h0 h22 [d] := kp9.wr W22 (Or.inl (List.mem_of_getElem? (i := 0) rfl))
                          have kp11 : Keep h0 h24 [d] := kp10.wr W24 (Or.inl (List.mem_of_getElem? (i := 0) rfl))
                          have kp12 : Keep h0 h26 [d] := kp11.wr W26 (Or.inl (List.mem_of_getElem? (i := 0) rfl))
                          exact own_retI X26 hx hret hlk (hb hby d6_46) hF (by rw [e26]; exact ⟨⟨(12 : Int32), rfl, Or.inl ⟨rfl, own_all_12 (P := fun c => ¬ (255 : Int32) < c) hc1 hc3 hc5 hc7 hc10 hc12 hc14 hc16 hc19 hc21 hc23 hc25, V26⟩⟩, N26, kp12⟩) (by decide) (by decide)
theorem ef_5_RII (m : MethodId) (x0 : Addr) (x1 : Int32) (x2 : Int32)  : entryFrame m #[(.ref x0), (.int x1), (.int x2)] 6 = mkF m 0 #[.val (.ref x0), .val (.int x1), .val (.int x2), .unset, .unset, .unset] [] := by first | (simp [entryFrame, mkF, argsToLocals, Value.category]; done) | rfl
theorem d5_0 : decode jdk_52_method_16_code 0 = .ok (.iload_n 2, 1) := by decide +kernel
theorem d5_1 : decode jdk_52_method_16_code 1 = .ok (.newarray .byte, 2) := by decide +kernel
theorem d5_3 : decode jdk_52_method_16_code 3 = .ok (.astore_n 3, 1) := by decide +kernel
theorem d5_4 : decode jdk_52_method_16_code 4 = .ok (.aload_n 0, 1) := by decide +kernel
theorem d5_5 : decode jdk_52_method_16_code 5 = .ok (.iload_n 1, 1) := by decide +kernel
theorem d5_6 : decode jdk_52_method_16_code 6 = .ok (.aload_n 3, 1) := by decide +kernel
theorem d5_7 : decode jdk_52_method_16_code 7 = .ok (.iconst 0, 1) := by decide +kernel
theorem d5_8 : decode jdk_52_method_16_code 8 = .ok (.iload_n 2, 1) := by decide +kernel
theorem d5_9 : decode jdk_52_method_16_code 9 = .ok (.invokestatic 115, 3) := by decide +kernel
theorem pd__28_5bCI_5bBII_29I : parseMethodDescriptor "([CI[BII)I" = some ⟨[(.array .char), .int, (.array .byte), .int, .int], some .int⟩ := by decide +kernel
theorem d5_12 : decode jdk_52_method_16_code 12 = .ok (.istore 4, 2) := by decide +kernel
theorem d5_14 : decode jdk_52_method_16_code 14 = .ok (.iload 4, 2) := by decide +kernel
theorem d5_16 : decode jdk_52_method_16_code 16 = .ok (.iload_n 2, 1) := by decide +kernel
theorem d5_17 : decode jdk_52_method_16_code 17 = .ok (.if_icmp .eq 40, 3) := by decide +kernel
theorem d5_57 : decode jdk_52_method_16_code 57 = .ok (.aload_n 3, 1) := by decide +kernel
theorem d5_58 : decode jdk_52_method_16_code 58 = .ok (.areturn, 1) := by decide +kernel
theorem d5_20 : decode jdk_52_method_16_code 20 = .ok (.aload_n 0, 1) := by decide +kernel
theorem d5_21 : decode jdk_52_method_16_code 21 = .ok (.iload_n 1, 1) := by decide +kernel
theorem d5_22 : decode jdk_52_method_16_code 22 = .ok (.iload_n 2, 1) := by decide +kernel
theorem d5_23 : decode jdk_52_method_16_code 23 = .ok (.invokestatic 119, 3) := by decide +kernel
theorem pd__28_5bCII_29_5bB : parseMethodDescriptor "([CII)[B" = some ⟨[(.array .char), .int, .int], some (.array .byte)⟩ := by decide +kernel
theorem ef_9_RII (m : MethodId) (x0 : Addr) (x1 : Int32) (x2 : Int32)  : entryFrame m #[(.ref x0), (.int x1), (.int x2)] 5 = mkF m 0 #[.val (.ref x0), .val (.int x1), .val (.int x2), .unset, .unset] [] := by first | (simp [entryFrame, mkF, argsToLocals, Value.category]; done) | rfl
theorem d9_0 : decode jdk_52_method_14_code 0 = .ok (.iload_n 2, 1) := by decide +kernel
theorem d9_1 : decode jdk_52_method_14_code 1 = .ok (.invokestatic 107, 3) := by decide +kernel
theorem pd__28I_29_5bB : parseMethodDescriptor "(I)[B" = some ⟨[.int], some (.array .byte)⟩ := by decide +kernel
theorem ef_10_I (m : MethodId) (x0 : Int32)  : entryFrame m #[(.int x0)] 1 = mkF m 0 #[.val (.int x0)] [] := by first | (simp [entryFrame, mkF, argsToLocals, Value.category]; done) | rfl
theorem d10_0 : decode jdk_52_method_2_code 0 = .ok (.iload_n 0, 1) := by decide +kernel
theorem d10_1 : decode jdk_52_method_2_code 1 = .ok (.invokestatic 11, 3) := by decide +kernel
theorem pd__28I_29I : parseMethodDescriptor "(I)I" = some ⟨[.int], some .int⟩ := by decide +kernel
theorem ef_11_I (m : MethodId) (x0 : Int32)  : entryFrame m #[(.int x0)] 1 = mkF m 0 #[.val (.int x0)] [] := by first | (simp [entryFrame, mkF, argsToLocals, Value.category]; done) | rfl
theorem d11_0 : decode jdk_52_method_3_code 0 = .ok (.iload_n 0, 1) := by decide +kernel
theorem d11_1 : decode jdk_52_method_3_code 1 = .ok (.ifCond .ge 11, 3) := by decide +kernel
theorem d11_12 : decode jdk_52_method_3_code 12 = .ok (.iload_n 0, 1) := by decide +kernel
theorem d11_13 : decode jdk_52_method_3_code 13 = .ok (.ldc 20, 2) := by decide +kernel
theorem d11_15 : decode jdk_52_method_3_code 15 = .ok (.if_icmp .lt 40, 3) := by decide +kernel
theorem d11_55 : decode jdk_52_method_3_code 55 = .ok (.iload_n 0, 1) := by decide +kernel
theorem d11_56 : decode jdk_52_method_3_code 56 = .ok (.iconst 1, 1) := by decide +kernel
theorem d11_57 : decode jdk_52_method_3_code 57 = .ok (.ishl, 1) := by decide +kernel
theorem d11_58 : decode jdk_52_method_3_code 58 = .ok (.ireturn, 1) := by decide +kernel
set_option maxRecDepth 65536 in
set_option maxHeartbeats 40000000 in
theorem rm_newBytesLength_0 (l : Launch) (Z : State) (a0 : Array Value) (g_COMPACT_STRINGS : Int32) (g_SIOOBE_FORMATTER : Value) (hW : own_W Z a0 g_COMPACT_STRINGS g_SIOOBE_FORMATTER)  (h0 : Heap) (O0 : Old Z Z.heap.size h0)  :
    own_Met l Z (⟨"java/lang/StringUTF16", "newBytesLength", "(I)I"⟩ : MethodName) jdk_52_method_3_code 1 (some .int) ({ frames := 0, cells := 0, slots := 0, locals := 0 } : Room) #[(.int (12 : Int32))] h0 (fun v h L => v = some (.int (24 : Int32)) ∧ Fr Z.heap.size L ∧ h = h0) := by
  have hW_ := hW
  obtain ⟨hw, S_g_COMPACT_STRINGS, P_g_COMPACT_STRINGS, R_g_SIOOBE_FORMATTER, S_g_SIOOBE_FORMATTER, S_g__assertionsDisabled, S_g_HI_BYTE_SHIFT, S_g_LO_BYTE_SHIFT⟩ := hW_
  refine own_met (plainFor_of_name pn_java_lang_StringUTF16) ?_
  intro p e s m below meth cc_ s₁ Φ hF X0 hx hby hml hZ hown hnm hret hlk e0
  have N0 := Fr.nil Z.heap.size
  refine own_k (T' := s₁) (g' := (mkF m 0 #[.val (.int (12 : Int32))] [])) (fun _ k_ => castTop (ef_11_I m (12 : Int32)) k_) ?_
  refine own_k (T' := s₁) (g' := (mkF m 1 #[.val (.int (12 : Int32))] [(.int (12 : Int32))])) (fun _ k_ => XS.iloadN X0.here hx rfl (hb hby d11_0) rfl  k_) ?_
  refine own_k (T' := s₁) (g' := (mkF m 12 #[.val (.int (12 : Int32))] [])) (fun _ k_ => XS.ifYes X0.here hx rfl (pc0 := 1) (pc' := 12) rfl (hb hby d11_1) rfl ((if0 _ _).trans (flt (by decide : ¬ ((12 : Int32) < (0 : Int32)))).2.1) (by decide) (by decide) k_) ?_
  refine own_k (T' := s₁) (g' := (mkF m 13 #[.val (.int (12 : Int32))] [(.int (12 : Int32))])) (fun _ k_ => XS.iloadN X0.here hx rfl (hb hby d11_12) rfl  k_) ?_
  refine own_k (T' := s₁) (g' := (mkF m 15 #[.val (.int (12 : Int32))] [(.int (1073741823 : Int32)), (.int (12 : Int32))])) (X0.ldcInt hx hown (mvT hZ (hw _ (List.mem_of_getElem? (i := 50) rfl))) (g := (mkF m 13 #[.val (.int (12 : Int32))] [(.int (12 : Int32))])) rfl (hb hby d11_13)) ?_
  refine own_k (T' := s₁) (g' := (mkF m 55 #[.val (.int (12 : Int32))] [])) (fun _ k_ => XS.icmpYes X0.here hx rfl (pc0 := 15) (pc' := 55) rfl (hb hby d11_15) rfl ((tlt (by decide : ((12 : Int32) < (1073741823 : Int32)))).1) (by decide) (by decide) k_) ?_
  refine own_k (T' := s₁) (g' := (mkF m 56 #[.val (.int (12 : Int32))] [(.int (12 : Int32))])) (fun _ k_ => XS.iloadN X0.here hx rfl (hb hby d11_55) rfl  k_) ?_
  refine own_k (T' := s₁) (g' := (mkF m 57 #[.val (.int (12 : Int32))] [(.int (1 : Int32)), (.int (12 : Int32))])) (fun _ k_ => XS.iconst X0.here hx rfl (hb hby d11_56) k_) ?_
  refine own_k (T' := s₁) (g' := (mkF m 58 #[.val (.int (12 : Int32))] [(.int ((12 : Int32) <<< ((1 : Int32) &&& 31)))])) (fun _ k_ => XS.ishl X0.here hx rfl (hb hby d11_57) rfl k_) ?_
  rw [show ((12 : Int32) <<< ((1 : Int32) &&& 31)) = (24 : Int32) from by decide]
  exact own_retI X0 hx hret hlk (hb hby d11_58) hF (by rw [e0]; exact ⟨rfl, N0, rfl⟩) (by decide) (by decide)
theorem d10_4 : decode jdk_52_method_2_code 4 = .ok (.newarray .byte, 2) := by decide +kernel
theorem d10_6 : decode jdk_52_method_2_code 6 = .ok (.areturn, 1) := by decide +kernel
set_option maxRecDepth 65536 in
set_option maxHeartbeats 40000000 in
theorem rm_newBytesFor_1 (l : Launch) (Z : State) (a0 : Array Value) (g_COMPACT_STRINGS : Int32) (g_SIOOBE_FORMATTER : Value) (hW : own_W Z a0 g_COMPACT_STRINGS g_SIOOBE_FORMATTER)  (h0 : Heap) (O0 : Old Z Z.heap.size h0)  :
    own_Met l Z (⟨"java/lang/StringUTF16", "newBytesFor", "(I)[B"⟩ : MethodName) jdk_52_method_2_code 1 (some (.array .byte)) ({ frames := 1, cells := 1, slots := 24, locals := 12 } : Room) #[(.int (12 : Int32))] h0 (fun v h L => ∃ (b2 : Addr) (k2 : ClassId), v = some (.ref b2) ∧ Fr Z.heap.size L ∧ Keep h0 h [] ∧ h0.size ≤ b2 ∧ Arv Z h b2 k2 .byte (24 : Int32) [(.int (0 : Int32)), (.int (0 : Int32)), (.int (0 : Int32)), (.int (0 : Int32)), (.int (0 : Int32)), (.int (0 : Int32)), (.int (0 : Int32)), (.int (0 : Int32)), (.int (0 : Int32)), (.int (0 : Int32)), (.int (0 : Int32)), (.int (0 : Int32)), (.int (0 : Int32)), (.int (0 : Int32)), (.int (0 : Int32)), (.int (0 : Int32)), (.int (0 : Int32)), (.int (0 : Int32)), (.int (0 : Int32)), (.int (0 : Int32)), (.int (0 : Int32)), (.int (0 : Int32)), (.int (0 : Int32)), (.int (0 : Int32))] (.int (0 : Int32)) ∧ Exa Z h b2 "[B") := by
  have hW_ := hW
  obtain ⟨hw, S_g_COMPACT_STRINGS, P_g_COMPACT_STRINGS, R_g_SIOOBE_FORMATTER, S_g_SIOOBE_FORMATTER, S_g__assertionsDisabled, S_g_HI_BYTE_SHIFT, S_g_LO_BYTE_SHIFT⟩ := hW_
  refine own_met (plainFor_of_name pn_java_lang_StringUTF16) ?_
  intro p e s m below meth cc_ s₁ Φ hF X0 hx hby hml hZ hown hnm hret hlk e0
  have N0 := Fr.nil Z.heap.size
  refine own_k (T' := s₁) (g' := (mkF m 0 #[.val (.int (12 : Int32))] [])) (fun _ k_ => castTop (ef_10_I m (12 : Int32)) k_) ?_
  refine own_k (T' := s₁) (g' := (mkF m 1 #[.val (.int (12 : Int32))] [(.int (12 : Int32))])) (fun _ k_ => XS.iloadN X0.here hx rfl (hb hby d10_0) rfl  k_) ?_
  refine own_callS X0 hx hZ (y := (⟨"java/lang/StringUTF16", "newBytesLength", "(I)I"⟩ : MethodName)) hown (hw _ (List.mem_of_getElem? (i := 47) rfl)) (hw _ (List.mem_of_getElem? (i := 48) rfl)) (hw _ (List.mem_of_getElem? (i := 24) rfl)) (hw _ (List.mem_of_getElem? (i := 49) rfl)) (by decide) (al := [(.int (12 : Int32))]) (rm_newBytesLength_0 l Z a0 g_COMPACT_STRINGS g_SIOOBE_FORMATTER hW h0 O0) 0 (by decide) (by decide) e0 (by decide) (by decide) (by rw [hml]; rfl) (lenOf pd__28I_29I rfl) rfl (rest := []) (by show 2 * 0 + _ ≤ _; exact Nat.le_of_eq rfl) (hb hby d10_1) ?_
  intro v1 T1 L1 X1 hQ1
  obtain ⟨rfl, Nq1, e1⟩ := hQ1
  have N1 := Fr.app N0 Nq1
  show own_Go p e below Φ T1 (mkF m 4 #[.val (.int (12 : Int32))] [(.int (24 : Int32))])
  obtain ⟨T2, h2, k2, X2, e2, E2, V2, A2, st2⟩ := own_newarr (pc := 4) (Ls := #[.val (.int (12 : Int32))]) (rest := []) X1 hx hZ (hw _ (List.mem_of_getElem? (i := 26) rfl)) e1 (hb hby d10_4) (n := (24 : Int32)) (by decide) (cap := 24) (by decide) (by decide) (by decide) (by decide) (ad := "[B") (by decide)
  obtain ⟨b2, g2⟩ : ∃ z, z = h0.size := ⟨_, rfl⟩
  rw [← g2] at V2 A2 st2
  have O2' := O0.ext E2
  have V2 : Arv Z h2 b2 k2 .byte (24 : Int32) [(.int (0 : Int32)), (.int (0 : Int32)), (.int (0 : Int32)), (.int (0 : Int32)), (.int (0 : Int32)), (.int (0 : Int32)), (.int (0 : Int32)), (.int (0 : Int32)), (.int (0 : Int32)), (.int (0 : Int32)), (.int (0 : Int32)), (.int (0 : Int32)), (.int (0 : Int32)), (.int (0 : Int32)), (.int (0 : Int32)), (.int (0 : Int32)), (.int (0 : Int32)), (.int (0 : Int32)), (.int (0 : Int32)), (.int (0 : Int32)), (.int (0 : Int32)), (.int (0 : Int32)), (.int (0 : Int32)), (.int (0 : Int32))] (.int (0 : Int32)) := V2
  refine own_k (T' := T2) (g' := (mkF m 6 #[.val (.int (12 : Int32))] [(.ref b2)])) st2 ?_
  have kp0 : Keep h0 h0 [] := Keep.refl h0 []
  have kp1 : Keep h0 h2 [] := kp0.ext E2
  exact own_retA X2 hx hret rfl rfl hlk (hb hby d10_6) hF (by rw [e2]; exact ⟨b2, k2, rfl, N1, kp1, (Nat.le_trans kp0.1 (Nat.le_of_eq g2.symm)), V2, A2⟩) (by decide) (by decide)
theorem d9_4 : decode jdk_52_method_14_code 4 = .ok (.astore_n 3, 1) := by decide +kernel
theorem d9_5 : decode jdk_52_method_14_code 5 = .ok (.iconst 0, 1) := by decide +kernel
theorem d9_6 : decode jdk_52_method_14_code 6 = .ok (.istore 4, 2) := by decide +kernel
theorem d9_8 : decode jdk_52_method_14_code 8 = .ok (.iload 4, 2) := by decide +kernel
theorem d9_10 : decode jdk_52_method_14_code 10 = .ok (.iload_n 2, 1) := by decide +kernel
theorem d9_11 : decode jdk_52_method_14_code 11 = .ok (.if_icmp .ge 21, 3) := by decide +kernel
theorem d9_14 : decode jdk_52_method_14_code 14 = .ok (.aload_n 3, 1) := by decide +kernel
theorem d9_15 : decode jdk_52_method_14_code 15 = .ok (.iload 4, 2) := by decide +kernel
theorem d9_17 : decode jdk_52_method_14_code 17 = .ok (.aload_n 0, 1) := by decide +kernel
theorem d9_18 : decode jdk_52_method_14_code 18 = .ok (.iload_n 1, 1) := by decide +kernel
theorem d9_19 : decode jdk_52_method_14_code 19 = .ok (.caload, 1) := by decide +kernel
theorem d9_20 : decode jdk_52_method_14_code 20 = .ok (.invokestatic 111, 3) := by decide +kernel
theorem pd__28_5bBII_29V : parseMethodDescriptor "([BII)V" = some ⟨[(.array .byte), .int, .int], none⟩ := by decide +kernel
theorem ef_12_RII (m : MethodId) (x0 : Addr) (x1 : Int32) (x2 : Int32)  : entryFrame m #[(.ref x0), (.int x1), (.int x2)] 3 = mkF m 0 #[.val (.ref x0), .val (.int x1), .val (.int x2)] [] := by first | (simp [entryFrame, mkF, argsToLocals, Value.category]; done) | rfl
theorem d12_0 : decode jdk_52_method_4_code 0 = .ok (.getstatic 44, 3) := by decide +kernel
theorem d12_3 : decode jdk_52_method_4_code 3 = .ok (.ifCond .ne 25, 3) := by decide +kernel
theorem d12_28 : decode jdk_52_method_4_code 28 = .ok (.iload_n 1, 1) := by decide +kernel
theorem d12_29 : decode jdk_52_method_4_code 29 = .ok (.iconst 1, 1) := by decide +kernel
theorem d12_30 : decode jdk_52_method_4_code 30 = .ok (.ishl, 1) := by decide +kernel
theorem d12_31 : decode jdk_52_method_4_code 31 = .ok (.istore_n 1, 1) := by decide +kernel
theorem d12_32 : decode jdk_52_method_4_code 32 = .ok (.aload_n 0, 1) := by decide +kernel
theorem d12_33 : decode jdk_52_method_4_code 33 = .ok (.iload_n 1, 1) := by decide +kernel
theorem d12_34 : decode jdk_52_method_4_code 34 = .ok (.iinc 1 1, 3) := by decide +kernel
theorem d12_37 : decode jdk_52_method_4_code 37 = .ok (.iload_n 2, 1) := by decide +kernel
theorem d12_38 : decode jdk_52_method_4_code 38 = .ok (.getstatic 59, 3) := by decide +kernel
theorem d12_41 : decode jdk_52_method_4_code 41 = .ok (.ishr, 1) := by decide +kernel
theorem d12_42 : decode jdk_52_method_4_code 42 = .ok (.i2b, 1) := by decide +kernel
theorem d12_43 : decode jdk_52_method_4_code 43 = .ok (.bastore, 1) := by decide +kernel
theorem d12_44 : decode jdk_52_method_4_code 44 = .ok (.aload_n 0, 1) := by decide +kernel
theorem d12_45 : decode jdk_52_method_4_code 45 = .ok (.iload_n 1, 1) := by decide +kernel
theorem d12_46 : decode jdk_52_method_4_code 46 = .ok (.iload_n 2, 1) := by decide +kernel
theorem d12_47 : decode jdk_52_method_4_code 47 = .ok (.getstatic 63, 3) := by decide +kernel
theorem d12_50 : decode jdk_52_method_4_code 50 = .ok (.ishr, 1) := by decide +kernel
theorem d12_51 : decode jdk_52_method_4_code 51 = .ok (.i2b, 1) := by decide +kernel
theorem d12_52 : decode jdk_52_method_4_code 52 = .ok (.bastore, 1) := by decide +kernel
theorem d12_53 : decode jdk_52_method_4_code 53 = .ok (.return_, 1) := by decide +kernel
set_option maxRecDepth 65536 in
set_option maxHeartbeats 40000000 in
theorem rm_putChar_2 (l : Launch) (Z : State) (a0 : Array Value) (g_COMPACT_STRINGS : Int32) (g_SIOOBE_FORMATTER : Value) (hW : own_W Z a0 g_COMPACT_STRINGS g_SIOOBE_FORMATTER) (a1 : Addr) (i2 : Int32) (q3 : ClassId) (h0 : Heap) (O0 : Old Z Z.heap.size h0) (h_1 : Arv Z h0 a1 q3 .byte (24 : Int32) [(.int (0 : Int32)), (.int (0 : Int32)), (.int (0 : Int32)), (.int (0 : Int32)), (.int (0 : Int32)), (.int (0 : Int32)), (.int (0 : Int32)), (.int (0 : Int32)), (.int (0 : Int32)), (.int (0 : Int32)), (.int (0 : Int32)), (.int (0 : Int32)), (.int (0 : Int32)), (.int (0 : Int32)), (.int (0 : Int32)), (.int (0 : Int32)), (.int (0 : Int32)), (.int (0 : Int32)), (.int (0 : Int32)), (.int (0 : Int32)), (.int (0 : Int32)), (.int (0 : Int32)), (.int (0 : Int32)), (.int (0 : Int32))] (.int (0 : Int32))) (h_2 : Z.heap.size ≤ a1) (h_3 : Exa Z h0 a1 "[B") :
    own_Met l Z (⟨"java/lang/StringUTF16", "putChar", "([BII)V"⟩ : MethodName) jdk_52_method_4_code 3 none ({ frames := 0, cells := 0, slots := 0, locals := 0 } : Room) #[(.ref a1), (.int (0 : Int32)), (.int i2)] h0 (fun v h L => v = none ∧ Fr Z.heap.size L ∧ Keep h0 h [a1] ∧ Arv Z h a1 q3 .byte (24 : Int32) [(.int ((i2 >>> ((0 : Int32) &&& 31)).toInt8.toInt32)), (.int ((i2 >>> ((8 : Int32) &&& 31)).toInt8.toInt32)), (.int (0 : Int32)), (.int (0 : Int32)), (.int (0 : Int32)), (.int (0 : Int32)), (.int (0 : Int32)), (.int (0 : Int32)), (.int (0 : Int32)), (.int (0 : Int32)), (.int (0 : Int32)), (.int (0 : Int32)), (.int (0 : Int32)), (.int (0 : Int32)), (.int (0 : Int32)), (.int (0 : Int32)), (.int (0 : Int32)), (.int (0 : Int32)), (.int (0 : Int32)), (.int (0 : Int32)), (.int (0 : Int32)), (.int (0 : Int32)), (.int (0 : Int32)), (.int (0 : Int32))] (.int (0 : Int32)) ∧ Exa Z h a1 "[B") := by
  have hW_ := hW
  obtain ⟨hw, S_g_COMPACT_STRINGS, P_g_COMPACT_STRINGS, R_g_SIOOBE_FORMATTER, S_g_SIOOBE_FORMATTER, S_g__assertionsDisabled, S_g_HI_BYTE_SHIFT, S_g_LO_BYTE_SHIFT⟩ := hW_
  refine own_met (plainFor_of_name pn_java_lang_StringUTF16) ?_
  intro p e s m below meth cc_ s₁ Φ hF X0 hx hby hml hZ hown hnm hret hlk e0
  have N0 := Fr.nil Z.heap.size
  refine own_k (T' := s₁) (g' := (mkF m 0 #[.val (.ref a1), .val (.int (0 : Int32)), .val (.int i2)] [])) (fun _ k_ => castTop (ef_12_RII m a1 (0 : Int32) i2) k_) ?_
  obtain ⟨T1, X1, e1, st1⟩ := getS2 X0 hx hZ hown (host := "") (Or.inl (hw _ (List.mem_of_getElem? (i := 54) rfl))) Via.refl e0 (S_g__assertionsDisabled.ext O0.2) (g := (mkF m 0 #[.val (.ref a1), .val (.int (0 : Int32)), .val (.int i2)] [])) rfl (hb hby d12_0)
  refine own_k (T' := T1) (g' := (mkF m 3 #[.val (.ref a1), .val (.int (0 : Int32)), .val (.int i2)] [(.int (1 : Int32))])) st1 ?_
  refine own_k (T' := T1) (g' := (mkF m 28 #[.val (.ref a1), .val (.int (0 : Int32)), .val (.int i2)] [])) (fun _ k_ => XS.ifYes X1.here hx rfl (pc0 := 3) (pc' := 28) rfl (hb hby d12_3) rfl ((if0 _ _).trans (feq (by decide : ¬ ((1 : Int32) = (0 : Int32)))).2) (by decide) (by decide) k_) ?_
  refine own_k (T' := T1) (g' := (mkF m 29 #[.val (.ref a1), .val (.int (0 : Int32)), .val (.int i2)] [(.int (0 : Int32))])) (fun _ k_ => XS.iloadN X1.here hx rfl (hb hby d12_28) rfl  k_) ?_
  refine own_k (T' := T1) (g' := (mkF m 30 #[.val (.ref a1), .val (.int (0 : Int32)), .val (.int i2)] [(.int (1 : Int32)), (.int (0 : Int32))])) (fun _ k_ => XS.iconst X1.here hx rfl (hb hby d12_29) k_) ?_
  refine own_k (T' := T1) (g' := (mkF m 31 #[.val (.ref a1), .val (.int (0 : Int32)), .val (.int i2)] [(.int ((0 : Int32) <<< ((1 : Int32) &&& 31)))])) (fun _ k_ => XS.ishl X1.here hx rfl (hb hby d12_30) rfl k_) ?_
  rw [show ((0 : Int32) <<< ((1 : Int32) &&& 31)) = (0 : Int32) from by decide]
  refine own_k (T' := T1) (g' := (mkF m 32 #[.val (.ref a1), .val (.int (0 : Int32)), .val (.int i2)] [])) (fun _ k_ => XS.istoreN X1.here hx rfl (hb hby d12_31) rfl (l' := #[.val (.ref a1), .val (.int (0 : Int32)), .val (.int i2)]) rfl k_) ?_
  refine own_k (T' := T1) (g' := (mkF m 33 #[.val (.ref a1), .val (.int (0 : Int32)), .val (.int i2)] [(.ref a1)])) (fun _ k_ => XS.aloadN X1.here hx rfl (hb hby d12_32) rfl rfl  k_) ?_
  refine own_k (T' := T1) (g' := (mkF m 34 #[.val (.ref a1), .val (.int (0 : Int32)), .val (.int i2)] [(.int (0 : Int32)), (.ref a1)])) (fun _ k_ => XS.iloadN X1.here hx rfl (hb hby d12_33) rfl  k_) ?_
  refine own_k (T' := T1) (g' := (mkF m 37 #[.val (.ref a1), .val (.int ((0 : Int32) + (1 : Int32))), .val (.int i2)] [(.int (0 : Int32)), (.ref a1)])) (fun _ k_ => XS.iinc X1.here hx rfl (hb hby d12_34) rfl (l' := #[.val (.ref a1), .val (.int ((0 : Int32) + (1 : Int32))), .val (.int i2)]) rfl k_) ?_
  rw [show ((0 : Int32) + (1 : Int32)) = (1 : Int32) from by decide]
  refine own_k (T' := T1) (g' := (mkF m 38 #[.val (.ref a1), .val (.int (1 : Int32)), .val (.int i2)] [(.int i2), (.int (0 : Int32)), (.ref a1)])) (fun _ k_ => XS.iloadN X1.here hx rfl (hb hby d12_37) rfl  k_) ?_
  obtain ⟨T2, X2, e2, st2⟩ := getS2 X1 hx hZ hown (host := "") (Or.inl (hw _ (List.mem_of_getElem? (i := 55) rfl))) Via.refl e1 (S_g_HI_BYTE_SHIFT.ext O0.2) (g := (mkF m 38 #[.val (.ref a1), .val (.int (1 : Int32)), .val (.int i2)] [(.int i2), (.int (0 : Int32)), (.ref a1)])) rfl (hb hby d12_38)
  refine own_k (T' := T2) (g' := (mkF m 41 #[.val (.ref a1), .val (.int (1 : Int32)), .val (.int i2)] [(.int (0 : Int32)), (.int i2), (.int (0 : Int32)), (.ref a1)])) st2 ?_
  refine own_k (T' := T2) (g' := (mkF m 42 #[.val (.ref a1), .val (.int (1 : Int32)), .val (.int i2)] [(.int (i2 >>> ((0 : Int32) &&& 31))), (.int (0 : Int32)), (.ref a1)])) (fun _ k_ => XS.ishr X2.here hx rfl (hb hby d12_41) rfl k_) ?_
  refine own_k (T' := T2) (g' := (mkF m 43 #[.val (.ref a1), .val (.int (1 : Int32)), .val (.int i2)] [(.int ((i2 >>> ((0 : Int32) &&& 31)).toInt8.toInt32)), (.int (0 : Int32)), (.ref a1)])) (fun _ k_ => XS.i2b X2.here hx rfl (hb hby d12_42) rfl k_) ?_
  obtain ⟨T3, h3, X3, e3, W3, V3, st3⟩ := own_bastore (pc := 43) (Ls := #[.val (.ref a1), .val (.int (1 : Int32)), .val (.int i2)]) (rest := []) X2 hx hZ e2 h_1 (j := (0 : Int32)) (x := ((i2 >>> ((0 : Int32) &&& 31)).toInt8.toInt32)) ⟨by decide, by decide⟩ 0 rfl (Nat.le_of_ble_eq_true rfl) (hb hby d12_43)
  have V3 : Arv Z h3 a1 q3 .byte (24 : Int32) [(.int (nar .byte ((i2 >>> ((0 : Int32) &&& 31)).toInt8.toInt32))), (.int (0 : Int32)), (.int (0 : Int32)), (.int (0 : Int32)), (.int (0 : Int32)), (.int (0 : Int32)), (.int (0 : Int32)), (.int (0 : Int32)), (.int (0 : Int32)), (.int (0 : Int32)), (.int (0 : Int32)), (.int (0 : Int32)), (.int (0 : Int32)), (.int (0 : Int32)), (.int (0 : Int32)), (.int (0 : Int32)), (.int (0 : Int32)), (.int (0 : Int32)), (.int (0 : Int32)), (.int (0 : Int32)), (.int (0 : Int32)), (.int (0 : Int32)), (.int (0 : Int32)), (.int (0 : Int32))] (.int (0 : Int32)) := V3
  rw [show nar .byte ((i2 >>> ((0 : Int32) &&& 31)).toInt8.toInt32) = ((i2 >>> ((0 : Int32) &&& 31)).toInt8.toInt32) from own_nar_byte _] at V3
  have O3' := O0.wr W3 h_2
  have N3 := Fr.snoc X3 N0 h_2
  refine own_k (T' := T3) (g' := (mkF m 44 #[.val (.ref a1), .val (.int (1 : Int32)), .val (.int i2)] [])) st3 ?_
  refine own_k (T' := T3) (g' := (mkF m 45 #[.val (.ref a1), .val (.int (1 : Int32)), .val (.int i2)] [(.ref a1)])) (fun _ k_ => XS.aloadN X3.here hx rfl (hb hby d12_44) rfl rfl  k_) ?_
  refine own_k (T' := T3) (g' := (mkF m 46 #[.val (.ref a1), .val (.int (1 : Int32)), .val (.int i2)] [(.int (1 : Int32)), (.ref a1)])) (fun _ k_ => XS.iloadN X3.here hx rfl (hb hby d12_45) rfl  k_) ?_
  refine own_k (T' := T3) (g' := (mkF m 47 #[.val (.ref a1), .val (.int (1 : Int32)), .val (.int i2)] [(.int i2), (.int (1 : Int32)), (.ref a1)])) (fun _ k_ => XS.iloadN X3.here hx rfl (hb hby d12_46) rfl  k_) ?_
  obtain ⟨T4, X4, e4, st4⟩ := getS2 X3 hx hZ hown (host := "") (Or.inl (hw _ (List.mem_of_getElem? (i := 56) rfl))) Via.refl e3 (S_g_LO_BYTE_SHIFT.ext O3'.2) (g := (mkF m 47 #[.val (.ref a1), .val (.int (1 : Int32)), .val (.int i2)] [(.int i2), (.int (1 : Int32)), (.ref a1)])) rfl (hb hby d12_47)
  refine own_k (T' := T4) (g' := (mkF m 50 #[.val (.ref a1), .val (.int (1 : Int32)), .val (.int i2)] [(.int (8 : Int32)), (.int i2), (.int (1 : Int32)), (.ref a1)])) st4 ?_
  refine own_k (T' := T4) (g' := (mkF m 51 #[.val (.ref a1), .val (.int (1 : Int32)), .val (.int i2)] [(.int (i2 >>> ((8 : Int32) &&& 31))), (.int (1 : Int32)), (.ref a1)])) (fun _ k_ => XS.ishr X4.here hx rfl (hb hby d12_50) rfl k_) ?_
  refine own_k (T' := T4) (g' := (mkF m 52 #[.val (.ref a1), .val (.int (1 : Int32)), .val (.int i2)] [(.int ((i2 >>> ((8 : Int32) &&& 31)).toInt8.toInt32)), (.int (1 : Int32)), (.ref a1)])) (fun _ k_ => XS.i2b X4.here hx rfl (hb hby d12_51) rfl k_) ?_
  obtain ⟨T5, h5, X5, e5, W5, V5, st5⟩ := own_bastore (pc := 52) (Ls := #[.val (.ref a1), .val (.int (1 : Int32)), .val (.int i2)]) (rest := []) X4 hx hZ e4 V3 (j := (1 : Int32)) (x := ((i2 >>> ((8 : Int32) &&& 31)).toInt8.toInt32)) ⟨by decide, by decide⟩ 1 rfl (Nat.le_of_ble_eq_true rfl) (hb hby d12_52)
  have V5 : Arv Z h5 a1 q3 .byte (24 : Int32) [(.int ((i2 >>> ((0 : Int32) &&& 31)).toInt8.toInt32)), (.int (nar .byte ((i2 >>> ((8 : Int32) &&& 31)).toInt8.toInt32))), (.int (0 : Int32)), (.int (0 : Int32)), (.int (0 : Int32)), (.int (0 : Int32)), (.int (0 : Int32)), (.int (0 : Int32)), (.int (0 : Int32)), (.int (0 : Int32)), (.int (0 : Int32)), (.int (0 : Int32)), (.int (0 : Int32)), (.int (0 : Int32)), (.int (0 : Int32)), (.int (0 : Int32)), (.int (0 : Int32)), (.int (0 : Int32)), (.int (0 : Int32)), (.int (0 : Int32)), (.int (0 : Int32)), (.int (0 : Int32)), (.int (0 : Int32)), (.int (0 : Int32))] (.int (0 : Int32)) := V5
  rw [show nar .byte ((i2 >>> ((8 : Int32) &&& 31)).toInt8.toInt32) = ((i2 >>> ((8 : Int32) &&& 31)).toInt8.toInt32) from own_nar_byte _] at V5
  have O5' := O3'.wr W5 h_2
  have N5 := Fr.snoc X5 N3 h_2
  refine own_k (T' := T5) (g' := (mkF m 53 #[.val (.ref a1), .val (.int (1 : Int32)), .val (.int i2)] [])) st5 ?_
  have kp0 : Keep h0 h0 [a1] := Keep.refl h0 [a1]
  have kp1 : Keep h0 h3 [a1] := kp0.wr W3 (Or.inl (List.mem_of_getElem? (i := 0) rfl))
  have kp2 : Keep h0 h5 [a1] := kp1.wr W5 (Or.inl (List.mem_of_getElem? (i := 0) rfl))
  exact own_ret0 X5 hx hret hlk (hb hby d12_53) hF (by rw [e5]; exact ⟨rfl, N5, kp2, V5, ((h_3.wr W3).wr W5)⟩) (by decide) (by decide)
theorem d9_23 : decode jdk_52_method_14_code 23 = .ok (.iinc 1 1, 3) := by decide +kernel
theorem d9_26 : decode jdk_52_method_14_code 26 = .ok (.iinc 4 1, 3) := by decide +kernel
theorem d9_29 : decode jdk_52_method_14_code 29 = .ok (.goto (-21), 3) := by decide +kernel
set_option maxRecDepth 65536 in
set_option maxHeartbeats 40000000 in
theorem rm_putChar_3 (l : Launch) (Z : State) (a0 : Array Value) (g_COMPACT_STRINGS : Int32) (g_SIOOBE_FORMATTER : Value) (hW : own_W Z a0 g_COMPACT_STRINGS g_SIOOBE_FORMATTER) (a1 : Addr) (i2 : Int32) (q3 : ClassId) (i4 : Int32) (i5 : Int32) (h0 : Heap) (O0 : Old Z Z.heap.size h0) (h_1 : Arv Z h0 a1 q3 .byte (24 : Int32) [(.int i4), (.int i5), (.int (0 : Int32)), (.int (0 : Int32)), (.int (0 : Int32)), (.int (0 : Int32)), (.int (0 : Int32)), (.int (0 : Int32)), (.int (0 : Int32)), (.int (0 : Int32)), (.int (0 : Int32)), (.int (0 : Int32)), (.int (0 : Int32)), (.int (0 : Int32)), (.int (0 : Int32)), (.int (0 : Int32)), (.int (0 : Int32)), (.int (0 : Int32)), (.int (0 : Int32)), (.int (0 : Int32)), (.int (0 : Int32)), (.int (0 : Int32)), (.int (0 : Int32)), (.int (0 : Int32))] (.int (0 : Int32))) (h_2 : Z.heap.size ≤ a1) (h_3 : Exa Z h0 a1 "[B") :
    own_Met l Z (⟨"java/lang/StringUTF16", "putChar", "([BII)V"⟩ : MethodName) jdk_52_method_4_code 3 none ({ frames := 0, cells := 0, slots := 0, locals := 0 } : Room) #[(.ref a1), (.int (1 : Int32)), (.int i2)] h0 (fun v h L => v = none ∧ Fr Z.heap.size L ∧ Keep h0 h [a1] ∧ Arv Z h a1 q3 .byte (24 : Int32) [(.int i4), (.int i5), (.int ((i2 >>> ((0 : Int32) &&& 31)).toInt8.toInt32)), (.int ((i2 >>> ((8 : Int32) &&& 31)).toInt8.toInt32)), (.int (0 : Int32)), (.int (0 : Int32)), (.int (0 : Int32)), (.int (0 : Int32)), (.int (0 : Int32)), (.int (0 : Int32)), (.int (0 : Int32)), (.int (0 : Int32)), (.int (0 : Int32)), (.int (0 : Int32)), (.int (0 : Int32)), (.int (0 : Int32)), (.int (0 : Int32)), (.int (0 : Int32)), (.int (0 : Int32)), (.int (0 : Int32)), (.int (0 : Int32)), (.int (0 : Int32)), (.int (0 : Int32)), (.int (0 : Int32))] (.int (0 : Int32)) ∧ Exa Z h a1 "[B") := by
  have hW_ := hW
  obtain ⟨hw, S_g_COMPACT_STRINGS, P_g_COMPACT_STRINGS, R_g_SIOOBE_FORMATTER, S_g_SIOOBE_FORMATTER, S_g__assertionsDisabled, S_g_HI_BYTE_SHIFT, S_g_LO_BYTE_SHIFT⟩ := hW_
  refine own_met (plainFor_of_name pn_java_lang_StringUTF16) ?_
  intro p e s m below meth cc_ s₁ Φ hF X0 hx hby hml hZ hown hnm hret hlk e0
  have N0 := Fr.nil Z.heap.size
  refine own_k (T' := s₁) (g' := (mkF m 0 #[.val (.ref a1), .val (.int (1 : Int32)), .val (.int i2)] [])) (fun _ k_ => castTop (ef_12_RII m a1 (1 : Int32) i2) k_) ?_
  obtain ⟨T1, X1, e1, st1⟩ := getS2 X0 hx hZ hown (host := "") (Or.inl (hw _ (List.mem_of_getElem? (i := 54) rfl))) Via.refl e0 (S_g__assertionsDisabled.ext O0.2) (g := (mkF m 0 #[.val (.ref a1), .val (.int (1 : Int32)), .val (.int i2)] [])) rfl (hb hby d12_0)
  refine own_k (T' := T1) (g' := (mkF m 3 #[.val (.ref a1), .val (.int (1 : Int32)), .val (.int i2)] [(.int (1 : Int32))])) st1 ?_
  refine own_k (T' := T1) (g' := (mkF m 28 #[.val (.ref a1), .val (.int (1 : Int32)), .val (.int i2)] [])) (fun _ k_ => XS.ifYes X1.here hx rfl (pc0 := 3) (pc' := 28) rfl (hb hby d12_3) rfl ((if0 _ _).trans (feq (by decide : ¬ ((1 : Int32) = (0 : Int32)))).2) (by decide) (by decide) k_) ?_
  refine own_k (T' := T1) (g' := (mkF m 29 #[.val (.ref a1), .val (.int (1 : Int32)), .val (.int i2)] [(.int (1 : Int32))])) (fun _ k_ => XS.iloadN X1.here hx rfl (hb hby d12_28) rfl  k_) ?_
  refine own_k (T' := T1) (g' := (mkF m 30 #[.val (.ref a1), .val (.int (1 : Int32)), .val (.int i2)] [(.int (1 : Int32)), (.int (1 : Int32))])) (fun _ k_ => XS.iconst X1.here hx rfl (hb hby d12_29) k_) ?_
  refine own_k (T' := T1) (g' := (mkF m 31 #[.val (.ref a1), .val (.int (1 : Int32)), .val (.int i2)] [(.int ((1 : Int32) <<< ((1 : Int32) &&& 31)))])) (fun _ k_ => XS.ishl X1.here hx rfl (hb hby d12_30) rfl k_) ?_
  rw [show ((1 : Int32) <<< ((1 : Int32) &&& 31)) = (2 : Int32) from by decide]
  refine own_k (T' := T1) (g' := (mkF m 32 #[.val (.ref a1), .val (.int (2 : Int32)), .val (.int i2)] [])) (fun _ k_ => XS.istoreN X1.here hx rfl (hb hby d12_31) rfl (l' := #[.val (.ref a1), .val (.int (2 : Int32)), .val (.int i2)]) rfl k_) ?_
  refine own_k (T' := T1) (g' := (mkF m 33 #[.val (.ref a1), .val (.int (2 : Int32)), .val (.int i2)] [(.ref a1)])) (fun _ k_ => XS.aloadN X1.here hx rfl (hb hby d12_32) rfl rfl  k_) ?_
  refine own_k (T' := T1) (g' := (mkF m 34 #[.val (.ref a1), .val (.int (2 : Int32)), .val (.int i2)] [(.int (2 : Int32)), (.ref a1)])) (fun _ k_ => XS.iloadN X1.here hx rfl (hb hby d12_33) rfl  k_) ?_
  refine own_k (T' := T1) (g' := (mkF m 37 #[.val (.ref a1), .val (.int ((2 : Int32) + (1 : Int32))), .val (.int i2)] [(.int (2 : Int32)), (.ref a1)])) (fun _ k_ => XS.iinc X1.here hx rfl (hb hby d12_34) rfl (l' := #[.val (.ref a1), .val (.int ((2 : Int32) + (1 : Int32))), .val (.int i2)]) rfl k_) ?_
  rw [show ((2 : Int32) + (1 : Int32)) = (3 : Int32) from by decide]
  refine own_k (T' := T1) (g' := (mkF m 38 #[.val (.ref a1), .val (.int (3 : Int32)), .val (.int i2)] [(.int i2), (.int (2 : Int32)), (.ref a1)])) (fun _ k_ => XS.iloadN X1.here hx rfl (hb hby d12_37) rfl  k_) ?_
  obtain ⟨T2, X2, e2, st2⟩ := getS2 X1 hx hZ hown (host := "") (Or.inl (hw _ (List.mem_of_getElem? (i := 55) rfl))) Via.refl e1 (S_g_HI_BYTE_SHIFT.ext O0.2) (g := (mkF m 38 #[.val (.ref a1), .val (.int (3 : Int32)), .val (.int i2)] [(.int i2), (.int (2 : Int32)), (.ref a1)])) rfl (hb hby d12_38)
  refine own_k (T' := T2) (g' := (mkF m 41 #[.val (.ref a1), .val (.int (3 : Int32)), .val (.int i2)] [(.int (0 : Int32)), (.int i2), (.int (2 : Int32)), (.ref a1)])) st2 ?_
  refine own_k (T' := T2) (g' := (mkF m 42 #[.val (.ref a1), .val (.int (3 : Int32)), .val (.int i2)] [(.int (i2 >>> ((0 : Int32) &&& 31))), (.int (2 : Int32)), (.ref a1)])) (fun _ k_ => XS.ishr X2.here hx rfl (hb hby d12_41) rfl k_) ?_
  refine own_k (T' := T2) (g' := (mkF m 43 #[.val (.ref a1), .val (.int (3 : Int32)), .val (.int i2)] [(.int ((i2 >>> ((0 : Int32) &&& 31)).toInt8.toInt32)), (.int (2 : Int32)), (.ref a1)])) (fun _ k_ => XS.i2b X2.here hx rfl (hb hby d12_42) rfl k_) ?_
  obtain ⟨T3, h3, X3, e3, W3, V3, st3⟩ := own_bastore (pc := 43) (Ls := #[.val (.ref a1), .val (.int (3 : Int32)), .val (.int i2)]) (rest := []) X2 hx hZ e2 h_1 (j := (2 : Int32)) (x := ((i2 >>> ((0 : Int32) &&& 31)).toInt8.toInt32)) ⟨by decide, by decide⟩ 2 rfl (Nat.le_of_ble_eq_true rfl) (hb hby d12_43)
  have V3 : Arv Z h3 a1 q3 .byte (24 : Int32) [(.int i4), (.int i5), (.int (nar .byte ((i2 >>> ((0 : Int32) &&& 31)).toInt8.toInt32))), (.int (0 : Int32)), (.int (0 : Int32)), (.int (0 : Int32)), (.int (0 : Int32)), (.int (0 : Int32)), (.int (0 : Int32)), (.int (0 : Int32)), (.int (0 : Int32)), (.int (0 : Int32)), (.int (0 : Int32)), (.int (0 : Int32)), (.int (0 : Int32)), (.int (0 : Int32)), (.int (0 : Int32)), (.int (0 : Int32)), (.int (0 : Int32)), (.int (0 : Int32)), (.int (0 : Int32)), (.int (0 : Int32)), (.int (0 : Int32)), (.int (0 : Int32))] (.int (0 : Int32)) := V3
  rw [show nar .byte ((i2 >>> ((0 : Int32) &&& 31)).toInt8.toInt32) = ((i2 >>> ((0 : Int32) &&& 31)).toInt8.toInt32) from own_nar_byte _] at V3
  have O3' := O0.wr W3 h_2
  have N3 := Fr.snoc X3 N0 h_2
  refine own_k (T' := T3) (g' := (mkF m 44 #[.val (.ref a1), .val (.int (3 : Int32)), .val (.int i2)] [])) st3 ?_
  refine own_k (T' := T3) (g' := (mkF m 45 #[.val (.ref a1), .val (.int (3 : Int32)), .val (.int i2)] [(.ref a1)])) (fun _ k_ => XS.aloadN X3.here hx rfl (hb hby d12_44) rfl rfl  k_) ?_
  refine own_k (T' := T3) (g' := (mkF m 46 #[.val (.ref a1), .val (.int (3 : Int32)), .val (.int i2)] [(.int (3 : Int32)), (.ref a1)])) (fun _ k_ => XS.iloadN X3.here hx rfl (hb hby d12_45) rfl  k_) ?_
  refine own_k (T' := T3) (g' := (mkF m 47 #[.val (.ref a1), .val (.int (3 : Int32)), .val (.int i2)] [(.int i2), (.int (3 : Int32)), (.ref a1)])) (fun _ k_ => XS.iloadN X3.here hx rfl (hb hby d12_46) rfl  k_) ?_
  obtain ⟨T4, X4, e4, st4⟩ := getS2 X3 hx hZ hown (host := "") (Or.inl (hw _ (List.mem_of_getElem? (i := 56) rfl))) Via.refl e3 (S_g_LO_BYTE_SHIFT.ext O3'.2) (g := (mkF m 47 #[.val (.ref a1), .val (.int (3 : Int32)), .val (.int i2)] [(.int i2), (.int (3 : Int32)), (.ref a1)])) rfl (hb hby d12_47)
  refine own_k (T' := T4) (g' := (mkF m 50 #[.val (.ref a1), .val (.int (3 : Int32)), .val (.int i2)] [(.int (8 : Int32)), (.int i2), (.int (3 : Int32)), (.ref a1)])) st4 ?_
  refine own_k (T' := T4) (g' := (mkF m 51 #[.val (.ref a1), .val (.int (3 : Int32)), .val (.int i2)] [(.int (i2 >>> ((8 : Int32) &&& 31))), (.int (3 : Int32)), (.ref a1)])) (fun _ k_ => XS.ishr X4.here hx rfl (hb hby d12_50) rfl k_) ?_
  refine own_k (T' := T4) (g' := (mkF m 52 #[.val (.ref a1), .val (.int (3 : Int32)), .val (.int i2)] [(.int ((i2 >>> ((8 : Int32) &&& 31)).toInt8.toInt32)), (.int (3 : Int32)), (.ref a1)])) (fun _ k_ => XS.i2b X4.here hx rfl (hb hby d12_51) rfl k_) ?_
  obtain ⟨T5, h5, X5, e5, W5, V5, st5⟩ := own_bastore (pc := 52) (Ls := #[.val (.ref a1), .val (.int (3 : Int32)), .val (.int i2)]) (rest := []) X4 hx hZ e4 V3 (j := (3 : Int32)) (x := ((i2 >>> ((8 : Int32) &&& 31)).toInt8.toInt32)) ⟨by decide, by decide⟩ 3 rfl (Nat.le_of_ble_eq_true rfl) (hb hby d12_52)
  have V5 : Arv Z h5 a1 q3 .byte (24 : Int32) [(.int i4), (.int i5), (.int ((i2 >>> ((0 : Int32) &&& 31)).toInt8.toInt32)), (.int (nar .byte ((i2 >>> ((8 : Int32) &&& 31)).toInt8.toInt32))), (.int (0 : Int32)), (.int (0 : Int32)), (.int (0 : Int32)), (.int (0 : Int32)), (.int (0 : Int32)), (.int (0 : Int32)), (.int (0 : Int32)), (.int (0 : Int32)), (.int (0 : Int32)), (.int (0 : Int32)), (.int (0 : Int32)), (.int (0 : Int32)), (.int (0 : Int32)), (.int (0 : Int32)), (.int (0 : Int32)), (.int (0 : Int32)), (.int (0 : Int32)), (.int (0 : Int32)), (.int (0 : Int32)), (.int (0 : Int32))] (.int (0 : Int32)) := V5
  rw [show nar .byte ((i2 >>> ((8 : Int32) &&& 31)).toInt8.toInt32) = ((i2 >>> ((8 : Int32) &&& 31)).toInt8.toInt32) from own_nar_byte _] at V5
  have O5' := O3'.wr W5 h_2
  have N5 := Fr.snoc X5 N3 h_2
  refine own_k (T' := T5) (g' := (mkF m 53 #[.val (.ref a1), .val (.int (3 : Int32)), .val (.int i2)] [])) st5 ?_
  have kp0 : Keep h0 h0 [a1] := Keep.refl h0 [a1]
  have kp1 : Keep h0 h3 [a1] := kp0.wr W3 (Or.inl (List.mem_of_getElem? (i := 0) rfl))
  have kp2 : Keep h0 h5 [a1] := kp1.wr W5 (Or.inl (List.mem_of_getElem? (i := 0) rfl))
  exact own_ret0 X5 hx hret hlk (hb hby d12_53) hF (by rw [e5]; exact ⟨rfl, N5, kp2, V5, ((h_3.wr W3).wr W5)⟩) (by decide) (by decide)
set_option maxRecDepth 65536 in
set_option maxHeartbeats 40000000 in
theorem rm_putChar_4 (l : Launch) (Z : State) (a0 : Array Value) (g_COMPACT_STRINGS : Int32) (g_SIOOBE_FORMATTER : Value) (hW : own_W Z a0 g_COMPACT_STRINGS g_SIOOBE_FORMATTER) (a1 : Addr) (i2 : Int32) (q3 : ClassId) (i4 : Int32) (i5 : Int32) (i6 : Int32) (i7 : Int32) (h0 : Heap) (O0 : Old Z Z.heap.size h0) (h_1 : Arv Z h0 a1 q3 .byte (24 : Int32) [(.int i4), (.int i5), (.int i6), (.int i7), (.int (0 : Int32)), (.int (0 : Int32)), (.int (0 : Int32)), (.int (0 : Int32)), (.int (0 : Int32)), (.int (0 : Int32)), (.int (0 : Int32)), (.int (0 : Int32)), (.int (0 : Int32)), (.int (0 : Int32)), (.int (0 : Int32)), (.int (0 : Int32)), (.int (0 : Int32)), (.int (0 : Int32)), (.int (0 : Int32)), (.int (0 : Int32)), (.int (0 : Int32)), (.int (0 : Int32)), (.int (0 : Int32)), (.int (0 : Int32))] (.int (0 : Int32))) (h_2 : Z.heap.size ≤ a1) (h_3 : Exa Z h0 a1 "[B") :
    own_Met l Z (⟨"java/lang/StringUTF16", "putChar", "([BII)V"⟩ : MethodName) jdk_52_method_4_code 3 none ({ frames := 0, cells := 0, slots := 0, locals := 0 } : Room) #[(.ref a1), (.int (2 : Int32)), (.int i2)] h0 (fun v h L => v = none ∧ Fr Z.heap.size L ∧ Keep h0 h [a1] ∧ Arv Z h a1 q3 .byte (24 : Int32) [(.int i4), (.int i5), (.int i6), (.int i7), (.int ((i2 >>> ((0 : Int32) &&& 31)).toInt8.toInt32)), (.int ((i2 >>> ((8 : Int32) &&& 31)).toInt8.toInt32)), (.int (0 : Int32)), (.int (0 : Int32)), (.int (0 : Int32)), (.int (0 : Int32)), (.int (0 : Int32)), (.int (0 : Int32)), (.int (0 : Int32)), (.int (0 : Int32)), (.int (0 : Int32)), (.int (0 : Int32)), (.int (0 : Int32)), (.int (0 : Int32)), (.int (0 : Int32)), (.int (0 : Int32)), (.int (0 : Int32)), (.int (0 : Int32)), (.int (0 : Int32)), (.int (0 : Int32))] (.int (0 : Int32)) ∧ Exa Z h a1 "[B") := by
  have hW_ := hW
  obtain ⟨hw, S_g_COMPACT_STRINGS, P_g_COMPACT_STRINGS, R_g_SIOOBE_FORMATTER, S_g_SIOOBE_FORMATTER, S_g__assertionsDisabled, S_g_HI_BYTE_SHIFT, S_g_LO_BYTE_SHIFT⟩ := hW_
  refine own_met (plainFor_of_name pn_java_lang_StringUTF16) ?_
  intro p e s m below meth cc_ s₁ Φ hF X0 hx hby hml hZ hown hnm hret hlk e0
  have N0 := Fr.nil Z.heap.size
  refine own_k (T' := s₁) (g' := (mkF m 0 #[.val (.ref a1), .val (.int (2 : Int32)), .val (.int i2)] [])) (fun _ k_ => castTop (ef_12_RII m a1 (2 : Int32) i2) k_) ?_
  obtain ⟨T1, X1, e1, st1⟩ := getS2 X0 hx hZ hown (host := "") (Or.inl (hw _ (List.mem_of_getElem? (i := 54) rfl))) Via.refl e0 (S_g__assertionsDisabled.ext O0.2) (g := (mkF m 0 #[.val (.ref a1), .val (.int (2 : Int32)), .val (.int i2)] [])) rfl (hb hby d12_0)
  refine own_k (T' := T1) (g' := (mkF m 3 #[.val (.ref a1), .val (.int (2 : Int32)), .val (.int i2)] [(.int (1 : Int32))])) st1 ?_
  refine own_k (T' := T1) (g' := (mkF m 28 #[.val (.ref a1), .val (.int (2 : Int32)), .val (.int i2)] [])) (fun _ k_ => XS.ifYes X1.here hx rfl (pc0 := 3) (pc' := 28) rfl (hb hby d12_3) rfl ((if0 _ _).trans (feq (by decide : ¬ ((1 : Int32) = (0 : Int32)))).2) (by decide) (by decide) k_) ?_
  refine own_k (T' := T1) (g' := (mkF m 29 #[.val (.ref a1), .val (.int (2 : Int32)), .val (.int i2)] [(.int (2 : Int32))])) (fun _ k_ => XS.iloadN X1.here hx rfl (hb hby d12_28) rfl  k_) ?_
  refine own_k (T' := T1) (g' := (mkF m 30 #[.val (.ref a1), .val (.int (2 : Int32)), .val (.int i2)] [(.int (1 : Int32)), (.int (2 : Int32))])) (fun _ k_ => XS.iconst X1.here hx rfl (hb hby d12_29) k_) ?_
  refine own_k (T' := T1) (g' := (mkF m 31 #[.val (.ref a1), .val (.int (2 : Int32)), .val (.int i2)] [(.int ((2 : Int32) <<< ((1 : Int32) &&& 31)))])) (fun _ k_ => XS.ishl X1.here hx rfl (hb hby d12_30) rfl k_) ?_
  rw [show ((2 : Int32) <<< ((1 : Int32) &&& 31)) = (4 : Int32) from by decide]
  refine own_k (T' := T1) (g' := (mkF m 32 #[.val (.ref a1), .val (.int (4 : Int32)), .val (.int i2)] [])) (fun _ k_ => XS.istoreN X1.here hx rfl (hb hby d12_31) rfl (l' := #[.val (.ref a1), .val (.int (4 : Int32)), .val (.int i2)]) rfl k_) ?_
  refine own_k (T' := T1) (g' := (mkF m 33 #[.val (.ref a1), .val (.int (4 : Int32)), .val (.int i2)] [(.ref a1)])) (fun _ k_ => XS.aloadN X1.here hx rfl (hb hby d12_32) rfl rfl  k_) ?_
  refine own_k (T' := T1) (g' := (mkF m 34 #[.val (.ref a1), .val (.int (4 : Int32)), .val (.int i2)] [(.int (4 : Int32)), (.ref a1)])) (fun _ k_ => XS.iloadN X1.here hx rfl (hb hby d12_33) rfl  k_) ?_
  refine own_k (T' := T1) (g' := (mkF m 37 #[.val (.ref a1), .val (.int ((4 : Int32) + (1 : Int32))), .val (.int i2)] [(.int (4 : Int32)), (.ref a1)])) (fun _ k_ => XS.iinc X1.here hx rfl (hb hby d12_34) rfl (l' := #[.val (.ref a1), .val (.int ((4 : Int32) + (1 : Int32))), .val (.int i2)]) rfl k_) ?_
  rw [show ((4 : Int32) + (1 : Int32)) = (5 : Int32) from by decide]
  refine own_k (T' := T1) (g' := (mkF m 38 #[.val (.ref a1), .val (.int (5 : Int32)), .val (.int i2)] [(.int i2), (.int (4 : Int32)), (.ref a1)])) (fun _ k_ => XS.iloadN X1.here hx rfl (hb hby d12_37) rfl  k_) ?_
  obtain ⟨T2, X2, e2, st2⟩ := getS2 X1 hx hZ hown (host := "") (Or.inl (hw _ (List.mem_of_getElem? (i := 55) rfl))) Via.refl e1 (S_g_HI_BYTE_SHIFT.ext O0.2) (g := (mkF m 38 #[.val (.ref a1), .val (.int (5 : Int32)), .val (.int i2)] [(.int i2), (.int (4 : Int32)), (.ref a1)])) rfl (hb hby d12_38)
  refine own_k (T' := T2) (g' := (mkF m 41 #[.val (.ref a1), .val (.int (5 : Int32)), .val (.int i2)] [(.int (0 : Int32)), (.int i2), (.int (4 : Int32)), (.ref a1)])) st2 ?_
  refine own_k (T' := T2) (g' := (mkF m 42 #[.val (.ref a1), .val (.int (5 : Int32)), .val (.int i2)] [(.int (i2 >>> ((0 : Int32) &&& 31))), (.int (4 : Int32)), (.ref a1)])) (fun _ k_ => XS.ishr X2.here hx rfl (hb hby d12_41) rfl k_) ?_
  refine own_k (T' := T2) (g' := (mkF m 43 #[.val (.ref a1), .val (.int (5 : Int32)), .val (.int i2)] [(.int ((i2 >>> ((0 : Int32) &&& 31)).toInt8.toInt32)), (.int (4 : Int32)), (.ref a1)])) (fun _ k_ => XS.i2b X2.here hx rfl (hb hby d12_42) rfl k_) ?_
  obtain ⟨T3, h3, X3, e3, W3, V3, st3⟩ := own_bastore (pc := 43) (Ls := #[.val (.ref a1), .val (.int (5 : Int32)), .val (.int i2)]) (rest := []) X2 hx hZ e2 h_1 (j := (4 : Int32)) (x := ((i2 >>> ((0 : Int32) &&& 31)).toInt8.toInt32)) ⟨by decide, by decide⟩ 4 rfl (Nat.le_of_ble_eq_true rfl) (hb hby d12_43)
  have V3 : Arv Z h3 a1 q3 .byte (24 : Int32) [(.int i4), (.int i5), (.int i6), (.int i7), (.int (nar .byte ((i2 >>> ((0 : Int32) &&& 31)).toInt8.toInt32))), (.int (0 : Int32)), (.int (0 : Int32)), (.int (0 : Int32)), (.int (0 : Int32)), (.int (0 : Int32)), (.int (0 : Int32)), (.int (0 : Int32)), (.int (0 : Int32)), (.int (0 : Int32)), (.int (0 : Int32)), (.int (0 : Int32)), (.int (0 : Int32)), (.int (0 : Int32)), (.int (0 : Int32)), (.int (0 : Int32)), (.int (0 : Int32)), (.int (0 : Int32)), (.int (0 : Int32)), (.int (0 : Int32))] (.int (0 : Int32)) := V3
  rw [show nar .byte ((i2 >>> ((0 : Int32) &&& 31)).toInt8.toInt32) = ((i2 >>> ((0 : Int32) &&& 31)).toInt8.toInt32) from own_nar_byte _] at V3
  have O3' := O0.wr W3 h_2
  have N3 := Fr.snoc X3 N0 h_2
  refine own_k (T' := T3) (g' := (mkF m 44 #[.val (.ref a1), .val (.int (5 : Int32)), .val (.int i2)] [])) st3 ?_
  refine own_k (T' := T3) (g' := (mkF m 45 #[.val (.ref a1), .val (.int (5 : Int32)), .val (.int i2)] [(.ref a1)])) (fun _ k_ => XS.aloadN X3.here hx rfl (hb hby d12_44) rfl rfl  k_) ?_
  refine own_k (T' := T3) (g' := (mkF m 46 #[.val (.ref a1), .val (.int (5 : Int32)), .val (.int i2)] [(.int (5 : Int32)), (.ref a1)])) (fun _ k_ => XS.iloadN X3.here hx rfl (hb hby d12_45) rfl  k_) ?_
  refine own_k (T' := T3) (g' := (mkF m 47 #[.val (.ref a1), .val (.int (5 : Int32)), .val (.int i2)] [(.int i2), (.int (5 : Int32)), (.ref a1)])) (fun _ k_ => XS.iloadN X3.here hx rfl (hb hby d12_46) rfl  k_) ?_
  obtain ⟨T4, X4, e4, st4⟩ := getS2 X3 hx hZ hown (host := "") (Or.inl (hw _ (List.mem_of_getElem? (i := 56) rfl))) Via.refl e3 (S_g_LO_BYTE_SHIFT.ext O3'.2) (g := (mkF m 47 #[.val (.ref a1), .val (.int (5 : Int32)), .val (.int i2)] [(.int i2), (.int (5 : Int32)), (.ref a1)])) rfl (hb hby d12_47)
  refine own_k (T' := T4) (g' := (mkF m 50 #[.val (.ref a1), .val (.int (5 : Int32)), .val (.int i2)] [(.int (8 : Int32)), (.int i2), (.int (5 : Int32)), (.ref a1)])) st4 ?_
  refine own_k (T' := T4) (g' := (mkF m 51 #[.val (.ref a1), .val (.int (5 : Int32)), .val (.int i2)] [(.int (i2 >>> ((8 : Int32) &&& 31))), (.int (5 : Int32)), (.ref a1)])) (fun _ k_ => XS.ishr X4.here hx rfl (hb hby d12_50) rfl k_) ?_
  refine own_k (T' := T4) (g' := (mkF m 52 #[.val (.ref a1), .val (.int (5 : Int32)), .val (.int i2)] [(.int ((i2 >>> ((8 : Int32) &&& 31)).toInt8.toInt32)), (.int (5 : Int32)), (.ref a1)])) (fun _ k_ => XS.i2b X4.here hx rfl (hb hby d12_51) rfl k_) ?_
  obtain ⟨T5, h5, X5, e5, W5, V5, st5⟩ := own_bastore (pc := 52) (Ls := #[.val (.ref a1), .val (.int (5 : Int32)), .val (.int i2)]) (rest := []) X4 hx hZ e4 V3 (j := (5 : Int32)) (x := ((i2 >>> ((8 : Int32) &&& 31)).toInt8.toInt32)) ⟨by decide, by decide⟩ 5 rfl (Nat.le_of_ble_eq_true rfl) (hb hby d12_52)
  have V5 : Arv Z h5 a1 q3 .byte (24 : Int32) [(.int i4), (.int i5), (.int i6), (.int i7), (.int ((i2 >>> ((0 : Int32) &&& 31)).toInt8.toInt32)), (.int (nar .byte ((i2 >>> ((8 : Int32) &&& 31)).toInt8.toInt32))), (.int (0 : Int32)), (.int (0 : Int32)), (.int (0 : Int32)), (.int (0 : Int32)), (.int (0 : Int32)), (.int (0 : Int32)), (.int (0 : Int32)), (.int (0 : Int32)), (.int (0 : Int32)), (.int (0 : Int32)), (.int (0 : Int32)), (.int (0 : Int32)), (.int (0 : Int32)), (.int (0 : Int32)), (.int (0 : Int32)), (.int (0 : Int32)), (.int (0 : Int32)), (.int (0 : Int32))] (.int (0 : Int32)) := V5
  rw [show nar .byte ((i2 >>> ((8 : Int32) &&& 31)).toInt8.toInt32) = ((i2 >>> ((8 : Int32) &&& 31)).toInt8.toInt32) from own_nar_byte _] at V5
  have O5' := O3'.wr W5 h_2
  have N5 := Fr.snoc X5 N3 h_2
  refine own_k (T' := T5) (g' := (mkF m 53 #[.val (.ref a1), .val (.int (5 : Int32)), .val (.int i2)] [])) st5 ?_
  have kp0 : Keep h0 h0 [a1] := Keep.refl h0 [a1]
  have kp1 : Keep h0 h3 [a1] := kp0.wr W3 (Or.inl (List.mem_of_getElem? (i := 0) rfl))
  have kp2 : Keep h0 h5 [a1] := kp1.wr W5 (Or.inl (List.mem_of_getElem? (i := 0) rfl))
  exact own_ret0 X5 hx hret hlk (hb hby d12_53) hF (by rw [e5]; exact ⟨rfl, N5, kp2, V5, ((h_3.wr W3).wr W5)⟩) (by decide) (by decide)
set_option maxRecDepth 65536 in
set_option maxHeartbeats 40000000 in
theorem rm_putChar_5 (l : Launch) (Z : State) (a0 : Array Value) (g_COMPACT_STRINGS : Int32) (g_SIOOBE_FORMATTER : Value) (hW : own_W Z a0 g_COMPACT_STRINGS g_SIOOBE_FORMATTER) (a1 : Addr) (i2 : Int32) (q3 : ClassId) (i4 : Int32) (i5 : Int32) (i6 : Int32) (i7 : Int32) (i8 : Int32) (i9 : Int32) (h0 : Heap) (O0 : Old Z Z.heap.size h0) (h_1 : Arv Z h0 a1 q3 .byte (24 : Int32) [(.int i4), (.int i5), (.int i6), (.int i7), (.int i8), (.int i9), (.int (0 : Int32)), (.int (0 : Int32)), (.int (0 : Int32)), (.int (0 : Int32)), (.int (0 : Int32)), (.int (0 : Int32)), (.int (0 : Int32)), (.int (0 : Int32)), (.int (0 : Int32)), (.int (0 : Int32)), (.int (0 : Int32)), (.int (0 : Int32)), (.int (0 : Int32)), (.int (0 : Int32)), (.int (0 : Int32)), (.int (0 : Int32)), (.int (0 : Int32)), (.int (0 : Int32))] (.int (0 : Int32))) (h_2 : Z.heap.size ≤ a1) (h_3 : Exa Z h0 a1 "[B") :
    own_Met l Z (⟨"java/lang/StringUTF16", "putChar", "([BII)V"⟩ : MethodName) jdk_52_method_4_code 3 none ({ frames := 0, cells := 0, slots := 0, locals := 0 } : Room) #[(.ref a1), (.int (3 : Int32)), (.int i2)] h0 (fun v h L => v = none ∧ Fr Z.heap.size L ∧ Keep h0 h [a1] ∧ Arv Z h a1 q3 .byte (24 : Int32) [(.int i4), (.int i5), (.int i6), (.int i7), (.int i8), (.int i9), (.int ((i2 >>> ((0 : Int32) &&& 31)).toInt8.toInt32)), (.int ((i2 >>> ((8 : Int32) &&& 31)).toInt8.toInt32)), (.int (0 : Int32)), (.int (0 : Int32)), (.int (0 : Int32)), (.int (0 : Int32)), (.int (0 : Int32)), (.int (0 : Int32)), (.int (0 : Int32)), (.int (0 : Int32)), (.int (0 : Int32)), (.int (0 : Int32)), (.int (0 : Int32)), (.int (0 : Int32)), (.int (0 : Int32)), (.int (0 : Int32)), (.int (0 : Int32)), (.int (0 : Int32))] (.int (0 : Int32)) ∧ Exa Z h a1 "[B") := by
  have hW_ := hW
  obtain ⟨hw, S_g_COMPACT_STRINGS, P_g_COMPACT_STRINGS, R_g_SIOOBE_FORMATTER, S_g_SIOOBE_FORMATTER, S_g__assertionsDisabled, S_g_HI_BYTE_SHIFT, S_g_LO_BYTE_SHIFT⟩ := hW_
  refine own_met (plainFor_of_name pn_java_lang_StringUTF16) ?_
  intro p e s m below meth cc_ s₁ Φ hF X0 hx hby hml hZ hown hnm hret hlk e0
  have N0 := Fr.nil Z.heap.size
  refine own_k (T' := s₁) (g' := (mkF m 0 #[.val (.ref a1), .val (.int (3 : Int32)), .val (.int i2)] [])) (fun _ k_ => castTop (ef_12_RII m a1 (3 : Int32) i2) k_) ?_
  obtain ⟨T1, X1, e1, st1⟩ := getS2 X0 hx hZ hown (host := "") (Or.inl (hw _ (List.mem_of_getElem? (i := 54) rfl))) Via.refl e0 (S_g__assertionsDisabled.ext O0.2) (g := (mkF m 0 #[.val (.ref a1), .val (.int (3 : Int32)), .val (.int i2)] [])) rfl (hb hby d12_0)
  refine own_k (T' := T1) (g' := (mkF m 3 #[.val (.ref a1), .val (.int (3 : Int32)), .val (.int i2)] [(.int (1 : Int32))])) st1 ?_
  refine own_k (T' := T1) (g' := (mkF m 28 #[.val (.ref a1), .val (.int (3 : Int32)), .val (.int i2)] [])) (fun _ k_ => XS.ifYes X1.here hx rfl (pc0 := 3) (pc' := 28) rfl (hb hby d12_3) rfl ((if0 _ _).trans (feq (by decide : ¬ ((1 : Int32) = (0 : Int32)))).2) (by decide) (by decide) k_) ?_
  refine own_k (T' := T1) (g' := (mkF m 29 #[.val (.ref a1), .val (.int (3 : Int32)), .val (.int i2)] [(.int (3 : Int32))])) (fun _ k_ => XS.iloadN X1.here hx rfl (hb hby d12_28) rfl  k_) ?_
  refine own_k (T' := T1) (g' := (mkF m 30 #[.val (.ref a1), .val (.int (3 : Int32)), .val (.int i2)] [(.int (1 : Int32)), (.int (3 : Int32))])) (fun _ k_ => XS.iconst X1.here hx rfl (hb hby d12_29) k_) ?_
  refine own_k (T' := T1) (g' := (mkF m 31 #[.val (.ref a1), .val (.int (3 : Int32)), .val (.int i2)] [(.int ((3 : Int32) <<< ((1 : Int32) &&& 31)))])) (fun _ k_ => XS.ishl X1.here hx rfl (hb hby d12_30) rfl k_) ?_
  rw [show ((3 : Int32) <<< ((1 : Int32) &&& 31)) = (6 : Int32) from by decide]
  refine own_k (T' := T1) (g' := (mkF m 32 #[.val (.ref a1), .val (.int (6 : Int32)), .val (.int i2)] [])) (fun _ k_ => XS.istoreN X1.here hx rfl (hb hby d12_31) rfl (l' := #[.val (.ref a1), .val (.int (6 : Int32)), .val (.int i2)]) rfl k_) ?_
  refine own_k (T' := T1) (g' := (mkF m 33 #[.val (.ref a1), .val (.int (6 : Int32)), .val (.int i2)] [(.ref a1)])) (fun _ k_ => XS.aloadN X1.here hx rfl (hb hby d12_32) rfl rfl  k_) ?_
  refine own_k (T' := T1) (g' := (mkF m 34 #[.val (.ref a1), .val (.int (6 : Int32)), .val (.int i2)] [(.int (6 : Int32)), (.ref a1)])) (fun _ k_ => XS.iloadN X1.here hx rfl (hb hby d12_33) rfl  k_) ?_
  refine own_k (T' := T1) (g' := (mkF m 37 #[.val (.ref a1), .val (.int ((6 : Int32) + (1 : Int32))), .val (.int i2)] [(.int (6 : Int32)), (.ref a1)])) (fun _ k_ => XS.iinc X1.here hx rfl (hb hby d12_34) rfl (l' := #[.val (.ref a1), .val (.int ((6 : Int32) + (1 : Int32))), .val (.int i2)]) rfl k_) ?_
  rw [show ((6 : Int32) + (1 : Int32)) = (7 : Int32) from by decide]
  refine own_k (T' := T1) (g' := (mkF m 38 #[.val (.ref a1), .val (.int (7 : Int32)), .val (.int i2)] [(.int i2), (.int (6 : Int32)), (.ref a1)])) (fun _ k_ => XS.iloadN X1.here hx rfl (hb hby d12_37) rfl  k_) ?_
  obtain ⟨T2, X2, e2, st2⟩ := getS2 X1 hx hZ hown (host := "") (Or.inl (hw _ (List.mem_of_getElem? (i := 55) rfl))) Via.refl e1 (S_g_HI_BYTE_SHIFT.ext O0.2) (g := (mkF m 38 #[.val (.ref a1), .val (.int (7 : Int32)), .val (.int i2)] [(.int i2), (.int (6 : Int32)), (.ref a1)])) rfl (hb hby d12_38)
  refine own_k (T' := T2) (g' := (mkF m 41 #[.val (.ref a1), .val (.int (7 : Int32)), .val (.int i2)] [(.int (0 : Int32)), (.int i2), (.int (6 : Int32)), (.ref a1)])) st2 ?_
  refine own_k (T' := T2) (g' := (mkF m 42 #[.val (.ref a1), .val (.int (7 : Int32)), .val (.int i2)] [(.int (i2 >>> ((0 : Int32) &&& 31))), (.int (6 : Int32)), (.ref a1)])) (fun _ k_ => XS.ishr X2.here hx rfl (hb hby d12_41) rfl k_) ?_
  refine own_k (T' := T2) (g' := (mkF m 43 #[.val (.ref a1), .val (.int (7 : Int32)), .val (.int i2)] [(.int ((i2 >>> ((0 : Int32) &&& 31)).toInt8.toInt32)), (.int (6 : Int32)), (.ref a1)])) (fun _ k_ => XS.i2b X2.here hx rfl (hb hby d12_42) rfl k_) ?_
  obtain ⟨T3, h3, X3, e3, W3, V3, st3⟩ := own_bastore (pc := 43) (Ls := #[.val (.ref a1), .val (.int (7 : Int32)), .val (.int i2)]) (rest := []) X2 hx hZ e2 h_1 (j := (6 : Int32)) (x := ((i2 >>> ((0 : Int32) &&& 31)).toInt8.toInt32)) ⟨by decide, by decide⟩ 6 rfl (Nat.le_of_ble_eq_true rfl) (hb hby d12_43)
  have V3 : Arv Z h3 a1 q3 .byte (24 : Int32) [(.int i4), (.int i5), (.int i6), (.int i7), (.int i8), (.int i9), (.int (nar .byte ((i2 >>> ((0 : Int32) &&& 31)).toInt8.toInt32))), (.int (0 : Int32)), (.int (0 : Int32)), (.int (0 : Int32)), (.int (0 : Int32)), (.int (0 : Int32)), (.int (0 : Int32)), (.int (0 : Int32)), (.int (0 : Int32)), (.int (0 : Int32)), (.int (0 : Int32)), (.int (0 : Int32)), (.int (0 : Int32)), (.int (0 : Int32)), (.int (0 : Int32)), (.int (0 : Int32)), (.int (0 : Int32)), (.int (0 : Int32))] (.int (0 : Int32)) := V3
  rw [show nar .byte ((i2 >>> ((0 : Int32) &&& 31)).toInt8.toInt32) = ((i2 >>> ((0 : Int32) &&& 31)).toInt8.toInt32) from own_nar_byte _] at V3
  have O3' := O0.wr W3 h_2
  have N3 := Fr.snoc X3 N0 h_2
  refine own_k (T' := T3) (g' := (mkF m 44 #[.val (.ref a1), .val (.int (7 : Int32)), .val (.int i2)] [])) st3 ?_
  refine own_k (T' := T3) (g' := (mkF m 45 #[.val (.ref a1), .val (.int (7 : Int32)), .val (.int i2)] [(.ref a1)])) (fun _ k_ => XS.aloadN X3.here hx rfl (hb hby d12_44) rfl rfl  k_) ?_
  refine own_k (T' := T3) (g' := (mkF m 46 #[.val (.ref a1), .val (.int (7 : Int32)), .val (.int i2)] [(.int (7 : Int32)), (.ref a1)])) (fun _ k_ => XS.iloadN X3.here hx rfl (hb hby d12_45) rfl  k_) ?_
  refine own_k (T' := T3) (g' := (mkF m 47 #[.val (.ref a1), .val (.int (7 : Int32)), .val (.int i2)] [(.int i2), (.int (7 : Int32)), (.ref a1)])) (fun _ k_ => XS.iloadN X3.here hx rfl (hb hby d12_46) rfl  k_) ?_
  obtain ⟨T4, X4, e4, st4⟩ := getS2 X3 hx hZ hown (host := "") (Or.inl (hw _ (List.mem_of_getElem? (i := 56) rfl))) Via.refl e3 (S_g_LO_BYTE_SHIFT.ext O3'.2) (g := (mkF m 47 #[.val (.ref a1), .val (.int (7 : Int32)), .val (.int i2)] [(.int i2), (.int (7 : Int32)), (.ref a1)])) rfl (hb hby d12_47)
  refine own_k (T' := T4) (g' := (mkF m 50 #[.val (.ref a1), .val (.int (7 : Int32)), .val (.int i2)] [(.int (8 : Int32)), (.int i2), (.int (7 : Int32)), (.ref a1)])) st4 ?_
  refine own_k (T' := T4) (g' := (mkF m 51 #[.val (.ref a1), .val (.int (7 : Int32)), .val (.int i2)] [(.int (i2 >>> ((8 : Int32) &&& 31))), (.int (7 : Int32)), (.ref a1)])) (fun _ k_ => XS.ishr X4.here hx rfl (hb hby d12_50) rfl k_) ?_
  refine own_k (T' := T4) (g' := (mkF m 52 #[.val (.ref a1), .val (.int (7 : Int32)), .val (.int i2)] [(.int ((i2 >>> ((8 : Int32) &&& 31)).toInt8.toInt32)), (.int (7 : Int32)), (.ref a1)])) (fun _ k_ => XS.i2b X4.here hx rfl (hb hby d12_51) rfl k_) ?_
  obtain ⟨T5, h5, X5, e5, W5, V5, st5⟩ := own_bastore (pc := 52) (Ls := #[.val (.ref a1), .val (.int (7 : Int32)), .val (.int i2)]) (rest := []) X4 hx hZ e4 V3 (j := (7 : Int32)) (x := ((i2 >>> ((8 : Int32) &&& 31)).toInt8.toInt32)) ⟨by decide, by decide⟩ 7 rfl (Nat.le_of_ble_eq_true rfl) (hb hby d12_52)
  have V5 : Arv Z h5 a1 q3 .byte (24 : Int32) [(.int i4), (.int i5), (.int i6), (.int i7), (.int i8), (.int i9), (.int ((i2 >>> ((0 : Int32) &&& 31)).toInt8.toInt32)), (.int (nar .byte ((i2 >>> ((8 : Int32) &&& 31)).toInt8.toInt32))), (.int (0 : Int32)), (.int (0 : Int32)), (.int (0 : Int32)), (.int (0 : Int32)), (.int (0 : Int32)), (.int (0 : Int32)), (.int (0 : Int32)), (.int (0 : Int32)), (.int (0 : Int32)), (.int (0 : Int32)), (.int (0 : Int32)), (.int (0 : Int32)), (.int (0 : Int32)), (.int (0 : Int32)), (.int (0 : Int32)), (.int (0 : Int32))] (.int (0 : Int32)) := V5
  rw [show nar .byte ((i2 >>> ((8 : Int32) &&& 31)).toInt8.toInt32) = ((i2 >>> ((8 : Int32) &&& 31)).toInt8.toInt32) from own_nar_byte _] at V5
  have O5' := O3'.wr W5 h_2
  have N5 := Fr.snoc X5 N3 h_2
  refine own_k (T' := T5) (g' := (mkF m 53 #[.val (.ref a1), .val (.int (7 : Int32)), .val (.int i2)] [])) st5 ?_
  have kp0 : Keep h0 h0 [a1] := Keep.refl h0 [a1]
  have kp1 : Keep h0 h3 [a1] := kp0.wr W3 (Or.inl (List.mem_of_getElem? (i := 0) rfl))
  have kp2 : Keep h0 h5 [a1] := kp1.wr W5 (Or.inl (List.mem_of_getElem? (i := 0) rfl))
  exact own_ret0 X5 hx hret hlk (hb hby d12_53) hF (by rw [e5]; exact ⟨rfl, N5, kp2, V5, ((h_3.wr W3).wr W5)⟩) (by decide) (by decide)
set_option maxRecDepth 65536 in
set_option maxHeartbeats 40000000 in
theorem rm_putChar_6 (l : Launch) (Z : State) (a0 : Array Value) (g_COMPACT_STRINGS : Int32) (g_SIOOBE_FORMATTER : Value) (hW : own_W Z a0 g_COMPACT_STRINGS g_SIOOBE_FORMATTER) (a1 : Addr) (i2 : Int32) (q3 : ClassId) (i4 : Int32) (i5 : Int32) (i6 : Int32) (i7 : Int32) (i8 : Int32) (i9 : Int32) (i10 : Int32) (i11 : Int32) (h0 : Heap) (O0 : Old Z Z.heap.size h0) (h_1 : Arv Z h0 a1 q3 .byte (24 : Int32) [(.int i4), (.int i5), (.int i6), (.int i7), (.int i8), (.int i9), (.int i10), (.int i11), (.int (0 : Int32)), (.int (0 : Int32)), (.int (0 : Int32)), (.int (0 : Int32)), (.int (0 : Int32)), (.int (0 : Int32)), (.int (0 : Int32)), (.int (0 : Int32)), (.int (0 : Int32)), (.int (0 : Int32)), (.int (0 : Int32)), (.int (0 : Int32)), (.int (0 : Int32)), (.int (0 : Int32)), (.int (0 : Int32)), (.int (0 : Int32))] (.int (0 : Int32))) (h_2 : Z.heap.size ≤ a1) (h_3 : Exa Z h0 a1 "[B") :
    own_Met l Z (⟨"java/lang/StringUTF16", "putChar", "([BII)V"⟩ : MethodName) jdk_52_method_4_code 3 none ({ frames := 0, cells := 0, slots := 0, locals := 0 } : Room) #[(.ref a1), (.int (4 : Int32)), (.int i2)] h0 (fun v h L => v = none ∧ Fr Z.heap.size L ∧ Keep h0 h [a1] ∧ Arv Z h a1 q3 .byte (24 : Int32) [(.int i4), (.int i5), (.int i6), (.int i7), (.int i8), (.int i9), (.int i10), (.int i11), (.int ((i2 >>> ((0 : Int32) &&& 31)).toInt8.toInt32)), (.int ((i2 >>> ((8 : Int32) &&& 31)).toInt8.toInt32)), (.int (0 : Int32)), (.int (0 : Int32)), (.int (0 : Int32)), (.int (0 : Int32)), (.int (0 : Int32)), (.int (0 : Int32)), (.int (0 : Int32)), (.int (0 : Int32)), (.int (0 : Int32)), (.int (0 : Int32)), (.int (0 : Int32)), (.int (0 : Int32)), (.int (0 : Int32)), (.int (0 : Int32))] (.int (0 : Int32)) ∧ Exa Z h a1 "[B") := by
  have hW_ := hW
  obtain ⟨hw, S_g_COMPACT_STRINGS, P_g_COMPACT_STRINGS, R_g_SIOOBE_FORMATTER, S_g_SIOOBE_FORMATTER, S_g__assertionsDisabled, S_g_HI_BYTE_SHIFT, S_g_LO_BYTE_SHIFT⟩ := hW_
  refine own_met (plainFor_of_name pn_java_lang_StringUTF16) ?_
  intro p e s m below meth cc_ s₁ Φ hF X0 hx hby hml hZ hown hnm hret hlk e0
  have N0 := Fr.nil Z.heap.size
  refine own_k (T' := s₁) (g' := (mkF m 0 #[.val (.ref a1), .val (.int (4 : Int32)), .val (.int i2)] [])) (fun _ k_ => castTop (ef_12_RII m a1 (4 : Int32) i2) k_) ?_
  obtain ⟨T1, X1, e1, st1⟩ := getS2 X0 hx hZ hown (host := "") (Or.inl (hw _ (List.mem_of_getElem? (i := 54) rfl))) Via.refl e0 (S_g__assertionsDisabled.ext O0.2) (g := (mkF m 0 #[.val (.ref a1), .val (.int (4 : Int32)), .val (.int i2)] [])) rfl (hb hby d12_0)
  refine own_k (T' := T1) (g' := (mkF m 3 #[.val (.ref a1), .val (.int (4 : Int32)), .val (.int i2)] [(.int (1 : Int32))])) st1 ?_
  refine own_k (T' := T1) (g' := (mkF m 28 #[.val (.ref a1), .val (.int (4 : Int32)), .val (.int i2)] [])) (fun _ k_ => XS.ifYes X1.here hx rfl (pc0 := 3) (pc' := 28) rfl (hb hby d12_3) rfl ((if0 _ _).trans (feq (by decide : ¬ ((1 : Int32) = (0 : Int32)))).2) (by decide) (by decide) k_) ?_
  refine own_k (T' := T1) (g' := (mkF m 29 #[.val (.ref a1), .val (.int (4 : Int32)), .val (.int i2)] [(.int (4 : Int32))])) (fun _ k_ => XS.iloadN X1.here hx rfl (hb hby d12_28) rfl  k_) ?_
  refine own_k (T' := T1) (g' := (mkF m 30 #[.val (.ref a1), .val (.int (4 : Int32)), .val (.int i2)] [(.int (1 : Int32)), (.int (4 : Int32))])) (fun _ k_ => XS.iconst X1.here hx rfl (hb hby d12_29) k_) ?_
  refine own_k (T' := T1) (g' := (mkF m 31 #[.val (.ref a1), .val (.int (4 : Int32)), .val (.int i2)] [(.int ((4 : Int32) <<< ((1 : Int32) &&& 31)))])) (fun _ k_ => XS.ishl X1.here hx rfl (hb hby d12_30) rfl k_) ?_
  rw [show ((4 : Int32) <<< ((1 : Int32) &&& 31)) = (8 : Int32) from by decide]
  refine own_k (T' := T1) (g' := (mkF m 32 #[.val (.ref a1), .val (.int (8 : Int32)), .val (.int i2)] [])) (fun _ k_ => XS.istoreN X1.here hx rfl (hb hby d12_31) rfl (l' := #[.val (.ref a1), .val (.int (8 : Int32)), .val (.int i2)]) rfl k_) ?_
  refine own_k (T' := T1) (g' := (mkF m 33 #[.val (.ref a1), .val (.int (8 : Int32)), .val (.int i2)] [(.ref a1)])) (fun _ k_ => XS.aloadN X1.here hx rfl (hb hby d12_32) rfl rfl  k_) ?_
  refine own_k (T' := T1) (g' := (mkF m 34 #[.val (.ref a1), .val (.int (8 : Int32)), .val (.int i2)] [(.int (8 : Int32)), (.ref a1)])) (fun _ k_ => XS.iloadN X1.here hx rfl (hb hby d12_33) rfl  k_) ?_
  refine own_k (T' := T1) (g' := (mkF m 37 #[.val (.ref a1), .val (.int ((8 : Int32) + (1 : Int32))), .val (.int i2)] [(.int (8 : Int32)), (.ref a1)])) (fun _ k_ => XS.iinc X1.here hx rfl (hb hby d12_34) rfl (l' := #[.val (.ref a1), .val (.int ((8 : Int32) + (1 : Int32))), .val (.int i2)]) rfl k_) ?_
  rw [show ((8 : Int32) + (1 : Int32)) = (9 : Int32) from by decide]
  refine own_k (T' := T1) (g' := (mkF m 38 #[.val (.ref a1), .val (.int (9 : Int32)), .val (.int i2)] [(.int i2), (.int (8 : Int32)), (.ref a1)])) (fun _ k_ => XS.iloadN X1.here hx rfl (hb hby d12_37) rfl  k_) ?_
  obtain ⟨T2, X2, e2, st2⟩ := getS2 X1 hx hZ hown (host := "") (Or.inl (hw _ (List.mem_of_getElem? (i := 55) rfl))) Via.refl e1 (S_g_HI_BYTE_SHIFT.ext O0.2) (g := (mkF m 38 #[.val (.ref a1), .val (.int (9 : Int32)), .val (.int i2)] [(.int i2), (.int (8 : Int32)), (.ref a1)])) rfl (hb hby d12_38)
  refine own_k (T' := T2) (g' := (mkF m 41 #[.val (.ref a1), .val (.int (9 : Int32)), .val (.int i2)] [(.int (0 : Int32)), (.int i2), (.int (8 : Int32)), (.ref a1)])) st2 ?_
  refine own_k (T' := T2) (g' := (mkF m 42 #[.val (.ref a1), .val (.int (9 : Int32)), .val (.int i2)] [(.int (i2 >>> ((0 : Int32) &&& 31))), (.int (8 : Int32)), (.ref a1)])) (fun _ k_ => XS.ishr X2.here hx rfl (hb hby d12_41) rfl k_) ?_
  refine own_k (T' := T2) (g' := (mkF m 43 #[.val (.ref a1), .val (.int (9 : Int32)), .val (.int i2)] [(.int ((i2 >>> ((0 : Int32) &&& 31)).toInt8.toInt32)), (.int (8 : Int32)), (.ref a1)])) (fun _ k_ => XS.i2b X2.here hx rfl (hb hby d12_42) rfl k_) ?_
  obtain ⟨T3, h3, X3, e3, W3, V3, st3⟩ := own_bastore (pc := 43) (Ls := #[.val (.ref a1), .val (.int (9 : Int32)), .val (.int i2)]) (rest := []) X2 hx hZ e2 h_1 (j := (8 : Int32)) (x := ((i2 >>> ((0 : Int32) &&& 31)).toInt8.toInt32)) ⟨by decide, by decide⟩ 8 rfl (Nat.le_of_ble_eq_true rfl) (hb hby d12_43)
  have V3 : Arv Z h3 a1 q3 .byte (24 : Int32) [(.int i4), (.int i5), (.int i6), (.int i7), (.int i8), (.int i9), (.int i10), (.int i11), (.int (nar .byte ((i2 >>> ((0 : Int32) &&& 31)).toInt8.toInt32))), (.int (0 : Int32)), (.int (0 : Int32)), (.int (0 : Int32)), (.int (0 : Int32)), (.int (0 : Int32)), (.int (0 : Int32)), (.int (0 : Int32)), (.int (0 : Int32)), (.int (0 : Int32)), (.int (0 : Int32)), (.int (0 : Int32)), (.int (0 : Int32)), (.int (0 : Int32)), (.int (0 : Int32)), (.int (0 : Int32))] (.int (0 : Int32)) := V3
  rw [show nar .byte ((i2 >>> ((0 : Int32) &&& 31)).toInt8.toInt32) = ((i2 >>> ((0 : Int32) &&& 31)).toInt8.toInt32) from own_nar_byte _] at V3
  have O3' := O0.wr W3 h_2
  have N3 := Fr.snoc X3 N0 h_2
  refine own_k (T' := T3) (g' := (mkF m 44 #[.val (.ref a1), .val (.int (9 : Int32)), .val (.int i2)] [])) st3 ?_
  refine own_k (T' := T3) (g' := (mkF m 45 #[.val (.ref a1), .val (.int (9 : Int32)), .val (.int i2)] [(.ref a1)])) (fun _ k_ => XS.aloadN X3.here hx rfl (hb hby d12_44) rfl rfl  k_) ?_
  refine own_k (T' := T3) (g' := (mkF m 46 #[.val (.ref a1), .val (.int (9 : Int32)), .val (.int i2)] [(.int (9 : Int32)), (.ref a1)])) (fun _ k_ => XS.iloadN X3.here hx rfl (hb hby d12_45) rfl  k_) ?_
  refine own_k (T' := T3) (g' := (mkF m 47 #[.val (.ref a1), .val (.int (9 : Int32)), .val (.int i2)] [(.int i2), (.int (9 : Int32)), (.ref a1)])) (fun _ k_ => XS.iloadN X3.here hx rfl (hb hby d12_46) rfl  k_) ?_
  obtain ⟨T4, X4, e4, st4⟩ := getS2 X3 hx hZ hown (host := "") (Or.inl (hw _ (List.mem_of_getElem? (i := 56) rfl))) Via.refl e3 (S_g_LO_BYTE_SHIFT.ext O3'.2) (g := (mkF m 47 #[.val (.ref a1), .val (.int (9 : Int32)), .val (.int i2)] [(.int i2), (.int (9 : Int32)), (.ref a1)])) rfl (hb hby d12_47)
  refine own_k (T' := T4) (g' := (mkF m 50 #[.val (.ref a1), .val (.int (9 : Int32)), .val (.int i2)] [(.int (8 : Int32)), (.int i2), (.int (9 : Int32)), (.ref a1)])) st4 ?_
  refine own_k (T' := T4) (g' := (mkF m 51 #[.val (.ref a1), .val (.int (9 : Int32)), .val (.int i2)] [(.int (i2 >>> ((8 : Int32) &&& 31))), (.int (9 : Int32)), (.ref a1)])) (fun _ k_ => XS.ishr X4.here hx rfl (hb hby d12_50) rfl k_) ?_
  refine own_k (T' := T4) (g' := (mkF m 52 #[.val (.ref a1), .val (.int (9 : Int32)), .val (.int i2)] [(.int ((i2 >>> ((8 : Int32) &&& 31)).toInt8.toInt32)), (.int (9 : Int32)), (.ref a1)])) (fun _ k_ => XS.i2b X4.here hx rfl (hb hby d12_51) rfl k_) ?_
  obtain ⟨T5, h5, X5, e5, W5, V5, st5⟩ := own_bastore (pc := 52) (Ls := #[.val (.ref a1), .val (.int (9 : Int32)), .val (.int i2)]) (rest := []) X4 hx hZ e4 V3 (j := (9 : Int32)) (x := ((i2 >>> ((8 : Int32) &&& 31)).toInt8.toInt32)) ⟨by decide, by decide⟩ 9 rfl (Nat.le_of_ble_eq_true rfl) (hb hby d12_52)
  have V5 : Arv Z h5 a1 q3 .byte (24 : Int32) [(.int i4), (.int i5), (.int i6), (.int i7), (.int i8), (.int i9), (.int i10), (.int i11), (.int ((i2 >>> ((0 : Int32) &&& 31)).toInt8.toInt32)), (.int (nar .byte ((i2 >>> ((8 : Int32) &&& 31)).toInt8.toInt32))), (.int (0 : Int32)), (.int (0 : Int32)), (.int (0 : Int32)), (.int (0 : Int32)), (.int (0 : Int32)), (.int (0 : Int32)), (.int (0 : Int32)), (.int (0 : Int32)), (.int (0 : Int32)), (.int (0 : Int32)), (.int (0 : Int32)), (.int (0 : Int32)), (.int (0 : Int32)), (.int (0 : Int32))] (.int (0 : Int32)) := V5
  rw [show nar .byte ((i2 >>> ((8 : Int32) &&& 31)).toInt8.toInt32) = ((i2 >>> ((8 : Int32) &&& 31)).toInt8.toInt32) from own_nar_byte _] at V5
  have O5' := O3'.wr W5 h_2
  have N5 := Fr.snoc X5 N3 h_2
  refine own_k (T' := T5) (g' := (mkF m 53 #[.val (.ref a1), .val (.int (9 : Int32)), .val (.int i2)] [])) st5 ?_
  have kp0 : Keep h0 h0 [a1] := Keep.refl h0 [a1]
  have kp1 : Keep h0 h3 [a1] := kp0.wr W3 (Or.inl (List.mem_of_getElem? (i := 0) rfl))
  have kp2 : Keep h0 h5 [a1] := kp1.wr W5 (Or.inl (List.mem_of_getElem? (i := 0) rfl))
  exact own_ret0 X5 hx hret hlk (hb hby d12_53) hF (by rw [e5]; exact ⟨rfl, N5, kp2, V5, ((h_3.wr W3).wr W5)⟩) (by decide) (by decide)
set_option maxRecDepth 65536 in
set_option maxHeartbeats 40000000 in
theorem rm_putChar_7 (l : Launch) (Z : State) (a0 : Array Value) (g_COMPACT_STRINGS : Int32) (g_SIOOBE_FORMATTER : Value) (hW : own_W Z a0 g_COMPACT_STRINGS g_SIOOBE_FORMATTER) (a1 : Addr) (i2 : Int32) (q3 : ClassId) (i4 : Int32) (i5 : Int32) (i6 : Int32) (i7 : Int32) (i8 : Int32) (i9 : Int32) (i10 : Int32) (i11 : Int32) (i12 : Int32) (i13 : Int32) (h0 : Heap) (O0 : Old Z Z.heap.size h0) (h_1 : Arv Z h0 a1 q3 .byte (24 : Int32) [(.int i4), (.int i5), (.int i6), (.int i7), (.int i8), (.int i9), (.int i10), (.int i11), (.int i12), (.int i13), (.int (0 : Int32)), (.int (0 : Int32)), (.int (0 : Int32)), (.int (0 : Int32)), (.int (0 : Int32)), (.int (0 : Int32)), (.int (0 : Int32)), (.int (0 : Int32)), (.int (0 : Int32)), (.int (0 : Int32)), (.int (0 : Int32)), (.int (0 : Int32)), (.int (0 : Int32)), (.int (0 : Int32))] (.int (0 : Int32))) (h_2 : Z.heap.size ≤ a1) (h_3 : Exa Z h0 a1 "[B") :
    own_Met l Z (⟨"java/lang/StringUTF16", "putChar", "([BII)V"⟩ : MethodName) jdk_52_method_4_code 3 none ({ frames := 0, cells := 0, slots := 0, locals := 0 } : Room) #[(.ref a1), (.int (5 : Int32)), (.int i2)] h0 (fun v h L => v = none ∧ Fr Z.heap.size L ∧ Keep h0 h [a1] ∧ Arv Z h a1 q3 .byte (24 : Int32) [(.int i4), (.int i5), (.int i6), (.int i7), (.int i8), (.int i9), (.int i10), (.int i11), (.int i12), (.int i13), (.int ((i2 >>> ((0 : Int32) &&& 31)).toInt8.toInt32)), (.int ((i2 >>> ((8 : Int32) &&& 31)).toInt8.toInt32)), (.int (0 : Int32)), (.int (0 : Int32)), (.int (0 : Int32)), (.int (0 : Int32)), (.int (0 : Int32)), (.int (0 : Int32)), (.int (0 : Int32)), (.int (0 : Int32)), (.int (0 : Int32)), (.int (0 : Int32)), (.int (0 : Int32)), (.int (0 : Int32))] (.int (0 : Int32)) ∧ Exa Z h a1 "[B") := by
  have hW_ := hW
  obtain ⟨hw, S_g_COMPACT_STRINGS, P_g_COMPACT_STRINGS, R_g_SIOOBE_FORMATTER, S_g_SIOOBE_FORMATTER, S_g__assertionsDisabled, S_g_HI_BYTE_SHIFT, S_g_LO_BYTE_SHIFT⟩ := hW_
  refine own_met (plainFor_of_name pn_java_lang_StringUTF16) ?_
  intro p e s m below meth cc_ s₁ Φ hF X0 hx hby hml hZ hown hnm hret hlk e0
  have N0 := Fr.nil Z.heap.size
  refine own_k (T' := s₁) (g' := (mkF m 0 #[.val (.ref a1), .val (.int (5 : Int32)), .val (.int i2)] [])) (fun _ k_ => castTop (ef_12_RII m a1 (5 : Int32) i2) k_) ?_
  obtain ⟨T1, X1, e1, st1⟩ := getS2 X0 hx hZ hown (host := "") (Or.inl (hw _ (List.mem_of_getElem? (i := 54) rfl))) Via.refl e0 (S_g__assertionsDisabled.ext O0.2) (g := (mkF m 0 #[.val (.ref a1), .val (.int (5 : Int32)), .val (.int i2)] [])) rfl (hb hby d12_0)
  refine own_k (T' := T1) (g' := (mkF m 3 #[.val (.ref a1), .val (.int (5 : Int32)), .val (.int i2)] [(.int (1 : Int32))])) st1 ?_
  refine own_k (T' := T1) (g' := (mkF m 28 #[.val (.ref a1), .val (.int (5 : Int32)), .val (.int i2)] [])) (fun _ k_ => XS.ifYes X1.here hx rfl (pc0 := 3) (pc' := 28) rfl (hb hby d12_3) rfl ((if0 _ _).trans (feq (by decide : ¬ ((1 : Int32) = (0 : Int32)))).2) (by decide) (by decide) k_) ?_
  refine own_k (T' := T1) (g' := (mkF m 29 #[.val (.ref a1), .val (.int (5 : Int32)), .val (.int i2)] [(.int (5 : Int32))])) (fun _ k_ => XS.iloadN X1.here hx rfl (hb hby d12_28) rfl  k_) ?_
  refine own_k (T' := T1) (g' := (mkF m 30 #[.val (.ref a1), .val (.int (5 : Int32)), .val (.int i2)] [(.int (1 : Int32)), (.int (5 : Int32))])) (fun _ k_ => XS.iconst X1.here hx rfl (hb hby d12_29) k_) ?_
  refine own_k (T' := T1) (g' := (mkF m 31 #[.val (.ref a1), .val (.int (5 : Int32)), .val (.int i2)] [(.int ((5 : Int32) <<< ((1 : Int32) &&& 31)))])) (fun _ k_ => XS.ishl X1.here hx rfl (hb hby d12_30) rfl k_) ?_
  rw [show ((5 : Int32) <<< ((1 : Int32) &&& 31)) = (10 : Int32) from by decide]
  refine own_k (T' := T1) (g' := (mkF m 32 #[.val (.ref a1), .val (.int (10 : Int32)), .val (.int i2)] [])) (fun _ k_ => XS.istoreN X1.here hx rfl (hb hby d12_31) rfl (l' := #[.val (.ref a1), .val (.int (10 : Int32)), .val (.int i2)]) rfl k_) ?_
  refine own_k (T' := T1) (g' := (mkF m 33 #[.val (.ref a1), .val (.int (10 : Int32)), .val (.int i2)] [(.ref a1)])) (fun _ k_ => XS.aloadN X1.here hx rfl (hb hby d12_32) rfl rfl  k_) ?_
  refine own_k (T' := T1) (g' := (mkF m 34 #[.val (.ref a1), .val (.int (10 : Int32)), .val (.int i2)] [(.int (10 : Int32)), (.ref a1)])) (fun _ k_ => XS.iloadN X1.here hx rfl (hb hby d12_33) rfl  k_) ?_
  refine own_k (T' := T1) (g' := (mkF m 37 #[.val (.ref a1), .val (.int ((10 : Int32) + (1 : Int32))), .val (.int i2)] [(.int (10 : Int32)), (.ref a1)])) (fun _ k_ => XS.iinc X1.here hx rfl (hb hby d12_34) rfl (l' := #[.val (.ref a1), .val (.int ((10 : Int32) + (1 : Int32))), .val (.int i2)]) rfl k_) ?_
  rw [show ((10 : Int32) + (1 : Int32)) = (11 : Int32) from by decide]
  refine own_k (T' := T1) (g' := (mkF m 38 #[.val (.ref a1), .val (.int (11 : Int32)), .val (.int i2)] [(.int i2), (.int (10 : Int32)), (.ref a1)])) (fun _ k_ => XS.iloadN X1.here hx rfl (hb hby d12_37) rfl  k_) ?_
  obtain ⟨T2, X2, e2, st2⟩ := getS2 X1 hx hZ hown (host := "") (Or.inl (hw _ (List.mem_of_getElem? (i := 55) rfl))) Via.refl e1 (S_g_HI_BYTE_SHIFT.ext O0.2) (g := (mkF m 38 #[.val (.ref a1), .val (.int (11 : Int32)), .val (.int i2)] [(.int i2), (.int (10 : Int32)), (.ref a1)])) rfl (hb hby d12_38)
  refine own_k (T' := T2) (g' := (mkF m 41 #[.val (.ref a1), .val (.int (11 : Int32)), .val (.int i2)] [(.int (0 : Int32)), (.int i2), (.int (10 : Int32)), (.ref a1)])) st2 ?_
  refine own_k (T' := T2) (g' := (mkF m 42 #[.val (.ref a1), .val (.int (11 : Int32)), .val (.int i2)] [(.int (i2 >>> ((0 : Int32) &&& 31))), (.int (10 : Int32)), (.ref a1)])) (fun _ k_ => XS.ishr X2.here hx rfl (hb hby d12_41) rfl k_) ?_
  refine own_k (T' := T2) (g' := (mkF m 43 #[.val (.ref a1), .val (.int (11 : Int32)), .val (.int i2)] [(.int ((i2 >>> ((0 : Int32) &&& 31)).toInt8.toInt32)), (.int (10 : Int32)), (.ref a1)])) (fun _ k_ => XS.i2b X2.here hx rfl (hb hby d12_42) rfl k_) ?_
  obtain ⟨T3, h3, X3, e3, W3, V3, st3⟩ := own_bastore (pc := 43) (Ls := #[.val (.ref a1), .val (.int (11 : Int32)), .val (.int i2)]) (rest := []) X2 hx hZ e2 h_1 (j := (10 : Int32)) (x := ((i2 >>> ((0 : Int32) &&& 31)).toInt8.toInt32)) ⟨by decide, by decide⟩ 10 rfl (Nat.le_of_ble_eq_true rfl) (hb hby d12_43)
  have V3 : Arv Z h3 a1 q3 .byte (24 : Int32) [(.int i4), (.int i5), (.int i6), (.int i7), (.int i8), (.int i9), (.int i10), (.int i11), (.int i12), (.int i13), (.int (nar .byte ((i2 >>> ((0 : Int32) &&& 31)).toInt8.toInt32))), (.int (0 : Int32)), (.int (0 : Int32)), (.int (0 : Int32)), (.int (0 : Int32)), (.int (0 : Int32)), (.int (0 : Int32)), (.int (0 : Int32)), (.int (0 : Int32)), (.int (0 : Int32)), (.int (0 : Int32)), (.int (0 : Int32)), (.int (0 : Int32)), (.int (0 : Int32))] (.int (0 : Int32)) := V3
  rw [show nar .byte ((i2 >>> ((0 : Int32) &&& 31)).toInt8.toInt32) = ((i2 >>> ((0 : Int32) &&& 31)).toInt8.toInt32) from own_nar_byte _] at V3
  have O3' := O0.wr W3 h_2
  have N3 := Fr.snoc X3 N0 h_2
  refine own_k (T' := T3) (g' := (mkF m 44 #[.val (.ref a1), .val (.int (11 : Int32)), .val (.int i2)] [])) st3 ?_
  refine own_k (T' := T3) (g' := (mkF m 45 #[.val (.ref a1), .val (.int (11 : Int32)), .val (.int i2)] [(.ref a1)])) (fun _ k_ => XS.aloadN X3.here hx rfl (hb hby d12_44) rfl rfl  k_) ?_
  refine own_k (T' := T3) (g' := (mkF m 46 #[.val (.ref a1), .val (.int (11 : Int32)), .val (.int i2)] [(.int (11 : Int32)), (.ref a1)])) (fun _ k_ => XS.iloadN X3.here hx rfl (hb hby d12_45) rfl  k_) ?_
  refine own_k (T' := T3) (g' := (mkF m 47 #[.val (.ref a1), .val (.int (11 : Int32)), .val (.int i2)] [(.int i2), (.int (11 : Int32)), (.ref a1)])) (fun _ k_ => XS.iloadN X3.here hx rfl (hb hby d12_46) rfl  k_) ?_
  obtain ⟨T4, X4, e4, st4⟩ := getS2 X3 hx hZ hown (host := "") (Or.inl (hw _ (List.mem_of_getElem? (i := 56) rfl))) Via.refl e3 (S_g_LO_BYTE_SHIFT.ext O3'.2) (g := (mkF m 47 #[.val (.ref a1), .val (.int (11 : Int32)), .val (.int i2)] [(.int i2), (.int (11 : Int32)), (.ref a1)])) rfl (hb hby d12_47)
  refine own_k (T' := T4) (g' := (mkF m 50 #[.val (.ref a1), .val (.int (11 : Int32)), .val (.int i2)] [(.int (8 : Int32)), (.int i2), (.int (11 : Int32)), (.ref a1)])) st4 ?_
  refine own_k (T' := T4) (g' := (mkF m 51 #[.val (.ref a1), .val (.int (11 : Int32)), .val (.int i2)] [(.int (i2 >>> ((8 : Int32) &&& 31))), (.int (11 : Int32)), (.ref a1)])) (fun _ k_ => XS.ishr X4.here hx rfl (hb hby d12_50) rfl k_) ?_
  refine own_k (T' := T4) (g' := (mkF m 52 #[.val (.ref a1), .val (.int (11 : Int32)), .val (.int i2)] [(.int ((i2 >>> ((8 : Int32) &&& 31)).toInt8.toInt32)), (.int (11 : Int32)), (.ref a1)])) (fun _ k_ => XS.i2b X4.here hx rfl (hb hby d12_51) rfl k_) ?_
  obtain ⟨T5, h5, X5, e5, W5, V5, st5⟩ := own_bastore (pc := 52) (Ls := #[.val (.ref a1), .val (.int (11 : Int32)), .val (.int i2)]) (rest := []) X4 hx hZ e4 V3 (j := (11 : Int32)) (x := ((i2 >>> ((8 : Int32) &&& 31)).toInt8.toInt32)) ⟨by decide, by decide⟩ 11 rfl (Nat.le_of_ble_eq_true rfl) (hb hby d12_52)
  have V5 : Arv Z h5 a1 q3 .byte (24 : Int32) [(.int i4), (.int i5), (.int i6), (.int i7), (.int i8), (.int i9), (.int i10), (.int i11), (.int i12), (.int i13), (.int ((i2 >>> ((0 : Int32) &&& 31)).toInt8.toInt32)), (.int (nar .byte ((i2 >>> ((8 : Int32) &&& 31)).toInt8.toInt32))), (.int (0 : Int32)), (.int (0 : Int32)), (.int (0 : Int32)), (.int (0 : Int32)), (.int (0 : Int32)), (.int (0 : Int32)), (.int (0 : Int32)), (.int (0 : Int32)), (.int (0 : Int32)), (.int (0 : Int32)), (.int (0 : Int32)), (.int (0 : Int32))] (.int (0 : Int32)) := V5
  rw [show nar .byte ((i2 >>> ((8 : Int32) &&& 31)).toInt8.toInt32) = ((i2 >>> ((8 : Int32) &&& 31)).toInt8.toInt32) from own_nar_byte _] at V5
  have O5' := O3'.wr W5 h_2
  have N5 := Fr.snoc X5 N3 h_2
  refine own_k (T' := T5) (g' := (mkF m 53 #[.val (.ref a1), .val (.int (11 : Int32)), .val (.int i2)] [])) st5 ?_
  have kp0 : Keep h0 h0 [a1] := Keep.refl h0 [a1]
  have kp1 : Keep h0 h3 [a1] := kp0.wr W3 (Or.inl (List.mem_of_getElem? (i := 0) rfl))
  have kp2 : Keep h0 h5 [a1] := kp1.wr W5 (Or.inl (List.mem_of_getElem? (i := 0) rfl))
  exact own_ret0 X5 hx hret hlk (hb hby d12_53) hF (by rw [e5]; exact ⟨rfl, N5, kp2, V5, ((h_3.wr W3).wr W5)⟩) (by decide) (by decide)
set_option maxRecDepth 65536 in
set_option maxHeartbeats 40000000 in
theorem rm_putChar_8 (l : Launch) (Z : State) (a0 : Array Value) (g_COMPACT_STRINGS : Int32) (g_SIOOBE_FORMATTER : Value) (hW : own_W Z a0 g_COMPACT_STRINGS g_SIOOBE_FORMATTER) (a1 : Addr) (i2 : Int32) (q3 : ClassId) (i4 : Int32) (i5 : Int32) (i6 : Int32) (i7 : Int32) (i8 : Int32) (i9 : Int32) (i10 : Int32) (i11 : Int32) (i12 : Int32) (i13 : Int32) (i14 : Int32) (i15 : Int32) (h0 : Heap) (O0 : Old Z Z.heap.size h0) (h_1 : Arv Z h0 a1 q3 .byte (24 : Int32) [(.int i4), (.int i5), (.int i6), (.int i7), (.int i8), (.int i9), (.int i10), (.int i11), (.int i12), (.int i13), (.int i14), (.int i15), (.int (0 : Int32)), (.int (0 : Int32)), (.int (0 : Int32)), (.int (0 : Int32)), (.int (0 : Int32)), (.int (0 : Int32)), (.int (0 : Int32)), (.int (0 : Int32)), (.int (0 : Int32)), (.int (0 : Int32)), (.int (0 : Int32)), (.int (0 : Int32))] (.int (0 : Int32))) (h_2 : Z.heap.size ≤ a1) (h_3 : Exa Z h0 a1 "[B") :
    own_Met l Z (⟨"java/lang/StringUTF16", "putChar", "([BII)V"⟩ : MethodName) jdk_52_method_4_code 3 none ({ frames := 0, cells := 0, slots := 0, locals := 0 } : Room) #[(.ref a1), (.int (6 : Int32)), (.int i2)] h0 (fun v h L => v = none ∧ Fr Z.heap.size L ∧ Keep h0 h [a1] ∧ Arv Z h a1 q3 .byte (24 : Int32) [(.int i4), (.int i5), (.int i6), (.int i7), (.int i8), (.int i9), (.int i10), (.int i11), (.int i12), (.int i13), (.int i14), (.int i15), (.int ((i2 >>> ((0 : Int32) &&& 31)).toInt8.toInt32)), (.int ((i2 >>> ((8 : Int32) &&& 31)).toInt8.toInt32)), (.int (0 : Int32)), (.int (0 : Int32)), (.int (0 : Int32)), (.int (0 : Int32)), (.int (0 : Int32)), (.int (0 : Int32)), (.int (0 : Int32)), (.int (0 : Int32)), (.int (0 : Int32)), (.int (0 : Int32))] (.int (0 : Int32)) ∧ Exa Z h a1 "[B") := by
  have hW_ := hW
  obtain ⟨hw, S_g_COMPACT_STRINGS, P_g_COMPACT_STRINGS, R_g_SIOOBE_FORMATTER, S_g_SIOOBE_FORMATTER, S_g__assertionsDisabled, S_g_HI_BYTE_SHIFT, S_g_LO_BYTE_SHIFT⟩ := hW_
  refine own_met (plainFor_of_name pn_java_lang_StringUTF16) ?_
  intro p e s m below meth cc_ s₁ Φ hF X0 hx hby hml hZ hown hnm hret hlk e0
  have N0 := Fr.nil Z.heap.size
  refine own_k (T' := s₁) (g' := (mkF m 0 #[.val (.ref a1), .val (.int (6 : Int32)), .val (.int i2)] [])) (fun _ k_ => castTop (ef_12_RII m a1 (6 : Int32) i2) k_) ?_
  obtain ⟨T1, X1, e1, st1⟩ := getS2 X0 hx hZ hown (host := "") (Or.inl (hw _ (List.mem_of_getElem? (i := 54) rfl))) Via.refl e0 (S_g__assertionsDisabled.ext O0.2) (g := (mkF m 0 #[.val (.ref a1), .val (.int (6 : Int32)), .val (.int i2)] [])) rfl (hb hby d12_0)
  refine own_k (T' := T1) (g' := (mkF m 3 #[.val (.ref a1), .val (.int (6 : Int32)), .val (.int i2)] [(.int (1 : Int32))])) st1 ?_
  refine own_k (T' := T1) (g' := (mkF m 28 #[.val (.ref a1), .val (.int (6 : Int32)), .val (.int i2)] [])) (fun _ k_ => XS.ifYes X1.here hx rfl (pc0 := 3) (pc' := 28) rfl (hb hby d12_3) rfl ((if0 _ _).trans (feq (by decide : ¬ ((1 : Int32) = (0 : Int32)))).2) (by decide) (by decide) k_) ?_
  refine own_k (T' := T1) (g' := (mkF m 29 #[.val (.ref a1), .val (.int (6 : Int32)), .val (.int i2)] [(.int (6 : Int32))])) (fun _ k_ => XS.iloadN X1.here hx rfl (hb hby d12_28) rfl  k_) ?_
  refine own_k (T' := T1) (g' := (mkF m 30 #[.val (.ref a1), .val (.int (6 : Int32)), .val (.int i2)] [(.int (1 : Int32)), (.int (6 : Int32))])) (fun _ k_ => XS.iconst X1.here hx rfl (hb hby d12_29) k_) ?_
  refine own_k (T' := T1) (g' := (mkF m 31 #[.val (.ref a1), .val (.int (6 : Int32)), .val (.int i2)] [(.int ((6 : Int32) <<< ((1 : Int32) &&& 31)))])) (fun _ k_ => XS.ishl X1.here hx rfl (hb hby d12_30) rfl k_) ?_
  rw [show ((6 : Int32) <<< ((1 : Int32) &&& 31)) = (12 : Int32) from by decide]
  refine own_k (T' := T1) (g' := (mkF m 32 #[.val (.ref a1), .val (.int (12 : Int32)), .val (.int i2)] [])) (fun _ k_ => XS.istoreN X1.here hx rfl (hb hby d12_31) rfl (l' := #[.val (.ref a1), .val (.int (12 : Int32)), .val (.int i2)]) rfl k_) ?_
  refine own_k (T' := T1) (g' := (mkF m 33 #[.val (.ref a1), .val (.int (12 : Int32)), .val (.int i2)] [(.ref a1)])) (fun _ k_ => XS.aloadN X1.here hx rfl (hb hby d12_32) rfl rfl  k_) ?_
  refine own_k (T' := T1) (g' := (mkF m 34 #[.val (.ref a1), .val (.int (12 : Int32)), .val (.int i2)] [(.int (12 : Int32)), (.ref a1)])) (fun _ k_ => XS.iloadN X1.here hx rfl (hb hby d12_33) rfl  k_) ?_
  refine own_k (T' := T1) (g' := (mkF m 37 #[.val (.ref a1), .val (.int ((12 : Int32) + (1 : Int32))), .val (.int i2)] [(.int (12 : Int32)), (.ref a1)])) (fun _ k_ => XS.iinc X1.here hx rfl (hb hby d12_34) rfl (l' := #[.val (.ref a1), .val (.int ((12 : Int32) + (1 : Int32))), .val (.int i2)]) rfl k_) ?_
  rw [show ((12 : Int32) + (1 : Int32)) = (13 : Int32) from by decide]
  refine own_k (T' := T1) (g' := (mkF m 38 #[.val (.ref a1), .val (.int (13 : Int32)), .val (.int i2)] [(.int i2), (.int (12 : Int32)), (.ref a1)])) (fun _ k_ => XS.iloadN X1.here hx rfl (hb hby d12_37) rfl  k_) ?_
  obtain ⟨T2, X2, e2, st2⟩ := getS2 X1 hx hZ hown (host := "") (Or.inl (hw _ (List.mem_of_getElem? (i := 55) rfl))) Via.refl e1 (S_g_HI_BYTE_SHIFT.ext O0.2) (g := (mkF m 38 #[.val (.ref a1), .val (.int (13 : Int32)), .val (.int i2)] [(.int i2), (.int (12 : Int32)), (.ref a1)])) rfl (hb hby d12_38)
  refine own_k (T' := T2) (g' := (mkF m 41 #[.val (.ref a1), .val (.int (13 : Int32)), .val (.int i2)] [(.int (0 : Int32)), (.int i2), (.int (12 : Int32)), (.ref a1)])) st2 ?_
  refine own_k (T' := T2) (g' := (mkF m 42 #[.val (.ref a1), .val (.int (13 : Int32)), .val (.int i2)] [(.int (i2 >>> ((0 : Int32) &&& 31))), (.int (12 : Int32)), (.ref a1)])) (fun _ k_ => XS.ishr X2.here hx rfl (hb hby d12_41) rfl k_) ?_
  refine own_k (T' := T2) (g' := (mkF m 43 #[.val (.ref a1), .val (.int (13 : Int32)), .val (.int i2)] [(.int ((i2 >>> ((0 : Int32) &&& 31)).toInt8.toInt32)), (.int (12 : Int32)), (.ref a1)])) (fun _ k_ => XS.i2b X2.here hx rfl (hb hby d12_42) rfl k_) ?_
  obtain ⟨T3, h3, X3, e3, W3, V3, st3⟩ := own_bastore (pc := 43) (Ls := #[.val (.ref a1), .val (.int (13 : Int32)), .val (.int i2)]) (rest := []) X2 hx hZ e2 h_1 (j := (12 : Int32)) (x := ((i2 >>> ((0 : Int32) &&& 31)).toInt8.toInt32)) ⟨by decide, by decide⟩ 12 rfl (Nat.le_of_ble_eq_true rfl) (hb hby d12_43)
  have V3 : Arv Z h3 a1 q3 .byte (24 : Int32) [(.int i4), (.int i5), (.int i6), (.int i7), (.int i8), (.int i9), (.int i10), (.int i11), (.int i12), (.int i13), (.int i14), (.int i15), (.int (nar .byte ((i2 >>> ((0 : Int32) &&& 31)).toInt8.toInt32))), (.int (0 : Int32)), (.int (0 : Int32)), (.int (0 : Int32)), (.int (0 : Int32)), (.int (0 : Int32)), (.int (0 : Int32)), (.int (0 : Int32)), (.int (0 : Int32)), (.int (0 : Int32)), (.int (0 : Int32)), (.int (0 : Int32))] (.int (0 : Int32)) := V3
  rw [show nar .byte ((i2 >>> ((0 : Int32) &&& 31)).toInt8.toInt32) = ((i2 >>> ((0 : Int32) &&& 31)).toInt8.toInt32) from own_nar_byte _] at V3
  have O3' := O0.wr W3 h_2
  have N3 := Fr.snoc X3 N0 h_2
  refine own_k (T' := T3) (g' := (mkF m 44 #[.val (.ref a1), .val (.int (13 : Int32)), .val (.int i2)] [])) st3 ?_
  refine own_k (T' := T3) (g' := (mkF m 45 #[.val (.ref a1), .val (.int (13 : Int32)), .val (.int i2)] [(.ref a1)])) (fun _ k_ => XS.aloadN X3.here hx rfl (hb hby d12_44) rfl rfl  k_) ?_
  refine own_k (T' := T3) (g' := (mkF m 46 #[.val (.ref a1), .val (.int (13 : Int32)), .val (.int i2)] [(.int (13 : Int32)), (.ref a1)])) (fun _ k_ => XS.iloadN X3.here hx rfl (hb hby d12_45) rfl  k_) ?_
  refine own_k (T' := T3) (g' := (mkF m 47 #[.val (.ref a1), .val (.int (13 : Int32)), .val (.int i2)] [(.int i2), (.int (13 : Int32)), (.ref a1)])) (fun _ k_ => XS.iloadN X3.here hx rfl (hb hby d12_46) rfl  k_) ?_
  obtain ⟨T4, X4, e4, st4⟩ := getS2 X3 hx hZ hown (host := "") (Or.inl (hw _ (List.mem_of_getElem? (i := 56) rfl))) Via.refl e3 (S_g_LO_BYTE_SHIFT.ext O3'.2) (g := (mkF m 47 #[.val (.ref a1), .val (.int (13 : Int32)), .val (.int i2)] [(.int i2), (.int (13 : Int32)), (.ref a1)])) rfl (hb hby d12_47)
  refine own_k (T' := T4) (g' := (mkF m 50 #[.val (.ref a1), .val (.int (13 : Int32)), .val (.int i2)] [(.int (8 : Int32)), (.int i2), (.int (13 : Int32)), (.ref a1)])) st4 ?_
  refine own_k (T' := T4) (g' := (mkF m 51 #[.val (.ref a1), .val (.int (13 : Int32)), .val (.int i2)] [(.int (i2 >>> ((8 : Int32) &&& 31))), (.int (13 : Int32)), (.ref a1)])) (fun _ k_ => XS.ishr X4.here hx rfl (hb hby d12_50) rfl k_) ?_
  refine own_k (T' := T4) (g' := (mkF m 52 #[.val (.ref a1), .val (.int (13 : Int32)), .val (.int i2)] [(.int ((i2 >>> ((8 : Int32) &&& 31)).toInt8.toInt32)), (.int (13 : Int32)), (.ref a1)])) (fun _ k_ => XS.i2b X4.here hx rfl (hb hby d12_51) rfl k_) ?_
  obtain ⟨T5, h5, X5, e5, W5, V5, st5⟩ := own_bastore (pc := 52) (Ls := #[.val (.ref a1), .val (.int (13 : Int32)), .val (.int i2)]) (rest := []) X4 hx hZ e4 V3 (j := (13 : Int32)) (x := ((i2 >>> ((8 : Int32) &&& 31)).toInt8.toInt32)) ⟨by decide, by decide⟩ 13 rfl (Nat.le_of_ble_eq_true rfl) (hb hby d12_52)
  have V5 : Arv Z h5 a1 q3 .byte (24 : Int32) [(.int i4), (.int i5), (.int i6), (.int i7), (.int i8), (.int i9), (.int i10), (.int i11), (.int i12), (.int i13), (.int i14), (.int i15), (.int ((i2 >>> ((0 : Int32) &&& 31)).toInt8.toInt32)), (.int (nar .byte ((i2 >>> ((8 : Int32) &&& 31)).toInt8.toInt32))), (.int (0 : Int32)), (.int (0 : Int32)), (.int (0 : Int32)), (.int (0 : Int32)), (.int (0 : Int32)), (.int (0 : Int32)), (.int (0 : Int32)), (.int (0 : Int32)), (.int (0 : Int32)), (.int (0 : Int32))] (.int (0 : Int32)) := V5
  rw [show nar .byte ((i2 >>> ((8 : Int32) &&& 31)).toInt8.toInt32) = ((i2 >>> ((8 : Int32) &&& 31)).toInt8.toInt32) from own_nar_byte _] at V5
  have O5' := O3'.wr W5 h_2
  have N5 := Fr.snoc X5 N3 h_2
  refine own_k (T' := T5) (g' := (mkF m 53 #[.val (.ref a1), .val (.int (13 : Int32)), .val (.int i2)] [])) st5 ?_
  have kp0 : Keep h0 h0 [a1] := Keep.refl h0 [a1]
  have kp1 : Keep h0 h3 [a1] := kp0.wr W3 (Or.inl (List.mem_of_getElem? (i := 0) rfl))
  have kp2 : Keep h0 h5 [a1] := kp1.wr W5 (Or.inl (List.mem_of_getElem? (i := 0) rfl))
  exact own_ret0 X5 hx hret hlk (hb hby d12_53) hF (by rw [e5]; exact ⟨rfl, N5, kp2, V5, ((h_3.wr W3).wr W5)⟩) (by decide) (by decide)
set_option maxRecDepth 65536 in
set_option maxHeartbeats 40000000 in
theorem rm_putChar_9 (l : Launch) (Z : State) (a0 : Array Value) (g_COMPACT_STRINGS : Int32) (g_SIOOBE_FORMATTER : Value) (hW : own_W Z a0 g_COMPACT_STRINGS g_SIOOBE_FORMATTER) (a1 : Addr) (i2 : Int32) (q3 : ClassId) (i4 : Int32) (i5 : Int32) (i6 : Int32) (i7 : Int32) (i8 : Int32) (i9 : Int32) (i10 : Int32) (i11 : Int32) (i12 : Int32) (i13 : Int32) (i14 : Int32) (i15 : Int32) (i16 : Int32) (i17 : Int32) (h0 : Heap) (O0 : Old Z Z.heap.size h0) (h_1 : Arv Z h0 a1 q3 .byte (24 : Int32) [(.int i4), (.int i5), (.int i6), (.int i7), (.int i8), (.int i9), (.int i10), (.int i11), (.int i12), (.int i13), (.int i14), (.int i15), (.int i16), (.int i17), (.int (0 : Int32)), (.int (0 : Int32)), (.int (0 : Int32)), (.int (0 : Int32)), (.int (0 : Int32)), (.int (0 : Int32)), (.int (0 : Int32)), (.int (0 : Int32)), (.int (0 : Int32)), (.int (0 : Int32))] (.int (0 : Int32))) (h_2 : Z.heap.size ≤ a1) (h_3 : Exa Z h0 a1 "[B") :
    own_Met l Z (⟨"java/lang/StringUTF16", "putChar", "([BII)V"⟩ : MethodName) jdk_52_method_4_code 3 none ({ frames := 0, cells := 0, slots := 0, locals := 0 } : Room) #[(.ref a1), (.int (7 : Int32)), (.int i2)] h0 (fun v h L => v = none ∧ Fr Z.heap.size L ∧ Keep h0 h [a1] ∧ Arv Z h a1 q3 .byte (24 : Int32) [(.int i4), (.int i5), (.int i6), (.int i7), (.int i8), (.int i9), (.int i10), (.int i11), (.int i12), (.int i13), (.int i14), (.int i15), (.int i16), (.int i17), (.int ((i2 >>> ((0 : Int32) &&& 31)).toInt8.toInt32)), (.int ((i2 >>> ((8 : Int32) &&& 31)).toInt8.toInt32)), (.int (0 : Int32)), (.int (0 : Int32)), (.int (0 : Int32)), (.int (0 : Int32)), (.int (0 : Int32)), (.int (0 : Int32)), (.int (0 : Int32)), (.int (0 : Int32))] (.int (0 : Int32)) ∧ Exa Z h a1 "[B") := by
  have hW_ := hW
  obtain ⟨hw, S_g_COMPACT_STRINGS, P_g_COMPACT_STRINGS, R_g_SIOOBE_FORMATTER, S_g_SIOOBE_FORMATTER, S_g__assertionsDisabled, S_g_HI_BYTE_SHIFT, S_g_LO_BYTE_SHIFT⟩ := hW_
  refine own_met (plainFor_of_name pn_java_lang_StringUTF16) ?_
  intro p e s m below meth cc_ s₁ Φ hF X0 hx hby hml hZ hown hnm hret hlk e0
  have N0 := Fr.nil Z.heap.size
  refine own_k (T' := s₁) (g' := (mkF m 0 #[.val (.ref a1), .val (.int (7 : Int32)), .val (.int i2)] [])) (fun _ k_ => castTop (ef_12_RII m a1 (7 : Int32) i2) k_) ?_
  obtain ⟨T1, X1, e1, st1⟩ := getS2 X0 hx hZ hown (host := "") (Or.inl (hw _ (List.mem_of_getElem? (i := 54) rfl))) Via.refl e0 (S_g__assertionsDisabled.ext O0.2) (g := (mkF m 0 #[.val (.ref a1), .val (.int (7 : Int32)), .val (.int i2)] [])) rfl (hb hby d12_0)
  refine own_k (T' := T1) (g' := (mkF m 3 #[.val (.ref a1), .val (.int (7 : Int32)), .val (.int i2)] [(.int (1 : Int32))])) st1 ?_
  refine own_k (T' := T1) (g' := (mkF m 28 #[.val (.ref a1), .val (.int (7 : Int32)), .val (.int i2)] [])) (fun _ k_ => XS.ifYes X1.here hx rfl (pc0 := 3) (pc' := 28) rfl (hb hby d12_3) rfl ((if0 _ _).trans (feq (by decide : ¬ ((1 : Int32) = (0 : Int32)))).2) (by decide) (by decide) k_) ?_
  refine own_k (T' := T1) (g' := (mkF m 29 #[.val (.ref a1), .val (.int (7 : Int32)), .val (.int i2)] [(.int (7 : Int32))])) (fun _ k_ => XS.iloadN X1.here hx rfl (hb hby d12_28) rfl  k_) ?_
  refine own_k (T' := T1) (g' := (mkF m 30 #[.val (.ref a1), .val (.int (7 : Int32)), .val (.int i2)] [(.int (1 : Int32)), (.int (7 : Int32))])) (fun _ k_ => XS.iconst X1.here hx rfl (hb hby d12_29) k_) ?_
  refine own_k (T' := T1) (g' := (mkF m 31 #[.val (.ref a1), .val (.int (7 : Int32)), .val (.int i2)] [(.int ((7 : Int32) <<< ((1 : Int32) &&& 31)))])) (fun _ k_ => XS.ishl X1.here hx rfl (hb hby d12_30) rfl k_) ?_
  rw [show ((7 : Int32) <<< ((1 : Int32) &&& 31)) = (14 : Int32) from by decide]
  refine own_k (T' := T1) (g' := (mkF m 32 #[.val (.ref a1), .val (.int (14 : Int32)), .val (.int i2)] [])) (fun _ k_ => XS.istoreN X1.here hx rfl (hb hby d12_31) rfl (l' := #[.val (.ref a1), .val (.int (14 : Int32)), .val (.int i2)]) rfl k_) ?_
  refine own_k (T' := T1) (g' := (mkF m 33 #[.val (.ref a1), .val (.int (14 : Int32)), .val (.int i2)] [(.ref a1)])) (fun _ k_ => XS.aloadN X1.here hx rfl (hb hby d12_32) rfl rfl  k_) ?_
  refine own_k (T' := T1) (g' := (mkF m 34 #[.val (.ref a1), .val (.int (14 : Int32)), .val (.int i2)] [(.int (14 : Int32)), (.ref a1)])) (fun _ k_ => XS.iloadN X1.here hx rfl (hb hby d12_33) rfl  k_) ?_
  refine own_k (T' := T1) (g' := (mkF m 37 #[.val (.ref a1), .val (.int ((14 : Int32) + (1 : Int32))), .val (.int i2)] [(.int (14 : Int32)), (.ref a1)])) (fun _ k_ => XS.iinc X1.here hx rfl (hb hby d12_34) rfl (l' := #[.val (.ref a1), .val (.int ((14 : Int32) + (1 : Int32))), .val (.int i2)]) rfl k_) ?_
  rw [show ((14 : Int32) + (1 : Int32)) = (15 : Int32) from by decide]
  refine own_k (T' := T1) (g' := (mkF m 38 #[.val (.ref a1), .val (.int (15 : Int32)), .val (.int i2)] [(.int i2), (.int (14 : Int32)), (.ref a1)])) (fun _ k_ => XS.iloadN X1.here hx rfl (hb hby d12_37) rfl  k_) ?_
  obtain ⟨T2, X2, e2, st2⟩ := getS2 X1 hx hZ hown (host := "") (Or.inl (hw _ (List.mem_of_getElem? (i := 55) rfl))) Via.refl e1 (S_g_HI_BYTE_SHIFT.ext O0.2) (g := (mkF m 38 #[.val (.ref a1), .val (.int (15 : Int32)), .val (.int i2)] [(.int i2), (.int (14 : Int32)), (.ref a1)])) rfl (hb hby d12_38)
  refine own_k (T' := T2) (g' := (mkF m 41 #[.val (.ref a1), .val (.int (15 : Int32)), .val (.int i2)] [(.int (0 : Int32)), (.int i2), (.int (14 : Int32)), (.ref a1)])) st2 ?_
  refine own_k (T' := T2) (g' := (mkF m 42 #[.val (.ref a1), .val (.int (15 : Int32)), .val (.int i2)] [(.int (i2 >>> ((0 : Int32) &&& 31))), (.int (14 : Int32)), (.ref a1)])) (fun _ k_ => XS.ishr X2.here hx rfl (hb hby d12_41) rfl k_) ?_
  refine own_k (T' := T2) (g' := (mkF m 43 #[.val (.ref a1), .val (.int (15 : Int32)), .val (.int i2)] [(.int ((i2 >>> ((0 : Int32) &&& 31)).toInt8.toInt32)), (.int (14 : Int32)), (.ref a1)])) (fun _ k_ => XS.i2b X2.here hx rfl (hb hby d12_42) rfl k_) ?_
  obtain ⟨T3, h3, X3, e3, W3, V3, st3⟩ := own_bastore (pc := 43) (Ls := #[.val (.ref a1), .val (.int (15 : Int32)), .val (.int i2)]) (rest := []) X2 hx hZ e2 h_1 (j := (14 : Int32)) (x := ((i2 >>> ((0 : Int32) &&& 31)).toInt8.toInt32)) ⟨by decide, by decide⟩ 14 rfl (Nat.le_of_ble_eq_true rfl) (hb hby d12_43)
  have V3 : Arv Z h3 a1 q3 .byte (24 : Int32) [(.int i4), (.int i5), (.int i6), (.int i7), (.int i8), (.int i9), (.int i10), (.int i11), (.int i12), (.int i13), (.int i14), (.int i15), (.int i16), (.int i17), (.int (nar .byte ((i2 >>> ((0 : Int32) &&& 31)).toInt8.toInt32))), (.int (0 : Int32)), (.int (0 : Int32)), (.int (0 : Int32)), (.int (0 : Int32)), (.int (0 : Int32)), (.int (0 : Int32)), (.int (0 : Int32)), (.int (0 : Int32)), (.int (0 : Int32))] (.int (0 : Int32)) := V3
  rw [show nar .byte ((i2 >>> ((0 : Int32) &&& 31)).toInt8.toInt32) = ((i2 >>> ((0 : Int32) &&& 31)).toInt8.toInt32) from own_nar_byte _] at V3
  have O3' := O0.wr W3 h_2
  have N3 := Fr.snoc X3 N0 h_2
  refine own_k (T' := T3) (g' := (mkF m 44 #[.val (.ref a1), .val (.int (15 : Int32)), .val (.int i2)] [])) st3 ?_
  refine own_k (T' := T3) (g' := (mkF m 45 #[.val (.ref a1), .val (.int (15 : Int32)), .val (.int i2)] [(.ref a1)])) (fun _ k_ => XS.aloadN X3.here hx rfl (hb hby d12_44) rfl rfl  k_) ?_
  refine own_k (T' := T3) (g' := (mkF m 46 #[.val (.ref a1), .val (.int (15 : Int32)), .val (.int i2)] [(.int (15 : Int32)), (.ref a1)])) (fun _ k_ => XS.iloadN X3.here hx rfl (hb hby d12_45) rfl  k_) ?_
  refine own_k (T' := T3) (g' := (mkF m 47 #[.val (.ref a1), .val (.int (15 : Int32)), .val (.int i2)] [(.int i2), (.int (15 : Int32)), (.ref a1)])) (fun _ k_ => XS.iloadN X3.here hx rfl (hb hby d12_46) rfl  k_) ?_
  obtain ⟨T4, X4, e4, st4⟩ := getS2 X3 hx hZ hown (host := "") (Or.inl (hw _ (List.mem_of_getElem? (i := 56) rfl))) Via.refl e3 (S_g_LO_BYTE_SHIFT.ext O3'.2) (g := (mkF m 47 #[.val (.ref a1), .val (.int (15 : Int32)), .val (.int i2)] [(.int i2), (.int (15 : Int32)), (.ref a1)])) rfl (hb hby d12_47)
  refine own_k (T' := T4) (g' := (mkF m 50 #[.val (.ref a1), .val (.int (15 : Int32)), .val (.int i2)] [(.int (8 : Int32)), (.int i2), (.int (15 : Int32)), (.ref a1)])) st4 ?_
  refine own_k (T' := T4) (g' := (mkF m 51 #[.val (.ref a1), .val (.int (15 : Int32)), .val (.int i2)] [(.int (i2 >>> ((8 : Int32) &&& 31))), (.int (15 : Int32)), (.ref a1)])) (fun _ k_ => XS.ishr X4.here hx rfl (hb hby d12_50) rfl k_) ?_
  refine own_k (T' := T4) (g' := (mkF m 52 #[.val (.ref a1), .val (.int (15 : Int32)), .val (.int i2)] [(.int ((i2 >>> ((8 : Int32) &&& 31)).toInt8.toInt32)), (.int (15 : Int32)), (.ref a1)])) (fun _ k_ => XS.i2b X4.here hx rfl (hb hby d12_51) rfl k_) ?_
  obtain ⟨T5, h5, X5, e5, W5, V5, st5⟩ := own_bastore (pc := 52) (Ls := #[.val (.ref a1), .val (.int (15 : Int32)), .val (.int i2)]) (rest := []) X4 hx hZ e4 V3 (j := (15 : Int32)) (x := ((i2 >>> ((8 : Int32) &&& 31)).toInt8.toInt32)) ⟨by decide, by decide⟩ 15 rfl (Nat.le_of_ble_eq_true rfl) (hb hby d12_52)
  have V5 : Arv Z h5 a1 q3 .byte (24 : Int32) [(.int i4), (.int i5), (.int i6), (.int i7), (.int i8), (.int i9), (.int i10), (.int i11), (.int i12), (.int i13), (.int i14), (.int i15), (.int i16), (.int i17), (.int ((i2 >>> ((0 : Int32) &&& 31)).toInt8.toInt32)), (.int (nar .byte ((i2 >>> ((8 : Int32) &&& 31)).toInt8.toInt32))), (.int (0 : Int32)), (.int (0 : Int32)), (.int (0 : Int32)), (.int (0 : Int32)), (.int (0 : Int32)), (.int (0 : Int32)), (.int (0 : Int32)), (.int (0 : Int32))] (.int (0 : Int32)) := V5
  rw [show nar .byte ((i2 >>> ((8 : Int32) &&& 31)).toInt8.toInt32) = ((i2 >>> ((8 : Int32) &&& 31)).toInt8.toInt32) from own_nar_byte _] at V5
  have O5' := O3'.wr W5 h_2
  have N5 := Fr.snoc X5 N3 h_2
  refine own_k (T' := T5) (g' := (mkF m 53 #[.val (.ref a1), .val (.int (15 : Int32)), .val (.int i2)] [])) st5 ?_
  have kp0 : Keep h0 h0 [a1] := Keep.refl h0 [a1]
  have kp1 : Keep h0 h3 [a1] := kp0.wr W3 (Or.inl (List.mem_of_getElem? (i := 0) rfl))
  have kp2 : Keep h0 h5 [a1] := kp1.wr W5 (Or.inl (List.mem_of_getElem? (i := 0) rfl))
  exact own_ret0 X5 hx hret hlk (hb hby d12_53) hF (by rw [e5]; exact ⟨rfl, N5, kp2, V5, ((h_3.wr W3).wr W5)⟩) (by decide) (by decide)
set_option maxRecDepth 65536 in
set_option maxHeartbeats 40000000 in
theorem rm_putChar_10 (l : Launch) (Z : State) (a0 : Array Value) (g_COMPACT_STRINGS : Int32) (g_SIOOBE_FORMATTER : Value) (hW : own_W Z a0 g_COMPACT_STRINGS g_SIOOBE_FORMATTER) (a1 : Addr) (i2 : Int32) (q3 : ClassId) (i4 : Int32) (i5 : Int32) (i6 : Int32) (i7 : Int32) (i8 : Int32) (i9 : Int32) (i10 : Int32) (i11 : Int32) (i12 : Int32) (i13 : Int32) (i14 : Int32) (i15 : Int32) (i16 : Int32) (i17 : Int32) (i18 : Int32) (i19 : Int32) (h0 : Heap) (O0 : Old Z Z.heap.size h0) (h_1 : Arv Z h0 a1 q3 .byte (24 : Int32) [(.int i4), (.int i5), (.int i6), (.int i7), (.int i8), (.int i9), (.int i10), (.int i11), (.int i12), (.int i13), (.int i14), (.int i15), (.int i16), (.int i17), (.int i18), (.int i19), (.int (0 : Int32)), (.int (0 : Int32)), (.int (0 : Int32)), (.int (0 : Int32)), (.int (0 : Int32)), (.int (0 : Int32)), (.int (0 : Int32)), (.int (0 : Int32))] (.int (0 : Int32))) (h_2 : Z.heap.size ≤ a1) (h_3 : Exa Z h0 a1 "[B") :
    own_Met l Z (⟨"java/lang/StringUTF16", "putChar", "([BII)V"⟩ : MethodName) jdk_52_method_4_code 3 none ({ frames := 0, cells := 0, slots := 0, locals := 0 } : Room) #[(.ref a1), (.int (8 : Int32)), (.int i2)] h0 (fun v h L => v = none ∧ Fr Z.heap.size L ∧ Keep h0 h [a1] ∧ Arv Z h a1 q3 .byte (24 : Int32) [(.int i4), (.int i5), (.int i6), (.int i7), (.int i8), (.int i9), (.int i10), (.int i11), (.int i12), (.int i13), (.int i14), (.int i15), (.int i16), (.int i17), (.int i18), (.int i19), (.int ((i2 >>> ((0 : Int32) &&& 31)).toInt8.toInt32)), (.int ((i2 >>> ((8 : Int32) &&& 31)).toInt8.toInt32)), (.int (0 : Int32)), (.int (0 : Int32)), (.int (0 : Int32)), (.int (0 : Int32)), (.int (0 : Int32)), (.int (0 : Int32))] (.int (0 : Int32)) ∧ Exa Z h a1 "[B") := by
  have hW_ := hW
  obtain ⟨hw, S_g_COMPACT_STRINGS, P_g_COMPACT_STRINGS, R_g_SIOOBE_FORMATTER, S_g_SIOOBE_FORMATTER, S_g__assertionsDisabled, S_g_HI_BYTE_SHIFT, S_g_LO_BYTE_SHIFT⟩ := hW_
  refine own_met (plainFor_of_name pn_java_lang_StringUTF16) ?_
  intro p e s m below meth cc_ s₁ Φ hF X0 hx hby hml hZ hown hnm hret hlk e0
  have N0 := Fr.nil Z.heap.size
  refine own_k (T' := s₁) (g' := (mkF m 0 #[.val (.ref a1), .val (.int (8 : Int32)), .val (.int i2)] [])) (fun _ k_ => castTop (ef_12_RII m a1 (8 : Int32) i2) k_) ?_
  obtain ⟨T1, X1, e1, st1⟩ := getS2 X0 hx hZ hown (host := "") (Or.inl (hw _ (List.mem_of_getElem? (i := 54) rfl))) Via.refl e0 (S_g__assertionsDisabled.ext O0.2) (g := (mkF m 0 #[.val (.ref a1), .val (.int (8 : Int32)), .val (.int i2)] [])) rfl (hb hby d12_0)
  refine own_k (T' := T1) (g' := (mkF m 3 #[.val (.ref a1), .val (.int (8 : Int32)), .val (.int i2)] [(.int (1 : Int32))])) st1 ?_
  refine own_k (T' := T1) (g' := (mkF m 28 #[.val (.ref a1), .val (.int (8 : Int32)), .val (.int i2)] [])) (fun _ k_ => XS.ifYes X1.here hx rfl (pc0 := 3) (pc' := 28) rfl (hb hby d12_3) rfl ((if0 _ _).trans (feq (by decide : ¬ ((1 : Int32) = (0 : Int32)))).2) (by decide) (by decide) k_) ?_
  refine own_k (T' := T1) (g' := (mkF m 29 #[.val (.ref a1), .val (.int (8 : Int32)), .val (.int i2)] [(.int (8 : Int32))])) (fun _ k_ => XS.iloadN X1.here hx rfl (hb hby d12_28) rfl  k_) ?_
  refine own_k (T' := T1) (g' := (mkF m 30 #[.val (.ref a1), .val (.int (8 : Int32)), .val (.int i2)] [(.int (1 : Int32)), (.int (8 : Int32))])) (fun _ k_ => XS.iconst X1.here hx rfl (hb hby d12_29) k_) ?_
  refine own_k (T' := T1) (g' := (mkF m 31 #[.val (.ref a1), .val (.int (8 : Int32)), .val (.int i2)] [(.int ((8 : Int32) <<< ((1 : Int32) &&& 31)))])) (fun _ k_ => XS.ishl X1.here hx rfl (hb hby d12_30) rfl k_) ?_
  rw [show ((8 : Int32) <<< ((1 : Int32) &&& 31)) = (16 : Int32) from by decide]
  refine own_k (T' := T1) (g' := (mkF m 32 #[.val (.ref a1), .val (.int (16 : Int32)), .val (.int i2)] [])) (fun _ k_ => XS.istoreN X1.here hx rfl (hb hby d12_31) rfl (l' := #[.val (.ref a1), .val (.int (16 : Int32)), .val (.int i2)]) rfl k_) ?_
  refine own_k (T' := T1) (g' := (mkF m 33 #[.val (.ref a1), .val (.int (16 : Int32)), .val (.int i2)] [(.ref a1)])) (fun _ k_ => XS.aloadN X1.here hx rfl (hb hby d12_32) rfl rfl  k_) ?_
  refine own_k (T' := T1) (g' := (mkF m 34 #[.val (.ref a1), .val (.int (16 : Int32)), .val (.int i2)] [(.int (16 : Int32)), (.ref a1)])) (fun _ k_ => XS.iloadN X1.here hx rfl (hb hby d12_33) rfl  k_) ?_
  refine own_k (T' := T1) (g' := (mkF m 37 #[.val (.ref a1), .val (.int ((16 : Int32) + (1 : Int32))), .val (.int i2)] [(.int (16 : Int32)), (.ref a1)])) (fun _ k_ => XS.iinc X1.here hx rfl (hb hby d12_34) rfl (l' := #[.val (.ref a1), .val (.int ((16 : Int32) + (1 : Int32))), .val (.int i2)]) rfl k_) ?_
  rw [show ((16 : Int32) + (1 : Int32)) = (17 : Int32) from by decide]
  refine own_k (T' := T1) (g' := (mkF m 38 #[.val (.ref a1), .val (.int (17 : Int32)), .val (.int i2)] [(.int i2), (.int (16 : Int32)), (.ref a1)])) (fun _ k_ => XS.iloadN X1.here hx rfl (hb hby d12_37) rfl  k_) ?_
  obtain ⟨T2, X2, e2, st2⟩ := getS2 X1 hx hZ hown (host := "") (Or.inl (hw _ (List.mem_of_getElem? (i := 55) rfl))) Via.refl e1 (S_g_HI_BYTE_SHIFT.ext O0.2) (g := (mkF m 38 #[.val (.ref a1), .val (.int (17 : Int32)), .val (.int i2)] [(.int i2), (.int (16 : Int32)), (.ref a1)])) rfl (hb hby d12_38)
  refine own_k (T' := T2) (g' := (mkF m 41 #[.val (.ref a1), .val (.int (17 : Int32)), .val (.int i2)] [(.int (0 : Int32)), (.int i2), (.int (16 : Int32)), (.ref a1)])) st2 ?_
  refine own_k (T' := T2) (g' := (mkF m 42 #[.val (.ref a1), .val (.int (17 : Int32)), .val (.int i2)] [(.int (i2 >>> ((0 : Int32) &&& 31))), (.int (16 : Int32)), (.ref a1)])) (fun _ k_ => XS.ishr X2.here hx rfl (hb hby d12_41) rfl k_) ?_
  refine own_k (T' := T2) (g' := (mkF m 43 #[.val (.ref a1), .val (.int (17 : Int32)), .val (.int i2)] [(.int ((i2 >>> ((0 : Int32) &&& 31)).toInt8.toInt32)), (.int (16 : Int32)), (.ref a1)])) (fun _ k_ => XS.i2b X2.here hx rfl (hb hby d12_42) rfl k_) ?_
  obtain ⟨T3, h3, X3, e3, W3, V3, st3⟩ := own_bastore (pc := 43) (Ls := #[.val (.ref a1), .val (.int (17 : Int32)), .val (.int i2)]) (rest := []) X2 hx hZ e2 h_1 (j := (16 : Int32)) (x := ((i2 >>> ((0 : Int32) &&& 31)).toInt8.toInt32)) ⟨by decide, by decide⟩ 16 rfl (Nat.le_of_ble_eq_true rfl) (hb hby d12_43)
  have V3 : Arv Z h3 a1 q3 .byte (24 : Int32) [(.int i4), (.int i5), (.int i6), (.int i7), (.int i8), (.int i9), (.int i10), (.int i11), (.int i12), (.int i13), (.int i14), (.int i15), (.int i16), (.int i17), (.int i18), (.int i19), (.int (nar .byte ((i2 >>> ((0 : Int32) &&& 31)).toInt8.toInt32))), (.int (0 : Int32)), (.int (0 : Int32)), (.int (0 : Int32)), (.int (0 : Int32)), (.int (0 : Int32)), (.int (0 : Int32)), (.int (0 : Int32))] (.int (0 : Int32)) := V3
  rw [show nar .byte ((i2 >>> ((0 : Int32) &&& 31)).toInt8.toInt32) = ((i2 >>> ((0 : Int32) &&& 31)).toInt8.toInt32) from own_nar_byte _] at V3
  have O3' := O0.wr W3 h_2
  have N3 := Fr.snoc X3 N0 h_2
  refine own_k (T' := T3) (g' := (mkF m 44 #[.val (.ref a1), .val (.int (17 : Int32)), .val (.int i2)] [])) st3 ?_
  refine own_k (T' := T3) (g' := (mkF m 45 #[.val (.ref a1), .val (.int (17 : Int32)), .val (.int i2)] [(.ref a1)])) (fun _ k_ => XS.aloadN X3.here hx rfl (hb hby d12_44) rfl rfl  k_) ?_
  refine own_k (T' := T3) (g' := (mkF m 46 #[.val (.ref a1), .val (.int (17 : Int32)), .val (.int i2)] [(.int (17 : Int32)), (.ref a1)])) (fun _ k_ => XS.iloadN X3.here hx rfl (hb hby d12_45) rfl  k_) ?_
  refine own_k (T' := T3) (g' := (mkF m 47 #[.val (.ref a1), .val (.int (17 : Int32)), .val (.int i2)] [(.int i2), (.int (17 : Int32)), (.ref a1)])) (fun _ k_ => XS.iloadN X3.here hx rfl (hb hby d12_46) rfl  k_) ?_
  obtain ⟨T4, X4, e4, st4⟩ := getS2 X3 hx hZ hown (host := "") (Or.inl (hw _ (List.mem_of_getElem? (i := 56) rfl))) Via.refl e3 (S_g_LO_BYTE_SHIFT.ext O3'.2) (g := (mkF m 47 #[.val (.ref a1), .val (.int (17 : Int32)), .val (.int i2)] [(.int i2), (.int (17 : Int32)), (.ref a1)])) rfl (hb hby d12_47)
  refine own_k (T' := T4) (g' := (mkF m 50 #[.val (.ref a1), .val (.int (17 : Int32)), .val (.int i2)] [(.int (8 : Int32)), (.int i2), (.int (17 : Int32)), (.ref a1)])) st4 ?_
  refine own_k (T' := T4) (g' := (mkF m 51 #[.val (.ref a1), .val (.int (17 : Int32)), .val (.int i2)] [(.int (i2 >>> ((8 : Int32) &&& 31))), (.int (17 : Int32)), (.ref a1)])) (fun _ k_ => XS.ishr X4.here hx rfl (hb hby d12_50) rfl k_) ?_
  refine own_k (T' := T4) (g' := (mkF m 52 #[.val (.ref a1), .val (.int (17 : Int32)), .val (.int i2)] [(.int ((i2 >>> ((8 : Int32) &&& 31)).toInt8.toInt32)), (.int (17 : Int32)), (.ref a1)])) (fun _ k_ => XS.i2b X4.here hx rfl (hb hby d12_51) rfl k_) ?_
  obtain ⟨T5, h5, X5, e5, W5, V5, st5⟩ := own_bastore (pc := 52) (Ls := #[.val (.ref a1), .val (.int (17 : Int32)), .val (.int i2)]) (rest := []) X4 hx hZ e4 V3 (j := (17 : Int32)) (x := ((i2 >>> ((8 : Int32) &&& 31)).toInt8.toInt32)) ⟨by decide, by decide⟩ 17 rfl (Nat.le_of_ble_eq_true rfl) (hb hby d12_52)
  have V5 : Arv Z h5 a1 q3 .byte (24 : Int32) [(.int i4), (.int i5), (.int i6), (.int i7), (.int i8), (.int i9), (.int i10), (.int i11), (.int i12), (.int i13), (.int i14), (.int i15), (.int i16), (.int i17), (.int i18), (.int i19), (.int ((i2 >>> ((0 : Int32) &&& 31)).toInt8.toInt32)), (.int (nar .byte ((i2 >>> ((8 : Int32) &&& 31)).toInt8.toInt32))), (.int (0 : Int32)), (.int (0 : Int32)), (.int (0 : Int32)), (.int (0 : Int32)), (.int (0 : Int32)), (.int (0 : Int32))] (.int (0 : Int32)) := V5
  rw [show nar .byte ((i2 >>> ((8 : Int32) &&& 31)).toInt8.toInt32) = ((i2 >>> ((8 : Int32) &&& 31)).toInt8.toInt32) from own_nar_byte _] at V5
  have O5' := O3'.wr W5 h_2
  have N5 := Fr.snoc X5 N3 h_2
  refine own_k (T' := T5) (g' := (mkF m 53 #[.val (.ref a1), .val (.int (17 : Int32)), .val (.int i2)] [])) st5 ?_
  have kp0 : Keep h0 h0 [a1] := Keep.refl h0 [a1]
  have kp1 : Keep h0 h3 [a1] := kp0.wr W3 (Or.inl (List.mem_of_getElem? (i := 0) rfl))
  have kp2 : Keep h0 h5 [a1] := kp1.wr W5 (Or.inl (List.mem_of_getElem? (i := 0) rfl))
  exact own_ret0 X5 hx hret hlk (hb hby d12_53) hF (by rw [e5]; exact ⟨rfl, N5, kp2, V5, ((h_3.wr W3).wr W5)⟩) (by decide) (by decide)
set_option maxRecDepth 65536 in
set_option maxHeartbeats 40000000 in
theorem rm_putChar_11 (l : Launch) (Z : State) (a0 : Array Value) (g_COMPACT_STRINGS : Int32) (g_SIOOBE_FORMATTER : Value) (hW : own_W Z a0 g_COMPACT_STRINGS g_SIOOBE_FORMATTER) (a1 : Addr) (i2 : Int32) (q3 : ClassId) (i4 : Int32) (i5 : Int32) (i6 : Int32) (i7 : Int32) (i8 : Int32) (i9 : Int32) (i10 : Int32) (i11 : Int32) (i12 : Int32) (i13 : Int32) (i14 : Int32) (i15 : Int32) (i16 : Int32) (i17 : Int32) (i18 : Int32) (i19 : Int32) (i20 : Int32) (i21 : Int32) (h0 : Heap) (O0 : Old Z Z.heap.size h0) (h_1 : Arv Z h0 a1 q3 .byte (24 : Int32) [(.int i4), (.int i5), (.int i6), (.int i7), (.int i8), (.int i9), (.int i10), (.int i11), (.int i12), (.int i13), (.int i14), (.int i15), (.int i16), (.int i17), (.int i18), (.int i19), (.int i20), (.int i21), (.int (0 : Int32)), (.int (0 : Int32)), (.int (0 : Int32)), (.int (0 : Int32)), (.int (0 : Int32)), (.int (0 : Int32))] (.int (0 : Int32))) (h_2 : Z.heap.size ≤ a1) (h_3 : Exa Z h0 a1 "[B") :
    own_Met l Z (⟨"java/lang/StringUTF16", "putChar", "([BII)V"⟩ : MethodName) jdk_52_method_4_code 3 none ({ frames := 0, cells := 0, slots := 0, locals := 0 } : Room) #[(.ref a1), (.int (9 : Int32)), (.int i2)] h0 (fun v h L => v = none ∧ Fr Z.heap.size L ∧ Keep h0 h [a1] ∧ Arv Z h a1 q3 .byte (24 : Int32) [(.int i4), (.int i5), (.int i6), (.int i7), (.int i8), (.int i9), (.int i10), (.int i11), (.int i12), (.int i13), (.int i14), (.int i15), (.int i16), (.int i17), (.int i18), (.int i19), (.int i20), (.int i21), (.int ((i2 >>> ((0 : Int32) &&& 31)).toInt8.toInt32)), (.int ((i2 >>> ((8 : Int32) &&& 31)).toInt8.toInt32)), (.int (0 : Int32)), (.int (0 : Int32)), (.int (0 : Int32)), (.int (0 : Int32))] (.int (0 : Int32)) ∧ Exa Z h a1 "[B") := by
  have hW_ := hW
  obtain ⟨hw, S_g_COMPACT_STRINGS, P_g_COMPACT_STRINGS, R_g_SIOOBE_FORMATTER, S_g_SIOOBE_FORMATTER, S_g__assertionsDisabled, S_g_HI_BYTE_SHIFT, S_g_LO_BYTE_SHIFT⟩ := hW_
  refine own_met (plainFor_of_name pn_java_lang_StringUTF16) ?_
  intro p e s m below meth cc_ s₁ Φ hF X0 hx hby hml hZ hown hnm hret hlk e0
  have N0 := Fr.nil Z.heap.size
  refine own_k (T' := s₁) (g' := (mkF m 0 #[.val (.ref a1), .val (.int (9 : Int32)), .val (.int i2)] [])) (fun _ k_ => castTop (ef_12_RII m a1 (9 : Int32) i2) k_) ?_
  obtain ⟨T1, X1, e1, st1⟩ := getS2 X0 hx hZ hown (host := "") (Or.inl (hw _ (List.mem_of_getElem? (i := 54) rfl))) Via.refl e0 (S_g__assertionsDisabled.ext O0.2) (g := (mkF m 0 #[.val (.ref a1), .val (.int (9 : Int32)), .val (.int i2)] [])) rfl (hb hby d12_0)
  refine own_k (T' := T1) (g' := (mkF m 3 #[.val (.ref a1), .val (.int (9 : Int32)), .val (.int i2)] [(.int (1 : Int32))])) st1 ?_
  refine own_k (T' := T1) (g' := (mkF m 28 #[.val (.ref a1), .val (.int (9 : Int32)), .val (.int i2)] [])) (fun _ k_ => XS.ifYes X1.here hx rfl (pc0 := 3) (pc' := 28) rfl (hb hby d12_3) rfl ((if0 _ _).trans (feq (by decide : ¬ ((1 : Int32) = (0 : Int32)))).2) (by decide) (by decide) k_) ?_
  refine own_k (T' := T1) (g' := (mkF m 29 #[.val (.ref a1), .val (.int (9 : Int32)), .val (.int i2)] [(.int (9 : Int32))])) (fun _ k_ => XS.iloadN X1.here hx rfl (hb hby d12_28) rfl  k_) ?_
  refine own_k (T' := T1) (g' := (mkF m 30 #[.val (.ref a1), .val (.int (9 : Int32)), .val (.int i2)] [(.int (1 : Int32)), (.int (9 : Int32))])) (fun _ k_ => XS.iconst X1.here hx rfl (hb hby d12_29) k_) ?_
  refine own_k (T' := T1) (g' := (mkF m 31 #[.val (.ref a1), .val (.int (9 : Int32)), .val (.int i2)] [(.int ((9 : Int32) <<< ((1 : Int32) &&& 31)))])) (fun _ k_ => XS.ishl X1.here hx rfl (hb hby d12_30) rfl k_) ?_
  rw [show ((9 : Int32) <<< ((1 : Int32) &&& 31)) = (18 : Int32) from by decide]
  refine own_k (T' := T1) (g' := (mkF m 32 #[.val (.ref a1), .val (.int (18 : Int32)), .val (.int i2)] [])) (fun _ k_ => XS.istoreN X1.here hx rfl (hb hby d12_31) rfl (l' := #[.val (.ref a1), .val (.int (18 : Int32)), .val (.int i2)]) rfl k_) ?_
  refine own_k (T' := T1) (g' := (mkF m 33 #[.val (.ref a1), .val (.int (18 : Int32)), .val (.int i2)] [(.ref a1)])) (fun _ k_ => XS.aloadN X1.here hx rfl (hb hby d12_32) rfl rfl  k_) ?_
  refine own_k (T' := T1) (g' := (mkF m 34 #[.val (.ref a1), .val (.int (18 : Int32)), .val (.int i2)] [(.int (18 : Int32)), (.ref a1)])) (fun _ k_ => XS.iloadN X1.here hx rfl (hb hby d12_33) rfl  k_) ?_
  refine own_k (T' := T1) (g' := (mkF m 37 #[.val (.ref a1), .val (.int ((18 : Int32) + (1 : Int32))), .val (.int i2)] [(.int (18 : Int32)), (.ref a1)])) (fun _ k_ => XS.iinc X1.here hx rfl (hb hby d12_34) rfl (l' := #[.val (.ref a1), .val (.int ((18 : Int32) + (1 : Int32))), .val (.int i2)]) rfl k_) ?_
  rw [show ((18 : Int32) + (1 : Int32)) = (19 : Int32) from by decide]
  refine own_k (T' := T1) (g' := (mkF m 38 #[.val (.ref a1), .val (.int (19 : Int32)), .val (.int i2)] [(.int i2), (.int (18 : Int32)), (.ref a1)])) (fun _ k_ => XS.iloadN X1.here hx rfl (hb hby d12_37) rfl  k_) ?_
  obtain ⟨T2, X2, e2, st2⟩ := getS2 X1 hx hZ hown (host := "") (Or.inl (hw _ (List.mem_of_getElem? (i := 55) rfl))) Via.refl e1 (S_g_HI_BYTE_SHIFT.ext O0.2) (g := (mkF m 38 #[.val (.ref a1), .val (.int (19 : Int32)), .val (.int i2)] [(.int i2), (.int (18 : Int32)), (.ref a1)])) rfl (hb hby d12_38)
  refine own_k (T' := T2) (g' := (mkF m 41 #[.val (.ref a1), .val (.int (19 : Int32)), .val (.int i2)] [(.int (0 : Int32)), (.int i2), (.int (18 : Int32)), (.ref a1)])) st2 ?_
  refine own_k (T' := T2) (g' := (mkF m 42 #[.val (.ref a1), .val (.int (19 : Int32)), .val (.int i2)] [(.int (i2 >>> ((0 : Int32) &&& 31))), (.int (18 : Int32)), (.ref a1)])) (fun _ k_ => XS.ishr X2.here hx rfl (hb hby d12_41) rfl k_) ?_
  refine own_k (T' := T2) (g' := (mkF m 43 #[.val (.ref a1), .val (.int (19 : Int32)), .val (.int i2)] [(.int ((i2 >>> ((0 : Int32) &&& 31)).toInt8.toInt32)), (.int (18 : Int32)), (.ref a1)])) (fun _ k_ => XS.i2b X2.here hx rfl (hb hby d12_42) rfl k_) ?_
  obtain ⟨T3, h3, X3, e3, W3, V3, st3⟩ := own_bastore (pc := 43) (Ls := #[.val (.ref a1), .val (.int (19 : Int32)), .val (.int i2)]) (rest := []) X2 hx hZ e2 h_1 (j := (18 : Int32)) (x := ((i2 >>> ((0 : Int32) &&& 31)).toInt8.toInt32)) ⟨by decide, by decide⟩ 18 rfl (Nat.le_of_ble_eq_true rfl) (hb hby d12_43)
  have V3 : Arv Z h3 a1 q3 .byte (24 : Int32) [(.int i4), (.int i5), (.int i6), (.int i7), (.int i8), (.int i9), (.int i10), (.int i11), (.int i12), (.int i13), (.int i14), (.int i15), (.int i16), (.int i17), (.int i18), (.int i19), (.int i20), (.int i21), (.int (nar .byte ((i2 >>> ((0 : Int32) &&& 31)).toInt8.toInt32))), (.int (0 : Int32)), (.int (0 : Int32)), (.int (0 : Int32)), (.int (0 : Int32)), (.int (0 : Int32))] (.int (0 : Int32)) := V3
  rw [show nar .byte ((i2 >>> ((0 : Int32) &&& 31)).toInt8.toInt32) = ((i2 >>> ((0 : Int32) &&& 31)).toInt8.toInt32) from own_nar_byte _] at V3
  have O3' := O0.wr W3 h_2
  have N3 := Fr.snoc X3 N0 h_2
  refine own_k (T' := T3) (g' := (mkF m 44 #[.val (.ref a1), .val (.int (19 : Int32)), .val (.int i2)] [])) st3 ?_
  refine own_k (T' := T3) (g' := (mkF m 45 #[.val (.ref a1), .val (.int (19 : Int32)), .val (.int i2)] [(.ref a1)])) (fun _ k_ => XS.aloadN X3.here hx rfl (hb hby d12_44) rfl rfl  k_) ?_
  refine own_k (T' := T3) (g' := (mkF m 46 #[.val (.ref a1), .val (.int (19 : Int32)), .val (.int i2)] [(.int (19 : Int32)), (.ref a1)])) (fun _ k_ => XS.iloadN X3.here hx rfl (hb hby d12_45) rfl  k_) ?_
  refine own_k (T' := T3) (g' := (mkF m 47 #[.val (.ref a1), .val (.int (19 : Int32)), .val (.int i2)] [(.int i2), (.int (19 : Int32)), (.ref a1)])) (fun _ k_ => XS.iloadN X3.here hx rfl (hb hby d12_46) rfl  k_) ?_
  obtain ⟨T4, X4, e4, st4⟩ := getS2 X3 hx hZ hown (host := "") (Or.inl (hw _ (List.mem_of_getElem? (i := 56) rfl))) Via.refl e3 (S_g_LO_BYTE_SHIFT.ext O3'.2) (g := (mkF m 47 #[.val (.ref a1), .val (.int (19 : Int32)), .val (.int i2)] [(.int i2), (.int (19 : Int32)), (.ref a1)])) rfl (hb hby d12_47)
  refine own_k (T' := T4) (g' := (mkF m 50 #[.val (.ref a1), .val (.int (19 : Int32)), .val (.int i2)] [(.int (8 : Int32)), (.int i2), (.int (19 : Int32)), (.ref a1)])) st4 ?_
  refine own_k (T' := T4) (g' := (mkF m 51 #[.val (.ref a1), .val (.int (19 : Int32)), .val (.int i2)] [(.int (i2 >>> ((8 : Int32) &&& 31))), (.int (19 : Int32)), (.ref a1)])) (fun _ k_ => XS.ishr X4.here hx rfl (hb hby d12_50) rfl k_) ?_
  refine own_k (T' := T4) (g' := (mkF m 52 #[.val (.ref a1), .val (.int (19 : Int32)), .val (.int i2)] [(.int ((i2 >>> ((8 : Int32) &&& 31)).toInt8.toInt32)), (.int (19 : Int32)), (.ref a1)])) (fun _ k_ => XS.i2b X4.here hx rfl (hb hby d12_51) rfl k_) ?_
  obtain ⟨T5, h5, X5, e5, W5, V5, st5⟩ := own_bastore (pc := 52) (Ls := #[.val (.ref a1), .val (.int (19 : Int32)), .val (.int i2)]) (rest := []) X4 hx hZ e4 V3 (j := (19 : Int32)) (x := ((i2 >>> ((8 : Int32) &&& 31)).toInt8.toInt32)) ⟨by decide, by decide⟩ 19 rfl (Nat.le_of_ble_eq_true rfl) (hb hby d12_52)
  have V5 : Arv Z h5 a1 q3 .byte (24 : Int32) [(.int i4), (.int i5), (.int i6), (.int i7), (.int i8), (.int i9), (.int i10), (.int i11), (.int i12), (.int i13), (.int i14), (.int i15), (.int i16), (.int i17), (.int i18), (.int i19), (.int i20), (.int i21), (.int ((i2 >>> ((0 : Int32) &&& 31)).toInt8.toInt32)), (.int (nar .byte ((i2 >>> ((8 : Int32) &&& 31)).toInt8.toInt32))), (.int (0 : Int32)), (.int (0 : Int32)), (.int (0 : Int32)), (.int (0 : Int32))] (.int (0 : Int32)) := V5
  rw [show nar .byte ((i2 >>> ((8 : Int32) &&& 31)).toInt8.toInt32) = ((i2 >>> ((8 : Int32) &&& 31)).toInt8.toInt32) from own_nar_byte _] at V5
  have O5' := O3'.wr W5 h_2
  have N5 := Fr.snoc X5 N3 h_2
  refine own_k (T' := T5) (g' := (mkF m 53 #[.val (.ref a1), .val (.int (19 : Int32)), .val (.int i2)] [])) st5 ?_
  have kp0 : Keep h0 h0 [a1] := Keep.refl h0 [a1]
  have kp1 : Keep h0 h3 [a1] := kp0.wr W3 (Or.inl (List.mem_of_getElem? (i := 0) rfl))
  have kp2 : Keep h0 h5 [a1] := kp1.wr W5 (Or.inl (List.mem_of_getElem? (i := 0) rfl))
  exact own_ret0 X5 hx hret hlk (hb hby d12_53) hF (by rw [e5]; exact ⟨rfl, N5, kp2, V5, ((h_3.wr W3).wr W5)⟩) (by decide) (by decide)
set_option maxRecDepth 65536 in
set_option maxHeartbeats 40000000 in
theorem rm_putChar_12 (l : Launch) (Z : State) (a0 : Array Value) (g_COMPACT_STRINGS : Int32) (g_SIOOBE_FORMATTER : Value) (hW : own_W Z a0 g_COMPACT_STRINGS g_SIOOBE_FORMATTER) (a1 : Addr) (i2 : Int32) (q3 : ClassId) (i4 : Int32) (i5 : Int32) (i6 : Int32) (i7 : Int32) (i8 : Int32) (i9 : Int32) (i10 : Int32) (i11 : Int32) (i12 : Int32) (i13 : Int32) (i14 : Int32) (i15 : Int32) (i16 : Int32) (i17 : Int32) (i18 : Int32) (i19 : Int32) (i20 : Int32) (i21 : Int32) (i22 : Int32) (i23 : Int32) (h0 : Heap) (O0 : Old Z Z.heap.size h0) (h_1 : Arv Z h0 a1 q3 .byte (24 : Int32) [(.int i4), (.int i5), (.int i6), (.int i7), (.int i8), (.int i9), (.int i10), (.int i11), (.int i12), (.int i13), (.int i14), (.int i15), (.int i16), (.int i17), (.int i18), (.int i19), (.int i20), (.int i21), (.int i22), (.int i23), (.int (0 : Int32)), (.int (0 : Int32)), (.int (0 : Int32)), (.int (0 : Int32))] (.int (0 : Int32))) (h_2 : Z.heap.size ≤ a1) (h_3 : Exa Z h0 a1 "[B") :
    own_Met l Z (⟨"java/lang/StringUTF16", "putChar", "([BII)V"⟩ : MethodName) jdk_52_method_4_code 3 none ({ frames := 0, cells := 0, slots := 0, locals := 0 } : Room) #[(.ref a1), (.int (10 : Int32)), (.int i2)] h0 (fun v h L => v = none ∧ Fr Z.heap.size L ∧ Keep h0 h [a1] ∧ Arv Z h a1 q3 .byte (24 : Int32) [(.int i4), (.int i5), (.int i6), (.int i7), (.int i8), (.int i9), (.int i10), (.int i11), (.int i12), (.int i13), (.int i14), (.int i15), (.int i16), (.int i17), (.int i18), (.int i19), (.int i20), (.int i21), (.int i22), (.int i23), (.int ((i2 >>> ((0 : Int32) &&& 31)).toInt8.toInt32)), (.int ((i2 >>> ((8 : Int32) &&& 31)).toInt8.toInt32)), (.int (0 : Int32)), (.int (0 : Int32))] (.int (0 : Int32)) ∧ Exa Z h a1 "[B") := by
  have hW_ := hW
  obtain ⟨hw, S_g_COMPACT_STRINGS, P_g_COMPACT_STRINGS, R_g_SIOOBE_FORMATTER, S_g_SIOOBE_FORMATTER, S_g__assertionsDisabled, S_g_HI_BYTE_SHIFT, S_g_LO_BYTE_SHIFT⟩ := hW_
  refine own_met (plainFor_of_name pn_java_lang_StringUTF16) ?_
  intro p e s m below meth cc_ s₁ Φ hF X0 hx hby hml hZ hown hnm hret hlk e0
  have N0 := Fr.nil Z.heap.size
  refine own_k (T' := s₁) (g' := (mkF m 0 #[.val (.ref a1), .val (.int (10 : Int32)), .val (.int i2)] [])) (fun _ k_ => castTop (ef_12_RII m a1 (10 : Int32) i2) k_) ?_
  obtain ⟨T1, X1, e1, st1⟩ := getS2 X0 hx hZ hown (host := "") (Or.inl (hw _ (List.mem_of_getElem? (i := 54) rfl))) Via.refl e0 (S_g__assertionsDisabled.ext O0.2) (g := (mkF m 0 #[.val (.ref a1), .val (.int (10 : Int32)), .val (.int i2)] [])) rfl (hb hby d12_0)
  refine own_k (T' := T1) (g' := (mkF m 3 #[.val (.ref a1), .val (.int (10 : Int32)), .val (.int i2)] [(.int (1 : Int32))])) st1 ?_
  refine own_k (T' := T1) (g' := (mkF m 28 #[.val (.ref a1), .val (.int (10 : Int32)), .val (.int i2)] [])) (fun _ k_ => XS.ifYes X1.here hx rfl (pc0 := 3) (pc' := 28) rfl (hb hby d12_3) rfl ((if0 _ _).trans (feq (by decide : ¬ ((1 : Int32) = (0 : Int32)))).2) (by decide) (by decide) k_) ?_
  refine own_k (T' := T1) (g' := (mkF m 29 #[.val (.ref a1), .val (.int (10 : Int32)), .val (.int i2)] [(.int (10 : Int32))])) (fun _ k_ => XS.iloadN X1.here hx rfl (hb hby d12_28) rfl  k_) ?_
  refine own_k (T' := T1) (g' := (mkF m 30 #[.val (.ref a1), .val (.int (10 : Int32)), .val (.int i2)] [(.int (1 : Int32)), (.int (10 : Int32))])) (fun _ k_ => XS.iconst X1.here hx rfl (hb hby d12_29) k_) ?_
  refine own_k (T' := T1) (g' := (mkF m 31 #[.val (.ref a1), .val (.int (10 : Int32)), .val (.int i2)] [(.int ((10 : Int32) <<< ((1 : Int32) &&& 31)))])) (fun _ k_ => XS.ishl X1.here hx rfl (hb hby d12_30) rfl k_) ?_
  rw [show ((10 : Int32) <<< ((1 : Int32) &&& 31)) = (20 : Int32) from by decide]
  refine own_k (T' := T1) (g' := (mkF m 32 #[.val (.ref a1), .val (.int (20 : Int32)), .val (.int i2)] [])) (fun _ k_ => XS.istoreN X1.here hx rfl (hb hby d12_31) rfl (l' := #[.val (.ref a1), .val (.int (20 : Int32)), .val (.int i2)]) rfl k_) ?_
  refine own_k (T' := T1) (g' := (mkF m 33 #[.val (.ref a1), .val (.int (20 : Int32)), .val (.int i2)] [(.ref a1)])) (fun _ k_ => XS.aloadN X1.here hx rfl (hb hby d12_32) rfl rfl  k_) ?_
  refine own_k (T' := T1) (g' := (mkF m 34 #[.val (.ref a1), .val (.int (20 : Int32)), .val (.int i2)] [(.int (20 : Int32)), (.ref a1)])) (fun _ k_ => XS.iloadN X1.here hx rfl (hb hby d12_33) rfl  k_) ?_
  refine own_k (T' := T1) (g' := (mkF m 37 #[.val (.ref a1), .val (.int ((20 : Int32) + (1 : Int32))), .val (.int i2)] [(.int (20 : Int32)), (.ref a1)])) (fun _ k_ => XS.iinc X1.here hx rfl (hb hby d12_34) rfl (l' := #[.val (.ref a1), .val (.int ((20 : Int32) + (1 : Int32))), .val (.int i2)]) rfl k_) ?_
  rw [show ((20 : Int32) + (1 : Int32)) = (21 : Int32) from by decide]
  refine own_k (T' := T1) (g' := (mkF m 38 #[.val (.ref a1), .val (.int (21 : Int32)), .val (.int i2)] [(.int i2), (.int (20 : Int32)), (.ref a1)])) (fun _ k_ => XS.iloadN X1.here hx rfl (hb hby d12_37) rfl  k_) ?_
  obtain ⟨T2, X2, e2, st2⟩ := getS2 X1 hx hZ hown (host := "") (Or.inl (hw _ (List.mem_of_getElem? (i := 55) rfl))) Via.refl e1 (S_g_HI_BYTE_SHIFT.ext O0.2) (g := (mkF m 38 #[.val (.ref a1), .val (.int (21 : Int32)), .val (.int i2)] [(.int i2), (.int (20 : Int32)), (.ref a1)])) rfl (hb hby d12_38)
  refine own_k (T' := T2) (g' := (mkF m 41 #[.val (.ref a1), .val (.int (21 : Int32)), .val (.int i2)] [(.int (0 : Int32)), (.int i2), (.int (20 : Int32)), (.ref a1)])) st2 ?_
  refine own_k (T' := T2) (g' := (mkF m 42 #[.val (.ref a1), .val (.int (21 : Int32)), .val (.int i2)] [(.int (i2 >>> ((0 : Int32) &&& 31))), (.int (20 : Int32)), (.ref a1)])) (fun _ k_ => XS.ishr X2.here hx rfl (hb hby d12_41) rfl k_) ?_
  refine own_k (T' := T2) (g' := (mkF m 43 #[.val (.ref a1), .val (.int (21 : Int32)), .val (.int i2)] [(.int ((i2 >>> ((0 : Int32) &&& 31)).toInt8.toInt32)), (.int (20 : Int32)), (.ref a1)])) (fun _ k_ => XS.i2b X2.here hx rfl (hb hby d12_42) rfl k_) ?_
  obtain ⟨T3, h3, X3, e3, W3, V3, st3⟩ := own_bastore (pc := 43) (Ls := #[.val (.ref a1), .val (.int (21 : Int32)), .val (.int i2)]) (rest := []) X2 hx hZ e2 h_1 (j := (20 : Int32)) (x := ((i2 >>> ((0 : Int32) &&& 31)).toInt8.toInt32)) ⟨by decide, by decide⟩ 20 rfl (Nat.le_of_ble_eq_true rfl) (hb hby d12_43)
  have V3 : Arv Z h3 a1 q3 .byte (24 : Int32) [(.int i4), (.int i5), (.int i6), (.int i7), (.int i8), (.int i9), (.int i10), (.int i11), (.int i12), (.int i13), (.int i14), (.int i15), (.int i16), (.int i17), (.int i18), (.int i19), (.int i20), (.int i21), (.int i22), (.int i23), (.int (nar .byte ((i2 >>> ((0 : Int32) &&& 31)).toInt8.toInt32))), (.int (0 : Int32)), (.int (0 : Int32)), (.int (0 : Int32))] (.int (0 : Int32)) := V3
  rw [show nar .byte ((i2 >>> ((0 : Int32) &&& 31)).toInt8.toInt32) = ((i2 >>> ((0 : Int32) &&& 31)).toInt8.toInt32) from own_nar_byte _] at V3
  have O3' := O0.wr W3 h_2
  have N3 := Fr.snoc X3 N0 h_2
  refine own_k (T' := T3) (g' := (mkF m 44 #[.val (.ref a1), .val (.int (21 : Int32)), .val (.int i2)] [])) st3 ?_
  refine own_k (T' := T3) (g' := (mkF m 45 #[.val (.ref a1), .val (.int (21 : Int32)), .val (.int i2)] [(.ref a1)])) (fun _ k_ => XS.aloadN X3.here hx rfl (hb hby d12_44) rfl rfl  k_) ?_
  refine own_k (T' := T3) (g' := (mkF m 46 #[.val (.ref a1), .val (.int (21 : Int32)), .val (.int i2)] [(.int (21 : Int32)), (.ref a1)])) (fun _ k_ => XS.iloadN X3.here hx rfl (hb hby d12_45) rfl  k_) ?_
  refine own_k (T' := T3) (g' := (mkF m 47 #[.val (.ref a1), .val (.int (21 : Int32)), .val (.int i2)] [(.int i2), (.int (21 : Int32)), (.ref a1)])) (fun _ k_ => XS.iloadN X3.here hx rfl (hb hby d12_46) rfl  k_) ?_
  obtain ⟨T4, X4, e4, st4⟩ := getS2 X3 hx hZ hown (host := "") (Or.inl (hw _ (List.mem_of_getElem? (i := 56) rfl))) Via.refl e3 (S_g_LO_BYTE_SHIFT.ext O3'.2) (g := (mkF m 47 #[.val (.ref a1), .val (.int (21 : Int32)), .val (.int i2)] [(.int i2), (.int (21 : Int32)), (.ref a1)])) rfl (hb hby d12_47)
  refine own_k (T' := T4) (g' := (mkF m 50 #[.val (.ref a1), .val (.int (21 : Int32)), .val (.int i2)] [(.int (8 : Int32)), (.int i2), (.int (21 : Int32)), (.ref a1)])) st4 ?_
  refine own_k (T' := T4) (g' := (mkF m 51 #[.val (.ref a1), .val (.int (21 : Int32)), .val (.int i2)] [(.int (i2 >>> ((8 : Int32) &&& 31))), (.int (21 : Int32)), (.ref a1)])) (fun _ k_ => XS.ishr X4.here hx rfl (hb hby d12_50) rfl k_) ?_
  refine own_k (T' := T4) (g' := (mkF m 52 #[.val (.ref a1), .val (.int (21 : Int32)), .val (.int i2)] [(.int ((i2 >>> ((8 : Int32) &&& 31)).toInt8.toInt32)), (.int (21 : Int32)), (.ref a1)])) (fun _ k_ => XS.i2b X4.here hx rfl (hb hby d12_51) rfl k_) ?_
  obtain ⟨T5, h5, X5, e5, W5, V5, st5⟩ := own_bastore (pc := 52) (Ls := #[.val (.ref a1), .val (.int (21 : Int32)), .val (.int i2)]) (rest := []) X4 hx hZ e4 V3 (j := (21 : Int32)) (x := ((i2 >>> ((8 : Int32) &&& 31)).toInt8.toInt32)) ⟨by decide, by decide⟩ 21 rfl (Nat.le_of_ble_eq_true rfl) (hb hby d12_52)
  have V5 : Arv Z h5 a1 q3 .byte (24 : Int32) [(.int i4), (.int i5), (.int i6), (.int i7), (.int i8), (.int i9), (.int i10), (.int i11), (.int i12), (.int i13), (.int i14), (.int i15), (.int i16), (.int i17), (.int i18), (.int i19), (.int i20), (.int i21), (.int i22), (.int i23), (.int ((i2 >>> ((0 : Int32) &&& 31)).toInt8.toInt32)), (.int (nar .byte ((i2 >>> ((8 : Int32) &&& 31)).toInt8.toInt32))), (.int (0 : Int32)), (.int (0 : Int32))] (.int (0 : Int32)) := V5
  rw [show nar .byte ((i2 >>> ((8 : Int32) &&& 31)).toInt8.toInt32) = ((i2 >>> ((8 : Int32) &&& 31)).toInt8.toInt32) from own_nar_byte _] at V5
  have O5' := O3'.wr W5 h_2
  have N5 := Fr.snoc X5 N3 h_2
  refine own_k (T' := T5) (g' := (mkF m 53 #[.val (.ref a1), .val (.int (21 : Int32)), .val (.int i2)] [])) st5 ?_
  have kp0 : Keep h0 h0 [a1] := Keep.refl h0 [a1]
  have kp1 : Keep h0 h3 [a1] := kp0.wr W3 (Or.inl (List.mem_of_getElem? (i := 0) rfl))
  have kp2 : Keep h0 h5 [a1] := kp1.wr W5 (Or.inl (List.mem_of_getElem? (i := 0) rfl))
  exact own_ret0 X5 hx hret hlk (hb hby d12_53) hF (by rw [e5]; exact ⟨rfl, N5, kp2, V5, ((h_3.wr W3).wr W5)⟩) (by decide) (by decide)
set_option maxRecDepth 65536 in
set_option maxHeartbeats 40000000 in
theorem rm_putChar_13 (l : Launch) (Z : State) (a0 : Array Value) (g_COMPACT_STRINGS : Int32) (g_SIOOBE_FORMATTER : Value) (hW : own_W Z a0 g_COMPACT_STRINGS g_SIOOBE_FORMATTER) (a1 : Addr) (i2 : Int32) (q3 : ClassId) (i4 : Int32) (i5 : Int32) (i6 : Int32) (i7 : Int32) (i8 : Int32) (i9 : Int32) (i10 : Int32) (i11 : Int32) (i12 : Int32) (i13 : Int32) (i14 : Int32) (i15 : Int32) (i16 : Int32) (i17 : Int32) (i18 : Int32) (i19 : Int32) (i20 : Int32) (i21 : Int32) (i22 : Int32) (i23 : Int32) (i24 : Int32) (i25 : Int32) (h0 : Heap) (O0 : Old Z Z.heap.size h0) (h_1 : Arv Z h0 a1 q3 .byte (24 : Int32) [(.int i4), (.int i5), (.int i6), (.int i7), (.int i8), (.int i9), (.int i10), (.int i11), (.int i12), (.int i13), (.int i14), (.int i15), (.int i16), (.int i17), (.int i18), (.int i19), (.int i20), (.int i21), (.int i22), (.int i23), (.int i24), (.int i25), (.int (0 : Int32)), (.int (0 : Int32))] (.int (0 : Int32))) (h_2 : Z.heap.size ≤ a1) (h_3 : Exa Z h0 a1 "[B") :
    own_Met l Z (⟨"java/lang/StringUTF16", "putChar", "([BII)V"⟩ : MethodName) jdk_52_method_4_code 3 none ({ frames := 0, cells := 0, slots := 0, locals := 0 } : Room) #[(.ref a1), (.int (11 : Int32)), (.int i2)] h0 (fun v h L => v = none ∧ Fr Z.heap.size L ∧ Keep h0 h [a1] ∧ Arv Z h a1 q3 .byte (24 : Int32) [(.int i4), (.int i5), (.int i6), (.int i7), (.int i8), (.int i9), (.int i10), (.int i11), (.int i12), (.int i13), (.int i14), (.int i15), (.int i16), (.int i17), (.int i18), (.int i19), (.int i20), (.int i21), (.int i22), (.int i23), (.int i24), (.int i25), (.int ((i2 >>> ((0 : Int32) &&& 31)).toInt8.toInt32)), (.int ((i2 >>> ((8 : Int32) &&& 31)).toInt8.toInt32))] (.int (0 : Int32)) ∧ Exa Z h a1 "[B") := by
  have hW_ := hW
  obtain ⟨hw, S_g_COMPACT_STRINGS, P_g_COMPACT_STRINGS, R_g_SIOOBE_FORMATTER, S_g_SIOOBE_FORMATTER, S_g__assertionsDisabled, S_g_HI_BYTE_SHIFT, S_g_LO_BYTE_SHIFT⟩ := hW_
  refine own_met (plainFor_of_name pn_java_lang_StringUTF16) ?_
  intro p e s m below meth cc_ s₁ Φ hF X0 hx hby hml hZ hown hnm hret hlk e0
  have N0 := Fr.nil Z.heap.size
  refine own_k (T' := s₁) (g' := (mkF m 0 #[.val (.ref a1), .val (.int (11 : Int32)), .val (.int i2)] [])) (fun _ k_ => castTop (ef_12_RII m a1 (11 : Int32) i2) k_) ?_
  obtain ⟨T1, X1, e1, st1⟩ := getS2 X0 hx hZ hown (host := "") (Or.inl (hw _ (List.mem_of_getElem? (i := 54) rfl))) Via.refl e0 (S_g__assertionsDisabled.ext O0.2) (g := (mkF m 0 #[.val (.ref a1), .val (.int (11 : Int32)), .val (.int i2)] [])) rfl (hb hby d12_0)
  refine own_k (T' := T1) (g' := (mkF m 3 #[.val (.ref a1), .val (.int (11 : Int32)), .val (.int i2)] [(.int (1 : Int32))])) st1 ?_
  refine own_k (T' := T1) (g' := (mkF m 28 #[.val (.ref a1), .val (.int (11 : Int32)), .val (.int i2)] [])) (fun _ k_ => XS.ifYes X1.here hx rfl (pc0 := 3) (pc' := 28) rfl (hb hby d12_3) rfl ((if0 _ _).trans (feq (by decide : ¬ ((1 : Int32) = (0 : Int32)))).2) (by decide) (by decide) k_) ?_
  refine own_k (T' := T1) (g' := (mkF m 29 #[.val (.ref a1), .val (.int (11 : Int32)), .val (.int i2)] [(.int (11 : Int32))])) (fun _ k_ => XS.iloadN X1.here hx rfl (hb hby d12_28) rfl  k_) ?_
  refine own_k (T' := T1) (g' := (mkF m 30 #[.val (.ref a1), .val (.int (11 : Int32)), .val (.int i2)] [(.int (1 : Int32)), (.int (11 : Int32))])) (fun _ k_ => XS.iconst X1.here hx rfl (hb hby d12_29) k_) ?_
  refine own_k (T' := T1) (g' := (mkF m 31 #[.val (.ref a1), .val (.int (11 : Int32)), .val (.int i2)] [(.int ((11 : Int32) <<< ((1 : Int32) &&& 31)))])) (fun _ k_ => XS.ishl X1.here hx rfl (hb hby d12_30) rfl k_) ?_
  rw [show ((11 : Int32) <<< ((1 : Int32) &&& 31)) = (22 : Int32) from by decide]
  refine own_k (T' := T1) (g' := (mkF m 32 #[.val (.ref a1), .val (.int (22 : Int32)), .val (.int i2)] [])) (fun _ k_ => XS.istoreN X1.here hx rfl (hb hby d12_31) rfl (l' := #[.val (.ref a1), .val (.int (22 : Int32)), .val (.int i2)]) rfl k_) ?_
  refine own_k (T' := T1) (g' := (mkF m 33 #[.val (.ref a1), .val (.int (22 : Int32)), .val (.int i2)] [(.ref a1)])) (fun _ k_ => XS.aloadN X1.here hx rfl (hb hby d12_32) rfl rfl  k_) ?_
  refine own_k (T' := T1) (g' := (mkF m 34 #[.val (.ref a1), .val (.int (22 : Int32)), .val (.int i2)] [(.int (22 : Int32)), (.ref a1)])) (fun _ k_ => XS.iloadN X1.here hx rfl (hb hby d12_33) rfl  k_) ?_
  refine own_k (T' := T1) (g' := (mkF m 37 #[.val (.ref a1), .val (.int ((22 : Int32) + (1 : Int32))), .val (.int i2)] [(.int (22 : Int32)), (.ref a1)])) (fun _ k_ => XS.iinc X1.here hx rfl (hb hby d12_34) rfl (l' := #[.val (.ref a1), .val (.int ((22 : Int32) + (1 : Int32))), .val (.int i2)]) rfl k_) ?_
  rw [show ((22 : Int32) + (1 : Int32)) = (23 : Int32) from by decide]
  refine own_k (T' := T1) (g' := (mkF m 38 #[.val (.ref a1), .val (.int (23 : Int32)), .val (.int i2)] [(.int i2), (.int (22 : Int32)), (.ref a1)])) (fun _ k_ => XS.iloadN X1.here hx rfl (hb hby d12_37) rfl  k_) ?_
  obtain ⟨T2, X2, e2, st2⟩ := getS2 X1 hx hZ hown (host := "") (Or.inl (hw _ (List.mem_of_getElem? (i := 55) rfl))) Via.refl e1 (S_g_HI_BYTE_SHIFT.ext O0.2) (g := (mkF m 38 #[.val (.ref a1), .val (.int (23 : Int32)), .val (.int i2)] [(.int i2), (.int (22 : Int32)), (.ref a1)])) rfl (hb hby d12_38)
  refine own_k (T' := T2) (g' := (mkF m 41 #[.val (.ref a1), .val (.int (23 : Int32)), .val (.int i2)] [(.int (0 : Int32)), (.int i2), (.int (22 : Int32)), (.ref a1)])) st2 ?_
  refine own_k (T' := T2) (g' := (mkF m 42 #[.val (.ref a1), .val (.int (23 : Int32)), .val (.int i2)] [(.int (i2 >>> ((0 : Int32) &&& 31))), (.int (22 : Int32)), (.ref a1)])) (fun _ k_ => XS.ishr X2.here hx rfl (hb hby d12_41) rfl k_) ?_
  refine own_k (T' := T2) (g' := (mkF m 43 #[.val (.ref a1), .val (.int (23 : Int32)), .val (.int i2)] [(.int ((i2 >>> ((0 : Int32) &&& 31)).toInt8.toInt32)), (.int (22 : Int32)), (.ref a1)])) (fun _ k_ => XS.i2b X2.here hx rfl (hb hby d12_42) rfl k_) ?_
  obtain ⟨T3, h3, X3, e3, W3, V3, st3⟩ := own_bastore (pc := 43) (Ls := #[.val (.ref a1), .val (.int (23 : Int32)), .val (.int i2)]) (rest := []) X2 hx hZ e2 h_1 (j := (22 : Int32)) (x := ((i2 >>> ((0 : Int32) &&& 31)).toInt8.toInt32)) ⟨by decide, by decide⟩ 22 rfl (Nat.le_of_ble_eq_true rfl) (hb hby d12_43)
  have V3 : Arv Z h3 a1 q3 .byte (24 : Int32) [(.int i4), (.int i5), (.int i6), (.int i7), (.int i8), (.int i9), (.int i10), (.int i11), (.int i12), (.int i13), (.int i14), (.int i15), (.int i16), (.int i17), (.int i18), (.int i19), (.int i20), (.int i21), (.int i22), (.int i23), (.int i24), (.int i25), (.int (nar .byte ((i2 >>> ((0 : Int32) &&& 31)).toInt8.toInt32))), (.int (0 : Int32))] (.int (0 : Int32)) := V3
  rw [show nar .byte ((i2 >>> ((0 : Int32) &&& 31)).toInt8.toInt32) = ((i2 >>> ((0 : Int32) &&& 31)).toInt8.toInt32) from own_nar_byte _] at V3
  have O3' := O0.wr W3 h_2
  have N3 := Fr.snoc X3 N0 h_2
  refine own_k (T' := T3) (g' := (mkF m 44 #[.val (.ref a1), .val (.int (23 : Int32)), .val (.int i2)] [])) st3 ?_
  refine own_k (T' := T3) (g' := (mkF m 45 #[.val (.ref a1), .val (.int (23 : Int32)), .val (.int i2)] [(.ref a1)])) (fun _ k_ => XS.aloadN X3.here hx rfl (hb hby d12_44) rfl rfl  k_) ?_
  refine own_k (T' := T3) (g' := (mkF m 46 #[.val (.ref a1), .val (.int (23 : Int32)), .val (.int i2)] [(.int (23 : Int32)), (.ref a1)])) (fun _ k_ => XS.iloadN X3.here hx rfl (hb hby d12_45) rfl  k_) ?_
  refine own_k (T' := T3) (g' := (mkF m 47 #[.val (.ref a1), .val (.int (23 : Int32)), .val (.int i2)] [(.int i2), (.int (23 : Int32)), (.ref a1)])) (fun _ k_ => XS.iloadN X3.here hx rfl (hb hby d12_46) rfl  k_) ?_
  obtain ⟨T4, X4, e4, st4⟩ := getS2 X3 hx hZ hown (host := "") (Or.inl (hw _ (List.mem_of_getElem? (i := 56) rfl))) Via.refl e3 (S_g_LO_BYTE_SHIFT.ext O3'.2) (g := (mkF m 47 #[.val (.ref a1), .val (.int (23 : Int32)), .val (.int i2)] [(.int i2), (.int (23 : Int32)), (.ref a1)])) rfl (hb hby d12_47)
  refine own_k (T' := T4) (g' := (mkF m 50 #[.val (.ref a1), .val (.int (23 : Int32)), .val (.int i2)] [(.int (8 : Int32)), (.int i2), (.int (23 : Int32)), (.ref a1)])) st4 ?_
  refine own_k (T' := T4) (g' := (mkF m 51 #[.val (.ref a1), .val (.int (23 : Int32)), .val (.int i2)] [(.int (i2 >>> ((8 : Int32) &&& 31))), (.int (23 : Int32)), (.ref a1)])) (fun _ k_ => XS.ishr X4.here hx rfl (hb hby d12_50) rfl k_) ?_
  refine own_k (T' := T4) (g' := (mkF m 52 #[.val (.ref a1), .val (.int (23 : Int32)), .val (.int i2)] [(.int ((i2 >>> ((8 : Int32) &&& 31)).toInt8.toInt32)), (.int (23 : Int32)), (.ref a1)])) (fun _ k_ => XS.i2b X4.here hx rfl (hb hby d12_51) rfl k_) ?_
  obtain ⟨T5, h5, X5, e5, W5, V5, st5⟩ := own_bastore (pc := 52) (Ls := #[.val (.ref a1), .val (.int (23 : Int32)), .val (.int i2)]) (rest := []) X4 hx hZ e4 V3 (j := (23 : Int32)) (x := ((i2 >>> ((8 : Int32) &&& 31)).toInt8.toInt32)) ⟨by decide, by decide⟩ 23 rfl (Nat.le_of_ble_eq_true rfl) (hb hby d12_52)
  have V5 : Arv Z h5 a1 q3 .byte (24 : Int32) [(.int i4), (.int i5), (.int i6), (.int i7), (.int i8), (.int i9), (.int i10), (.int i11), (.int i12), (.int i13), (.int i14), (.int i15), (.int i16), (.int i17), (.int i18), (.int i19), (.int i20), (.int i21), (.int i22), (.int i23), (.int i24), (.int i25), (.int ((i2 >>> ((0 : Int32) &&& 31)).toInt8.toInt32)), (.int (nar .byte ((i2 >>> ((8 : Int32) &&& 31)).toInt8.toInt32)))] (.int (0 : Int32)) := V5
  rw [show nar .byte ((i2 >>> ((8 : Int32) &&& 31)).toInt8.toInt32) = ((i2 >>> ((8 : Int32) &&& 31)).toInt8.toInt32) from own_nar_byte _] at V5
  have O5' := O3'.wr W5 h_2
  have N5 := Fr.snoc X5 N3 h_2
  refine own_k (T' := T5) (g' := (mkF m 53 #[.val (.ref a1), .val (.int (23 : Int32)), .val (.int i2)] [])) st5 ?_
  have kp0 : Keep h0 h0 [a1] := Keep.refl h0 [a1]
  have kp1 : Keep h0 h3 [a1] := kp0.wr W3 (Or.inl (List.mem_of_getElem? (i := 0) rfl))
  have kp2 : Keep h0 h5 [a1] := kp1.wr W5 (Or.inl (List.mem_of_getElem? (i := 0) rfl))
  exact own_ret0 X5 hx hret hlk (hb hby d12_53) hF (by rw [e5]; exact ⟨rfl, N5, kp2, V5, ((h_3.wr W3).wr W5)⟩) (by decide) (by decide)
theorem d9_32 : decode jdk_52_method_14_code 32 = .ok (.aload_n 3, 1) := by decide +kernel
theorem d9_33 : decode jdk_52_method_14_code 33 = .ok (.areturn, 1) := by decide +kernel
set_option maxRecDepth 65536 in
set_option maxHeartbeats 40000000 in
theorem rm_toBytes_14 (l : Launch) (Z : State) (a0 : Array Value) (g_COMPACT_STRINGS : Int32) (g_SIOOBE_FORMATTER : Value) (hW : own_W Z a0 g_COMPACT_STRINGS g_SIOOBE_FORMATTER) (a1 : Addr) (q2 : ClassId) (i3 : Int32) (i4 : Int32) (i5 : Int32) (i6 : Int32) (i7 : Int32) (i8 : Int32) (i9 : Int32) (i10 : Int32) (i11 : Int32) (i12 : Int32) (i13 : Int32) (i14 : Int32) (h0 : Heap) (O0 : Old Z Z.heap.size h0) (h_1 : Arv Z h0 a1 q2 .char (12 : Int32) [(.int i3), (.int i4), (.int i5), (.int i6), (.int i7), (.int i8), (.int i9), (.int i10), (.int i11), (.int i12), (.int i13), (.int i14)] (.int (0 : Int32))) :
    own_Met l Z (⟨"java/lang/StringUTF16", "toBytes", "([CII)[B"⟩ : MethodName) jdk_52_method_14_code 5 (some (.array .byte)) ({ frames := 2, cells := 1, slots := 24, locals := 24 } : Room) #[(.ref a1), (.int (0 : Int32)), (.int (12 : Int32))] h0 (fun v h L => ∃ (b1_0 : Addr) (k1_1 : ClassId), v = some (.ref b1_0) ∧ Fr Z.heap.size L ∧ Keep h0 h [] ∧ h0.size ≤ b1_0 ∧ Exa Z h b1_0 "[B" ∧ Arv Z h b1_0 k1_1 .byte (24 : Int32) [(.int ((i3 >>> ((0 : Int32) &&& 31)).toInt8.toInt32)), (.int ((i3 >>> ((8 : Int32) &&& 31)).toInt8.toInt32)), (.int ((i4 >>> ((0 : Int32) &&& 31)).toInt8.toInt32)), (.int ((i4 >>> ((8 : Int32) &&& 31)).toInt8.toInt32)), (.int ((i5 >>> ((0 : Int32) &&& 31)).toInt8.toInt32)), (.int ((i5 >>> ((8 : Int32) &&& 31)).toInt8.toInt32)), (.int ((i6 >>> ((0 : Int32) &&& 31)).toInt8.toInt32)), (.int ((i6 >>> ((8 : Int32) &&& 31)).toInt8.toInt32)), (.int ((i7 >>> ((0 : Int32) &&& 31)).toInt8.toInt32)), (.int ((i7 >>> ((8 : Int32) &&& 31)).toInt8.toInt32)), (.int ((i8 >>> ((0 : Int32) &&& 31)).toInt8.toInt32)), (.int ((i8 >>> ((8 : Int32) &&& 31)).toInt8.toInt32)), (.int ((i9 >>> ((0 : Int32) &&& 31)).toInt8.toInt32)), (.int ((i9 >>> ((8 : Int32) &&& 31)).toInt8.toInt32)), (.int ((i10 >>> ((0 : Int32) &&& 31)).toInt8.toInt32)), (.int ((i10 >>> ((8 : Int32) &&& 31)).toInt8.toInt32)), (.int ((i11 >>> ((0 : Int32) &&& 31)).toInt8.toInt32)), (.int ((i11 >>> ((8 : Int32) &&& 31)).toInt8.toInt32)), (.int ((i12 >>> ((0 : Int32) &&& 31)).toInt8.toInt32)), (.int ((i12 >>> ((8 : Int32) &&& 31)).toInt8.toInt32)), (.int ((i13 >>> ((0 : Int32) &&& 31)).toInt8.toInt32)), (.int ((i13 >>> ((8 : Int32) &&& 31)).toInt8.toInt32)), (.int ((i14 >>> ((0 : Int32) &&& 31)).toInt8.toInt32)), (.int ((i14 >>> ((8 : Int32) &&& 31)).toInt8.toInt32))] (.int (0 : Int32))) := by
  have hW_ := hW
  obtain ⟨hw, S_g_COMPACT_STRINGS, P_g_COMPACT_STRINGS, R_g_SIOOBE_FORMATTER, S_g_SIOOBE_FORMATTER, S_g__assertionsDisabled, S_g_HI_BYTE_SHIFT, S_g_LO_BYTE_SHIFT⟩ := hW_
  refine own_met (plainFor_of_name pn_java_lang_StringUTF16) ?_
  intro p e s m below meth cc_ s₁ Φ hF X0 hx hby hml hZ hown hnm hret hlk e0
  have N0 := Fr.nil Z.heap.size
  refine own_k (T' := s₁) (g' := (mkF m 0 #[.val (.ref a1), .val (.int (0 : Int32)), .val (.int (12 : Int32)), .unset, .unset] [])) (fun _ k_ => castTop (ef_9_RII m a1 (0 : Int32) (12 : Int32)) k_) ?_
  refine own_k (T' := s₁) (g' := (mkF m 1 #[.val (.ref a1), .val (.int (0 : Int32)), .val (.int (12 : Int32)), .unset, .unset] [(.int (12 : Int32))])) (fun _ k_ => XS.iloadN X0.here hx rfl (hb hby d9_0) rfl  k_) ?_
  refine own_callS X0 hx hZ (y := (⟨"java/lang/StringUTF16", "newBytesFor", "(I)[B"⟩ : MethodName)) hown (hw _ (List.mem_of_getElem? (i := 44) rfl)) (hw _ (List.mem_of_getElem? (i := 45) rfl)) (hw _ (List.mem_of_getElem? (i := 24) rfl)) (hw _ (List.mem_of_getElem? (i := 46) rfl)) (by decide) (al := [(.int (12 : Int32))]) (rm_newBytesFor_1 l Z a0 g_COMPACT_STRINGS g_SIOOBE_FORMATTER hW h0 O0) 0 (by decide) (by decide) e0 (by decide) (by decide) (by rw [hml]; rfl) (lenOf pd__28I_29_5bB rfl) rfl (rest := []) (by show 2 * 0 + _ ≤ _; exact Nat.le_of_eq rfl) (hb hby d9_1) ?_
  intro v1 T1 L1 X1 hQ1
  obtain ⟨b1_0, k1_1, rfl, Nq1, K1, ge1_0, q1_0, q1_1⟩ := hQ1
  have N1 := Fr.app N0 Nq1
  have O1' := O0.keep K1 all0
  show own_Go p e below Φ T1 (mkF m 4 #[.val (.ref a1), .val (.int (0 : Int32)), .val (.int (12 : Int32)), .unset, .unset] [(.ref b1_0)])
  refine own_k (T' := T1) (g' := (mkF m 5 #[.val (.ref a1), .val (.int (0 : Int32)), .val (.int (12 : Int32)), .val (.ref b1_0), .unset] [])) (fun _ k_ => XS.astoreN X1.here hx rfl (hb hby d9_4) rfl rfl (l' := #[.val (.ref a1), .val (.int (0 : Int32)), .val (.int (12 : Int32)), .val (.ref b1_0), .unset]) rfl k_) ?_
  refine own_k (T' := T1) (g' := (mkF m 6 #[.val (.ref a1), .val (.int (0 : Int32)), .val (.int (12 : Int32)), .val (.ref b1_0), .unset] [(.int (0 : Int32))])) (fun _ k_ => XS.iconst X1.here hx rfl (hb hby d9_5) k_) ?_
  refine own_k (T' := T1) (g' := (mkF m 8 #[.val (.ref a1), .val (.int (0 : Int32)), .val (.int (12 : Int32)), .val (.ref b1_0), .val (.int (0 : Int32))] [])) (fun _ k_ => XS.istore X1.here hx rfl (hb hby d9_6) rfl (l' := #[.val (.ref a1), .val (.int (0 : Int32)), .val (.int (12 : Int32)), .val (.ref b1_0), .val (.int (0 : Int32))]) rfl k_) ?_
  refine own_k (T' := T1) (g' := (mkF m 10 #[.val (.ref a1), .val (.int (0 : Int32)), .val (.int (12 : Int32)), .val (.ref b1_0), .val (.int (0 : Int32))] [(.int (0 : Int32))])) (fun _ k_ => XS.iload X1.here hx rfl (hb hby d9_8) rfl  k_) ?_
  refine own_k (T' := T1) (g' := (mkF m 11 #[.val (.ref a1), .val (.int (0 : Int32)), .val (.int (12 : Int32)), .val (.ref b1_0), .val (.int (0 : Int32))] [(.int (12 : Int32)), (.int (0 : Int32))])) (fun _ k_ => XS.iloadN X1.here hx rfl (hb hby d9_10) rfl  k_) ?_
  refine own_k (T' := T1) (g' := (mkF m 14 #[.val (.ref a1), .val (.int (0 : Int32)), .val (.int (12 : Int32)), .val (.ref b1_0), .val (.int (0 : Int32))] [])) (fun _ k_ => XS.icmpNo X1.here hx rfl (hb hby d9_11) rfl ((tlt (by decide : ((0 : Int32) < (12 : Int32)))).2.1) k_) ?_
  refine own_k (T' := T1) (g' := (mkF m 15 #[.val (.ref a1), .val (.int (0 : Int32)), .val (.int (12 : Int32)), .val (.ref b1_0), .val (.int (0 : Int32))] [(.ref b1_0)])) (fun _ k_ => XS.aloadN X1.here hx rfl (hb hby d9_14) rfl rfl  k_) ?_
  refine own_k (T' := T1) (g' := (mkF m 17 #[.val (.ref a1), .val (.int (0 : Int32)), .val (.int (12 : Int32)), .val (.ref b1_0), .val (.int (0 : Int32))] [(.int (0 : Int32)), (.ref b1_0)])) (fun _ k_ => XS.iload X1.here hx rfl (hb hby d9_15) rfl  k_) ?_
  refine own_k (T' := T1) (g' := (mkF m 18 #[.val (.ref a1), .val (.int (0 : Int32)), .val (.int (12 : Int32)), .val (.ref b1_0), .val (.int (0 : Int32))] [(.ref a1), (.int (0 : Int32)), (.ref b1_0)])) (fun _ k_ => XS.aloadN X1.here hx rfl (hb hby d9_17) rfl rfl  k_) ?_
  refine own_k (T' := T1) (g' := (mkF m 19 #[.val (.ref a1), .val (.int (0 : Int32)), .val (.int (12 : Int32)), .val (.ref b1_0), .val (.int (0 : Int32))] [(.int (0 : Int32)), (.ref a1), (.int (0 : Int32)), (.ref b1_0)])) (fun _ k_ => XS.iloadN X1.here hx rfl (hb hby d9_18) rfl  k_) ?_
  refine own_caload X1 hx hZ rfl (h_1.keep K1 nin0) (j := (0 : Int32)) ⟨by decide, by decide⟩ (v := (.int i3)) rfl (hb hby d9_19) ?_
  show own_Go p e below Φ T1 (mkF m 20 #[.val (.ref a1), .val (.int (0 : Int32)), .val (.int (12 : Int32)), .val (.ref b1_0), .val (.int (0 : Int32))] [(.int i3), (.int (0 : Int32)), (.ref b1_0)])
  refine own_callS X1 hx hZ (y := (⟨"java/lang/StringUTF16", "putChar", "([BII)V"⟩ : MethodName)) hown (hw _ (List.mem_of_getElem? (i := 51) rfl)) (hw _ (List.mem_of_getElem? (i := 52) rfl)) (hw _ (List.mem_of_getElem? (i := 24) rfl)) (hw _ (List.mem_of_getElem? (i := 53) rfl)) (by decide) (al := [(.ref b1_0), (.int (0 : Int32)), (.int i3)]) (rm_putChar_2 l Z a0 g_COMPACT_STRINGS g_SIOOBE_FORMATTER hW b1_0 i3 k1_1 T1.heap O1' q1_0 (Nat.le_trans O0.2.1 ge1_0) q1_1) 0 (by decide) (by decide) rfl (by decide) (by decide) (by rw [hml]; rfl) (lenOf pd__28_5bBII_29V rfl) rfl (rest := []) (by show 2 * 0 + _ ≤ _; exact Nat.le_of_eq rfl) (hb hby d9_20) ?_
  intro v2 T2 L2 X2 hQ2
  obtain ⟨rfl, Nq2, K2, q2_0, q2_1⟩ := hQ2
  have N2 := Fr.app N1 Nq2
  have O2' := O1'.keep K2 (allS (Nat.le_trans O0.2.1 ge1_0) all0)
  show own_Go p e below Φ T2 (mkF m 23 #[.val (.ref a1), .val (.int (0 : Int32)), .val (.int (12 : Int32)), .val (.ref b1_0), .val (.int (0 : Int32))] [])
  refine own_k (T' := T2) (g' := (mkF m 26 #[.val (.ref a1), .val (.int ((0 : Int32) + (1 : Int32))), .val (.int (12 : Int32)), .val (.ref b1_0), .val (.int (0 : Int32))] [])) (fun _ k_ => XS.iinc X2.here hx rfl (hb hby d9_23) rfl (l' := #[.val (.ref a1), .val (.int ((0 : Int32) + (1 : Int32))), .val (.int (12 : Int32)), .val (.ref b1_0), .val (.int (0 : Int32))]) rfl k_) ?_
  rw [show ((0 : Int32) + (1 : Int32)) = (1 : Int32) from by decide]
  refine own_k (T' := T2) (g' := (mkF m 29 #[.val (.ref a1), .val (.int (1 : Int32)), .val (.int (12 : Int32)), .val (.ref b1_0), .val (.int ((0 : Int32) + (1 : Int32)))] [])) (fun _ k_ => XS.iinc X2.here hx rfl (hb hby d9_26) rfl (l' := #[.val (.ref a1), .val (.int (1 : Int32)), .val (.int (12 : Int32)), .val (.ref b1_0), .val (.int ((0 : Int32) + (1 : Int32)))]) rfl k_) ?_
  rw [show ((0 : Int32) + (1 : Int32)) = (1 : Int32) from by decide]
  refine own_k (T' := T2) (g' := (mkF m 8 #[.val (.ref a1), .val (.int (1 : Int32)), .val (.int (12 : Int32)), .val (.ref b1_0), .val (.int (1 : Int32))] [])) (fun _ k_ => XS.goto X2.here hx rfl (pc0 := 29) (pc' := 8) rfl (hb hby d9_29) (by decide) (by decide) k_) ?_
  refine own_k (T' := T2) (g' := (mkF m 10 #[.val (.ref a1), .val (.int (1 : Int32)), .val (.int (12 : Int32)), .val (.ref b1_0), .val (.int (1 : Int32))] [(.int (1 : Int32))])) (fun _ k_ => XS.iload X2.here hx rfl (hb hby d9_8) rfl  k_) ?_
  refine own_k (T' := T2) (g' := (mkF m 11 #[.val (.ref a1), .val (.int (1 : Int32)), .val (.int (12 : Int32)), .val (.ref b1_0), .val (.int (1 : Int32))] [(.int (12 : Int32)), (.int (1 : Int32))])) (fun _ k_ => XS.iloadN X2.here hx rfl (hb hby d9_10) rfl  k_) ?_
  refine own_k (T' := T2) (g' := (mkF m 14 #[.val (.ref a1), .val (.int (1 : Int32)), .val (.int (12 : Int32)), .val (.ref b1_0), .val (.int (1 : Int32))] [])) (fun _ k_ => XS.icmpNo X2.here hx rfl (hb hby d9_11) rfl ((tlt (by decide : ((1 : Int32) < (12 : Int32)))).2.1) k_) ?_
  refine own_k (T' := T2) (g' := (mkF m 15 #[.val (.ref a1), .val (.int (1 : Int32)), .val (.int (12 : Int32)), .val (.ref b1_0), .val (.int (1 : Int32))] [(.ref b1_0)])) (fun _ k_ => XS.aloadN X2.here hx rfl (hb hby d9_14) rfl rfl  k_) ?_
  refine own_k (T' := T2) (g' := (mkF m 17 #[.val (.ref a1), .val (.int (1 : Int32)), .val (.int (12 : Int32)), .val (.ref b1_0), .val (.int (1 : Int32))] [(.int (1 : Int32)), (.ref b1_0)])) (fun _ k_ => XS.iload X2.here hx rfl (hb hby d9_15) rfl  k_) ?_
  refine own_k (T' := T2) (g' := (mkF m 18 #[.val (.ref a1), .val (.int (1 : Int32)), .val (.int (12 : Int32)), .val (.ref b1_0), .val (.int (1 : Int32))] [(.ref a1), (.int (1 : Int32)), (.ref b1_0)])) (fun _ k_ => XS.aloadN X2.here hx rfl (hb hby d9_17) rfl rfl  k_) ?_
  refine own_k (T' := T2) (g' := (mkF m 19 #[.val (.ref a1), .val (.int (1 : Int32)), .val (.int (12 : Int32)), .val (.ref b1_0), .val (.int (1 : Int32))] [(.int (1 : Int32)), (.ref a1), (.int (1 : Int32)), (.ref b1_0)])) (fun _ k_ => XS.iloadN X2.here hx rfl (hb hby d9_18) rfl  k_) ?_
  have f3 := ((h_1.keep K1 nin0).keep K2 (ninS (Nat.ne_of_lt (Nat.lt_of_lt_of_le h_1.lt ge1_0)) nin0))
  refine own_caload X2 hx hZ rfl f3 (j := (1 : Int32)) ⟨by decide, by decide⟩ (v := (.int i4)) rfl (hb hby d9_19) ?_
  show own_Go p e below Φ T2 (mkF m 20 #[.val (.ref a1), .val (.int (1 : Int32)), .val (.int (12 : Int32)), .val (.ref b1_0), .val (.int (1 : Int32))] [(.int i4), (.int (1 : Int32)), (.ref b1_0)])
  refine own_callS X2 hx hZ (y := (⟨"java/lang/StringUTF16", "putChar", "([BII)V"⟩ : MethodName)) hown (hw _ (List.mem_of_getElem? (i := 51) rfl)) (hw _ (List.mem_of_getElem? (i := 52) rfl)) (hw _ (List.mem_of_getElem? (i := 24) rfl)) (hw _ (List.mem_of_getElem? (i := 53) rfl)) (by decide) (al := [(.ref b1_0), (.int (1 : Int32)), (.int i4)]) (rm_putChar_3 l Z a0 g_COMPACT_STRINGS g_SIOOBE_FORMATTER hW b1_0 i4 k1_1 ((i3 >>> ((0 : Int32) &&& 31)).toInt8.toInt32) ((i3 >>> ((8 : Int32) &&& 31)).toInt8.toInt32) T2.heap O2' q2_0 (Nat.le_trans O0.2.1 ge1_0) q2_1) 0 (by decide) (by decide) rfl (by decide) (by decide) (by rw [hml]; rfl) (lenOf pd__28_5bBII_29V rfl) rfl (rest := []) (by show 2 * 0 + _ ≤ _; exact Nat.le_of_eq rfl) (hb hby d9_20) ?_
  intro v4 T4 L4 X4 hQ4
  obtain ⟨rfl, Nq4, K4, q4_0, q4_1⟩ := hQ4
  have N4 := Fr.app N2 Nq4
  have O4' := O2'.keep K4 (allS (Nat.le_trans O0.2.1 ge1_0) all0)
  show own_Go p e below Φ T4 (mkF m 23 #[.val (.ref a1), .val (.int (1 : Int32)), .val (.int (12 : Int32)), .val (.ref b1_0), .val (.int (1 : Int32))] [])
  refine own_k (T' := T4) (g' := (mkF m 26 #[.val (.ref a1), .val (.int ((1 : Int32) + (1 : Int32))), .val (.int (12 : Int32)), .val (.ref b1_0), .val (.int (1 : Int32))] [])) (fun _ k_ => XS.iinc X4.here hx rfl (hb hby d9_23) rfl (l' := #[.val (.ref a1), .val (.int ((1 : Int32) + (1 : Int32))), .val (.int (12 : Int32)), .val (.ref b1_0), .val (.int (1 : Int32))]) rfl k_) ?_
  rw [show ((1 : Int32) + (1 : Int32)) = (2 : Int32) from by decide]
  refine own_k (T' := T4) (g' := (mkF m 29 #[.val (.ref a1), .val (.int (2 : Int32)), .val (.int (12 : Int32)), .val (.ref b1_0), .val (.int ((1 : Int32) + (1 : Int32)))] [])) (fun _ k_ => XS.iinc X4.here hx rfl (hb hby d9_26) rfl (l' := #[.val (.ref a1), .val (.int (2 : Int32)), .val (.int (12 : Int32)), .val (.ref b1_0), .val (.int ((1 : Int32) + (1 : Int32)))]) rfl k_) ?_
  rw [show ((1 : Int32) + (1 : Int32)) = (2 : Int32) from by decide]
  refine own_k (T' := T4) (g' := (mkF m 8 #[.val (.ref a1), .val (.int (2 : Int32)), .val (.int (12 : Int32)), .val (.ref b1_0), .val (.int (2 : Int32))] [])) (fun _ k_ => XS.goto X4.here hx rfl (pc0 := 29) (pc' := 8) rfl (hb hby d9_29) (by decide) (by decide) k_) ?_
  refine own_k (T' := T4) (g' := (mkF m 10 #[.val (.ref a1), .val (.int (2 : Int32)), .val (.int (12 : Int32)), .val (.ref b1_0), .val (.int (2 : Int32))] [(.int (2 : Int32))])) (fun _ k_ => XS.iload X4.here hx rfl (hb hby d9_8) rfl  k_) ?_
  refine own_k (T' := T4) (g' := (mkF m 11 #[.val (.ref a1), .val (.int (2 : Int32)), .val (.int (12 : Int32)), .val (.ref b1_0), .val (.int (2 : Int32))] [(.int (12 : Int32)), (.int (2 : Int32))])) (fun _ k_ => XS.iloadN X4.here hx rfl (hb hby d9_10) rfl  k_) ?_
  refine own_k (T' := T4) (g' := (mkF m 14 #[.val (.ref a1), .val (.int (2 : Int32)), .val (.int (12 : Int32)), .val (.ref b1_0), .val (.int (2 : Int32))] [])) (fun _ k_ => XS.icmpNo X4.here hx rfl (hb hby d9_11) rfl ((tlt (by decide : ((2 : Int32) < (12 : Int32)))).2.1) k_) ?_
  refine own_k (T' := T4) (g' := (mkF m 15 #[.val (.ref a1), .val (.int (2 : Int32)), .val (.int (12 : Int32)), .val (.ref b1_0), .val (.int (2 : Int32))] [(.ref b1_0)])) (fun _ k_ => XS.aloadN X4.here hx rfl (hb hby d9_14) rfl rfl  k_) ?_
  refine own_k (T' := T4) (g' := (mkF m 17 #[.val (.ref a1), .val (.int (2 : Int32)), .val (.int (12 : Int32)), .val (.ref b1_0), .val (.int (2 : Int32))] [(.int (2 : Int32)), (.ref b1_0)])) (fun _ k_ => XS.iload X4.here hx rfl (hb hby d9_15) rfl  k_) ?_
  refine own_k (T' := T4) (g' := (mkF m 18 #[.val (.ref a1), .val (.int (2 : Int32)), .val (.int (12 : Int32)), .val (.ref b1_0), .val (.int (2 : Int32))] [(.ref a1), (.int (2 : Int32)), (.ref b1_0)])) (fun _ k_ => XS.aloadN X4.here hx rfl (hb hby d9_17) rfl rfl  k_) ?_
  refine own_k (T' := T4) (g' := (mkF m 19 #[.val (.ref a1), .val (.int (2 : Int32)), .val (.int (12 : Int32)), .val (.ref b1_0), .val (.int (2 : Int32))] [(.int (2 : Int32)), (.ref a1), (.int (2 : Int32)), (.ref b1_0)])) (fun _ k_ => XS.iloadN X4.here hx rfl (hb hby d9_18) rfl  k_) ?_
  have f5 := (f3.keep K4 (ninS (Nat.ne_of_lt (Nat.lt_of_lt_of_le h_1.lt ge1_0)) nin0))
  refine own_caload X4 hx hZ rfl f5 (j := (2 : Int32)) ⟨by decide, by decide⟩ (v := (.int i5)) rfl (hb hby d9_19) ?_
  show own_Go p e below Φ T4 (mkF m 20 #[.val (.ref a1), .val (.int (2 : Int32)), .val (.int (12 : Int32)), .val (.ref b1_0), .val (.int (2 : Int32))] [(.int i5), (.int (2 : Int32)), (.ref b1_0)])
  refine own_callS X4 hx hZ (y := (⟨"java/lang/StringUTF16", "putChar", "([BII)V"⟩ : MethodName)) hown (hw _ (List.mem_of_getElem? (i := 51) rfl)) (hw _ (List.mem_of_getElem? (i := 52) rfl)) (hw _ (List.mem_of_getElem? (i := 24) rfl)) (hw _ (List.mem_of_getElem? (i := 53) rfl)) (by decide) (al := [(.ref b1_0), (.int (2 : Int32)), (.int i5)]) (rm_putChar_4 l Z a0 g_COMPACT_STRINGS g_SIOOBE_FORMATTER hW b1_0 i5 k1_1 ((i3 >>> ((0 : Int32) &&& 31)).toInt8.toInt32) ((i3 >>> ((8 : Int32) &&& 31)).toInt8.toInt32) ((i4 >>> ((0 : Int32) &&& 31)).toInt8.toInt32) ((i4 >>> ((8 : Int32) &&& 31)).toInt8.toInt32) T4.heap O4' q4_0 (Nat.le_trans O0.2.1 ge1_0) q4_1) 0 (by decide) (by decide) rfl (by decide) (by decide) (by rw [hml]; rfl) (lenOf pd__28_5bBII_29V rfl) rfl (rest := []) (by show 2 * 0 + _ ≤ _; exact Nat.le_of_eq rfl) (hb hby d9_20) ?_
  intro v6 T6 L6 X6 hQ6
  obtain ⟨rfl, Nq6, K6, q6_0, q6_1⟩ := hQ6
  have N6 := Fr.app N4 Nq6
  have O6' := O4'.keep K6 (allS (Nat.le_trans O0.2.1 ge1_0) all0)
  show own_Go p e below Φ T6 (mkF m 23 #[.val (.ref a1), .val (.int (2 : Int32)), .val (.int (12 : Int32)), .val (.ref b1_0), .val (.int (2 : Int32))] [])
  refine own_k (T' := T6) (g' := (mkF m 26 #[.val (.ref a1), .val (.int ((2 : Int32) + (1 : Int32))), .val (.int (12 : Int32)), .val (.ref b1_0), .val (.int (2 : Int32))] [])) (fun _ k_ => XS.iinc X6.here hx rfl (hb hby d9_23) rfl (l' := #[.val (.ref a1), .val (.int ((2 : Int32) + (1 : Int32))), .val (.int (12 : Int32)), .val (.ref b1_0), .val (.int (2 : Int32))]) rfl k_) ?_
  rw [show ((2 : Int32) + (1 : Int32)) = (3 : Int32) from by decide]
  refine own_k (T' := T6) (g' := (mkF m 29 #[.val (.ref a1), .val (.int (3 : Int32)), .val (.int (12 : Int32)), .val (.ref b1_0), .val (.int ((2 : Int32) + (1 : Int32)))] [])) (fun _ k_ => XS.iinc X6.here hx rfl (hb hby d9_26) rfl (l' := #[.val (.ref a1), .val (.int (3 : Int32)), .val (.int (12 : Int32)), .val (.ref b1_0), .val (.int ((2 : Int32) + (1 : Int32)))]) rfl k_) ?_
  rw [show ((2 : Int32) + (1 : Int32)) = (3 : Int32) from by decide]
  refine own_k (T' := T6) (g' := (mkF m 8 #[.val (.ref a1), .val (.int (3 : Int32)), .val (.int (12 : Int32)), .val (.ref b1_0), .val (.int (3 : Int32))] [])) (fun _ k_ => XS.goto X6.here hx rfl (pc0 := 29) (pc' := 8) rfl (hb hby d9_29) (by decide) (by decide) k_) ?_
  refine own_k (T' := T6) (g' := (mkF m 10 #[.val (.ref a1), .val (.int (3 : Int32)), .val (.int (12 : Int32)), .val (.ref b1_0), .val (.int (3 : Int32))] [(.int (3 : Int32))])) (fun _ k_ => XS.iload X6.here hx rfl (hb hby d9_8) rfl  k_) ?_
  refine own_k (T' := T6) (g' := (mkF m 11 #[.val (.ref a1), .val (.int (3 : Int32)), .val (.int (12 : Int32)), .val (.ref b1_0), .val (.int (3 : Int32))] [(.int (12 : Int32)), (.int (3 : Int32))])) (fun _ k_ => XS.iloadN X6.here hx rfl (hb hby d9_10) rfl  k_) ?_
  refine own_k (T' := T6) (g' := (mkF m 14 #[.val (.ref a1), .val (.int (3 : Int32)), .val (.int (12 : Int32)), .val (.ref b1_0), .val (.int (3 : Int32))] [])) (fun _ k_ => XS.icmpNo X6.here hx rfl (hb hby d9_11) rfl ((tlt (by decide : ((3 : Int32) < (12 : Int32)))).2.1) k_) ?_
  refine own_k (T' := T6) (g' := (mkF m 15 #[.val (.ref a1), .val (.int (3 : Int32)), .val (.int (12 : Int32)), .val (.ref b1_0), .val (.int (3 : Int32))] [(.ref b1_0)])) (fun _ k_ => XS.aloadN X6.here hx rfl (hb hby d9_14) rfl rfl  k_) ?_
  refine own_k (T' := T6) (g' := (mkF m 17 #[.val (.ref a1), .val (.int (3 : Int32)), .val (.int (12 : Int32)), .val (.ref b1_0), .val (.int (3 : Int32))] [(.int (3 : Int32)), (.ref b1_0)])) (fun _ k_ => XS.iload X6.here hx rfl (hb hby d9_15) rfl  k_) ?_
  refine own_k (T' := T6) (g' := (mkF m 18 #[.val (.ref a1), .val (.int (3 : Int32)), .val (.int (12 : Int32)), .val (.ref b1_0), .val (.int (3 : Int32))] [(.ref a1), (.int (3 : Int32)), (.ref b1_0)])) (fun _ k_ => XS.aloadN X6.here hx rfl (hb hby d9_17) rfl rfl  k_) ?_
  refine own_k (T' := T6) (g' := (mkF m 19 #[.val (.ref a1), .val (.int (3 : Int32)), .val (.int (12 : Int32)), .val (.ref b1_0), .val (.int (3 : Int32))] [(.int (3 : Int32)), (.ref a1), (.int (3 : Int32)), (.ref b1_0)])) (fun _ k_ => XS.iloadN X6.here hx rfl (hb hby d9_18) rfl  k_) ?_
  have f7 := (f5.keep K6 (ninS (Nat.ne_of_lt (Nat.lt_of_lt_of_le h_1.lt ge1_0)) nin0))
  refine own_caload X6 hx hZ rfl f7 (j := (3 : Int32)) ⟨by decide, by decide⟩ (v := (.int i6)) rfl (hb hby d9_19) ?_
  show own_Go p e below Φ T6 (mkF m 20 #[.val (.ref a1), .val (.int (3 : Int32)), .val (.int (12 : Int32)), .val (.ref b1_0), .val (.int (3 : Int32))] [(.int i6), (.int (3 : Int32)), (.ref b1_0)])
  refine own_callS X6 hx hZ (y := (⟨"java/lang/StringUTF16", "putChar", "([BII)V"⟩ : MethodName)) hown (hw _ (List.mem_of_getElem? (i := 51) rfl)) (hw _ (List.mem_of_getElem? (i := 52) rfl)) (hw _ (List.mem_of_getElem? (i := 24) rfl)) (hw _ (List.mem_of_getElem? (i := 53) rfl)) (by decide) (al := [(.ref b1_0), (.int (3 : Int32)), (.int i6)]) (rm_putChar_5 l Z a0 g_COMPACT_STRINGS g_SIOOBE_FORMATTER hW b1_0 i6 k1_1 ((i3 >>> ((0 : Int32) &&& 31)).toInt8.toInt32) ((i3 >>> ((8 : Int32) &&& 31)).toInt8.toInt32) ((i4 >>> ((0 : Int32) &&& 31)).toInt8.toInt32) ((i4 >>> ((8 : Int32) &&& 31)).toInt8.toInt32) ((i5 >>> ((0 : Int32) &&& 31)).toInt8.toInt32) ((i5 >>> ((8 : Int32) &&& 31)).toInt8.toInt32) T6.heap O6' q6_0 (Nat.le_trans O0.2.1 ge1_0) q6_1) 0 (by decide) (by decide) rfl (by decide) (by decide) (by rw [hml]; rfl) (lenOf pd__28_5bBII_29V rfl) rfl (rest := []) (by show 2 * 0 + _ ≤ _; exact Nat.le_of_eq rfl) (hb hby d9_20) ?_
  intro v8 T8 L8 X8 hQ8
  obtain ⟨rfl, Nq8, K8, q8_0, q8_1⟩ := hQ8
  have N8 := Fr.app N6 Nq8
  have O8' := O6'.keep K8 (allS (Nat.le_trans O0.2.1 ge1_0) all0)
  show own_Go p e below Φ T8 (mkF m 23 #[.val (.ref a1), .val (.int (3 : Int32)), .val (.int (12 : Int32)), .val (.ref b1_0), .val (.int (3 : Int32))] [])
  refine own_k (T' := T8) (g' := (mkF m 26 #[.val (.ref a1), .val (.int ((3 : Int32) + (1 : Int32))), .val (.int (12 : Int32)), .val (.ref b1_0), .val (.int (3 : Int32))] [])) (fun _ k_ => XS.iinc X8.here hx rfl (hb hby d9_23) rfl (l' := #[.val (.ref a1), .val (.int ((3 : Int32) + (1 : Int32))), .val (.int (12 : Int32)), .val (.ref b1_0), .val (.int (3 : Int32))]) rfl k_) ?_
  rw [show ((3 : Int32) + (1 : Int32)) = (4 : Int32) from by decide]
  refine own_k (T' := T8) (g' := (mkF m 29 #[.val (.ref a1), .val (.int (4 : Int32)), .val (.int (12 : Int32)), .val (.ref b1_0), .val (.int ((3 : Int32) + (1 : Int32)))] [])) (fun _ k_ => XS.iinc X8.here hx rfl (hb hby d9_26) rfl (l' := #[.val (.ref a1), .val (.int (4 : Int32)), .val (.int (12 : Int32)), .val (.ref b1_0), .val (.int ((3 : Int32) + (1 : Int32)))]) rfl k_) ?_
  rw [show ((3 : Int32) + (1 : Int32)) = (4 : Int32) from by decide]
  refine own_k (T' := T8) (g' := (mkF m 8 #[.val (.ref a1), .val (.int (4 : Int32)), .val (.int (12 : Int32)), .val (.ref b1_0), .val (.int (4 : Int32))] [])) (fun _ k_ => XS.goto X8.here hx rfl (pc0 := 29) (pc' := 8) rfl (hb hby d9_29) (by decide) (by decide) k_) ?_
  refine own_k (T' := T8) (g' := (mkF m 10 #[.val (.ref a1), .val (.int (4 : Int32)), .val (.int (12 : Int32)), .val (.ref b1_0), .val (.int (4 : Int32))] [(.int (4 : Int32))])) (fun _ k_ => XS.iload X8.here hx rfl (hb hby d9_8) rfl  k_) ?_
  refine own_k (T' := T8) (g' := (mkF m 11 #[.val (.ref a1), .val (.int (4 : Int32)), .val (.int (12 : Int32)), .val (.ref b1_0), .val (.int (4 : Int32))] [(.int (12 : Int32)), (.int (4 : Int32))])) (fun _ k_ => XS.iloadN X8.here hx rfl (hb hby d9_10) rfl  k_) ?_
  refine own_k (T' := T8) (g' := (mkF m 14 #[.val (.ref a1), .val (.int (4 : Int32)), .val (.int (12 : Int32)), .val (.ref b1_0), .val (.int (4 : Int32))] [])) (fun _ k_ => XS.icmpNo X8.here hx rfl (hb hby d9_11) rfl ((tlt (by decide : ((4 : Int32) < (12 : Int32)))).2.1) k_) ?_
  refine own_k (T' := T8) (g' := (mkF m 15 #[.val (.ref a1), .val (.int (4 : Int32)), .val (.int (12 : Int32)), .val (.ref b1_0), .val (.int (4 : Int32))] [(.ref b1_0)])) (fun _ k_ => XS.aloadN X8.here hx rfl (hb hby d9_14) rfl rfl  k_) ?_
  refine own_k (T' := T8) (g' := (mkF m 17 #[.val (.ref a1), .val (.int (4 : Int32)), .val (.int (12 : Int32)), .val (.ref b1_0), .val (.int (4 : Int32))] [(.int (4 : Int32)), (.ref b1_0)])) (fun _ k_ => XS.iload X8.here hx rfl (hb hby d9_15) rfl  k_) ?_
  refine own_k (T' := T8) (g' := (mkF m 18 #[.val (.ref a1), .val (.int (4 : Int32)), .val (.int (12 : Int32)), .val (.ref b1_0), .val (.int (4 : Int32))] [(.ref a1), (.int (4 : Int32)), (.ref b1_0)])) (fun _ k_ => XS.aloadN X8.here hx rfl (hb hby d9_17) rfl rfl  k_) ?_
  refine own_k (T' := T8) (g' := (mkF m 19 #[.val (.ref a1), .val (.int (4 : Int32)), .val (.int (12 : Int32)), .val (.ref b1_0), .val (.int (4 : Int32))] [(.int (4 : Int32)), (.ref a1), (.int (4 : Int32)), (.ref b1_0)])) (fun _ k_ => XS.iloadN X8.here hx rfl (hb hby d9_18) rfl  k_) ?_
  have f9 := (f7.keep K8 (ninS (Nat.ne_of_lt (Nat.lt_of_lt_of_le h_1.lt ge1_0)) nin0))
  refine own_caload X8 hx hZ rfl f9 (j := (4 : Int32)) ⟨by decide, by decide⟩ (v := (.int i7)) rfl (hb hby d9_19) ?_
  show own_Go p e below Φ T8 (mkF m 20 #[.val (.ref a1), .val (.int (4 : Int32)), .val (.int (12 : Int32)), .val (.ref b1_0), .val (.int (4 : Int32))] [(.int i7), (.int (4 : Int32)), (.ref b1_0)])
  refine own_callS X8 hx hZ (y := (⟨"java/lang/StringUTF16", "putChar", "([BII)V"⟩ : MethodName)) hown (hw _ (List.mem_of_getElem? (i := 51) rfl)) (hw _ (List.mem_of_getElem? (i := 52) rfl)) (hw _ (List.mem_of_getElem? (i := 24) rfl)) (hw _ (List.mem_of_getElem? (i := 53) rfl)) (by decide) (al := [(.ref b1_0), (.int (4 : Int32)), (.int i7)]) (rm_putChar_6 l Z a0 g_COMPACT_STRINGS g_SIOOBE_FORMATTER hW b1_0 i7 k1_1 ((i3 >>> ((0 : Int32) &&& 31)).toInt8.toInt32) ((i3 >>> ((8 : Int32) &&& 31)).toInt8.toInt32) ((i4 >>> ((0 : Int32) &&& 31)).toInt8.toInt32) ((i4 >>> ((8 : Int32) &&& 31)).toInt8.toInt32) ((i5 >>> ((0 : Int32) &&& 31)).toInt8.toInt32) ((i5 >>> ((8 : Int32) &&& 31)).toInt8.toInt32) ((i6 >>> ((0 : Int32) &&& 31)).toInt8.toInt32) ((i6 >>> ((8 : Int32) &&& 31)).toInt8.toInt32) T8.heap O8' q8_0 (Nat.le_trans O0.2.1 ge1_0) q8_1) 0 (by decide) (by decide) rfl (by decide) (by decide) (by rw [hml]; rfl) (lenOf pd__28_5bBII_29V rfl) rfl (rest := []) (by show 2 * 0 + _ ≤ _; exact Nat.le_of_eq rfl) (hb hby d9_20) ?_
  intro v10 T10 L10 X10 hQ10
  obtain ⟨rfl, Nq10, K10, q10_0, q10_1⟩ := hQ10
  have N10 := Fr.app N8 Nq10
  have O10' := O8'.keep K10 (allS (Nat.le_trans O0.2.1 ge1_0) all0)
  show own_Go p e below Φ T10 (mkF m 23 #[.val (.ref a1), .val (.int (4 : Int32)), .val (.int (12 : Int32)), .val (.ref b1_0), .val (.int (4 : Int32))] [])
  refine own_k (T' := T10) (g' := (mkF m 26 #[.val (.ref a1), .val (.int ((4 : Int32) + (1 : Int32))), .val (.int (12 : Int32)), .val (.ref b1_0), .val (.int (4 : Int32))] [])) (fun _ k_ => XS.iinc X10.here hx rfl (hb hby d9_23) rfl (l' := #[.val (.ref a1), .val (.int ((4 : Int32) + (1 : Int32))), .val (.int (12 : Int32)), .val (.ref b1_0), .val (.int (4 : Int32))]) rfl k_) ?_
  rw [show ((4 : Int32) + (1 : Int32)) = (5 : Int32) from by decide]
  refine own_k (T' := T10) (g' := (mkF m 29 #[.val (.ref a1), .val (.int (5 : Int32)), .val (.int (12 : Int32)), .val (.ref b1_0), .val (.int ((4 : Int32) + (1 : Int32)))] [])) (fun _ k_ => XS.iinc X10.here hx rfl (hb hby d9_26) rfl (l' := #[.val (.ref a1), .val (.int (5 : Int32)), .val (.int (12 : Int32)), .val (.ref b1_0), .val (.int ((4 : Int32) + (1 : Int32)))]) rfl k_) ?_
  rw [show ((4 : Int32) + (1 : Int32)) = (5 : Int32) from by decide]
  refine own_k (T' := T10) (g' := (mkF m 8 #[.val (.ref a1), .val (.int (5 : Int32)), .val (.int (12 : Int32)), .val (.ref b1_0), .val (.int (5 : Int32))] [])) (fun _ k_ => XS.goto X10.here hx rfl (pc0 := 29) (pc' := 8) rfl (hb hby d9_29) (by decide) (by decide) k_) ?_
  refine own_k (T' := T10) (g' := (mkF m 10 #[.val (.ref a1), .val (.int (5 : Int32)), .val (.int (12 : Int32)), .val (.ref b1_0), .val (.int (5 : Int32))] [(.int (5 : Int32))])) (fun _ k_ => XS.iload X10.here hx rfl (hb hby d9_8) rfl  k_) ?_
  refine own_k (T' := T10) (g' := (mkF m 11 #[.val (.ref a1), .val (.int (5 : Int32)), .val (.int (12 : Int32)), .val (.ref b1_0), .val (.int (5 : Int32))] [(.int (12 : Int32)), (.int (5 : Int32))])) (fun _ k_ => XS.iloadN X10.here hx rfl (hb hby d9_10) rfl  k_) ?_
  refine own_k (T' := T10) (g' := (mkF m 14 #[.val (.ref a1), .val (.int (5 : Int32)), .val (.int (12 : Int32)), .val (.ref b1_0), .val (.int (5 : Int32))] [])) (fun _ k_ => XS.icmpNo X10.here hx rfl (hb hby d9_11) rfl ((tlt (by decide : ((5 : Int32) < (12 : Int32)))).2.1) k_) ?_
  refine own_k (T' := T10) (g' := (mkF m 15 #[.val (.ref a1), .val (.int (5 : Int32)), .val (.int (12 : Int32)), .val (.ref b1_0), .val (.int (5 : Int32))] [(.ref b1_0)])) (fun _ k_ => XS.aloadN X10.here hx rfl (hb hby d9_14) rfl rfl  k_) ?_
  refine own_k (T' := T10) (g' := (mkF m 17 #[.val (.ref a1), .val (.int (5 : Int32)), .val (.int (12 : Int32)), .val (.ref b1_0), .val (.int (5 : Int32))] [(.int (5 : Int32)), (.ref b1_0)])) (fun _ k_ => XS.iload X10.here hx rfl (hb hby d9_15) rfl  k_) ?_
  refine own_k (T' := T10) (g' := (mkF m 18 #[.val (.ref a1), .val (.int (5 : Int32)), .val (.int (12 : Int32)), .val (.ref b1_0), .val (.int (5 : Int32))] [(.ref a1), (.int (5 : Int32)), (.ref b1_0)])) (fun _ k_ => XS.aloadN X10.here hx rfl (hb hby d9_17) rfl rfl  k_) ?_
  refine own_k (T' := T10) (g' := (mkF m 19 #[.val (.ref a1), .val (.int (5 : Int32)), .val (.int (12 : Int32)), .val (.ref b1_0), .val (.int (5 : Int32))] [(.int (5 : Int32)), (.ref a1), (.int (5 : Int32)), (.ref b1_0)])) (fun _ k_ => XS.iloadN X10.here hx rfl (hb hby d9_18) rfl  k_) ?_
  have f11 := (f9.keep K10 (ninS (Nat.ne_of_lt (Nat.lt_of_lt_of_le h_1.lt ge1_0)) nin0))
  refine own_caload X10 hx hZ rfl f11 (j := (5 : Int32)) ⟨by decide, by decide⟩ (v := (.int i8)) rfl (hb hby d9_19) ?_
  show own_Go p e below Φ T10 (mkF m 20 #[.val (.ref a1), .val (.int (5 : Int32)), .val (.int (12 : Int32)), .val (.ref b1_0), .val (.int (5 : Int32))] [(.int i8), (.int (5 : Int32)), (.ref b1_0)])
  refine own_callS X10 hx hZ (y := (⟨"java/lang/StringUTF16", "putChar", "([BII)V"⟩ : MethodName)) hown (hw _ (List.mem_of_getElem? (i := 51) rfl)) (hw _ (List.mem_of_getElem? (i := 52) rfl)) (hw _ (List.mem_of_getElem? (i := 24) rfl)) (hw _ (List.mem_of_getElem? (i := 53) rfl)) (by decide) (al := [(.ref b1_0), (.int (5 : Int32)), (.int i8)]) (rm_putChar_7 l Z a0 g_COMPACT_STRINGS g_SIOOBE_FORMATTER hW b1_0 i8 k1_1 ((i3 >>> ((0 : Int32) &&& 31)).toInt8.toInt32) ((i3 >>> ((8 : Int32) &&& 31)).toInt8.toInt32) ((i4 >>> ((0 : Int32) &&& 31)).toInt8.toInt32) ((i4 >>> ((8 : Int32) &&& 31)).toInt8.toInt32) ((i5 >>> ((0 : Int32) &&& 31)).toInt8.toInt32) ((i5 >>> ((8 : Int32) &&& 31)).toInt8.toInt32) ((i6 >>> ((0 : Int32) &&& 31)).toInt8.toInt32) ((i6 >>> ((8 : Int32) &&& 31)).toInt8.toInt32) ((i7 >>> ((0 : Int32) &&& 31)).toInt8.toInt32) ((i7 >>> ((8 : Int32) &&& 31)).toInt8.toInt32) T10.heap O10' q10_0 (Nat.le_trans O0.2.1 ge1_0) q10_1) 0 (by decide) (by decide) rfl (by decide) (by decide) (by rw [hml]; rfl) (lenOf pd__28_5bBII_29V rfl) rfl (rest := []) (by show 2 * 0 + _ ≤ _; exact Nat.le_of_eq rfl) (hb hby d9_20) ?_
  intro v12 T12 L12 X12 hQ12
  obtain ⟨rfl, Nq12, K12, q12_0, q12_1⟩ := hQ12
  have N12 := Fr.app N10 Nq12
  have O12' := O10'.keep K12 (allS (Nat.le_trans O0.2.1 ge1_0) all0)
  show own_Go p e below Φ T12 (mkF m 23 #[.val (.ref a1), .val (.int (5 : Int32)), .val (.int (12 : Int32)), .val (.ref b1_0), .val (.int (5 : Int32))] [])
  refine own_k (T' := T12) (g' := (mkF m 26 #[.val (.ref a1), .val (.int ((5 : Int32) + (1 : Int32))), .val (.int (12 : Int32)), .val (.ref b1_0), .val (.int (5 : Int32))] [])) (fun _ k_ => XS.iinc X12.here hx rfl (hb hby d9_23) rfl (l' := #[.val (.ref a1), .val (.int ((5 : Int32) + (1 : Int32))), .val (.int (12 : Int32)), .val (.ref b1_0), .val (.int (5 : Int32))]) rfl k_) ?_
  rw [show ((5 : Int32) + (1 : Int32)) = (6 : Int32) from by decide]
  refine own_k (T' := T12) (g' := (mkF m 29 #[.val (.ref a1), .val (.int (6 : Int32)), .val (.int (12 : Int32)), .val (.ref b1_0), .val (.int ((5 : Int32) + (1 : Int32)))] [])) (fun _ k_ => XS.iinc X12.here hx rfl (hb hby d9_26) rfl (l' := #[.val (.ref a1), .val (.int (6 : Int32)), .val (.int (12 : Int32)), .val (.ref b1_0), .val (.int ((5 : Int32) + (1 : Int32)))]) rfl k_) ?_
  rw [show ((5 : Int32) + (1 : Int32)) = (6 : Int32) from by decide]
  refine own_k (T' := T12) (g' := (mkF m 8 #[.val (.ref a1), .val (.int (6 : Int32)), .val (.int (12 : Int32)), .val (.ref b1_0), .val (.int (6 : Int32))] [])) (fun _ k_ => XS.goto X12.here hx rfl (pc0 := 29) (pc' := 8) rfl (hb hby d9_29) (by decide) (by decide) k_) ?_
  refine own_k (T' := T12) (g' := (mkF m 10 #[.val (.ref a1), .val (.int (6 : Int32)), .val (.int (12 : Int32)), .val (.ref b1_0), .val (.int (6 : Int32))] [(.int (6 : Int32))])) (fun _ k_ => XS.iload X12.here hx rfl (hb hby d9_8) rfl  k_) ?_
  refine own_k (T' := T12) (g' := (mkF m 11 #[.val (.ref a1), .val (.int (6 : Int32)), .val (.int (12 : Int32)), .val (.ref b1_0), .val (.int (6 : Int32))] [(.int (12 : Int32)), (.int (6 : Int32))])) (fun _ k_ => XS.iloadN X12.here hx rfl (hb hby d9_10) rfl  k_) ?_
  refine own_k (T' := T12) (g' := (mkF m 14 #[.val (.ref a1), .val (.int (6 : Int32)), .val (.int (12 : Int32)), .val (.ref b1_0), .val (.int (6 : Int32))] [])) (fun _ k_ => XS.icmpNo X12.here hx rfl (hb hby d9_11) rfl ((tlt (by decide : ((6 : Int32) < (12 : Int32)))).2.1) k_) ?_
  refine own_k (T' := T12) (g' := (mkF m 15 #[.val (.ref a1), .val (.int (6 : Int32)), .val (.int (12 : Int32)), .val (.ref b1_0), .val (.int (6 : Int32))] [(.ref b1_0)])) (fun _ k_ => XS.aloadN X12.here hx rfl (hb hby d9_14) rfl rfl  k_) ?_
  refine own_k (T' := T12) (g' := (mkF m 17 #[.val (.ref a1), .val (.int (6 : Int32)), .val (.int (12 : Int32)), .val (.ref b1_0), .val (.int (6 : Int32))] [(.int (6 : Int32)), (.ref b1_0)])) (fun _ k_ => XS.iload X12.here hx rfl (hb hby d9_15) rfl  k_) ?_
  refine own_k (T' := T12) (g' := (mkF m 18 #[.val (.ref a1), .val (.int (6 : Int32)), .val (.int (12 : Int32)), .val (.ref b1_0), .val (.int (6 : Int32))] [(.ref a1), (.int (6 : Int32)), (.ref b1_0)])) (fun _ k_ => XS.aloadN X12.here hx rfl (hb hby d9_17) rfl rfl  k_) ?_
  refine own_k (T' := T12) (g' := (mkF m 19 #[.val (.ref a1), .val (.int (6 : Int32)), .val (.int (12 : Int32)), .val (.ref b1_0), .val (.int (6 : Int32))] [(.int (6 : Int32)), (.ref a1), (.int (6 : Int32)), (.ref b1_0)])) (fun _ k_ => XS.iloadN X12.here hx rfl (hb hby d9_18) rfl  k_) ?_
  have f13 := (f11.keep K12 (ninS (Nat.ne_of_lt (Nat.lt_of_lt_of_le h_1.lt ge1_0)) nin0))
  refine own_caload X12 hx hZ rfl f13 (j := (6 : Int32)) ⟨by decide, by decide⟩ (v := (.int i9)) rfl (hb hby d9_19) ?_
  show own_Go p e below Φ T12 (mkF m 20 #[.val (.ref a1), .val (.int (6 : Int32)), .val (.int (12 : Int32)), .val (.ref b1_0), .val (.int (6 : Int32))] [(.int i9), (.int (6 : Int32)), (.ref b1_0)])
  refine own_callS X12 hx hZ (y := (⟨"java/lang/StringUTF16", "putChar", "([BII)V"⟩ : MethodName)) hown (hw _ (List.mem_of_getElem? (i := 51) rfl)) (hw _ (List.mem_of_getElem? (i := 52) rfl)) (hw _ (List.mem_of_getElem? (i := 24) rfl)) (hw _ (List.mem_of_getElem? (i := 53) rfl)) (by decide) (al := [(.ref b1_0), (.int (6 : Int32)), (.int i9)]) (rm_putChar_8 l Z a0 g_COMPACT_STRINGS g_SIOOBE_FORMATTER hW b1_0 i9 k1_1 ((i3 >>> ((0 : Int32) &&& 31)).toInt8.toInt32) ((i3 >>> ((8 : Int32) &&& 31)).toInt8.toInt32) ((i4 >>> ((0 : Int32) &&& 31)).toInt8.toInt32) ((i4 >>> ((8 : Int32) &&& 31)).toInt8.toInt32) ((i5 >>> ((0 : Int32) &&& 31)).toInt8.toInt32) ((i5 >>> ((8 : Int32) &&& 31)).toInt8.toInt32) ((i6 >>> ((0 : Int32) &&& 31)).toInt8.toInt32) ((i6 >>> ((8 : Int32) &&& 31)).toInt8.toInt32) ((i7 >>> ((0 : Int32) &&& 31)).toInt8.toInt32) ((i7 >>> ((8 : Int32) &&& 31)).toInt8.toInt32) ((i8 >>> ((0 : Int32) &&& 31)).toInt8.toInt32) ((i8 >>> ((8 : Int32) &&& 31)).toInt8.toInt32) T12.heap O12' q12_0 (Nat.le_trans O0.2.1 ge1_0) q12_1) 0 (by decide) (by decide) rfl (by decide) (by decide) (by rw [hml]; rfl) (lenOf pd__28_5bBII_29V rfl) rfl (rest := []) (by show 2 * 0 + _ ≤ _; exact Nat.le_of_eq rfl) (hb hby d9_20) ?_
  intro v14 T14 L14 X14 hQ14
  obtain ⟨rfl, Nq14, K14, q14_0, q14_1⟩ := hQ14
  have N14 := Fr.app N12 Nq14
  have O14' := O12'.keep K14 (allS (Nat.le_trans O0.2.1 ge1_0) all0)
  show own_Go p e below Φ T14 (mkF m 23 #[.val (.ref a1), .val (.int (6 : Int32)), .val (.int (12 : Int32)), .val (.ref b1_0), .val (.int (6 : Int32))] [])
  refine own_k (T' := T14) (g' := (mkF m 26 #[.val (.ref a1), .val (.int ((6 : Int32) + (1 : Int32))), .val (.int (12 : Int32)), .val (.ref b1_0), .val (.int (6 : Int32))] [])) (fun _ k_ => XS.iinc X14.here hx rfl (hb hby d9_23) rfl (l' := #[.val (.ref a1), .val (.int ((6 : Int32) + (1 : Int32))), .val (.int (12 : Int32)), .val (.ref b1_0), .val (.int (6 : Int32))]) rfl k_) ?_
  rw [show ((6 : Int32) + (1 : Int32)) = (7 : Int32) from by decide]
  refine own_k (T' := T14) (g' := (mkF m 29 #[.val (.ref a1), .val (.int (7 : Int32)), .val (.int (12 : Int32)), .val (.ref b1_0), .val (.int ((6 : Int32) + (1 : Int32)))] [])) (fun _ k_ => XS.iinc X14.here hx rfl (hb hby d9_26) rfl (l' := #[.val (.ref a1), .val (.int (7 : Int32)), .val (.int (12 : Int32)), .val (.ref b1_0), .val (.int ((6 : Int32) + (1 : Int32)))]) rfl k_) ?_
  rw [show ((6 : Int32) + (1 : Int32)) = (7 : Int32) from by decide]
  refine own_k (T' := T14) (g' := (mkF m 8 #[.val (.ref a1), .val (.int (7 : Int32)), .val (.int (12 : Int32)), .val (.ref b1_0), .val (.int (7 : Int32))] [])) (fun _ k_ => XS.goto X14.here hx rfl (pc0 := 29) (pc' := 8) rfl (hb hby d9_29) (by decide) (by decide) k_) ?_
  refine own_k (T' := T14) (g' := (mkF m 10 #[.val (.ref a1), .val (.int (7 : Int32)), .val (.int (12 : Int32)), .val (.ref b1_0), .val (.int (7 : Int32))] [(.int (7 : Int32))])) (fun _ k_ => XS.iload X14.here hx rfl (hb hby d9_8) rfl  k_) ?_
  refine own_k (T' := T14) (g' := (mkF m 11 #[.val (.ref a1), .val (.int (7 : Int32)), .val (.int (12 : Int32)), .val (.ref b1_0), .val (.int (7 : Int32))] [(.int (12 : Int32)), (.int (7 : Int32))])) (fun _ k_ => XS.iloadN X14.here hx rfl (hb hby d9_10) rfl  k_) ?_
  refine own_k (T' := T14) (g' := (mkF m 14 #[.val (.ref a1), .val (.int (7 : Int32)), .val (.int (12 : Int32)), .val (.ref b1_0), .val (.int (7 : Int32))] [])) (fun _ k_ => XS.icmpNo X14.here hx rfl (hb hby d9_11) rfl ((tlt (by decide : ((7 : Int32) < (12 : Int32)))).2.1) k_) ?_
  refine own_k (T' := T14) (g' := (mkF m 15 #[.val (.ref a1), .val (.int (7 : Int32)), .val (.int (12 : Int32)), .val (.ref b1_0), .val (.int (7 : Int32))] [(.ref b1_0)])) (fun _ k_ => XS.aloadN X14.here hx rfl (hb hby d9_14) rfl rfl  k_) ?_
  refine own_k (T' := T14) (g' := (mkF m 17 #[.val (.ref a1), .val (.int (7 : Int32)), .val (.int (12 : Int32)), .val (.ref b1_0), .val (.int (7 : Int32))] [(.int (7 : Int32)), (.ref b1_0)])) (fun _ k_ => XS.iload X14.here hx rfl (hb hby d9_15) rfl  k_) ?_
  refine own_k (T' := T14) (g' := (mkF m 18 #[.val (.ref a1), .val (.int (7 : Int32)), .val (.int (12 : Int32)), .val (.ref b1_0), .val (.int (7 : Int32))] [(.ref a1), (.int (7 : Int32)), (.ref b1_0)])) (fun _ k_ => XS.aloadN X14.here hx rfl (hb hby d9_17) rfl rfl  k_) ?_
  refine own_k (T' := T14) (g' := (mkF m 19 #[.val (.ref a1), .val (.int (7 : Int32)), .val (.int (12 : Int32)), .val (.ref b1_0), .val (.int (7 : Int32))] [(.int (7 : Int32)), (.ref a1), (.int (7 : Int32)), (.ref b1_0)])) (fun _ k_ => XS.iloadN X14.here hx rfl (hb hby d9_18) rfl  k_) ?_
  have f15 := (f13.keep K14 (ninS (Nat.ne_of_lt (Nat.lt_of_lt_of_le h_1.lt ge1_0)) nin0))
  refine own_caload X14 hx hZ rfl f15 (j := (7 : Int32)) ⟨by decide, by decide⟩ (v := (.int i10)) rfl (hb hby d9_19) ?_
  show own_Go p e below Φ T14 (mkF m 20 #[.val (.ref a1), .val (.int (7 : Int32)), .val (.int (12 : Int32)), .val (.ref b1_0), .val (.int (7 : Int32))] [(.int i10), (.int (7 : Int32)), (.ref b1_0)])
  refine own_callS X14 hx hZ (y := (⟨"java/lang/StringUTF16", "putChar", "([BII)V"⟩ : MethodName)) hown (hw _ (List.mem_of_getElem? (i := 51) rfl)) (hw _ (List.mem_of_getElem? (i := 52) rfl)) (hw _ (List.mem_of_getElem? (i := 24) rfl)) (hw _ (List.mem_of_getElem? (i := 53) rfl)) (by decide) (al := [(.ref b1_0), (.int (7 : Int32)), (.int i10)]) (rm_putChar_9 l Z a0 g_COMPACT_STRINGS g_SIOOBE_FORMATTER hW b1_0 i10 k1_1 ((i3 >>> ((0 : Int32) &&& 31)).toInt8.toInt32) ((i3 >>> ((8 : Int32) &&& 31)).toInt8.toInt32) ((i4 >>> ((0 : Int32) &&& 31)).toInt8.toInt32) ((i4 >>> ((8 : Int32) &&& 31)).toInt8.toInt32) ((i5 >>> ((0 : Int32) &&& 31)).toInt8.toInt32) ((i5 >>> ((8 : Int32) &&& 31)).toInt8.toInt32) ((i6 >>> ((0 : Int32) &&& 31)).toInt8.toInt32) ((i6 >>> ((8 : Int32) &&& 31)).toInt8.toInt32) ((i7 >>> ((0 : Int32) &&& 31)).toInt8.toInt32) ((i7 >>> ((8 : Int32) &&& 31)).toInt8.toInt32) ((i8 >>> ((0 : Int32) &&& 31)).toInt8.toInt32) ((i8 >>> ((8 : Int32) &&& 31)).toInt8.toInt32) ((i9 >>> ((0 : Int32) &&& 31)).toInt8.toInt32) ((i9 >>> ((8 : Int32) &&& 31)).toInt8.toInt32) T14.heap O14' q14_0 (Nat.le_trans O0.2.1 ge1_0) q14_1) 0 (by decide) (by decide) rfl (by decide) (by decide) (by rw [hml]; rfl) (lenOf pd__28_5bBII_29V rfl) rfl (rest := []) (by show 2 * 0 + _ ≤ _; exact Nat.le_of_eq rfl) (hb hby d9_20) ?_
  intro v16 T16 L16 X16 hQ16
  obtain ⟨rfl, Nq16, K16, q16_0, q16_1⟩ := hQ16
  have N16 := Fr.app N14 Nq16
  have O16' := O14'.keep K16 (allS (Nat.le_trans O0.2.1 ge1_0) all0)
  show own_Go p e below Φ T16 (mkF m 23 #[.val (.ref a1), .val (.int (7 : Int32)), .val (.int (12 : Int32)), .val (.ref b1_0), .val (.int (7 : Int32))] [])
  refine own_k (T' := T16) (g' := (mkF m 26 #[.val (.ref a1), .val (.int ((7 : Int32) + (1 : Int32))), .val (.int (12 : Int32)), .val (.ref b1_0), .val (.int (7 : Int32))] [])) (fun _ k_ => XS.iinc X16.here hx rfl (hb hby d9_23) rfl (l' := #[.val (.ref a1), .val (.int ((7 : Int32) + (1 : Int32))), .val (.int (12 : Int32)), .val (.ref b1_0), .val (.int (7 : Int32))]) rfl k_) ?_
  rw [show ((7 : Int32) + (1 : Int32)) = (8 : Int32) from by decide]
  refine own_k (T' := T16) (g' := (mkF m 29 #[.val (.ref a1), .val (.int (8 : Int32)), .val (.int (12 : Int32)), .val (.ref b1_0), .val (.int ((7 : Int32) + (1 : Int32)))] [])) (fun _ k_ => XS.iinc X16.here hx rfl (hb hby d9_26) rfl (l' := #[.val (.ref a1), .val (.int (8 : Int32)), .val (.int (12 : Int32)), .val (.ref b1_0), .val (.int ((7 : Int32) + (1 : Int32)))]) rfl k_) ?_
  rw [show ((7 : Int32) + (1 : Int32)) = (8 : Int32) from by decide]
  refine own_k (T' := T16) (g' := (mkF m 8 #[.val (.ref a1), .val (.int (8 : Int32)), .val (.int (12 : Int32)), .val (.ref b1_0), .val (.int (8 : Int32))] [])) (fun _ k_ => XS.goto X16.here hx rfl (pc0 := 29) (pc' := 8) rfl (hb hby d9_29) (by decide) (by decide) k_) ?_
  refine own_k (T' := T16) (g' := (mkF m 10 #[.val (.ref a1), .val (.int (8 : Int32)), .val (.int (12 : Int32)), .val (.ref b1_0), .val (.int (8 : Int32))] [(.int (8 : Int32))])) (fun _ k_ => XS.iload X16.here hx rfl (hb hby d9_8) rfl  k_) ?_
  refine own_k (T' := T16) (g' := (mkF m 11 #[.val (.ref a1), .val (.int (8 : Int32)), .val (.int (12 : Int32)), .val (.ref b1_0), .val (.int (8 : Int32))] [(.int (12 : Int32)), (.int (8 : Int32))])) (fun _ k_ => XS.iloadN X16.here hx rfl (hb hby d9_10) rfl  k_) ?_
  refine own_k (T' := T16) (g' := (mkF m 14 #[.val (.ref a1), .val (.int (8 : Int32)), .val (.int (12 : Int32)), .val (.ref b1_0), .val (.int (8 : Int32))] [])) (fun _ k_ => XS.icmpNo X16.here hx rfl (hb hby d9_11) rfl ((tlt (by decide : ((8 : Int32) < (12 : Int32)))).2.1) k_) ?_
  refine own_k (T' := T16) (g' := (mkF m 15 #[.val (.ref a1), .val (.int (8 : Int32)), .val (.int (12 : Int32)), .val (.ref b1_0), .val (.int (8 : Int32))] [(.ref b1_0)])) (fun _ k_ => XS.aloadN X16.here hx rfl (hb hby d9_14) rfl rfl  k_) ?_
  refine own_k (T' := T16) (g' := (mkF m 17 #[.val (.ref a1), .val (.int (8 : Int32)), .val (.int (12 : Int32)), .val (.ref b1_0), .val (.int (8 : Int32))] [(.int (8 : Int32)), (.ref b1_0)])) (fun _ k_ => XS.iload X16.here hx rfl (hb hby d9_15) rfl  k_) ?_
  refine own_k (T' := T16) (g' := (mkF m 18 #[.val (.ref a1), .val (.int (8 : Int32)), .val (.int (12 : Int32)), .val (.ref b1_0), .val (.int (8 : Int32))] [(.ref a1), (.int (8 : Int32)), (.ref b1_0)])) (fun _ k_ => XS.aloadN X16.here hx rfl (hb hby d9_17) rfl rfl  k_) ?_
  refine own_k (T' := T16) (g' := (mkF m 19 #[.val (.ref a1), .val (.int (8 : Int32)), .val (.int (12 : Int32)), .val (.ref b1_0), .val (.int (8 : Int32))] [(.int (8 : Int32)), (.ref a1), (.int (8 : Int32)), (.ref b1_0)])) (fun _ k_ => XS.iloadN X16.here hx rfl (hb hby d9_18) rfl  k_) ?_
  have f17 := (f15.keep K16 (ninS (Nat.ne_of_lt (Nat.lt_of_lt_of_le h_1.lt ge1_0)) nin0))
  refine own_caload X16 hx hZ rfl f17 (j := (8 : Int32)) ⟨by decide, by decide⟩ (v := (.int i11)) rfl (hb hby d9_19) ?_
  show own_Go p e below Φ T16 (mkF m 20 #[.val (.ref a1), .val (.int (8 : Int32)), .val (.int (12 : Int32)), .val (.ref b1_0), .val (.int (8 : Int32))] [(.int i11), (.int (8 : Int32)), (.ref b1_0)])
  refine own_callS X16 hx hZ (y := (⟨"java/lang/StringUTF16", "putChar", "([BII)V"⟩ : MethodName)) hown (hw _ (List.mem_of_getElem? (i := 51) rfl)) (hw _ (List.mem_of_getElem? (i := 52) rfl)) (hw _ (List.mem_of_getElem? (i := 24) rfl)) (hw _ (List.mem_of_getElem? (i := 53) rfl)) (by decide) (al := [(.ref b1_0), (.int (8 : Int32)), (.int i11)]) (rm_putChar_10 l Z a0 g_COMPACT_STRINGS g_SIOOBE_FORMATTER hW b1_0 i11 k1_1 ((i3 >>> ((0 : Int32) &&& 31)).toInt8.toInt32) ((i3 >>> ((8 : Int32) &&& 31)).toInt8.toInt32) ((i4 >>> ((0 : Int32) &&& 31)).toInt8.toInt32) ((i4 >>> ((8 : Int32) &&& 31)).toInt8.toInt32) ((i5 >>> ((0 : Int32) &&& 31)).toInt8.toInt32) ((i5 >>> ((8 : Int32) &&& 31)).toInt8.toInt32) ((i6 >>> ((0 : Int32) &&& 31)).toInt8.toInt32) ((i6 >>> ((8 : Int32) &&& 31)).toInt8.toInt32) ((i7 >>> ((0 : Int32) &&& 31)).toInt8.toInt32) ((i7 >>> ((8 : Int32) &&& 31)).toInt8.toInt32) ((i8 >>> ((0 : Int32) &&& 31)).toInt8.toInt32) ((i8 >>> ((8 : Int32) &&& 31)).toInt8.toInt32) ((i9 >>> ((0 : Int32) &&& 31)).toInt8.toInt32) ((i9 >>> ((8 : Int32) &&& 31)).toInt8.toInt32) ((i10 >>> ((0 : Int32) &&& 31)).toInt8.toInt32) ((i10 >>> ((8 : Int32) &&& 31)).toInt8.toInt32) T16.heap O16' q16_0 (Nat.le_trans O0.2.1 ge1_0) q16_1) 0 (by decide) (by decide) rfl (by decide) (by decide) (by rw [hml]; rfl) (lenOf pd__28_5bBII_29V rfl) rfl (rest := []) (by show 2 * 0 + _ ≤ _; exact Nat.le_of_eq rfl) (hb hby d9_20) ?_
  intro v18 T18 L18 X18 hQ18
  obtain ⟨rfl, Nq18, K18, q18_0, q18_1⟩ := hQ18
  have N18 := Fr.app N16 Nq18
  have O18' := O16'.keep K18 (allS (Nat.le_trans O0.2.1 ge1_0) all0)
  show own_Go p e below Φ T18 (mkF m 23 #[.val (.ref a1), .val (.int (8 : Int32)), .val (.int (12 : Int32)), .val (.ref b1_0), .val (.int (8 : Int32))] [])
  refine own_k (T' := T18) (g' := (mkF m 26 #[.val (.ref a1), .val (.int ((8 : Int32) + (1 : Int32))), .val (.int (12 : Int32)), .val (.ref b1_0), .val (.int (8 : Int32))] [])) (fun _ k_ => XS.iinc X18.here hx rfl (hb hby d9_23) rfl (l' := #[.val (.ref a1), .val (.int ((8 : Int32) + (1 : Int32))), .val (.int (12 : Int32)), .val (.ref b1_0), .val (.int (8 : Int32))]) rfl k_) ?_
  rw [show ((8 : Int32) + (1 : Int32)) = (9 : Int32) from by decide]
  refine own_k (T' := T18) (g' := (mkF m 29 #[.val (.ref a1), .val (.int (9 : Int32)), .val (.int (12 : Int32)), .val (.ref b1_0), .val (.int ((8 : Int32) + (1 : Int32)))] [])) (fun _ k_ => XS.iinc X18.here hx rfl (hb hby d9_26) rfl (l' := #[.val (.ref a1), .val (.int (9 : Int32)), .val (.int (12 : Int32)), .val (.ref b1_0), .val (.int ((8 : Int32) + (1 : Int32)))]) rfl k_) ?_
  rw [show ((8 : Int32) + (1 : Int32)) = (9 : Int32) from by decide]
  refine own_k (T' := T18) (g' := (mkF m 8 #[.val (.ref a1), .val (.int (9 : Int32)), .val (.int (12 : Int32)), .val (.ref b1_0), .val (.int (9 : Int32))] [])) (fun _ k_ => XS.goto X18.here hx rfl (pc0 := 29) (pc' := 8) rfl (hb hby d9_29) (by decide) (by decide) k_) ?_
  refine own_k (T' := T18) (g' := (mkF m 10 #[.val (.ref a1), .val (.int (9 : Int32)), .val (.int (12 : Int32)), .val (.ref b1_0), .val (.int (9 : Int32))] [(.int (9 : Int32))])) (fun _ k_ => XS.iload X18.here hx rfl (hb hby d9_8) rfl  k_) ?_
  refine own_k (T' := T18) (g' := (mkF m 11 #[.val (.ref a1), .val (.int (9 : Int32)), .val (.int (12 : Int32)), .val (.ref b1_0), .val (.int (9 : Int32))] [(.int (12 : Int32)), (.int (9 : Int32))])) (fun _ k_ => XS.iloadN X18.here hx rfl (hb hby d9_10) rfl  k_) ?_
  refine own_k (T' := T18) (g' := (mkF m 14 #[.val (.ref a1), .val (.int (9 : Int32)), .val (.int (12 : Int32)), .val (.ref b1_0), .val (.int (9 : Int32))] [])) (fun _ k_ => XS.icmpNo X18.here hx rfl (hb hby d9_11) rfl ((tlt (by decide : ((9 : Int32) < (12 : Int32)))).2.1) k_) ?_
  refine own_k (T' := T18) (g' := (mkF m 15 #[.val (.ref a1), .val (.int (9 : Int32)), .val (.int (12 : Int32)), .val (.ref b1_0), .val (.int (9 : Int32))] [(.ref b1_0)])) (fun _ k_ => XS.aloadN X18.here hx rfl (hb hby d9_14) rfl rfl  k_) ?_
  refine own_k (T' := T18) (g' := (mkF m 17 #[.val (.ref a1), .val (.int (9 : Int32)), .val (.int (12 : Int32)), .val (.ref b1_0), .val (.int (9 : Int32))] [(.int (9 : Int32)), (.ref b1_0)])) (fun _ k_ => XS.iload X18.here hx rfl (hb hby d9_15) rfl  k_) ?_
  refine own_k (T' := T18) (g' := (mkF m 18 #[.val (.ref a1), .val (.int (9 : Int32)), .val (.int (12 : Int32)), .val (.ref b1_0), .val (.int (9 : Int32))] [(.ref a1), (.int (9 : Int32)), (.ref b1_0)])) (fun _ k_ => XS.aloadN X18.here hx rfl (hb hby d9_17) rfl rfl  k_) ?_
  refine own_k (T' := T18) (g' := (mkF m 19 #[.val (.ref a1), .val (.int (9 : Int32)), .val (.int (12 : Int32)), .val (.ref b1_0), .val (.int (9 : Int32))] [(.int (9 : Int32)), (.ref a1), (.int (9 : Int32)), (.ref b1_0)])) (fun _ k_ => XS.iloadN X18.here hx rfl (hb hby d9_18) rfl  k_) ?_
  have f19 := (f17.keep K18 (ninS (Nat.ne_of_lt (Nat.lt_of_lt_of_le h_1.lt ge1_0)) nin0))
  refine own_caload X18 hx hZ rfl f19 (j := (9 : Int32)) ⟨by decide, by decide⟩ (v := (.int i12)) rfl (hb hby d9_19) ?_
  show own_Go p e below Φ T18 (mkF m 20 #[.val (.ref a1), .val (.int (9 : Int32)), .val (.int (12 : Int32)), .val (.ref b1_0), .val (.int (9 : Int32))] [(.int i12), (.int (9 : Int32)), (.ref b1_0)])
  refine own_callS X18 hx hZ (y := (⟨"java/lang/StringUTF16", "putChar", "([BII)V"⟩ : MethodName)) hown (hw _ (List.mem_of_getElem? (i := 51) rfl)) (hw _ (List.mem_of_getElem? (i := 52) rfl)) (hw _ (List.mem_of_getElem? (i := 24) rfl)) (hw _ (List.mem_of_getElem? (i := 53) rfl)) (by decide) (al := [(.ref b1_0), (.int (9 : Int32)), (.int i12)]) (rm_putChar_11 l Z a0 g_COMPACT_STRINGS g_SIOOBE_FORMATTER hW b1_0 i12 k1_1 ((i3 >>> ((0 : Int32) &&& 31)).toInt8.toInt32) ((i3 >>> ((8 : Int32) &&& 31)).toInt8.toInt32) ((i4 >>> ((0 : Int32) &&& 31)).toInt8.toInt32) ((i4 >>> ((8 : Int32) &&& 31)).toInt8.toInt32) ((i5 >>> ((0 : Int32) &&& 31)).toInt8.toInt32) ((i5 >>> ((8 : Int32) &&& 31)).toInt8.toInt32) ((i6 >>> ((0 : Int32) &&& 31)).toInt8.toInt32) ((i6 >>> ((8 : Int32) &&& 31)).toInt8.toInt32) ((i7 >>> ((0 : Int32) &&& 31)).toInt8.toInt32) ((i7 >>> ((8 : Int32) &&& 31)).toInt8.toInt32) ((i8 >>> ((0 : Int32) &&& 31)).toInt8.toInt32) ((i8 >>> ((8 : Int32) &&& 31)).toInt8.toInt32) ((i9 >>> ((0 : Int32) &&& 31)).toInt8.toInt32) ((i9 >>> ((8 : Int32) &&& 31)).toInt8.toInt32) ((i10 >>> ((0 : Int32) &&& 31)).toInt8.toInt32) ((i10 >>> ((8 : Int32) &&& 31)).toInt8.toInt32) ((i11 >>> ((0 : Int32) &&& 31)).toInt8.toInt32) ((i11 >>> ((8 : Int32) &&& 31)).toInt8.toInt32) T18.heap O18' q18_0 (Nat.le_trans O0.2.1 ge1_0) q18_1) 0 (by decide) (by decide) rfl (by decide) (by decide) (by rw [hml]; rfl) (lenOf pd__28_5bBII_29V rfl) rfl (rest := []) (by show 2 * 0 + _ ≤ _; exact Nat.le_of_eq rfl) (hb hby d9_20) ?_
  intro v20 T20 L20 X20 hQ20
  obtain ⟨rfl, Nq20, K20, q20_0, q20_1⟩ := hQ20
  have N20 := Fr.app N18 Nq20
  have O20' := O18'.keep K20 (allS (Nat.le_trans O0.2.1 ge1_0) all0)
  show own_Go p e below Φ T20 (mkF m 23 #[.val (.ref a1), .val (.int (9 : Int32)), .val (.int (12 : Int32)), .val (.ref b1_0), .val (.int (9 : Int32))] [])
  refine own_k (T' := T20) (g' := (mkF m 26 #[.val (.ref a1), .val (.int ((9 : Int32) + (1 : Int32))), .val (.int (12 : Int32)), .val (.ref b1_0), .val (.int (9 : Int32))] [])) (fun _ k_ => XS.iinc X20.here hx rfl (hb hby d9_23) rfl (l' := #[.val (.ref a1), .val (.int ((9 : Int32) + (1 : Int32))), .val (.int (12 : Int32)), .val (.ref b1_0), .val (.int (9 : Int32))]) rfl k_) ?_
  rw [show ((9 : Int32) + (1 : Int32)) = (10 : Int32) from by decide]
  refine own_k (T' := T20) (g' := (mkF m 29 #[.val (.ref a1), .val (.int (10 : Int32)), .val (.int (12 : Int32)), .val (.ref b1_0), .val (.int ((9 : Int32) + (1 : Int32)))] [])) (fun _ k_ => XS.iinc X20.here hx rfl (hb hby d9_26) rfl (l' := #[.val (.ref a1), .val (.int (10 : Int32)), .val (.int (12 : Int32)), .val (.ref b1_0), .val (.int ((9 : Int32) + (1 : Int32)))]) rfl k_) ?_
  rw [show ((9 : Int32) + (1 : Int32)) = (10 : Int32) from by decide]
  refine own_k (T' := T20) (g' := (mkF m 8 #[.val (.ref a1), .val (.int (10 : Int32)), .val (.int (12 : Int32)), .val (.ref b1_0), .val (.int (10 : Int32))] [])) (fun _ k_ => XS.goto X20.here hx rfl (pc0 := 29) (pc' := 8) rfl (hb hby d9_29) (by decide) (by decide) k_) ?_
  refine own_k (T' := T20) (g' := (mkF m 10 #[.val (.ref a1), .val (.int (10 : Int32)), .val (.int (12 : Int32)), .val (.ref b1_0), .val (.int (10 : Int32))] [(.int (10 : Int32))])) (fun _ k_ => XS.iload X20.here hx rfl (hb hby d9_8) rfl  k_) ?_
  refine own_k (T' := T20) (g' := (mkF m 11 #[.val (.ref a1), .val (.int (10 : Int32)), .val (.int (12 : Int32)), .val (.ref b1_0), .val (.int (10 : Int32))] [(.int (12 : Int32)), (.int (10 : Int32))])) (fun _ k_ => XS.iloadN X20.here hx rfl (hb hby d9_10) rfl  k_) ?_
  refine own_k (T' := T20) (g' := (mkF m 14 #[.val (.ref a1), .val (.int (10 : Int32)), .val (.int (12 : Int32)), .val (.ref b1_0), .val (.int (10 : Int32))] [])) (fun _ k_ => XS.icmpNo X20.here hx rfl (hb hby d9_11) rfl ((tlt (by decide : ((10 : Int32) < (12 : Int32)))).2.1) k_) ?_
  refine own_k (T' := T20) (g' := (mkF m 15 #[.val (.ref a1), .val (.int (10 : Int32)), .val (.int (12 : Int32)), .val (.ref b1_0), .val (.int (10 : Int32))] [(.ref b1_0)])) (fun _ k_ => XS.aloadN X20.here hx rfl (hb hby d9_14) rfl rfl  k_) ?_
  refine own_k (T' := T20) (g' := (mkF m 17 #[.val (.ref a1), .val (.int (10 : Int32)), .val (.int (12 : Int32)), .val (.ref b1_0), .val (.int (10 : Int32))] [(.int (10 : Int32)), (.ref b1_0)])) (fun _ k_ => XS.iload X20.here hx rfl (hb hby d9_15) rfl  k_) ?_
  refine own_k (T' := T20) (g' := (mkF m 18 #[.val (.ref a1), .val (.int (10 : Int32)), .val (.int (12 : Int32)), .val (.ref b1_0), .val (.int (10 : Int32))] [(.ref a1), (.int (10 : Int32)), (.ref b1_0)])) (fun _ k_ => XS.aloadN X20.here hx rfl (hb hby d9_17) rfl rfl  k_) ?_
  refine own_k (T' := T20) (g' := (mkF m 19 #[.val (.ref a1), .val (.int (10 : Int32)), .val (.int (12 : Int32)), .val (.ref b1_0), .val (.int (10 : Int32))] [(.int (10 : Int32)), (.ref a1), (.int (10 : Int32)), (.ref b1_0)])) (fun _ k_ => XS.iloadN X20.here hx rfl (hb hby d9_18) rfl  k_) ?_
  have f21 := (f19.keep K20 (ninS (Nat.ne_of_lt (Nat.lt_of_lt_of_le h_1.lt ge1_0)) nin0))
  refine own_caload X20 hx hZ rfl f21 (j := (10 : Int32)) ⟨by decide, by decide⟩ (v := (.int i13)) rfl (hb hby d9_19) ?_
  show own_Go p e below Φ T20 (mkF m 20 #[.val (.ref a1), .val (.int (10 : Int32)), .val (.int (12 : Int32)), .val (.ref b1_0), .val (.int (10 : Int32))] [(.int i13), (.int (10 : Int32)), (.ref b1_0)])
  refine own_callS X20 hx hZ (y := (⟨"java/lang/StringUTF16", "putChar", "([BII)V"⟩ : MethodName)) hown (hw _ (List.mem_of_getElem? (i := 51) rfl)) (hw _ (List.mem_of_getElem? (i := 52) rfl)) (hw _ (List.mem_of_getElem? (i := 24) rfl)) (hw _ (List.mem_of_getElem? (i := 53) rfl)) (by decide) (al := [(.ref b1_0), (.int (10 : Int32)), (.int i13)]) (rm_putChar_12 l Z a0 g_COMPACT_STRINGS g_SIOOBE_FORMATTER hW b1_0 i13 k1_1 ((i3 >>> ((0 : Int32) &&& 31)).toInt8.toInt32) ((i3 >>> ((8 : Int32) &&& 31)).toInt8.toInt32) ((i4 >>> ((0 : Int32) &&& 31)).toInt8.toInt32) ((i4 >>> ((8 : Int32) &&& 31)).toInt8.toInt32) ((i5 >>> ((0 : Int32) &&& 31)).toInt8.toInt32) ((i5 >>> ((8 : Int32) &&& 31)).toInt8.toInt32) ((i6 >>> ((0 : Int32) &&& 31)).toInt8.toInt32) ((i6 >>> ((8 : Int32) &&& 31)).toInt8.toInt32) ((i7 >>> ((0 : Int32) &&& 31)).toInt8.toInt32) ((i7 >>> ((8 : Int32) &&& 31)).toInt8.toInt32) ((i8 >>> ((0 : Int32) &&& 31)).toInt8.toInt32) ((i8 >>> ((8 : Int32) &&& 31)).toInt8.toInt32) ((i9 >>> ((0 : Int32) &&& 31)).toInt8.toInt32) ((i9 >>> ((8 : Int32) &&& 31)).toInt8.toInt32) ((i10 >>> ((0 : Int32) &&& 31)).toInt8.toInt32) ((i10 >>> ((8 : Int32) &&& 31)).toInt8.toInt32) ((i11 >>> ((0 : Int32) &&& 31)).toInt8.toInt32) ((i11 >>> ((8 : Int32) &&& 31)).toInt8.toInt32) ((i12 >>> ((0 : Int32) &&& 31)).toInt8.toInt32) ((i12 >>> ((8 : Int32) &&& 31)).toInt8.toInt32) T20.heap O20' q20_0 (Nat.le_trans O0.2.1 ge1_0) q20_1) 0 (by decide) (by decide) rfl (by decide) (by decide) (by rw [hml]; rfl) (lenOf pd__28_5bBII_29V rfl) rfl (rest := []) (by show 2 * 0 + _ ≤ _; exact Nat.le_of_eq rfl) (hb hby d9_20) ?_
  intro v22 T22 L22 X22 hQ22
  obtain ⟨rfl, Nq22, K22, q22_0, q22_1⟩ := hQ22
  have N22 := Fr.app N20 Nq22
  have O22' := O20'.keep K22 (allS (Nat.le_trans O0.2.1 ge1_0) all0)
  show own_Go p e below Φ T22 (mkF m 23 #[.val (.ref a1), .val (.int (10 : Int32)), .val (.int (12 : Int32)), .val (.ref b1_0), .val (.int (10 : Int32))] [])
  refine own_k (T' := T22) (g' := (mkF m 26 #[.val (.ref a1), .val (.int ((10 : Int32) + (1 : Int32))), .val (.int (12 : Int32)), .val (.ref b1_0), .val (.int (10 : Int32))] [])) (fun _ k_ => XS.iinc X22.here hx rfl (hb hby d9_23) rfl (l' := #[.val (.ref a1), .val (.int ((10 : Int32) + (1 : Int32))), .val (.int (12 : Int32)), .val (.ref b1_0), .val (.int (10 : Int32))]) rfl k_) ?_
  rw [show ((10 : Int32) + (1 : Int32)) = (11 : Int32) from by decide]
  refine own_k (T' := T22) (g' := (mkF m 29 #[.val (.ref a1), .val (.int (11 : Int32)), .val (.int (12 : Int32)), .val (.ref b1_0), .val (.int ((10 : Int32) + (1 : Int32)))] [])) (fun _ k_ => XS.iinc X22.here hx rfl (hb hby d9_26) rfl (l' := #[.val (.ref a1), .val (.int (11 : Int32)), .val (.int (12 : Int32)), .val (.ref b1_0), .val (.int ((10 : Int32) + (1 : Int32)))]) rfl k_) ?_
  rw [show ((10 : Int32) + (1 : Int32)) = (11 : Int32) from by decide]
  refine own_k (T' := T22) (g' := (mkF m 8 #[.val (.ref a1), .val (.int (11 : Int32)), .val (.int (12 : Int32)), .val (.ref b1_0), .val (.int (11 : Int32))] [])) (fun _ k_ => XS.goto X22.here hx rfl (pc0 := 29) (pc' := 8) rfl (hb hby d9_29) (by decide) (by decide) k_) ?_
  refine own_k (T' := T22) (g' := (mkF m 10 #[.val (.ref a1), .val (.int (11 : Int32)), .val (.int (12 : Int32)), .val (.ref b1_0), .val (.int (11 : Int32))] [(.int (11 : Int32))])) (fun _ k_ => XS.iload X22.here hx rfl (hb hby d9_8) rfl  k_) ?_
  refine own_k (T' := T22) (g' := (mkF m 11 #[.val (.ref a1), .val (.int (11 : Int32)), .val (.int (12 : Int32)), .val (.ref b1_0), .val (.int (11 : Int32))] [(.int (12 : Int32)), (.int (11 : Int32))])) (fun _ k_ => XS.iloadN X22.here hx rfl (hb hby d9_10) rfl  k_) ?_
  refine own_k (T' := T22) (g' := (mkF m 14 #[.val (.ref a1), .val (.int (11 : Int32)), .val (.int (12 : Int32)), .val (.ref b1_0), .val (.int (11 : Int32))] [])) (fun _ k_ => XS.icmpNo X22.here hx rfl (hb hby d9_11) rfl ((tlt (by decide : ((11 : Int32) < (12 : Int32)))).2.1) k_) ?_
  refine own_k (T' := T22) (g' := (mkF m 15 #[.val (.ref a1), .val (.int (11 : Int32)), .val (.int (12 : Int32)), .val (.ref b1_0), .val (.int (11 : Int32))] [(.ref b1_0)])) (fun _ k_ => XS.aloadN X22.here hx rfl (hb hby d9_14) rfl rfl  k_) ?_
  refine own_k (T' := T22) (g' := (mkF m 17 #[.val (.ref a1), .val (.int (11 : Int32)), .val (.int (12 : Int32)), .val (.ref b1_0), .val (.int (11 : Int32))] [(.int (11 : Int32)), (.ref b1_0)])) (fun _ k_ => XS.iload X22.here hx rfl (hb hby d9_15) rfl  k_) ?_
  refine own_k (T' := T22) (g' := (mkF m 18 #[.val (.ref a1), .val (.int (11 : Int32)), .val (.int (12 : Int32)), .val (.ref b1_0), .val (.int (11 : Int32))] [(.ref a1), (.int (11 : Int32)), (.ref b1_0)])) (fun _ k_ => XS.aloadN X22.here hx rfl (hb hby d9_17) rfl rfl  k_) ?_
  refine own_k (T' := T22) (g' := (mkF m 19 #[.val (.ref a1), .val (.int (11 : Int32)), .val (.int (12 : Int32)), .val (.ref b1_0), .val (.int (11 : Int32))] [(.int (11 : Int32)), (.ref a1), (.int (11 : Int32)), (.ref b1_0)])) (fun _ k_ => XS.iloadN X22.here hx rfl (hb hby d9_18) rfl  k_) ?_
  have f23 := (f21.keep K22 (ninS (Nat.ne_of_lt (Nat.lt_of_lt_of_le h_1.lt ge1_0)) nin0))
  refine own_caload X22 hx hZ rfl f23 (j := (11 : Int32)) ⟨by decide, by decide⟩ (v := (.int i14)) rfl (hb hby d9_19) ?_
  show own_Go p e below Φ T22 (mkF m 20 #[.val (.ref a1), .val (.int (11 : Int32)), .val (.int (12 : Int32)), .val (.ref b1_0), .val (.int (11 : Int32))] [(.int i14), (.int (11 : Int32)), (.ref b1_0)])
  refine own_callS X22 hx hZ (y := (⟨"java/lang/StringUTF16", "putChar", "([BII)V"⟩ : MethodName)) hown (hw _ (List.mem_of_getElem? (i := 51) rfl)) (hw _ (List.mem_of_getElem? (i := 52) rfl)) (hw _ (List.mem_of_getElem? (i := 24) rfl)) (hw _ (List.mem_of_getElem? (i := 53) rfl)) (by decide) (al := [(.ref b1_0), (.int (11 : Int32)), (.int i14)]) (rm_putChar_13 l Z a0 g_COMPACT_STRINGS g_SIOOBE_FORMATTER hW b1_0 i14 k1_1 ((i3 >>> ((0 : Int32) &&& 31)).toInt8.toInt32) ((i3 >>> ((8 : Int32) &&& 31)).toInt8.toInt32) ((i4 >>> ((0 : Int32) &&& 31)).toInt8.toInt32) ((i4 >>> ((8 : Int32) &&& 31)).toInt8.toInt32) ((i5 >>> ((0 : Int32) &&& 31)).toInt8.toInt32) ((i5 >>> ((8 : Int32) &&& 31)).toInt8.toInt32) ((i6 >>> ((0 : Int32) &&& 31)).toInt8.toInt32) ((i6 >>> ((8 : Int32) &&& 31)).toInt8.toInt32) ((i7 >>> ((0 : Int32) &&& 31)).toInt8.toInt32) ((i7 >>> ((8 : Int32) &&& 31)).toInt8.toInt32) ((i8 >>> ((0 : Int32) &&& 31)).toInt8.toInt32) ((i8 >>> ((8 : Int32) &&& 31)).toInt8.toInt32) ((i9 >>> ((0 : Int32) &&& 31)).toInt8.toInt32) ((i9 >>> ((8 : Int32) &&& 31)).toInt8.toInt32) ((i10 >>> ((0 : Int32) &&& 31)).toInt8.toInt32) ((i10 >>> ((8 : Int32) &&& 31)).toInt8.toInt32) ((i11 >>> ((0 : Int32) &&& 31)).toInt8.toInt32) ((i11 >>> ((8 : Int32) &&& 31)).toInt8.toInt32) ((i12 >>> ((0 : Int32) &&& 31)).toInt8.toInt32) ((i12 >>> ((8 : Int32) &&& 31)).toInt8.toInt32) ((i13 >>> ((0 : Int32) &&& 31)).toInt8.toInt32) ((i13 >>> ((8 : Int32) &&& 31)).toInt8.toInt32) T22.heap O22' q22_0 (Nat.le_trans O0.2.1 ge1_0) q22_1) 0 (by decide) (by decide) rfl (by decide) (by decide) (by rw [hml]; rfl) (lenOf pd__28_5bBII_29V rfl) rfl (rest := []) (by show 2 * 0 + _ ≤ _; exact Nat.le_of_eq rfl) (hb hby d9_20) ?_
  intro v24 T24 L24 X24 hQ24
  obtain ⟨rfl, Nq24, K24, q24_0, q24_1⟩ := hQ24
  have N24 := Fr.app N22 Nq24
  have O24' := O22'.keep K24 (allS (Nat.le_trans O0.2.1 ge1_0) all0)
  show own_Go p e below Φ T24 (mkF m 23 #[.val (.ref a1), .val (.int (11 : Int32)), .val (.int (12 : Int32)), .val (.ref b1_0), .val (.int (11 : Int32))] [])
  refine own_k (T' := T24) (g' := (mkF m 26 #[.val (.ref a1), .val (.int ((11 : Int32) + (1 : Int32))), .val (.int (12 : Int32)), .val (.ref b1_0), .val (.int (11 : Int32))] [])) (fun _ k_ => XS.iinc X24.here hx rfl (hb hby d9_23) rfl (l' := #[.val (.ref a1), .val (.int ((11 : Int32) + (1 : Int32))), .val (.int (12 : Int32)), .val (.ref b1_0), .val (.int (11 : Int32))]) rfl k_) ?_
  rw [show ((11 : Int32) + (1 : Int32)) = (12 : Int32) from by decide]
  refine own_k (T' := T24) (g' := (mkF m 29 #[.val (.ref a1), .val (.int (12 : Int32)), .val (.int (12 : Int32)), .val (.ref b1_0), .val (.int ((11 : Int32) + (1 : Int32)))] [])) (fun _ k_ => XS.iinc X24.here hx rfl (hb hby d9_26) rfl (l' := #[.val (.ref a1), .val (.int (12 : Int32)), .val (.int (12 : Int32)), .val (.ref b1_0), .val (.int ((11 : Int32) + (1 : Int32)))]) rfl k_) ?_
  rw [show ((11 : Int32) + (1 : Int32)) = (12 : Int32) from by decide]
  refine own_k (T' := T24) (g' := (mkF m 8 #[.val (.ref a1), .val (.int (12 : Int32)), .val (.int (12 : Int32)), .val (.ref b1_0), .val (.int (12 : Int32))] [])) (fun _ k_ => XS.goto X24.here hx rfl (pc0 := 29) (pc' := 8) rfl (hb hby d9_29) (by decide) (by decide) k_) ?_
  refine own_k (T' := T24) (g' := (mkF m 10 #[.val (.ref a1), .val (.int (12 : Int32)), .val (.int (12 : Int32)), .val (.ref b1_0), .val (.int (12 : Int32))] [(.int (12 : Int32))])) (fun _ k_ => XS.iload X24.here hx rfl (hb hby d9_8) rfl  k_) ?_
  refine own_k (T' := T24) (g' := (mkF m 11 #[.val (.ref a1), .val (.int (12 : Int32)), .val (.int (12 : Int32)), .val (.ref b1_0), .val (.int (12 : Int32))] [(.int (12 : Int32)), (.int (12 : Int32))])) (fun _ k_ => XS.iloadN X24.here hx rfl (hb hby d9_10) rfl  k_) ?_
  refine own_k (T' := T24) (g' := (mkF m 32 #[.val (.ref a1), .val (.int (12 : Int32)), .val (.int (12 : Int32)), .val (.ref b1_0), .val (.int (12 : Int32))] [])) (fun _ k_ => XS.icmpYes X24.here hx rfl (pc0 := 11) (pc' := 32) rfl (hb hby d9_11) rfl ((flt (by decide : ¬ ((12 : Int32) < (12 : Int32)))).2.1) (by decide) (by decide) k_) ?_
  refine own_k (T' := T24) (g' := (mkF m 33 #[.val (.ref a1), .val (.int (12 : Int32)), .val (.int (12 : Int32)), .val (.ref b1_0), .val (.int (12 : Int32))] [(.ref b1_0)])) (fun _ k_ => XS.aloadN X24.here hx rfl (hb hby d9_32) rfl rfl  k_) ?_
  have kp0 : Keep h0 h0 [] := Keep.refl h0 []
  have kp1 : Keep h0 T1.heap [] := kp0.trans K1 all0
  have kp2 : Keep h0 T2.heap [] := kp1.trans K2 (allS (Or.inr (Nat.le_trans kp0.1 ge1_0)) all0)
  have kp3 : Keep h0 T4.heap [] := kp2.trans K4 (allS (Or.inr (Nat.le_trans kp0.1 ge1_0)) all0)
  have kp4 : Keep h0 T6.heap [] := kp3.trans K6 (allS (Or.inr (Nat.le_trans kp0.1 ge1_0)) all0)
  have kp5 : Keep h0 T8.heap [] := kp4.trans K8 (allS (Or.inr (Nat.le_trans kp0.1 ge1_0)) all0)
  have kp6 : Keep h0 T10.heap [] := kp5.trans K10 (allS (Or.inr (Nat.le_trans kp0.1 ge1_0)) all0)
  have kp7 : Keep h0 T12.heap [] := kp6.trans K12 (allS (Or.inr (Nat.le_trans kp0.1 ge1_0)) all0)
  have kp8 : Keep h0 T14.heap [] := kp7.trans K14 (allS (Or.inr (Nat.le_trans kp0.1 ge1_0)) all0)
  have kp9 : Keep h0 T16.heap [] := kp8.trans K16 (allS (Or.inr (Nat.le_trans kp0.1 ge1_0)) all0)
  have kp10 : Keep h0 T18.heap [] := kp9.trans K18 (allS (Or.inr (Nat.le_trans kp0.1 ge1_0)) all0)
  have kp11 : Keep h0 T20.heap [] := kp10.trans K20 (allS (Or.inr (Nat.le_trans kp0.1 ge1_0)) all0)
  have kp12 : Keep h0 T22.heap [] := kp11.trans K22 (allS (Or.inr (Nat.le_trans kp0.1 ge1_0)) all0)
  have kp13 : Keep h0 T24.heap [] := kp12.trans K24 (allS (Or.inr (Nat.le_trans kp0.1 ge1_0)) all0)
  exact own_retA X24 hx hret rfl rfl hlk (hb hby d9_33) hF (⟨b1_0, k1_1, rfl, N24, kp13, (Nat.le_trans kp0.1 ge1_0), q24_1, q24_0⟩) (by decide) (by decide)
theorem d5_26 : decode jdk_52_method_16_code 26 = .ok (.astore 5, 2) := by decide +kernel
theorem d5_28 : decode jdk_52_method_16_code 28 = .ok (.aload 5, 2) := by decide +kernel
theorem d5_30 : decode jdk_52_method_16_code 30 = .ok (.iload 4, 2) := by decide +kernel
theorem d5_32 : decode jdk_52_method_16_code 32 = .ok (.invokestatic 71, 3) := by decide +kernel
theorem pd__28_5bBI_29C : parseMethodDescriptor "([BI)C" = some ⟨[(.array .byte), .int], some .char⟩ := by decide +kernel
theorem ef_13_RI (m : MethodId) (x0 : Addr) (x1 : Int32)  : entryFrame m #[(.ref x0), (.int x1)] 2 = mkF m 0 #[.val (.ref x0), .val (.int x1)] [] := by first | (simp [entryFrame, mkF, argsToLocals, Value.category]; done) | rfl
theorem d13_0 : decode jdk_52_method_5_code 0 = .ok (.getstatic 44, 3) := by decide +kernel
theorem d13_3 : decode jdk_52_method_5_code 3 = .ok (.ifCond .ne 25, 3) := by decide +kernel
theorem d13_28 : decode jdk_52_method_5_code 28 = .ok (.iload_n 1, 1) := by decide +kernel
theorem d13_29 : decode jdk_52_method_5_code 29 = .ok (.iconst 1, 1) := by decide +kernel
theorem d13_30 : decode jdk_52_method_5_code 30 = .ok (.ishl, 1) := by decide +kernel
theorem d13_31 : decode jdk_52_method_5_code 31 = .ok (.istore_n 1, 1) := by decide +kernel
theorem d13_32 : decode jdk_52_method_5_code 32 = .ok (.aload_n 0, 1) := by decide +kernel
theorem d13_33 : decode jdk_52_method_5_code 33 = .ok (.iload_n 1, 1) := by decide +kernel
theorem d13_34 : decode jdk_52_method_5_code 34 = .ok (.iinc 1 1, 3) := by decide +kernel
theorem d13_37 : decode jdk_52_method_5_code 37 = .ok (.baload, 1) := by decide +kernel
theorem d13_38 : decode jdk_52_method_5_code 38 = .ok (.sipush 255, 3) := by decide +kernel
theorem d13_41 : decode jdk_52_method_5_code 41 = .ok (.iand, 1) := by decide +kernel
theorem d13_42 : decode jdk_52_method_5_code 42 = .ok (.getstatic 59, 3) := by decide +kernel
theorem d13_45 : decode jdk_52_method_5_code 45 = .ok (.ishl, 1) := by decide +kernel
theorem d13_46 : decode jdk_52_method_5_code 46 = .ok (.aload_n 0, 1) := by decide +kernel
theorem d13_47 : decode jdk_52_method_5_code 47 = .ok (.iload_n 1, 1) := by decide +kernel
theorem d13_48 : decode jdk_52_method_5_code 48 = .ok (.baload, 1) := by decide +kernel
theorem d13_49 : decode jdk_52_method_5_code 49 = .ok (.sipush 255, 3) := by decide +kernel
theorem d13_52 : decode jdk_52_method_5_code 52 = .ok (.iand, 1) := by decide +kernel
theorem d13_53 : decode jdk_52_method_5_code 53 = .ok (.getstatic 63, 3) := by decide +kernel
theorem d13_56 : decode jdk_52_method_5_code 56 = .ok (.ishl, 1) := by decide +kernel
theorem d13_57 : decode jdk_52_method_5_code 57 = .ok (.ior, 1) := by decide +kernel
theorem d13_58 : decode jdk_52_method_5_code 58 = .ok (.i2c, 1) := by decide +kernel
theorem d13_59 : decode jdk_52_method_5_code 59 = .ok (.ireturn, 1) := by decide +kernel
set_option maxRecDepth 65536 in
set_option maxHeartbeats 40000000 in
theorem rm_getChar_15 (l : Launch) (Z : State) (a0 : Array Value) (g_COMPACT_STRINGS : Int32) (g_SIOOBE_FORMATTER : Value) (hW : own_W Z a0 g_COMPACT_STRINGS g_SIOOBE_FORMATTER) (a1 : Addr) (i2 : Int32) (q3 : ClassId) (i4 : Int32) (i5 : Int32) (i6 : Int32) (i7 : Int32) (i8 : Int32) (i9 : Int32) (i10 : Int32) (i11 : Int32) (i12 : Int32) (i13 : Int32) (i14 : Int32) (i15 : Int32) (i16 : Int32) (i17 : Int32) (i18 : Int32) (i19 : Int32) (i20 : Int32) (i21 : Int32) (i22 : Int32) (i23 : Int32) (i24 : Int32) (i25 : Int32) (i26 : Int32) (i27 : Int32) (i28 : Int32) (i29 : Int32) (h0 : Heap) (O0 : Old Z Z.heap.size h0) (h_1 : ¬ ((i2 <<< ((1 : Int32) &&& 31)) < (0 : Int32))) (h_2 : ((i2 <<< ((1 : Int32) &&& 31)) < (24 : Int32))) (h_3 : ([(.int i4), (.int i5), (.int i6), (.int i7), (.int i8), (.int i9), (.int i10), (.int i11), (.int i12), (.int i13), (.int i14), (.int i15), (.int i16), (.int i17), (.int i18), (.int i19), (.int i20), (.int i21), (.int i22), (.int i23), (.int i24), (.int i25), (.int i26), (.int i27)] : List Value).getD ((i2 <<< ((1 : Int32) &&& 31))).toNatClampNeg (.int (0 : Int32)) = (.int i28)) (h_4 : Arv Z h0 a1 q3 .byte (24 : Int32) [(.int i4), (.int i5), (.int i6), (.int i7), (.int i8), (.int i9), (.int i10), (.int i11), (.int i12), (.int i13), (.int i14), (.int i15), (.int i16), (.int i17), (.int i18), (.int i19), (.int i20), (.int i21), (.int i22), (.int i23), (.int i24), (.int i25), (.int i26), (.int i27)] (.int (0 : Int32))) (h_5 : ¬ (((i2 <<< ((1 : Int32) &&& 31)) + (1 : Int32)) < (0 : Int32))) (h_6 : (((i2 <<< ((1 : Int32) &&& 31)) + (1 : Int32)) < (24 : Int32))) (h_7 : ([(.int i4), (.int i5), (.int i6), (.int i7), (.int i8), (.int i9), (.int i10), (.int i11), (.int i12), (.int i13), (.int i14), (.int i15), (.int i16), (.int i17), (.int i18), (.int i19), (.int i20), (.int i21), (.int i22), (.int i23), (.int i24), (.int i25), (.int i26), (.int i27)] : List Value).getD (((i2 <<< ((1 : Int32) &&& 31)) + (1 : Int32))).toNatClampNeg (.int (0 : Int32)) = (.int i29)) :
    own_Met l Z (⟨"java/lang/StringUTF16", "getChar", "([BI)C"⟩ : MethodName) jdk_52_method_5_code 2 (some .char) ({ frames := 0, cells := 0, slots := 0, locals := 0 } : Room) #[(.ref a1), (.int i2)] h0 (fun v h L => v = some (.int ((((i28 &&& (255 : Int32)) <<< ((0 : Int32) &&& 31)) ||| ((i29 &&& (255 : Int32)) <<< ((8 : Int32) &&& 31))).toUInt32.toUInt16.toUInt32.toInt32)) ∧ Fr Z.heap.size L ∧ h = h0) := by
  have hW_ := hW
  obtain ⟨hw, S_g_COMPACT_STRINGS, P_g_COMPACT_STRINGS, R_g_SIOOBE_FORMATTER, S_g_SIOOBE_FORMATTER, S_g__assertionsDisabled, S_g_HI_BYTE_SHIFT, S_g_LO_BYTE_SHIFT⟩ := hW_
  refine own_met (plainFor_of_name pn_java_lang_StringUTF16) ?_
  intro p e s m below meth cc_ s₁ Φ hF X0 hx hby hml hZ hown hnm hret hlk e0
  have N0 := Fr.nil Z.heap.size
  refine own_k (T' := s₁) (g' := (mkF m 0 #[.val (.ref a1), .val (.int i2)] [])) (fun _ k_ => castTop (ef_13_RI m a1 i2) k_) ?_
  obtain ⟨T1, X1, e1, st1⟩ := getS2 X0 hx hZ hown (host := "") (Or.inl (hw _ (List.mem_of_getElem? (i := 54) rfl))) Via.refl e0 (S_g__assertionsDisabled.ext O0.2) (g := (mkF m 0 #[.val (.ref a1), .val (.int i2)] [])) rfl (hb hby d13_0)
  refine own_k (T' := T1) (g' := (mkF m 3 #[.val (.ref a1), .val (.int i2)] [(.int (1 : Int32))])) st1 ?_
  refine own_k (T' := T1) (g' := (mkF m 28 #[.val (.ref a1), .val (.int i2)] [])) (fun _ k_ => XS.ifYes X1.here hx rfl (pc0 := 3) (pc' := 28) rfl (hb hby d13_3) rfl ((if0 _ _).trans (feq (by decide : ¬ ((1 : Int32) = (0 : Int32)))).2) (by decide) (by decide) k_) ?_
  refine own_k (T' := T1) (g' := (mkF m 29 #[.val (.ref a1), .val (.int i2)] [(.int i2)])) (fun _ k_ => XS.iloadN X1.here hx rfl (hb hby d13_28) rfl  k_) ?_
  refine own_k (T' := T1) (g' := (mkF m 30 #[.val (.ref a1), .val (.int i2)] [(.int (1 : Int32)), (.int i2)])) (fun _ k_ => XS.iconst X1.here hx rfl (hb hby d13_29) k_) ?_
  refine own_k (T' := T1) (g' := (mkF m 31 #[.val (.ref a1), .val (.int i2)] [(.int (i2 <<< ((1 : Int32) &&& 31)))])) (fun _ k_ => XS.ishl X1.here hx rfl (hb hby d13_30) rfl k_) ?_
  refine own_k (T' := T1) (g' := (mkF m 32 #[.val (.ref a1), .val (.int (i2 <<< ((1 : Int32) &&& 31)))] [])) (fun _ k_ => XS.istoreN X1.here hx rfl (hb hby d13_31) rfl (l' := #[.val (.ref a1), .val (.int (i2 <<< ((1 : Int32) &&& 31)))]) rfl k_) ?_
  refine own_k (T' := T1) (g' := (mkF m 33 #[.val (.ref a1), .val (.int (i2 <<< ((1 : Int32) &&& 31)))] [(.ref a1)])) (fun _ k_ => XS.aloadN X1.here hx rfl (hb hby d13_32) rfl rfl  k_) ?_
  refine own_k (T' := T1) (g' := (mkF m 34 #[.val (.ref a1), .val (.int (i2 <<< ((1 : Int32) &&& 31)))] [(.int (i2 <<< ((1 : Int32) &&& 31))), (.ref a1)])) (fun _ k_ => XS.iloadN X1.here hx rfl (hb hby d13_33) rfl  k_) ?_
  refine own_k (T' := T1) (g' := (mkF m 37 #[.val (.ref a1), .val (.int ((i2 <<< ((1 : Int32) &&& 31)) + (1 : Int32)))] [(.int (i2 <<< ((1 : Int32) &&& 31))), (.ref a1)])) (fun _ k_ => XS.iinc X1.here hx rfl (hb hby d13_34) rfl (l' := #[.val (.ref a1), .val (.int ((i2 <<< ((1 : Int32) &&& 31)) + (1 : Int32)))]) rfl k_) ?_
  refine own_baload X1 hx hZ e1 h_4 (j := (i2 <<< ((1 : Int32) &&& 31))) ⟨h_1, h_2⟩ (v := (.int i28)) h_3 (hb hby d13_37) ?_
  show own_Go p e below Φ T1 (mkF m 38 #[.val (.ref a1), .val (.int ((i2 <<< ((1 : Int32) &&& 31)) + (1 : Int32)))] [(.int i28)])
  refine own_k (T' := T1) (g' := (mkF m 41 #[.val (.ref a1), .val (.int ((i2 <<< ((1 : Int32) &&& 31)) + (1 : Int32)))] [(.int (255 : Int32)), (.int i28)])) (fun _ k_ => XS.sipush X1.here hx rfl (hb hby d13_38) k_) ?_
  refine own_k (T' := T1) (g' := (mkF m 42 #[.val (.ref a1), .val (.int ((i2 <<< ((1 : Int32) &&& 31)) + (1 : Int32)))] [(.int (i28 &&& (255 : Int32)))])) (fun _ k_ => XS.iand X1.here hx rfl (hb hby d13_41) rfl k_) ?_
  obtain ⟨T2, X2, e2, st2⟩ := getS2 X1 hx hZ hown (host := "") (Or.inl (hw _ (List.mem_of_getElem? (i := 55) rfl))) Via.refl e1 (S_g_HI_BYTE_SHIFT.ext O0.2) (g := (mkF m 42 #[.val (.ref a1), .val (.int ((i2 <<< ((1 : Int32) &&& 31)) + (1 : Int32)))] [(.int (i28 &&& (255 : Int32)))])) rfl (hb hby d13_42)
  refine own_k (T' := T2) (g' := (mkF m 45 #[.val (.ref a1), .val (.int ((i2 <<< ((1 : Int32) &&& 31)) + (1 : Int32)))] [(.int (0 : Int32)), (.int (i28 &&& (255 : Int32)))])) st2 ?_
  refine own_k (T' := T2) (g' := (mkF m 46 #[.val (.ref a1), .val (.int ((i2 <<< ((1 : Int32) &&& 31)) + (1 : Int32)))] [(.int ((i28 &&& (255 : Int32)) <<< ((0 : Int32) &&& 31)))])) (fun _ k_ => XS.ishl X2.here hx rfl (hb hby d13_45) rfl k_) ?_
  refine own_k (T' := T2) (g' := (mkF m 47 #[.val (.ref a1), .val (.int ((i2 <<< ((1 : Int32) &&& 31)) + (1 : Int32)))] [(.ref a1), (.int ((i28 &&& (255 : Int32)) <<< ((0 : Int32) &&& 31)))])) (fun _ k_ => XS.aloadN X2.here hx rfl (hb hby d13_46) rfl rfl  k_) ?_
  refine own_k (T' := T2) (g' := (mkF m 48 #[.val (.ref a1), .val (.int ((i2 <<< ((1 : Int32) &&& 31)) + (1 : Int32)))] [(.int ((i2 <<< ((1 : Int32) &&& 31)) + (1 : Int32))), (.ref a1), (.int ((i28 &&& (255 : Int32)) <<< ((0 : Int32) &&& 31)))])) (fun _ k_ => XS.iloadN X2.here hx rfl (hb hby d13_47) rfl  k_) ?_
  refine own_baload X2 hx hZ e2 h_4 (j := ((i2 <<< ((1 : Int32) &&& 31)) + (1 : Int32))) ⟨h_5, h_6⟩ (v := (.int i29)) h_7 (hb hby d13_48) ?_
  show own_Go p e below Φ T2 (mkF m 49 #[.val (.ref a1), .val (.int ((i2 <<< ((1 : Int32) &&& 31)) + (1 : Int32)))] [(.int i29), (.int ((i28 &&& (255 : Int32)) <<< ((0 : Int32) &&& 31)))])
  refine own_k (T' := T2) (g' := (mkF m 52 #[.val (.ref a1), .val (.int ((i2 <<< ((1 : Int32) &&& 31)) + (1 : Int32)))] [(.int (255 : Int32)), (.int i29), (.int ((i28 &&& (255 : Int32)) <<< ((0 : Int32) &&& 31)))])) (fun _ k_ => XS.sipush X2.here hx rfl (hb hby d13_49) k_) ?_
  refine own_k (T' := T2) (g' := (mkF m 53 #[.val (.ref a1), .val (.int ((i2 <<< ((1 : Int32) &&& 31)) + (1 : Int32)))] [(.int (i29 &&& (255 : Int32))), (.int ((i28 &&& (255 : Int32)) <<< ((0 : Int32) &&& 31)))])) (fun _ k_ => XS.iand X2.here hx rfl (hb hby d13_52) rfl k_) ?_
  obtain ⟨T3, X3, e3, st3⟩ := getS2 X2 hx hZ hown (host := "") (Or.inl (hw _ (List.mem_of_getElem? (i := 56) rfl))) Via.refl e2 (S_g_LO_BYTE_SHIFT.ext O0.2) (g := (mkF m 53 #[.val (.ref a1), .val (.int ((i2 <<< ((1 : Int32) &&& 31)) + (1 : Int32)))] [(.int (i29 &&& (255 : Int32))), (.int ((i28 &&& (255 : Int32)) <<< ((0 : Int32) &&& 31)))])) rfl (hb hby d13_53)
  refine own_k (T' := T3) (g' := (mkF m 56 #[.val (.ref a1), .val (.int ((i2 <<< ((1 : Int32) &&& 31)) + (1 : Int32)))] [(.int (8 : Int32)), (.int (i29 &&& (255 : Int32))), (.int ((i28 &&& (255 : Int32)) <<< ((0 : Int32) &&& 31)))])) st3 ?_
  refine own_k (T' := T3) (g' := (mkF m 57 #[.val (.ref a1), .val (.int ((i2 <<< ((1 : Int32) &&& 31)) + (1 : Int32)))] [(.int ((i29 &&& (255 : Int32)) <<< ((8 : Int32) &&& 31))), (.int ((i28 &&& (255 : Int32)) <<< ((0 : Int32) &&& 31)))])) (fun _ k_ => XS.ishl X3.here hx rfl (hb hby d13_56) rfl k_) ?_
  refine own_k (T' := T3) (g' := (mkF m 58 #[.val (.ref a1), .val (.int ((i2 <<< ((1 : Int32) &&& 31)) + (1 : Int32)))] [(.int (((i28 &&& (255 : Int32)) <<< ((0 : Int32) &&& 31)) ||| ((i29 &&& (255 : Int32)) <<< ((8 : Int32) &&& 31))))])) (fun _ k_ => XS.ior X3.here hx rfl (hb hby d13_57) rfl k_) ?_
  refine own_k (T' := T3) (g' := (mkF m 59 #[.val (.ref a1), .val (.int ((i2 <<< ((1 : Int32) &&& 31)) + (1 : Int32)))] [(.int ((((i28 &&& (255 : Int32)) <<< ((0 : Int32) &&& 31)) ||| ((i29 &&& (255 : Int32)) <<< ((8 : Int32) &&& 31))).toUInt32.toUInt16.toUInt32.toInt32))])) (fun _ k_ => XS.i2c X3.here hx rfl (hb hby d13_58) rfl k_) ?_
  exact own_retN X3 hx (t := .char) hret (by simp) hlk (hb hby d13_59) hF (by rw [e3]; exact ⟨by rw [show nar .char ((((i28 &&& (255 : Int32)) <<< ((0 : Int32) &&& 31)) ||| ((i29 &&& (255 : Int32)) <<< ((8 : Int32) &&& 31))).toUInt32.toUInt16.toUInt32.toInt32) = ((((i28 &&& (255 : Int32)) <<< ((0 : Int32) &&& 31)) ||| ((i29 &&& (255 : Int32)) <<< ((8 : Int32) &&& 31))).toUInt32.toUInt16.toUInt32.toInt32) from own_nar_char _], N0, rfl⟩) (by decide) (by decide)
theorem d5_35 : decode jdk_52_method_16_code 35 = .ok (.sipush 255, 3) := by decide +kernel
theorem d5_38 : decode jdk_52_method_16_code 38 = .ok (.if_icmp .gt 16, 3) := by decide +kernel
theorem d5_54 : decode jdk_52_method_16_code 54 = .ok (.aload 5, 2) := by decide +kernel
theorem d5_56 : decode jdk_52_method_16_code 56 = .ok (.areturn, 1) := by decide +kernel
set_option maxRecDepth 65536 in
set_option maxHeartbeats 40000000 in
theorem rm_compress3 (l : Launch) (Z : State) (a0 : Array Value) (g_COMPACT_STRINGS : Int32) (g_SIOOBE_FORMATTER : Value) (hW : own_W Z a0 g_COMPACT_STRINGS g_SIOOBE_FORMATTER) (b : Addr) (kc : ClassId) (c0 : Int32) (c1 : Int32) (c2 : Int32) (c3 : Int32) (c4 : Int32) (c5 : Int32) (c6 : Int32) (c7 : Int32) (c8 : Int32) (c9 : Int32) (c10 : Int32) (c11 : Int32) (h0 : Heap) (O0 : Old Z Z.heap.size h0) (hA : Arv Z h0 b kc .char (12 : Int32) [(.int c0), (.int c1), (.int c2), (.int c3), (.int c4), (.int c5), (.int c6), (.int c7), (.int c8), (.int c9), (.int c10), (.int c11)] (.int (0 : Int32))) (r0 : own_ok c0) (r1 : own_ok c1) (r2 : own_ok c2) (r3 : own_ok c3) (r4 : own_ok c4) (r5 : own_ok c5) (r6 : own_ok c6) (r7 : own_ok c7) (r8 : own_ok c8) (r9 : own_ok c9) (r10 : own_ok c10) (r11 : own_ok c11) :
    own_Met l Z (⟨"java/lang/StringUTF16", "compress", "([CII)[B"⟩ : MethodName) jdk_52_method_16_code 6 (some (.array .byte)) ({ frames := 3, cells := 2, slots := 36, locals := 40 } : Room) #[(.ref b), (.int (0 : Int32)), (.int (12 : Int32))] h0 (fun v h L => (∃ (t : Addr) (kb : ClassId), v = some (.ref t) ∧ h0.size ≤ t ∧ own_Byt Z h t kb [c0, c1, c2, c3, c4, c5, c6, c7, c8, c9, c10, c11]) ∧ Fr Z.heap.size L ∧ Keep h0 h []) := by
  have hW_ := hW
  obtain ⟨hw, S_g_COMPACT_STRINGS, P_g_COMPACT_STRINGS, R_g_SIOOBE_FORMATTER, S_g_SIOOBE_FORMATTER, S_g__assertionsDisabled, S_g_HI_BYTE_SHIFT, S_g_LO_BYTE_SHIFT⟩ := hW_
  refine own_met (plainFor_of_name pn_java_lang_StringUTF16) ?_
  intro p e s m below meth cc_ s₁ Φ hF X0 hx hby hml hZ hown hnm hret hlk e0
  have N0 := Fr.nil Z.heap.size
  refine own_k (T' := s₁) (g' := (mkF m 0 #[.val (.ref b), .val (.int (0 : Int32)), .val (.int (12 : Int32)), .unset, .unset, .unset] [])) (fun _ k_ => castTop (ef_5_RII m b (0 : Int32) (12 : Int32)) k_) ?_
  refine own_k (T' := s₁) (g' := (mkF m 1 #[.val (.ref b), .val (.int (0 : Int32)), .val (.int (12 : Int32)), .unset, .unset, .unset] [(.int (12 : Int32))])) (fun _ k_ => XS.iloadN X0.here hx rfl (hb hby d5_0) rfl  k_) ?_
  obtain ⟨T1, h1, k1, X1, e1, E1, V1, A1, st1⟩ := own_newarr (pc := 1) (Ls := #[.val (.ref b), .val (.int (0 : Int32)), .val (.int (12 : Int32)), .unset, .unset, .unset]) (rest := []) X0 hx hZ (hw _ (List.mem_of_getElem? (i := 26) rfl)) e0 (hb hby d5_1) (n := (12 : Int32)) (by decide) (cap := 12) (by decide) (by decide) (by decide) (by decide) (ad := "[B") (by decide)
  obtain ⟨b1, g1⟩ : ∃ z, z = h0.size := ⟨_, rfl⟩
  rw [← g1] at V1 A1 st1
  have O1' := O0.ext E1
  have V1 : Arv Z h1 b1 k1 .byte (12 : Int32) [(.int (0 : Int32)), (.int (0 : Int32)), (.int (0 : Int32)), (.int (0 : Int32)), (.int (0 : Int32)), (.int (0 : Int32)), (.int (0 : Int32)), (.int (0 : Int32)), (.int (0 : Int32)), (.int (0 : Int32)), (.int (0 : Int32)), (.int (0 : Int32))] (.int (0 : Int32)) := V1
  refine own_k (T' := T1) (g' := (mkF m 3 #[.val (.ref b), .val (.int (0 : Int32)), .val (.int (12 : Int32)), .unset, .unset, .unset] [(.ref b1)])) st1 ?_
  refine own_k (T' := T1) (g' := (mkF m 4 #[.val (.ref b), .val (.int (0 : Int32)), .val (.int (12 : Int32)), .val (.ref b1), .unset, .unset] [])) (fun _ k_ => XS.astoreN X1.here hx rfl (hb hby d5_3) rfl rfl (l' := #[.val (.ref b), .val (.int (0 : Int32)), .val (.int (12 : Int32)), .val (.ref b1), .unset, .unset]) rfl k_) ?_
  refine own_k (T' := T1) (g' := (mkF m 5 #[.val (.ref b), .val (.int (0 : Int32)), .val (.int (12 : Int32)), .val (.ref b1), .unset, .unset] [(.ref b)])) (fun _ k_ => XS.aloadN X1.here hx rfl (hb hby d5_4) rfl rfl  k_) ?_
  refine own_k (T' := T1) (g' := (mkF m 6 #[.val (.ref b), .val (.int (0 : Int32)), .val (.int (12 : Int32)), .val (.ref b1), .unset, .unset] [(.int (0 : Int32)), (.ref b)])) (fun _ k_ => XS.iloadN X1.here hx rfl (hb hby d5_5) rfl  k_) ?_
  refine own_k (T' := T1) (g' := (mkF m 7 #[.val (.ref b), .val (.int (0 : Int32)), .val (.int (12 : Int32)), .val (.ref b1), .unset, .unset] [(.ref b1), (.int (0 : Int32)), (.ref b)])) (fun _ k_ => XS.aloadN X1.here hx rfl (hb hby d5_6) rfl rfl  k_) ?_
  refine own_k (T' := T1) (g' := (mkF m 8 #[.val (.ref b), .val (.int (0 : Int32)), .val (.int (12 : Int32)), .val (.ref b1), .unset, .unset] [(.int (0 : Int32)), (.ref b1), (.int (0 : Int32)), (.ref b)])) (fun _ k_ => XS.iconst X1.here hx rfl (hb hby d5_7) k_) ?_
  refine own_k (T' := T1) (g' := (mkF m 9 #[.val (.ref b), .val (.int (0 : Int32)), .val (.int (12 : Int32)), .val (.ref b1), .unset, .unset] [(.int (12 : Int32)), (.int (0 : Int32)), (.ref b1), (.int (0 : Int32)), (.ref b)])) (fun _ k_ => XS.iloadN X1.here hx rfl (hb hby d5_8) rfl  k_) ?_
  refine own_callS X1 hx hZ (y := (⟨"java/lang/StringUTF16", "compress", "([CI[BII)I"⟩ : MethodName)) hown (hw _ (List.mem_of_getElem? (i := 27) rfl)) (hw _ (List.mem_of_getElem? (i := 28) rfl)) (hw _ (List.mem_of_getElem? (i := 24) rfl)) (hw _ (List.mem_of_getElem? (i := 29) rfl)) (by decide) (al := [(.ref b), (.int (0 : Int32)), (.ref b1), (.int (0 : Int32)), (.int (12 : Int32))]) (rm_compress5 l Z a0 g_COMPACT_STRINGS g_SIOOBE_FORMATTER hW b b1 kc k1 c0 c1 c2 c3 c4 c5 c6 c7 c8 c9 c10 c11 h1 O1' (hA.ext E1) V1 (Nat.le_trans O0.2.1 (Nat.le_of_eq g1.symm)) (Nat.ne_of_lt (Nat.lt_of_lt_of_le hA.lt (Nat.le_of_eq g1.symm)))) 0 (by decide) (by decide) e1 (by decide) (by decide) (by rw [hml]; rfl) (lenOf pd__28_5bCI_5bBII_29I rfl) rfl (rest := []) (by show 2 * 0 + _ ≤ _; exact Nat.le_of_eq rfl) (hb hby d5_9) ?_
  intro v2 T2 L2 X2 hQ2
  obtain ⟨⟨r, rfl, hr⟩, Nq2, K2⟩ := hQ2
  have N2 := Fr.app N0 Nq2
  have O2' := O1'.keep K2 (allS (Nat.le_trans O0.2.1 (Nat.le_of_eq g1.symm)) all0)
  show own_Go p e below Φ T2 (mkF m 12 #[.val (.ref b), .val (.int (0 : Int32)), .val (.int (12 : Int32)), .val (.ref b1), .unset, .unset] [(.int r)])
  rcases hr with ⟨rfl, hlat, hAd⟩ | ⟨hb1, hb2, hgt_ch⟩
  · refine own_k (T' := T2) (g' := (mkF m 14 #[.val (.ref b), .val (.int (0 : Int32)), .val (.int (12 : Int32)), .val (.ref b1), .val (.int (12 : Int32)), .unset] [])) (fun _ k_ => XS.istore X2.here hx rfl (hb hby d5_12) rfl (l' := #[.val (.ref b), .val (.int (0 : Int32)), .val (.int (12 : Int32)), .val (.ref b1), .val (.int (12 : Int32)), .unset]) rfl k_) ?_
    refine own_k (T' := T2) (g' := (mkF m 16 #[.val (.ref b), .val (.int (0 : Int32)), .val (.int (12 : Int32)), .val (.ref b1), .val (.int (12 : Int32)), .unset] [(.int (12 : Int32))])) (fun _ k_ => XS.iload X2.here hx rfl (hb hby d5_14) rfl  k_) ?_
    refine own_k (T' := T2) (g' := (mkF m 17 #[.val (.ref b), .val (.int (0 : Int32)), .val (.int (12 : Int32)), .val (.ref b1), .val (.int (12 : Int32)), .unset] [(.int (12 : Int32)), (.int (12 : Int32))])) (fun _ k_ => XS.iloadN X2.here hx rfl (hb hby d5_16) rfl  k_) ?_
    refine own_k (T' := T2) (g' := (mkF m 57 #[.val (.ref b), .val (.int (0 : Int32)), .val (.int (12 : Int32)), .val (.ref b1), .val (.int (12 : Int32)), .unset] [])) (fun _ k_ => XS.icmpYes X2.here hx rfl (pc0 := 17) (pc' := 57) rfl (hb hby d5_17) rfl ((teq (by decide : ((12 : Int32) = (12 : Int32)))).1) (by decide) (by decide) k_) ?_
    refine own_k (T' := T2) (g' := (mkF m 58 #[.val (.ref b), .val (.int (0 : Int32)), .val (.int (12 : Int32)), .val (.ref b1), .val (.int (12 : Int32)), .unset] [(.ref b1)])) (fun _ k_ => XS.aloadN X2.here hx rfl (hb hby d5_57) rfl rfl  k_) ?_
    have kp0 : Keep h0 h0 [] := Keep.refl h0 []
    have kp1 : Keep h0 h1 [] := kp0.ext E1
    have kp2 : Keep h0 T2.heap [] := kp1.trans K2 (allS (Or.inr (Nat.le_trans kp0.1 (Nat.le_of_eq g1.symm))) all0)
    exact own_retA X2 hx hret rfl rfl hlk (hb hby d5_58) hF (⟨⟨b1, k1, rfl, Nat.le_trans kp0.1 (Nat.le_of_eq g1.symm), Or.inl ⟨hAd, hlat⟩⟩, N2, kp2⟩) (by decide) (by decide)
  · have hb_r : 0 ≤ r.toInt ∧ r.toInt < 12 := ⟨hb1, hb2⟩
    obtain ⟨ch, hch⟩ : ∃ c, c = [c0, c1, c2, c3, c4, c5, c6, c7, c8, c9, c10, c11].getD r.toNatClampNeg (0 : Int32) := ⟨_, rfl⟩
    rw [← hch] at hgt_ch
    have hok_ch : own_ok ch := hch ▸ own_ok_getD (own_all_12 r0 r1 r2 r3 r4 r5 r6 r7 r8 r9 r10 r11) _
    refine own_k (T' := T2) (g' := (mkF m 14 #[.val (.ref b), .val (.int (0 : Int32)), .val (.int (12 : Int32)), .val (.ref b1), .val (.int r), .unset] [])) (fun _ k_ => XS.istore X2.here hx rfl (hb hby d5_12) rfl (l' := #[.val (.ref b), .val (.int (0 : Int32)), .val (.int (12 : Int32)), .val (.ref b1), .val (.int r), .unset]) rfl k_) ?_
    refine own_k (T' := T2) (g' := (mkF m 16 #[.val (.ref b), .val (.int (0 : Int32)), .val (.int (12 : Int32)), .val (.ref b1), .val (.int r), .unset] [(.int r)])) (fun _ k_ => XS.iload X2.here hx rfl (hb hby d5_14) rfl  k_) ?_
    refine own_k (T' := T2) (g' := (mkF m 17 #[.val (.ref b), .val (.int (0 : Int32)), .val (.int (12 : Int32)), .val (.ref b1), .val (.int r), .unset] [(.int (12 : Int32)), (.int r)])) (fun _ k_ => XS.iloadN X2.here hx rfl (hb hby d5_16) rfl  k_) ?_
    refine own_k (T' := T2) (g' := (mkF m 20 #[.val (.ref b), .val (.int (0 : Int32)), .val (.int (12 : Int32)), .val (.ref b1), .val (.int r), .unset] [])) (fun _ k_ => XS.icmpNo X2.here hx rfl (hb hby d5_17) rfl ((feq (own_bnd hb_r).2.2.2.2.2.2).1) k_) ?_
    refine own_k (T' := T2) (g' := (mkF m 21 #[.val (.ref b), .val (.int (0 : Int32)), .val (.int (12 : Int32)), .val (.ref b1), .val (.int r), .unset] [(.ref b)])) (fun _ k_ => XS.aloadN X2.here hx rfl (hb hby d5_20) rfl rfl  k_) ?_
    refine own_k (T' := T2) (g' := (mkF m 22 #[.val (.ref b), .val (.int (0 : Int32)), .val (.int (12 : Int32)), .val (.ref b1), .val (.int r), .unset] [(.int (0 : Int32)), (.ref b)])) (fun _ k_ => XS.iloadN X2.here hx rfl (hb hby d5_21) rfl  k_) ?_
    refine own_k (T' := T2) (g' := (mkF m 23 #[.val (.ref b), .val (.int (0 : Int32)), .val (.int (12 : Int32)), .val (.ref b1), .val (.int r), .unset] [(.int (12 : Int32)), (.int (0 : Int32)), (.ref b)])) (fun _ k_ => XS.iloadN X2.here hx rfl (hb hby d5_22) rfl  k_) ?_
    have f4 := ((hA.ext E1).keep K2 (ninS (Nat.ne_of_lt (Nat.lt_of_lt_of_le hA.lt (Nat.le_of_eq g1.symm))) nin0))
    refine own_callS X2 hx hZ (y := (⟨"java/lang/StringUTF16", "toBytes", "([CII)[B"⟩ : MethodName)) hown (hw _ (List.mem_of_getElem? (i := 41) rfl)) (hw _ (List.mem_of_getElem? (i := 42) rfl)) (hw _ (List.mem_of_getElem? (i := 24) rfl)) (hw _ (List.mem_of_getElem? (i := 43) rfl)) (by decide) (al := [(.ref b), (.int (0 : Int32)), (.int (12 : Int32))]) (rm_toBytes_14 l Z a0 g_COMPACT_STRINGS g_SIOOBE_FORMATTER hW b kc c0 c1 c2 c3 c4 c5 c6 c7 c8 c9 c10 c11 T2.heap O2' f4) 0 (by decide) (by decide) rfl (by decide) (by decide) (by rw [hml]; rfl) (lenOf pd__28_5bCII_29_5bB rfl) rfl (rest := []) (by show 2 * 0 + _ ≤ _; exact Nat.le_of_eq rfl) (hb hby d5_23) ?_
    intro v3 T3 L3 X3 hQ3
    obtain ⟨b3_0, k3_1, rfl, Nq3, K3, ge3_0, q3_0, q3_1⟩ := hQ3
    have N3 := Fr.app N2 Nq3
    have O3' := O2'.keep K3 all0
    show own_Go p e below Φ T3 (mkF m 26 #[.val (.ref b), .val (.int (0 : Int32)), .val (.int (12 : Int32)), .val (.ref b1), .val (.int r), .unset] [(.ref b3_0)])
    refine own_k (T' := T3) (g' := (mkF m 28 #[.val (.ref b), .val (.int (0 : Int32)), .val (.int (12 : Int32)), .val (.ref b1), .val (.int r), .val (.ref b3_0)] [])) (fun _ k_ => XS.astore X3.here hx rfl (hb hby d5_26) rfl rfl (l' := #[.val (.ref b), .val (.int (0 : Int32)), .val (.int (12 : Int32)), .val (.ref b1), .val (.int r), .val (.ref b3_0)]) rfl k_) ?_
    refine own_k (T' := T3) (g' := (mkF m 30 #[.val (.ref b), .val (.int (0 : Int32)), .val (.int (12 : Int32)), .val (.ref b1), .val (.int r), .val (.ref b3_0)] [(.ref b3_0)])) (fun _ k_ => XS.aload X3.here hx rfl (hb hby d5_28) rfl rfl  k_) ?_
    refine own_k (T' := T3) (g' := (mkF m 32 #[.val (.ref b), .val (.int (0 : Int32)), .val (.int (12 : Int32)), .val (.ref b1), .val (.int r), .val (.ref b3_0)] [(.int r), (.ref b3_0)])) (fun _ k_ => XS.iload X3.here hx rfl (hb hby d5_30) rfl  k_) ?_
    refine own_callS X3 hx hZ (y := (⟨"java/lang/StringUTF16", "getChar", "([BI)C"⟩ : MethodName)) hown (hw _ (List.mem_of_getElem? (i := 57) rfl)) (hw _ (List.mem_of_getElem? (i := 58) rfl)) (hw _ (List.mem_of_getElem? (i := 24) rfl)) (hw _ (List.mem_of_getElem? (i := 59) rfl)) (by decide) (al := [(.ref b3_0), (.int r)]) (rm_getChar_15 l Z a0 g_COMPACT_STRINGS g_SIOOBE_FORMATTER hW b3_0 r k3_1 ((c0 >>> ((0 : Int32) &&& 31)).toInt8.toInt32) ((c0 >>> ((8 : Int32) &&& 31)).toInt8.toInt32) ((c1 >>> ((0 : Int32) &&& 31)).toInt8.toInt32) ((c1 >>> ((8 : Int32) &&& 31)).toInt8.toInt32) ((c2 >>> ((0 : Int32) &&& 31)).toInt8.toInt32) ((c2 >>> ((8 : Int32) &&& 31)).toInt8.toInt32) ((c3 >>> ((0 : Int32) &&& 31)).toInt8.toInt32) ((c3 >>> ((8 : Int32) &&& 31)).toInt8.toInt32) ((c4 >>> ((0 : Int32) &&& 31)).toInt8.toInt32) ((c4 >>> ((8 : Int32) &&& 31)).toInt8.toInt32) ((c5 >>> ((0 : Int32) &&& 31)).toInt8.toInt32) ((c5 >>> ((8 : Int32) &&& 31)).toInt8.toInt32) ((c6 >>> ((0 : Int32) &&& 31)).toInt8.toInt32) ((c6 >>> ((8 : Int32) &&& 31)).toInt8.toInt32) ((c7 >>> ((0 : Int32) &&& 31)).toInt8.toInt32) ((c7 >>> ((8 : Int32) &&& 31)).toInt8.toInt32) ((c8 >>> ((0 : Int32) &&& 31)).toInt8.toInt32) ((c8 >>> ((8 : Int32) &&& 31)).toInt8.toInt32) ((c9 >>> ((0 : Int32) &&& 31)).toInt8.toInt32) ((c9 >>> ((8 : Int32) &&& 31)).toInt8.toInt32) ((c10 >>> ((0 : Int32) &&& 31)).toInt8.toInt32) ((c10 >>> ((8 : Int32) &&& 31)).toInt8.toInt32) ((c11 >>> ((0 : Int32) &&& 31)).toInt8.toInt32) ((c11 >>> ((8 : Int32) &&& 31)).toInt8.toInt32) ((ch >>> ((0 : Int32) &&& 31)).toInt8.toInt32) ((ch >>> ((8 : Int32) &&& 31)).toInt8.toInt32) T3.heap O3' (own_bnd hb_r).2.2.1 (own_bnd hb_r).2.2.2.1 ((congrArg (fun z => (own_utf [c0, c1, c2, c3, c4, c5, c6, c7, c8, c9, c10, c11]).getD z (.int (0 : Int32))) (own_idx_lo ⟨hb_r.1, by omega⟩)).trans ((own_utf_lo [c0, c1, c2, c3, c4, c5, c6, c7, c8, c9, c10, c11] _).trans (by rw [← hch]))) q3_1 (own_bnd hb_r).2.2.2.2.1 (own_bnd hb_r).2.2.2.2.2.1 ((congrArg (fun z => (own_utf [c0, c1, c2, c3, c4, c5, c6, c7, c8, c9, c10, c11]).getD z (.int (0 : Int32))) (own_idx_hi ⟨hb_r.1, by omega⟩)).trans ((own_utf_hi [c0, c1, c2, c3, c4, c5, c6, c7, c8, c9, c10, c11] _).trans (by rw [← hch])))) 0 (by decide) (by decide) rfl (by decide) (by decide) (by rw [hml]; rfl) (lenOf pd__28_5bBI_29C rfl) rfl (rest := []) (by show 2 * 0 + _ ≤ _; exact Nat.le_of_eq rfl) (hb hby d5_32) ?_
    intro v5 T5 L5 X5 hQ5
    obtain ⟨rfl, Nq5, e5⟩ := hQ5
    have N5 := Fr.app N3 Nq5
    show own_Go p e below Φ T5 (mkF m 35 #[.val (.ref b), .val (.int (0 : Int32)), .val (.int (12 : Int32)), .val (.ref b1), .val (.int r), .val (.ref b3_0)] [(.int ((((((ch >>> ((0 : Int32) &&& 31)).toInt8.toInt32) &&& (255 : Int32)) <<< ((0 : Int32) &&& 31)) ||| ((((ch >>> ((8 : Int32) &&& 31)).toInt8.toInt32) &&& (255 : Int32)) <<< ((8 : Int32) &&& 31))).toUInt32.toUInt16.toUInt32.toInt32))])
    refine own_k (T' := T5) (g' := (mkF m 38 #[.val (.ref b), .val (.int (0 : Int32)), .val (.int (12 : Int32)), .val (.ref b1), .val (.int r), .val (.ref b3_0)] [(.int (255 : Int32)), (.int ((((((ch >>> ((0 : Int32) &&& 31)).toInt8.toInt32) &&& (255 : Int32)) <<< ((0 : Int32) &&& 31)) ||| ((((ch >>> ((8 : Int32) &&& 31)).toInt8.toInt32) &&& (255 : Int32)) <<< ((8 : Int32) &&& 31))).toUInt32.toUInt16.toUInt32.toInt32))])) (fun _ k_ => XS.sipush X5.here hx rfl (hb hby d5_35) k_) ?_
    refine own_k (T' := T5) (g' := (mkF m 54 #[.val (.ref b), .val (.int (0 : Int32)), .val (.int (12 : Int32)), .val (.ref b1), .val (.int r), .val (.ref b3_0)] [])) (fun _ k_ => XS.icmpYes X5.here hx rfl (pc0 := 38) (pc' := 54) rfl (hb hby d5_38) rfl ((tlt (own_rec_gt hok_ch hgt_ch)).2.2.1) (by decide) (by decide) k_) ?_
    refine own_k (T' := T5) (g' := (mkF m 56 #[.val (.ref b), .val (.int (0 : Int32)), .val (.int (12 : Int32)), .val (.ref b1), .val (.int r), .val (.ref b3_0)] [(.ref b3_0)])) (fun _ k_ => XS.aload X5.here hx rfl (hb hby d5_54) rfl rfl  k_) ?_
    have kp0 : Keep h0 h0 [] := Keep.refl h0 []
    have kp1 : Keep h0 h1 [] := kp0.ext E1
    have kp2 : Keep h0 T2.heap [] := kp1.trans K2 (allS (Or.inr (Nat.le_trans kp0.1 (Nat.le_of_eq g1.symm))) all0)
    have kp3 : Keep h0 T3.heap [] := kp2.trans K3 all0
    exact own_retA X5 hx hret rfl rfl hlk (hb hby d5_56) hF (by rw [e5]; exact ⟨⟨b3_0, k3_1, rfl, Nat.le_trans kp2.1 ge3_0, Or.inr q3_1⟩, N5, kp3⟩) (by decide) (by decide)
theorem ef_3_RRIIN (m : MethodId) (x0 : Addr) (x1 : Addr) (x2 : Int32) (x3 : Int32)  : entryFrame m #[(.ref x0), (.ref x1), (.int x2), (.int x3), .null] 6 = mkF m 0 #[.val (.ref x0), .val (.ref x1), .val (.int x2), .val (.int x3), .val .null, .unset] [] := by first | (simp [entryFrame, mkF, argsToLocals, Value.category]; done) | rfl
theorem pn_java_lang_String : plainName "java/lang/String" = true := by first | (simp [plainName, overriddenIn]; done) | decide +kernel
theorem d3_0 : decode jdk_42_method_149_code 0 = .ok (.aload_n 0, 1) := by decide +kernel
theorem d3_1 : decode jdk_42_method_149_code 1 = .ok (.invokespecial 1, 3) := by decide +kernel
theorem d3_4 : decode jdk_42_method_149_code 4 = .ok (.iload_n 3, 1) := by decide +kernel
theorem d3_5 : decode jdk_42_method_149_code 5 = .ok (.ifCond .ne 22, 3) := by decide +kernel
theorem d3_27 : decode jdk_42_method_149_code 27 = .ok (.getstatic 38, 3) := by decide +kernel
theorem d3_30 : decode jdk_42_method_149_code 30 = .ok (.ifCond .eq 28, 3) := by decide +kernel
theorem d3_33 : decode jdk_42_method_149_code 33 = .ok (.aload_n 1, 1) := by decide +kernel
theorem d3_34 : decode jdk_42_method_149_code 34 = .ok (.iload_n 2, 1) := by decide +kernel
theorem d3_35 : decode jdk_42_method_149_code 35 = .ok (.iload_n 3, 1) := by decide +kernel
theorem d3_36 : decode jdk_42_method_149_code 36 = .ok (.invokestatic 177, 3) := by decide +kernel
theorem d3_39 : decode jdk_42_method_149_code 39 = .ok (.astore 5, 2) := by decide +kernel
theorem d3_41 : decode jdk_42_method_149_code 41 = .ok (.aload_n 0, 1) := by decide +kernel
theorem d3_42 : decode jdk_42_method_149_code 42 = .ok (.aload 5, 2) := by decide +kernel
theorem d3_44 : decode jdk_42_method_149_code 44 = .ok (.iload_n 3, 1) := by decide +kernel
theorem d3_45 : decode jdk_42_method_149_code 45 = .ok (.invokestatic 47, 3) := by decide +kernel
theorem pd__28_5bBI_29B : parseMethodDescriptor "([BI)B" = some ⟨[(.array .byte), .int], some .byte⟩ := by decide +kernel
theorem ef_7_RI (m : MethodId) (x0 : Addr) (x1 : Int32)  : entryFrame m #[(.ref x0), (.int x1)] 2 = mkF m 0 #[.val (.ref x0), .val (.int x1)] [] := by first | (simp [entryFrame, mkF, argsToLocals, Value.category]; done) | rfl
theorem d7_0 : decode jdk_52_method_15_code 0 = .ok (.iload_n 1, 1) := by decide +kernel
theorem d7_1 : decode jdk_52_method_15_code 1 = .ok (.aload_n 0, 1) := by decide +kernel
theorem d7_2 : decode jdk_52_method_15_code 2 = .ok (.arraylength, 1) := by decide +kernel
theorem d7_3 : decode jdk_52_method_15_code 3 = .ok (.isub, 1) := by decide +kernel
theorem d7_4 : decode jdk_52_method_15_code 4 = .ok (.bipush 31, 2) := by decide +kernel
theorem d7_6 : decode jdk_52_method_15_code 6 = .ok (.iushr, 1) := by decide +kernel
theorem d7_7 : decode jdk_52_method_15_code 7 = .ok (.i2b, 1) := by decide +kernel
theorem d7_8 : decode jdk_52_method_15_code 8 = .ok (.ireturn, 1) := by decide +kernel
set_option maxRecDepth 65536 in
set_option maxHeartbeats 40000000 in
theorem rm_coderFromArrayLen_16 (l : Launch) (Z : State) (a0 : Array Value) (g_COMPACT_STRINGS : Int32) (g_SIOOBE_FORMATTER : Value) (hW : own_W Z a0 g_COMPACT_STRINGS g_SIOOBE_FORMATTER) (a1 : Addr) (q2 : ClassId) (l3 : List Value) (h0 : Heap) (O0 : Old Z Z.heap.size h0) (h_1 : Arv Z h0 a1 q2 .byte (12 : Int32) l3 (.int (0 : Int32))) :
    own_Met l Z (⟨"java/lang/StringUTF16", "coderFromArrayLen", "([BI)B"⟩ : MethodName) jdk_52_method_15_code 2 (some .byte) ({ frames := 0, cells := 0, slots := 0, locals := 0 } : Room) #[(.ref a1), (.int (12 : Int32))] h0 (fun v h L => v = some (.int (0 : Int32)) ∧ Fr Z.heap.size L ∧ h = h0) := by
  have hW_ := hW
  obtain ⟨hw, S_g_COMPACT_STRINGS, P_g_COMPACT_STRINGS, R_g_SIOOBE_FORMATTER, S_g_SIOOBE_FORMATTER, S_g__assertionsDisabled, S_g_HI_BYTE_SHIFT, S_g_LO_BYTE_SHIFT⟩ := hW_
  refine own_met (plainFor_of_name pn_java_lang_StringUTF16) ?_
  intro p e s m below meth cc_ s₁ Φ hF X0 hx hby hml hZ hown hnm hret hlk e0
  have N0 := Fr.nil Z.heap.size
  refine own_k (T' := s₁) (g' := (mkF m 0 #[.val (.ref a1), .val (.int (12 : Int32))] [])) (fun _ k_ => castTop (ef_7_RI m a1 (12 : Int32)) k_) ?_
  refine own_k (T' := s₁) (g' := (mkF m 1 #[.val (.ref a1), .val (.int (12 : Int32))] [(.int (12 : Int32))])) (fun _ k_ => XS.iloadN X0.here hx rfl (hb hby d7_0) rfl  k_) ?_
  refine own_k (T' := s₁) (g' := (mkF m 2 #[.val (.ref a1), .val (.int (12 : Int32))] [(.ref a1), (.int (12 : Int32))])) (fun _ k_ => XS.aloadN X0.here hx rfl (hb hby d7_1) rfl rfl  k_) ?_
  refine own_len X0 hx hZ e0 h_1 (hb hby d7_2) ?_
  show own_Go p e below Φ s₁ (mkF m 3 #[.val (.ref a1), .val (.int (12 : Int32))] [(.int (12 : Int32)), (.int (12 : Int32))])
  refine own_k (T' := s₁) (g' := (mkF m 4 #[.val (.ref a1), .val (.int (12 : Int32))] [(.int ((12 : Int32) - (12 : Int32)))])) (fun _ k_ => XS.isub X0.here hx rfl (hb hby d7_3) rfl k_) ?_
  rw [show ((12 : Int32) - (12 : Int32)) = (0 : Int32) from by decide]
  refine own_k (T' := s₁) (g' := (mkF m 6 #[.val (.ref a1), .val (.int (12 : Int32))] [(.int (31 : Int32)), (.int (0 : Int32))])) (fun _ k_ => XS.bipush X0.here hx rfl (hb hby d7_4) k_) ?_
  refine own_k (T' := s₁) (g' := (mkF m 7 #[.val (.ref a1), .val (.int (12 : Int32))] [(.int (((0 : Int32).toUInt32 >>> ((31 : Int32) &&& 31).toUInt32).toInt32))])) (fun _ k_ => XS.iushr X0.here hx rfl (hb hby d7_6) rfl k_) ?_
  rw [show (((0 : Int32).toUInt32 >>> ((31 : Int32) &&& 31).toUInt32).toInt32) = (0 : Int32) from by decide]
  refine own_k (T' := s₁) (g' := (mkF m 8 #[.val (.ref a1), .val (.int (12 : Int32))] [(.int ((0 : Int32).toInt8.toInt32))])) (fun _ k_ => XS.i2b X0.here hx rfl (hb hby d7_7) rfl k_) ?_
  rw [show ((0 : Int32).toInt8.toInt32) = (0 : Int32) from by decide]
  exact own_retN X0 hx (t := .byte) hret (by simp) hlk (hb hby d7_8) hF (by rw [e0]; exact ⟨by rw [show nar .byte (0 : Int32) = (0 : Int32) from by decide], N0, rfl⟩) (by decide) (by decide)
theorem d3_48 : decode jdk_42_method_149_code 48 = .ok (.putfield 15, 3) := by decide +kernel
theorem d3_51 : decode jdk_42_method_149_code 51 = .ok (.aload_n 0, 1) := by decide +kernel
theorem d3_52 : decode jdk_42_method_149_code 52 = .ok (.aload 5, 2) := by decide +kernel
theorem d3_54 : decode jdk_42_method_149_code 54 = .ok (.putfield 9, 3) := by decide +kernel
theorem d3_57 : decode jdk_42_method_149_code 57 = .ok (.return_, 1) := by decide +kernel
set_option maxRecDepth 65536 in
set_option maxHeartbeats 40000000 in
theorem rm_coderFromArrayLen_17 (l : Launch) (Z : State) (a0 : Array Value) (g_COMPACT_STRINGS : Int32) (g_SIOOBE_FORMATTER : Value) (hW : own_W Z a0 g_COMPACT_STRINGS g_SIOOBE_FORMATTER) (a1 : Addr) (q2 : ClassId) (l3 : List Value) (h0 : Heap) (O0 : Old Z Z.heap.size h0) (h_1 : Arv Z h0 a1 q2 .byte (24 : Int32) l3 (.int (0 : Int32))) :
    own_Met l Z (⟨"java/lang/StringUTF16", "coderFromArrayLen", "([BI)B"⟩ : MethodName) jdk_52_method_15_code 2 (some .byte) ({ frames := 0, cells := 0, slots := 0, locals := 0 } : Room) #[(.ref a1), (.int (12 : Int32))] h0 (fun v h L => v = some (.int (1 : Int32)) ∧ Fr Z.heap.size L ∧ h = h0) := by
  have hW_ := hW
  obtain ⟨hw, S_g_COMPACT_STRINGS, P_g_COMPACT_STRINGS, R_g_SIOOBE_FORMATTER, S_g_SIOOBE_FORMATTER, S_g__assertionsDisabled, S_g_HI_BYTE_SHIFT, S_g_LO_BYTE_SHIFT⟩ := hW_
  refine own_met (plainFor_of_name pn_java_lang_StringUTF16) ?_
  intro p e s m below meth cc_ s₁ Φ hF X0 hx hby hml hZ hown hnm hret hlk e0
  have N0 := Fr.nil Z.heap.size
  refine own_k (T' := s₁) (g' := (mkF m 0 #[.val (.ref a1), .val (.int (12 : Int32))] [])) (fun _ k_ => castTop (ef_7_RI m a1 (12 : Int32)) k_) ?_
  refine own_k (T' := s₁) (g' := (mkF m 1 #[.val (.ref a1), .val (.int (12 : Int32))] [(.int (12 : Int32))])) (fun _ k_ => XS.iloadN X0.here hx rfl (hb hby d7_0) rfl  k_) ?_
  refine own_k (T' := s₁) (g' := (mkF m 2 #[.val (.ref a1), .val (.int (12 : Int32))] [(.ref a1), (.int (12 : Int32))])) (fun _ k_ => XS.aloadN X0.here hx rfl (hb hby d7_1) rfl rfl  k_) ?_
  refine own_len X0 hx hZ e0 h_1 (hb hby d7_2) ?_
  show own_Go p e below Φ s₁ (mkF m 3 #[.val (.ref a1), .val (.int (12 : Int32))] [(.int (24 : Int32)), (.int (12 : Int32))])
  refine own_k (T' := s₁) (g' := (mkF m 4 #[.val (.ref a1), .val (.int (12 : Int32))] [(.int ((12 : Int32) - (24 : Int32)))])) (fun _ k_ => XS.isub X0.here hx rfl (hb hby d7_3) rfl k_) ?_
  rw [show ((12 : Int32) - (24 : Int32)) = (-12 : Int32) from by decide]
  refine own_k (T' := s₁) (g' := (mkF m 6 #[.val (.ref a1), .val (.int (12 : Int32))] [(.int (31 : Int32)), (.int (-12 : Int32))])) (fun _ k_ => XS.bipush X0.here hx rfl (hb hby d7_4) k_) ?_
  refine own_k (T' := s₁) (g' := (mkF m 7 #[.val (.ref a1), .val (.int (12 : Int32))] [(.int (((-12 : Int32).toUInt32 >>> ((31 : Int32) &&& 31).toUInt32).toInt32))])) (fun _ k_ => XS.iushr X0.here hx rfl (hb hby d7_6) rfl k_) ?_
  rw [show (((-12 : Int32).toUInt32 >>> ((31 : Int32) &&& 31).toUInt32).toInt32) = (1 : Int32) from by decide]
  refine own_k (T' := s₁) (g' := (mkF m 8 #[.val (.ref a1), .val (.int (12 : Int32))] [(.int ((1 : Int32).toInt8.toInt32))])) (fun _ k_ => XS.i2b X0.here hx rfl (hb hby d7_7) rfl k_) ?_
  rw [show ((1 : Int32).toInt8.toInt32) = (1 : Int32) from by decide]
  exact own_retN X0 hx (t := .byte) hret (by simp) hlk (hb hby d7_8) hF (by rw [e0]; exact ⟨by rw [show nar .byte (1 : Int32) = (1 : Int32) from by decide], N0, rfl⟩) (by decide) (by decide)
set_option maxRecDepth 65536 in
set_option maxHeartbeats 40000000 in
theorem rm_init4 (l : Launch) (Z : State) (a0 : Array Value) (g_COMPACT_STRINGS : Int32) (g_SIOOBE_FORMATTER : Value) (hW : own_W Z a0 g_COMPACT_STRINGS g_SIOOBE_FORMATTER) (x : Addr) (b : Addr) (kc : ClassId) (c0 : Int32) (c1 : Int32) (c2 : Int32) (c3 : Int32) (c4 : Int32) (c5 : Int32) (c6 : Int32) (c7 : Int32) (c8 : Int32) (c9 : Int32) (c10 : Int32) (c11 : Int32) (h0 : Heap) (O0 : Old Z Z.heap.size h0) (hE : Exa Z h0 x "java/lang/String") (hV : Fld Z h0 x "java/lang/String" "value" "[B" .null) (hC : Fld Z h0 x "java/lang/String" "coder" "B" (.int (0 : Int32))) (hA : Arv Z h0 b kc .char (12 : Int32) [(.int c0), (.int c1), (.int c2), (.int c3), (.int c4), (.int c5), (.int c6), (.int c7), (.int c8), (.int c9), (.int c10), (.int c11)] (.int (0 : Int32))) (hg : Z.heap.size ≤ x) (hne : x ≠ b) (r0 : own_ok c0) (r1 : own_ok c1) (r2 : own_ok c2) (r3 : own_ok c3) (r4 : own_ok c4) (r5 : own_ok c5) (r6 : own_ok c6) (r7 : own_ok c7) (r8 : own_ok c8) (r9 : own_ok c9) (r10 : own_ok c10) (r11 : own_ok c11) :
    own_Met l Z (⟨"java/lang/String", "<init>", "([CIILjava/lang/Void;)V"⟩ : MethodName) jdk_42_method_149_code 6 none ({ frames := 4, cells := 2, slots := 36, locals := 57 } : Room) #[(.ref x), (.ref b), (.int (0 : Int32)), (.int (12 : Int32)), .null] h0 (fun v h L => v = none ∧ Fr Z.heap.size L ∧ Keep h0 h [x] ∧ own_Str Z h x [c0, c1, c2, c3, c4, c5, c6, c7, c8, c9, c10, c11]) := by
  have hW_ := hW
  obtain ⟨hw, S_g_COMPACT_STRINGS, P_g_COMPACT_STRINGS, R_g_SIOOBE_FORMATTER, S_g_SIOOBE_FORMATTER, S_g__assertionsDisabled, S_g_HI_BYTE_SHIFT, S_g_LO_BYTE_SHIFT⟩ := hW_
  refine own_met (plainFor_of_name pn_java_lang_String) ?_
  intro p e s m below meth cc_ s₁ Φ hF X0 hx hby hml hZ hown hnm hret hlk e0
  have N0 := Fr.nil Z.heap.size
  refine own_k (T' := s₁) (g' := (mkF m 0 #[.val (.ref x), .val (.ref b), .val (.int (0 : Int32)), .val (.int (12 : Int32)), .val .null, .unset] [])) (fun _ k_ => castTop (ef_3_RRIIN m x b (0 : Int32) (12 : Int32)) k_) ?_
  refine own_k (T' := s₁) (g' := (mkF m 1 #[.val (.ref x), .val (.ref b), .val (.int (0 : Int32)), .val (.int (12 : Int32)), .val .null, .unset] [(.ref x)])) (fun _ k_ => XS.aloadN X0.here hx rfl (hb hby d3_0) rfl rfl  k_) ?_
  obtain ⟨T1, X1, e1, st1⟩ := initO X0 hx hZ hown (hw _ (List.mem_of_getElem? (i := 18) rfl)) (hw _ (List.mem_of_getElem? (i := 19) rfl)) (hw _ (List.mem_of_getElem? (i := 20) rfl)) e0 (g := (mkF m 1 #[.val (.ref x), .val (.ref b), .val (.int (0 : Int32)), .val (.int (12 : Int32)), .val .null, .unset] [(.ref x)])) rfl (by rw [hml]; rfl) rfl (hb hby d3_1) (by decide) (W := 0) (by show 2 * 0 + _ ≤ _; exact Nat.le_of_eq rfl) (by decide)
  refine own_k (T' := T1) (g' := (mkF m 4 #[.val (.ref x), .val (.ref b), .val (.int (0 : Int32)), .val (.int (12 : Int32)), .val .null, .unset] [])) st1 ?_
  refine own_k (T' := T1) (g' := (mkF m 5 #[.val (.ref x), .val (.ref b), .val (.int (0 : Int32)), .val (.int (12 : Int32)), .val .null, .unset] [(.int (12 : Int32))])) (fun _ k_ => XS.iloadN X1.here hx rfl (hb hby d3_4) rfl  k_) ?_
  refine own_k (T' := T1) (g' := (mkF m 27 #[.val (.ref x), .val (.ref b), .val (.int (0 : Int32)), .val (.int (12 : Int32)), .val .null, .unset] [])) (fun _ k_ => XS.ifYes X1.here hx rfl (pc0 := 5) (pc' := 27) rfl (hb hby d3_5) rfl ((if0 _ _).trans (feq (by decide : ¬ ((12 : Int32) = (0 : Int32)))).2) (by decide) (by decide) k_) ?_
  obtain ⟨T2, X2, e2, st2⟩ := getS2 X1 hx hZ hown (host := "") (Or.inl (hw _ (List.mem_of_getElem? (i := 21) rfl))) Via.refl e1 (S_g_COMPACT_STRINGS.ext O0.2) (g := (mkF m 27 #[.val (.ref x), .val (.ref b), .val (.int (0 : Int32)), .val (.int (12 : Int32)), .val .null, .unset] [])) rfl (hb hby d3_27)
  refine own_k (T' := T2) (g' := (mkF m 30 #[.val (.ref x), .val (.ref b), .val (.int (0 : Int32)), .val (.int (12 : Int32)), .val .null, .unset] [(.int g_COMPACT_STRINGS)])) st2 ?_
  refine own_k (T' := T2) (g' := (mkF m 33 #[.val (.ref x), .val (.ref b), .val (.int (0 : Int32)), .val (.int (12 : Int32)), .val .null, .unset] [])) (fun _ k_ => XS.ifNo X2.here hx rfl (hb hby d3_30) rfl ((if0 _ _).trans (feq P_g_COMPACT_STRINGS).1) k_) ?_
  refine own_k (T' := T2) (g' := (mkF m 34 #[.val (.ref x), .val (.ref b), .val (.int (0 : Int32)), .val (.int (12 : Int32)), .val .null, .unset] [(.ref b)])) (fun _ k_ => XS.aloadN X2.here hx rfl (hb hby d3_33) rfl rfl  k_) ?_
  refine own_k (T' := T2) (g' := (mkF m 35 #[.val (.ref x), .val (.ref b), .val (.int (0 : Int32)), .val (.int (12 : Int32)), .val .null, .unset] [(.int (0 : Int32)), (.ref b)])) (fun _ k_ => XS.iloadN X2.here hx rfl (hb hby d3_34) rfl  k_) ?_
  refine own_k (T' := T2) (g' := (mkF m 36 #[.val (.ref x), .val (.ref b), .val (.int (0 : Int32)), .val (.int (12 : Int32)), .val .null, .unset] [(.int (12 : Int32)), (.int (0 : Int32)), (.ref b)])) (fun _ k_ => XS.iloadN X2.here hx rfl (hb hby d3_35) rfl  k_) ?_
  refine own_callS X2 hx hZ (y := (⟨"java/lang/StringUTF16", "compress", "([CII)[B"⟩ : MethodName)) hown (hw _ (List.mem_of_getElem? (i := 22) rfl)) (hw _ (List.mem_of_getElem? (i := 23) rfl)) (hw _ (List.mem_of_getElem? (i := 24) rfl)) (hw _ (List.mem_of_getElem? (i := 25) rfl)) (by decide) (al := [(.ref b), (.int (0 : Int32)), (.int (12 : Int32))]) (rm_compress3 l Z a0 g_COMPACT_STRINGS g_SIOOBE_FORMATTER hW b kc c0 c1 c2 c3 c4 c5 c6 c7 c8 c9 c10 c11 h0 O0 hA r0 r1 r2 r3 r4 r5 r6 r7 r8 r9 r10 r11) 0 (by decide) (by decide) e2 (by decide) (by decide) (by rw [hml]; rfl) (lenOf pd__28_5bCII_29_5bB rfl) rfl (rest := []) (by show 2 * 0 + _ ≤ _; exact Nat.le_of_eq rfl) (hb hby d3_36) ?_
  intro v3 T3 L3 X3 hQ3
  obtain ⟨⟨t, kb, rfl, hge, hby_⟩, Nq3, K3⟩ := hQ3
  have N3 := Fr.app N0 Nq3
  have O3' := O0.keep K3 all0
  show own_Go p e below Φ T3 (mkF m 39 #[.val (.ref x), .val (.ref b), .val (.int (0 : Int32)), .val (.int (12 : Int32)), .val .null, .unset] [(.ref t)])
  rcases hby_ with ⟨hAd, hlat⟩ | hAd
  · refine own_k (T' := T3) (g' := (mkF m 41 #[.val (.ref x), .val (.ref b), .val (.int (0 : Int32)), .val (.int (12 : Int32)), .val .null, .val (.ref t)] [])) (fun _ k_ => XS.astore X3.here hx rfl (hb hby d3_39) rfl rfl (l' := #[.val (.ref x), .val (.ref b), .val (.int (0 : Int32)), .val (.int (12 : Int32)), .val .null, .val (.ref t)]) rfl k_) ?_
    refine own_k (T' := T3) (g' := (mkF m 42 #[.val (.ref x), .val (.ref b), .val (.int (0 : Int32)), .val (.int (12 : Int32)), .val .null, .val (.ref t)] [(.ref x)])) (fun _ k_ => XS.aloadN X3.here hx rfl (hb hby d3_41) rfl rfl  k_) ?_
    refine own_k (T' := T3) (g' := (mkF m 44 #[.val (.ref x), .val (.ref b), .val (.int (0 : Int32)), .val (.int (12 : Int32)), .val .null, .val (.ref t)] [(.ref t), (.ref x)])) (fun _ k_ => XS.aload X3.here hx rfl (hb hby d3_42) rfl rfl  k_) ?_
    refine own_k (T' := T3) (g' := (mkF m 45 #[.val (.ref x), .val (.ref b), .val (.int (0 : Int32)), .val (.int (12 : Int32)), .val .null, .val (.ref t)] [(.int (12 : Int32)), (.ref t), (.ref x)])) (fun _ k_ => XS.iloadN X3.here hx rfl (hb hby d3_44) rfl  k_) ?_
    refine own_callS X3 hx hZ (y := (⟨"java/lang/StringUTF16", "coderFromArrayLen", "([BI)B"⟩ : MethodName)) hown (hw _ (List.mem_of_getElem? (i := 30) rfl)) (hw _ (List.mem_of_getElem? (i := 31) rfl)) (hw _ (List.mem_of_getElem? (i := 24) rfl)) (hw _ (List.mem_of_getElem? (i := 32) rfl)) (by decide) (al := [(.ref t), (.int (12 : Int32))]) (rm_coderFromArrayLen_16 l Z a0 g_COMPACT_STRINGS g_SIOOBE_FORMATTER hW t kb (own_lat [c0, c1, c2, c3, c4, c5, c6, c7, c8, c9, c10, c11]) T3.heap O3' hAd) 1 (by decide) (by decide) rfl (by decide) (by decide) (by rw [hml]; rfl) (lenOf pd__28_5bBI_29B rfl) rfl (rest := [(.ref x)]) (by show 2 * 0 + _ ≤ _; exact Nat.le_of_eq rfl) (hb hby d3_45) ?_
    intro v4 T4 L4 X4 hQ4
    obtain ⟨rfl, Nq4, e4⟩ := hQ4
    have N4 := Fr.app N3 Nq4
    show own_Go p e below Φ T4 (mkF m 48 #[.val (.ref x), .val (.ref b), .val (.int (0 : Int32)), .val (.int (12 : Int32)), .val .null, .val (.ref t)] [(.int (0 : Int32)), (.ref x)])
    obtain ⟨T5, h5, X5, e5, W5, st5⟩ := putFN X4 hx hZ hown (hw _ (List.mem_of_getElem? (i := 33) rfl)) Via.refl e4 (hC.keep K3 nin0) (hE.keep K3) (Or.inr ⟨(hw _ (List.mem_of_getElem? (i := 34) rfl)), rfl, hnm⟩) (hw _ (List.mem_of_getElem? (i := 9) rfl)) (ty := .byte) (v' := (.int (nar .byte (0 : Int32)))) (by decide) rfl (fits_nar_byte _) (g := (mkF m 48 #[.val (.ref x), .val (.ref b), .val (.int (0 : Int32)), .val (.int (12 : Int32)), .val .null, .val (.ref t)] [(.int (0 : Int32)), (.ref x)])) rfl rfl (hb hby d3_48)
    have w5 := Fld.same W5 (hC.keep K3 nin0)
    rw [show nar .byte (0 : Int32) = (0 : Int32) from by decide] at w5
    have O5' := O3'.wr W5 hg
    have N5 := Fr.snoc X5 N4 hg
    refine own_k (T' := T5) (g' := (mkF m 51 #[.val (.ref x), .val (.ref b), .val (.int (0 : Int32)), .val (.int (12 : Int32)), .val .null, .val (.ref t)] [])) st5 ?_
    refine own_k (T' := T5) (g' := (mkF m 52 #[.val (.ref x), .val (.ref b), .val (.int (0 : Int32)), .val (.int (12 : Int32)), .val .null, .val (.ref t)] [(.ref x)])) (fun _ k_ => XS.aloadN X5.here hx rfl (hb hby d3_51) rfl rfl  k_) ?_
    refine own_k (T' := T5) (g' := (mkF m 54 #[.val (.ref x), .val (.ref b), .val (.int (0 : Int32)), .val (.int (12 : Int32)), .val .null, .val (.ref t)] [(.ref t), (.ref x)])) (fun _ k_ => XS.aload X5.here hx rfl (hb hby d3_52) rfl rfl  k_) ?_
    have f6 := ((hV.keep K3 nin0).other W5 (Or.inr (slot_ne (Or.inr (hw _ (List.mem_of_getElem? (i := 36) rfl))) (Or.inr (hw _ (List.mem_of_getElem? (i := 34) rfl))) (by decide) (t := (.array .byte)) (t' := .byte) (by decide) (by decide))))
    obtain ⟨T7, h7, X7, e7, W7, st7⟩ := putF X5 hx hZ hown (host := "") (Or.inl (hw _ (List.mem_of_getElem? (i := 35) rfl))) Via.refl e5 f6 ((hE.keep K3).wr W5) (Or.inr ⟨(hw _ (List.mem_of_getElem? (i := 36) rfl)), rfl, hnm⟩) (hw _ (List.mem_of_getElem? (i := 9) rfl)) (ty := (.array .byte)) (by decide) rfl rfl (g := (mkF m 54 #[.val (.ref x), .val (.ref b), .val (.int (0 : Int32)), .val (.int (12 : Int32)), .val .null, .val (.ref t)] [(.ref t), (.ref x)])) rfl rfl (hb hby d3_54)
    have w7 := Fld.same W7 f6
    have O7' := O5'.wr W7 hg
    have N7 := Fr.snoc X7 N5 hg
    refine own_k (T' := T7) (g' := (mkF m 57 #[.val (.ref x), .val (.ref b), .val (.int (0 : Int32)), .val (.int (12 : Int32)), .val .null, .val (.ref t)] [])) st7 ?_
    have kp0 : Keep h0 h0 [x] := Keep.refl h0 [x]
    have kp1 : Keep h0 T3.heap [x] := kp0.trans K3 all0
    have kp2 : Keep h0 h5 [x] := kp1.wr W5 (Or.inl (List.mem_of_getElem? (i := 0) rfl))
    have kp3 : Keep h0 h7 [x] := kp2.wr W7 (Or.inl (List.mem_of_getElem? (i := 0) rfl))
    have f8 := (w5.other W7 (Or.inr (slot_ne (Or.inr (hw _ (List.mem_of_getElem? (i := 34) rfl))) (Or.inr (hw _ (List.mem_of_getElem? (i := 36) rfl))) (by decide) (t := .byte) (t' := (.array .byte)) (by decide) (by decide))))
    have f9 := ((hAd.other W5 (Ne.symm (Nat.ne_of_lt (Nat.lt_of_lt_of_le hE.lt hge)))).other W7 (Ne.symm (Nat.ne_of_lt (Nat.lt_of_lt_of_le hE.lt hge))))
    exact own_ret0 X7 hx hret hlk (hb hby d3_57) hF (by rw [e7]; exact ⟨rfl, N7, kp3, t, kb, (((hE.keep K3).wr W5).wr W7), w7, Or.inl ⟨f8, f9, hlat⟩⟩) (by decide) (by decide)
  · refine own_k (T' := T3) (g' := (mkF m 41 #[.val (.ref x), .val (.ref b), .val (.int (0 : Int32)), .val (.int (12 : Int32)), .val .null, .val (.ref t)] [])) (fun _ k_ => XS.astore X3.here hx rfl (hb hby d3_39) rfl rfl (l' := #[.val (.ref x), .val (.ref b), .val (.int (0 : Int32)), .val (.int (12 : Int32)), .val .null, .val (.ref t)]) rfl k_) ?_
    refine own_k (T' := T3) (g' := (mkF m 42 #[.val (.ref x), .val (.ref b), .val (.int (0 : Int32)), .val (.int (12 : Int32)), .val .null, .val (.ref t)] [(.ref x)])) (fun _ k_ => XS.aloadN X3.here hx rfl (hb hby d3_41) rfl rfl  k_) ?_
    refine own_k (T' := T3) (g' := (mkF m 44 #[.val (.ref x), .val (.ref b), .val (.int (0 : Int32)), .val (.int (12 : Int32)), .val .null, .val (.ref t)] [(.ref t), (.ref x)])) (fun _ k_ => XS.aload X3.here hx rfl (hb hby d3_42) rfl rfl  k_) ?_
    refine own_k (T' := T3) (g' := (mkF m 45 #[.val (.ref x), .val (.ref b), .val (.int (0 : Int32)), .val (.int (12 : Int32)), .val .null, .val (.ref t)] [(.int (12 : Int32)), (.ref t), (.ref x)])) (fun _ k_ => XS.iloadN X3.here hx rfl (hb hby d3_44) rfl  k_) ?_
    refine own_callS X3 hx hZ (y := (⟨"java/lang/StringUTF16", "coderFromArrayLen", "([BI)B"⟩ : MethodName)) hown (hw _ (List.mem_of_getElem? (i := 30) rfl)) (hw _ (List.mem_of_getElem? (i := 31) rfl)) (hw _ (List.mem_of_getElem? (i := 24) rfl)) (hw _ (List.mem_of_getElem? (i := 32) rfl)) (by decide) (al := [(.ref t), (.int (12 : Int32))]) (rm_coderFromArrayLen_17 l Z a0 g_COMPACT_STRINGS g_SIOOBE_FORMATTER hW t kb (own_utf [c0, c1, c2, c3, c4, c5, c6, c7, c8, c9, c10, c11]) T3.heap O3' hAd) 1 (by decide) (by decide) rfl (by decide) (by decide) (by rw [hml]; rfl) (lenOf pd__28_5bBI_29B rfl) rfl (rest := [(.ref x)]) (by show 2 * 0 + _ ≤ _; exact Nat.le_of_eq rfl) (hb hby d3_45) ?_
    intro v10 T10 L10 X10 hQ10
    obtain ⟨rfl, Nq10, e10⟩ := hQ10
    have N10 := Fr.app N3 Nq10
    show own_Go p e below Φ T10 (mkF m 48 #[.val (.ref x), .val (.ref b), .val (.int (0 : Int32)), .val (.int (12 : Int32)), .val .null, .val (.ref t)] [(.int (1 : Int32)), (.ref x)])
    obtain ⟨T11, h11, X11, e11, W11, st11⟩ := putFN X10 hx hZ hown (hw _ (List.mem_of_getElem? (i := 33) rfl)) Via.refl e10 (hC.keep K3 nin0) (hE.keep K3) (Or.inr ⟨(hw _ (List.mem_of_getElem? (i := 34) rfl)), rfl, hnm⟩) (hw _ (List.mem_of_getElem? (i := 9) rfl)) (ty := .byte) (v' := (.int (nar .byte (1 : Int32)))) (by decide) rfl (fits_nar_byte _) (g := (mkF m 48 #[.val (.ref x), .val (.ref b), .val (.int (0 : Int32)), .val (.int (12 : Int32)), .val .null, .val (.ref t)] [(.int (1 : Int32)), (.ref x)])) rfl rfl (hb hby d3_48)
    have w11 := Fld.same W11 (hC.keep K3 nin0)
    rw [show nar .byte (1 : Int32) = (1 : Int32) from by decide] at w11
    have O11' := O3'.wr W11 hg
    have N11 := Fr.snoc X11 N10 hg
    refine own_k (T' := T11) (g' := (mkF m 51 #[.val (.ref x), .val (.ref b), .val (.int (0 : Int32)), .val (.int (12 : Int32)), .val .null, .val (.ref t)] [])) st11 ?_
    refine own_k (T' := T11) (g' := (mkF m 52 #[.val (.ref x), .val (.ref b), .val (.int (0 : Int32)), .val (.int (12 : Int32)), .val .null, .val (.ref t)] [(.ref x)])) (fun _ k_ => XS.aloadN X11.here hx rfl (hb hby d3_51) rfl rfl  k_) ?_
    refine own_k (T' := T11) (g' := (mkF m 54 #[.val (.ref x), .val (.ref b), .val (.int (0 : Int32)), .val (.int (12 : Int32)), .val .null, .val (.ref t)] [(.ref t), (.ref x)])) (fun _ k_ => XS.aload X11.here hx rfl (hb hby d3_52) rfl rfl  k_) ?_
    have f12 := ((hV.keep K3 nin0).other W11 (Or.inr (slot_ne (Or.inr (hw _ (List.mem_of_getElem? (i := 36) rfl))) (Or.inr (hw _ (List.mem_of_getElem? (i := 34) rfl))) (by decide) (t := (.array .byte)) (t' := .byte) (by decide) (by decide))))
    obtain ⟨T13, h13, X13, e13, W13, st13⟩ := putF X11 hx hZ hown (host := "") (Or.inl (hw _ (List.mem_of_getElem? (i := 35) rfl))) Via.refl e11 f12 ((hE.keep K3).wr W11) (Or.inr ⟨(hw _ (List.mem_of_getElem? (i := 36) rfl)), rfl, hnm⟩) (hw _ (List.mem_of_getElem? (i := 9) rfl)) (ty := (.array .byte)) (by decide) rfl rfl (g := (mkF m 54 #[.val (.ref x), .val (.ref b), .val (.int (0 : Int32)), .val (.int (12 : Int32)), .val .null, .val (.ref t)] [(.ref t), (.ref x)])) rfl rfl (hb hby d3_54)
    have w13 := Fld.same W13 f12
    have O13' := O11'.wr W13 hg
    have N13 := Fr.snoc X13 N11 hg
    refine own_k (T' := T13) (g' := (mkF m 57 #[.val (.ref x), .val (.ref b), .val (.int (0 : Int32)), .val (.int (12 : Int32)), .val .null, .val (.ref t)] [])) st13 ?_
    have kp0 : Keep h0 h0 [x] := Keep.refl h0 [x]
    have kp1 : Keep h0 T3.heap [x] := kp0.trans K3 all0
    have kp2 : Keep h0 h11 [x] := kp1.wr W11 (Or.inl (List.mem_of_getElem? (i := 0) rfl))
    have kp3 : Keep h0 h13 [x] := kp2.wr W13 (Or.inl (List.mem_of_getElem? (i := 0) rfl))
    have f14 := (w11.other W13 (Or.inr (slot_ne (Or.inr (hw _ (List.mem_of_getElem? (i := 34) rfl))) (Or.inr (hw _ (List.mem_of_getElem? (i := 36) rfl))) (by decide) (t := .byte) (t' := (.array .byte)) (by decide) (by decide))))
    have f15 := ((hAd.other W11 (Ne.symm (Nat.ne_of_lt (Nat.lt_of_lt_of_le hE.lt hge)))).other W13 (Ne.symm (Nat.ne_of_lt (Nat.lt_of_lt_of_le hE.lt hge))))
    exact own_ret0 X13 hx hret hlk (hb hby d3_57) hF (by rw [e13]; exact ⟨rfl, N13, kp3, t, kb, (((hE.keep K3).wr W11).wr W13), w13, Or.inr ⟨f14, f15⟩⟩) (by decide) (by decide)
theorem ef_2_RR (m : MethodId) (x0 : Addr) (x1 : Addr)  : entryFrame m #[(.ref x0), (.ref x1)] 2 = mkF m 0 #[.val (.ref x0), .val (.ref x1)] [] := by first | (simp [entryFrame, mkF, argsToLocals, Value.category]; done) | rfl
theorem d2_0 : decode jdk_42_method_3_code 0 = .ok (.aload_n 0, 1) := by decide +kernel
theorem d2_1 : decode jdk_42_method_3_code 1 = .ok (.aload_n 1, 1) := by decide +kernel
theorem d2_2 : decode jdk_42_method_3_code 2 = .ok (.iconst 0, 1) := by decide +kernel
theorem d2_3 : decode jdk_42_method_3_code 3 = .ok (.aload_n 1, 1) := by decide +kernel
theorem d2_4 : decode jdk_42_method_3_code 4 = .ok (.arraylength, 1) := by decide +kernel
theorem d2_5 : decode jdk_42_method_3_code 5 = .ok (.aconst_null, 1) := by decide +kernel
theorem d2_6 : decode jdk_42_method_3_code 6 = .ok (.invokespecial 27, 3) := by decide +kernel
theorem pd__28_5bCIILjava_2flang_2fVoid_3b_29V : parseMethodDescriptor "([CIILjava/lang/Void;)V" = some ⟨[(.array .char), .int, .int, (.object "java/lang/Void")], none⟩ := by decide +kernel
theorem d2_9 : decode jdk_42_method_3_code 9 = .ok (.return_, 1) := by decide +kernel
set_option maxRecDepth 65536 in
set_option maxHeartbeats 40000000 in
theorem rm_newstr (l : Launch) (Z : State) (a0 : Array Value) (g_COMPACT_STRINGS : Int32) (g_SIOOBE_FORMATTER : Value) (hW : own_W Z a0 g_COMPACT_STRINGS g_SIOOBE_FORMATTER) (x : Addr) (b : Addr) (kc : ClassId) (c0 : Int32) (c1 : Int32) (c2 : Int32) (c3 : Int32) (c4 : Int32) (c5 : Int32) (c6 : Int32) (c7 : Int32) (c8 : Int32) (c9 : Int32) (c10 : Int32) (c11 : Int32) (h0 : Heap) (O0 : Old Z Z.heap.size h0) (hE : Exa Z h0 x "java/lang/String") (hV : Fld Z h0 x "java/lang/String" "value" "[B" .null) (hC : Fld Z h0 x "java/lang/String" "coder" "B" (.int (0 : Int32))) (hA : Arv Z h0 b kc .char (12 : Int32) [(.int c0), (.int c1), (.int c2), (.int c3), (.int c4), (.int c5), (.int c6), (.int c7), (.int c8), (.int c9), (.int c10), (.int c11)] (.int (0 : Int32))) (hg : Z.heap.size ≤ x) (hne : x ≠ b) (r0 : own_ok c0) (r1 : own_ok c1) (r2 : own_ok c2) (r3 : own_ok c3) (r4 : own_ok c4) (r5 : own_ok c5) (r6 : own_ok c6) (r7 : own_ok c7) (r8 : own_ok c8) (r9 : own_ok c9) (r10 : own_ok c10) (r11 : own_ok c11) :
    own_Met l Z (⟨"java/lang/String", "<init>", "([C)V"⟩ : MethodName) jdk_42_method_3_code 2 none ({ frames := 5, cells := 2, slots := 36, locals := 74 } : Room) #[(.ref x), (.ref b)] h0 (fun v h L => v = none ∧ Fr Z.heap.size L ∧ Keep h0 h [x] ∧ own_Str Z h x [c0, c1, c2, c3, c4, c5, c6, c7, c8, c9, c10, c11]) := by
  have hW_ := hW
  obtain ⟨hw, S_g_COMPACT_STRINGS, P_g_COMPACT_STRINGS, R_g_SIOOBE_FORMATTER, S_g_SIOOBE_FORMATTER, S_g__assertionsDisabled, S_g_HI_BYTE_SHIFT, S_g_LO_BYTE_SHIFT⟩ := hW_
  refine own_met (plainFor_of_name pn_java_lang_String) ?_
  intro p e s m below meth cc_ s₁ Φ hF X0 hx hby hml hZ hown hnm hret hlk e0
  have N0 := Fr.nil Z.heap.size
  refine own_k (T' := s₁) (g' := (mkF m 0 #[.val (.ref x), .val (.ref b)] [])) (fun _ k_ => castTop (ef_2_RR m x b) k_) ?_
  refine own_k (T' := s₁) (g' := (mkF m 1 #[.val (.ref x), .val (.ref b)] [(.ref x)])) (fun _ k_ => XS.aloadN X0.here hx rfl (hb hby d2_0) rfl rfl  k_) ?_
  refine own_k (T' := s₁) (g' := (mkF m 2 #[.val (.ref x), .val (.ref b)] [(.ref b), (.ref x)])) (fun _ k_ => XS.aloadN X0.here hx rfl (hb hby d2_1) rfl rfl  k_) ?_
  refine own_k (T' := s₁) (g' := (mkF m 3 #[.val (.ref x), .val (.ref b)] [(.int (0 : Int32)), (.ref b), (.ref x)])) (fun _ k_ => XS.iconst X0.here hx rfl (hb hby d2_2) k_) ?_
  refine own_k (T' := s₁) (g' := (mkF m 4 #[.val (.ref x), .val (.ref b)] [(.ref b), (.int (0 : Int32)), (.ref b), (.ref x)])) (fun _ k_ => XS.aloadN X0.here hx rfl (hb hby d2_3) rfl rfl  k_) ?_
  refine own_len X0 hx hZ e0 hA (hb hby d2_4) ?_
  show own_Go p e below Φ s₁ (mkF m 5 #[.val (.ref x), .val (.ref b)] [(.int (12 : Int32)), (.int (0 : Int32)), (.ref b), (.ref x)])
  refine own_k (T' := s₁) (g' := (mkF m 6 #[.val (.ref x), .val (.ref b)] [.null, (.int (12 : Int32)), (.int (0 : Int32)), (.ref b), (.ref x)])) (fun _ k_ => XS.aconstNull X0.here hx rfl (hb hby d2_5) k_) ?_
  refine own_callN X0 hx hZ (y := (⟨"java/lang/String", "<init>", "([CIILjava/lang/Void;)V"⟩ : MethodName)) rfl hown (hw _ (List.mem_of_getElem? (i := 14) rfl)) (hw _ (List.mem_of_getElem? (i := 15) rfl)) (hw _ (List.mem_of_getElem? (i := 17) rfl)) (hw _ (List.mem_of_getElem? (i := 10) rfl)) (by decide) (al := [(.ref b), (.int (0 : Int32)), (.int (12 : Int32)), .null]) (b := x) (rm_init4 l Z a0 g_COMPACT_STRINGS g_SIOOBE_FORMATTER hW x b kc c0 c1 c2 c3 c4 c5 c6 c7 c8 c9 c10 c11 h0 O0 hE hV hC hA hg hne r0 r1 r2 r3 r4 r5 r6 r7 r8 r9 r10 r11) 0 (by decide) (by decide) e0 (by decide) (by decide) (by rw [hml]; rfl) (lenOf pd__28_5bCIILjava_2flang_2fVoid_3b_29V rfl) rfl (rest := []) (by show 2 * 0 + _ ≤ _; exact Nat.le_of_eq rfl) (hb hby d2_6) ?_
  intro v1 T1 L1 X1 hQ1
  obtain ⟨rfl, Nq1, K1, hS⟩ := hQ1
  have N1 := Fr.app N0 Nq1
  have O1' := O0.keep K1 (allS hg all0)
  show own_Go p e below Φ T1 (mkF m 9 #[.val (.ref x), .val (.ref b)] [])
  have K := K1
  exact own_ret0 X1 hx hret hlk (hb hby d2_9) hF (⟨rfl, N1, K, hS⟩) (by decide) (by decide)
theorem ef_14_RI (m : MethodId) (x0 : Addr) (x1 : Int32)  : entryFrame m #[(.ref x0), (.int x1)] 2 = mkF m 0 #[.val (.ref x0), .val (.int x1)] [] := by first | (simp [entryFrame, mkF, argsToLocals, Value.category]; done) | rfl
theorem d14_0 : decode jdk_42_method_56_code 0 = .ok (.aload_n 0, 1) := by decide +kernel
theorem d14_1 : decode jdk_42_method_56_code 1 = .ok (.invokevirtual 492, 3) := by decide +kernel
theorem pd__28_29Z : parseMethodDescriptor "()Z" = some ⟨[], some .boolean⟩ := by decide +kernel
theorem ef_15_R (m : MethodId) (x0 : Addr)  : entryFrame m #[(.ref x0)] 1 = mkF m 0 #[.val (.ref x0)] [] := by first | (simp [entryFrame, mkF, argsToLocals, Value.category]; done) | rfl
theorem d15_0 : decode jdk_42_method_154_code 0 = .ok (.getstatic 38, 3) := by decide +kernel
theorem d15_3 : decode jdk_42_method_154_code 3 = .ok (.ifCond .eq 14, 3) := by decide +kernel
theorem d15_6 : decode jdk_42_method_154_code 6 = .ok (.aload_n 0, 1) := by decide +kernel
theorem d15_7 : decode jdk_42_method_154_code 7 = .ok (.getfield 15, 3) := by decide +kernel
theorem d15_10 : decode jdk_42_method_154_code 10 = .ok (.ifCond .ne 7, 3) := by decide +kernel
theorem d15_13 : decode jdk_42_method_154_code 13 = .ok (.iconst 1, 1) := by decide +kernel
theorem d15_14 : decode jdk_42_method_154_code 14 = .ok (.goto 4, 3) := by decide +kernel
theorem d15_18 : decode jdk_42_method_154_code 18 = .ok (.ireturn, 1) := by decide +kernel
set_option maxRecDepth 65536 in
set_option maxHeartbeats 40000000 in
theorem rm_isLatin1_18 (l : Launch) (Z : State) (a0 : Array Value) (g_COMPACT_STRINGS : Int32) (g_SIOOBE_FORMATTER : Value) (hW : own_W Z a0 g_COMPACT_STRINGS g_SIOOBE_FORMATTER) (a1 : Addr) (h0 : Heap) (O0 : Old Z Z.heap.size h0) (h_1 : Fld Z h0 a1 "java/lang/String" "coder" "B" (.int (0 : Int32))) :
    own_Met l Z (⟨"java/lang/String", "isLatin1", "()Z"⟩ : MethodName) jdk_42_method_154_code 1 (some .boolean) ({ frames := 0, cells := 0, slots := 0, locals := 0 } : Room) #[(.ref a1)] h0 (fun v h L => v = some (.int (1 : Int32)) ∧ Fr Z.heap.size L ∧ h = h0) := by
  have hW_ := hW
  obtain ⟨hw, S_g_COMPACT_STRINGS, P_g_COMPACT_STRINGS, R_g_SIOOBE_FORMATTER, S_g_SIOOBE_FORMATTER, S_g__assertionsDisabled, S_g_HI_BYTE_SHIFT, S_g_LO_BYTE_SHIFT⟩ := hW_
  refine own_met (plainFor_of_name pn_java_lang_String) ?_
  intro p e s m below meth cc_ s₁ Φ hF X0 hx hby hml hZ hown hnm hret hlk e0
  have N0 := Fr.nil Z.heap.size
  refine own_k (T' := s₁) (g' := (mkF m 0 #[.val (.ref a1)] [])) (fun _ k_ => castTop (ef_15_R m a1) k_) ?_
  obtain ⟨T1, X1, e1, st1⟩ := getS2 X0 hx hZ hown (host := "") (Or.inl (hw _ (List.mem_of_getElem? (i := 21) rfl))) Via.refl e0 (S_g_COMPACT_STRINGS.ext O0.2) (g := (mkF m 0 #[.val (.ref a1)] [])) rfl (hb hby d15_0)
  refine own_k (T' := T1) (g' := (mkF m 3 #[.val (.ref a1)] [(.int g_COMPACT_STRINGS)])) st1 ?_
  refine own_k (T' := T1) (g' := (mkF m 6 #[.val (.ref a1)] [])) (fun _ k_ => XS.ifNo X1.here hx rfl (hb hby d15_3) rfl ((if0 _ _).trans (feq P_g_COMPACT_STRINGS).1) k_) ?_
  refine own_k (T' := T1) (g' := (mkF m 7 #[.val (.ref a1)] [(.ref a1)])) (fun _ k_ => XS.aloadN X1.here hx rfl (hb hby d15_6) rfl rfl  k_) ?_
  obtain ⟨T2, X2, e2, st2⟩ := getF X1 hx hZ hown (host := "") (Or.inl (hw _ (List.mem_of_getElem? (i := 33) rfl))) Via.refl e1 h_1 (g := (mkF m 7 #[.val (.ref a1)] [(.ref a1)])) rfl rfl (hb hby d15_7)
  refine own_k (T' := T2) (g' := (mkF m 10 #[.val (.ref a1)] [(.int (0 : Int32))])) st2 ?_
  refine own_k (T' := T2) (g' := (mkF m 13 #[.val (.ref a1)] [])) (fun _ k_ => XS.ifNo X2.here hx rfl (hb hby d15_10) rfl ((if0 _ _).trans (teq (by decide : ((0 : Int32) = (0 : Int32)))).2) k_) ?_
  refine own_k (T' := T2) (g' := (mkF m 14 #[.val (.ref a1)] [(.int (1 : Int32))])) (fun _ k_ => XS.iconst X2.here hx rfl (hb hby d15_13) k_) ?_
  refine own_k (T' := T2) (g' := (mkF m 18 #[.val (.ref a1)] [(.int (1 : Int32))])) (fun _ k_ => XS.goto X2.here hx rfl (pc0 := 14) (pc' := 18) rfl (hb hby d15_14) (by decide) (by decide) k_) ?_
  exact own_retN X2 hx (t := .boolean) hret (by simp) hlk (hb hby d15_18) hF (by rw [e2]; exact ⟨by rw [show nar .boolean (1 : Int32) = (1 : Int32) from by decide], N0, rfl⟩) (by decide) (by decide)
theorem d14_4 : decode jdk_42_method_56_code 4 = .ok (.ifCond .eq 12, 3) := by decide +kernel
theorem d14_7 : decode jdk_42_method_56_code 7 = .ok (.aload_n 0, 1) := by decide +kernel
theorem d14_8 : decode jdk_42_method_56_code 8 = .ok (.getfield 9, 3) := by decide +kernel
theorem d14_11 : decode jdk_42_method_56_code 11 = .ok (.iload_n 1, 1) := by decide +kernel
theorem d14_12 : decode jdk_42_method_56_code 12 = .ok (.invokestatic 495, 3) := by decide +kernel
theorem ef_24_RI (m : MethodId) (x0 : Addr) (x1 : Int32)  : entryFrame m #[(.ref x0), (.int x1)] 2 = mkF m 0 #[.val (.ref x0), .val (.int x1)] [] := by first | (simp [entryFrame, mkF, argsToLocals, Value.category]; done) | rfl
theorem pn_java_lang_StringLatin1 : plainName "java/lang/StringLatin1" = true := by first | (simp [plainName, overriddenIn]; done) | decide +kernel
theorem d24_0 : decode jdk_43_method_2_code 0 = .ok (.iload_n 1, 1) := by decide +kernel
theorem d24_1 : decode jdk_43_method_2_code 1 = .ok (.aload_n 0, 1) := by decide +kernel
theorem d24_2 : decode jdk_43_method_2_code 2 = .ok (.arraylength, 1) := by decide +kernel
theorem d24_3 : decode jdk_43_method_2_code 3 = .ok (.invokestatic 9, 3) := by decide +kernel
theorem pd__28II_29V : parseMethodDescriptor "(II)V" = some ⟨[.int, .int], none⟩ := by decide +kernel
theorem ef_19_II (m : MethodId) (x0 : Int32) (x1 : Int32)  : entryFrame m #[(.int x0), (.int x1)] 2 = mkF m 0 #[.val (.int x0), .val (.int x1)] [] := by first | (simp [entryFrame, mkF, argsToLocals, Value.category]; done) | rfl
theorem d19_0 : decode jdk_42_method_155_code 0 = .ok (.iload_n 0, 1) := by decide +kernel
theorem d19_1 : decode jdk_42_method_155_code 1 = .ok (.iload_n 1, 1) := by decide +kernel
theorem d19_2 : decode jdk_42_method_155_code 2 = .ok (.getstatic 1053, 3) := by decide +kernel
theorem d19_5 : decode jdk_42_method_155_code 5 = .ok (.invokestatic 1059, 3) := by decide +kernel
theorem pd__28IILjava_2futil_2ffunction_2fBiFunction_3b_29I : parseMethodDescriptor "(IILjava/util/function/BiFunction;)I" = some ⟨[.int, .int, (.object "java/util/function/BiFunction")], some .int⟩ := by decide +kernel
theorem ef_20_IIV (m : MethodId) (x0 : Int32) (x1 : Int32) (x2 : Value) (c2 : x2.category = 1) : entryFrame m #[(.int x0), (.int x1), x2] 3 = mkF m 0 #[.val (.int x0), .val (.int x1), .val x2] [] := by cases x2 <;> first | (simp [entryFrame, mkF, argsToLocals, Value.category]; done) | rfl | (simp [Value.category] at c2)
theorem pn_jdk_internal_util_Preconditions : plainName "jdk/internal/util/Preconditions" = true := by first | (simp [plainName, overriddenIn]; done) | decide +kernel
theorem d20_0 : decode jdk_41_method_11_code 0 = .ok (.iload_n 0, 1) := by decide +kernel
theorem d20_1 : decode jdk_41_method_11_code 1 = .ok (.ifCond .lt 8, 3) := by decide +kernel
theorem d20_4 : decode jdk_41_method_11_code 4 = .ok (.iload_n 0, 1) := by decide +kernel
theorem d20_5 : decode jdk_41_method_11_code 5 = .ok (.iload_n 1, 1) := by decide +kernel
theorem d20_6 : decode jdk_41_method_11_code 6 = .ok (.if_icmp .lt 10, 3) := by decide +kernel
theorem d20_16 : decode jdk_41_method_11_code 16 = .ok (.iload_n 0, 1) := by decide +kernel
theorem d20_17 : decode jdk_41_method_11_code 17 = .ok (.ireturn, 1) := by decide +kernel
set_option maxRecDepth 65536 in
set_option maxHeartbeats 40000000 in
theorem rm_checkIndex_19 (l : Launch) (Z : State) (a0 : Array Value) (g_COMPACT_STRINGS : Int32) (g_SIOOBE_FORMATTER : Value) (hW : own_W Z a0 g_COMPACT_STRINGS g_SIOOBE_FORMATTER) (i1 : Int32) (h0 : Heap) (O0 : Old Z Z.heap.size h0) (h_1 : ¬ (i1 < (0 : Int32))) (h_2 : (i1 < (12 : Int32))) :
    own_Met l Z (⟨"jdk/internal/util/Preconditions", "checkIndex", "(IILjava/util/function/BiFunction;)I"⟩ : MethodName) jdk_41_method_11_code 3 (some .int) ({ frames := 0, cells := 0, slots := 0, locals := 0 } : Room) #[(.int i1), (.int (12 : Int32)), g_SIOOBE_FORMATTER] h0 (fun v h L => v = some (.int i1) ∧ Fr Z.heap.size L ∧ h = h0) := by
  have hW_ := hW
  obtain ⟨hw, S_g_COMPACT_STRINGS, P_g_COMPACT_STRINGS, R_g_SIOOBE_FORMATTER, S_g_SIOOBE_FORMATTER, S_g__assertionsDisabled, S_g_HI_BYTE_SHIFT, S_g_LO_BYTE_SHIFT⟩ := hW_
  refine own_met (plainFor_of_name pn_jdk_internal_util_Preconditions) ?_
  intro p e s m below meth cc_ s₁ Φ hF X0 hx hby hml hZ hown hnm hret hlk e0
  have N0 := Fr.nil Z.heap.size
  refine own_k (T' := s₁) (g' := (mkF m 0 #[.val (.int i1), .val (.int (12 : Int32)), .val g_SIOOBE_FORMATTER] [])) (fun _ k_ => castTop (ef_20_IIV m i1 (12 : Int32) g_SIOOBE_FORMATTER (XT.cat1 R_g_SIOOBE_FORMATTER)) k_) ?_
  refine own_k (T' := s₁) (g' := (mkF m 1 #[.val (.int i1), .val (.int (12 : Int32)), .val g_SIOOBE_FORMATTER] [(.int i1)])) (fun _ k_ => XS.iloadN X0.here hx rfl (hb hby d20_0) rfl  k_) ?_
  refine own_k (T' := s₁) (g' := (mkF m 4 #[.val (.int i1), .val (.int (12 : Int32)), .val g_SIOOBE_FORMATTER] [])) (fun _ k_ => XS.ifNo X0.here hx rfl (hb hby d20_1) rfl ((if0 _ _).trans (flt h_1).1) k_) ?_
  refine own_k (T' := s₁) (g' := (mkF m 5 #[.val (.int i1), .val (.int (12 : Int32)), .val g_SIOOBE_FORMATTER] [(.int i1)])) (fun _ k_ => XS.iloadN X0.here hx rfl (hb hby d20_4) rfl  k_) ?_
  refine own_k (T' := s₁) (g' := (mkF m 6 #[.val (.int i1), .val (.int (12 : Int32)), .val g_SIOOBE_FORMATTER] [(.int (12 : Int32)), (.int i1)])) (fun _ k_ => XS.iloadN X0.here hx rfl (hb hby d20_5) rfl  k_) ?_
  refine own_k (T' := s₁) (g' := (mkF m 16 #[.val (.int i1), .val (.int (12 : Int32)), .val g_SIOOBE_FORMATTER] [])) (fun _ k_ => XS.icmpYes X0.here hx rfl (pc0 := 6) (pc' := 16) rfl (hb hby d20_6) rfl ((tlt h_2).1) (by decide) (by decide) k_) ?_
  refine own_k (T' := s₁) (g' := (mkF m 17 #[.val (.int i1), .val (.int (12 : Int32)), .val g_SIOOBE_FORMATTER] [(.int i1)])) (fun _ k_ => XS.iloadN X0.here hx rfl (hb hby d20_16) rfl  k_) ?_
  exact own_retI X0 hx hret hlk (hb hby d20_17) hF (by rw [e0]; exact ⟨rfl, N0, rfl⟩) (by decide) (by decide)
theorem d19_8 : decode jdk_42_method_155_code 8 = .ok (.pop, 1) := by decide +kernel
theorem d19_9 : decode jdk_42_method_155_code 9 = .ok (.return_, 1) := by decide +kernel
set_option maxRecDepth 65536 in
set_option maxHeartbeats 40000000 in
theorem rm_checkIndex_20 (l : Launch) (Z : State) (a0 : Array Value) (g_COMPACT_STRINGS : Int32) (g_SIOOBE_FORMATTER : Value) (hW : own_W Z a0 g_COMPACT_STRINGS g_SIOOBE_FORMATTER) (i1 : Int32) (h0 : Heap) (O0 : Old Z Z.heap.size h0) (h_1 : ¬ (i1 < (0 : Int32))) (h_2 : (i1 < (12 : Int32))) :
    own_Met l Z (⟨"java/lang/String", "checkIndex", "(II)V"⟩ : MethodName) jdk_42_method_155_code 2 none ({ frames := 1, cells := 0, slots := 0, locals := 14 } : Room) #[(.int i1), (.int (12 : Int32))] h0 (fun v h L => v = none ∧ Fr Z.heap.size L ∧ h = h0) := by
  have hW_ := hW
  obtain ⟨hw, S_g_COMPACT_STRINGS, P_g_COMPACT_STRINGS, R_g_SIOOBE_FORMATTER, S_g_SIOOBE_FORMATTER, S_g__assertionsDisabled, S_g_HI_BYTE_SHIFT, S_g_LO_BYTE_SHIFT⟩ := hW_
  refine own_met (plainFor_of_name pn_java_lang_String) ?_
  intro p e s m below meth cc_ s₁ Φ hF X0 hx hby hml hZ hown hnm hret hlk e0
  have N0 := Fr.nil Z.heap.size
  refine own_k (T' := s₁) (g' := (mkF m 0 #[.val (.int i1), .val (.int (12 : Int32))] [])) (fun _ k_ => castTop (ef_19_II m i1 (12 : Int32)) k_) ?_
  refine own_k (T' := s₁) (g' := (mkF m 1 #[.val (.int i1), .val (.int (12 : Int32))] [(.int i1)])) (fun _ k_ => XS.iloadN X0.here hx rfl (hb hby d19_0) rfl  k_) ?_
  refine own_k (T' := s₁) (g' := (mkF m 2 #[.val (.int i1), .val (.int (12 : Int32))] [(.int (12 : Int32)), (.int i1)])) (fun _ k_ => XS.iloadN X0.here hx rfl (hb hby d19_1) rfl  k_) ?_
  obtain ⟨T1, X1, e1, st1⟩ := getS2 X0 hx hZ hown (host := "") (Or.inl (hw _ (List.mem_of_getElem? (i := 82) rfl))) Via.refl e0 (S_g_SIOOBE_FORMATTER.ext O0.2) (g := (mkF m 2 #[.val (.int i1), .val (.int (12 : Int32))] [(.int (12 : Int32)), (.int i1)])) rfl (hb hby d19_2)
  refine own_k (T' := T1) (g' := (mkF m 5 #[.val (.int i1), .val (.int (12 : Int32))] [g_SIOOBE_FORMATTER, (.int (12 : Int32)), (.int i1)])) st1 ?_
  refine own_callS X1 hx hZ (y := (⟨"jdk/internal/util/Preconditions", "checkIndex", "(IILjava/util/function/BiFunction;)I"⟩ : MethodName)) hown (hw _ (List.mem_of_getElem? (i := 84) rfl)) (hw _ (List.mem_of_getElem? (i := 85) rfl)) (hw _ (List.mem_of_getElem? (i := 83) rfl)) (hw _ (List.mem_of_getElem? (i := 86) rfl)) (by decide) (al := [(.int i1), (.int (12 : Int32)), g_SIOOBE_FORMATTER]) (rm_checkIndex_19 l Z a0 g_COMPACT_STRINGS g_SIOOBE_FORMATTER hW i1 h0 O0 h_1 h_2) 0 (by decide) (by decide) e1 (by decide) (by decide) (by rw [hml]; rfl) (lenOf pd__28IILjava_2futil_2ffunction_2fBiFunction_3b_29I rfl) rfl (rest := []) (by show 2 * 0 + _ ≤ _; exact Nat.le_of_eq rfl) (hb hby d19_5) ?_
  intro v2 T2 L2 X2 hQ2
  obtain ⟨rfl, Nq2, e2⟩ := hQ2
  have N2 := Fr.app N0 Nq2
  show own_Go p e below Φ T2 (mkF m 8 #[.val (.int i1), .val (.int (12 : Int32))] [(.int i1)])
  refine own_k (T' := T2) (g' := (mkF m 9 #[.val (.int i1), .val (.int (12 : Int32))] [])) (fun _ k_ => XS.pop X2.here hx rfl (hb hby d19_8) rfl rfl k_) ?_
  exact own_ret0 X2 hx hret hlk (hb hby d19_9) hF (by rw [e2]; exact ⟨rfl, N2, rfl⟩) (by decide) (by decide)
theorem d24_6 : decode jdk_43_method_2_code 6 = .ok (.aload_n 0, 1) := by decide +kernel
theorem d24_7 : decode jdk_43_method_2_code 7 = .ok (.iload_n 1, 1) := by decide +kernel
theorem d24_8 : decode jdk_43_method_2_code 8 = .ok (.baload, 1) := by decide +kernel
theorem d24_9 : decode jdk_43_method_2_code 9 = .ok (.sipush 255, 3) := by decide +kernel
theorem d24_12 : decode jdk_43_method_2_code 12 = .ok (.iand, 1) := by decide +kernel
theorem d24_13 : decode jdk_43_method_2_code 13 = .ok (.i2c, 1) := by decide +kernel
theorem d24_14 : decode jdk_43_method_2_code 14 = .ok (.ireturn, 1) := by decide +kernel
set_option maxRecDepth 65536 in
set_option maxHeartbeats 40000000 in
theorem rm_charAt_21 (l : Launch) (Z : State) (a0 : Array Value) (g_COMPACT_STRINGS : Int32) (g_SIOOBE_FORMATTER : Value) (hW : own_W Z a0 g_COMPACT_STRINGS g_SIOOBE_FORMATTER) (a1 : Addr) (i2 : Int32) (q3 : ClassId) (l4 : List Value) (i5 : Int32) (h0 : Heap) (O0 : Old Z Z.heap.size h0) (h_1 : Arv Z h0 a1 q3 .byte (12 : Int32) l4 (.int (0 : Int32))) (h_2 : ¬ (i2 < (0 : Int32))) (h_3 : (i2 < (12 : Int32))) (h_4 : (l4 : List Value).getD (i2).toNatClampNeg (.int (0 : Int32)) = (.int i5)) :
    own_Met l Z (⟨"java/lang/StringLatin1", "charAt", "([BI)C"⟩ : MethodName) jdk_43_method_2_code 2 (some .char) ({ frames := 2, cells := 0, slots := 0, locals := 27 } : Room) #[(.ref a1), (.int i2)] h0 (fun v h L => v = some (.int ((i5 &&& (255 : Int32)).toUInt32.toUInt16.toUInt32.toInt32)) ∧ Fr Z.heap.size L ∧ h = h0) := by
  have hW_ := hW
  obtain ⟨hw, S_g_COMPACT_STRINGS, P_g_COMPACT_STRINGS, R_g_SIOOBE_FORMATTER, S_g_SIOOBE_FORMATTER, S_g__assertionsDisabled, S_g_HI_BYTE_SHIFT, S_g_LO_BYTE_SHIFT⟩ := hW_
  refine own_met (plainFor_of_name pn_java_lang_StringLatin1) ?_
  intro p e s m below meth cc_ s₁ Φ hF X0 hx hby hml hZ hown hnm hret hlk e0
  have N0 := Fr.nil Z.heap.size
  refine own_k (T' := s₁) (g' := (mkF m 0 #[.val (.ref a1), .val (.int i2)] [])) (fun _ k_ => castTop (ef_24_RI m a1 i2) k_) ?_
  refine own_k (T' := s₁) (g' := (mkF m 1 #[.val (.ref a1), .val (.int i2)] [(.int i2)])) (fun _ k_ => XS.iloadN X0.here hx rfl (hb hby d24_0) rfl  k_) ?_
  refine own_k (T' := s₁) (g' := (mkF m 2 #[.val (.ref a1), .val (.int i2)] [(.ref a1), (.int i2)])) (fun _ k_ => XS.aloadN X0.here hx rfl (hb hby d24_1) rfl rfl  k_) ?_
  refine own_len X0 hx hZ e0 h_1 (hb hby d24_2) ?_
  show own_Go p e below Φ s₁ (mkF m 3 #[.val (.ref a1), .val (.int i2)] [(.int (12 : Int32)), (.int i2)])
  refine own_callS X0 hx hZ (y := (⟨"java/lang/String", "checkIndex", "(II)V"⟩ : MethodName)) hown (hw _ (List.mem_of_getElem? (i := 110) rfl)) (hw _ (List.mem_of_getElem? (i := 80) rfl)) (hw _ (List.mem_of_getElem? (i := 10) rfl)) (hw _ (List.mem_of_getElem? (i := 81) rfl)) (by decide) (al := [(.int i2), (.int (12 : Int32))]) (rm_checkIndex_20 l Z a0 g_COMPACT_STRINGS g_SIOOBE_FORMATTER hW i2 h0 O0 h_2 h_3) 0 (by decide) (by decide) e0 (by decide) (by decide) (by rw [hml]; rfl) (lenOf pd__28II_29V rfl) rfl (rest := []) (by show 2 * 0 + _ ≤ _; exact Nat.le_of_eq rfl) (hb hby d24_3) ?_
  intro v1 T1 L1 X1 hQ1
  obtain ⟨rfl, Nq1, e1⟩ := hQ1
  have N1 := Fr.app N0 Nq1
  show own_Go p e below Φ T1 (mkF m 6 #[.val (.ref a1), .val (.int i2)] [])
  refine own_k (T' := T1) (g' := (mkF m 7 #[.val (.ref a1), .val (.int i2)] [(.ref a1)])) (fun _ k_ => XS.aloadN X1.here hx rfl (hb hby d24_6) rfl rfl  k_) ?_
  refine own_k (T' := T1) (g' := (mkF m 8 #[.val (.ref a1), .val (.int i2)] [(.int i2), (.ref a1)])) (fun _ k_ => XS.iloadN X1.here hx rfl (hb hby d24_7) rfl  k_) ?_
  refine own_baload X1 hx hZ e1 h_1 (j := i2) ⟨h_2, h_3⟩ (v := (.int i5)) h_4 (hb hby d24_8) ?_
  show own_Go p e below Φ T1 (mkF m 9 #[.val (.ref a1), .val (.int i2)] [(.int i5)])
  refine own_k (T' := T1) (g' := (mkF m 12 #[.val (.ref a1), .val (.int i2)] [(.int (255 : Int32)), (.int i5)])) (fun _ k_ => XS.sipush X1.here hx rfl (hb hby d24_9) k_) ?_
  refine own_k (T' := T1) (g' := (mkF m 13 #[.val (.ref a1), .val (.int i2)] [(.int (i5 &&& (255 : Int32)))])) (fun _ k_ => XS.iand X1.here hx rfl (hb hby d24_12) rfl k_) ?_
  refine own_k (T' := T1) (g' := (mkF m 14 #[.val (.ref a1), .val (.int i2)] [(.int ((i5 &&& (255 : Int32)).toUInt32.toUInt16.toUInt32.toInt32))])) (fun _ k_ => XS.i2c X1.here hx rfl (hb hby d24_13) rfl k_) ?_
  exact own_retN X1 hx (t := .char) hret (by simp) hlk (hb hby d24_14) hF (by rw [e1]; exact ⟨by rw [show nar .char ((i5 &&& (255 : Int32)).toUInt32.toUInt16.toUInt32.toInt32) = ((i5 &&& (255 : Int32)).toUInt32.toUInt16.toUInt32.toInt32) from own_nar_char _], N1, rfl⟩) (by decide) (by decide)
theorem d14_15 : decode jdk_42_method_56_code 15 = .ok (.ireturn, 1) := by decide +kernel
theorem d15_17 : decode jdk_42_method_154_code 17 = .ok (.iconst 0, 1) := by decide +kernel
set_option maxRecDepth 65536 in
set_option maxHeartbeats 40000000 in
theorem rm_isLatin1_22 (l : Launch) (Z : State) (a0 : Array Value) (g_COMPACT_STRINGS : Int32) (g_SIOOBE_FORMATTER : Value) (hW : own_W Z a0 g_COMPACT_STRINGS g_SIOOBE_FORMATTER) (a1 : Addr) (h0 : Heap) (O0 : Old Z Z.heap.size h0) (h_1 : Fld Z h0 a1 "java/lang/String" "coder" "B" (.int (1 : Int32))) :
    own_Met l Z (⟨"java/lang/String", "isLatin1", "()Z"⟩ : MethodName) jdk_42_method_154_code 1 (some .boolean) ({ frames := 0, cells := 0, slots := 0, locals := 0 } : Room) #[(.ref a1)] h0 (fun v h L => v = some (.int (0 : Int32)) ∧ Fr Z.heap.size L ∧ h = h0) := by
  have hW_ := hW
  obtain ⟨hw, S_g_COMPACT_STRINGS, P_g_COMPACT_STRINGS, R_g_SIOOBE_FORMATTER, S_g_SIOOBE_FORMATTER, S_g__assertionsDisabled, S_g_HI_BYTE_SHIFT, S_g_LO_BYTE_SHIFT⟩ := hW_
  refine own_met (plainFor_of_name pn_java_lang_String) ?_
  intro p e s m below meth cc_ s₁ Φ hF X0 hx hby hml hZ hown hnm hret hlk e0
  have N0 := Fr.nil Z.heap.size
  refine own_k (T' := s₁) (g' := (mkF m 0 #[.val (.ref a1)] [])) (fun _ k_ => castTop (ef_15_R m a1) k_) ?_
  obtain ⟨T1, X1, e1, st1⟩ := getS2 X0 hx hZ hown (host := "") (Or.inl (hw _ (List.mem_of_getElem? (i := 21) rfl))) Via.refl e0 (S_g_COMPACT_STRINGS.ext O0.2) (g := (mkF m 0 #[.val (.ref a1)] [])) rfl (hb hby d15_0)
  refine own_k (T' := T1) (g' := (mkF m 3 #[.val (.ref a1)] [(.int g_COMPACT_STRINGS)])) st1 ?_
  refine own_k (T' := T1) (g' := (mkF m 6 #[.val (.ref a1)] [])) (fun _ k_ => XS.ifNo X1.here hx rfl (hb hby d15_3) rfl ((if0 _ _).trans (feq P_g_COMPACT_STRINGS).1) k_) ?_
  refine own_k (T' := T1) (g' := (mkF m 7 #[.val (.ref a1)] [(.ref a1)])) (fun _ k_ => XS.aloadN X1.here hx rfl (hb hby d15_6) rfl rfl  k_) ?_
  obtain ⟨T2, X2, e2, st2⟩ := getF X1 hx hZ hown (host := "") (Or.inl (hw _ (List.mem_of_getElem? (i := 33) rfl))) Via.refl e1 h_1 (g := (mkF m 7 #[.val (.ref a1)] [(.ref a1)])) rfl rfl (hb hby d15_7)
  refine own_k (T' := T2) (g' := (mkF m 10 #[.val (.ref a1)] [(.int (1 : Int32))])) st2 ?_
  refine own_k (T' := T2) (g' := (mkF m 17 #[.val (.ref a1)] [])) (fun _ k_ => XS.ifYes X2.here hx rfl (pc0 := 10) (pc' := 17) rfl (hb hby d15_10) rfl ((if0 _ _).trans (feq (by decide : ¬ ((1 : Int32) = (0 : Int32)))).2) (by decide) (by decide) k_) ?_
  refine own_k (T' := T2) (g' := (mkF m 18 #[.val (.ref a1)] [(.int (0 : Int32))])) (fun _ k_ => XS.iconst X2.here hx rfl (hb hby d15_17) k_) ?_
  exact own_retN X2 hx (t := .boolean) hret (by simp) hlk (hb hby d15_18) hF (by rw [e2]; exact ⟨by rw [show nar .boolean (0 : Int32) = (0 : Int32) from by decide], N0, rfl⟩) (by decide) (by decide)
theorem d14_16 : decode jdk_42_method_56_code 16 = .ok (.aload_n 0, 1) := by decide +kernel
theorem d14_17 : decode jdk_42_method_56_code 17 = .ok (.getfield 9, 3) := by decide +kernel
theorem d14_20 : decode jdk_42_method_56_code 20 = .ok (.iload_n 1, 1) := by decide +kernel
theorem d14_21 : decode jdk_42_method_56_code 21 = .ok (.invokestatic 498, 3) := by decide +kernel
theorem ef_16_RI (m : MethodId) (x0 : Addr) (x1 : Int32)  : entryFrame m #[(.ref x0), (.int x1)] 2 = mkF m 0 #[.val (.ref x0), .val (.int x1)] [] := by first | (simp [entryFrame, mkF, argsToLocals, Value.category]; done) | rfl
theorem d16_0 : decode jdk_52_method_83_code 0 = .ok (.iload_n 1, 1) := by decide +kernel
theorem d16_1 : decode jdk_52_method_83_code 1 = .ok (.aload_n 0, 1) := by decide +kernel
theorem d16_2 : decode jdk_52_method_83_code 2 = .ok (.invokestatic 67, 3) := by decide +kernel
theorem pd__28I_5bB_29V : parseMethodDescriptor "(I[B)V" = some ⟨[.int, (.array .byte)], none⟩ := by decide +kernel
theorem ef_17_IR (m : MethodId) (x0 : Int32) (x1 : Addr)  : entryFrame m #[(.int x0), (.ref x1)] 2 = mkF m 0 #[.val (.int x0), .val (.ref x1)] [] := by first | (simp [entryFrame, mkF, argsToLocals, Value.category]; done) | rfl
theorem d17_0 : decode jdk_52_method_91_code 0 = .ok (.iload_n 0, 1) := by decide +kernel
theorem d17_1 : decode jdk_52_method_91_code 1 = .ok (.aload_n 1, 1) := by decide +kernel
theorem d17_2 : decode jdk_52_method_91_code 2 = .ok (.invokestatic 48, 3) := by decide +kernel
theorem pd__28_5bB_29I : parseMethodDescriptor "([B)I" = some ⟨[(.array .byte)], some .int⟩ := by decide +kernel
theorem ef_18_R (m : MethodId) (x0 : Addr)  : entryFrame m #[(.ref x0)] 1 = mkF m 0 #[.val (.ref x0)] [] := by first | (simp [entryFrame, mkF, argsToLocals, Value.category]; done) | rfl
theorem d18_0 : decode jdk_52_method_6_code 0 = .ok (.aload_n 0, 1) := by decide +kernel
theorem d18_1 : decode jdk_52_method_6_code 1 = .ok (.arraylength, 1) := by decide +kernel
theorem d18_2 : decode jdk_52_method_6_code 2 = .ok (.iconst 1, 1) := by decide +kernel
theorem d18_3 : decode jdk_52_method_6_code 3 = .ok (.ishr, 1) := by decide +kernel
theorem d18_4 : decode jdk_52_method_6_code 4 = .ok (.ireturn, 1) := by decide +kernel
set_option maxRecDepth 65536 in
set_option maxHeartbeats 40000000 in
theorem rm_length_23 (l : Launch) (Z : State) (a0 : Array Value) (g_COMPACT_STRINGS : Int32) (g_SIOOBE_FORMATTER : Value) (hW : own_W Z a0 g_COMPACT_STRINGS g_SIOOBE_FORMATTER) (a1 : Addr) (q2 : ClassId) (l3 : List Value) (h0 : Heap) (O0 : Old Z Z.heap.size h0) (h_1 : Arv Z h0 a1 q2 .byte (24 : Int32) l3 (.int (0 : Int32))) :
    own_Met l Z (⟨"java/lang/StringUTF16", "length", "([B)I"⟩ : MethodName) jdk_52_method_6_code 1 (some .int) ({ frames := 0, cells := 0, slots := 0, locals := 0 } : Room) #[(.ref a1)] h0 (fun v h L => v = some (.int (12 : Int32)) ∧ Fr Z.heap.size L ∧ h = h0) := by
  have hW_ := hW
  obtain ⟨hw, S_g_COMPACT_STRINGS, P_g_COMPACT_STRINGS, R_g_SIOOBE_FORMATTER, S_g_SIOOBE_FORMATTER, S_g__assertionsDisabled, S_g_HI_BYTE_SHIFT, S_g_LO_BYTE_SHIFT⟩ := hW_
  refine own_met (plainFor_of_name pn_java_lang_StringUTF16) ?_
  intro p e s m below meth cc_ s₁ Φ hF X0 hx hby hml hZ hown hnm hret hlk e0
  have N0 := Fr.nil Z.heap.size
  refine own_k (T' := s₁) (g' := (mkF m 0 #[.val (.ref a1)] [])) (fun _ k_ => castTop (ef_18_R m a1) k_) ?_
  refine own_k (T' := s₁) (g' := (mkF m 1 #[.val (.ref a1)] [(.ref a1)])) (fun _ k_ => XS.aloadN X0.here hx rfl (hb hby d18_0) rfl rfl  k_) ?_
  refine own_len X0 hx hZ e0 h_1 (hb hby d18_1) ?_
  show own_Go p e below Φ s₁ (mkF m 2 #[.val (.ref a1)] [(.int (24 : Int32))])
  refine own_k (T' := s₁) (g' := (mkF m 3 #[.val (.ref a1)] [(.int (1 : Int32)), (.int (24 : Int32))])) (fun _ k_ => XS.iconst X0.here hx rfl (hb hby d18_2) k_) ?_
  refine own_k (T' := s₁) (g' := (mkF m 4 #[.val (.ref a1)] [(.int ((24 : Int32) >>> ((1 : Int32) &&& 31)))])) (fun _ k_ => XS.ishr X0.here hx rfl (hb hby d18_3) rfl k_) ?_
  rw [show ((24 : Int32) >>> ((1 : Int32) &&& 31)) = (12 : Int32) from by decide]
  exact own_retI X0 hx hret hlk (hb hby d18_4) hF (by rw [e0]; exact ⟨rfl, N0, rfl⟩) (by decide) (by decide)
theorem d17_5 : decode jdk_52_method_91_code 5 = .ok (.invokestatic 414, 3) := by decide +kernel
theorem d17_8 : decode jdk_52_method_91_code 8 = .ok (.return_, 1) := by decide +kernel
set_option maxRecDepth 65536 in
set_option maxHeartbeats 40000000 in
theorem rm_checkIndex_24 (l : Launch) (Z : State) (a0 : Array Value) (g_COMPACT_STRINGS : Int32) (g_SIOOBE_FORMATTER : Value) (hW : own_W Z a0 g_COMPACT_STRINGS g_SIOOBE_FORMATTER) (i1 : Int32) (a2 : Addr) (q3 : ClassId) (l4 : List Value) (h0 : Heap) (O0 : Old Z Z.heap.size h0) (h_1 : Arv Z h0 a2 q3 .byte (24 : Int32) l4 (.int (0 : Int32))) (h_2 : ¬ (i1 < (0 : Int32))) (h_3 : (i1 < (12 : Int32))) :
    own_Met l Z (⟨"java/lang/StringUTF16", "checkIndex", "(I[B)V"⟩ : MethodName) jdk_52_method_91_code 2 none ({ frames := 2, cells := 0, slots := 0, locals := 27 } : Room) #[(.int i1), (.ref a2)] h0 (fun v h L => v = none ∧ Fr Z.heap.size L ∧ h = h0) := by
  have hW_ := hW
  obtain ⟨hw, S_g_COMPACT_STRINGS, P_g_COMPACT_STRINGS, R_g_SIOOBE_FORMATTER, S_g_SIOOBE_FORMATTER, S_g__assertionsDisabled, S_g_HI_BYTE_SHIFT, S_g_LO_BYTE_SHIFT⟩ := hW_
  refine own_met (plainFor_of_name pn_java_lang_StringUTF16) ?_
  intro p e s m below meth cc_ s₁ Φ hF X0 hx hby hml hZ hown hnm hret hlk e0
  have N0 := Fr.nil Z.heap.size
  refine own_k (T' := s₁) (g' := (mkF m 0 #[.val (.int i1), .val (.ref a2)] [])) (fun _ k_ => castTop (ef_17_IR m i1 a2) k_) ?_
  refine own_k (T' := s₁) (g' := (mkF m 1 #[.val (.int i1), .val (.ref a2)] [(.int i1)])) (fun _ k_ => XS.iloadN X0.here hx rfl (hb hby d17_0) rfl  k_) ?_
  refine own_k (T' := s₁) (g' := (mkF m 2 #[.val (.int i1), .val (.ref a2)] [(.ref a2), (.int i1)])) (fun _ k_ => XS.aloadN X0.here hx rfl (hb hby d17_1) rfl rfl  k_) ?_
  refine own_callS X0 hx hZ (y := (⟨"java/lang/StringUTF16", "length", "([B)I"⟩ : MethodName)) hown (hw _ (List.mem_of_getElem? (i := 76) rfl)) (hw _ (List.mem_of_getElem? (i := 77) rfl)) (hw _ (List.mem_of_getElem? (i := 24) rfl)) (hw _ (List.mem_of_getElem? (i := 78) rfl)) (by decide) (al := [(.ref a2)]) (rm_length_23 l Z a0 g_COMPACT_STRINGS g_SIOOBE_FORMATTER hW a2 q3 l4 h0 O0 h_1) 1 (by decide) (by decide) e0 (by decide) (by decide) (by rw [hml]; rfl) (lenOf pd__28_5bB_29I rfl) rfl (rest := [(.int i1)]) (by show 2 * 0 + _ ≤ _; exact Nat.le_of_eq rfl) (hb hby d17_2) ?_
  intro v1 T1 L1 X1 hQ1
  obtain ⟨rfl, Nq1, e1⟩ := hQ1
  have N1 := Fr.app N0 Nq1
  show own_Go p e below Φ T1 (mkF m 5 #[.val (.int i1), .val (.ref a2)] [(.int (12 : Int32)), (.int i1)])
  refine own_callS X1 hx hZ (y := (⟨"java/lang/String", "checkIndex", "(II)V"⟩ : MethodName)) hown (hw _ (List.mem_of_getElem? (i := 79) rfl)) (hw _ (List.mem_of_getElem? (i := 80) rfl)) (hw _ (List.mem_of_getElem? (i := 10) rfl)) (hw _ (List.mem_of_getElem? (i := 81) rfl)) (by decide) (al := [(.int i1), (.int (12 : Int32))]) (rm_checkIndex_20 l Z a0 g_COMPACT_STRINGS g_SIOOBE_FORMATTER hW i1 h0 O0 h_2 h_3) 0 (by decide) (by decide) e1 (by decide) (by decide) (by rw [hml]; rfl) (lenOf pd__28II_29V rfl) rfl (rest := []) (by show 2 * 0 + _ ≤ _; exact Nat.le_of_eq rfl) (hb hby d17_5) ?_
  intro v2 T2 L2 X2 hQ2
  obtain ⟨rfl, Nq2, e2⟩ := hQ2
  have N2 := Fr.app N1 Nq2
  show own_Go p e below Φ T2 (mkF m 8 #[.val (.int i1), .val (.ref a2)] [])
  exact own_ret0 X2 hx hret hlk (hb hby d17_8) hF (by rw [e2]; exact ⟨rfl, N2, rfl⟩) (by decide) (by decide)
theorem d16_5 : decode jdk_52_method_83_code 5 = .ok (.aload_n 0, 1) := by decide +kernel
theorem d16_6 : decode jdk_52_method_83_code 6 = .ok (.iload_n 1, 1) := by decide +kernel
theorem d16_7 : decode jdk_52_method_83_code 7 = .ok (.invokestatic 71, 3) := by decide +kernel
set_option maxRecDepth 65536 in
set_option maxHeartbeats 40000000 in
theorem rm_getChar_25 (l : Launch) (Z : State) (a0 : Array Value) (g_COMPACT_STRINGS : Int32) (g_SIOOBE_FORMATTER : Value) (hW : own_W Z a0 g_COMPACT_STRINGS g_SIOOBE_FORMATTER) (a1 : Addr) (i2 : Int32) (q3 : ClassId) (l4 : List Value) (i5 : Int32) (i6 : Int32) (h0 : Heap) (O0 : Old Z Z.heap.size h0) (h_1 : ¬ ((i2 <<< ((1 : Int32) &&& 31)) < (0 : Int32))) (h_2 : ((i2 <<< ((1 : Int32) &&& 31)) < (24 : Int32))) (h_3 : (l4 : List Value).getD ((i2 <<< ((1 : Int32) &&& 31))).toNatClampNeg (.int (0 : Int32)) = (.int i5)) (h_4 : Arv Z h0 a1 q3 .byte (24 : Int32) l4 (.int (0 : Int32))) (h_5 : ¬ (((i2 <<< ((1 : Int32) &&& 31)) + (1 : Int32)) < (0 : Int32))) (h_6 : (((i2 <<< ((1 : Int32) &&& 31)) + (1 : Int32)) < (24 : Int32))) (h_7 : (l4 : List Value).getD (((i2 <<< ((1 : Int32) &&& 31)) + (1 : Int32))).toNatClampNeg (.int (0 : Int32)) = (.int i6)) :
    own_Met l Z (⟨"java/lang/StringUTF16", "getChar", "([BI)C"⟩ : MethodName) jdk_52_method_5_code 2 (some .char) ({ frames := 0, cells := 0, slots := 0, locals := 0 } : Room) #[(.ref a1), (.int i2)] h0 (fun v h L => v = some (.int ((((i5 &&& (255 : Int32)) <<< ((0 : Int32) &&& 31)) ||| ((i6 &&& (255 : Int32)) <<< ((8 : Int32) &&& 31))).toUInt32.toUInt16.toUInt32.toInt32)) ∧ Fr Z.heap.size L ∧ h = h0) := by
  have hW_ := hW
  obtain ⟨hw, S_g_COMPACT_STRINGS, P_g_COMPACT_STRINGS, R_g_SIOOBE_FORMATTER, S_g_SIOOBE_FORMATTER, S_g__assertionsDisabled, S_g_HI_BYTE_SHIFT, S_g_LO_BYTE_SHIFT⟩ := hW_
  refine own_met (plainFor_of_name pn_java_lang_StringUTF16) ?_
  intro p e s m below meth cc_ s₁ Φ hF X0 hx hby hml hZ hown hnm hret hlk e0
  have N0 := Fr.nil Z.heap.size
  refine own_k (T' := s₁) (g' := (mkF m 0 #[.val (.ref a1), .val (.int i2)] [])) (fun _ k_ => castTop (ef_13_RI m a1 i2) k_) ?_
  obtain ⟨T1, X1, e1, st1⟩ := getS2 X0 hx hZ hown (host := "") (Or.inl (hw _ (List.mem_of_getElem? (i := 54) rfl))) Via.refl e0 (S_g__assertionsDisabled.ext O0.2) (g := (mkF m 0 #[.val (.ref a1), .val (.int i2)] [])) rfl (hb hby d13_0)
  refine own_k (T' := T1) (g' := (mkF m 3 #[.val (.ref a1), .val (.int i2)] [(.int (1 : Int32))])) st1 ?_
  refine own_k (T' := T1) (g' := (mkF m 28 #[.val (.ref a1), .val (.int i2)] [])) (fun _ k_ => XS.ifYes X1.here hx rfl (pc0 := 3) (pc' := 28) rfl (hb hby d13_3) rfl ((if0 _ _).trans (feq (by decide : ¬ ((1 : Int32) = (0 : Int32)))).2) (by decide) (by decide) k_) ?_
  refine own_k (T' := T1) (g' := (mkF m 29 #[.val (.ref a1), .val (.int i2)] [(.int i2)])) (fun _ k_ => XS.iloadN X1.here hx rfl (hb hby d13_28) rfl  k_) ?_
  refine own_k (T' := T1) (g' := (mkF m 30 #[.val (.ref a1), .val (.int i2)] [(.int (1 : Int32)), (.int i2)])) (fun _ k_ => XS.iconst X1.here hx rfl (hb hby d13_29) k_) ?_
  refine own_k (T' := T1) (g' := (mkF m 31 #[.val (.ref a1), .val (.int i2)] [(.int (i2 <<< ((1 : Int32) &&& 31)))])) (fun _ k_ => XS.ishl X1.here hx rfl (hb hby d13_30) rfl k_) ?_
  refine own_k (T' := T1) (g' := (mkF m 32 #[.val (.ref a1), .val (.int (i2 <<< ((1 : Int32) &&& 31)))] [])) (fun _ k_ => XS.istoreN X1.here hx rfl (hb hby d13_31) rfl (l' := #[.val (.ref a1), .val (.int (i2 <<< ((1 : Int32) &&& 31)))]) rfl k_) ?_
  refine own_k (T' := T1) (g' := (mkF m 33 #[.val (.ref a1), .val (.int (i2 <<< ((1 : Int32) &&& 31)))] [(.ref a1)])) (fun _ k_ => XS.aloadN X1.here hx rfl (hb hby d13_32) rfl rfl  k_) ?_
  refine own_k (T' := T1) (g' := (mkF m 34 #[.val (.ref a1), .val (.int (i2 <<< ((1 : Int32) &&& 31)))] [(.int (i2 <<< ((1 : Int32) &&& 31))), (.ref a1)])) (fun _ k_ => XS.iloadN X1.here hx rfl (hb hby d13_33) rfl  k_) ?_
  refine own_k (T' := T1) (g' := (mkF m 37 #[.val (.ref a1), .val (.int ((i2 <<< ((1 : Int32) &&& 31)) + (1 : Int32)))] [(.int (i2 <<< ((1 : Int32) &&& 31))), (.ref a1)])) (fun _ k_ => XS.iinc X1.here hx rfl (hb hby d13_34) rfl (l' := #[.val (.ref a1), .val (.int ((i2 <<< ((1 : Int32) &&& 31)) + (1 : Int32)))]) rfl k_) ?_
  refine own_baload X1 hx hZ e1 h_4 (j := (i2 <<< ((1 : Int32) &&& 31))) ⟨h_1, h_2⟩ (v := (.int i5)) h_3 (hb hby d13_37) ?_
  show own_Go p e below Φ T1 (mkF m 38 #[.val (.ref a1), .val (.int ((i2 <<< ((1 : Int32) &&& 31)) + (1 : Int32)))] [(.int i5)])
  refine own_k (T' := T1) (g' := (mkF m 41 #[.val (.ref a1), .val (.int ((i2 <<< ((1 : Int32) &&& 31)) + (1 : Int32)))] [(.int (255 : Int32)), (.int i5)])) (fun _ k_ => XS.sipush X1.here hx rfl (hb hby d13_38) k_) ?_
  refine own_k (T' := T1) (g' := (mkF m 42 #[.val (.ref a1), .val (.int ((i2 <<< ((1 : Int32) &&& 31)) + (1 : Int32)))] [(.int (i5 &&& (255 : Int32)))])) (fun _ k_ => XS.iand X1.here hx rfl (hb hby d13_41) rfl k_) ?_
  obtain ⟨T2, X2, e2, st2⟩ := getS2 X1 hx hZ hown (host := "") (Or.inl (hw _ (List.mem_of_getElem? (i := 55) rfl))) Via.refl e1 (S_g_HI_BYTE_SHIFT.ext O0.2) (g := (mkF m 42 #[.val (.ref a1), .val (.int ((i2 <<< ((1 : Int32) &&& 31)) + (1 : Int32)))] [(.int (i5 &&& (255 : Int32)))])) rfl (hb hby d13_42)
  refine own_k (T' := T2) (g' := (mkF m 45 #[.val (.ref a1), .val (.int ((i2 <<< ((1 : Int32) &&& 31)) + (1 : Int32)))] [(.int (0 : Int32)), (.int (i5 &&& (255 : Int32)))])) st2 ?_
  refine own_k (T' := T2) (g' := (mkF m 46 #[.val (.ref a1), .val (.int ((i2 <<< ((1 : Int32) &&& 31)) + (1 : Int32)))] [(.int ((i5 &&& (255 : Int32)) <<< ((0 : Int32) &&& 31)))])) (fun _ k_ => XS.ishl X2.here hx rfl (hb hby d13_45) rfl k_) ?_
  refine own_k (T' := T2) (g' := (mkF m 47 #[.val (.ref a1), .val (.int ((i2 <<< ((1 : Int32) &&& 31)) + (1 : Int32)))] [(.ref a1), (.int ((i5 &&& (255 : Int32)) <<< ((0 : Int32) &&& 31)))])) (fun _ k_ => XS.aloadN X2.here hx rfl (hb hby d13_46) rfl rfl  k_) ?_
  refine own_k (T' := T2) (g' := (mkF m 48 #[.val (.ref a1), .val (.int ((i2 <<< ((1 : Int32) &&& 31)) + (1 : Int32)))] [(.int ((i2 <<< ((1 : Int32) &&& 31)) + (1 : Int32))), (.ref a1), (.int ((i5 &&& (255 : Int32)) <<< ((0 : Int32) &&& 31)))])) (fun _ k_ => XS.iloadN X2.here hx rfl (hb hby d13_47) rfl  k_) ?_
  refine own_baload X2 hx hZ e2 h_4 (j := ((i2 <<< ((1 : Int32) &&& 31)) + (1 : Int32))) ⟨h_5, h_6⟩ (v := (.int i6)) h_7 (hb hby d13_48) ?_
  show own_Go p e below Φ T2 (mkF m 49 #[.val (.ref a1), .val (.int ((i2 <<< ((1 : Int32) &&& 31)) + (1 : Int32)))] [(.int i6), (.int ((i5 &&& (255 : Int32)) <<< ((0 : Int32) &&& 31)))])
  refine own_k (T' := T2) (g' := (mkF m 52 #[.val (.ref a1), .val (.int ((i2 <<< ((1 : Int32) &&& 31)) + (1 : Int32)))] [(.int (255 : Int32)), (.int i6), (.int ((i5 &&& (255 : Int32)) <<< ((0 : Int32) &&& 31)))])) (fun _ k_ => XS.sipush X2.here hx rfl (hb hby d13_49) k_) ?_
  refine own_k (T' := T2) (g' := (mkF m 53 #[.val (.ref a1), .val (.int ((i2 <<< ((1 : Int32) &&& 31)) + (1 : Int32)))] [(.int (i6 &&& (255 : Int32))), (.int ((i5 &&& (255 : Int32)) <<< ((0 : Int32) &&& 31)))])) (fun _ k_ => XS.iand X2.here hx rfl (hb hby d13_52) rfl k_) ?_
  obtain ⟨T3, X3, e3, st3⟩ := getS2 X2 hx hZ hown (host := "") (Or.inl (hw _ (List.mem_of_getElem? (i := 56) rfl))) Via.refl e2 (S_g_LO_BYTE_SHIFT.ext O0.2) (g := (mkF m 53 #[.val (.ref a1), .val (.int ((i2 <<< ((1 : Int32) &&& 31)) + (1 : Int32)))] [(.int (i6 &&& (255 : Int32))), (.int ((i5 &&& (255 : Int32)) <<< ((0 : Int32) &&& 31)))])) rfl (hb hby d13_53)
  refine own_k (T' := T3) (g' := (mkF m 56 #[.val (.ref a1), .val (.int ((i2 <<< ((1 : Int32) &&& 31)) + (1 : Int32)))] [(.int (8 : Int32)), (.int (i6 &&& (255 : Int32))), (.int ((i5 &&& (255 : Int32)) <<< ((0 : Int32) &&& 31)))])) st3 ?_
  refine own_k (T' := T3) (g' := (mkF m 57 #[.val (.ref a1), .val (.int ((i2 <<< ((1 : Int32) &&& 31)) + (1 : Int32)))] [(.int ((i6 &&& (255 : Int32)) <<< ((8 : Int32) &&& 31))), (.int ((i5 &&& (255 : Int32)) <<< ((0 : Int32) &&& 31)))])) (fun _ k_ => XS.ishl X3.here hx rfl (hb hby d13_56) rfl k_) ?_
  refine own_k (T' := T3) (g' := (mkF m 58 #[.val (.ref a1), .val (.int ((i2 <<< ((1 : Int32) &&& 31)) + (1 : Int32)))] [(.int (((i5 &&& (255 : Int32)) <<< ((0 : Int32) &&& 31)) ||| ((i6 &&& (255 : Int32)) <<< ((8 : Int32) &&& 31))))])) (fun _ k_ => XS.ior X3.here hx rfl (hb hby d13_57) rfl k_) ?_
  refine own_k (T' := T3) (g' := (mkF m 59 #[.val (.ref a1), .val (.int ((i2 <<< ((1 : Int32) &&& 31)) + (1 : Int32)))] [(.int ((((i5 &&& (255 : Int32)) <<< ((0 : Int32) &&& 31)) ||| ((i6 &&& (255 : Int32)) <<< ((8 : Int32) &&& 31))).toUInt32.toUInt16.toUInt32.toInt32))])) (fun _ k_ => XS.i2c X3.here hx rfl (hb hby d13_58) rfl k_) ?_
  exact own_retN X3 hx (t := .char) hret (by simp) hlk (hb hby d13_59) hF (by rw [e3]; exact ⟨by rw [show nar .char ((((i5 &&& (255 : Int32)) <<< ((0 : Int32) &&& 31)) ||| ((i6 &&& (255 : Int32)) <<< ((8 : Int32) &&& 31))).toUInt32.toUInt16.toUInt32.toInt32) = ((((i5 &&& (255 : Int32)) <<< ((0 : Int32) &&& 31)) ||| ((i6 &&& (255 : Int32)) <<< ((8 : Int32) &&& 31))).toUInt32.toUInt16.toUInt32.toInt32) from own_nar_char _], N0, rfl⟩) (by decide) (by decide)
theorem d16_10 : decode jdk_52_method_83_code 10 = .ok (.ireturn, 1) := by decide +kernel
set_option maxRecDepth 65536 in
set_option maxHeartbeats 40000000 in
theorem rm_charAt_26 (l : Launch) (Z : State) (a0 : Array Value) (g_COMPACT_STRINGS : Int32) (g_SIOOBE_FORMATTER : Value) (hW : own_W Z a0 g_COMPACT_STRINGS g_SIOOBE_FORMATTER) (a1 : Addr) (i2 : Int32) (q3 : ClassId) (l4 : List Value) (i5 : Int32) (i6 : Int32) (h0 : Heap) (O0 : Old Z Z.heap.size h0) (h_1 : ¬ (i2 < (0 : Int32))) (h_2 : (i2 < (12 : Int32))) (h_3 : Arv Z h0 a1 q3 .byte (24 : Int32) l4 (.int (0 : Int32))) (h_4 : ¬ ((i2 <<< ((1 : Int32) &&& 31)) < (0 : Int32))) (h_5 : ((i2 <<< ((1 : Int32) &&& 31)) < (24 : Int32))) (h_6 : (l4 : List Value).getD ((i2 <<< ((1 : Int32) &&& 31))).toNatClampNeg (.int (0 : Int32)) = (.int i5)) (h_7 : ¬ (((i2 <<< ((1 : Int32) &&& 31)) + (1 : Int32)) < (0 : Int32))) (h_8 : (((i2 <<< ((1 : Int32) &&& 31)) + (1 : Int32)) < (24 : Int32))) (h_9 : (l4 : List Value).getD (((i2 <<< ((1 : Int32) &&& 31)) + (1 : Int32))).toNatClampNeg (.int (0 : Int32)) = (.int i6)) :
    own_Met l Z (⟨"java/lang/StringUTF16", "charAt", "([BI)C"⟩ : MethodName) jdk_52_method_83_code 2 (some .char) ({ frames := 3, cells := 0, slots := 0, locals := 40 } : Room) #[(.ref a1), (.int i2)] h0 (fun v h L => v = some (.int ((((i5 &&& (255 : Int32)) <<< ((0 : Int32) &&& 31)) ||| ((i6 &&& (255 : Int32)) <<< ((8 : Int32) &&& 31))).toUInt32.toUInt16.toUInt32.toInt32)) ∧ Fr Z.heap.size L ∧ h = h0) := by
  have hW_ := hW
  obtain ⟨hw, S_g_COMPACT_STRINGS, P_g_COMPACT_STRINGS, R_g_SIOOBE_FORMATTER, S_g_SIOOBE_FORMATTER, S_g__assertionsDisabled, S_g_HI_BYTE_SHIFT, S_g_LO_BYTE_SHIFT⟩ := hW_
  refine own_met (plainFor_of_name pn_java_lang_StringUTF16) ?_
  intro p e s m below meth cc_ s₁ Φ hF X0 hx hby hml hZ hown hnm hret hlk e0
  have N0 := Fr.nil Z.heap.size
  refine own_k (T' := s₁) (g' := (mkF m 0 #[.val (.ref a1), .val (.int i2)] [])) (fun _ k_ => castTop (ef_16_RI m a1 i2) k_) ?_
  refine own_k (T' := s₁) (g' := (mkF m 1 #[.val (.ref a1), .val (.int i2)] [(.int i2)])) (fun _ k_ => XS.iloadN X0.here hx rfl (hb hby d16_0) rfl  k_) ?_
  refine own_k (T' := s₁) (g' := (mkF m 2 #[.val (.ref a1), .val (.int i2)] [(.ref a1), (.int i2)])) (fun _ k_ => XS.aloadN X0.here hx rfl (hb hby d16_1) rfl rfl  k_) ?_
  refine own_callS X0 hx hZ (y := (⟨"java/lang/StringUTF16", "checkIndex", "(I[B)V"⟩ : MethodName)) hown (hw _ (List.mem_of_getElem? (i := 73) rfl)) (hw _ (List.mem_of_getElem? (i := 74) rfl)) (hw _ (List.mem_of_getElem? (i := 24) rfl)) (hw _ (List.mem_of_getElem? (i := 75) rfl)) (by decide) (al := [(.int i2), (.ref a1)]) (rm_checkIndex_24 l Z a0 g_COMPACT_STRINGS g_SIOOBE_FORMATTER hW i2 a1 q3 l4 h0 O0 h_3 h_1 h_2) 0 (by decide) (by decide) e0 (by decide) (by decide) (by rw [hml]; rfl) (lenOf pd__28I_5bB_29V rfl) rfl (rest := []) (by show 2 * 0 + _ ≤ _; exact Nat.le_of_eq rfl) (hb hby d16_2) ?_
  intro v1 T1 L1 X1 hQ1
  obtain ⟨rfl, Nq1, e1⟩ := hQ1
  have N1 := Fr.app N0 Nq1
  show own_Go p e below Φ T1 (mkF m 5 #[.val (.ref a1), .val (.int i2)] [])
  refine own_k (T' := T1) (g' := (mkF m 6 #[.val (.ref a1), .val (.int i2)] [(.ref a1)])) (fun _ k_ => XS.aloadN X1.here hx rfl (hb hby d16_5) rfl rfl  k_) ?_
  refine own_k (T' := T1) (g' := (mkF m 7 #[.val (.ref a1), .val (.int i2)] [(.int i2), (.ref a1)])) (fun _ k_ => XS.iloadN X1.here hx rfl (hb hby d16_6) rfl  k_) ?_
  refine own_callS X1 hx hZ (y := (⟨"java/lang/StringUTF16", "getChar", "([BI)C"⟩ : MethodName)) hown (hw _ (List.mem_of_getElem? (i := 57) rfl)) (hw _ (List.mem_of_getElem? (i := 58) rfl)) (hw _ (List.mem_of_getElem? (i := 24) rfl)) (hw _ (List.mem_of_getElem? (i := 59) rfl)) (by decide) (al := [(.ref a1), (.int i2)]) (rm_getChar_25 l Z a0 g_COMPACT_STRINGS g_SIOOBE_FORMATTER hW a1 i2 q3 l4 i5 i6 h0 O0 h_4 h_5 h_6 h_3 h_7 h_8 h_9) 0 (by decide) (by decide) e1 (by decide) (by decide) (by rw [hml]; rfl) (lenOf pd__28_5bBI_29C rfl) rfl (rest := []) (by show 2 * 0 + _ ≤ _; exact Nat.le_of_eq rfl) (hb hby d16_7) ?_
  intro v2 T2 L2 X2 hQ2
  obtain ⟨rfl, Nq2, e2⟩ := hQ2
  have N2 := Fr.app N1 Nq2
  show own_Go p e below Φ T2 (mkF m 10 #[.val (.ref a1), .val (.int i2)] [(.int ((((i5 &&& (255 : Int32)) <<< ((0 : Int32) &&& 31)) ||| ((i6 &&& (255 : Int32)) <<< ((8 : Int32) &&& 31))).toUInt32.toUInt16.toUInt32.toInt32))])
  exact own_retN X2 hx (t := .char) hret (by simp) hlk (hb hby d16_10) hF (by rw [e2]; exact ⟨by rw [show nar .char ((((i5 &&& (255 : Int32)) <<< ((0 : Int32) &&& 31)) ||| ((i6 &&& (255 : Int32)) <<< ((8 : Int32) &&& 31))).toUInt32.toUInt16.toUInt32.toInt32) = ((((i5 &&& (255 : Int32)) <<< ((0 : Int32) &&& 31)) ||| ((i6 &&& (255 : Int32)) <<< ((8 : Int32) &&& 31))).toUInt32.toUInt16.toUInt32.toInt32) from own_nar_char _], N2, rfl⟩) (by decide) (by decide)
theorem d14_24 : decode jdk_42_method_56_code 24 = .ok (.ireturn, 1) := by decide +kernel
set_option maxRecDepth 65536 in
set_option maxHeartbeats 40000000 in
theorem rm_charAt (l : Launch) (Z : State) (a0 : Array Value) (g_COMPACT_STRINGS : Int32) (g_SIOOBE_FORMATTER : Value) (hW : own_W Z a0 g_COMPACT_STRINGS g_SIOOBE_FORMATTER) (x : Addr) (j : Int32) (cs : List Int32) (h0 : Heap) (O0 : Old Z Z.heap.size h0) (hS : own_Str Z h0 x cs) (hb_j : 0 ≤ j.toInt ∧ j.toInt < 12) (hok : ∀ c ∈ cs, own_ok c) :
    own_Met l Z (⟨"java/lang/String", "charAt", "(I)C"⟩ : MethodName) jdk_42_method_56_code 2 (some .char) ({ frames := 4, cells := 0, slots := 0, locals := 53 } : Room) #[(.ref x), (.int j)] h0 (fun v h L => v = some (.int (cs.getD j.toNatClampNeg (0 : Int32))) ∧ Fr Z.heap.size L ∧ h = h0) := by
  have hW_ := hW
  obtain ⟨hw, S_g_COMPACT_STRINGS, P_g_COMPACT_STRINGS, R_g_SIOOBE_FORMATTER, S_g_SIOOBE_FORMATTER, S_g__assertionsDisabled, S_g_HI_BYTE_SHIFT, S_g_LO_BYTE_SHIFT⟩ := hW_
  refine own_met (plainFor_of_name pn_java_lang_String) ?_
  intro p e s m below meth cc_ s₁ Φ hF X0 hx hby hml hZ hown hnm hret hlk e0
  have N0 := Fr.nil Z.heap.size
  refine own_k (T' := s₁) (g' := (mkF m 0 #[.val (.ref x), .val (.int j)] [])) (fun _ k_ => castTop (ef_14_RI m x j) k_) ?_
  obtain ⟨t, kb, hE, hV, ⟨hC, hA, hlat⟩ | ⟨hC, hA⟩⟩ := hS
  · obtain ⟨ch, hch⟩ : ∃ c, c = cs.getD j.toNatClampNeg (0 : Int32) := ⟨_, rfl⟩
    have hok_ch : own_ok ch := hch ▸ own_ok_getD hok _
    refine own_k (T' := s₁) (g' := (mkF m 1 #[.val (.ref x), .val (.int j)] [(.ref x)])) (fun _ k_ => XS.aloadN X0.here hx rfl (hb hby d14_0) rfl rfl  k_) ?_
    refine own_callV X0 hx hZ (C := "java/lang/String") (y := (⟨"java/lang/String", "isLatin1", "()Z"⟩ : MethodName)) (z := (⟨"java/lang/String", "isLatin1", "()Z"⟩ : MethodName)) hown (hw _ (List.mem_of_getElem? (i := 65) rfl)) (hw _ (List.mem_of_getElem? (i := 66) rfl)) (notFace_of_selects (args := #[]) (mvT hZ (hw _ (List.mem_of_getElem? (i := 68) rfl)))) (hw _ (List.mem_of_getElem? (i := 68) rfl)) (hw _ (List.mem_of_getElem? (i := 67) rfl)) (hw _ (List.mem_of_getElem? (i := 69) rfl)) (hw _ (List.mem_of_getElem? (i := 10) rfl)) (by decide) (al := []) hE (rm_isLatin1_18 l Z a0 g_COMPACT_STRINGS g_SIOOBE_FORMATTER hW x h0 O0 hC) 0 (by decide) (by decide) e0 (by decide) (by decide) (by rw [hml]; rfl) (lenOf pd__28_29Z rfl) rfl (rest := []) (by show 2 * 0 + _ ≤ _; exact Nat.le_of_eq rfl) (hb hby d14_1) ?_
    intro v1 T1 L1 X1 hQ1
    obtain ⟨rfl, Nq1, e1⟩ := hQ1
    have N1 := Fr.app N0 Nq1
    show own_Go p e below Φ T1 (mkF m 4 #[.val (.ref x), .val (.int j)] [(.int (1 : Int32))])
    refine own_k (T' := T1) (g' := (mkF m 7 #[.val (.ref x), .val (.int j)] [])) (fun _ k_ => XS.ifNo X1.here hx rfl (hb hby d14_4) rfl ((if0 _ _).trans (feq (by decide : ¬ ((1 : Int32) = (0 : Int32)))).1) k_) ?_
    refine own_k (T' := T1) (g' := (mkF m 8 #[.val (.ref x), .val (.int j)] [(.ref x)])) (fun _ k_ => XS.aloadN X1.here hx rfl (hb hby d14_7) rfl rfl  k_) ?_
    obtain ⟨T2, X2, e2, st2⟩ := getF X1 hx hZ hown (host := "") (Or.inl (hw _ (List.mem_of_getElem? (i := 35) rfl))) Via.refl e1 hV (g := (mkF m 8 #[.val (.ref x), .val (.int j)] [(.ref x)])) rfl rfl (hb hby d14_8)
    refine own_k (T' := T2) (g' := (mkF m 11 #[.val (.ref x), .val (.int j)] [(.ref t)])) st2 ?_
    refine own_k (T' := T2) (g' := (mkF m 12 #[.val (.ref x), .val (.int j)] [(.int j), (.ref t)])) (fun _ k_ => XS.iloadN X2.here hx rfl (hb hby d14_11) rfl  k_) ?_
    refine own_callS X2 hx hZ (y := (⟨"java/lang/StringLatin1", "charAt", "([BI)C"⟩ : MethodName)) hown (hw _ (List.mem_of_getElem? (i := 106) rfl)) (hw _ (List.mem_of_getElem? (i := 107) rfl)) (hw _ (List.mem_of_getElem? (i := 108) rfl)) (hw _ (List.mem_of_getElem? (i := 109) rfl)) (by decide) (al := [(.ref t), (.int j)]) (rm_charAt_21 l Z a0 g_COMPACT_STRINGS g_SIOOBE_FORMATTER hW t j kb (own_lat cs) (ch.toInt8.toInt32) h0 O0 hA (own_bnd hb_j).1 (own_bnd hb_j).2.1 ((own_lat_get cs _).trans (by rw [← hch]))) 0 (by decide) (by decide) e2 (by decide) (by decide) (by rw [hml]; rfl) (lenOf pd__28_5bBI_29C rfl) rfl (rest := []) (by show 2 * 0 + _ ≤ _; exact Nat.le_of_eq rfl) (hb hby d14_12) ?_
    intro v3 T3 L3 X3 hQ3
    obtain ⟨rfl, Nq3, e3⟩ := hQ3
    have N3 := Fr.app N1 Nq3
    show own_Go p e below Φ T3 (mkF m 15 #[.val (.ref x), .val (.int j)] [(.int (((ch.toInt8.toInt32) &&& (255 : Int32)).toUInt32.toUInt16.toUInt32.toInt32))])
    exact own_retN X3 hx (t := .char) hret (by simp) hlk (hb hby d14_15) hF (by rw [e3]; exact ⟨congrArg (fun z => some (Value.int z)) (((own_nar_char _).trans (own_lrec ch hok_ch.1 (hch ▸ own_nlat_getD hlat _))).trans hch), N3, rfl⟩) (by decide) (by decide)
  · obtain ⟨ch, hch⟩ : ∃ c, c = cs.getD j.toNatClampNeg (0 : Int32) := ⟨_, rfl⟩
    have hok_ch : own_ok ch := hch ▸ own_ok_getD hok _
    refine own_k (T' := s₁) (g' := (mkF m 1 #[.val (.ref x), .val (.int j)] [(.ref x)])) (fun _ k_ => XS.aloadN X0.here hx rfl (hb hby d14_0) rfl rfl  k_) ?_
    refine own_callV X0 hx hZ (C := "java/lang/String") (y := (⟨"java/lang/String", "isLatin1", "()Z"⟩ : MethodName)) (z := (⟨"java/lang/String", "isLatin1", "()Z"⟩ : MethodName)) hown (hw _ (List.mem_of_getElem? (i := 65) rfl)) (hw _ (List.mem_of_getElem? (i := 66) rfl)) (notFace_of_selects (args := #[]) (mvT hZ (hw _ (List.mem_of_getElem? (i := 68) rfl)))) (hw _ (List.mem_of_getElem? (i := 68) rfl)) (hw _ (List.mem_of_getElem? (i := 67) rfl)) (hw _ (List.mem_of_getElem? (i := 69) rfl)) (hw _ (List.mem_of_getElem? (i := 10) rfl)) (by decide) (al := []) hE (rm_isLatin1_22 l Z a0 g_COMPACT_STRINGS g_SIOOBE_FORMATTER hW x h0 O0 hC) 0 (by decide) (by decide) e0 (by decide) (by decide) (by rw [hml]; rfl) (lenOf pd__28_29Z rfl) rfl (rest := []) (by show 2 * 0 + _ ≤ _; exact Nat.le_of_eq rfl) (hb hby d14_1) ?_
    intro v4 T4 L4 X4 hQ4
    obtain ⟨rfl, Nq4, e4⟩ := hQ4
    have N4 := Fr.app N0 Nq4
    show own_Go p e below Φ T4 (mkF m 4 #[.val (.ref x), .val (.int j)] [(.int (0 : Int32))])
    refine own_k (T' := T4) (g' := (mkF m 16 #[.val (.ref x), .val (.int j)] [])) (fun _ k_ => XS.ifYes X4.here hx rfl (pc0 := 4) (pc' := 16) rfl (hb hby d14_4) rfl ((if0 _ _).trans (teq (by decide : ((0 : Int32) = (0 : Int32)))).1) (by decide) (by decide) k_) ?_
    refine own_k (T' := T4) (g' := (mkF m 17 #[.val (.ref x), .val (.int j)] [(.ref x)])) (fun _ k_ => XS.aloadN X4.here hx rfl (hb hby d14_16) rfl rfl  k_) ?_
    obtain ⟨T5, X5, e5, st5⟩ := getF X4 hx hZ hown (host := "") (Or.inl (hw _ (List.mem_of_getElem? (i := 35) rfl))) Via.refl e4 hV (g := (mkF m 17 #[.val (.ref x), .val (.int j)] [(.ref x)])) rfl rfl (hb hby d14_17)
    refine own_k (T' := T5) (g' := (mkF m 20 #[.val (.ref x), .val (.int j)] [(.ref t)])) st5 ?_
    refine own_k (T' := T5) (g' := (mkF m 21 #[.val (.ref x), .val (.int j)] [(.int j), (.ref t)])) (fun _ k_ => XS.iloadN X5.here hx rfl (hb hby d14_20) rfl  k_) ?_
    refine own_callS X5 hx hZ (y := (⟨"java/lang/StringUTF16", "charAt", "([BI)C"⟩ : MethodName)) hown (hw _ (List.mem_of_getElem? (i := 70) rfl)) (hw _ (List.mem_of_getElem? (i := 71) rfl)) (hw _ (List.mem_of_getElem? (i := 24) rfl)) (hw _ (List.mem_of_getElem? (i := 72) rfl)) (by decide) (al := [(.ref t), (.int j)]) (rm_charAt_26 l Z a0 g_COMPACT_STRINGS g_SIOOBE_FORMATTER hW t j kb (own_utf cs) ((ch >>> ((0 : Int32) &&& 31)).toInt8.toInt32) ((ch >>> ((8 : Int32) &&& 31)).toInt8.toInt32) h0 O0 (own_bnd hb_j).1 (own_bnd hb_j).2.1 hA (own_bnd hb_j).2.2.1 (own_bnd hb_j).2.2.2.1 ((congrArg (fun z => (own_utf cs).getD z (.int (0 : Int32))) (own_idx_lo ⟨hb_j.1, by omega⟩)).trans ((own_utf_lo cs _).trans (by rw [← hch]))) (own_bnd hb_j).2.2.2.2.1 (own_bnd hb_j).2.2.2.2.2.1 ((congrArg (fun z => (own_utf cs).getD z (.int (0 : Int32))) (own_idx_hi ⟨hb_j.1, by omega⟩)).trans ((own_utf_hi cs _).trans (by rw [← hch])))) 0 (by decide) (by decide) e5 (by decide) (by decide) (by rw [hml]; rfl) (lenOf pd__28_5bBI_29C rfl) rfl (rest := []) (by show 2 * 0 + _ ≤ _; exact Nat.le_of_eq rfl) (hb hby d14_21) ?_
    intro v6 T6 L6 X6 hQ6
    obtain ⟨rfl, Nq6, e6⟩ := hQ6
    have N6 := Fr.app N4 Nq6
    show own_Go p e below Φ T6 (mkF m 24 #[.val (.ref x), .val (.int j)] [(.int ((((((ch >>> ((0 : Int32) &&& 31)).toInt8.toInt32) &&& (255 : Int32)) <<< ((0 : Int32) &&& 31)) ||| ((((ch >>> ((8 : Int32) &&& 31)).toInt8.toInt32) &&& (255 : Int32)) <<< ((8 : Int32) &&& 31))).toUInt32.toUInt16.toUInt32.toInt32))])
    exact own_retN X6 hx (t := .char) hret (by simp) hlk (hb hby d14_24) hF (by rw [e6]; exact ⟨congrArg (fun z => some (Value.int z)) (((own_nar_char _).trans (own_rec ch hok_ch)).trans hch), N6, rfl⟩) (by decide) (by decide)
theorem own_yes {r : Int32} {P : Prop} (h : (r = (1 : Int32) ∧ P) ∨ (r = (0 : Int32) ∧ ¬ P)) (q : ¬ r = (0 : Int32)) : P := by
  rcases h with h | h
  · exact h.2
  · exact absurd h.1 q
theorem own_no {r : Int32} {P : Prop} (h : (r = (1 : Int32) ∧ P) ∨ (r = (0 : Int32) ∧ ¬ P)) (q : r = (0 : Int32)) : ¬ P := by
  rcases h with h | h
  · rw [h.1] at q; exact absurd q (by decide)
  · exact h.2
theorem own_is1 {r : Int32} {P : Prop} (h : (r = (1 : Int32) ∧ P) ∨ (r = (0 : Int32) ∧ ¬ P)) (q : P) : r = (1 : Int32) := by
  rcases h with h | h
  · exact h.1
  · exact absurd q h.2
theorem own_is0 {r : Int32} {P : Prop} (h : (r = (1 : Int32) ∧ P) ∨ (r = (0 : Int32) ∧ ¬ P)) (q : ¬ P) : r = (0 : Int32) := by
  rcases h with h | h
  · exact absurd h.2 q
  · exact h.1
theorem own_rem5 (x : Int32) : 0 ≤ ((x &&& (2147483647 : Int32)) % (5 : Int32)).toInt ∧ ((x &&& (2147483647 : Int32)) % (5 : Int32)).toInt < 5 := by
  have e1 : (x &&& 2147483647).toInt = x.toInt % (2 ^ 31 : Nat) := c_mask x 2147483647 31 (by decide) (by decide)
  have e2 := (c_irem (x &&& 2147483647) (5 : Int32) 5 (by decide)).1 (by omega)
  omega
theorem own_r16 (x : Int32) : own_ok (x.toUInt32.toUInt16.toUInt32.toInt32) := by
  show ¬ (x.toUInt32.toUInt16.toUInt32.toInt32) < (0 : Int32) ∧ ¬ (65535 : Int32) < (x.toUInt32.toUInt16.toUInt32.toInt32)
  have e := c_i2c x
  have z0 : (0 : Int32).toInt = 0 := by decide
  have z1 : (65535 : Int32).toInt = 65535 := by decide
  rw [Int32.lt_iff_toInt_lt, Int32.lt_iff_toInt_lt]
  omega
theorem own_nar_c {c : Int32} (r : own_ok c) : nar .char c = c := by
  have r : ¬ c < (0 : Int32) ∧ ¬ (65535 : Int32) < c := r
  rw [Int32.lt_iff_toInt_lt, Int32.lt_iff_toInt_lt] at r
  have e := c_i2c c
  have z0 : (0 : Int32).toInt = 0 := by decide
  have z1 : (65535 : Int32).toInt = 65535 := by decide
  exact Int32.toInt_inj.mp (by show (c.toUInt32.toUInt16.toUInt32.toInt32).toInt = c.toInt; omega)
def own_dg (c : Int32) : Prop := ¬ c < (48 : Int32) ∧ ¬ (57 : Int32) < c
def own_P (f t : Int32) (cs : List Int32) : Prop := ∀ j : Int32, 0 ≤ j.toInt → ¬ j < f → j < t → own_dg (cs.getD j.toNatClampNeg (0 : Int32))

theorem own_plus1 {i t : Int32} (hlt : i < t) : (i + (1 : Int32)).toInt = i.toInt + 1 := by
  rw [Int32.lt_iff_toInt_lt] at hlt
  have e := c_iadd i (1 : Int32)
  have z1 : (1 : Int32).toInt = 1 := by decide
  have r1 := rng32 i
  have r2 := rng32 t
  have r3 := rng32 (i + (1 : Int32))
  omega
theorem own_start {f t : Int32} (h : f < t) : t.toInt - f.toInt = ((t.toInt - f.toInt).toNat : Int) := by
  rw [Int32.lt_iff_toInt_lt] at h
  omega
theorem own_more {f i t : Int32} {D : Int32 → Prop} (hlt : i < t) (hI : ∀ j : Int32, 0 ≤ j.toInt → ¬ j < f → j < i → D j) (hd : D i) : ∀ j : Int32, 0 ≤ j.toInt → ¬ j < f → j < (i + (1 : Int32)) → D j := by
  intro j j0 h1 h2
  have e := own_plus1 hlt
  by_cases q : j < i
  · exact hI j j0 h1 q
  · rw [Int32.lt_iff_toInt_lt] at q h2
    have : j = i := Int32.toInt_inj.mp (by omega)
    rw [this]; exact hd
theorem ef_1_IJJIII (m : MethodId) (x0 : Int32) (x1 : Int64) (x2 : Int64) (x3 : Int32) (x4 : Int32) (x5 : Int32)  : entryFrame m #[(.int x0), (.long x1), (.long x2), (.int x3), (.int x4), (.int x5)] 9 = mkF m 0 #[.val (.int x0), .val (.long x1), .second, .val (.long x2), .second, .val (.int x3), .val (.int x4), .val (.int x5), .unset] [] := by first | (simp [entryFrame, mkF, argsToLocals, Value.category]; done) | rfl
theorem pn_com_example_couponforge_couponforge_io_DecimalNumberWholeNumberPinLaw : plainName "com/example/couponforge/couponforge/io/DecimalNumberWholeNumberPinLaw" = true := by first | (simp [plainName, overriddenIn]; done) | decide +kernel
theorem d1_0 : decode method_3_code 0 = .ok (.iload_n 0, 1) := by decide +kernel
theorem d1_1 : decode method_3_code 1 = .ok (.iload 5, 2) := by decide +kernel
theorem d1_3 : decode method_3_code 3 = .ok (.iushr, 1) := by decide +kernel
theorem d1_4 : decode method_3_code 4 = .ok (.iconst 1, 1) := by decide +kernel
theorem d1_5 : decode method_3_code 5 = .ok (.iand, 1) := by decide +kernel
theorem d1_6 : decode method_3_code 6 = .ok (.ifCond .eq 26, 3) := by decide +kernel
theorem d1_32 : decode method_3_code 32 = .ok (.lload_n 3, 1) := by decide +kernel
theorem d1_33 : decode method_3_code 33 = .ok (.iload 6, 2) := by decide +kernel
theorem d1_35 : decode method_3_code 35 = .ok (.lushr, 1) := by decide +kernel
theorem d1_36 : decode method_3_code 36 = .ok (.iload 7, 2) := by decide +kernel
theorem d1_38 : decode method_3_code 38 = .ok (.i2l, 1) := by decide +kernel
theorem d1_39 : decode method_3_code 39 = .ok (.land, 1) := by decide +kernel
theorem d1_40 : decode method_3_code 40 = .ok (.l2i, 1) := by decide +kernel
theorem d1_41 : decode method_3_code 41 = .ok (.i2c, 1) := by decide +kernel
theorem d1_42 : decode method_3_code 42 = .ok (.ireturn, 1) := by decide +kernel
theorem d1_9 : decode method_3_code 9 = .ok (.lload_n 1, 1) := by decide +kernel
theorem d1_10 : decode method_3_code 10 = .ok (.iconst 4, 1) := by decide +kernel
theorem d1_11 : decode method_3_code 11 = .ok (.iload 5, 2) := by decide +kernel
theorem d1_13 : decode method_3_code 13 = .ok (.imul, 1) := by decide +kernel
theorem d1_14 : decode method_3_code 14 = .ok (.lushr, 1) := by decide +kernel
theorem d1_15 : decode method_3_code 15 = .ok (.ldc2_w 30, 3) := by decide +kernel
theorem d1_18 : decode method_3_code 18 = .ok (.land, 1) := by decide +kernel
theorem d1_19 : decode method_3_code 19 = .ok (.l2i, 1) := by decide +kernel
theorem d1_20 : decode method_3_code 20 = .ok (.istore 8, 2) := by decide +kernel
theorem d1_22 : decode method_3_code 22 = .ok (.bipush 48, 2) := by decide +kernel
theorem d1_24 : decode method_3_code 24 = .ok (.iload 8, 2) := by decide +kernel
theorem d1_26 : decode method_3_code 26 = .ok (.bipush 10, 2) := by decide +kernel
theorem d1_28 : decode method_3_code 28 = .ok (.irem, 1) := by decide +kernel
theorem d1_29 : decode method_3_code 29 = .ok (.iadd, 1) := by decide +kernel
theorem d1_30 : decode method_3_code 30 = .ok (.i2c, 1) := by decide +kernel
theorem d1_31 : decode method_3_code 31 = .ok (.ireturn, 1) := by decide +kernel
set_option maxRecDepth 65536 in
set_option maxHeartbeats 40000000 in
theorem rm_draw (l : Launch) (Z : State) (a0 : Array Value) (g_COMPACT_STRINGS : Int32) (g_SIOOBE_FORMATTER : Value) (hW : own_W Z a0 g_COMPACT_STRINGS g_SIOOBE_FORMATTER) (fl : Int32) (d : Int64) (ar : Int64) (i : Int32) (sh : Int32) (ma : Int32) (h0 : Heap) (O0 : Old Z Z.heap.size h0)  :
    own_Met l Z (⟨"com/example/couponforge/couponforge/io/DecimalNumberWholeNumberPinLaw", "draw", "(IJJIII)C"⟩ : MethodName) method_3_code 9 (some .char) ({ frames := 0, cells := 0, slots := 0, locals := 0 } : Room) #[(.int fl), (.long d), (.long ar), (.int i), (.int sh), (.int ma)] h0 (fun v h L => (∃ c, v = some (.int c) ∧ own_ok c) ∧ Fr Z.heap.size L ∧ h = h0) := by
  have hW_ := hW
  obtain ⟨hw, S_g_COMPACT_STRINGS, P_g_COMPACT_STRINGS, R_g_SIOOBE_FORMATTER, S_g_SIOOBE_FORMATTER, S_g__assertionsDisabled, S_g_HI_BYTE_SHIFT, S_g_LO_BYTE_SHIFT⟩ := hW_
  refine own_met (plainFor_of_name pn_com_example_couponforge_couponforge_io_DecimalNumberWholeNumberPinLaw) ?_
  intro p e s m below meth cc_ s₁ Φ hF X0 hx hby hml hZ hown hnm hret hlk e0
  have N0 := Fr.nil Z.heap.size
  refine own_k (T' := s₁) (g' := (mkF m 0 #[.val (.int fl), .val (.long d), .second, .val (.long ar), .second, .val (.int i), .val (.int sh), .val (.int ma), .unset] [])) (fun _ k_ => castTop (ef_1_IJJIII m fl d ar i sh ma) k_) ?_
  refine own_k (T' := s₁) (g' := (mkF m 1 #[.val (.int fl), .val (.long d), .second, .val (.long ar), .second, .val (.int i), .val (.int sh), .val (.int ma), .unset] [(.int fl)])) (fun _ k_ => XS.iloadN X0.here hx rfl (hb hby d1_0) rfl  k_) ?_
  refine own_k (T' := s₁) (g' := (mkF m 3 #[.val (.int fl), .val (.long d), .second, .val (.long ar), .second, .val (.int i), .val (.int sh), .val (.int ma), .unset] [(.int i), (.int fl)])) (fun _ k_ => XS.iload X0.here hx rfl (hb hby d1_1) rfl  k_) ?_
  refine own_k (T' := s₁) (g' := (mkF m 4 #[.val (.int fl), .val (.long d), .second, .val (.long ar), .second, .val (.int i), .val (.int sh), .val (.int ma), .unset] [(.int ((fl.toUInt32 >>> (i &&& 31).toUInt32).toInt32))])) (fun _ k_ => XS.iushr X0.here hx rfl (hb hby d1_3) rfl k_) ?_
  refine own_k (T' := s₁) (g' := (mkF m 5 #[.val (.int fl), .val (.long d), .second, .val (.long ar), .second, .val (.int i), .val (.int sh), .val (.int ma), .unset] [(.int (1 : Int32)), (.int ((fl.toUInt32 >>> (i &&& 31).toUInt32).toInt32))])) (fun _ k_ => XS.iconst X0.here hx rfl (hb hby d1_4) k_) ?_
  refine own_k (T' := s₁) (g' := (mkF m 6 #[.val (.int fl), .val (.long d), .second, .val (.long ar), .second, .val (.int i), .val (.int sh), .val (.int ma), .unset] [(.int (((fl.toUInt32 >>> (i &&& 31).toUInt32).toInt32) &&& (1 : Int32)))])) (fun _ k_ => XS.iand X0.here hx rfl (hb hby d1_5) rfl k_) ?_
  by_cases hc1 : (((fl.toUInt32 >>> (i &&& 31).toUInt32).toInt32) &&& (1 : Int32)) = (0 : Int32)
  · refine own_k (T' := s₁) (g' := (mkF m 32 #[.val (.int fl), .val (.long d), .second, .val (.long ar), .second, .val (.int i), .val (.int sh), .val (.int ma), .unset] [])) (fun _ k_ => XS.ifYes X0.here hx rfl (pc0 := 6) (pc' := 32) rfl (hb hby d1_6) rfl ((if0 _ _).trans (teq hc1).1) (by decide) (by decide) k_) ?_
    refine own_k (T' := s₁) (g' := (mkF m 33 #[.val (.int fl), .val (.long d), .second, .val (.long ar), .second, .val (.int i), .val (.int sh), .val (.int ma), .unset] [(.long ar)])) (fun _ k_ => XS.lloadN X0.here hx rfl (hb hby d1_32) rfl  k_) ?_
    refine own_k (T' := s₁) (g' := (mkF m 35 #[.val (.int fl), .val (.long d), .second, .val (.long ar), .second, .val (.int i), .val (.int sh), .val (.int ma), .unset] [(.int sh), (.long ar)])) (fun _ k_ => XS.iload X0.here hx rfl (hb hby d1_33) rfl  k_) ?_
    refine own_k (T' := s₁) (g' := (mkF m 36 #[.val (.int fl), .val (.long d), .second, .val (.long ar), .second, .val (.int i), .val (.int sh), .val (.int ma), .unset] [(.long ((ar.toUInt64 >>> (sh &&& 0x3f).toInt64.toUInt64).toInt64))])) (fun _ k_ => XS.lushr X0.here hx rfl (hb hby d1_35) rfl k_) ?_
    refine own_k (T' := s₁) (g' := (mkF m 38 #[.val (.int fl), .val (.long d), .second, .val (.long ar), .second, .val (.int i), .val (.int sh), .val (.int ma), .unset] [(.int ma), (.long ((ar.toUInt64 >>> (sh &&& 0x3f).toInt64.toUInt64).toInt64))])) (fun _ k_ => XS.iload X0.here hx rfl (hb hby d1_36) rfl  k_) ?_
    refine own_k (T' := s₁) (g' := (mkF m 39 #[.val (.int fl), .val (.long d), .second, .val (.long ar), .second, .val (.int i), .val (.int sh), .val (.int ma), .unset] [(.long (ma.toInt64)), (.long ((ar.toUInt64 >>> (sh &&& 0x3f).toInt64.toUInt64).toInt64))])) (fun _ k_ => XS.i2l X0.here hx rfl (hb hby d1_38) rfl k_) ?_
    refine own_k (T' := s₁) (g' := (mkF m 40 #[.val (.int fl), .val (.long d), .second, .val (.long ar), .second, .val (.int i), .val (.int sh), .val (.int ma), .unset] [(.long (((ar.toUInt64 >>> (sh &&& 0x3f).toInt64.toUInt64).toInt64) &&& (ma.toInt64)))])) (fun _ k_ => XS.land X0.here hx rfl (hb hby d1_39) rfl k_) ?_
    refine own_k (T' := s₁) (g' := (mkF m 41 #[.val (.int fl), .val (.long d), .second, .val (.long ar), .second, .val (.int i), .val (.int sh), .val (.int ma), .unset] [(.int ((((ar.toUInt64 >>> (sh &&& 0x3f).toInt64.toUInt64).toInt64) &&& (ma.toInt64)).toInt32))])) (fun _ k_ => XS.l2i X0.here hx rfl (hb hby d1_40) rfl k_) ?_
    refine own_k (T' := s₁) (g' := (mkF m 42 #[.val (.int fl), .val (.long d), .second, .val (.long ar), .second, .val (.int i), .val (.int sh), .val (.int ma), .unset] [(.int (((((ar.toUInt64 >>> (sh &&& 0x3f).toInt64.toUInt64).toInt64) &&& (ma.toInt64)).toInt32).toUInt32.toUInt16.toUInt32.toInt32))])) (fun _ k_ => XS.i2c X0.here hx rfl (hb hby d1_41) rfl k_) ?_
    exact own_retN X0 hx (t := .char) hret (by simp) hlk (hb hby d1_42) hF (by rw [e0]; exact ⟨⟨(((((ar.toUInt64 >>> (sh &&& 0x3f).toInt64.toUInt64).toInt64) &&& (ma.toInt64)).toInt32).toUInt32.toUInt16.toUInt32.toInt32), congrArg (fun z => some (Value.int z)) (own_nar_char _), own_r16 _⟩, N0, rfl⟩) (by decide) (by decide)
  · refine own_k (T' := s₁) (g' := (mkF m 9 #[.val (.int fl), .val (.long d), .second, .val (.long ar), .second, .val (.int i), .val (.int sh), .val (.int ma), .unset] [])) (fun _ k_ => XS.ifNo X0.here hx rfl (hb hby d1_6) rfl ((if0 _ _).trans (feq hc1).1) k_) ?_
    refine own_k (T' := s₁) (g' := (mkF m 10 #[.val (.int fl), .val (.long d), .second, .val (.long ar), .second, .val (.int i), .val (.int sh), .val (.int ma), .unset] [(.long d)])) (fun _ k_ => XS.lloadN X0.here hx rfl (hb hby d1_9) rfl  k_) ?_
    refine own_k (T' := s₁) (g' := (mkF m 11 #[.val (.int fl), .val (.long d), .second, .val (.long ar), .second, .val (.int i), .val (.int sh), .val (.int ma), .unset] [(.int (4 : Int32)), (.long d)])) (fun _ k_ => XS.iconst X0.here hx rfl (hb hby d1_10) k_) ?_
    refine own_k (T' := s₁) (g' := (mkF m 13 #[.val (.int fl), .val (.long d), .second, .val (.long ar), .second, .val (.int i), .val (.int sh), .val (.int ma), .unset] [(.int i), (.int (4 : Int32)), (.long d)])) (fun _ k_ => XS.iload X0.here hx rfl (hb hby d1_11) rfl  k_) ?_
    refine own_k (T' := s₁) (g' := (mkF m 14 #[.val (.int fl), .val (.long d), .second, .val (.long ar), .second, .val (.int i), .val (.int sh), .val (.int ma), .unset] [(.int ((4 : Int32) * i)), (.long d)])) (fun _ k_ => XS.imul X0.here hx rfl (hb hby d1_13) rfl k_) ?_
    refine own_k (T' := s₁) (g' := (mkF m 15 #[.val (.int fl), .val (.long d), .second, .val (.long ar), .second, .val (.int i), .val (.int sh), .val (.int ma), .unset] [(.long ((d.toUInt64 >>> (((4 : Int32) * i) &&& 0x3f).toInt64.toUInt64).toInt64))])) (fun _ k_ => XS.lushr X0.here hx rfl (hb hby d1_14) rfl k_) ?_
    refine own_k (T' := s₁) (g' := (mkF m 18 #[.val (.int fl), .val (.long d), .second, .val (.long ar), .second, .val (.int i), .val (.int sh), .val (.int ma), .unset] [(.long (15 : Int64)), (.long ((d.toUInt64 >>> (((4 : Int32) * i) &&& 0x3f).toInt64.toUInt64).toInt64))])) (X0.ldc2Long hx hown (mvT hZ (hw _ (List.mem_of_getElem? (i := 5) rfl))) (g := (mkF m 15 #[.val (.int fl), .val (.long d), .second, .val (.long ar), .second, .val (.int i), .val (.int sh), .val (.int ma), .unset] [(.long ((d.toUInt64 >>> (((4 : Int32) * i) &&& 0x3f).toInt64.toUInt64).toInt64))])) rfl (hb hby d1_15)) ?_
    refine own_k (T' := s₁) (g' := (mkF m 19 #[.val (.int fl), .val (.long d), .second, .val (.long ar), .second, .val (.int i), .val (.int sh), .val (.int ma), .unset] [(.long (((d.toUInt64 >>> (((4 : Int32) * i) &&& 0x3f).toInt64.toUInt64).toInt64) &&& (15 : Int64)))])) (fun _ k_ => XS.land X0.here hx rfl (hb hby d1_18) rfl k_) ?_
    refine own_k (T' := s₁) (g' := (mkF m 20 #[.val (.int fl), .val (.long d), .second, .val (.long ar), .second, .val (.int i), .val (.int sh), .val (.int ma), .unset] [(.int ((((d.toUInt64 >>> (((4 : Int32) * i) &&& 0x3f).toInt64.toUInt64).toInt64) &&& (15 : Int64)).toInt32))])) (fun _ k_ => XS.l2i X0.here hx rfl (hb hby d1_19) rfl k_) ?_
    refine own_k (T' := s₁) (g' := (mkF m 22 #[.val (.int fl), .val (.long d), .second, .val (.long ar), .second, .val (.int i), .val (.int sh), .val (.int ma), .val (.int ((((d.toUInt64 >>> (((4 : Int32) * i) &&& 0x3f).toInt64.toUInt64).toInt64) &&& (15 : Int64)).toInt32))] [])) (fun _ k_ => XS.istore X0.here hx rfl (hb hby d1_20) rfl (l' := #[.val (.int fl), .val (.long d), .second, .val (.long ar), .second, .val (.int i), .val (.int sh), .val (.int ma), .val (.int ((((d.toUInt64 >>> (((4 : Int32) * i) &&& 0x3f).toInt64.toUInt64).toInt64) &&& (15 : Int64)).toInt32))]) rfl k_) ?_
    refine own_k (T' := s₁) (g' := (mkF m 24 #[.val (.int fl), .val (.long d), .second, .val (.long ar), .second, .val (.int i), .val (.int sh), .val (.int ma), .val (.int ((((d.toUInt64 >>> (((4 : Int32) * i) &&& 0x3f).toInt64.toUInt64).toInt64) &&& (15 : Int64)).toInt32))] [(.int (48 : Int32))])) (fun _ k_ => XS.bipush X0.here hx rfl (hb hby d1_22) k_) ?_
    refine own_k (T' := s₁) (g' := (mkF m 26 #[.val (.int fl), .val (.long d), .second, .val (.long ar), .second, .val (.int i), .val (.int sh), .val (.int ma), .val (.int ((((d.toUInt64 >>> (((4 : Int32) * i) &&& 0x3f).toInt64.toUInt64).toInt64) &&& (15 : Int64)).toInt32))] [(.int ((((d.toUInt64 >>> (((4 : Int32) * i) &&& 0x3f).toInt64.toUInt64).toInt64) &&& (15 : Int64)).toInt32)), (.int (48 : Int32))])) (fun _ k_ => XS.iload X0.here hx rfl (hb hby d1_24) rfl  k_) ?_
    refine own_k (T' := s₁) (g' := (mkF m 28 #[.val (.int fl), .val (.long d), .second, .val (.long ar), .second, .val (.int i), .val (.int sh), .val (.int ma), .val (.int ((((d.toUInt64 >>> (((4 : Int32) * i) &&& 0x3f).toInt64.toUInt64).toInt64) &&& (15 : Int64)).toInt32))] [(.int (10 : Int32)), (.int ((((d.toUInt64 >>> (((4 : Int32) * i) &&& 0x3f).toInt64.toUInt64).toInt64) &&& (15 : Int64)).toInt32)), (.int (48 : Int32))])) (fun _ k_ => XS.bipush X0.here hx rfl (hb hby d1_26) k_) ?_
    refine own_k (T' := s₁) (g' := (mkF m 29 #[.val (.int fl), .val (.long d), .second, .val (.long ar), .second, .val (.int i), .val (.int sh), .val (.int ma), .val (.int ((((d.toUInt64 >>> (((4 : Int32) * i) &&& 0x3f).toInt64.toUInt64).toInt64) &&& (15 : Int64)).toInt32))] [(.int (((((d.toUInt64 >>> (((4 : Int32) * i) &&& 0x3f).toInt64.toUInt64).toInt64) &&& (15 : Int64)).toInt32) % (10 : Int32))), (.int (48 : Int32))])) (fun _ k_ => iremM X0 hx rfl (hb hby d1_28) rfl (by decide) k_) ?_
    refine own_k (T' := s₁) (g' := (mkF m 30 #[.val (.int fl), .val (.long d), .second, .val (.long ar), .second, .val (.int i), .val (.int sh), .val (.int ma), .val (.int ((((d.toUInt64 >>> (((4 : Int32) * i) &&& 0x3f).toInt64.toUInt64).toInt64) &&& (15 : Int64)).toInt32))] [(.int ((48 : Int32) + (((((d.toUInt64 >>> (((4 : Int32) * i) &&& 0x3f).toInt64.toUInt64).toInt64) &&& (15 : Int64)).toInt32) % (10 : Int32))))])) (fun _ k_ => XS.iadd X0.here hx rfl (hb hby d1_29) rfl k_) ?_
    refine own_k (T' := s₁) (g' := (mkF m 31 #[.val (.int fl), .val (.long d), .second, .val (.long ar), .second, .val (.int i), .val (.int sh), .val (.int ma), .val (.int ((((d.toUInt64 >>> (((4 : Int32) * i) &&& 0x3f).toInt64.toUInt64).toInt64) &&& (15 : Int64)).toInt32))] [(.int (((48 : Int32) + (((((d.toUInt64 >>> (((4 : Int32) * i) &&& 0x3f).toInt64.toUInt64).toInt64) &&& (15 : Int64)).toInt32) % (10 : Int32))).toUInt32.toUInt16.toUInt32.toInt32))])) (fun _ k_ => XS.i2c X0.here hx rfl (hb hby d1_30) rfl k_) ?_
    exact own_retN X0 hx (t := .char) hret (by simp) hlk (hb hby d1_31) hF (by rw [e0]; exact ⟨⟨(((48 : Int32) + (((((d.toUInt64 >>> (((4 : Int32) * i) &&& 0x3f).toInt64.toUInt64).toInt64) &&& (15 : Int64)).toInt32) % (10 : Int32))).toUInt32.toUInt16.toUInt32.toInt32), congrArg (fun z => some (Value.int z)) (own_nar_char _), own_r16 _⟩, N0, rfl⟩) (by decide) (by decide)
theorem ef_21_I (m : MethodId) (x0 : Int32)  : entryFrame m #[(.int x0)] 1 = mkF m 0 #[.val (.int x0)] [] := by first | (simp [entryFrame, mkF, argsToLocals, Value.category]; done) | rfl
theorem pn_com_example_couponforge_couponforge_io_DecimalNumber : plainName "com/example/couponforge/couponforge/io/DecimalNumber" = true := by first | (simp [plainName, overriddenIn]; done) | decide +kernel
theorem d21_0 : decode prog_33_method_6_code 0 = .ok (.iload_n 0, 1) := by decide +kernel
theorem d21_1 : decode prog_33_method_6_code 1 = .ok (.bipush 48, 2) := by decide +kernel
theorem d21_3 : decode prog_33_method_6_code 3 = .ok (.if_icmp .lt 13, 3) := by decide +kernel
theorem d21_16 : decode prog_33_method_6_code 16 = .ok (.iconst 0, 1) := by decide +kernel
theorem d21_17 : decode prog_33_method_6_code 17 = .ok (.ireturn, 1) := by decide +kernel
theorem d21_6 : decode prog_33_method_6_code 6 = .ok (.iload_n 0, 1) := by decide +kernel
theorem d21_7 : decode prog_33_method_6_code 7 = .ok (.bipush 57, 2) := by decide +kernel
theorem d21_9 : decode prog_33_method_6_code 9 = .ok (.if_icmp .gt 7, 3) := by decide +kernel
theorem d21_12 : decode prog_33_method_6_code 12 = .ok (.iconst 1, 1) := by decide +kernel
theorem d21_13 : decode prog_33_method_6_code 13 = .ok (.goto 4, 3) := by decide +kernel
set_option maxRecDepth 65536 in
set_option maxHeartbeats 40000000 in
theorem rm_isDigit (l : Launch) (Z : State) (a0 : Array Value) (g_COMPACT_STRINGS : Int32) (g_SIOOBE_FORMATTER : Value) (hW : own_W Z a0 g_COMPACT_STRINGS g_SIOOBE_FORMATTER) (c : Int32) (h0 : Heap) (O0 : Old Z Z.heap.size h0)  :
    own_Met l Z (⟨"com/example/couponforge/couponforge/io/DecimalNumber", "isDigit", "(C)Z"⟩ : MethodName) prog_33_method_6_code 1 (some .boolean) ({ frames := 0, cells := 0, slots := 0, locals := 0 } : Room) #[(.int c)] h0 (fun v h L => (∃ r, v = some (.int r) ∧ ((r = (1 : Int32) ∧ own_dg c) ∨ (r = (0 : Int32) ∧ ¬ own_dg c))) ∧ Fr Z.heap.size L ∧ h = h0) := by
  have hW_ := hW
  obtain ⟨hw, S_g_COMPACT_STRINGS, P_g_COMPACT_STRINGS, R_g_SIOOBE_FORMATTER, S_g_SIOOBE_FORMATTER, S_g__assertionsDisabled, S_g_HI_BYTE_SHIFT, S_g_LO_BYTE_SHIFT⟩ := hW_
  refine own_met (plainFor_of_name pn_com_example_couponforge_couponforge_io_DecimalNumber) ?_
  intro p e s m below meth cc_ s₁ Φ hF X0 hx hby hml hZ hown hnm hret hlk e0
  have N0 := Fr.nil Z.heap.size
  refine own_k (T' := s₁) (g' := (mkF m 0 #[.val (.int c)] [])) (fun _ k_ => castTop (ef_21_I m c) k_) ?_
  refine own_k (T' := s₁) (g' := (mkF m 1 #[.val (.int c)] [(.int c)])) (fun _ k_ => XS.iloadN X0.here hx rfl (hb hby d21_0) rfl  k_) ?_
  refine own_k (T' := s₁) (g' := (mkF m 3 #[.val (.int c)] [(.int (48 : Int32)), (.int c)])) (fun _ k_ => XS.bipush X0.here hx rfl (hb hby d21_1) k_) ?_
  by_cases hc1 : c < (48 : Int32)
  · refine own_k (T' := s₁) (g' := (mkF m 16 #[.val (.int c)] [])) (fun _ k_ => XS.icmpYes X0.here hx rfl (pc0 := 3) (pc' := 16) rfl (hb hby d21_3) rfl ((tlt hc1).1) (by decide) (by decide) k_) ?_
    refine own_k (T' := s₁) (g' := (mkF m 17 #[.val (.int c)] [(.int (0 : Int32))])) (fun _ k_ => XS.iconst X0.here hx rfl (hb hby d21_16) k_) ?_
    exact own_retN X0 hx (t := .boolean) hret (by simp) hlk (hb hby d21_17) hF (by rw [e0]; exact ⟨⟨(0 : Int32), rfl, Or.inr ⟨rfl, fun q => q.1 hc1⟩⟩, N0, rfl⟩) (by decide) (by decide)
  · refine own_k (T' := s₁) (g' := (mkF m 6 #[.val (.int c)] [])) (fun _ k_ => XS.icmpNo X0.here hx rfl (hb hby d21_3) rfl ((flt hc1).1) k_) ?_
    refine own_k (T' := s₁) (g' := (mkF m 7 #[.val (.int c)] [(.int c)])) (fun _ k_ => XS.iloadN X0.here hx rfl (hb hby d21_6) rfl  k_) ?_
    refine own_k (T' := s₁) (g' := (mkF m 9 #[.val (.int c)] [(.int (57 : Int32)), (.int c)])) (fun _ k_ => XS.bipush X0.here hx rfl (hb hby d21_7) k_) ?_
    by_cases hc2 : (57 : Int32) < c
    · refine own_k (T' := s₁) (g' := (mkF m 16 #[.val (.int c)] [])) (fun _ k_ => XS.icmpYes X0.here hx rfl (pc0 := 9) (pc' := 16) rfl (hb hby d21_9) rfl ((tlt hc2).2.2.1) (by decide) (by decide) k_) ?_
      refine own_k (T' := s₁) (g' := (mkF m 17 #[.val (.int c)] [(.int (0 : Int32))])) (fun _ k_ => XS.iconst X0.here hx rfl (hb hby d21_16) k_) ?_
      exact own_retN X0 hx (t := .boolean) hret (by simp) hlk (hb hby d21_17) hF (by rw [e0]; exact ⟨⟨(0 : Int32), rfl, Or.inr ⟨rfl, fun q => q.2 hc2⟩⟩, N0, rfl⟩) (by decide) (by decide)
    · refine own_k (T' := s₁) (g' := (mkF m 12 #[.val (.int c)] [])) (fun _ k_ => XS.icmpNo X0.here hx rfl (hb hby d21_9) rfl ((flt hc2).2.2.1) k_) ?_
      refine own_k (T' := s₁) (g' := (mkF m 13 #[.val (.int c)] [(.int (1 : Int32))])) (fun _ k_ => XS.iconst X0.here hx rfl (hb hby d21_12) k_) ?_
      refine own_k (T' := s₁) (g' := (mkF m 17 #[.val (.int c)] [(.int (1 : Int32))])) (fun _ k_ => XS.goto X0.here hx rfl (pc0 := 13) (pc' := 17) rfl (hb hby d21_13) (by decide) (by decide) k_) ?_
      exact own_retN X0 hx (t := .boolean) hret (by simp) hlk (hb hby d21_17) hF (by rw [e0]; exact ⟨⟨(1 : Int32), rfl, Or.inl ⟨rfl, hc1, hc2⟩⟩, N0, rfl⟩) (by decide) (by decide)
def own_num (cs : List Int32) (f : Nat) : Nat → Int
  | 0 => 0
  | k + 1 => own_num cs f k * 10 + ((cs.getD (f + k) (0 : Int32)).toInt - 48)
def own_prt (f t i : Int) (c : Int32) : Int := if i < f ∨ t ≤ i then 0 else if c < (48 : Int32) ∨ (57 : Int32) < c then -1000000000000 else (c.toInt - 48) * 10 ^ (t - 1 - i).toNat
def own_sum (cs : List Int32) (f t : Int) : Nat → Int
  | 0 => 0
  | m + 1 => own_sum cs f t m + own_prt f t (m : Int) (cs.getD m (0 : Int32))
def own_good (cs : List Int32) (f t : Int) : Prop := ∀ j : Nat, f ≤ j → (j : Int) < t → own_dg (cs.getD j (0 : Int32))
theorem own_dgv {c : Int32} (h : own_dg c) : 0 ≤ c.toInt - 48 ∧ c.toInt - 48 ≤ 9 := by
  have z2 : (48 : Int32).toInt = 48 := by decide
  have z4 : (57 : Int32).toInt = 57 := by decide
  simp only [own_dg, Int32.lt_iff_toInt_lt] at h
  omega
theorem own_pw (k : Nat) (h : k ≤ 8) : (1 : Int) ≤ 10 ^ k ∧ (10 : Int) ^ k ≤ 100000000 := by
  rcases (by omega : k = 0 ∨ k = 1 ∨ k = 2 ∨ k = 3 ∨ k = 4 ∨ k = 5 ∨ k = 6 ∨ k = 7 ∨ k = 8) with rfl | rfl | rfl | rfl | rfl | rfl | rfl | rfl | rfl <;> decide
theorem own_prt_b {f t i : Int} {c : Int32} (h : t - f ≤ 9) : -1000000000000 ≤ own_prt f t i c ∧ own_prt f t i c ≤ 900000000 := by
  unfold own_prt
  split
  · omega
  · split
    · omega
    · rename_i h1 h2
      have d := own_dgv (c := c) ⟨fun q => h2 (Or.inl q), fun q => h2 (Or.inr q)⟩
      have e := own_pw (t - 1 - i).toNat (by omega)
      generalize (10 : Int) ^ (t - 1 - i).toNat = w at *
      have m1 : 0 ≤ (c.toInt - 48) * w := Int.mul_nonneg d.1 (by omega)
      have m2 : (c.toInt - 48) * w ≤ 9 * w := Int.mul_le_mul_of_nonneg_right d.2 (by omega)
      omega
theorem own_sum_b {cs : List Int32} {f t : Int} (h : t - f ≤ 9) : ∀ m : Nat, -1000000000000 * (m : Int) ≤ own_sum cs f t m ∧ own_sum cs f t m ≤ 900000000 * (m : Int)
  | 0 => by simp [own_sum]
  | m + 1 => by
    have a := own_sum_b h m (cs := cs)
    have b := own_prt_b (i := (m : Int)) (c := cs.getD m (0 : Int32)) h
    simp only [own_sum]
    push_cast
    omega
theorem own_sum_neg {cs : List Int32} {f t : Int} (h : t - f ≤ 9) {j : Nat} (h1 : f ≤ j) (h2 : (j : Int) < t) (hb : ¬ own_dg (cs.getD j (0 : Int32))) : ∀ m : Nat, j < m → own_sum cs f t m ≤ -1000000000000 + 900000000 * (m : Int)
  | 0, q => absurd q (Nat.not_lt_zero _)
  | m + 1, q => by
    have b := own_prt_b (i := (m : Int)) (c := cs.getD m (0 : Int32)) h
    simp only [own_sum]
    push_cast
    by_cases e : j < m
    · have a := own_sum_neg h h1 h2 hb m e
      omega
    · have e' : j = m := by omega
      subst e'
      have a := own_sum_b h j (cs := cs)
      have c : own_prt f t (j : Int) (cs.getD j (0 : Int32)) = -1000000000000 := by
        unfold own_prt
        rw [if_neg (by omega), if_pos]
        by_cases q1 : cs.getD j (0 : Int32) < (48 : Int32)
        · exact Or.inl q1
        · exact Or.inr (Classical.byContradiction fun q2 => hb ⟨q1, q2⟩)
      omega
theorem own_sum_lo {cs : List Int32} {f : Nat} {t : Int} : ∀ m : Nat, m ≤ f → own_sum cs (f : Int) t m = 0
  | 0, _ => rfl
  | m + 1, q => by
    simp only [own_sum]
    rw [own_sum_lo m (by omega)]
    unfold own_prt
    rw [if_pos (by omega)]
    rfl
theorem own_sum_mid {cs : List Int32} {f t : Nat} (g : own_good cs (f : Int) (t : Int)) : ∀ k : Nat, f + k ≤ t → own_sum cs (f : Int) (t : Int) (f + k) = own_num cs f k * 10 ^ (t - f - k)
  | 0, _ => by rw [Nat.add_zero, own_sum_lo f (Nat.le_refl _)]; simp [own_num]
  | k + 1, q => by
    have a := own_sum_mid g k (by omega)
    have d := g (f + k) (by omega) (by omega)
    show own_sum cs (f : Int) (t : Int) (f + k) + own_prt (f : Int) (t : Int) ((f + k : Nat) : Int) (cs.getD (f + k) (0 : Int32)) = (own_num cs f k * 10 + ((cs.getD (f + k) (0 : Int32)).toInt - 48)) * 10 ^ (t - f - (k + 1))
    rw [a]
    have e : own_prt (f : Int) (t : Int) ((f + k : Nat) : Int) (cs.getD (f + k) (0 : Int32)) = ((cs.getD (f + k) (0 : Int32)).toInt - 48) * 10 ^ (t - f - (k + 1)) := by
      unfold own_prt
      rw [if_neg (by omega), if_neg (by rintro (q1 | q1); exact d.1 q1; exact d.2 q1)]
      rw [show ((t : Int) - 1 - ((f + k : Nat) : Int)).toNat = t - f - (k + 1) from by omega]
    rw [e, show t - f - k = (t - f - (k + 1)) + 1 from by omega, Int.pow_succ]
    rw [Int.add_mul, Int.mul_assoc, Int.mul_comm (10 ^ (t - f - (k + 1))) 10, ← Int.mul_assoc]
theorem own_sum_hi {cs : List Int32} {f : Int} {t : Nat} : ∀ k : Nat, own_sum cs f (t : Int) (t + k) = own_sum cs f (t : Int) t
  | 0 => rfl
  | k + 1 => by
    show own_sum cs f (t : Int) (t + k) + own_prt f (t : Int) ((t + k : Nat) : Int) (cs.getD (t + k) (0 : Int32)) = _
    rw [own_sum_hi k]
    unfold own_prt
    rw [if_pos (by omega)]
    omega
theorem own_sum_all {cs : List Int32} {f t : Nat} (g : own_good cs (f : Int) (t : Int)) (h : f ≤ t) {m : Nat} (hm : t ≤ m) : own_sum cs (f : Int) (t : Int) m = own_num cs f (t - f) := by
  have a := own_sum_hi (cs := cs) (f := (f : Int)) (t := t) (m - t)
  rw [show t + (m - t) = m from by omega] at a
  rw [a]
  have b := own_sum_mid g (t - f) (by omega)
  rw [show f + (t - f) = t from by omega, show t - f - (t - f) = 0 from by omega] at b
  rw [b]
  simp
theorem own_num_b {cs : List Int32} {f : Nat} : ∀ k : Nat, (∀ j : Nat, f ≤ j → j < f + k → own_dg (cs.getD j (0 : Int32))) → 0 ≤ own_num cs f k ∧ own_num cs f k ≤ 10 ^ k - 1
  | 0, _ => by simp [own_num]
  | k + 1, g => by
    have a := own_num_b k (fun j h1 h2 => g j h1 (by omega))
    have d := own_dgv (g (f + k) (by omega) (by omega))
    simp only [own_num]
    rw [Int.pow_succ]
    omega
def own_Wh (f t : Int32) (cs : List Int32) (r : Int32) : Prop := (f < t ∧ ¬ (9 : Int32) < (t - f) ∧ own_P f t cs ∧ r.toInt = own_num cs f.toInt.toNat (t.toInt - f.toInt).toNat) ∨ (¬ (f < t ∧ ¬ (9 : Int32) < (t - f) ∧ own_P f t cs) ∧ r = (-1 : Int32))
theorem own_rem13 (x : Int32) : 0 ≤ ((x &&& (2147483647 : Int32)) % (13 : Int32)).toInt ∧ ((x &&& (2147483647 : Int32)) % (13 : Int32)).toInt < 13 := by
  have e1 : (x &&& 2147483647).toInt = x.toInt % (2 ^ 31 : Nat) := c_mask x 2147483647 31 (by decide) (by decide)
  have e2 := (c_irem (x &&& 2147483647) (13 : Int32) 13 (by decide)).1 (by omega)
  omega
theorem own_le9 {f t : Int32} (h0 : 0 ≤ f.toInt) (h1 : t.toInt < 13) (h : ¬ (9 : Int32) < (t - f)) : t.toInt - f.toInt ≤ 9 := by
  have e := c_isub t f
  have r := rng32 (t - f)
  have r2 := rng32 t
  have r3 := rng32 f
  have z9 : (9 : Int32).toInt = 9 := by decide
  rw [Int32.lt_iff_toInt_lt] at h
  omega
theorem own_map_get (cs : List Int32) (i : Nat) : (cs.map Value.int).getD i (.int (0 : Int32)) = .int (cs.getD i (0 : Int32)) := by
  simp only [List.getD_eq_getElem?_getD, List.getElem?_map]
  cases cs[i]? <;> rfl
theorem own_k8 {k : Int32} (h : 0 ≤ k.toInt ∧ k.toInt ≤ 8) : (¬ k < (0 : Int32)) ∧ k < (9 : Int32) := by
  have z0 : (0 : Int32).toInt = 0 := by decide
  have z9 : (9 : Int32).toInt = 9 := by decide
  rw [Int32.lt_iff_toInt_lt, Int32.lt_iff_toInt_lt]
  omega
theorem own_i12 {k : Int32} (h : 0 ≤ k.toInt ∧ k.toInt < 12) : (¬ k < (0 : Int32)) ∧ k < (12 : Int32) := by
  have z0 : (0 : Int32).toInt = 0 := by decide
  have z9 : (12 : Int32).toInt = 12 := by decide
  rw [Int32.lt_iff_toInt_lt, Int32.lt_iff_toInt_lt]
  omega
theorem own_pows {k : Int32} (h : 0 ≤ k.toInt ∧ k.toInt ≤ 8) : ∃ z : Int64, [(.long (1 : Int64)), (.long (10 : Int64)), (.long (100 : Int64)), (.long (1000 : Int64)), (.long (10000 : Int64)), (.long (100000 : Int64)), (.long (1000000 : Int64)), (.long (10000000 : Int64)), (.long (100000000 : Int64))].getD k.toNatClampNeg (Value.long (0 : Int64)) = .long z ∧ z.toInt = 10 ^ k.toInt.toNat := by
  have e : k.toInt = 0 ∨ k.toInt = 1 ∨ k.toInt = 2 ∨ k.toInt = 3 ∨ k.toInt = 4 ∨ k.toInt = 5 ∨ k.toInt = 6 ∨ k.toInt = 7 ∨ k.toInt = 8 := by omega
  rcases e with e | e | e | e | e | e | e | e | e
  · obtain rfl : k = (0 : Int32) := Int32.toInt_inj.mp (by rw [e]; decide)
    exact ⟨_, rfl, by decide⟩
  · obtain rfl : k = (1 : Int32) := Int32.toInt_inj.mp (by rw [e]; decide)
    exact ⟨_, rfl, by decide⟩
  · obtain rfl : k = (2 : Int32) := Int32.toInt_inj.mp (by rw [e]; decide)
    exact ⟨_, rfl, by decide⟩
  · obtain rfl : k = (3 : Int32) := Int32.toInt_inj.mp (by rw [e]; decide)
    exact ⟨_, rfl, by decide⟩
  · obtain rfl : k = (4 : Int32) := Int32.toInt_inj.mp (by rw [e]; decide)
    exact ⟨_, rfl, by decide⟩
  · obtain rfl : k = (5 : Int32) := Int32.toInt_inj.mp (by rw [e]; decide)
    exact ⟨_, rfl, by decide⟩
  · obtain rfl : k = (6 : Int32) := Int32.toInt_inj.mp (by rw [e]; decide)
    exact ⟨_, rfl, by decide⟩
  · obtain rfl : k = (7 : Int32) := Int32.toInt_inj.mp (by rw [e]; decide)
    exact ⟨_, rfl, by decide⟩
  · obtain rfl : k = (8 : Int32) := Int32.toInt_inj.mp (by rw [e]; decide)
    exact ⟨_, rfl, by decide⟩
theorem own_kv {f t i : Int32} (hf0 : 0 ≤ f.toInt) (hsm : t.toInt - f.toInt ≤ 9) (hi : 0 ≤ i.toInt ∧ i.toInt < 12) (h1 : ¬ i < f) (h2 : i < t) : ((t - (1 : Int32)) - i).toInt = t.toInt - 1 - i.toInt := by
  have e1 := c_isub t (1 : Int32)
  have e2 := c_isub (t - (1 : Int32)) i
  have r1 := rng32 (t - (1 : Int32))
  have r2 := rng32 ((t - (1 : Int32)) - i)
  have r3 := rng32 t
  have r4 := rng32 f
  have z1 : (1 : Int32).toInt = 1 := by decide
  rw [Int32.lt_iff_toInt_lt] at h1 h2
  omega
theorem own_kk {f t i : Int32} (hf0 : 0 ≤ f.toInt) (hsm : t.toInt - f.toInt ≤ 9) (hi : 0 ≤ i.toInt ∧ i.toInt < 12) (h1 : ¬ i < f) (h2 : i < t) : 0 ≤ ((t - (1 : Int32)) - i).toInt ∧ ((t - (1 : Int32)) - i).toInt ≤ 8 := by
  rw [own_kv hf0 hsm hi h1 h2]
  rw [Int32.lt_iff_toInt_lt] at h1 h2
  omega
theorem own_p0 {f t i c : Int32} (h : i < f ∨ ¬ i < t) : (0 : Int64).toInt = own_prt f.toInt t.toInt i.toInt c := by
  unfold own_prt
  rw [Int32.lt_iff_toInt_lt, Int32.lt_iff_toInt_lt] at h
  rw [if_pos (by omega)]
  decide
theorem own_pb {f t i c : Int32} (h1 : ¬ i < f) (h2 : i < t) (h : c < (48 : Int32) ∨ (57 : Int32) < c) : (-1000000000000 : Int64).toInt = own_prt f.toInt t.toInt i.toInt c := by
  unfold own_prt
  rw [Int32.lt_iff_toInt_lt] at h1 h2
  rw [if_neg (by omega), if_pos h]
  decide
theorem own_pv {f t i c : Int32} {z : Int64} (hf0 : 0 ≤ f.toInt) (hsm : t.toInt - f.toInt ≤ 9) (hi : 0 ≤ i.toInt ∧ i.toInt < 12) (h1 : ¬ i < f) (h2 : i < t) (h3 : ¬ c < (48 : Int32)) (h4 : ¬ (57 : Int32) < c) (hz : z.toInt = 10 ^ ((t - (1 : Int32)) - i).toInt.toNat) : (((c - (48 : Int32)).toInt64) * z).toInt = own_prt f.toInt t.toInt i.toInt c := by
  have k := own_kk hf0 hsm hi h1 h2
  have kv := own_kv hf0 hsm hi h1 h2
  rw [kv] at hz k
  have d := own_dgv (c := c) ⟨h3, h4⟩
  have e1 := c_isub c (48 : Int32)
  have r1 := rng32 (c - (48 : Int32))
  have z4 : (48 : Int32).toInt = 48 := by decide
  have e2 : (c - (48 : Int32)).toInt = c.toInt - 48 := by omega
  have e3 := c_i2l (c - (48 : Int32))
  have e4 := c_lmul ((c - (48 : Int32)).toInt64) z
  have r4 := rng64 (((c - (48 : Int32)).toInt64) * z)
  unfold own_prt
  rw [Int32.lt_iff_toInt_lt] at h1 h2
  rw [if_neg (by omega), if_neg (by rintro (q | q); exact h3 q; exact h4 q)]
  have p := own_pw (t.toInt - 1 - i.toInt).toNat (by omega)
  rw [e3, e2, hz] at e4
  generalize (10 : Int) ^ (t.toInt - 1 - i.toInt).toNat = w at *
  have m1 : 0 ≤ (c.toInt - 48) * w := Int.mul_nonneg d.1 (by omega)
  have m2 : (c.toInt - 48) * w ≤ 9 * w := Int.mul_le_mul_of_nonneg_right d.2 (by omega)
  generalize (c.toInt - 48) * w = u at *
  omega
theorem own_st5 {x : Addr} {f t nn i v : Int32} {s5 : Slot} (h : One s5) : storeLocals #[.val (.ref x), .val (.int f), .val (.int t), .val (.int nn), .val (.int i), s5] 5 (.int v) = some #[.val (.ref x), .val (.int f), .val (.int t), .val (.int nn), .val (.int i), .val (.int v)] := by
  rcases h with rfl | ⟨w, rfl, hw⟩
  · rfl
  · cases w <;> first | rfl | (simp [Value.category] at hw)
theorem own_goodN {f i : Int32} {cs : List Int32} (hf0 : 0 ≤ f.toInt) (hI : ∀ j : Int32, 0 ≤ j.toInt → ¬ j < f → j < i → own_dg (cs.getD j.toNatClampNeg (0 : Int32))) : own_good cs f.toInt i.toInt := by
  intro j h1 h2
  have r := rng32 i
  have e : (Int32.ofInt (j : Int)).toInt = j := by
    rw [Int32.toInt_ofInt_of_le] <;> omega
  have z0 : (0 : Int32).toInt = 0 := by decide
  have q := hI (Int32.ofInt (j : Int)) (by omega) (by rw [Int32.lt_iff_toInt_lt]; omega) (by rw [Int32.lt_iff_toInt_lt]; omega)
  have c := own_clamp (j := Int32.ofInt (j : Int)) (by omega)
  rwa [show (Int32.ofInt (j : Int)).toNatClampNeg = j from by omega] at q
theorem own_stepn {f t i nn : Int32} {cs : List Int32} (hf0 : 0 ≤ f.toInt) (hfi : ¬ i < f) (hlt : i < t) (hsm : t.toInt - f.toInt ≤ 9) (hI : ∀ j : Int32, 0 ≤ j.toInt → ¬ j < f → j < i → own_dg (cs.getD j.toNatClampNeg (0 : Int32))) (hd : own_dg (cs.getD i.toNatClampNeg (0 : Int32))) (hnn : nn.toInt = own_num cs f.toInt.toNat (i.toInt - f.toInt).toNat) :
    ((nn * (10 : Int32)) + ((cs.getD i.toNatClampNeg (0 : Int32)) - (48 : Int32))).toInt = own_num cs f.toInt.toNat ((i + (1 : Int32)).toInt - f.toInt).toNat := by
  have g := own_goodN hf0 hI
  rw [own_plus1 hlt]
  rw [Int32.lt_iff_toInt_lt] at hfi hlt
  rw [show (i.toInt + 1 - f.toInt).toNat = (i.toInt - f.toInt).toNat + 1 from by omega]
  have b := own_num_b (cs := cs) (f := f.toInt.toNat) (i.toInt - f.toInt).toNat (fun j h1 h2 => g j (by omega) (by omega))
  have p := own_pw (i.toInt - f.toInt).toNat (by omega)
  have c := own_clamp (j := i) (by omega)
  have d := own_dgv hd
  simp only [own_num]
  rw [show f.toInt.toNat + (i.toInt - f.toInt).toNat = i.toNatClampNeg from by omega]
  rw [← hnn] at b ⊢
  generalize cs.getD i.toNatClampNeg (0 : Int32) = C at *
  have e1 := c_imul nn (10 : Int32)
  have e2 := c_isub C (48 : Int32)
  have e3 := c_iadd (nn * (10 : Int32)) (C - (48 : Int32))
  have r1 := rng32 (nn * (10 : Int32))
  have r2 := rng32 (C - (48 : Int32))
  have r3 := rng32 ((nn * (10 : Int32)) + (C - (48 : Int32)))
  have z1 : (10 : Int32).toInt = 10 := by decide
  have z4 : (48 : Int32).toInt = 48 := by decide
  rw [z1] at e1
  omega
theorem own_bad {f t : Int32} {cs : List Int32} (hf0 : 0 ≤ f.toInt) (h : ¬ own_P f t cs) : ∃ j : Nat, f.toInt ≤ j ∧ (j : Int) < t.toInt ∧ ¬ own_dg (cs.getD j (0 : Int32)) := by
  refine Classical.byContradiction fun q => h fun j j0 h1 h2 => Classical.byContradiction fun hb => q ⟨j.toNatClampNeg, ?_, ?_, hb⟩
  · have c := own_clamp j0
    rw [Int32.lt_iff_toInt_lt] at h1
    omega
  · have c := own_clamp j0
    rw [Int32.lt_iff_toInt_lt] at h2
    omega
theorem own_wh {f t rr : Int32} {cs : List Int32} (hf0 : 0 ≤ f.toInt) (ht : t.toInt < 13) (h1 : f < t) (h3 : own_P f t cs) (h4 : rr.toInt = own_num cs f.toInt.toNat (t.toInt - f.toInt).toNat) : rr.toInt = own_sum cs f.toInt t.toInt 12 ∧ 0 ≤ rr.toInt := by
  have g := own_goodN hf0 (i := t) h3
  rw [Int32.lt_iff_toInt_lt] at h1
  have e1 : ((f.toInt.toNat : Nat) : Int) = f.toInt := by omega
  have e2 : ((t.toInt.toNat : Nat) : Int) = t.toInt := by omega
  have a := own_sum_all (cs := cs) (f := f.toInt.toNat) (t := t.toInt.toNat) (by rw [e1, e2]; exact g) (by omega) (m := 12) (by omega)
  rw [e1, e2, show t.toInt.toNat - f.toInt.toNat = (t.toInt - f.toInt).toNat from by omega] at a
  have b := own_num_b (cs := cs) (f := f.toInt.toNat) (t.toInt - f.toInt).toNat (fun j h1 h2 => g j (by omega) (by omega))
  rw [h4, a]
  exact ⟨rfl, b.1⟩
theorem own_cv {f t : Int} {cs : List Int32} {z : Int64} {i : Int32} {k : Nat} (h1 : i.toInt = (k : Int)) (h2 : i.toNatClampNeg = k) (h : z.toInt = own_prt f t i.toInt (cs.getD i.toNatClampNeg (0 : Int32))) : z.toInt = own_prt f t (k : Int) (cs.getD k (0 : Int32)) := by
  rw [h1, h2] at h
  exact h
set_option maxHeartbeats 4000000 in
theorem own_S {f t : Int32} {cs : List Int32} {z0 z1 z2 z3 z4 z5 z6 z7 z8 z9 z10 z11 : Int64} (h0 : z0.toInt = own_prt f.toInt t.toInt ((0 : Nat) : Int) (cs.getD 0 (0 : Int32))) (h1 : z1.toInt = own_prt f.toInt t.toInt ((1 : Nat) : Int) (cs.getD 1 (0 : Int32))) (h2 : z2.toInt = own_prt f.toInt t.toInt ((2 : Nat) : Int) (cs.getD 2 (0 : Int32))) (h3 : z3.toInt = own_prt f.toInt t.toInt ((3 : Nat) : Int) (cs.getD 3 (0 : Int32))) (h4 : z4.toInt = own_prt f.toInt t.toInt ((4 : Nat) : Int) (cs.getD 4 (0 : Int32))) (h5 : z5.toInt = own_prt f.toInt t.toInt ((5 : Nat) : Int) (cs.getD 5 (0 : Int32))) (h6 : z6.toInt = own_prt f.toInt t.toInt ((6 : Nat) : Int) (cs.getD 6 (0 : Int32))) (h7 : z7.toInt = own_prt f.toInt t.toInt ((7 : Nat) : Int) (cs.getD 7 (0 : Int32))) (h8 : z8.toInt = own_prt f.toInt t.toInt ((8 : Nat) : Int) (cs.getD 8 (0 : Int32))) (h9 : z9.toInt = own_prt f.toInt t.toInt ((9 : Nat) : Int) (cs.getD 9 (0 : Int32))) (h10 : z10.toInt = own_prt f.toInt t.toInt ((10 : Nat) : Int) (cs.getD 10 (0 : Int32))) (h11 : z11.toInt = own_prt f.toInt t.toInt ((11 : Nat) : Int) (cs.getD 11 (0 : Int32))) : t.toInt - f.toInt ≤ 9 → (((((((((((z0 + z1) + z2) + z3) + z4) + z5) + z6) + z7) + z8) + z9) + z10) + z11).toInt = own_sum cs f.toInt t.toInt 12 := by
  intro hsm
  have b0 := own_prt_b (i := ((0 : Nat) : Int)) (c := cs.getD 0 (0 : Int32)) hsm
  rw [← h0] at b0
  have b1 := own_prt_b (i := ((1 : Nat) : Int)) (c := cs.getD 1 (0 : Int32)) hsm
  rw [← h1] at b1
  have b2 := own_prt_b (i := ((2 : Nat) : Int)) (c := cs.getD 2 (0 : Int32)) hsm
  rw [← h2] at b2
  have b3 := own_prt_b (i := ((3 : Nat) : Int)) (c := cs.getD 3 (0 : Int32)) hsm
  rw [← h3] at b3
  have b4 := own_prt_b (i := ((4 : Nat) : Int)) (c := cs.getD 4 (0 : Int32)) hsm
  rw [← h4] at b4
  have b5 := own_prt_b (i := ((5 : Nat) : Int)) (c := cs.getD 5 (0 : Int32)) hsm
  rw [← h5] at b5
  have b6 := own_prt_b (i := ((6 : Nat) : Int)) (c := cs.getD 6 (0 : Int32)) hsm
  rw [← h6] at b6
  have b7 := own_prt_b (i := ((7 : Nat) : Int)) (c := cs.getD 7 (0 : Int32)) hsm
  rw [← h7] at b7
  have b8 := own_prt_b (i := ((8 : Nat) : Int)) (c := cs.getD 8 (0 : Int32)) hsm
  rw [← h8] at b8
  have b9 := own_prt_b (i := ((9 : Nat) : Int)) (c := cs.getD 9 (0 : Int32)) hsm
  rw [← h9] at b9
  have b10 := own_prt_b (i := ((10 : Nat) : Int)) (c := cs.getD 10 (0 : Int32)) hsm
  rw [← h10] at b10
  have b11 := own_prt_b (i := ((11 : Nat) : Int)) (c := cs.getD 11 (0 : Int32)) hsm
  rw [← h11] at b11
  have e1 := c_ladd z0 z1
  have r1 := rng64 (z0 + z1)
  have e2 := c_ladd (z0 + z1) z2
  have r2 := rng64 ((z0 + z1) + z2)
  have e3 := c_ladd ((z0 + z1) + z2) z3
  have r3 := rng64 (((z0 + z1) + z2) + z3)
  have e4 := c_ladd (((z0 + z1) + z2) + z3) z4
  have r4 := rng64 ((((z0 + z1) + z2) + z3) + z4)
  have e5 := c_ladd ((((z0 + z1) + z2) + z3) + z4) z5
  have r5 := rng64 (((((z0 + z1) + z2) + z3) + z4) + z5)
  have e6 := c_ladd (((((z0 + z1) + z2) + z3) + z4) + z5) z6
  have r6 := rng64 ((((((z0 + z1) + z2) + z3) + z4) + z5) + z6)
  have e7 := c_ladd ((((((z0 + z1) + z2) + z3) + z4) + z5) + z6) z7
  have r7 := rng64 (((((((z0 + z1) + z2) + z3) + z4) + z5) + z6) + z7)
  have e8 := c_ladd (((((((z0 + z1) + z2) + z3) + z4) + z5) + z6) + z7) z8
  have r8 := rng64 ((((((((z0 + z1) + z2) + z3) + z4) + z5) + z6) + z7) + z8)
  have e9 := c_ladd ((((((((z0 + z1) + z2) + z3) + z4) + z5) + z6) + z7) + z8) z9
  have r9 := rng64 (((((((((z0 + z1) + z2) + z3) + z4) + z5) + z6) + z7) + z8) + z9)
  have e10 := c_ladd (((((((((z0 + z1) + z2) + z3) + z4) + z5) + z6) + z7) + z8) + z9) z10
  have r10 := rng64 ((((((((((z0 + z1) + z2) + z3) + z4) + z5) + z6) + z7) + z8) + z9) + z10)
  have e11 := c_ladd ((((((((((z0 + z1) + z2) + z3) + z4) + z5) + z6) + z7) + z8) + z9) + z10) z11
  have r11 := rng64 (((((((((((z0 + z1) + z2) + z3) + z4) + z5) + z6) + z7) + z8) + z9) + z10) + z11)
  have s : own_sum cs f.toInt t.toInt 12 = ((((((((((((0 + z0.toInt) + z1.toInt) + z2.toInt) + z3.toInt) + z4.toInt) + z5.toInt) + z6.toInt) + z7.toInt) + z8.toInt) + z9.toInt) + z10.toInt) + z11.toInt) := by
    show ((((((((((((0 + own_prt f.toInt t.toInt ((0 : Nat) : Int) (cs.getD 0 (0 : Int32))) + own_prt f.toInt t.toInt ((1 : Nat) : Int) (cs.getD 1 (0 : Int32))) + own_prt f.toInt t.toInt ((2 : Nat) : Int) (cs.getD 2 (0 : Int32))) + own_prt f.toInt t.toInt ((3 : Nat) : Int) (cs.getD 3 (0 : Int32))) + own_prt f.toInt t.toInt ((4 : Nat) : Int) (cs.getD 4 (0 : Int32))) + own_prt f.toInt t.toInt ((5 : Nat) : Int) (cs.getD 5 (0 : Int32))) + own_prt f.toInt t.toInt ((6 : Nat) : Int) (cs.getD 6 (0 : Int32))) + own_prt f.toInt t.toInt ((7 : Nat) : Int) (cs.getD 7 (0 : Int32))) + own_prt f.toInt t.toInt ((8 : Nat) : Int) (cs.getD 8 (0 : Int32))) + own_prt f.toInt t.toInt ((9 : Nat) : Int) (cs.getD 9 (0 : Int32))) + own_prt f.toInt t.toInt ((10 : Nat) : Int) (cs.getD 10 (0 : Int32))) + own_prt f.toInt t.toInt ((11 : Nat) : Int) (cs.getD 11 (0 : Int32))) = _
    rw [← h0, ← h1, ← h2, ← h3, ← h4, ← h5, ← h6, ← h7, ← h8, ← h9, ← h10, ← h11]
  clear h0 h1 h2 h3 h4 h5 h6 h7 h8 h9 h10 h11
  rw [s]
  omega
theorem own_nn {f t rr : Int32} {cs : List Int32} {S : Int64} (hS : t.toInt - f.toInt ≤ 9 → S.toInt = own_sum cs f.toInt t.toInt 12) (hsm : t.toInt - f.toInt ≤ 9) (h : rr.toInt = own_sum cs f.toInt t.toInt 12 ∧ 0 ≤ rr.toInt) : ¬ (lcmpW S (0 : Int64)) < (0 : Int32) := by
  rw [lw_lt, Int64.lt_iff_toInt_lt, hS hsm, ← h.1]
  have z0 : (0 : Int64).toInt = 0 := by decide
  omega
theorem own_ng {f t : Int32} {cs : List Int32} {S : Int64} (hS : t.toInt - f.toInt ≤ 9 → S.toInt = own_sum cs f.toInt t.toInt 12) (hf0 : 0 ≤ f.toInt) (ht : t.toInt < 13) (hsm : t.toInt - f.toInt ≤ 9) (h : ¬ own_P f t cs) : (lcmpW S (0 : Int64)) < (0 : Int32) := by
  obtain ⟨j, h1, h2, h3⟩ := own_bad hf0 h
  have a := own_sum_neg hsm h1 h2 h3 12 (by omega)
  rw [lw_lt, Int64.lt_iff_toInt_lt, hS hsm]
  have z0 : (0 : Int64).toInt = 0 := by decide
  omega
theorem own_eqi {f t rr : Int32} {cs : List Int32} {S : Int64} (hS : t.toInt - f.toInt ≤ 9 → S.toInt = own_sum cs f.toInt t.toInt 12) (hsm : t.toInt - f.toInt ≤ 9) (h : rr.toInt = own_sum cs f.toInt t.toInt 12 ∧ 0 ≤ rr.toInt) : rr = S.toInt32 := by
  have e := c_l2i S
  have r := rng32 rr
  have r2 := rng32 S.toInt32
  rw [hS hsm, ← h.1] at e
  exact Int32.toInt_inj.mp (by omega)
theorem ef_8_RII (m : MethodId) (x0 : Addr) (x1 : Int32) (x2 : Int32)  : entryFrame m #[(.ref x0), (.int x1), (.int x2)] 6 = mkF m 0 #[.val (.ref x0), .val (.int x1), .val (.int x2), .unset, .unset, .unset] [] := by first | (simp [entryFrame, mkF, argsToLocals, Value.category]; done) | rfl
theorem d8_0 : decode prog_33_method_5_code 0 = .ok (.iload_n 1, 1) := by decide +kernel
theorem d8_1 : decode prog_33_method_5_code 1 = .ok (.iload_n 2, 1) := by decide +kernel
theorem d8_2 : decode prog_33_method_5_code 2 = .ok (.if_icmp .ge 11, 3) := by decide +kernel
theorem d8_5 : decode prog_33_method_5_code 5 = .ok (.iload_n 2, 1) := by decide +kernel
theorem d8_6 : decode prog_33_method_5_code 6 = .ok (.iload_n 1, 1) := by decide +kernel
theorem d8_7 : decode prog_33_method_5_code 7 = .ok (.isub, 1) := by decide +kernel
theorem d8_8 : decode prog_33_method_5_code 8 = .ok (.bipush 9, 2) := by decide +kernel
theorem d8_10 : decode prog_33_method_5_code 10 = .ok (.if_icmp .le 5, 3) := by decide +kernel
theorem d8_13 : decode prog_33_method_5_code 13 = .ok (.iconst (-1), 1) := by decide +kernel
theorem d8_14 : decode prog_33_method_5_code 14 = .ok (.ireturn, 1) := by decide +kernel
theorem d8_15 : decode prog_33_method_5_code 15 = .ok (.iconst 0, 1) := by decide +kernel
theorem d8_16 : decode prog_33_method_5_code 16 = .ok (.istore_n 3, 1) := by decide +kernel
theorem d8_17 : decode prog_33_method_5_code 17 = .ok (.iload_n 1, 1) := by decide +kernel
theorem d8_18 : decode prog_33_method_5_code 18 = .ok (.istore 4, 2) := by decide +kernel
theorem d8_20 : decode prog_33_method_5_code 20 = .ok (.iload 4, 2) := by decide +kernel
theorem d8_22 : decode prog_33_method_5_code 22 = .ok (.iload_n 2, 1) := by decide +kernel
theorem d8_23 : decode prog_33_method_5_code 23 = .ok (.if_icmp .ge 38, 3) := by decide +kernel
theorem d8_61 : decode prog_33_method_5_code 61 = .ok (.iload_n 3, 1) := by decide +kernel
theorem d8_62 : decode prog_33_method_5_code 62 = .ok (.ireturn, 1) := by decide +kernel
theorem d8_26 : decode prog_33_method_5_code 26 = .ok (.aload_n 0, 1) := by decide +kernel
theorem d8_27 : decode prog_33_method_5_code 27 = .ok (.iload 4, 2) := by decide +kernel
theorem d8_29 : decode prog_33_method_5_code 29 = .ok (.invokevirtual 48, 3) := by decide +kernel
theorem pd__28I_29C : parseMethodDescriptor "(I)C" = some ⟨[.int], some .char⟩ := by decide +kernel
theorem d8_32 : decode prog_33_method_5_code 32 = .ok (.istore 5, 2) := by decide +kernel
theorem d8_34 : decode prog_33_method_5_code 34 = .ok (.iload 5, 2) := by decide +kernel
theorem d8_36 : decode prog_33_method_5_code 36 = .ok (.invokestatic 52, 3) := by decide +kernel
theorem pd__28C_29Z : parseMethodDescriptor "(C)Z" = some ⟨[.char], some .boolean⟩ := by decide +kernel
theorem d8_39 : decode prog_33_method_5_code 39 = .ok (.ifCond .ne 5, 3) := by decide +kernel
theorem d8_42 : decode prog_33_method_5_code 42 = .ok (.iconst (-1), 1) := by decide +kernel
theorem d8_43 : decode prog_33_method_5_code 43 = .ok (.ireturn, 1) := by decide +kernel
theorem d8_44 : decode prog_33_method_5_code 44 = .ok (.iload_n 3, 1) := by decide +kernel
theorem d8_45 : decode prog_33_method_5_code 45 = .ok (.bipush 10, 2) := by decide +kernel
theorem d8_47 : decode prog_33_method_5_code 47 = .ok (.imul, 1) := by decide +kernel
theorem d8_48 : decode prog_33_method_5_code 48 = .ok (.iload 5, 2) := by decide +kernel
theorem d8_50 : decode prog_33_method_5_code 50 = .ok (.bipush 48, 2) := by decide +kernel
theorem d8_52 : decode prog_33_method_5_code 52 = .ok (.isub, 1) := by decide +kernel
theorem d8_53 : decode prog_33_method_5_code 53 = .ok (.iadd, 1) := by decide +kernel
theorem d8_54 : decode prog_33_method_5_code 54 = .ok (.istore_n 3, 1) := by decide +kernel
theorem d8_55 : decode prog_33_method_5_code 55 = .ok (.iinc 4 1, 3) := by decide +kernel
theorem d8_58 : decode prog_33_method_5_code 58 = .ok (.goto (-38), 3) := by decide +kernel
set_option maxRecDepth 65536 in
set_option maxHeartbeats 40000000 in
theorem rm_whole (l : Launch) (Z : State) (a0 : Array Value) (g_COMPACT_STRINGS : Int32) (g_SIOOBE_FORMATTER : Value) (hW : own_W Z a0 g_COMPACT_STRINGS g_SIOOBE_FORMATTER) (x : Addr) (f : Int32) (t : Int32) (cs : List Int32) (h0 : Heap) (O0 : Old Z Z.heap.size h0) (hS : own_Str Z h0 x cs) (hE : Exa Z h0 x "java/lang/String") (hft : f < t → 0 ≤ f.toInt ∧ t.toInt < 13) (hok : ∀ c ∈ cs, own_ok c) :
    own_Met l Z (⟨"com/example/couponforge/couponforge/io/DecimalNumber", "wholeNumber", "(Ljava/lang/String;II)I"⟩ : MethodName) prog_33_method_5_code 6 (some .int) ({ frames := 5, cells := 0, slots := 0, locals := 66 } : Room) #[(.ref x), (.int f), (.int t)] h0 (fun v h L => (∃ r, v = some (.int r) ∧ own_Wh f t cs r) ∧ Fr Z.heap.size L ∧ h = h0) := by
  have hW_ := hW
  obtain ⟨hw, S_g_COMPACT_STRINGS, P_g_COMPACT_STRINGS, R_g_SIOOBE_FORMATTER, S_g_SIOOBE_FORMATTER, S_g__assertionsDisabled, S_g_HI_BYTE_SHIFT, S_g_LO_BYTE_SHIFT⟩ := hW_
  refine own_met (plainFor_of_name pn_com_example_couponforge_couponforge_io_DecimalNumber) ?_
  intro p e s m below meth cc_ s₁ Φ hF X0 hx hby hml hZ hown hnm hret hlk e0
  have N0 := Fr.nil Z.heap.size
  refine own_k (T' := s₁) (g' := (mkF m 0 #[.val (.ref x), .val (.int f), .val (.int t), .unset, .unset, .unset] [])) (fun _ k_ => castTop (ef_8_RII m x f t) k_) ?_
  refine own_k (T' := s₁) (g' := (mkF m 1 #[.val (.ref x), .val (.int f), .val (.int t), .unset, .unset, .unset] [(.int f)])) (fun _ k_ => XS.iloadN X0.here hx rfl (hb hby d8_0) rfl  k_) ?_
  refine own_k (T' := s₁) (g' := (mkF m 2 #[.val (.ref x), .val (.int f), .val (.int t), .unset, .unset, .unset] [(.int t), (.int f)])) (fun _ k_ => XS.iloadN X0.here hx rfl (hb hby d8_1) rfl  k_) ?_
  by_cases hc1 : f < t
  · refine own_k (T' := s₁) (g' := (mkF m 5 #[.val (.ref x), .val (.int f), .val (.int t), .unset, .unset, .unset] [])) (fun _ k_ => XS.icmpNo X0.here hx rfl (hb hby d8_2) rfl ((tlt hc1).2.1) k_) ?_
    refine own_k (T' := s₁) (g' := (mkF m 6 #[.val (.ref x), .val (.int f), .val (.int t), .unset, .unset, .unset] [(.int t)])) (fun _ k_ => XS.iloadN X0.here hx rfl (hb hby d8_5) rfl  k_) ?_
    refine own_k (T' := s₁) (g' := (mkF m 7 #[.val (.ref x), .val (.int f), .val (.int t), .unset, .unset, .unset] [(.int f), (.int t)])) (fun _ k_ => XS.iloadN X0.here hx rfl (hb hby d8_6) rfl  k_) ?_
    refine own_k (T' := s₁) (g' := (mkF m 8 #[.val (.ref x), .val (.int f), .val (.int t), .unset, .unset, .unset] [(.int (t - f))])) (fun _ k_ => XS.isub X0.here hx rfl (hb hby d8_7) rfl k_) ?_
    refine own_k (T' := s₁) (g' := (mkF m 10 #[.val (.ref x), .val (.int f), .val (.int t), .unset, .unset, .unset] [(.int (9 : Int32)), (.int (t - f))])) (fun _ k_ => XS.bipush X0.here hx rfl (hb hby d8_8) k_) ?_
    by_cases hc2 : (9 : Int32) < (t - f)
    · refine own_k (T' := s₁) (g' := (mkF m 13 #[.val (.ref x), .val (.int f), .val (.int t), .unset, .unset, .unset] [])) (fun _ k_ => XS.icmpNo X0.here hx rfl (hb hby d8_10) rfl ((tlt hc2).2.2.2) k_) ?_
      refine own_k (T' := s₁) (g' := (mkF m 14 #[.val (.ref x), .val (.int f), .val (.int t), .unset, .unset, .unset] [(.int (-1 : Int32))])) (fun _ k_ => XS.iconst X0.here hx rfl (hb hby d8_13) k_) ?_
      exact own_retI X0 hx hret hlk (hb hby d8_14) hF (by rw [e0]; exact ⟨⟨(-1 : Int32), rfl, Or.inr ⟨fun q => q.2.1 hc2, rfl⟩⟩, N0, rfl⟩) (by decide) (by decide)
    · refine own_k (T' := s₁) (g' := (mkF m 15 #[.val (.ref x), .val (.int f), .val (.int t), .unset, .unset, .unset] [])) (fun _ k_ => XS.icmpYes X0.here hx rfl (pc0 := 10) (pc' := 15) rfl (hb hby d8_10) rfl ((flt hc2).2.2.2) (by decide) (by decide) k_) ?_
      refine own_k (T' := s₁) (g' := (mkF m 16 #[.val (.ref x), .val (.int f), .val (.int t), .unset, .unset, .unset] [(.int (0 : Int32))])) (fun _ k_ => XS.iconst X0.here hx rfl (hb hby d8_15) k_) ?_
      refine own_k (T' := s₁) (g' := (mkF m 17 #[.val (.ref x), .val (.int f), .val (.int t), .val (.int (0 : Int32)), .unset, .unset] [])) (fun _ k_ => XS.istoreN X0.here hx rfl (hb hby d8_16) rfl (l' := #[.val (.ref x), .val (.int f), .val (.int t), .val (.int (0 : Int32)), .unset, .unset]) rfl k_) ?_
      refine own_k (T' := s₁) (g' := (mkF m 18 #[.val (.ref x), .val (.int f), .val (.int t), .val (.int (0 : Int32)), .unset, .unset] [(.int f)])) (fun _ k_ => XS.iloadN X0.here hx rfl (hb hby d8_17) rfl  k_) ?_
      refine own_k (T' := s₁) (g' := (mkF m 20 #[.val (.ref x), .val (.int f), .val (.int t), .val (.int (0 : Int32)), .val (.int f), .unset] [])) (fun _ k_ => XS.istore X0.here hx rfl (hb hby d8_18) rfl (l' := #[.val (.ref x), .val (.int f), .val (.int t), .val (.int (0 : Int32)), .val (.int f), .unset]) rfl k_) ?_
      have hf0 : 0 ≤ f.toInt := (hft hc1).1
      have hsm : t.toInt - f.toInt ≤ 9 := own_le9 hf0 (hft hc1).2 hc2
      have loop : ∀ (k : Nat) (i nn : Int32) (s5 : Slot), t.toInt - i.toInt = k → 0 ≤ i.toInt → ¬ i < f → (∀ j : Int32, 0 ≤ j.toInt → ¬ j < f → j < i → own_dg (cs.getD j.toNatClampNeg (0 : Int32))) → nn.toInt = own_num cs f.toInt.toNat (i.toInt - f.toInt).toNat → One s5 → ∀ (T : State) (locs : List Loc), Stand p l e ({ frames := 5, cells := 0, slots := 0, locals := 66 } : Room) s m #[(.ref x), (.int f), (.int t)] below meth cc_ T locs 0 0 → Fr Z.heap.size locs → T.heap = h0 → own_Go p e below Φ T (mkF m 20 #[.val (.ref x), .val (.int f), .val (.int t), .val (.int nn), .val (.int i), s5] []) := by
        intro k
        induction k with
        | zero =>
          intro i nn s5 h1 h0' hfi hI hnn h5 T locs X N eT
          have hlt : ¬ i < t := by rw [Int32.lt_iff_toInt_lt]; omega
          refine own_k (T' := T) (g' := (mkF m 22 #[.val (.ref x), .val (.int f), .val (.int t), .val (.int nn), .val (.int i), s5] [(.int i)])) (fun _ k_ => XS.iload X.here hx rfl (hb hby d8_20) rfl  k_) ?_
          refine own_k (T' := T) (g' := (mkF m 23 #[.val (.ref x), .val (.int f), .val (.int t), .val (.int nn), .val (.int i), s5] [(.int t), (.int i)])) (fun _ k_ => XS.iloadN X.here hx rfl (hb hby d8_22) rfl  k_) ?_
          refine own_k (T' := T) (g' := (mkF m 61 #[.val (.ref x), .val (.int f), .val (.int t), .val (.int nn), .val (.int i), s5] [])) (fun _ k_ => XS.icmpYes X.here hx rfl (pc0 := 23) (pc' := 61) rfl (hb hby d8_23) rfl ((flt hlt).2.1) (by decide) (by decide) k_) ?_
          refine own_k (T' := T) (g' := (mkF m 62 #[.val (.ref x), .val (.int f), .val (.int t), .val (.int nn), .val (.int i), s5] [(.int nn)])) (fun _ k_ => XS.iloadN X.here hx rfl (hb hby d8_61) rfl  k_) ?_
          exact own_retI X hx hret hlk (hb hby d8_62) hF (by rw [eT]; exact ⟨⟨nn, rfl, Or.inl ⟨hc1, hc2, fun j j0 a b => hI j j0 a (by rw [Int32.lt_iff_toInt_lt] at b ⊢; omega), (by rw [hnn, show i.toInt = t.toInt from by omega])⟩⟩, N, rfl⟩) (by decide) (by decide)
        | succ k ih =>
          intro i nn s5 h1 h0' hfi hI hnn h5 T locs X N eT
          have hlt : i < t := by rw [Int32.lt_iff_toInt_lt]; omega
          have ht5 := (hft hc1).2
          have hix : 0 ≤ i.toInt ∧ i.toInt < 12 := ⟨h0', by omega⟩
          refine own_k (T' := T) (g' := (mkF m 22 #[.val (.ref x), .val (.int f), .val (.int t), .val (.int nn), .val (.int i), s5] [(.int i)])) (fun _ k_ => XS.iload X.here hx rfl (hb hby d8_20) rfl  k_) ?_
          refine own_k (T' := T) (g' := (mkF m 23 #[.val (.ref x), .val (.int f), .val (.int t), .val (.int nn), .val (.int i), s5] [(.int t), (.int i)])) (fun _ k_ => XS.iloadN X.here hx rfl (hb hby d8_22) rfl  k_) ?_
          refine own_k (T' := T) (g' := (mkF m 26 #[.val (.ref x), .val (.int f), .val (.int t), .val (.int nn), .val (.int i), s5] [])) (fun _ k_ => XS.icmpNo X.here hx rfl (hb hby d8_23) rfl ((tlt hlt).2.1) k_) ?_
          refine own_k (T' := T) (g' := (mkF m 27 #[.val (.ref x), .val (.int f), .val (.int t), .val (.int nn), .val (.int i), s5] [(.ref x)])) (fun _ k_ => XS.aloadN X.here hx rfl (hb hby d8_26) rfl rfl  k_) ?_
          refine own_k (T' := T) (g' := (mkF m 29 #[.val (.ref x), .val (.int f), .val (.int t), .val (.int nn), .val (.int i), s5] [(.int i), (.ref x)])) (fun _ k_ => XS.iload X.here hx rfl (hb hby d8_27) rfl  k_) ?_
          refine own_callV X hx hZ (C := "java/lang/String") (y := (⟨"java/lang/String", "charAt", "(I)C"⟩ : MethodName)) (z := (⟨"java/lang/String", "charAt", "(I)C"⟩ : MethodName)) hown (hw _ (List.mem_of_getElem? (i := 60) rfl)) (hw _ (List.mem_of_getElem? (i := 61) rfl)) (notFace_of_selects (args := #[]) (mvT hZ (hw _ (List.mem_of_getElem? (i := 63) rfl)))) (hw _ (List.mem_of_getElem? (i := 63) rfl)) (hw _ (List.mem_of_getElem? (i := 62) rfl)) (hw _ (List.mem_of_getElem? (i := 64) rfl)) (hw _ (List.mem_of_getElem? (i := 10) rfl)) (by decide) (al := [(.int i)]) hE (rm_charAt l Z a0 g_COMPACT_STRINGS g_SIOOBE_FORMATTER hW x i cs h0 O0 hS hix hok) 0 (by decide) (by decide) eT (by decide) (by decide) (by rw [hml]; rfl) (lenOf pd__28I_29C rfl) rfl (rest := []) (by show 2 * 0 + _ ≤ _; exact Nat.le_of_eq rfl) (hb hby d8_29) ?_
          intro v3 T3 L3 X3 hQ3
          obtain ⟨rfl, Nq3, e3⟩ := hQ3
          have N3 := Fr.app N Nq3
          show own_Go p e below Φ T3 (mkF m 32 #[.val (.ref x), .val (.int f), .val (.int t), .val (.int nn), .val (.int i), s5] [(.int (cs.getD i.toNatClampNeg (0 : Int32)))])
          refine own_k (T' := T3) (g' := (mkF m 34 #[.val (.ref x), .val (.int f), .val (.int t), .val (.int nn), .val (.int i), .val (.int (cs.getD i.toNatClampNeg (0 : Int32)))] [])) (fun _ k_ => XS.istore X3.here hx rfl (hb hby d8_32) rfl (l' := #[.val (.ref x), .val (.int f), .val (.int t), .val (.int nn), .val (.int i), .val (.int (cs.getD i.toNatClampNeg (0 : Int32)))]) (own_st5 h5) k_) ?_
          refine own_k (T' := T3) (g' := (mkF m 36 #[.val (.ref x), .val (.int f), .val (.int t), .val (.int nn), .val (.int i), .val (.int (cs.getD i.toNatClampNeg (0 : Int32)))] [(.int (cs.getD i.toNatClampNeg (0 : Int32)))])) (fun _ k_ => XS.iload X3.here hx rfl (hb hby d8_34) rfl  k_) ?_
          refine own_callS X3 hx hZ (y := (⟨"com/example/couponforge/couponforge/io/DecimalNumber", "isDigit", "(C)Z"⟩ : MethodName)) hown (hw _ (List.mem_of_getElem? (i := 87) rfl)) (hw _ (List.mem_of_getElem? (i := 88) rfl)) (hw _ (List.mem_of_getElem? (i := 39) rfl)) (hw _ (List.mem_of_getElem? (i := 89) rfl)) (by decide) (al := [(.int (cs.getD i.toNatClampNeg (0 : Int32)))]) (rm_isDigit l Z a0 g_COMPACT_STRINGS g_SIOOBE_FORMATTER hW (cs.getD i.toNatClampNeg (0 : Int32)) h0 O0) 0 (by decide) (by decide) e3 (by decide) (by decide) (by rw [hml]; rfl) (lenOf pd__28C_29Z rfl) rfl (rest := []) (by show 2 * 0 + _ ≤ _; exact Nat.le_of_eq rfl) (hb hby d8_36) ?_
          intro v5 T5 L5 X5 hQ5
          obtain ⟨⟨z4, rfl, hz_z4⟩, Nq5, e5⟩ := hQ5
          have N5 := Fr.app N3 Nq5
          show own_Go p e below Φ T5 (mkF m 39 #[.val (.ref x), .val (.int f), .val (.int t), .val (.int nn), .val (.int i), .val (.int (cs.getD i.toNatClampNeg (0 : Int32)))] [(.int z4)])
          by_cases hc6 : z4 = (0 : Int32)
          · refine own_k (T' := T5) (g' := (mkF m 42 #[.val (.ref x), .val (.int f), .val (.int t), .val (.int nn), .val (.int i), .val (.int (cs.getD i.toNatClampNeg (0 : Int32)))] [])) (fun _ k_ => XS.ifNo X5.here hx rfl (hb hby d8_39) rfl ((if0 _ _).trans (teq hc6).2) k_) ?_
            refine own_k (T' := T5) (g' := (mkF m 43 #[.val (.ref x), .val (.int f), .val (.int t), .val (.int nn), .val (.int i), .val (.int (cs.getD i.toNatClampNeg (0 : Int32)))] [(.int (-1 : Int32))])) (fun _ k_ => XS.iconst X5.here hx rfl (hb hby d8_42) k_) ?_
            exact own_retI X5 hx hret hlk (hb hby d8_43) hF (by rw [e5]; exact ⟨⟨(-1 : Int32), rfl, Or.inr ⟨fun q => own_no hz_z4 hc6 (q.2.2 i h0' hfi hlt), rfl⟩⟩, N5, rfl⟩) (by decide) (by decide)
          · refine own_k (T' := T5) (g' := (mkF m 44 #[.val (.ref x), .val (.int f), .val (.int t), .val (.int nn), .val (.int i), .val (.int (cs.getD i.toNatClampNeg (0 : Int32)))] [])) (fun _ k_ => XS.ifYes X5.here hx rfl (pc0 := 39) (pc' := 44) rfl (hb hby d8_39) rfl ((if0 _ _).trans (feq hc6).2) (by decide) (by decide) k_) ?_
            refine own_k (T' := T5) (g' := (mkF m 45 #[.val (.ref x), .val (.int f), .val (.int t), .val (.int nn), .val (.int i), .val (.int (cs.getD i.toNatClampNeg (0 : Int32)))] [(.int nn)])) (fun _ k_ => XS.iloadN X5.here hx rfl (hb hby d8_44) rfl  k_) ?_
            refine own_k (T' := T5) (g' := (mkF m 47 #[.val (.ref x), .val (.int f), .val (.int t), .val (.int nn), .val (.int i), .val (.int (cs.getD i.toNatClampNeg (0 : Int32)))] [(.int (10 : Int32)), (.int nn)])) (fun _ k_ => XS.bipush X5.here hx rfl (hb hby d8_45) k_) ?_
            refine own_k (T' := T5) (g' := (mkF m 48 #[.val (.ref x), .val (.int f), .val (.int t), .val (.int nn), .val (.int i), .val (.int (cs.getD i.toNatClampNeg (0 : Int32)))] [(.int (nn * (10 : Int32)))])) (fun _ k_ => XS.imul X5.here hx rfl (hb hby d8_47) rfl k_) ?_
            refine own_k (T' := T5) (g' := (mkF m 50 #[.val (.ref x), .val (.int f), .val (.int t), .val (.int nn), .val (.int i), .val (.int (cs.getD i.toNatClampNeg (0 : Int32)))] [(.int (cs.getD i.toNatClampNeg (0 : Int32))), (.int (nn * (10 : Int32)))])) (fun _ k_ => XS.iload X5.here hx rfl (hb hby d8_48) rfl  k_) ?_
            refine own_k (T' := T5) (g' := (mkF m 52 #[.val (.ref x), .val (.int f), .val (.int t), .val (.int nn), .val (.int i), .val (.int (cs.getD i.toNatClampNeg (0 : Int32)))] [(.int (48 : Int32)), (.int (cs.getD i.toNatClampNeg (0 : Int32))), (.int (nn * (10 : Int32)))])) (fun _ k_ => XS.bipush X5.here hx rfl (hb hby d8_50) k_) ?_
            refine own_k (T' := T5) (g' := (mkF m 53 #[.val (.ref x), .val (.int f), .val (.int t), .val (.int nn), .val (.int i), .val (.int (cs.getD i.toNatClampNeg (0 : Int32)))] [(.int ((cs.getD i.toNatClampNeg (0 : Int32)) - (48 : Int32))), (.int (nn * (10 : Int32)))])) (fun _ k_ => XS.isub X5.here hx rfl (hb hby d8_52) rfl k_) ?_
            refine own_k (T' := T5) (g' := (mkF m 54 #[.val (.ref x), .val (.int f), .val (.int t), .val (.int nn), .val (.int i), .val (.int (cs.getD i.toNatClampNeg (0 : Int32)))] [(.int ((nn * (10 : Int32)) + ((cs.getD i.toNatClampNeg (0 : Int32)) - (48 : Int32))))])) (fun _ k_ => XS.iadd X5.here hx rfl (hb hby d8_53) rfl k_) ?_
            refine own_k (T' := T5) (g' := (mkF m 55 #[.val (.ref x), .val (.int f), .val (.int t), .val (.int ((nn * (10 : Int32)) + ((cs.getD i.toNatClampNeg (0 : Int32)) - (48 : Int32)))), .val (.int i), .val (.int (cs.getD i.toNatClampNeg (0 : Int32)))] [])) (fun _ k_ => XS.istoreN X5.here hx rfl (hb hby d8_54) rfl (l' := #[.val (.ref x), .val (.int f), .val (.int t), .val (.int ((nn * (10 : Int32)) + ((cs.getD i.toNatClampNeg (0 : Int32)) - (48 : Int32)))), .val (.int i), .val (.int (cs.getD i.toNatClampNeg (0 : Int32)))]) rfl k_) ?_
            refine own_k (T' := T5) (g' := (mkF m 58 #[.val (.ref x), .val (.int f), .val (.int t), .val (.int ((nn * (10 : Int32)) + ((cs.getD i.toNatClampNeg (0 : Int32)) - (48 : Int32)))), .val (.int (i + (1 : Int32))), .val (.int (cs.getD i.toNatClampNeg (0 : Int32)))] [])) (fun _ k_ => XS.iinc X5.here hx rfl (hb hby d8_55) rfl (l' := #[.val (.ref x), .val (.int f), .val (.int t), .val (.int ((nn * (10 : Int32)) + ((cs.getD i.toNatClampNeg (0 : Int32)) - (48 : Int32)))), .val (.int (i + (1 : Int32))), .val (.int (cs.getD i.toNatClampNeg (0 : Int32)))]) rfl k_) ?_
            refine own_k (T' := T5) (g' := (mkF m 20 #[.val (.ref x), .val (.int f), .val (.int t), .val (.int ((nn * (10 : Int32)) + ((cs.getD i.toNatClampNeg (0 : Int32)) - (48 : Int32)))), .val (.int (i + (1 : Int32))), .val (.int (cs.getD i.toNatClampNeg (0 : Int32)))] [])) (fun _ k_ => XS.goto X5.here hx rfl (pc0 := 58) (pc' := 20) rfl (hb hby d8_58) (by decide) (by decide) k_) ?_
            exact ih (i + (1 : Int32)) ((nn * (10 : Int32)) + ((cs.getD i.toNatClampNeg (0 : Int32)) - (48 : Int32))) _ (by rw [own_plus1 hlt]; omega) (by rw [own_plus1 hlt]; omega) (by rw [Int32.lt_iff_toInt_lt] at hfi ⊢; rw [own_plus1 hlt]; omega) (own_more (D := fun j => own_dg (cs.getD j.toNatClampNeg (0 : Int32))) hlt hI (own_yes hz_z4 hc6)) (own_stepn hf0 hfi hlt hsm hI (own_yes hz_z4 hc6) hnn) (One.val rfl) T5 _ X5 N5 e5
      exact loop (t.toInt - f.toInt).toNat f (0 : Int32) .unset (own_start hc1) hf0 (by rw [Int32.lt_iff_toInt_lt]; omega) (fun j _ a b => absurd b a) (by rw [Int.sub_self]; rfl) One.u s₁ _ X0 N0 e0
  · refine own_k (T' := s₁) (g' := (mkF m 13 #[.val (.ref x), .val (.int f), .val (.int t), .unset, .unset, .unset] [])) (fun _ k_ => XS.icmpYes X0.here hx rfl (pc0 := 2) (pc' := 13) rfl (hb hby d8_2) rfl ((flt hc1).2.1) (by decide) (by decide) k_) ?_
    refine own_k (T' := s₁) (g' := (mkF m 14 #[.val (.ref x), .val (.int f), .val (.int t), .unset, .unset, .unset] [(.int (-1 : Int32))])) (fun _ k_ => XS.iconst X0.here hx rfl (hb hby d8_13) k_) ?_
    exact own_retI X0 hx hret hlk (hb hby d8_14) hF (by rw [e0]; exact ⟨⟨(-1 : Int32), rfl, Or.inr ⟨fun q => hc1 q.1, rfl⟩⟩, N0, rfl⟩) (by decide) (by decide)
theorem ef_23_I (m : MethodId) (x0 : Int32)  : entryFrame m #[(.int x0)] 2 = mkF m 0 #[.val (.int x0), .unset] [] := by first | (simp [entryFrame, mkF, argsToLocals, Value.category]; done) | rfl
theorem d23_0 : decode method_5_code 0 = .ok (.bipush 9, 2) := by decide +kernel
theorem d23_2 : decode method_5_code 2 = .ok (.newarray .long, 2) := by decide +kernel
theorem d23_4 : decode method_5_code 4 = .ok (.dup, 1) := by decide +kernel
theorem d23_5 : decode method_5_code 5 = .ok (.iconst 0, 1) := by decide +kernel
theorem d23_6 : decode method_5_code 6 = .ok (.lconst 1, 1) := by decide +kernel
theorem d23_7 : decode method_5_code 7 = .ok (.lastore, 1) := by decide +kernel
theorem d23_8 : decode method_5_code 8 = .ok (.dup, 1) := by decide +kernel
theorem d23_9 : decode method_5_code 9 = .ok (.iconst 1, 1) := by decide +kernel
theorem d23_10 : decode method_5_code 10 = .ok (.ldc2_w 38, 3) := by decide +kernel
theorem d23_13 : decode method_5_code 13 = .ok (.lastore, 1) := by decide +kernel
theorem d23_14 : decode method_5_code 14 = .ok (.dup, 1) := by decide +kernel
theorem d23_15 : decode method_5_code 15 = .ok (.iconst 2, 1) := by decide +kernel
theorem d23_16 : decode method_5_code 16 = .ok (.ldc2_w 40, 3) := by decide +kernel
theorem d23_19 : decode method_5_code 19 = .ok (.lastore, 1) := by decide +kernel
theorem d23_20 : decode method_5_code 20 = .ok (.dup, 1) := by decide +kernel
theorem d23_21 : decode method_5_code 21 = .ok (.iconst 3, 1) := by decide +kernel
theorem d23_22 : decode method_5_code 22 = .ok (.ldc2_w 42, 3) := by decide +kernel
theorem d23_25 : decode method_5_code 25 = .ok (.lastore, 1) := by decide +kernel
theorem d23_26 : decode method_5_code 26 = .ok (.dup, 1) := by decide +kernel
theorem d23_27 : decode method_5_code 27 = .ok (.iconst 4, 1) := by decide +kernel
theorem d23_28 : decode method_5_code 28 = .ok (.ldc2_w 44, 3) := by decide +kernel
theorem d23_31 : decode method_5_code 31 = .ok (.lastore, 1) := by decide +kernel
theorem d23_32 : decode method_5_code 32 = .ok (.dup, 1) := by decide +kernel
theorem d23_33 : decode method_5_code 33 = .ok (.iconst 5, 1) := by decide +kernel
theorem d23_34 : decode method_5_code 34 = .ok (.ldc2_w 46, 3) := by decide +kernel
theorem d23_37 : decode method_5_code 37 = .ok (.lastore, 1) := by decide +kernel
theorem d23_38 : decode method_5_code 38 = .ok (.dup, 1) := by decide +kernel
theorem d23_39 : decode method_5_code 39 = .ok (.bipush 6, 2) := by decide +kernel
theorem d23_41 : decode method_5_code 41 = .ok (.ldc2_w 48, 3) := by decide +kernel
theorem d23_44 : decode method_5_code 44 = .ok (.lastore, 1) := by decide +kernel
theorem d23_45 : decode method_5_code 45 = .ok (.dup, 1) := by decide +kernel
theorem d23_46 : decode method_5_code 46 = .ok (.bipush 7, 2) := by decide +kernel
theorem d23_48 : decode method_5_code 48 = .ok (.ldc2_w 50, 3) := by decide +kernel
theorem d23_51 : decode method_5_code 51 = .ok (.lastore, 1) := by decide +kernel
theorem d23_52 : decode method_5_code 52 = .ok (.dup, 1) := by decide +kernel
theorem d23_53 : decode method_5_code 53 = .ok (.bipush 8, 2) := by decide +kernel
theorem d23_55 : decode method_5_code 55 = .ok (.ldc2_w 52, 3) := by decide +kernel
theorem d23_58 : decode method_5_code 58 = .ok (.lastore, 1) := by decide +kernel
theorem d23_59 : decode method_5_code 59 = .ok (.astore_n 1, 1) := by decide +kernel
theorem d23_60 : decode method_5_code 60 = .ok (.aload_n 1, 1) := by decide +kernel
theorem d23_61 : decode method_5_code 61 = .ok (.iload_n 0, 1) := by decide +kernel
theorem d23_62 : decode method_5_code 62 = .ok (.laload, 1) := by decide +kernel
theorem d23_63 : decode method_5_code 63 = .ok (.lreturn, 1) := by decide +kernel
set_option maxRecDepth 65536 in
set_option maxHeartbeats 40000000 in
theorem rm_pow10 (l : Launch) (Z : State) (a0 : Array Value) (g_COMPACT_STRINGS : Int32) (g_SIOOBE_FORMATTER : Value) (hW : own_W Z a0 g_COMPACT_STRINGS g_SIOOBE_FORMATTER) (k : Int32) (h0 : Heap) (O0 : Old Z Z.heap.size h0) (hk : 0 ≤ k.toInt ∧ k.toInt ≤ 8) :
    own_Met l Z (⟨"com/example/couponforge/couponforge/io/DecimalNumberWholeNumberPinLaw", "pow10", "(I)J"⟩ : MethodName) method_5_code 2 (some .long) ({ frames := 0, cells := 1, slots := 9, locals := 0 } : Room) #[(.int k)] h0 (fun v h L => (∃ z : Int64, v = some (.long z) ∧ z.toInt = 10 ^ k.toInt.toNat) ∧ Fr Z.heap.size L ∧ Keep h0 h []) := by
  have hW_ := hW
  obtain ⟨hw, S_g_COMPACT_STRINGS, P_g_COMPACT_STRINGS, R_g_SIOOBE_FORMATTER, S_g_SIOOBE_FORMATTER, S_g__assertionsDisabled, S_g_HI_BYTE_SHIFT, S_g_LO_BYTE_SHIFT⟩ := hW_
  refine own_met (plainFor_of_name pn_com_example_couponforge_couponforge_io_DecimalNumberWholeNumberPinLaw) ?_
  intro p e s m below meth cc_ s₁ Φ hF X0 hx hby hml hZ hown hnm hret hlk e0
  have N0 := Fr.nil Z.heap.size
  refine own_k (T' := s₁) (g' := (mkF m 0 #[.val (.int k), .unset] [])) (fun _ k_ => castTop (ef_23_I m k) k_) ?_
  refine own_k (T' := s₁) (g' := (mkF m 2 #[.val (.int k), .unset] [(.int (9 : Int32))])) (fun _ k_ => XS.bipush X0.here hx rfl (hb hby d23_0) k_) ?_
  obtain ⟨T1, h1, k1, X1, e1, E1, V1, A1, st1⟩ := own_newarr (pc := 2) (Ls := #[.val (.int k), .unset]) (rest := []) X0 hx hZ (hw _ (List.mem_of_getElem? (i := 96) rfl)) e0 (hb hby d23_2) (n := (9 : Int32)) (by decide) (cap := 9) (by decide) (by decide) (by decide) (by decide) (ad := "[J") (by decide)
  obtain ⟨b1, g1⟩ : ∃ z, z = h0.size := ⟨_, rfl⟩
  rw [← g1] at V1 A1 st1
  have O1' := O0.ext E1
  have V1 : Arv Z h1 b1 k1 .long (9 : Int32) [(.long (0 : Int64)), (.long (0 : Int64)), (.long (0 : Int64)), (.long (0 : Int64)), (.long (0 : Int64)), (.long (0 : Int64)), (.long (0 : Int64)), (.long (0 : Int64)), (.long (0 : Int64))] (.long (0 : Int64)) := V1
  refine own_k (T' := T1) (g' := (mkF m 4 #[.val (.int k), .unset] [(.ref b1)])) st1 ?_
  refine own_k (T' := T1) (g' := (mkF m 5 #[.val (.int k), .unset] [(.ref b1), (.ref b1)])) (fun _ k_ => XS.dup X1.here hx rfl (hb hby d23_4) rfl rfl k_) ?_
  refine own_k (T' := T1) (g' := (mkF m 6 #[.val (.int k), .unset] [(.int (0 : Int32)), (.ref b1), (.ref b1)])) (fun _ k_ => XS.iconst X1.here hx rfl (hb hby d23_5) k_) ?_
  refine own_k (T' := T1) (g' := (mkF m 7 #[.val (.int k), .unset] [(.long (1 : Int64)), (.int (0 : Int32)), (.ref b1), (.ref b1)])) (fun _ k_ => XS.lconst X1.here hx rfl (hb hby d23_6) k_) ?_
  obtain ⟨T2, h2, X2, e2, W2, V2, st2⟩ := own_lastore (pc := 7) (Ls := #[.val (.int k), .unset]) (rest := [(.ref b1)]) X1 hx hZ e1 V1 (j := (0 : Int32)) (x := (1 : Int64)) ⟨by decide, by decide⟩ 0 rfl (Nat.le_of_ble_eq_true rfl) (hb hby d23_7)
  have V2 : Arv Z h2 b1 k1 .long (9 : Int32) [(.long (1 : Int64)), (.long (0 : Int64)), (.long (0 : Int64)), (.long (0 : Int64)), (.long (0 : Int64)), (.long (0 : Int64)), (.long (0 : Int64)), (.long (0 : Int64)), (.long (0 : Int64))] (.long (0 : Int64)) := V2
  have O2' := O1'.wr W2 (Nat.le_trans O0.2.1 (Nat.le_of_eq g1.symm))
  have N2 := Fr.snoc X2 N0 (Nat.le_trans O0.2.1 (Nat.le_of_eq g1.symm))
  refine own_k (T' := T2) (g' := (mkF m 8 #[.val (.int k), .unset] [(.ref b1)])) st2 ?_
  refine own_k (T' := T2) (g' := (mkF m 9 #[.val (.int k), .unset] [(.ref b1), (.ref b1)])) (fun _ k_ => XS.dup X2.here hx rfl (hb hby d23_8) rfl rfl k_) ?_
  refine own_k (T' := T2) (g' := (mkF m 10 #[.val (.int k), .unset] [(.int (1 : Int32)), (.ref b1), (.ref b1)])) (fun _ k_ => XS.iconst X2.here hx rfl (hb hby d23_9) k_) ?_
  refine own_k (T' := T2) (g' := (mkF m 13 #[.val (.int k), .unset] [(.long (10 : Int64)), (.int (1 : Int32)), (.ref b1), (.ref b1)])) (X2.ldc2Long hx hown (mvT hZ (hw _ (List.mem_of_getElem? (i := 97) rfl))) (g := (mkF m 10 #[.val (.int k), .unset] [(.int (1 : Int32)), (.ref b1), (.ref b1)])) rfl (hb hby d23_10)) ?_
  obtain ⟨T3, h3, X3, e3, W3, V3, st3⟩ := own_lastore (pc := 13) (Ls := #[.val (.int k), .unset]) (rest := [(.ref b1)]) X2 hx hZ e2 V2 (j := (1 : Int32)) (x := (10 : Int64)) ⟨by decide, by decide⟩ 1 rfl (Nat.le_of_ble_eq_true rfl) (hb hby d23_13)
  have V3 : Arv Z h3 b1 k1 .long (9 : Int32) [(.long (1 : Int64)), (.long (10 : Int64)), (.long (0 : Int64)), (.long (0 : Int64)), (.long (0 : Int64)), (.long (0 : Int64)), (.long (0 : Int64)), (.long (0 : Int64)), (.long (0 : Int64))] (.long (0 : Int64)) := V3
  have O3' := O2'.wr W3 (Nat.le_trans O0.2.1 (Nat.le_of_eq g1.symm))
  have N3 := Fr.snoc X3 N2 (Nat.le_trans O0.2.1 (Nat.le_of_eq g1.symm))
  refine own_k (T' := T3) (g' := (mkF m 14 #[.val (.int k), .unset] [(.ref b1)])) st3 ?_
  refine own_k (T' := T3) (g' := (mkF m 15 #[.val (.int k), .unset] [(.ref b1), (.ref b1)])) (fun _ k_ => XS.dup X3.here hx rfl (hb hby d23_14) rfl rfl k_) ?_
  refine own_k (T' := T3) (g' := (mkF m 16 #[.val (.int k), .unset] [(.int (2 : Int32)), (.ref b1), (.ref b1)])) (fun _ k_ => XS.iconst X3.here hx rfl (hb hby d23_15) k_) ?_
  refine own_k (T' := T3) (g' := (mkF m 19 #[.val (.int k), .unset] [(.long (100 : Int64)), (.int (2 : Int32)), (.ref b1), (.ref b1)])) (X3.ldc2Long hx hown (mvT hZ (hw _ (List.mem_of_getElem? (i := 98) rfl))) (g := (mkF m 16 #[.val (.int k), .unset] [(.int (2 : Int32)), (.ref b1), (.ref b1)])) rfl (hb hby d23_16)) ?_
  obtain ⟨T4, h4, X4, e4, W4, V4, st4⟩ := own_lastore (pc := 19) (Ls := #[.val (.int k), .unset]) (rest := [(.ref b1)]) X3 hx hZ e3 V3 (j := (2 : Int32)) (x := (100 : Int64)) ⟨by decide, by decide⟩ 2 rfl (Nat.le_of_ble_eq_true rfl) (hb hby d23_19)
  have V4 : Arv Z h4 b1 k1 .long (9 : Int32) [(.long (1 : Int64)), (.long (10 : Int64)), (.long (100 : Int64)), (.long (0 : Int64)), (.long (0 : Int64)), (.long (0 : Int64)), (.long (0 : Int64)), (.long (0 : Int64)), (.long (0 : Int64))] (.long (0 : Int64)) := V4
  have O4' := O3'.wr W4 (Nat.le_trans O0.2.1 (Nat.le_of_eq g1.symm))
  have N4 := Fr.snoc X4 N3 (Nat.le_trans O0.2.1 (Nat.le_of_eq g1.symm))
  refine own_k (T' := T4) (g' := (mkF m 20 #[.val (.int k), .unset] [(.ref b1)])) st4 ?_
  refine own_k (T' := T4) (g' := (mkF m 21 #[.val (.int k), .unset] [(.ref b1), (.ref b1)])) (fun _ k_ => XS.dup X4.here hx rfl (hb hby d23_20) rfl rfl k_) ?_
  refine own_k (T' := T4) (g' := (mkF m 22 #[.val (.int k), .unset] [(.int (3 : Int32)), (.ref b1), (.ref b1)])) (fun _ k_ => XS.iconst X4.here hx rfl (hb hby d23_21) k_) ?_
  refine own_k (T' := T4) (g' := (mkF m 25 #[.val (.int k), .unset] [(.long (1000 : Int64)), (.int (3 : Int32)), (.ref b1), (.ref b1)])) (X4.ldc2Long hx hown (mvT hZ (hw _ (List.mem_of_getElem? (i := 99) rfl))) (g := (mkF m 22 #[.val (.int k), .unset] [(.int (3 : Int32)), (.ref b1), (.ref b1)])) rfl (hb hby d23_22)) ?_
  obtain ⟨T5, h5, X5, e5, W5, V5, st5⟩ := own_lastore (pc := 25) (Ls := #[.val (.int k), .unset]) (rest := [(.ref b1)]) X4 hx hZ e4 V4 (j := (3 : Int32)) (x := (1000 : Int64)) ⟨by decide, by decide⟩ 3 rfl (Nat.le_of_ble_eq_true rfl) (hb hby d23_25)
  have V5 : Arv Z h5 b1 k1 .long (9 : Int32) [(.long (1 : Int64)), (.long (10 : Int64)), (.long (100 : Int64)), (.long (1000 : Int64)), (.long (0 : Int64)), (.long (0 : Int64)), (.long (0 : Int64)), (.long (0 : Int64)), (.long (0 : Int64))] (.long (0 : Int64)) := V5
  have O5' := O4'.wr W5 (Nat.le_trans O0.2.1 (Nat.le_of_eq g1.symm))
  have N5 := Fr.snoc X5 N4 (Nat.le_trans O0.2.1 (Nat.le_of_eq g1.symm))
  refine own_k (T' := T5) (g' := (mkF m 26 #[.val (.int k), .unset] [(.ref b1)])) st5 ?_
  refine own_k (T' := T5) (g' := (mkF m 27 #[.val (.int k), .unset] [(.ref b1), (.ref b1)])) (fun _ k_ => XS.dup X5.here hx rfl (hb hby d23_26) rfl rfl k_) ?_
  refine own_k (T' := T5) (g' := (mkF m 28 #[.val (.int k), .unset] [(.int (4 : Int32)), (.ref b1), (.ref b1)])) (fun _ k_ => XS.iconst X5.here hx rfl (hb hby d23_27) k_) ?_
  refine own_k (T' := T5) (g' := (mkF m 31 #[.val (.int k), .unset] [(.long (10000 : Int64)), (.int (4 : Int32)), (.ref b1), (.ref b1)])) (X5.ldc2Long hx hown (mvT hZ (hw _ (List.mem_of_getElem? (i := 100) rfl))) (g := (mkF m 28 #[.val (.int k), .unset] [(.int (4 : Int32)), (.ref b1), (.ref b1)])) rfl (hb hby d23_28)) ?_
  obtain ⟨T6, h6, X6, e6, W6, V6, st6⟩ := own_lastore (pc := 31) (Ls := #[.val (.int k), .unset]) (rest := [(.ref b1)]) X5 hx hZ e5 V5 (j := (4 : Int32)) (x := (10000 : Int64)) ⟨by decide, by decide⟩ 4 rfl (Nat.le_of_ble_eq_true rfl) (hb hby d23_31)
  have V6 : Arv Z h6 b1 k1 .long (9 : Int32) [(.long (1 : Int64)), (.long (10 : Int64)), (.long (100 : Int64)), (.long (1000 : Int64)), (.long (10000 : Int64)), (.long (0 : Int64)), (.long (0 : Int64)), (.long (0 : Int64)), (.long (0 : Int64))] (.long (0 : Int64)) := V6
  have O6' := O5'.wr W6 (Nat.le_trans O0.2.1 (Nat.le_of_eq g1.symm))
  have N6 := Fr.snoc X6 N5 (Nat.le_trans O0.2.1 (Nat.le_of_eq g1.symm))
  refine own_k (T' := T6) (g' := (mkF m 32 #[.val (.int k), .unset] [(.ref b1)])) st6 ?_
  refine own_k (T' := T6) (g' := (mkF m 33 #[.val (.int k), .unset] [(.ref b1), (.ref b1)])) (fun _ k_ => XS.dup X6.here hx rfl (hb hby d23_32) rfl rfl k_) ?_
  refine own_k (T' := T6) (g' := (mkF m 34 #[.val (.int k), .unset] [(.int (5 : Int32)), (.ref b1), (.ref b1)])) (fun _ k_ => XS.iconst X6.here hx rfl (hb hby d23_33) k_) ?_
  refine own_k (T' := T6) (g' := (mkF m 37 #[.val (.int k), .unset] [(.long (100000 : Int64)), (.int (5 : Int32)), (.ref b1), (.ref b1)])) (X6.ldc2Long hx hown (mvT hZ (hw _ (List.mem_of_getElem? (i := 101) rfl))) (g := (mkF m 34 #[.val (.int k), .unset] [(.int (5 : Int32)), (.ref b1), (.ref b1)])) rfl (hb hby d23_34)) ?_
  obtain ⟨T7, h7, X7, e7, W7, V7, st7⟩ := own_lastore (pc := 37) (Ls := #[.val (.int k), .unset]) (rest := [(.ref b1)]) X6 hx hZ e6 V6 (j := (5 : Int32)) (x := (100000 : Int64)) ⟨by decide, by decide⟩ 5 rfl (Nat.le_of_ble_eq_true rfl) (hb hby d23_37)
  have V7 : Arv Z h7 b1 k1 .long (9 : Int32) [(.long (1 : Int64)), (.long (10 : Int64)), (.long (100 : Int64)), (.long (1000 : Int64)), (.long (10000 : Int64)), (.long (100000 : Int64)), (.long (0 : Int64)), (.long (0 : Int64)), (.long (0 : Int64))] (.long (0 : Int64)) := V7
  have O7' := O6'.wr W7 (Nat.le_trans O0.2.1 (Nat.le_of_eq g1.symm))
  have N7 := Fr.snoc X7 N6 (Nat.le_trans O0.2.1 (Nat.le_of_eq g1.symm))
  refine own_k (T' := T7) (g' := (mkF m 38 #[.val (.int k), .unset] [(.ref b1)])) st7 ?_
  refine own_k (T' := T7) (g' := (mkF m 39 #[.val (.int k), .unset] [(.ref b1), (.ref b1)])) (fun _ k_ => XS.dup X7.here hx rfl (hb hby d23_38) rfl rfl k_) ?_
  refine own_k (T' := T7) (g' := (mkF m 41 #[.val (.int k), .unset] [(.int (6 : Int32)), (.ref b1), (.ref b1)])) (fun _ k_ => XS.bipush X7.here hx rfl (hb hby d23_39) k_) ?_
  refine own_k (T' := T7) (g' := (mkF m 44 #[.val (.int k), .unset] [(.long (1000000 : Int64)), (.int (6 : Int32)), (.ref b1), (.ref b1)])) (X7.ldc2Long hx hown (mvT hZ (hw _ (List.mem_of_getElem? (i := 102) rfl))) (g := (mkF m 41 #[.val (.int k), .unset] [(.int (6 : Int32)), (.ref b1), (.ref b1)])) rfl (hb hby d23_41)) ?_
  obtain ⟨T8, h8, X8, e8, W8, V8, st8⟩ := own_lastore (pc := 44) (Ls := #[.val (.int k), .unset]) (rest := [(.ref b1)]) X7 hx hZ e7 V7 (j := (6 : Int32)) (x := (1000000 : Int64)) ⟨by decide, by decide⟩ 6 rfl (Nat.le_of_ble_eq_true rfl) (hb hby d23_44)
  have V8 : Arv Z h8 b1 k1 .long (9 : Int32) [(.long (1 : Int64)), (.long (10 : Int64)), (.long (100 : Int64)), (.long (1000 : Int64)), (.long (10000 : Int64)), (.long (100000 : Int64)), (.long (1000000 : Int64)), (.long (0 : Int64)), (.long (0 : Int64))] (.long (0 : Int64)) := V8
  have O8' := O7'.wr W8 (Nat.le_trans O0.2.1 (Nat.le_of_eq g1.symm))
  have N8 := Fr.snoc X8 N7 (Nat.le_trans O0.2.1 (Nat.le_of_eq g1.symm))
  refine own_k (T' := T8) (g' := (mkF m 45 #[.val (.int k), .unset] [(.ref b1)])) st8 ?_
  refine own_k (T' := T8) (g' := (mkF m 46 #[.val (.int k), .unset] [(.ref b1), (.ref b1)])) (fun _ k_ => XS.dup X8.here hx rfl (hb hby d23_45) rfl rfl k_) ?_
  refine own_k (T' := T8) (g' := (mkF m 48 #[.val (.int k), .unset] [(.int (7 : Int32)), (.ref b1), (.ref b1)])) (fun _ k_ => XS.bipush X8.here hx rfl (hb hby d23_46) k_) ?_
  refine own_k (T' := T8) (g' := (mkF m 51 #[.val (.int k), .unset] [(.long (10000000 : Int64)), (.int (7 : Int32)), (.ref b1), (.ref b1)])) (X8.ldc2Long hx hown (mvT hZ (hw _ (List.mem_of_getElem? (i := 103) rfl))) (g := (mkF m 48 #[.val (.int k), .unset] [(.int (7 : Int32)), (.ref b1), (.ref b1)])) rfl (hb hby d23_48)) ?_
  obtain ⟨T9, h9, X9, e9, W9, V9, st9⟩ := own_lastore (pc := 51) (Ls := #[.val (.int k), .unset]) (rest := [(.ref b1)]) X8 hx hZ e8 V8 (j := (7 : Int32)) (x := (10000000 : Int64)) ⟨by decide, by decide⟩ 7 rfl (Nat.le_of_ble_eq_true rfl) (hb hby d23_51)
  have V9 : Arv Z h9 b1 k1 .long (9 : Int32) [(.long (1 : Int64)), (.long (10 : Int64)), (.long (100 : Int64)), (.long (1000 : Int64)), (.long (10000 : Int64)), (.long (100000 : Int64)), (.long (1000000 : Int64)), (.long (10000000 : Int64)), (.long (0 : Int64))] (.long (0 : Int64)) := V9
  have O9' := O8'.wr W9 (Nat.le_trans O0.2.1 (Nat.le_of_eq g1.symm))
  have N9 := Fr.snoc X9 N8 (Nat.le_trans O0.2.1 (Nat.le_of_eq g1.symm))
  refine own_k (T' := T9) (g' := (mkF m 52 #[.val (.int k), .unset] [(.ref b1)])) st9 ?_
  refine own_k (T' := T9) (g' := (mkF m 53 #[.val (.int k), .unset] [(.ref b1), (.ref b1)])) (fun _ k_ => XS.dup X9.here hx rfl (hb hby d23_52) rfl rfl k_) ?_
  refine own_k (T' := T9) (g' := (mkF m 55 #[.val (.int k), .unset] [(.int (8 : Int32)), (.ref b1), (.ref b1)])) (fun _ k_ => XS.bipush X9.here hx rfl (hb hby d23_53) k_) ?_
  refine own_k (T' := T9) (g' := (mkF m 58 #[.val (.int k), .unset] [(.long (100000000 : Int64)), (.int (8 : Int32)), (.ref b1), (.ref b1)])) (X9.ldc2Long hx hown (mvT hZ (hw _ (List.mem_of_getElem? (i := 104) rfl))) (g := (mkF m 55 #[.val (.int k), .unset] [(.int (8 : Int32)), (.ref b1), (.ref b1)])) rfl (hb hby d23_55)) ?_
  obtain ⟨T10, h10, X10, e10, W10, V10, st10⟩ := own_lastore (pc := 58) (Ls := #[.val (.int k), .unset]) (rest := [(.ref b1)]) X9 hx hZ e9 V9 (j := (8 : Int32)) (x := (100000000 : Int64)) ⟨by decide, by decide⟩ 8 rfl (Nat.le_of_ble_eq_true rfl) (hb hby d23_58)
  have V10 : Arv Z h10 b1 k1 .long (9 : Int32) [(.long (1 : Int64)), (.long (10 : Int64)), (.long (100 : Int64)), (.long (1000 : Int64)), (.long (10000 : Int64)), (.long (100000 : Int64)), (.long (1000000 : Int64)), (.long (10000000 : Int64)), (.long (100000000 : Int64))] (.long (0 : Int64)) := V10
  have O10' := O9'.wr W10 (Nat.le_trans O0.2.1 (Nat.le_of_eq g1.symm))
  have N10 := Fr.snoc X10 N9 (Nat.le_trans O0.2.1 (Nat.le_of_eq g1.symm))
  refine own_k (T' := T10) (g' := (mkF m 59 #[.val (.int k), .unset] [(.ref b1)])) st10 ?_
  refine own_k (T' := T10) (g' := (mkF m 60 #[.val (.int k), .val (.ref b1)] [])) (fun _ k_ => XS.astoreN X10.here hx rfl (hb hby d23_59) rfl rfl (l' := #[.val (.int k), .val (.ref b1)]) rfl k_) ?_
  refine own_k (T' := T10) (g' := (mkF m 61 #[.val (.int k), .val (.ref b1)] [(.ref b1)])) (fun _ k_ => XS.aloadN X10.here hx rfl (hb hby d23_60) rfl rfl  k_) ?_
  refine own_k (T' := T10) (g' := (mkF m 62 #[.val (.int k), .val (.ref b1)] [(.int k), (.ref b1)])) (fun _ k_ => XS.iloadN X10.here hx rfl (hb hby d23_61) rfl  k_) ?_
  obtain ⟨z, hz, hzv⟩ := own_pows hk
  refine own_laload X10 hx hZ e10 V10 (j := k) ⟨(own_k8 hk).1, (own_k8 hk).2⟩ (v := (.long z)) hz (hb hby d23_62) ?_
  show own_Go p e below Φ T10 (mkF m 63 #[.val (.int k), .val (.ref b1)] [(.long z)])
  have kp0 : Keep h0 h0 [] := Keep.refl h0 []
  have kp1 : Keep h0 h1 [] := kp0.ext E1
  have kp2 : Keep h0 h2 [] := kp1.wr W2 (Or.inr (Nat.le_trans kp0.1 (Nat.le_of_eq g1.symm)))
  have kp3 : Keep h0 h3 [] := kp2.wr W3 (Or.inr (Nat.le_trans kp0.1 (Nat.le_of_eq g1.symm)))
  have kp4 : Keep h0 h4 [] := kp3.wr W4 (Or.inr (Nat.le_trans kp0.1 (Nat.le_of_eq g1.symm)))
  have kp5 : Keep h0 h5 [] := kp4.wr W5 (Or.inr (Nat.le_trans kp0.1 (Nat.le_of_eq g1.symm)))
  have kp6 : Keep h0 h6 [] := kp5.wr W6 (Or.inr (Nat.le_trans kp0.1 (Nat.le_of_eq g1.symm)))
  have kp7 : Keep h0 h7 [] := kp6.wr W7 (Or.inr (Nat.le_trans kp0.1 (Nat.le_of_eq g1.symm)))
  have kp8 : Keep h0 h8 [] := kp7.wr W8 (Or.inr (Nat.le_trans kp0.1 (Nat.le_of_eq g1.symm)))
  have kp9 : Keep h0 h9 [] := kp8.wr W9 (Or.inr (Nat.le_trans kp0.1 (Nat.le_of_eq g1.symm)))
  have kp10 : Keep h0 h10 [] := kp9.wr W10 (Or.inr (Nat.le_trans kp0.1 (Nat.le_of_eq g1.symm)))
  exact own_retJ X10 hx hret hlk (hb hby d23_63) hF (by rw [e10]; exact ⟨⟨z, rfl, hzv⟩, N10, kp10⟩) (by decide) (by decide)
theorem ef_22_RIII (m : MethodId) (x0 : Addr) (x1 : Int32) (x2 : Int32) (x3 : Int32)  : entryFrame m #[(.ref x0), (.int x1), (.int x2), (.int x3)] 5 = mkF m 0 #[.val (.ref x0), .val (.int x1), .val (.int x2), .val (.int x3), .unset] [] := by first | (simp [entryFrame, mkF, argsToLocals, Value.category]; done) | rfl
theorem d22_0 : decode method_4_code 0 = .ok (.iload_n 1, 1) := by decide +kernel
theorem d22_1 : decode method_4_code 1 = .ok (.iload_n 2, 1) := by decide +kernel
theorem d22_2 : decode method_4_code 2 = .ok (.if_icmp .lt 8, 3) := by decide +kernel
theorem d22_10 : decode method_4_code 10 = .ok (.lconst 0, 1) := by decide +kernel
theorem d22_11 : decode method_4_code 11 = .ok (.lreturn, 1) := by decide +kernel
theorem d22_5 : decode method_4_code 5 = .ok (.iload_n 1, 1) := by decide +kernel
theorem d22_6 : decode method_4_code 6 = .ok (.iload_n 3, 1) := by decide +kernel
theorem d22_7 : decode method_4_code 7 = .ok (.if_icmp .lt 5, 3) := by decide +kernel
theorem d22_12 : decode method_4_code 12 = .ok (.aload_n 0, 1) := by decide +kernel
theorem d22_13 : decode method_4_code 13 = .ok (.iload_n 1, 1) := by decide +kernel
theorem d22_14 : decode method_4_code 14 = .ok (.caload, 1) := by decide +kernel
theorem d22_15 : decode method_4_code 15 = .ok (.istore 4, 2) := by decide +kernel
theorem d22_17 : decode method_4_code 17 = .ok (.iload 4, 2) := by decide +kernel
theorem d22_19 : decode method_4_code 19 = .ok (.bipush 48, 2) := by decide +kernel
theorem d22_21 : decode method_4_code 21 = .ok (.if_icmp .lt 10, 3) := by decide +kernel
theorem d22_31 : decode method_4_code 31 = .ok (.ldc2_w 32, 3) := by decide +kernel
theorem d22_34 : decode method_4_code 34 = .ok (.lreturn, 1) := by decide +kernel
theorem d22_24 : decode method_4_code 24 = .ok (.iload 4, 2) := by decide +kernel
theorem d22_26 : decode method_4_code 26 = .ok (.bipush 57, 2) := by decide +kernel
theorem d22_28 : decode method_4_code 28 = .ok (.if_icmp .le 7, 3) := by decide +kernel
theorem d22_35 : decode method_4_code 35 = .ok (.iload 4, 2) := by decide +kernel
theorem d22_37 : decode method_4_code 37 = .ok (.bipush 48, 2) := by decide +kernel
theorem d22_39 : decode method_4_code 39 = .ok (.isub, 1) := by decide +kernel
theorem d22_40 : decode method_4_code 40 = .ok (.i2l, 1) := by decide +kernel
theorem d22_41 : decode method_4_code 41 = .ok (.iload_n 3, 1) := by decide +kernel
theorem d22_42 : decode method_4_code 42 = .ok (.iconst 1, 1) := by decide +kernel
theorem d22_43 : decode method_4_code 43 = .ok (.isub, 1) := by decide +kernel
theorem d22_44 : decode method_4_code 44 = .ok (.iload_n 1, 1) := by decide +kernel
theorem d22_45 : decode method_4_code 45 = .ok (.isub, 1) := by decide +kernel
theorem d22_46 : decode method_4_code 46 = .ok (.invokestatic 34, 3) := by decide +kernel
theorem pd__28I_29J : parseMethodDescriptor "(I)J" = some ⟨[.int], some .long⟩ := by decide +kernel
theorem d22_49 : decode method_4_code 49 = .ok (.lmul, 1) := by decide +kernel
theorem d22_50 : decode method_4_code 50 = .ok (.lreturn, 1) := by decide +kernel
set_option maxRecDepth 65536 in
set_option maxHeartbeats 40000000 in
theorem rm_part (l : Launch) (Z : State) (a0 : Array Value) (g_COMPACT_STRINGS : Int32) (g_SIOOBE_FORMATTER : Value) (hW : own_W Z a0 g_COMPACT_STRINGS g_SIOOBE_FORMATTER) (a : Addr) (ka : ClassId) (i : Int32) (f : Int32) (t : Int32) (cs : List Int32) (h0 : Heap) (O0 : Old Z Z.heap.size h0) (hA : Arv Z h0 a ka .char (12 : Int32) (cs.map Value.int) (.int (0 : Int32))) (hi : 0 ≤ i.toInt ∧ i.toInt < 12) (hf0 : 0 ≤ f.toInt) (hsm : t.toInt - f.toInt ≤ 9) (hok : ∀ c ∈ cs, own_ok c) :
    own_Met l Z (⟨"com/example/couponforge/couponforge/io/DecimalNumberWholeNumberPinLaw", "part", "([CIII)J"⟩ : MethodName) method_4_code 5 (some .long) ({ frames := 1, cells := 1, slots := 9, locals := 15 } : Room) #[(.ref a), (.int i), (.int f), (.int t)] h0 (fun v h L => (∃ z : Int64, v = some (.long z) ∧ z.toInt = own_prt f.toInt t.toInt i.toInt (cs.getD i.toNatClampNeg (0 : Int32))) ∧ Fr Z.heap.size L ∧ Keep h0 h []) := by
  have hW_ := hW
  obtain ⟨hw, S_g_COMPACT_STRINGS, P_g_COMPACT_STRINGS, R_g_SIOOBE_FORMATTER, S_g_SIOOBE_FORMATTER, S_g__assertionsDisabled, S_g_HI_BYTE_SHIFT, S_g_LO_BYTE_SHIFT⟩ := hW_
  refine own_met (plainFor_of_name pn_com_example_couponforge_couponforge_io_DecimalNumberWholeNumberPinLaw) ?_
  intro p e s m below meth cc_ s₁ Φ hF X0 hx hby hml hZ hown hnm hret hlk e0
  have N0 := Fr.nil Z.heap.size
  refine own_k (T' := s₁) (g' := (mkF m 0 #[.val (.ref a), .val (.int i), .val (.int f), .val (.int t), .unset] [])) (fun _ k_ => castTop (ef_22_RIII m a i f t) k_) ?_
  obtain ⟨ch, hch⟩ : ∃ c, c = cs.getD i.toNatClampNeg (0 : Int32) := ⟨_, rfl⟩
  have hok_ch : own_ok ch := hch ▸ own_ok_getD hok _
  refine own_k (T' := s₁) (g' := (mkF m 1 #[.val (.ref a), .val (.int i), .val (.int f), .val (.int t), .unset] [(.int i)])) (fun _ k_ => XS.iloadN X0.here hx rfl (hb hby d22_0) rfl  k_) ?_
  refine own_k (T' := s₁) (g' := (mkF m 2 #[.val (.ref a), .val (.int i), .val (.int f), .val (.int t), .unset] [(.int f), (.int i)])) (fun _ k_ => XS.iloadN X0.here hx rfl (hb hby d22_1) rfl  k_) ?_
  by_cases hc1 : i < f
  · refine own_k (T' := s₁) (g' := (mkF m 10 #[.val (.ref a), .val (.int i), .val (.int f), .val (.int t), .unset] [])) (fun _ k_ => XS.icmpYes X0.here hx rfl (pc0 := 2) (pc' := 10) rfl (hb hby d22_2) rfl ((tlt hc1).1) (by decide) (by decide) k_) ?_
    refine own_k (T' := s₁) (g' := (mkF m 11 #[.val (.ref a), .val (.int i), .val (.int f), .val (.int t), .unset] [(.long (0 : Int64))])) (fun _ k_ => XS.lconst X0.here hx rfl (hb hby d22_10) k_) ?_
    have kp0 : Keep h0 h0 [] := Keep.refl h0 []
    exact own_retJ X0 hx hret hlk (hb hby d22_11) hF (by rw [e0]; exact ⟨⟨(0 : Int64), rfl, hch ▸ own_p0 (Or.inl hc1)⟩, N0, kp0⟩) (by decide) (by decide)
  · refine own_k (T' := s₁) (g' := (mkF m 5 #[.val (.ref a), .val (.int i), .val (.int f), .val (.int t), .unset] [])) (fun _ k_ => XS.icmpNo X0.here hx rfl (hb hby d22_2) rfl ((flt hc1).1) k_) ?_
    refine own_k (T' := s₁) (g' := (mkF m 6 #[.val (.ref a), .val (.int i), .val (.int f), .val (.int t), .unset] [(.int i)])) (fun _ k_ => XS.iloadN X0.here hx rfl (hb hby d22_5) rfl  k_) ?_
    refine own_k (T' := s₁) (g' := (mkF m 7 #[.val (.ref a), .val (.int i), .val (.int f), .val (.int t), .unset] [(.int t), (.int i)])) (fun _ k_ => XS.iloadN X0.here hx rfl (hb hby d22_6) rfl  k_) ?_
    by_cases hc2 : i < t
    · refine own_k (T' := s₁) (g' := (mkF m 12 #[.val (.ref a), .val (.int i), .val (.int f), .val (.int t), .unset] [])) (fun _ k_ => XS.icmpYes X0.here hx rfl (pc0 := 7) (pc' := 12) rfl (hb hby d22_7) rfl ((tlt hc2).1) (by decide) (by decide) k_) ?_
      refine own_k (T' := s₁) (g' := (mkF m 13 #[.val (.ref a), .val (.int i), .val (.int f), .val (.int t), .unset] [(.ref a)])) (fun _ k_ => XS.aloadN X0.here hx rfl (hb hby d22_12) rfl rfl  k_) ?_
      refine own_k (T' := s₁) (g' := (mkF m 14 #[.val (.ref a), .val (.int i), .val (.int f), .val (.int t), .unset] [(.int i), (.ref a)])) (fun _ k_ => XS.iloadN X0.here hx rfl (hb hby d22_13) rfl  k_) ?_
      refine own_caload X0 hx hZ e0 hA (j := i) ⟨(own_i12 hi).1, (own_i12 hi).2⟩ (v := (.int ch)) ((own_map_get cs _).trans (by rw [← hch])) (hb hby d22_14) ?_
      show own_Go p e below Φ s₁ (mkF m 15 #[.val (.ref a), .val (.int i), .val (.int f), .val (.int t), .unset] [(.int ch)])
      refine own_k (T' := s₁) (g' := (mkF m 17 #[.val (.ref a), .val (.int i), .val (.int f), .val (.int t), .val (.int ch)] [])) (fun _ k_ => XS.istore X0.here hx rfl (hb hby d22_15) rfl (l' := #[.val (.ref a), .val (.int i), .val (.int f), .val (.int t), .val (.int ch)]) rfl k_) ?_
      refine own_k (T' := s₁) (g' := (mkF m 19 #[.val (.ref a), .val (.int i), .val (.int f), .val (.int t), .val (.int ch)] [(.int ch)])) (fun _ k_ => XS.iload X0.here hx rfl (hb hby d22_17) rfl  k_) ?_
      refine own_k (T' := s₁) (g' := (mkF m 21 #[.val (.ref a), .val (.int i), .val (.int f), .val (.int t), .val (.int ch)] [(.int (48 : Int32)), (.int ch)])) (fun _ k_ => XS.bipush X0.here hx rfl (hb hby d22_19) k_) ?_
      by_cases hc3 : ch < (48 : Int32)
      · refine own_k (T' := s₁) (g' := (mkF m 31 #[.val (.ref a), .val (.int i), .val (.int f), .val (.int t), .val (.int ch)] [])) (fun _ k_ => XS.icmpYes X0.here hx rfl (pc0 := 21) (pc' := 31) rfl (hb hby d22_21) rfl ((tlt hc3).1) (by decide) (by decide) k_) ?_
        refine own_k (T' := s₁) (g' := (mkF m 34 #[.val (.ref a), .val (.int i), .val (.int f), .val (.int t), .val (.int ch)] [(.long (-1000000000000 : Int64))])) (X0.ldc2Long hx hown (mvT hZ (hw _ (List.mem_of_getElem? (i := 105) rfl))) (g := (mkF m 31 #[.val (.ref a), .val (.int i), .val (.int f), .val (.int t), .val (.int ch)] [])) rfl (hb hby d22_31)) ?_
        have kp0 : Keep h0 h0 [] := Keep.refl h0 []
        exact own_retJ X0 hx hret hlk (hb hby d22_34) hF (by rw [e0]; exact ⟨⟨(-1000000000000 : Int64), rfl, hch ▸ own_pb hc1 hc2 (Or.inl hc3)⟩, N0, kp0⟩) (by decide) (by decide)
      · refine own_k (T' := s₁) (g' := (mkF m 24 #[.val (.ref a), .val (.int i), .val (.int f), .val (.int t), .val (.int ch)] [])) (fun _ k_ => XS.icmpNo X0.here hx rfl (hb hby d22_21) rfl ((flt hc3).1) k_) ?_
        refine own_k (T' := s₁) (g' := (mkF m 26 #[.val (.ref a), .val (.int i), .val (.int f), .val (.int t), .val (.int ch)] [(.int ch)])) (fun _ k_ => XS.iload X0.here hx rfl (hb hby d22_24) rfl  k_) ?_
        refine own_k (T' := s₁) (g' := (mkF m 28 #[.val (.ref a), .val (.int i), .val (.int f), .val (.int t), .val (.int ch)] [(.int (57 : Int32)), (.int ch)])) (fun _ k_ => XS.bipush X0.here hx rfl (hb hby d22_26) k_) ?_
        by_cases hc4 : (57 : Int32) < ch
        · refine own_k (T' := s₁) (g' := (mkF m 31 #[.val (.ref a), .val (.int i), .val (.int f), .val (.int t), .val (.int ch)] [])) (fun _ k_ => XS.icmpNo X0.here hx rfl (hb hby d22_28) rfl ((tlt hc4).2.2.2) k_) ?_
          refine own_k (T' := s₁) (g' := (mkF m 34 #[.val (.ref a), .val (.int i), .val (.int f), .val (.int t), .val (.int ch)] [(.long (-1000000000000 : Int64))])) (X0.ldc2Long hx hown (mvT hZ (hw _ (List.mem_of_getElem? (i := 105) rfl))) (g := (mkF m 31 #[.val (.ref a), .val (.int i), .val (.int f), .val (.int t), .val (.int ch)] [])) rfl (hb hby d22_31)) ?_
          have kp0 : Keep h0 h0 [] := Keep.refl h0 []
          exact own_retJ X0 hx hret hlk (hb hby d22_34) hF (by rw [e0]; exact ⟨⟨(-1000000000000 : Int64), rfl, hch ▸ own_pb hc1 hc2 (Or.inr hc4)⟩, N0, kp0⟩) (by decide) (by decide)
        · refine own_k (T' := s₁) (g' := (mkF m 35 #[.val (.ref a), .val (.int i), .val (.int f), .val (.int t), .val (.int ch)] [])) (fun _ k_ => XS.icmpYes X0.here hx rfl (pc0 := 28) (pc' := 35) rfl (hb hby d22_28) rfl ((flt hc4).2.2.2) (by decide) (by decide) k_) ?_
          refine own_k (T' := s₁) (g' := (mkF m 37 #[.val (.ref a), .val (.int i), .val (.int f), .val (.int t), .val (.int ch)] [(.int ch)])) (fun _ k_ => XS.iload X0.here hx rfl (hb hby d22_35) rfl  k_) ?_
          refine own_k (T' := s₁) (g' := (mkF m 39 #[.val (.ref a), .val (.int i), .val (.int f), .val (.int t), .val (.int ch)] [(.int (48 : Int32)), (.int ch)])) (fun _ k_ => XS.bipush X0.here hx rfl (hb hby d22_37) k_) ?_
          refine own_k (T' := s₁) (g' := (mkF m 40 #[.val (.ref a), .val (.int i), .val (.int f), .val (.int t), .val (.int ch)] [(.int (ch - (48 : Int32)))])) (fun _ k_ => XS.isub X0.here hx rfl (hb hby d22_39) rfl k_) ?_
          refine own_k (T' := s₁) (g' := (mkF m 41 #[.val (.ref a), .val (.int i), .val (.int f), .val (.int t), .val (.int ch)] [(.long ((ch - (48 : Int32)).toInt64))])) (fun _ k_ => XS.i2l X0.here hx rfl (hb hby d22_40) rfl k_) ?_
          refine own_k (T' := s₁) (g' := (mkF m 42 #[.val (.ref a), .val (.int i), .val (.int f), .val (.int t), .val (.int ch)] [(.int t), (.long ((ch - (48 : Int32)).toInt64))])) (fun _ k_ => XS.iloadN X0.here hx rfl (hb hby d22_41) rfl  k_) ?_
          refine own_k (T' := s₁) (g' := (mkF m 43 #[.val (.ref a), .val (.int i), .val (.int f), .val (.int t), .val (.int ch)] [(.int (1 : Int32)), (.int t), (.long ((ch - (48 : Int32)).toInt64))])) (fun _ k_ => XS.iconst X0.here hx rfl (hb hby d22_42) k_) ?_
          refine own_k (T' := s₁) (g' := (mkF m 44 #[.val (.ref a), .val (.int i), .val (.int f), .val (.int t), .val (.int ch)] [(.int (t - (1 : Int32))), (.long ((ch - (48 : Int32)).toInt64))])) (fun _ k_ => XS.isub X0.here hx rfl (hb hby d22_43) rfl k_) ?_
          refine own_k (T' := s₁) (g' := (mkF m 45 #[.val (.ref a), .val (.int i), .val (.int f), .val (.int t), .val (.int ch)] [(.int i), (.int (t - (1 : Int32))), (.long ((ch - (48 : Int32)).toInt64))])) (fun _ k_ => XS.iloadN X0.here hx rfl (hb hby d22_44) rfl  k_) ?_
          refine own_k (T' := s₁) (g' := (mkF m 46 #[.val (.ref a), .val (.int i), .val (.int f), .val (.int t), .val (.int ch)] [(.int ((t - (1 : Int32)) - i)), (.long ((ch - (48 : Int32)).toInt64))])) (fun _ k_ => XS.isub X0.here hx rfl (hb hby d22_45) rfl k_) ?_
          refine own_callS X0 hx hZ (y := (⟨"com/example/couponforge/couponforge/io/DecimalNumberWholeNumberPinLaw", "pow10", "(I)J"⟩ : MethodName)) hown (hw _ (List.mem_of_getElem? (i := 93) rfl)) (hw _ (List.mem_of_getElem? (i := 94) rfl)) (hw _ (List.mem_of_getElem? (i := 3) rfl)) (hw _ (List.mem_of_getElem? (i := 95) rfl)) (by decide) (al := [(.int ((t - (1 : Int32)) - i))]) (rm_pow10 l Z a0 g_COMPACT_STRINGS g_SIOOBE_FORMATTER hW ((t - (1 : Int32)) - i) h0 O0 (own_kk hf0 hsm hi hc1 hc2)) 2 (by decide) (by decide) e0 (by decide) (by decide) (by rw [hml]; rfl) (lenOf pd__28I_29J rfl) rfl (rest := [(.long ((ch - (48 : Int32)).toInt64))]) (by show 2 * 0 + _ ≤ _; exact Nat.le_of_eq rfl) (hb hby d22_46) ?_
          intro v5 T5 L5 X5 hQ5
          obtain ⟨⟨z, rfl, hz⟩, Nq5, K5⟩ := hQ5
          have N5 := Fr.app N0 Nq5
          have O5' := O0.keep K5 all0
          show own_Go p e below Φ T5 (mkF m 49 #[.val (.ref a), .val (.int i), .val (.int f), .val (.int t), .val (.int ch)] [(.long z), (.long ((ch - (48 : Int32)).toInt64))])
          refine own_k (T' := T5) (g' := (mkF m 50 #[.val (.ref a), .val (.int i), .val (.int f), .val (.int t), .val (.int ch)] [(.long (((ch - (48 : Int32)).toInt64) * z))])) (fun _ k_ => XS.lmul X5.here hx rfl (hb hby d22_49) rfl k_) ?_
          have kp0 : Keep h0 h0 [] := Keep.refl h0 []
          have kp1 : Keep h0 T5.heap [] := kp0.trans K5 all0
          exact own_retJ X5 hx hret hlk (hb hby d22_50) hF (⟨⟨(((ch - (48 : Int32)).toInt64) * z), rfl, hch ▸ own_pv hf0 hsm hi hc1 hc2 hc3 hc4 hz⟩, N5, kp1⟩) (by decide) (by decide)
    · refine own_k (T' := s₁) (g' := (mkF m 10 #[.val (.ref a), .val (.int i), .val (.int f), .val (.int t), .unset] [])) (fun _ k_ => XS.icmpNo X0.here hx rfl (hb hby d22_7) rfl ((flt hc2).1) k_) ?_
      refine own_k (T' := s₁) (g' := (mkF m 11 #[.val (.ref a), .val (.int i), .val (.int f), .val (.int t), .unset] [(.long (0 : Int64))])) (fun _ k_ => XS.lconst X0.here hx rfl (hb hby d22_10) k_) ?_
      have kp0 : Keep h0 h0 [] := Keep.refl h0 []
      exact own_retJ X0 hx hret hlk (hb hby d22_11) hF (by rw [e0]; exact ⟨⟨(0 : Int64), rfl, hch ▸ own_p0 (Or.inr hc2)⟩, N0, kp0⟩) (by decide) (by decide)
theorem ef_0_JJJIII (m : MethodId) (x0 : Int64) (x1 : Int64) (x2 : Int64) (x3 : Int32) (x4 : Int32) (x5 : Int32)  : entryFrame m #[(.long x0), (.long x1), (.long x2), (.int x3), (.int x4), (.int x5)] maxLocals = mkF m 0 #[.val (.long x0), .second, .val (.long x1), .second, .val (.long x2), .second, .val (.int x3), .val (.int x4), .val (.int x5), .unset, .unset, .unset, .unset, .unset, .unset, .unset, .unset] [] := by first | (simp [entryFrame, mkF, argsToLocals, Value.category, maxLocals]; done) | rfl
theorem pd__28IJJIII_29C : parseMethodDescriptor "(IJJIII)C" = some ⟨[.int, .long, .long, .int, .int, .int], some .char⟩ := by decide +kernel
theorem pd__28_5bC_29V : parseMethodDescriptor "([C)V" = some ⟨[(.array .char)], none⟩ := by decide +kernel
theorem pd__28Ljava_2flang_2fString_3bII_29I : parseMethodDescriptor "(Ljava/lang/String;II)I" = some ⟨[(.object "java/lang/String"), .int, .int], some .int⟩ := by decide +kernel
theorem pd__28_5bCIII_29J : parseMethodDescriptor "([CIII)J" = some ⟨[(.array .char), .int, .int, .int], some .long⟩ := by decide +kernel
set_option maxRecDepth 65536 in
set_option maxHeartbeats 40000000 in
theorem own_law (l : Launch) (Z : State) (a0 : Array Value) (g_COMPACT_STRINGS : Int32) (g_SIOOBE_FORMATTER : Value) (hW : own_W Z a0 g_COMPACT_STRINGS g_SIOOBE_FORMATTER) (p0 : Int64) (p1 : Int64) (p2 : Int64) (p3 : Int32) (p4 : Int32) (p5 : Int32) (h0 : Heap) (O0 : Old Z Z.heap.size h0)  :
    own_Met l Z x code maxLocals ret room_1 #[(.long p0), (.long p1), (.long p2), (.int p3), (.int p4), (.int p5)] h0 (fun v h L => v = some (.int (1 : Int32)) ∧ Fr Z.heap.size L ∧ True) := by
  have hW_ := hW
  obtain ⟨hw, S_g_COMPACT_STRINGS, P_g_COMPACT_STRINGS, R_g_SIOOBE_FORMATTER, S_g_SIOOBE_FORMATTER, S_g__assertionsDisabled, S_g_HI_BYTE_SHIFT, S_g_LO_BYTE_SHIFT⟩ := hW_
  refine own_met (plainFor_of_name pn_com_example_couponforge_couponforge_io_DecimalNumberWholeNumberPinLaw) ?_
  intro p e s m below meth cc_ s₁ Φ hF X0 hx hby hml hZ hown hnm hret hlk e0
  have N0 := Fr.nil Z.heap.size
  refine own_k (T' := s₁) (g' := (mkF m 0 #[.val (.long p0), .second, .val (.long p1), .second, .val (.long p2), .second, .val (.int p3), .val (.int p4), .val (.int p5), .unset, .unset, .unset, .unset, .unset, .unset, .unset, .unset] [])) (fun _ k_ => castTop (ef_0_JJJIII m p0 p1 p2 p3 p4 p5) k_) ?_
  refine own_k (T' := s₁) (g' := (mkF m 2 #[.val (.long p0), .second, .val (.long p1), .second, .val (.long p2), .second, .val (.int p3), .val (.int p4), .val (.int p5), .unset, .unset, .unset, .unset, .unset, .unset, .unset, .unset] [(.int (12 : Int32))])) (fun _ k_ => XS.bipush X0.here hx rfl (hb hby at_0) k_) ?_
  obtain ⟨T1, h1, k1, X1, e1, E1, V1, A1, st1⟩ := own_newarr (pc := 2) (Ls := #[.val (.long p0), .second, .val (.long p1), .second, .val (.long p2), .second, .val (.int p3), .val (.int p4), .val (.int p5), .unset, .unset, .unset, .unset, .unset, .unset, .unset, .unset]) (rest := []) X0 hx hZ (hw _ (List.mem_of_getElem? (i := 0) rfl)) e0 (hb hby at_2) (n := (12 : Int32)) (by decide) (cap := 12) (by decide) (by decide) (by decide) (by decide) (ad := "[C") (by decide)
  obtain ⟨b1, g1⟩ : ∃ z, z = h0.size := ⟨_, rfl⟩
  rw [← g1] at V1 A1 st1
  have O1' := O0.ext E1
  have V1 : Arv Z h1 b1 k1 .char (12 : Int32) [(.int (0 : Int32)), (.int (0 : Int32)), (.int (0 : Int32)), (.int (0 : Int32)), (.int (0 : Int32)), (.int (0 : Int32)), (.int (0 : Int32)), (.int (0 : Int32)), (.int (0 : Int32)), (.int (0 : Int32)), (.int (0 : Int32)), (.int (0 : Int32))] (.int (0 : Int32)) := V1
  refine own_k (T' := T1) (g' := (mkF m 4 #[.val (.long p0), .second, .val (.long p1), .second, .val (.long p2), .second, .val (.int p3), .val (.int p4), .val (.int p5), .unset, .unset, .unset, .unset, .unset, .unset, .unset, .unset] [(.ref b1)])) st1 ?_
  refine own_k (T' := T1) (g' := (mkF m 6 #[.val (.long p0), .second, .val (.long p1), .second, .val (.long p2), .second, .val (.int p3), .val (.int p4), .val (.int p5), .val (.ref b1), .unset, .unset, .unset, .unset, .unset, .unset, .unset] [])) (fun _ k_ => XS.astore X1.here hx rfl (hb hby at_4) rfl rfl (l' := #[.val (.long p0), .second, .val (.long p1), .second, .val (.long p2), .second, .val (.int p3), .val (.int p4), .val (.int p5), .val (.ref b1), .unset, .unset, .unset, .unset, .unset, .unset, .unset]) rfl k_) ?_
  refine own_k (T' := T1) (g' := (mkF m 8 #[.val (.long p0), .second, .val (.long p1), .second, .val (.long p2), .second, .val (.int p3), .val (.int p4), .val (.int p5), .val (.ref b1), .unset, .unset, .unset, .unset, .unset, .unset, .unset] [(.ref b1)])) (fun _ k_ => XS.aload X1.here hx rfl (hb hby at_6) rfl rfl  k_) ?_
  refine own_k (T' := T1) (g' := (mkF m 9 #[.val (.long p0), .second, .val (.long p1), .second, .val (.long p2), .second, .val (.int p3), .val (.int p4), .val (.int p5), .val (.ref b1), .unset, .unset, .unset, .unset, .unset, .unset, .unset] [(.int (0 : Int32)), (.ref b1)])) (fun _ k_ => XS.iconst X1.here hx rfl (hb hby at_8) k_) ?_
  refine own_k (T' := T1) (g' := (mkF m 11 #[.val (.long p0), .second, .val (.long p1), .second, .val (.long p2), .second, .val (.int p3), .val (.int p4), .val (.int p5), .val (.ref b1), .unset, .unset, .unset, .unset, .unset, .unset, .unset] [(.int p3), (.int (0 : Int32)), (.ref b1)])) (fun _ k_ => XS.iload X1.here hx rfl (hb hby at_9) rfl  k_) ?_
  refine own_k (T' := T1) (g' := (mkF m 13 #[.val (.long p0), .second, .val (.long p1), .second, .val (.long p2), .second, .val (.int p3), .val (.int p4), .val (.int p5), .val (.ref b1), .unset, .unset, .unset, .unset, .unset, .unset, .unset] [(.long p2), (.int p3), (.int (0 : Int32)), (.ref b1)])) (fun _ k_ => XS.lload X1.here hx rfl (hb hby at_11) rfl  k_) ?_
  refine own_k (T' := T1) (g' := (mkF m 14 #[.val (.long p0), .second, .val (.long p1), .second, .val (.long p2), .second, .val (.int p3), .val (.int p4), .val (.int p5), .val (.ref b1), .unset, .unset, .unset, .unset, .unset, .unset, .unset] [(.long p0), (.long p2), (.int p3), (.int (0 : Int32)), (.ref b1)])) (fun _ k_ => XS.lloadN X1.here hx rfl (hb hby at_13) rfl  k_) ?_
  refine own_k (T' := T1) (g' := (mkF m 15 #[.val (.long p0), .second, .val (.long p1), .second, .val (.long p2), .second, .val (.int p3), .val (.int p4), .val (.int p5), .val (.ref b1), .unset, .unset, .unset, .unset, .unset, .unset, .unset] [(.int (0 : Int32)), (.long p0), (.long p2), (.int p3), (.int (0 : Int32)), (.ref b1)])) (fun _ k_ => XS.iconst X1.here hx rfl (hb hby at_14) k_) ?_
  refine own_k (T' := T1) (g' := (mkF m 16 #[.val (.long p0), .second, .val (.long p1), .second, .val (.long p2), .second, .val (.int p3), .val (.int p4), .val (.int p5), .val (.ref b1), .unset, .unset, .unset, .unset, .unset, .unset, .unset] [(.int (0 : Int32)), (.int (0 : Int32)), (.long p0), (.long p2), (.int p3), (.int (0 : Int32)), (.ref b1)])) (fun _ k_ => XS.iconst X1.here hx rfl (hb hby at_15) k_) ?_
  refine own_k (T' := T1) (g' := (mkF m 19 #[.val (.long p0), .second, .val (.long p1), .second, .val (.long p2), .second, .val (.int p3), .val (.int p4), .val (.int p5), .val (.ref b1), .unset, .unset, .unset, .unset, .unset, .unset, .unset] [(.int (255 : Int32)), (.int (0 : Int32)), (.int (0 : Int32)), (.long p0), (.long p2), (.int p3), (.int (0 : Int32)), (.ref b1)])) (fun _ k_ => XS.sipush X1.here hx rfl (hb hby at_16) k_) ?_
  refine own_callS X1 hx hZ (y := (⟨"com/example/couponforge/couponforge/io/DecimalNumberWholeNumberPinLaw", "draw", "(IJJIII)C"⟩ : MethodName)) hown (hw _ (List.mem_of_getElem? (i := 1) rfl)) (hw _ (List.mem_of_getElem? (i := 2) rfl)) (hw _ (List.mem_of_getElem? (i := 3) rfl)) (hw _ (List.mem_of_getElem? (i := 4) rfl)) (by decide) (al := [(.int p3), (.long p2), (.long p0), (.int (0 : Int32)), (.int (0 : Int32)), (.int (255 : Int32))]) (rm_draw l Z a0 g_COMPACT_STRINGS g_SIOOBE_FORMATTER hW p3 p2 p0 (0 : Int32) (0 : Int32) (255 : Int32) h1 O1') 2 (by decide) (by decide) e1 (by decide) (by decide) (by rw [hml]; rfl) (lenOf pd__28IJJIII_29C rfl) rfl (rest := [(.int (0 : Int32)), (.ref b1)]) (by show 2 * 0 + _ ≤ _; exact Nat.le_of_eq rfl) (hb hby at_19) ?_
  intro v2 T2 L2 X2 hQ2
  obtain ⟨⟨c0, rfl, r0⟩, Nq2, e2⟩ := hQ2
  have N2 := Fr.app N0 Nq2
  show own_Go p e below Φ T2 (mkF m 22 #[.val (.long p0), .second, .val (.long p1), .second, .val (.long p2), .second, .val (.int p3), .val (.int p4), .val (.int p5), .val (.ref b1), .unset, .unset, .unset, .unset, .unset, .unset, .unset] [(.int c0), (.int (0 : Int32)), (.ref b1)])
  obtain ⟨T3, h3, X3, e3, W3, V3, st3⟩ := own_castore (pc := 22) (Ls := #[.val (.long p0), .second, .val (.long p1), .second, .val (.long p2), .second, .val (.int p3), .val (.int p4), .val (.int p5), .val (.ref b1), .unset, .unset, .unset, .unset, .unset, .unset, .unset]) (rest := []) X2 hx hZ e2 V1 (j := (0 : Int32)) (x := c0) ⟨by decide, by decide⟩ 0 rfl (Nat.le_of_ble_eq_true rfl) (hb hby at_22)
  have V3 : Arv Z h3 b1 k1 .char (12 : Int32) [(.int (nar .char c0)), (.int (0 : Int32)), (.int (0 : Int32)), (.int (0 : Int32)), (.int (0 : Int32)), (.int (0 : Int32)), (.int (0 : Int32)), (.int (0 : Int32)), (.int (0 : Int32)), (.int (0 : Int32)), (.int (0 : Int32)), (.int (0 : Int32))] (.int (0 : Int32)) := V3
  rw [show nar .char c0 = c0 from own_nar_c r0] at V3
  have O3' := O1'.wr W3 (Nat.le_trans O0.2.1 (Nat.le_of_eq g1.symm))
  have N3 := Fr.snoc X3 N2 (Nat.le_trans O0.2.1 (Nat.le_of_eq g1.symm))
  refine own_k (T' := T3) (g' := (mkF m 23 #[.val (.long p0), .second, .val (.long p1), .second, .val (.long p2), .second, .val (.int p3), .val (.int p4), .val (.int p5), .val (.ref b1), .unset, .unset, .unset, .unset, .unset, .unset, .unset] [])) st3 ?_
  refine own_k (T' := T3) (g' := (mkF m 25 #[.val (.long p0), .second, .val (.long p1), .second, .val (.long p2), .second, .val (.int p3), .val (.int p4), .val (.int p5), .val (.ref b1), .unset, .unset, .unset, .unset, .unset, .unset, .unset] [(.ref b1)])) (fun _ k_ => XS.aload X3.here hx rfl (hb hby at_23) rfl rfl  k_) ?_
  refine own_k (T' := T3) (g' := (mkF m 26 #[.val (.long p0), .second, .val (.long p1), .second, .val (.long p2), .second, .val (.int p3), .val (.int p4), .val (.int p5), .val (.ref b1), .unset, .unset, .unset, .unset, .unset, .unset, .unset] [(.int (1 : Int32)), (.ref b1)])) (fun _ k_ => XS.iconst X3.here hx rfl (hb hby at_25) k_) ?_
  refine own_k (T' := T3) (g' := (mkF m 28 #[.val (.long p0), .second, .val (.long p1), .second, .val (.long p2), .second, .val (.int p3), .val (.int p4), .val (.int p5), .val (.ref b1), .unset, .unset, .unset, .unset, .unset, .unset, .unset] [(.int p3), (.int (1 : Int32)), (.ref b1)])) (fun _ k_ => XS.iload X3.here hx rfl (hb hby at_26) rfl  k_) ?_
  refine own_k (T' := T3) (g' := (mkF m 30 #[.val (.long p0), .second, .val (.long p1), .second, .val (.long p2), .second, .val (.int p3), .val (.int p4), .val (.int p5), .val (.ref b1), .unset, .unset, .unset, .unset, .unset, .unset, .unset] [(.long p2), (.int p3), (.int (1 : Int32)), (.ref b1)])) (fun _ k_ => XS.lload X3.here hx rfl (hb hby at_28) rfl  k_) ?_
  refine own_k (T' := T3) (g' := (mkF m 31 #[.val (.long p0), .second, .val (.long p1), .second, .val (.long p2), .second, .val (.int p3), .val (.int p4), .val (.int p5), .val (.ref b1), .unset, .unset, .unset, .unset, .unset, .unset, .unset] [(.long p0), (.long p2), (.int p3), (.int (1 : Int32)), (.ref b1)])) (fun _ k_ => XS.lloadN X3.here hx rfl (hb hby at_30) rfl  k_) ?_
  refine own_k (T' := T3) (g' := (mkF m 32 #[.val (.long p0), .second, .val (.long p1), .second, .val (.long p2), .second, .val (.int p3), .val (.int p4), .val (.int p5), .val (.ref b1), .unset, .unset, .unset, .unset, .unset, .unset, .unset] [(.int (1 : Int32)), (.long p0), (.long p2), (.int p3), (.int (1 : Int32)), (.ref b1)])) (fun _ k_ => XS.iconst X3.here hx rfl (hb hby at_31) k_) ?_
  refine own_k (T' := T3) (g' := (mkF m 34 #[.val (.long p0), .second, .val (.long p1), .second, .val (.long p2), .second, .val (.int p3), .val (.int p4), .val (.int p5), .val (.ref b1), .unset, .unset, .unset, .unset, .unset, .unset, .unset] [(.int (8 : Int32)), (.int (1 : Int32)), (.long p0), (.long p2), (.int p3), (.int (1 : Int32)), (.ref b1)])) (fun _ k_ => XS.bipush X3.here hx rfl (hb hby at_32) k_) ?_
  refine own_k (T' := T3) (g' := (mkF m 37 #[.val (.long p0), .second, .val (.long p1), .second, .val (.long p2), .second, .val (.int p3), .val (.int p4), .val (.int p5), .val (.ref b1), .unset, .unset, .unset, .unset, .unset, .unset, .unset] [(.int (255 : Int32)), (.int (8 : Int32)), (.int (1 : Int32)), (.long p0), (.long p2), (.int p3), (.int (1 : Int32)), (.ref b1)])) (fun _ k_ => XS.sipush X3.here hx rfl (hb hby at_34) k_) ?_
  refine own_callS X3 hx hZ (y := (⟨"com/example/couponforge/couponforge/io/DecimalNumberWholeNumberPinLaw", "draw", "(IJJIII)C"⟩ : MethodName)) hown (hw _ (List.mem_of_getElem? (i := 1) rfl)) (hw _ (List.mem_of_getElem? (i := 2) rfl)) (hw _ (List.mem_of_getElem? (i := 3) rfl)) (hw _ (List.mem_of_getElem? (i := 4) rfl)) (by decide) (al := [(.int p3), (.long p2), (.long p0), (.int (1 : Int32)), (.int (8 : Int32)), (.int (255 : Int32))]) (rm_draw l Z a0 g_COMPACT_STRINGS g_SIOOBE_FORMATTER hW p3 p2 p0 (1 : Int32) (8 : Int32) (255 : Int32) h3 O3') 2 (by decide) (by decide) e3 (by decide) (by decide) (by rw [hml]; rfl) (lenOf pd__28IJJIII_29C rfl) rfl (rest := [(.int (1 : Int32)), (.ref b1)]) (by show 2 * 0 + _ ≤ _; exact Nat.le_of_eq rfl) (hb hby at_37) ?_
  intro v4 T4 L4 X4 hQ4
  obtain ⟨⟨c1, rfl, r1⟩, Nq4, e4⟩ := hQ4
  have N4 := Fr.app N3 Nq4
  show own_Go p e below Φ T4 (mkF m 40 #[.val (.long p0), .second, .val (.long p1), .second, .val (.long p2), .second, .val (.int p3), .val (.int p4), .val (.int p5), .val (.ref b1), .unset, .unset, .unset, .unset, .unset, .unset, .unset] [(.int c1), (.int (1 : Int32)), (.ref b1)])
  obtain ⟨T5, h5, X5, e5, W5, V5, st5⟩ := own_castore (pc := 40) (Ls := #[.val (.long p0), .second, .val (.long p1), .second, .val (.long p2), .second, .val (.int p3), .val (.int p4), .val (.int p5), .val (.ref b1), .unset, .unset, .unset, .unset, .unset, .unset, .unset]) (rest := []) X4 hx hZ e4 V3 (j := (1 : Int32)) (x := c1) ⟨by decide, by decide⟩ 1 rfl (Nat.le_of_ble_eq_true rfl) (hb hby at_40)
  have V5 : Arv Z h5 b1 k1 .char (12 : Int32) [(.int c0), (.int (nar .char c1)), (.int (0 : Int32)), (.int (0 : Int32)), (.int (0 : Int32)), (.int (0 : Int32)), (.int (0 : Int32)), (.int (0 : Int32)), (.int (0 : Int32)), (.int (0 : Int32)), (.int (0 : Int32)), (.int (0 : Int32))] (.int (0 : Int32)) := V5
  rw [show nar .char c1 = c1 from own_nar_c r1] at V5
  have O5' := O3'.wr W5 (Nat.le_trans O0.2.1 (Nat.le_of_eq g1.symm))
  have N5 := Fr.snoc X5 N4 (Nat.le_trans O0.2.1 (Nat.le_of_eq g1.symm))
  refine own_k (T' := T5) (g' := (mkF m 41 #[.val (.long p0), .second, .val (.long p1), .second, .val (.long p2), .second, .val (.int p3), .val (.int p4), .val (.int p5), .val (.ref b1), .unset, .unset, .unset, .unset, .unset, .unset, .unset] [])) st5 ?_
  refine own_k (T' := T5) (g' := (mkF m 43 #[.val (.long p0), .second, .val (.long p1), .second, .val (.long p2), .second, .val (.int p3), .val (.int p4), .val (.int p5), .val (.ref b1), .unset, .unset, .unset, .unset, .unset, .unset, .unset] [(.ref b1)])) (fun _ k_ => XS.aload X5.here hx rfl (hb hby at_41) rfl rfl  k_) ?_
  refine own_k (T' := T5) (g' := (mkF m 44 #[.val (.long p0), .second, .val (.long p1), .second, .val (.long p2), .second, .val (.int p3), .val (.int p4), .val (.int p5), .val (.ref b1), .unset, .unset, .unset, .unset, .unset, .unset, .unset] [(.int (2 : Int32)), (.ref b1)])) (fun _ k_ => XS.iconst X5.here hx rfl (hb hby at_43) k_) ?_
  refine own_k (T' := T5) (g' := (mkF m 46 #[.val (.long p0), .second, .val (.long p1), .second, .val (.long p2), .second, .val (.int p3), .val (.int p4), .val (.int p5), .val (.ref b1), .unset, .unset, .unset, .unset, .unset, .unset, .unset] [(.int p3), (.int (2 : Int32)), (.ref b1)])) (fun _ k_ => XS.iload X5.here hx rfl (hb hby at_44) rfl  k_) ?_
  refine own_k (T' := T5) (g' := (mkF m 48 #[.val (.long p0), .second, .val (.long p1), .second, .val (.long p2), .second, .val (.int p3), .val (.int p4), .val (.int p5), .val (.ref b1), .unset, .unset, .unset, .unset, .unset, .unset, .unset] [(.long p2), (.int p3), (.int (2 : Int32)), (.ref b1)])) (fun _ k_ => XS.lload X5.here hx rfl (hb hby at_46) rfl  k_) ?_
  refine own_k (T' := T5) (g' := (mkF m 49 #[.val (.long p0), .second, .val (.long p1), .second, .val (.long p2), .second, .val (.int p3), .val (.int p4), .val (.int p5), .val (.ref b1), .unset, .unset, .unset, .unset, .unset, .unset, .unset] [(.long p0), (.long p2), (.int p3), (.int (2 : Int32)), (.ref b1)])) (fun _ k_ => XS.lloadN X5.here hx rfl (hb hby at_48) rfl  k_) ?_
  refine own_k (T' := T5) (g' := (mkF m 50 #[.val (.long p0), .second, .val (.long p1), .second, .val (.long p2), .second, .val (.int p3), .val (.int p4), .val (.int p5), .val (.ref b1), .unset, .unset, .unset, .unset, .unset, .unset, .unset] [(.int (2 : Int32)), (.long p0), (.long p2), (.int p3), (.int (2 : Int32)), (.ref b1)])) (fun _ k_ => XS.iconst X5.here hx rfl (hb hby at_49) k_) ?_
  refine own_k (T' := T5) (g' := (mkF m 52 #[.val (.long p0), .second, .val (.long p1), .second, .val (.long p2), .second, .val (.int p3), .val (.int p4), .val (.int p5), .val (.ref b1), .unset, .unset, .unset, .unset, .unset, .unset, .unset] [(.int (16 : Int32)), (.int (2 : Int32)), (.long p0), (.long p2), (.int p3), (.int (2 : Int32)), (.ref b1)])) (fun _ k_ => XS.bipush X5.here hx rfl (hb hby at_50) k_) ?_
  refine own_k (T' := T5) (g' := (mkF m 55 #[.val (.long p0), .second, .val (.long p1), .second, .val (.long p2), .second, .val (.int p3), .val (.int p4), .val (.int p5), .val (.ref b1), .unset, .unset, .unset, .unset, .unset, .unset, .unset] [(.int (255 : Int32)), (.int (16 : Int32)), (.int (2 : Int32)), (.long p0), (.long p2), (.int p3), (.int (2 : Int32)), (.ref b1)])) (fun _ k_ => XS.sipush X5.here hx rfl (hb hby at_52) k_) ?_
  refine own_callS X5 hx hZ (y := (⟨"com/example/couponforge/couponforge/io/DecimalNumberWholeNumberPinLaw", "draw", "(IJJIII)C"⟩ : MethodName)) hown (hw _ (List.mem_of_getElem? (i := 1) rfl)) (hw _ (List.mem_of_getElem? (i := 2) rfl)) (hw _ (List.mem_of_getElem? (i := 3) rfl)) (hw _ (List.mem_of_getElem? (i := 4) rfl)) (by decide) (al := [(.int p3), (.long p2), (.long p0), (.int (2 : Int32)), (.int (16 : Int32)), (.int (255 : Int32))]) (rm_draw l Z a0 g_COMPACT_STRINGS g_SIOOBE_FORMATTER hW p3 p2 p0 (2 : Int32) (16 : Int32) (255 : Int32) h5 O5') 2 (by decide) (by decide) e5 (by decide) (by decide) (by rw [hml]; rfl) (lenOf pd__28IJJIII_29C rfl) rfl (rest := [(.int (2 : Int32)), (.ref b1)]) (by show 2 * 0 + _ ≤ _; exact Nat.le_of_eq rfl) (hb hby at_55) ?_
  intro v6 T6 L6 X6 hQ6
  obtain ⟨⟨c2, rfl, r2⟩, Nq6, e6⟩ := hQ6
  have N6 := Fr.app N5 Nq6
  show own_Go p e below Φ T6 (mkF m 58 #[.val (.long p0), .second, .val (.long p1), .second, .val (.long p2), .second, .val (.int p3), .val (.int p4), .val (.int p5), .val (.ref b1), .unset, .unset, .unset, .unset, .unset, .unset, .unset] [(.int c2), (.int (2 : Int32)), (.ref b1)])
  obtain ⟨T7, h7, X7, e7, W7, V7, st7⟩ := own_castore (pc := 58) (Ls := #[.val (.long p0), .second, .val (.long p1), .second, .val (.long p2), .second, .val (.int p3), .val (.int p4), .val (.int p5), .val (.ref b1), .unset, .unset, .unset, .unset, .unset, .unset, .unset]) (rest := []) X6 hx hZ e6 V5 (j := (2 : Int32)) (x := c2) ⟨by decide, by decide⟩ 2 rfl (Nat.le_of_ble_eq_true rfl) (hb hby at_58)
  have V7 : Arv Z h7 b1 k1 .char (12 : Int32) [(.int c0), (.int c1), (.int (nar .char c2)), (.int (0 : Int32)), (.int (0 : Int32)), (.int (0 : Int32)), (.int (0 : Int32)), (.int (0 : Int32)), (.int (0 : Int32)), (.int (0 : Int32)), (.int (0 : Int32)), (.int (0 : Int32))] (.int (0 : Int32)) := V7
  rw [show nar .char c2 = c2 from own_nar_c r2] at V7
  have O7' := O5'.wr W7 (Nat.le_trans O0.2.1 (Nat.le_of_eq g1.symm))
  have N7 := Fr.snoc X7 N6 (Nat.le_trans O0.2.1 (Nat.le_of_eq g1.symm))
  refine own_k (T' := T7) (g' := (mkF m 59 #[.val (.long p0), .second, .val (.long p1), .second, .val (.long p2), .second, .val (.int p3), .val (.int p4), .val (.int p5), .val (.ref b1), .unset, .unset, .unset, .unset, .unset, .unset, .unset] [])) st7 ?_
  refine own_k (T' := T7) (g' := (mkF m 61 #[.val (.long p0), .second, .val (.long p1), .second, .val (.long p2), .second, .val (.int p3), .val (.int p4), .val (.int p5), .val (.ref b1), .unset, .unset, .unset, .unset, .unset, .unset, .unset] [(.ref b1)])) (fun _ k_ => XS.aload X7.here hx rfl (hb hby at_59) rfl rfl  k_) ?_
  refine own_k (T' := T7) (g' := (mkF m 62 #[.val (.long p0), .second, .val (.long p1), .second, .val (.long p2), .second, .val (.int p3), .val (.int p4), .val (.int p5), .val (.ref b1), .unset, .unset, .unset, .unset, .unset, .unset, .unset] [(.int (3 : Int32)), (.ref b1)])) (fun _ k_ => XS.iconst X7.here hx rfl (hb hby at_61) k_) ?_
  refine own_k (T' := T7) (g' := (mkF m 64 #[.val (.long p0), .second, .val (.long p1), .second, .val (.long p2), .second, .val (.int p3), .val (.int p4), .val (.int p5), .val (.ref b1), .unset, .unset, .unset, .unset, .unset, .unset, .unset] [(.int p3), (.int (3 : Int32)), (.ref b1)])) (fun _ k_ => XS.iload X7.here hx rfl (hb hby at_62) rfl  k_) ?_
  refine own_k (T' := T7) (g' := (mkF m 66 #[.val (.long p0), .second, .val (.long p1), .second, .val (.long p2), .second, .val (.int p3), .val (.int p4), .val (.int p5), .val (.ref b1), .unset, .unset, .unset, .unset, .unset, .unset, .unset] [(.long p2), (.int p3), (.int (3 : Int32)), (.ref b1)])) (fun _ k_ => XS.lload X7.here hx rfl (hb hby at_64) rfl  k_) ?_
  refine own_k (T' := T7) (g' := (mkF m 67 #[.val (.long p0), .second, .val (.long p1), .second, .val (.long p2), .second, .val (.int p3), .val (.int p4), .val (.int p5), .val (.ref b1), .unset, .unset, .unset, .unset, .unset, .unset, .unset] [(.long p0), (.long p2), (.int p3), (.int (3 : Int32)), (.ref b1)])) (fun _ k_ => XS.lloadN X7.here hx rfl (hb hby at_66) rfl  k_) ?_
  refine own_k (T' := T7) (g' := (mkF m 68 #[.val (.long p0), .second, .val (.long p1), .second, .val (.long p2), .second, .val (.int p3), .val (.int p4), .val (.int p5), .val (.ref b1), .unset, .unset, .unset, .unset, .unset, .unset, .unset] [(.int (3 : Int32)), (.long p0), (.long p2), (.int p3), (.int (3 : Int32)), (.ref b1)])) (fun _ k_ => XS.iconst X7.here hx rfl (hb hby at_67) k_) ?_
  refine own_k (T' := T7) (g' := (mkF m 70 #[.val (.long p0), .second, .val (.long p1), .second, .val (.long p2), .second, .val (.int p3), .val (.int p4), .val (.int p5), .val (.ref b1), .unset, .unset, .unset, .unset, .unset, .unset, .unset] [(.int (24 : Int32)), (.int (3 : Int32)), (.long p0), (.long p2), (.int p3), (.int (3 : Int32)), (.ref b1)])) (fun _ k_ => XS.bipush X7.here hx rfl (hb hby at_68) k_) ?_
  refine own_k (T' := T7) (g' := (mkF m 73 #[.val (.long p0), .second, .val (.long p1), .second, .val (.long p2), .second, .val (.int p3), .val (.int p4), .val (.int p5), .val (.ref b1), .unset, .unset, .unset, .unset, .unset, .unset, .unset] [(.int (255 : Int32)), (.int (24 : Int32)), (.int (3 : Int32)), (.long p0), (.long p2), (.int p3), (.int (3 : Int32)), (.ref b1)])) (fun _ k_ => XS.sipush X7.here hx rfl (hb hby at_70) k_) ?_
  refine own_callS X7 hx hZ (y := (⟨"com/example/couponforge/couponforge/io/DecimalNumberWholeNumberPinLaw", "draw", "(IJJIII)C"⟩ : MethodName)) hown (hw _ (List.mem_of_getElem? (i := 1) rfl)) (hw _ (List.mem_of_getElem? (i := 2) rfl)) (hw _ (List.mem_of_getElem? (i := 3) rfl)) (hw _ (List.mem_of_getElem? (i := 4) rfl)) (by decide) (al := [(.int p3), (.long p2), (.long p0), (.int (3 : Int32)), (.int (24 : Int32)), (.int (255 : Int32))]) (rm_draw l Z a0 g_COMPACT_STRINGS g_SIOOBE_FORMATTER hW p3 p2 p0 (3 : Int32) (24 : Int32) (255 : Int32) h7 O7') 2 (by decide) (by decide) e7 (by decide) (by decide) (by rw [hml]; rfl) (lenOf pd__28IJJIII_29C rfl) rfl (rest := [(.int (3 : Int32)), (.ref b1)]) (by show 2 * 0 + _ ≤ _; exact Nat.le_of_eq rfl) (hb hby at_73) ?_
  intro v8 T8 L8 X8 hQ8
  obtain ⟨⟨c3, rfl, r3⟩, Nq8, e8⟩ := hQ8
  have N8 := Fr.app N7 Nq8
  show own_Go p e below Φ T8 (mkF m 76 #[.val (.long p0), .second, .val (.long p1), .second, .val (.long p2), .second, .val (.int p3), .val (.int p4), .val (.int p5), .val (.ref b1), .unset, .unset, .unset, .unset, .unset, .unset, .unset] [(.int c3), (.int (3 : Int32)), (.ref b1)])
  obtain ⟨T9, h9, X9, e9, W9, V9, st9⟩ := own_castore (pc := 76) (Ls := #[.val (.long p0), .second, .val (.long p1), .second, .val (.long p2), .second, .val (.int p3), .val (.int p4), .val (.int p5), .val (.ref b1), .unset, .unset, .unset, .unset, .unset, .unset, .unset]) (rest := []) X8 hx hZ e8 V7 (j := (3 : Int32)) (x := c3) ⟨by decide, by decide⟩ 3 rfl (Nat.le_of_ble_eq_true rfl) (hb hby at_76)
  have V9 : Arv Z h9 b1 k1 .char (12 : Int32) [(.int c0), (.int c1), (.int c2), (.int (nar .char c3)), (.int (0 : Int32)), (.int (0 : Int32)), (.int (0 : Int32)), (.int (0 : Int32)), (.int (0 : Int32)), (.int (0 : Int32)), (.int (0 : Int32)), (.int (0 : Int32))] (.int (0 : Int32)) := V9
  rw [show nar .char c3 = c3 from own_nar_c r3] at V9
  have O9' := O7'.wr W9 (Nat.le_trans O0.2.1 (Nat.le_of_eq g1.symm))
  have N9 := Fr.snoc X9 N8 (Nat.le_trans O0.2.1 (Nat.le_of_eq g1.symm))
  refine own_k (T' := T9) (g' := (mkF m 77 #[.val (.long p0), .second, .val (.long p1), .second, .val (.long p2), .second, .val (.int p3), .val (.int p4), .val (.int p5), .val (.ref b1), .unset, .unset, .unset, .unset, .unset, .unset, .unset] [])) st9 ?_
  refine own_k (T' := T9) (g' := (mkF m 79 #[.val (.long p0), .second, .val (.long p1), .second, .val (.long p2), .second, .val (.int p3), .val (.int p4), .val (.int p5), .val (.ref b1), .unset, .unset, .unset, .unset, .unset, .unset, .unset] [(.ref b1)])) (fun _ k_ => XS.aload X9.here hx rfl (hb hby at_77) rfl rfl  k_) ?_
  refine own_k (T' := T9) (g' := (mkF m 80 #[.val (.long p0), .second, .val (.long p1), .second, .val (.long p2), .second, .val (.int p3), .val (.int p4), .val (.int p5), .val (.ref b1), .unset, .unset, .unset, .unset, .unset, .unset, .unset] [(.int (4 : Int32)), (.ref b1)])) (fun _ k_ => XS.iconst X9.here hx rfl (hb hby at_79) k_) ?_
  refine own_k (T' := T9) (g' := (mkF m 82 #[.val (.long p0), .second, .val (.long p1), .second, .val (.long p2), .second, .val (.int p3), .val (.int p4), .val (.int p5), .val (.ref b1), .unset, .unset, .unset, .unset, .unset, .unset, .unset] [(.int p3), (.int (4 : Int32)), (.ref b1)])) (fun _ k_ => XS.iload X9.here hx rfl (hb hby at_80) rfl  k_) ?_
  refine own_k (T' := T9) (g' := (mkF m 84 #[.val (.long p0), .second, .val (.long p1), .second, .val (.long p2), .second, .val (.int p3), .val (.int p4), .val (.int p5), .val (.ref b1), .unset, .unset, .unset, .unset, .unset, .unset, .unset] [(.long p2), (.int p3), (.int (4 : Int32)), (.ref b1)])) (fun _ k_ => XS.lload X9.here hx rfl (hb hby at_82) rfl  k_) ?_
  refine own_k (T' := T9) (g' := (mkF m 85 #[.val (.long p0), .second, .val (.long p1), .second, .val (.long p2), .second, .val (.int p3), .val (.int p4), .val (.int p5), .val (.ref b1), .unset, .unset, .unset, .unset, .unset, .unset, .unset] [(.long p0), (.long p2), (.int p3), (.int (4 : Int32)), (.ref b1)])) (fun _ k_ => XS.lloadN X9.here hx rfl (hb hby at_84) rfl  k_) ?_
  refine own_k (T' := T9) (g' := (mkF m 86 #[.val (.long p0), .second, .val (.long p1), .second, .val (.long p2), .second, .val (.int p3), .val (.int p4), .val (.int p5), .val (.ref b1), .unset, .unset, .unset, .unset, .unset, .unset, .unset] [(.int (4 : Int32)), (.long p0), (.long p2), (.int p3), (.int (4 : Int32)), (.ref b1)])) (fun _ k_ => XS.iconst X9.here hx rfl (hb hby at_85) k_) ?_
  refine own_k (T' := T9) (g' := (mkF m 88 #[.val (.long p0), .second, .val (.long p1), .second, .val (.long p2), .second, .val (.int p3), .val (.int p4), .val (.int p5), .val (.ref b1), .unset, .unset, .unset, .unset, .unset, .unset, .unset] [(.int (32 : Int32)), (.int (4 : Int32)), (.long p0), (.long p2), (.int p3), (.int (4 : Int32)), (.ref b1)])) (fun _ k_ => XS.bipush X9.here hx rfl (hb hby at_86) k_) ?_
  refine own_k (T' := T9) (g' := (mkF m 91 #[.val (.long p0), .second, .val (.long p1), .second, .val (.long p2), .second, .val (.int p3), .val (.int p4), .val (.int p5), .val (.ref b1), .unset, .unset, .unset, .unset, .unset, .unset, .unset] [(.int (255 : Int32)), (.int (32 : Int32)), (.int (4 : Int32)), (.long p0), (.long p2), (.int p3), (.int (4 : Int32)), (.ref b1)])) (fun _ k_ => XS.sipush X9.here hx rfl (hb hby at_88) k_) ?_
  refine own_callS X9 hx hZ (y := (⟨"com/example/couponforge/couponforge/io/DecimalNumberWholeNumberPinLaw", "draw", "(IJJIII)C"⟩ : MethodName)) hown (hw _ (List.mem_of_getElem? (i := 1) rfl)) (hw _ (List.mem_of_getElem? (i := 2) rfl)) (hw _ (List.mem_of_getElem? (i := 3) rfl)) (hw _ (List.mem_of_getElem? (i := 4) rfl)) (by decide) (al := [(.int p3), (.long p2), (.long p0), (.int (4 : Int32)), (.int (32 : Int32)), (.int (255 : Int32))]) (rm_draw l Z a0 g_COMPACT_STRINGS g_SIOOBE_FORMATTER hW p3 p2 p0 (4 : Int32) (32 : Int32) (255 : Int32) h9 O9') 2 (by decide) (by decide) e9 (by decide) (by decide) (by rw [hml]; rfl) (lenOf pd__28IJJIII_29C rfl) rfl (rest := [(.int (4 : Int32)), (.ref b1)]) (by show 2 * 0 + _ ≤ _; exact Nat.le_of_eq rfl) (hb hby at_91) ?_
  intro v10 T10 L10 X10 hQ10
  obtain ⟨⟨c4, rfl, r4⟩, Nq10, e10⟩ := hQ10
  have N10 := Fr.app N9 Nq10
  show own_Go p e below Φ T10 (mkF m 94 #[.val (.long p0), .second, .val (.long p1), .second, .val (.long p2), .second, .val (.int p3), .val (.int p4), .val (.int p5), .val (.ref b1), .unset, .unset, .unset, .unset, .unset, .unset, .unset] [(.int c4), (.int (4 : Int32)), (.ref b1)])
  obtain ⟨T11, h11, X11, e11, W11, V11, st11⟩ := own_castore (pc := 94) (Ls := #[.val (.long p0), .second, .val (.long p1), .second, .val (.long p2), .second, .val (.int p3), .val (.int p4), .val (.int p5), .val (.ref b1), .unset, .unset, .unset, .unset, .unset, .unset, .unset]) (rest := []) X10 hx hZ e10 V9 (j := (4 : Int32)) (x := c4) ⟨by decide, by decide⟩ 4 rfl (Nat.le_of_ble_eq_true rfl) (hb hby at_94)
  have V11 : Arv Z h11 b1 k1 .char (12 : Int32) [(.int c0), (.int c1), (.int c2), (.int c3), (.int (nar .char c4)), (.int (0 : Int32)), (.int (0 : Int32)), (.int (0 : Int32)), (.int (0 : Int32)), (.int (0 : Int32)), (.int (0 : Int32)), (.int (0 : Int32))] (.int (0 : Int32)) := V11
  rw [show nar .char c4 = c4 from own_nar_c r4] at V11
  have O11' := O9'.wr W11 (Nat.le_trans O0.2.1 (Nat.le_of_eq g1.symm))
  have N11 := Fr.snoc X11 N10 (Nat.le_trans O0.2.1 (Nat.le_of_eq g1.symm))
  refine own_k (T' := T11) (g' := (mkF m 95 #[.val (.long p0), .second, .val (.long p1), .second, .val (.long p2), .second, .val (.int p3), .val (.int p4), .val (.int p5), .val (.ref b1), .unset, .unset, .unset, .unset, .unset, .unset, .unset] [])) st11 ?_
  refine own_k (T' := T11) (g' := (mkF m 97 #[.val (.long p0), .second, .val (.long p1), .second, .val (.long p2), .second, .val (.int p3), .val (.int p4), .val (.int p5), .val (.ref b1), .unset, .unset, .unset, .unset, .unset, .unset, .unset] [(.ref b1)])) (fun _ k_ => XS.aload X11.here hx rfl (hb hby at_95) rfl rfl  k_) ?_
  refine own_k (T' := T11) (g' := (mkF m 98 #[.val (.long p0), .second, .val (.long p1), .second, .val (.long p2), .second, .val (.int p3), .val (.int p4), .val (.int p5), .val (.ref b1), .unset, .unset, .unset, .unset, .unset, .unset, .unset] [(.int (5 : Int32)), (.ref b1)])) (fun _ k_ => XS.iconst X11.here hx rfl (hb hby at_97) k_) ?_
  refine own_k (T' := T11) (g' := (mkF m 100 #[.val (.long p0), .second, .val (.long p1), .second, .val (.long p2), .second, .val (.int p3), .val (.int p4), .val (.int p5), .val (.ref b1), .unset, .unset, .unset, .unset, .unset, .unset, .unset] [(.int p3), (.int (5 : Int32)), (.ref b1)])) (fun _ k_ => XS.iload X11.here hx rfl (hb hby at_98) rfl  k_) ?_
  refine own_k (T' := T11) (g' := (mkF m 102 #[.val (.long p0), .second, .val (.long p1), .second, .val (.long p2), .second, .val (.int p3), .val (.int p4), .val (.int p5), .val (.ref b1), .unset, .unset, .unset, .unset, .unset, .unset, .unset] [(.long p2), (.int p3), (.int (5 : Int32)), (.ref b1)])) (fun _ k_ => XS.lload X11.here hx rfl (hb hby at_100) rfl  k_) ?_
  refine own_k (T' := T11) (g' := (mkF m 103 #[.val (.long p0), .second, .val (.long p1), .second, .val (.long p2), .second, .val (.int p3), .val (.int p4), .val (.int p5), .val (.ref b1), .unset, .unset, .unset, .unset, .unset, .unset, .unset] [(.long p0), (.long p2), (.int p3), (.int (5 : Int32)), (.ref b1)])) (fun _ k_ => XS.lloadN X11.here hx rfl (hb hby at_102) rfl  k_) ?_
  refine own_k (T' := T11) (g' := (mkF m 104 #[.val (.long p0), .second, .val (.long p1), .second, .val (.long p2), .second, .val (.int p3), .val (.int p4), .val (.int p5), .val (.ref b1), .unset, .unset, .unset, .unset, .unset, .unset, .unset] [(.int (5 : Int32)), (.long p0), (.long p2), (.int p3), (.int (5 : Int32)), (.ref b1)])) (fun _ k_ => XS.iconst X11.here hx rfl (hb hby at_103) k_) ?_
  refine own_k (T' := T11) (g' := (mkF m 106 #[.val (.long p0), .second, .val (.long p1), .second, .val (.long p2), .second, .val (.int p3), .val (.int p4), .val (.int p5), .val (.ref b1), .unset, .unset, .unset, .unset, .unset, .unset, .unset] [(.int (40 : Int32)), (.int (5 : Int32)), (.long p0), (.long p2), (.int p3), (.int (5 : Int32)), (.ref b1)])) (fun _ k_ => XS.bipush X11.here hx rfl (hb hby at_104) k_) ?_
  refine own_k (T' := T11) (g' := (mkF m 109 #[.val (.long p0), .second, .val (.long p1), .second, .val (.long p2), .second, .val (.int p3), .val (.int p4), .val (.int p5), .val (.ref b1), .unset, .unset, .unset, .unset, .unset, .unset, .unset] [(.int (255 : Int32)), (.int (40 : Int32)), (.int (5 : Int32)), (.long p0), (.long p2), (.int p3), (.int (5 : Int32)), (.ref b1)])) (fun _ k_ => XS.sipush X11.here hx rfl (hb hby at_106) k_) ?_
  refine own_callS X11 hx hZ (y := (⟨"com/example/couponforge/couponforge/io/DecimalNumberWholeNumberPinLaw", "draw", "(IJJIII)C"⟩ : MethodName)) hown (hw _ (List.mem_of_getElem? (i := 1) rfl)) (hw _ (List.mem_of_getElem? (i := 2) rfl)) (hw _ (List.mem_of_getElem? (i := 3) rfl)) (hw _ (List.mem_of_getElem? (i := 4) rfl)) (by decide) (al := [(.int p3), (.long p2), (.long p0), (.int (5 : Int32)), (.int (40 : Int32)), (.int (255 : Int32))]) (rm_draw l Z a0 g_COMPACT_STRINGS g_SIOOBE_FORMATTER hW p3 p2 p0 (5 : Int32) (40 : Int32) (255 : Int32) h11 O11') 2 (by decide) (by decide) e11 (by decide) (by decide) (by rw [hml]; rfl) (lenOf pd__28IJJIII_29C rfl) rfl (rest := [(.int (5 : Int32)), (.ref b1)]) (by show 2 * 0 + _ ≤ _; exact Nat.le_of_eq rfl) (hb hby at_109) ?_
  intro v12 T12 L12 X12 hQ12
  obtain ⟨⟨c5, rfl, r5⟩, Nq12, e12⟩ := hQ12
  have N12 := Fr.app N11 Nq12
  show own_Go p e below Φ T12 (mkF m 112 #[.val (.long p0), .second, .val (.long p1), .second, .val (.long p2), .second, .val (.int p3), .val (.int p4), .val (.int p5), .val (.ref b1), .unset, .unset, .unset, .unset, .unset, .unset, .unset] [(.int c5), (.int (5 : Int32)), (.ref b1)])
  obtain ⟨T13, h13, X13, e13, W13, V13, st13⟩ := own_castore (pc := 112) (Ls := #[.val (.long p0), .second, .val (.long p1), .second, .val (.long p2), .second, .val (.int p3), .val (.int p4), .val (.int p5), .val (.ref b1), .unset, .unset, .unset, .unset, .unset, .unset, .unset]) (rest := []) X12 hx hZ e12 V11 (j := (5 : Int32)) (x := c5) ⟨by decide, by decide⟩ 5 rfl (Nat.le_of_ble_eq_true rfl) (hb hby at_112)
  have V13 : Arv Z h13 b1 k1 .char (12 : Int32) [(.int c0), (.int c1), (.int c2), (.int c3), (.int c4), (.int (nar .char c5)), (.int (0 : Int32)), (.int (0 : Int32)), (.int (0 : Int32)), (.int (0 : Int32)), (.int (0 : Int32)), (.int (0 : Int32))] (.int (0 : Int32)) := V13
  rw [show nar .char c5 = c5 from own_nar_c r5] at V13
  have O13' := O11'.wr W13 (Nat.le_trans O0.2.1 (Nat.le_of_eq g1.symm))
  have N13 := Fr.snoc X13 N12 (Nat.le_trans O0.2.1 (Nat.le_of_eq g1.symm))
  refine own_k (T' := T13) (g' := (mkF m 113 #[.val (.long p0), .second, .val (.long p1), .second, .val (.long p2), .second, .val (.int p3), .val (.int p4), .val (.int p5), .val (.ref b1), .unset, .unset, .unset, .unset, .unset, .unset, .unset] [])) st13 ?_
  refine own_k (T' := T13) (g' := (mkF m 115 #[.val (.long p0), .second, .val (.long p1), .second, .val (.long p2), .second, .val (.int p3), .val (.int p4), .val (.int p5), .val (.ref b1), .unset, .unset, .unset, .unset, .unset, .unset, .unset] [(.ref b1)])) (fun _ k_ => XS.aload X13.here hx rfl (hb hby at_113) rfl rfl  k_) ?_
  refine own_k (T' := T13) (g' := (mkF m 117 #[.val (.long p0), .second, .val (.long p1), .second, .val (.long p2), .second, .val (.int p3), .val (.int p4), .val (.int p5), .val (.ref b1), .unset, .unset, .unset, .unset, .unset, .unset, .unset] [(.int (6 : Int32)), (.ref b1)])) (fun _ k_ => XS.bipush X13.here hx rfl (hb hby at_115) k_) ?_
  refine own_k (T' := T13) (g' := (mkF m 119 #[.val (.long p0), .second, .val (.long p1), .second, .val (.long p2), .second, .val (.int p3), .val (.int p4), .val (.int p5), .val (.ref b1), .unset, .unset, .unset, .unset, .unset, .unset, .unset] [(.int p3), (.int (6 : Int32)), (.ref b1)])) (fun _ k_ => XS.iload X13.here hx rfl (hb hby at_117) rfl  k_) ?_
  refine own_k (T' := T13) (g' := (mkF m 121 #[.val (.long p0), .second, .val (.long p1), .second, .val (.long p2), .second, .val (.int p3), .val (.int p4), .val (.int p5), .val (.ref b1), .unset, .unset, .unset, .unset, .unset, .unset, .unset] [(.long p2), (.int p3), (.int (6 : Int32)), (.ref b1)])) (fun _ k_ => XS.lload X13.here hx rfl (hb hby at_119) rfl  k_) ?_
  refine own_k (T' := T13) (g' := (mkF m 122 #[.val (.long p0), .second, .val (.long p1), .second, .val (.long p2), .second, .val (.int p3), .val (.int p4), .val (.int p5), .val (.ref b1), .unset, .unset, .unset, .unset, .unset, .unset, .unset] [(.long p0), (.long p2), (.int p3), (.int (6 : Int32)), (.ref b1)])) (fun _ k_ => XS.lloadN X13.here hx rfl (hb hby at_121) rfl  k_) ?_
  refine own_k (T' := T13) (g' := (mkF m 124 #[.val (.long p0), .second, .val (.long p1), .second, .val (.long p2), .second, .val (.int p3), .val (.int p4), .val (.int p5), .val (.ref b1), .unset, .unset, .unset, .unset, .unset, .unset, .unset] [(.int (6 : Int32)), (.long p0), (.long p2), (.int p3), (.int (6 : Int32)), (.ref b1)])) (fun _ k_ => XS.bipush X13.here hx rfl (hb hby at_122) k_) ?_
  refine own_k (T' := T13) (g' := (mkF m 126 #[.val (.long p0), .second, .val (.long p1), .second, .val (.long p2), .second, .val (.int p3), .val (.int p4), .val (.int p5), .val (.ref b1), .unset, .unset, .unset, .unset, .unset, .unset, .unset] [(.int (48 : Int32)), (.int (6 : Int32)), (.long p0), (.long p2), (.int p3), (.int (6 : Int32)), (.ref b1)])) (fun _ k_ => XS.bipush X13.here hx rfl (hb hby at_124) k_) ?_
  refine own_k (T' := T13) (g' := (mkF m 129 #[.val (.long p0), .second, .val (.long p1), .second, .val (.long p2), .second, .val (.int p3), .val (.int p4), .val (.int p5), .val (.ref b1), .unset, .unset, .unset, .unset, .unset, .unset, .unset] [(.int (255 : Int32)), (.int (48 : Int32)), (.int (6 : Int32)), (.long p0), (.long p2), (.int p3), (.int (6 : Int32)), (.ref b1)])) (fun _ k_ => XS.sipush X13.here hx rfl (hb hby at_126) k_) ?_
  refine own_callS X13 hx hZ (y := (⟨"com/example/couponforge/couponforge/io/DecimalNumberWholeNumberPinLaw", "draw", "(IJJIII)C"⟩ : MethodName)) hown (hw _ (List.mem_of_getElem? (i := 1) rfl)) (hw _ (List.mem_of_getElem? (i := 2) rfl)) (hw _ (List.mem_of_getElem? (i := 3) rfl)) (hw _ (List.mem_of_getElem? (i := 4) rfl)) (by decide) (al := [(.int p3), (.long p2), (.long p0), (.int (6 : Int32)), (.int (48 : Int32)), (.int (255 : Int32))]) (rm_draw l Z a0 g_COMPACT_STRINGS g_SIOOBE_FORMATTER hW p3 p2 p0 (6 : Int32) (48 : Int32) (255 : Int32) h13 O13') 2 (by decide) (by decide) e13 (by decide) (by decide) (by rw [hml]; rfl) (lenOf pd__28IJJIII_29C rfl) rfl (rest := [(.int (6 : Int32)), (.ref b1)]) (by show 2 * 0 + _ ≤ _; exact Nat.le_of_eq rfl) (hb hby at_129) ?_
  intro v14 T14 L14 X14 hQ14
  obtain ⟨⟨c6, rfl, r6⟩, Nq14, e14⟩ := hQ14
  have N14 := Fr.app N13 Nq14
  show own_Go p e below Φ T14 (mkF m 132 #[.val (.long p0), .second, .val (.long p1), .second, .val (.long p2), .second, .val (.int p3), .val (.int p4), .val (.int p5), .val (.ref b1), .unset, .unset, .unset, .unset, .unset, .unset, .unset] [(.int c6), (.int (6 : Int32)), (.ref b1)])
  obtain ⟨T15, h15, X15, e15, W15, V15, st15⟩ := own_castore (pc := 132) (Ls := #[.val (.long p0), .second, .val (.long p1), .second, .val (.long p2), .second, .val (.int p3), .val (.int p4), .val (.int p5), .val (.ref b1), .unset, .unset, .unset, .unset, .unset, .unset, .unset]) (rest := []) X14 hx hZ e14 V13 (j := (6 : Int32)) (x := c6) ⟨by decide, by decide⟩ 6 rfl (Nat.le_of_ble_eq_true rfl) (hb hby at_132)
  have V15 : Arv Z h15 b1 k1 .char (12 : Int32) [(.int c0), (.int c1), (.int c2), (.int c3), (.int c4), (.int c5), (.int (nar .char c6)), (.int (0 : Int32)), (.int (0 : Int32)), (.int (0 : Int32)), (.int (0 : Int32)), (.int (0 : Int32))] (.int (0 : Int32)) := V15
  rw [show nar .char c6 = c6 from own_nar_c r6] at V15
  have O15' := O13'.wr W15 (Nat.le_trans O0.2.1 (Nat.le_of_eq g1.symm))
  have N15 := Fr.snoc X15 N14 (Nat.le_trans O0.2.1 (Nat.le_of_eq g1.symm))
  refine own_k (T' := T15) (g' := (mkF m 133 #[.val (.long p0), .second, .val (.long p1), .second, .val (.long p2), .second, .val (.int p3), .val (.int p4), .val (.int p5), .val (.ref b1), .unset, .unset, .unset, .unset, .unset, .unset, .unset] [])) st15 ?_
  refine own_k (T' := T15) (g' := (mkF m 135 #[.val (.long p0), .second, .val (.long p1), .second, .val (.long p2), .second, .val (.int p3), .val (.int p4), .val (.int p5), .val (.ref b1), .unset, .unset, .unset, .unset, .unset, .unset, .unset] [(.ref b1)])) (fun _ k_ => XS.aload X15.here hx rfl (hb hby at_133) rfl rfl  k_) ?_
  refine own_k (T' := T15) (g' := (mkF m 137 #[.val (.long p0), .second, .val (.long p1), .second, .val (.long p2), .second, .val (.int p3), .val (.int p4), .val (.int p5), .val (.ref b1), .unset, .unset, .unset, .unset, .unset, .unset, .unset] [(.int (7 : Int32)), (.ref b1)])) (fun _ k_ => XS.bipush X15.here hx rfl (hb hby at_135) k_) ?_
  refine own_k (T' := T15) (g' := (mkF m 139 #[.val (.long p0), .second, .val (.long p1), .second, .val (.long p2), .second, .val (.int p3), .val (.int p4), .val (.int p5), .val (.ref b1), .unset, .unset, .unset, .unset, .unset, .unset, .unset] [(.int p3), (.int (7 : Int32)), (.ref b1)])) (fun _ k_ => XS.iload X15.here hx rfl (hb hby at_137) rfl  k_) ?_
  refine own_k (T' := T15) (g' := (mkF m 141 #[.val (.long p0), .second, .val (.long p1), .second, .val (.long p2), .second, .val (.int p3), .val (.int p4), .val (.int p5), .val (.ref b1), .unset, .unset, .unset, .unset, .unset, .unset, .unset] [(.long p2), (.int p3), (.int (7 : Int32)), (.ref b1)])) (fun _ k_ => XS.lload X15.here hx rfl (hb hby at_139) rfl  k_) ?_
  refine own_k (T' := T15) (g' := (mkF m 142 #[.val (.long p0), .second, .val (.long p1), .second, .val (.long p2), .second, .val (.int p3), .val (.int p4), .val (.int p5), .val (.ref b1), .unset, .unset, .unset, .unset, .unset, .unset, .unset] [(.long p0), (.long p2), (.int p3), (.int (7 : Int32)), (.ref b1)])) (fun _ k_ => XS.lloadN X15.here hx rfl (hb hby at_141) rfl  k_) ?_
  refine own_k (T' := T15) (g' := (mkF m 144 #[.val (.long p0), .second, .val (.long p1), .second, .val (.long p2), .second, .val (.int p3), .val (.int p4), .val (.int p5), .val (.ref b1), .unset, .unset, .unset, .unset, .unset, .unset, .unset] [(.int (7 : Int32)), (.long p0), (.long p2), (.int p3), (.int (7 : Int32)), (.ref b1)])) (fun _ k_ => XS.bipush X15.here hx rfl (hb hby at_142) k_) ?_
  refine own_k (T' := T15) (g' := (mkF m 146 #[.val (.long p0), .second, .val (.long p1), .second, .val (.long p2), .second, .val (.int p3), .val (.int p4), .val (.int p5), .val (.ref b1), .unset, .unset, .unset, .unset, .unset, .unset, .unset] [(.int (56 : Int32)), (.int (7 : Int32)), (.long p0), (.long p2), (.int p3), (.int (7 : Int32)), (.ref b1)])) (fun _ k_ => XS.bipush X15.here hx rfl (hb hby at_144) k_) ?_
  refine own_k (T' := T15) (g' := (mkF m 149 #[.val (.long p0), .second, .val (.long p1), .second, .val (.long p2), .second, .val (.int p3), .val (.int p4), .val (.int p5), .val (.ref b1), .unset, .unset, .unset, .unset, .unset, .unset, .unset] [(.int (255 : Int32)), (.int (56 : Int32)), (.int (7 : Int32)), (.long p0), (.long p2), (.int p3), (.int (7 : Int32)), (.ref b1)])) (fun _ k_ => XS.sipush X15.here hx rfl (hb hby at_146) k_) ?_
  refine own_callS X15 hx hZ (y := (⟨"com/example/couponforge/couponforge/io/DecimalNumberWholeNumberPinLaw", "draw", "(IJJIII)C"⟩ : MethodName)) hown (hw _ (List.mem_of_getElem? (i := 1) rfl)) (hw _ (List.mem_of_getElem? (i := 2) rfl)) (hw _ (List.mem_of_getElem? (i := 3) rfl)) (hw _ (List.mem_of_getElem? (i := 4) rfl)) (by decide) (al := [(.int p3), (.long p2), (.long p0), (.int (7 : Int32)), (.int (56 : Int32)), (.int (255 : Int32))]) (rm_draw l Z a0 g_COMPACT_STRINGS g_SIOOBE_FORMATTER hW p3 p2 p0 (7 : Int32) (56 : Int32) (255 : Int32) h15 O15') 2 (by decide) (by decide) e15 (by decide) (by decide) (by rw [hml]; rfl) (lenOf pd__28IJJIII_29C rfl) rfl (rest := [(.int (7 : Int32)), (.ref b1)]) (by show 2 * 0 + _ ≤ _; exact Nat.le_of_eq rfl) (hb hby at_149) ?_
  intro v16 T16 L16 X16 hQ16
  obtain ⟨⟨c7, rfl, r7⟩, Nq16, e16⟩ := hQ16
  have N16 := Fr.app N15 Nq16
  show own_Go p e below Φ T16 (mkF m 152 #[.val (.long p0), .second, .val (.long p1), .second, .val (.long p2), .second, .val (.int p3), .val (.int p4), .val (.int p5), .val (.ref b1), .unset, .unset, .unset, .unset, .unset, .unset, .unset] [(.int c7), (.int (7 : Int32)), (.ref b1)])
  obtain ⟨T17, h17, X17, e17, W17, V17, st17⟩ := own_castore (pc := 152) (Ls := #[.val (.long p0), .second, .val (.long p1), .second, .val (.long p2), .second, .val (.int p3), .val (.int p4), .val (.int p5), .val (.ref b1), .unset, .unset, .unset, .unset, .unset, .unset, .unset]) (rest := []) X16 hx hZ e16 V15 (j := (7 : Int32)) (x := c7) ⟨by decide, by decide⟩ 7 rfl (Nat.le_of_ble_eq_true rfl) (hb hby at_152)
  have V17 : Arv Z h17 b1 k1 .char (12 : Int32) [(.int c0), (.int c1), (.int c2), (.int c3), (.int c4), (.int c5), (.int c6), (.int (nar .char c7)), (.int (0 : Int32)), (.int (0 : Int32)), (.int (0 : Int32)), (.int (0 : Int32))] (.int (0 : Int32)) := V17
  rw [show nar .char c7 = c7 from own_nar_c r7] at V17
  have O17' := O15'.wr W17 (Nat.le_trans O0.2.1 (Nat.le_of_eq g1.symm))
  have N17 := Fr.snoc X17 N16 (Nat.le_trans O0.2.1 (Nat.le_of_eq g1.symm))
  refine own_k (T' := T17) (g' := (mkF m 153 #[.val (.long p0), .second, .val (.long p1), .second, .val (.long p2), .second, .val (.int p3), .val (.int p4), .val (.int p5), .val (.ref b1), .unset, .unset, .unset, .unset, .unset, .unset, .unset] [])) st17 ?_
  refine own_k (T' := T17) (g' := (mkF m 155 #[.val (.long p0), .second, .val (.long p1), .second, .val (.long p2), .second, .val (.int p3), .val (.int p4), .val (.int p5), .val (.ref b1), .unset, .unset, .unset, .unset, .unset, .unset, .unset] [(.ref b1)])) (fun _ k_ => XS.aload X17.here hx rfl (hb hby at_153) rfl rfl  k_) ?_
  refine own_k (T' := T17) (g' := (mkF m 157 #[.val (.long p0), .second, .val (.long p1), .second, .val (.long p2), .second, .val (.int p3), .val (.int p4), .val (.int p5), .val (.ref b1), .unset, .unset, .unset, .unset, .unset, .unset, .unset] [(.int (8 : Int32)), (.ref b1)])) (fun _ k_ => XS.bipush X17.here hx rfl (hb hby at_155) k_) ?_
  refine own_k (T' := T17) (g' := (mkF m 159 #[.val (.long p0), .second, .val (.long p1), .second, .val (.long p2), .second, .val (.int p3), .val (.int p4), .val (.int p5), .val (.ref b1), .unset, .unset, .unset, .unset, .unset, .unset, .unset] [(.int p3), (.int (8 : Int32)), (.ref b1)])) (fun _ k_ => XS.iload X17.here hx rfl (hb hby at_157) rfl  k_) ?_
  refine own_k (T' := T17) (g' := (mkF m 161 #[.val (.long p0), .second, .val (.long p1), .second, .val (.long p2), .second, .val (.int p3), .val (.int p4), .val (.int p5), .val (.ref b1), .unset, .unset, .unset, .unset, .unset, .unset, .unset] [(.long p2), (.int p3), (.int (8 : Int32)), (.ref b1)])) (fun _ k_ => XS.lload X17.here hx rfl (hb hby at_159) rfl  k_) ?_
  refine own_k (T' := T17) (g' := (mkF m 162 #[.val (.long p0), .second, .val (.long p1), .second, .val (.long p2), .second, .val (.int p3), .val (.int p4), .val (.int p5), .val (.ref b1), .unset, .unset, .unset, .unset, .unset, .unset, .unset] [(.long p1), (.long p2), (.int p3), (.int (8 : Int32)), (.ref b1)])) (fun _ k_ => XS.lloadN X17.here hx rfl (hb hby at_161) rfl  k_) ?_
  refine own_k (T' := T17) (g' := (mkF m 164 #[.val (.long p0), .second, .val (.long p1), .second, .val (.long p2), .second, .val (.int p3), .val (.int p4), .val (.int p5), .val (.ref b1), .unset, .unset, .unset, .unset, .unset, .unset, .unset] [(.int (8 : Int32)), (.long p1), (.long p2), (.int p3), (.int (8 : Int32)), (.ref b1)])) (fun _ k_ => XS.bipush X17.here hx rfl (hb hby at_162) k_) ?_
  refine own_k (T' := T17) (g' := (mkF m 165 #[.val (.long p0), .second, .val (.long p1), .second, .val (.long p2), .second, .val (.int p3), .val (.int p4), .val (.int p5), .val (.ref b1), .unset, .unset, .unset, .unset, .unset, .unset, .unset] [(.int (0 : Int32)), (.int (8 : Int32)), (.long p1), (.long p2), (.int p3), (.int (8 : Int32)), (.ref b1)])) (fun _ k_ => XS.iconst X17.here hx rfl (hb hby at_164) k_) ?_
  refine own_k (T' := T17) (g' := (mkF m 167 #[.val (.long p0), .second, .val (.long p1), .second, .val (.long p2), .second, .val (.int p3), .val (.int p4), .val (.int p5), .val (.ref b1), .unset, .unset, .unset, .unset, .unset, .unset, .unset] [(.int (65535 : Int32)), (.int (0 : Int32)), (.int (8 : Int32)), (.long p1), (.long p2), (.int p3), (.int (8 : Int32)), (.ref b1)])) (X17.ldcInt hx hown (mvT hZ (hw _ (List.mem_of_getElem? (i := 6) rfl))) (g := (mkF m 165 #[.val (.long p0), .second, .val (.long p1), .second, .val (.long p2), .second, .val (.int p3), .val (.int p4), .val (.int p5), .val (.ref b1), .unset, .unset, .unset, .unset, .unset, .unset, .unset] [(.int (0 : Int32)), (.int (8 : Int32)), (.long p1), (.long p2), (.int p3), (.int (8 : Int32)), (.ref b1)])) rfl (hb hby at_165)) ?_
  refine own_callS X17 hx hZ (y := (⟨"com/example/couponforge/couponforge/io/DecimalNumberWholeNumberPinLaw", "draw", "(IJJIII)C"⟩ : MethodName)) hown (hw _ (List.mem_of_getElem? (i := 1) rfl)) (hw _ (List.mem_of_getElem? (i := 2) rfl)) (hw _ (List.mem_of_getElem? (i := 3) rfl)) (hw _ (List.mem_of_getElem? (i := 4) rfl)) (by decide) (al := [(.int p3), (.long p2), (.long p1), (.int (8 : Int32)), (.int (0 : Int32)), (.int (65535 : Int32))]) (rm_draw l Z a0 g_COMPACT_STRINGS g_SIOOBE_FORMATTER hW p3 p2 p1 (8 : Int32) (0 : Int32) (65535 : Int32) h17 O17') 2 (by decide) (by decide) e17 (by decide) (by decide) (by rw [hml]; rfl) (lenOf pd__28IJJIII_29C rfl) rfl (rest := [(.int (8 : Int32)), (.ref b1)]) (by show 2 * 0 + _ ≤ _; exact Nat.le_of_eq rfl) (hb hby at_167) ?_
  intro v18 T18 L18 X18 hQ18
  obtain ⟨⟨c8, rfl, r8⟩, Nq18, e18⟩ := hQ18
  have N18 := Fr.app N17 Nq18
  show own_Go p e below Φ T18 (mkF m 170 #[.val (.long p0), .second, .val (.long p1), .second, .val (.long p2), .second, .val (.int p3), .val (.int p4), .val (.int p5), .val (.ref b1), .unset, .unset, .unset, .unset, .unset, .unset, .unset] [(.int c8), (.int (8 : Int32)), (.ref b1)])
  obtain ⟨T19, h19, X19, e19, W19, V19, st19⟩ := own_castore (pc := 170) (Ls := #[.val (.long p0), .second, .val (.long p1), .second, .val (.long p2), .second, .val (.int p3), .val (.int p4), .val (.int p5), .val (.ref b1), .unset, .unset, .unset, .unset, .unset, .unset, .unset]) (rest := []) X18 hx hZ e18 V17 (j := (8 : Int32)) (x := c8) ⟨by decide, by decide⟩ 8 rfl (Nat.le_of_ble_eq_true rfl) (hb hby at_170)
  have V19 : Arv Z h19 b1 k1 .char (12 : Int32) [(.int c0), (.int c1), (.int c2), (.int c3), (.int c4), (.int c5), (.int c6), (.int c7), (.int (nar .char c8)), (.int (0 : Int32)), (.int (0 : Int32)), (.int (0 : Int32))] (.int (0 : Int32)) := V19
  rw [show nar .char c8 = c8 from own_nar_c r8] at V19
  have O19' := O17'.wr W19 (Nat.le_trans O0.2.1 (Nat.le_of_eq g1.symm))
  have N19 := Fr.snoc X19 N18 (Nat.le_trans O0.2.1 (Nat.le_of_eq g1.symm))
  refine own_k (T' := T19) (g' := (mkF m 171 #[.val (.long p0), .second, .val (.long p1), .second, .val (.long p2), .second, .val (.int p3), .val (.int p4), .val (.int p5), .val (.ref b1), .unset, .unset, .unset, .unset, .unset, .unset, .unset] [])) st19 ?_
  refine own_k (T' := T19) (g' := (mkF m 173 #[.val (.long p0), .second, .val (.long p1), .second, .val (.long p2), .second, .val (.int p3), .val (.int p4), .val (.int p5), .val (.ref b1), .unset, .unset, .unset, .unset, .unset, .unset, .unset] [(.ref b1)])) (fun _ k_ => XS.aload X19.here hx rfl (hb hby at_171) rfl rfl  k_) ?_
  refine own_k (T' := T19) (g' := (mkF m 175 #[.val (.long p0), .second, .val (.long p1), .second, .val (.long p2), .second, .val (.int p3), .val (.int p4), .val (.int p5), .val (.ref b1), .unset, .unset, .unset, .unset, .unset, .unset, .unset] [(.int (9 : Int32)), (.ref b1)])) (fun _ k_ => XS.bipush X19.here hx rfl (hb hby at_173) k_) ?_
  refine own_k (T' := T19) (g' := (mkF m 177 #[.val (.long p0), .second, .val (.long p1), .second, .val (.long p2), .second, .val (.int p3), .val (.int p4), .val (.int p5), .val (.ref b1), .unset, .unset, .unset, .unset, .unset, .unset, .unset] [(.int p3), (.int (9 : Int32)), (.ref b1)])) (fun _ k_ => XS.iload X19.here hx rfl (hb hby at_175) rfl  k_) ?_
  refine own_k (T' := T19) (g' := (mkF m 179 #[.val (.long p0), .second, .val (.long p1), .second, .val (.long p2), .second, .val (.int p3), .val (.int p4), .val (.int p5), .val (.ref b1), .unset, .unset, .unset, .unset, .unset, .unset, .unset] [(.long p2), (.int p3), (.int (9 : Int32)), (.ref b1)])) (fun _ k_ => XS.lload X19.here hx rfl (hb hby at_177) rfl  k_) ?_
  refine own_k (T' := T19) (g' := (mkF m 180 #[.val (.long p0), .second, .val (.long p1), .second, .val (.long p2), .second, .val (.int p3), .val (.int p4), .val (.int p5), .val (.ref b1), .unset, .unset, .unset, .unset, .unset, .unset, .unset] [(.long p1), (.long p2), (.int p3), (.int (9 : Int32)), (.ref b1)])) (fun _ k_ => XS.lloadN X19.here hx rfl (hb hby at_179) rfl  k_) ?_
  refine own_k (T' := T19) (g' := (mkF m 182 #[.val (.long p0), .second, .val (.long p1), .second, .val (.long p2), .second, .val (.int p3), .val (.int p4), .val (.int p5), .val (.ref b1), .unset, .unset, .unset, .unset, .unset, .unset, .unset] [(.int (9 : Int32)), (.long p1), (.long p2), (.int p3), (.int (9 : Int32)), (.ref b1)])) (fun _ k_ => XS.bipush X19.here hx rfl (hb hby at_180) k_) ?_
  refine own_k (T' := T19) (g' := (mkF m 184 #[.val (.long p0), .second, .val (.long p1), .second, .val (.long p2), .second, .val (.int p3), .val (.int p4), .val (.int p5), .val (.ref b1), .unset, .unset, .unset, .unset, .unset, .unset, .unset] [(.int (16 : Int32)), (.int (9 : Int32)), (.long p1), (.long p2), (.int p3), (.int (9 : Int32)), (.ref b1)])) (fun _ k_ => XS.bipush X19.here hx rfl (hb hby at_182) k_) ?_
  refine own_k (T' := T19) (g' := (mkF m 186 #[.val (.long p0), .second, .val (.long p1), .second, .val (.long p2), .second, .val (.int p3), .val (.int p4), .val (.int p5), .val (.ref b1), .unset, .unset, .unset, .unset, .unset, .unset, .unset] [(.int (65535 : Int32)), (.int (16 : Int32)), (.int (9 : Int32)), (.long p1), (.long p2), (.int p3), (.int (9 : Int32)), (.ref b1)])) (X19.ldcInt hx hown (mvT hZ (hw _ (List.mem_of_getElem? (i := 6) rfl))) (g := (mkF m 184 #[.val (.long p0), .second, .val (.long p1), .second, .val (.long p2), .second, .val (.int p3), .val (.int p4), .val (.int p5), .val (.ref b1), .unset, .unset, .unset, .unset, .unset, .unset, .unset] [(.int (16 : Int32)), (.int (9 : Int32)), (.long p1), (.long p2), (.int p3), (.int (9 : Int32)), (.ref b1)])) rfl (hb hby at_184)) ?_
  refine own_callS X19 hx hZ (y := (⟨"com/example/couponforge/couponforge/io/DecimalNumberWholeNumberPinLaw", "draw", "(IJJIII)C"⟩ : MethodName)) hown (hw _ (List.mem_of_getElem? (i := 1) rfl)) (hw _ (List.mem_of_getElem? (i := 2) rfl)) (hw _ (List.mem_of_getElem? (i := 3) rfl)) (hw _ (List.mem_of_getElem? (i := 4) rfl)) (by decide) (al := [(.int p3), (.long p2), (.long p1), (.int (9 : Int32)), (.int (16 : Int32)), (.int (65535 : Int32))]) (rm_draw l Z a0 g_COMPACT_STRINGS g_SIOOBE_FORMATTER hW p3 p2 p1 (9 : Int32) (16 : Int32) (65535 : Int32) h19 O19') 2 (by decide) (by decide) e19 (by decide) (by decide) (by rw [hml]; rfl) (lenOf pd__28IJJIII_29C rfl) rfl (rest := [(.int (9 : Int32)), (.ref b1)]) (by show 2 * 0 + _ ≤ _; exact Nat.le_of_eq rfl) (hb hby at_186) ?_
  intro v20 T20 L20 X20 hQ20
  obtain ⟨⟨c9, rfl, r9⟩, Nq20, e20⟩ := hQ20
  have N20 := Fr.app N19 Nq20
  show own_Go p e below Φ T20 (mkF m 189 #[.val (.long p0), .second, .val (.long p1), .second, .val (.long p2), .second, .val (.int p3), .val (.int p4), .val (.int p5), .val (.ref b1), .unset, .unset, .unset, .unset, .unset, .unset, .unset] [(.int c9), (.int (9 : Int32)), (.ref b1)])
  obtain ⟨T21, h21, X21, e21, W21, V21, st21⟩ := own_castore (pc := 189) (Ls := #[.val (.long p0), .second, .val (.long p1), .second, .val (.long p2), .second, .val (.int p3), .val (.int p4), .val (.int p5), .val (.ref b1), .unset, .unset, .unset, .unset, .unset, .unset, .unset]) (rest := []) X20 hx hZ e20 V19 (j := (9 : Int32)) (x := c9) ⟨by decide, by decide⟩ 9 rfl (Nat.le_of_ble_eq_true rfl) (hb hby at_189)
  have V21 : Arv Z h21 b1 k1 .char (12 : Int32) [(.int c0), (.int c1), (.int c2), (.int c3), (.int c4), (.int c5), (.int c6), (.int c7), (.int c8), (.int (nar .char c9)), (.int (0 : Int32)), (.int (0 : Int32))] (.int (0 : Int32)) := V21
  rw [show nar .char c9 = c9 from own_nar_c r9] at V21
  have O21' := O19'.wr W21 (Nat.le_trans O0.2.1 (Nat.le_of_eq g1.symm))
  have N21 := Fr.snoc X21 N20 (Nat.le_trans O0.2.1 (Nat.le_of_eq g1.symm))
  refine own_k (T' := T21) (g' := (mkF m 190 #[.val (.long p0), .second, .val (.long p1), .second, .val (.long p2), .second, .val (.int p3), .val (.int p4), .val (.int p5), .val (.ref b1), .unset, .unset, .unset, .unset, .unset, .unset, .unset] [])) st21 ?_
  refine own_k (T' := T21) (g' := (mkF m 192 #[.val (.long p0), .second, .val (.long p1), .second, .val (.long p2), .second, .val (.int p3), .val (.int p4), .val (.int p5), .val (.ref b1), .unset, .unset, .unset, .unset, .unset, .unset, .unset] [(.ref b1)])) (fun _ k_ => XS.aload X21.here hx rfl (hb hby at_190) rfl rfl  k_) ?_
  refine own_k (T' := T21) (g' := (mkF m 194 #[.val (.long p0), .second, .val (.long p1), .second, .val (.long p2), .second, .val (.int p3), .val (.int p4), .val (.int p5), .val (.ref b1), .unset, .unset, .unset, .unset, .unset, .unset, .unset] [(.int (10 : Int32)), (.ref b1)])) (fun _ k_ => XS.bipush X21.here hx rfl (hb hby at_192) k_) ?_
  refine own_k (T' := T21) (g' := (mkF m 196 #[.val (.long p0), .second, .val (.long p1), .second, .val (.long p2), .second, .val (.int p3), .val (.int p4), .val (.int p5), .val (.ref b1), .unset, .unset, .unset, .unset, .unset, .unset, .unset] [(.int p3), (.int (10 : Int32)), (.ref b1)])) (fun _ k_ => XS.iload X21.here hx rfl (hb hby at_194) rfl  k_) ?_
  refine own_k (T' := T21) (g' := (mkF m 198 #[.val (.long p0), .second, .val (.long p1), .second, .val (.long p2), .second, .val (.int p3), .val (.int p4), .val (.int p5), .val (.ref b1), .unset, .unset, .unset, .unset, .unset, .unset, .unset] [(.long p2), (.int p3), (.int (10 : Int32)), (.ref b1)])) (fun _ k_ => XS.lload X21.here hx rfl (hb hby at_196) rfl  k_) ?_
  refine own_k (T' := T21) (g' := (mkF m 199 #[.val (.long p0), .second, .val (.long p1), .second, .val (.long p2), .second, .val (.int p3), .val (.int p4), .val (.int p5), .val (.ref b1), .unset, .unset, .unset, .unset, .unset, .unset, .unset] [(.long p1), (.long p2), (.int p3), (.int (10 : Int32)), (.ref b1)])) (fun _ k_ => XS.lloadN X21.here hx rfl (hb hby at_198) rfl  k_) ?_
  refine own_k (T' := T21) (g' := (mkF m 201 #[.val (.long p0), .second, .val (.long p1), .second, .val (.long p2), .second, .val (.int p3), .val (.int p4), .val (.int p5), .val (.ref b1), .unset, .unset, .unset, .unset, .unset, .unset, .unset] [(.int (10 : Int32)), (.long p1), (.long p2), (.int p3), (.int (10 : Int32)), (.ref b1)])) (fun _ k_ => XS.bipush X21.here hx rfl (hb hby at_199) k_) ?_
  refine own_k (T' := T21) (g' := (mkF m 203 #[.val (.long p0), .second, .val (.long p1), .second, .val (.long p2), .second, .val (.int p3), .val (.int p4), .val (.int p5), .val (.ref b1), .unset, .unset, .unset, .unset, .unset, .unset, .unset] [(.int (32 : Int32)), (.int (10 : Int32)), (.long p1), (.long p2), (.int p3), (.int (10 : Int32)), (.ref b1)])) (fun _ k_ => XS.bipush X21.here hx rfl (hb hby at_201) k_) ?_
  refine own_k (T' := T21) (g' := (mkF m 205 #[.val (.long p0), .second, .val (.long p1), .second, .val (.long p2), .second, .val (.int p3), .val (.int p4), .val (.int p5), .val (.ref b1), .unset, .unset, .unset, .unset, .unset, .unset, .unset] [(.int (65535 : Int32)), (.int (32 : Int32)), (.int (10 : Int32)), (.long p1), (.long p2), (.int p3), (.int (10 : Int32)), (.ref b1)])) (X21.ldcInt hx hown (mvT hZ (hw _ (List.mem_of_getElem? (i := 6) rfl))) (g := (mkF m 203 #[.val (.long p0), .second, .val (.long p1), .second, .val (.long p2), .second, .val (.int p3), .val (.int p4), .val (.int p5), .val (.ref b1), .unset, .unset, .unset, .unset, .unset, .unset, .unset] [(.int (32 : Int32)), (.int (10 : Int32)), (.long p1), (.long p2), (.int p3), (.int (10 : Int32)), (.ref b1)])) rfl (hb hby at_203)) ?_
  refine own_callS X21 hx hZ (y := (⟨"com/example/couponforge/couponforge/io/DecimalNumberWholeNumberPinLaw", "draw", "(IJJIII)C"⟩ : MethodName)) hown (hw _ (List.mem_of_getElem? (i := 1) rfl)) (hw _ (List.mem_of_getElem? (i := 2) rfl)) (hw _ (List.mem_of_getElem? (i := 3) rfl)) (hw _ (List.mem_of_getElem? (i := 4) rfl)) (by decide) (al := [(.int p3), (.long p2), (.long p1), (.int (10 : Int32)), (.int (32 : Int32)), (.int (65535 : Int32))]) (rm_draw l Z a0 g_COMPACT_STRINGS g_SIOOBE_FORMATTER hW p3 p2 p1 (10 : Int32) (32 : Int32) (65535 : Int32) h21 O21') 2 (by decide) (by decide) e21 (by decide) (by decide) (by rw [hml]; rfl) (lenOf pd__28IJJIII_29C rfl) rfl (rest := [(.int (10 : Int32)), (.ref b1)]) (by show 2 * 0 + _ ≤ _; exact Nat.le_of_eq rfl) (hb hby at_205) ?_
  intro v22 T22 L22 X22 hQ22
  obtain ⟨⟨c10, rfl, r10⟩, Nq22, e22⟩ := hQ22
  have N22 := Fr.app N21 Nq22
  show own_Go p e below Φ T22 (mkF m 208 #[.val (.long p0), .second, .val (.long p1), .second, .val (.long p2), .second, .val (.int p3), .val (.int p4), .val (.int p5), .val (.ref b1), .unset, .unset, .unset, .unset, .unset, .unset, .unset] [(.int c10), (.int (10 : Int32)), (.ref b1)])
  obtain ⟨T23, h23, X23, e23, W23, V23, st23⟩ := own_castore (pc := 208) (Ls := #[.val (.long p0), .second, .val (.long p1), .second, .val (.long p2), .second, .val (.int p3), .val (.int p4), .val (.int p5), .val (.ref b1), .unset, .unset, .unset, .unset, .unset, .unset, .unset]) (rest := []) X22 hx hZ e22 V21 (j := (10 : Int32)) (x := c10) ⟨by decide, by decide⟩ 10 rfl (Nat.le_of_ble_eq_true rfl) (hb hby at_208)
  have V23 : Arv Z h23 b1 k1 .char (12 : Int32) [(.int c0), (.int c1), (.int c2), (.int c3), (.int c4), (.int c5), (.int c6), (.int c7), (.int c8), (.int c9), (.int (nar .char c10)), (.int (0 : Int32))] (.int (0 : Int32)) := V23
  rw [show nar .char c10 = c10 from own_nar_c r10] at V23
  have O23' := O21'.wr W23 (Nat.le_trans O0.2.1 (Nat.le_of_eq g1.symm))
  have N23 := Fr.snoc X23 N22 (Nat.le_trans O0.2.1 (Nat.le_of_eq g1.symm))
  refine own_k (T' := T23) (g' := (mkF m 209 #[.val (.long p0), .second, .val (.long p1), .second, .val (.long p2), .second, .val (.int p3), .val (.int p4), .val (.int p5), .val (.ref b1), .unset, .unset, .unset, .unset, .unset, .unset, .unset] [])) st23 ?_
  refine own_k (T' := T23) (g' := (mkF m 211 #[.val (.long p0), .second, .val (.long p1), .second, .val (.long p2), .second, .val (.int p3), .val (.int p4), .val (.int p5), .val (.ref b1), .unset, .unset, .unset, .unset, .unset, .unset, .unset] [(.ref b1)])) (fun _ k_ => XS.aload X23.here hx rfl (hb hby at_209) rfl rfl  k_) ?_
  refine own_k (T' := T23) (g' := (mkF m 213 #[.val (.long p0), .second, .val (.long p1), .second, .val (.long p2), .second, .val (.int p3), .val (.int p4), .val (.int p5), .val (.ref b1), .unset, .unset, .unset, .unset, .unset, .unset, .unset] [(.int (11 : Int32)), (.ref b1)])) (fun _ k_ => XS.bipush X23.here hx rfl (hb hby at_211) k_) ?_
  refine own_k (T' := T23) (g' := (mkF m 215 #[.val (.long p0), .second, .val (.long p1), .second, .val (.long p2), .second, .val (.int p3), .val (.int p4), .val (.int p5), .val (.ref b1), .unset, .unset, .unset, .unset, .unset, .unset, .unset] [(.int p3), (.int (11 : Int32)), (.ref b1)])) (fun _ k_ => XS.iload X23.here hx rfl (hb hby at_213) rfl  k_) ?_
  refine own_k (T' := T23) (g' := (mkF m 217 #[.val (.long p0), .second, .val (.long p1), .second, .val (.long p2), .second, .val (.int p3), .val (.int p4), .val (.int p5), .val (.ref b1), .unset, .unset, .unset, .unset, .unset, .unset, .unset] [(.long p2), (.int p3), (.int (11 : Int32)), (.ref b1)])) (fun _ k_ => XS.lload X23.here hx rfl (hb hby at_215) rfl  k_) ?_
  refine own_k (T' := T23) (g' := (mkF m 218 #[.val (.long p0), .second, .val (.long p1), .second, .val (.long p2), .second, .val (.int p3), .val (.int p4), .val (.int p5), .val (.ref b1), .unset, .unset, .unset, .unset, .unset, .unset, .unset] [(.long p1), (.long p2), (.int p3), (.int (11 : Int32)), (.ref b1)])) (fun _ k_ => XS.lloadN X23.here hx rfl (hb hby at_217) rfl  k_) ?_
  refine own_k (T' := T23) (g' := (mkF m 220 #[.val (.long p0), .second, .val (.long p1), .second, .val (.long p2), .second, .val (.int p3), .val (.int p4), .val (.int p5), .val (.ref b1), .unset, .unset, .unset, .unset, .unset, .unset, .unset] [(.int (11 : Int32)), (.long p1), (.long p2), (.int p3), (.int (11 : Int32)), (.ref b1)])) (fun _ k_ => XS.bipush X23.here hx rfl (hb hby at_218) k_) ?_
  refine own_k (T' := T23) (g' := (mkF m 222 #[.val (.long p0), .second, .val (.long p1), .second, .val (.long p2), .second, .val (.int p3), .val (.int p4), .val (.int p5), .val (.ref b1), .unset, .unset, .unset, .unset, .unset, .unset, .unset] [(.int (48 : Int32)), (.int (11 : Int32)), (.long p1), (.long p2), (.int p3), (.int (11 : Int32)), (.ref b1)])) (fun _ k_ => XS.bipush X23.here hx rfl (hb hby at_220) k_) ?_
  refine own_k (T' := T23) (g' := (mkF m 224 #[.val (.long p0), .second, .val (.long p1), .second, .val (.long p2), .second, .val (.int p3), .val (.int p4), .val (.int p5), .val (.ref b1), .unset, .unset, .unset, .unset, .unset, .unset, .unset] [(.int (65535 : Int32)), (.int (48 : Int32)), (.int (11 : Int32)), (.long p1), (.long p2), (.int p3), (.int (11 : Int32)), (.ref b1)])) (X23.ldcInt hx hown (mvT hZ (hw _ (List.mem_of_getElem? (i := 6) rfl))) (g := (mkF m 222 #[.val (.long p0), .second, .val (.long p1), .second, .val (.long p2), .second, .val (.int p3), .val (.int p4), .val (.int p5), .val (.ref b1), .unset, .unset, .unset, .unset, .unset, .unset, .unset] [(.int (48 : Int32)), (.int (11 : Int32)), (.long p1), (.long p2), (.int p3), (.int (11 : Int32)), (.ref b1)])) rfl (hb hby at_222)) ?_
  refine own_callS X23 hx hZ (y := (⟨"com/example/couponforge/couponforge/io/DecimalNumberWholeNumberPinLaw", "draw", "(IJJIII)C"⟩ : MethodName)) hown (hw _ (List.mem_of_getElem? (i := 1) rfl)) (hw _ (List.mem_of_getElem? (i := 2) rfl)) (hw _ (List.mem_of_getElem? (i := 3) rfl)) (hw _ (List.mem_of_getElem? (i := 4) rfl)) (by decide) (al := [(.int p3), (.long p2), (.long p1), (.int (11 : Int32)), (.int (48 : Int32)), (.int (65535 : Int32))]) (rm_draw l Z a0 g_COMPACT_STRINGS g_SIOOBE_FORMATTER hW p3 p2 p1 (11 : Int32) (48 : Int32) (65535 : Int32) h23 O23') 2 (by decide) (by decide) e23 (by decide) (by decide) (by rw [hml]; rfl) (lenOf pd__28IJJIII_29C rfl) rfl (rest := [(.int (11 : Int32)), (.ref b1)]) (by show 2 * 0 + _ ≤ _; exact Nat.le_of_eq rfl) (hb hby at_224) ?_
  intro v24 T24 L24 X24 hQ24
  obtain ⟨⟨c11, rfl, r11⟩, Nq24, e24⟩ := hQ24
  have N24 := Fr.app N23 Nq24
  show own_Go p e below Φ T24 (mkF m 227 #[.val (.long p0), .second, .val (.long p1), .second, .val (.long p2), .second, .val (.int p3), .val (.int p4), .val (.int p5), .val (.ref b1), .unset, .unset, .unset, .unset, .unset, .unset, .unset] [(.int c11), (.int (11 : Int32)), (.ref b1)])
  obtain ⟨T25, h25, X25, e25, W25, V25, st25⟩ := own_castore (pc := 227) (Ls := #[.val (.long p0), .second, .val (.long p1), .second, .val (.long p2), .second, .val (.int p3), .val (.int p4), .val (.int p5), .val (.ref b1), .unset, .unset, .unset, .unset, .unset, .unset, .unset]) (rest := []) X24 hx hZ e24 V23 (j := (11 : Int32)) (x := c11) ⟨by decide, by decide⟩ 11 rfl (Nat.le_of_ble_eq_true rfl) (hb hby at_227)
  have V25 : Arv Z h25 b1 k1 .char (12 : Int32) [(.int c0), (.int c1), (.int c2), (.int c3), (.int c4), (.int c5), (.int c6), (.int c7), (.int c8), (.int c9), (.int c10), (.int (nar .char c11))] (.int (0 : Int32)) := V25
  rw [show nar .char c11 = c11 from own_nar_c r11] at V25
  have O25' := O23'.wr W25 (Nat.le_trans O0.2.1 (Nat.le_of_eq g1.symm))
  have N25 := Fr.snoc X25 N24 (Nat.le_trans O0.2.1 (Nat.le_of_eq g1.symm))
  refine own_k (T' := T25) (g' := (mkF m 228 #[.val (.long p0), .second, .val (.long p1), .second, .val (.long p2), .second, .val (.int p3), .val (.int p4), .val (.int p5), .val (.ref b1), .unset, .unset, .unset, .unset, .unset, .unset, .unset] [])) st25 ?_
  refine own_k (T' := T25) (g' := (mkF m 230 #[.val (.long p0), .second, .val (.long p1), .second, .val (.long p2), .second, .val (.int p3), .val (.int p4), .val (.int p5), .val (.ref b1), .unset, .unset, .unset, .unset, .unset, .unset, .unset] [(.int p4)])) (fun _ k_ => XS.iload X25.here hx rfl (hb hby at_228) rfl  k_) ?_
  refine own_k (T' := T25) (g' := (mkF m 232 #[.val (.long p0), .second, .val (.long p1), .second, .val (.long p2), .second, .val (.int p3), .val (.int p4), .val (.int p5), .val (.ref b1), .unset, .unset, .unset, .unset, .unset, .unset, .unset] [(.int (2147483647 : Int32)), (.int p4)])) (X25.ldcInt hx hown (mvT hZ (hw _ (List.mem_of_getElem? (i := 7) rfl))) (g := (mkF m 230 #[.val (.long p0), .second, .val (.long p1), .second, .val (.long p2), .second, .val (.int p3), .val (.int p4), .val (.int p5), .val (.ref b1), .unset, .unset, .unset, .unset, .unset, .unset, .unset] [(.int p4)])) rfl (hb hby at_230)) ?_
  refine own_k (T' := T25) (g' := (mkF m 233 #[.val (.long p0), .second, .val (.long p1), .second, .val (.long p2), .second, .val (.int p3), .val (.int p4), .val (.int p5), .val (.ref b1), .unset, .unset, .unset, .unset, .unset, .unset, .unset] [(.int (p4 &&& (2147483647 : Int32)))])) (fun _ k_ => XS.iand X25.here hx rfl (hb hby at_232) rfl k_) ?_
  refine own_k (T' := T25) (g' := (mkF m 235 #[.val (.long p0), .second, .val (.long p1), .second, .val (.long p2), .second, .val (.int p3), .val (.int p4), .val (.int p5), .val (.ref b1), .unset, .unset, .unset, .unset, .unset, .unset, .unset] [(.int (13 : Int32)), (.int (p4 &&& (2147483647 : Int32)))])) (fun _ k_ => XS.bipush X25.here hx rfl (hb hby at_233) k_) ?_
  refine own_k (T' := T25) (g' := (mkF m 236 #[.val (.long p0), .second, .val (.long p1), .second, .val (.long p2), .second, .val (.int p3), .val (.int p4), .val (.int p5), .val (.ref b1), .unset, .unset, .unset, .unset, .unset, .unset, .unset] [(.int ((p4 &&& (2147483647 : Int32)) % (13 : Int32)))])) (fun _ k_ => iremM X25 hx rfl (hb hby at_235) rfl (by decide) k_) ?_
  refine own_k (T' := T25) (g' := (mkF m 238 #[.val (.long p0), .second, .val (.long p1), .second, .val (.long p2), .second, .val (.int p3), .val (.int p4), .val (.int p5), .val (.ref b1), .val (.int ((p4 &&& (2147483647 : Int32)) % (13 : Int32))), .unset, .unset, .unset, .unset, .unset, .unset] [])) (fun _ k_ => XS.istore X25.here hx rfl (hb hby at_236) rfl (l' := #[.val (.long p0), .second, .val (.long p1), .second, .val (.long p2), .second, .val (.int p3), .val (.int p4), .val (.int p5), .val (.ref b1), .val (.int ((p4 &&& (2147483647 : Int32)) % (13 : Int32))), .unset, .unset, .unset, .unset, .unset, .unset]) rfl k_) ?_
  refine own_k (T' := T25) (g' := (mkF m 240 #[.val (.long p0), .second, .val (.long p1), .second, .val (.long p2), .second, .val (.int p3), .val (.int p4), .val (.int p5), .val (.ref b1), .val (.int ((p4 &&& (2147483647 : Int32)) % (13 : Int32))), .unset, .unset, .unset, .unset, .unset, .unset] [(.int p5)])) (fun _ k_ => XS.iload X25.here hx rfl (hb hby at_238) rfl  k_) ?_
  refine own_k (T' := T25) (g' := (mkF m 242 #[.val (.long p0), .second, .val (.long p1), .second, .val (.long p2), .second, .val (.int p3), .val (.int p4), .val (.int p5), .val (.ref b1), .val (.int ((p4 &&& (2147483647 : Int32)) % (13 : Int32))), .unset, .unset, .unset, .unset, .unset, .unset] [(.int (2147483647 : Int32)), (.int p5)])) (X25.ldcInt hx hown (mvT hZ (hw _ (List.mem_of_getElem? (i := 7) rfl))) (g := (mkF m 240 #[.val (.long p0), .second, .val (.long p1), .second, .val (.long p2), .second, .val (.int p3), .val (.int p4), .val (.int p5), .val (.ref b1), .val (.int ((p4 &&& (2147483647 : Int32)) % (13 : Int32))), .unset, .unset, .unset, .unset, .unset, .unset] [(.int p5)])) rfl (hb hby at_240)) ?_
  refine own_k (T' := T25) (g' := (mkF m 243 #[.val (.long p0), .second, .val (.long p1), .second, .val (.long p2), .second, .val (.int p3), .val (.int p4), .val (.int p5), .val (.ref b1), .val (.int ((p4 &&& (2147483647 : Int32)) % (13 : Int32))), .unset, .unset, .unset, .unset, .unset, .unset] [(.int (p5 &&& (2147483647 : Int32)))])) (fun _ k_ => XS.iand X25.here hx rfl (hb hby at_242) rfl k_) ?_
  refine own_k (T' := T25) (g' := (mkF m 245 #[.val (.long p0), .second, .val (.long p1), .second, .val (.long p2), .second, .val (.int p3), .val (.int p4), .val (.int p5), .val (.ref b1), .val (.int ((p4 &&& (2147483647 : Int32)) % (13 : Int32))), .unset, .unset, .unset, .unset, .unset, .unset] [(.int (13 : Int32)), (.int (p5 &&& (2147483647 : Int32)))])) (fun _ k_ => XS.bipush X25.here hx rfl (hb hby at_243) k_) ?_
  refine own_k (T' := T25) (g' := (mkF m 246 #[.val (.long p0), .second, .val (.long p1), .second, .val (.long p2), .second, .val (.int p3), .val (.int p4), .val (.int p5), .val (.ref b1), .val (.int ((p4 &&& (2147483647 : Int32)) % (13 : Int32))), .unset, .unset, .unset, .unset, .unset, .unset] [(.int ((p5 &&& (2147483647 : Int32)) % (13 : Int32)))])) (fun _ k_ => iremM X25 hx rfl (hb hby at_245) rfl (by decide) k_) ?_
  refine own_k (T' := T25) (g' := (mkF m 248 #[.val (.long p0), .second, .val (.long p1), .second, .val (.long p2), .second, .val (.int p3), .val (.int p4), .val (.int p5), .val (.ref b1), .val (.int ((p4 &&& (2147483647 : Int32)) % (13 : Int32))), .val (.int ((p5 &&& (2147483647 : Int32)) % (13 : Int32))), .unset, .unset, .unset, .unset, .unset] [])) (fun _ k_ => XS.istore X25.here hx rfl (hb hby at_246) rfl (l' := #[.val (.long p0), .second, .val (.long p1), .second, .val (.long p2), .second, .val (.int p3), .val (.int p4), .val (.int p5), .val (.ref b1), .val (.int ((p4 &&& (2147483647 : Int32)) % (13 : Int32))), .val (.int ((p5 &&& (2147483647 : Int32)) % (13 : Int32))), .unset, .unset, .unset, .unset, .unset]) rfl k_) ?_
  obtain ⟨f, h_f⟩ : ∃ k, k = ((p4 &&& (2147483647 : Int32)) % (13 : Int32)) := ⟨_, rfl⟩
  rw [← h_f]
  have rf : 0 ≤ f.toInt ∧ f.toInt < 13 := h_f ▸ own_rem13 _
  obtain ⟨t, h_t⟩ : ∃ k, k = ((p5 &&& (2147483647 : Int32)) % (13 : Int32)) := ⟨_, rfl⟩
  rw [← h_t]
  have rt : 0 ≤ t.toInt ∧ t.toInt < 13 := h_t ▸ own_rem13 _
  obtain ⟨T26, h26, X26, e26, E26, A26, D26, -, st26⟩ := newO X25 hx hZ hown (hw _ (List.mem_of_getElem? (i := 8) rfl)) (hw _ (List.mem_of_getElem? (i := 9) rfl)) (hw _ (List.mem_of_getElem? (i := 10) rfl)) e25 (g := (mkF m 248 #[.val (.long p0), .second, .val (.long p1), .second, .val (.long p2), .second, .val (.int p3), .val (.int p4), .val (.int p5), .val (.ref b1), .val (.int f), .val (.int t), .unset, .unset, .unset, .unset, .unset] [])) rfl (hb hby at_248) (by decide) (by decide)
  obtain ⟨b26, g26⟩ : ∃ z, z = h25.size := ⟨_, rfl⟩
  rw [← g26] at A26 D26 st26
  have O26' := O25'.ext E26
  have F26_coder : Fld Z h26 b26 "java/lang/String" "coder" "B" (.int (0 : Int32)) := D26 (Or.inr (hw _ (List.mem_of_getElem? (i := 34) rfl))) (ty := .byte) (by decide)
  have F26_value : Fld Z h26 b26 "java/lang/String" "value" "[B" .null := D26 (Or.inr (hw _ (List.mem_of_getElem? (i := 36) rfl))) (ty := (.array .byte)) (by decide)
  refine own_k (T' := T26) (g' := (mkF m 251 #[.val (.long p0), .second, .val (.long p1), .second, .val (.long p2), .second, .val (.int p3), .val (.int p4), .val (.int p5), .val (.ref b1), .val (.int f), .val (.int t), .unset, .unset, .unset, .unset, .unset] [(.ref b26)])) st26 ?_
  refine own_k (T' := T26) (g' := (mkF m 252 #[.val (.long p0), .second, .val (.long p1), .second, .val (.long p2), .second, .val (.int p3), .val (.int p4), .val (.int p5), .val (.ref b1), .val (.int f), .val (.int t), .unset, .unset, .unset, .unset, .unset] [(.ref b26), (.ref b26)])) (fun _ k_ => XS.dup X26.here hx rfl (hb hby at_251) rfl rfl k_) ?_
  refine own_k (T' := T26) (g' := (mkF m 254 #[.val (.long p0), .second, .val (.long p1), .second, .val (.long p2), .second, .val (.int p3), .val (.int p4), .val (.int p5), .val (.ref b1), .val (.int f), .val (.int t), .unset, .unset, .unset, .unset, .unset] [(.ref b1), (.ref b26), (.ref b26)])) (fun _ k_ => XS.aload X26.here hx rfl (hb hby at_252) rfl rfl  k_) ?_
  refine own_callN X26 hx hZ (y := (⟨"java/lang/String", "<init>", "([C)V"⟩ : MethodName)) rfl hown (hw _ (List.mem_of_getElem? (i := 11) rfl)) (hw _ (List.mem_of_getElem? (i := 12) rfl)) (hw _ (List.mem_of_getElem? (i := 13) rfl)) (hw _ (List.mem_of_getElem? (i := 10) rfl)) (by decide) (al := [(.ref b1)]) (b := b26) (rm_newstr l Z a0 g_COMPACT_STRINGS g_SIOOBE_FORMATTER hW b26 b1 k1 c0 c1 c2 c3 c4 c5 c6 c7 c8 c9 c10 c11 h26 O26' A26 F26_value F26_coder (V25.ext E26) (Nat.le_trans O25'.2.1 (Nat.le_of_eq g26.symm)) (Ne.symm (Nat.ne_of_lt (Nat.lt_of_lt_of_le (Nat.lt_of_lt_of_le (Nat.lt_of_lt_of_le (Nat.lt_of_lt_of_le (Nat.lt_of_lt_of_le (Nat.lt_of_lt_of_le (Nat.lt_of_lt_of_le (Nat.lt_of_lt_of_le (Nat.lt_of_lt_of_le (Nat.lt_of_lt_of_le (Nat.lt_of_lt_of_le (Nat.lt_of_lt_of_le (Nat.lt_of_lt_of_le A1.lt (Keep.of_wr W3).1) (Keep.of_wr W5).1) (Keep.of_wr W7).1) (Keep.of_wr W9).1) (Keep.of_wr W11).1) (Keep.of_wr W13).1) (Keep.of_wr W15).1) (Keep.of_wr W17).1) (Keep.of_wr W19).1) (Keep.of_wr W21).1) (Keep.of_wr W23).1) (Keep.of_wr W25).1) (Nat.le_of_eq g26.symm)))) r0 r1 r2 r3 r4 r5 r6 r7 r8 r9 r10 r11) 1 (by decide) (by decide) e26 (by decide) (by decide) (by rw [hml]; rfl) (lenOf pd__28_5bC_29V rfl) rfl (rest := [(.ref b26)]) (by show 2 * 0 + _ ≤ _; exact Nat.le_of_eq rfl) (hb hby at_254) ?_
  intro v27 T27 L27 X27 hQ27
  obtain ⟨rfl, Nq27, K27, hS⟩ := hQ27
  have N27 := Fr.app N25 Nq27
  have O27' := O26'.keep K27 (allS (Nat.le_trans O25'.2.1 (Nat.le_of_eq g26.symm)) all0)
  show own_Go p e below Φ T27 (mkF m 257 #[.val (.long p0), .second, .val (.long p1), .second, .val (.long p2), .second, .val (.int p3), .val (.int p4), .val (.int p5), .val (.ref b1), .val (.int f), .val (.int t), .unset, .unset, .unset, .unset, .unset] [(.ref b26)])
  refine own_k (T' := T27) (g' := (mkF m 259 #[.val (.long p0), .second, .val (.long p1), .second, .val (.long p2), .second, .val (.int p3), .val (.int p4), .val (.int p5), .val (.ref b1), .val (.int f), .val (.int t), .val (.ref b26), .unset, .unset, .unset, .unset] [])) (fun _ k_ => XS.astore X27.here hx rfl (hb hby at_257) rfl rfl (l' := #[.val (.long p0), .second, .val (.long p1), .second, .val (.long p2), .second, .val (.int p3), .val (.int p4), .val (.int p5), .val (.ref b1), .val (.int f), .val (.int t), .val (.ref b26), .unset, .unset, .unset, .unset]) rfl k_) ?_
  refine own_k (T' := T27) (g' := (mkF m 261 #[.val (.long p0), .second, .val (.long p1), .second, .val (.long p2), .second, .val (.int p3), .val (.int p4), .val (.int p5), .val (.ref b1), .val (.int f), .val (.int t), .val (.ref b26), .unset, .unset, .unset, .unset] [(.ref b26)])) (fun _ k_ => XS.aload X27.here hx rfl (hb hby at_259) rfl rfl  k_) ?_
  refine own_k (T' := T27) (g' := (mkF m 263 #[.val (.long p0), .second, .val (.long p1), .second, .val (.long p2), .second, .val (.int p3), .val (.int p4), .val (.int p5), .val (.ref b1), .val (.int f), .val (.int t), .val (.ref b26), .unset, .unset, .unset, .unset] [(.int f), (.ref b26)])) (fun _ k_ => XS.iload X27.here hx rfl (hb hby at_261) rfl  k_) ?_
  refine own_k (T' := T27) (g' := (mkF m 265 #[.val (.long p0), .second, .val (.long p1), .second, .val (.long p2), .second, .val (.int p3), .val (.int p4), .val (.int p5), .val (.ref b1), .val (.int f), .val (.int t), .val (.ref b26), .unset, .unset, .unset, .unset] [(.int t), (.int f), (.ref b26)])) (fun _ k_ => XS.iload X27.here hx rfl (hb hby at_263) rfl  k_) ?_
  refine own_callS X27 hx hZ (y := (⟨"com/example/couponforge/couponforge/io/DecimalNumber", "wholeNumber", "(Ljava/lang/String;II)I"⟩ : MethodName)) hown (hw _ (List.mem_of_getElem? (i := 37) rfl)) (hw _ (List.mem_of_getElem? (i := 38) rfl)) (hw _ (List.mem_of_getElem? (i := 39) rfl)) (hw _ (List.mem_of_getElem? (i := 40) rfl)) (by decide) (al := [(.ref b26), (.int f), (.int t)]) (rm_whole l Z a0 g_COMPACT_STRINGS g_SIOOBE_FORMATTER hW b26 f t [c0, c1, c2, c3, c4, c5, c6, c7, c8, c9, c10, c11] T27.heap O27' hS (own_str_exa hS) (fun _ => ⟨rf.1, rt.2⟩) (own_all_12 r0 r1 r2 r3 r4 r5 r6 r7 r8 r9 r10 r11)) 0 (by decide) (by decide) rfl (by decide) (by decide) (by rw [hml]; rfl) (lenOf pd__28Ljava_2flang_2fString_3bII_29I rfl) rfl (rest := []) (by show 2 * 0 + _ ≤ _; exact Nat.le_of_eq rfl) (hb hby at_265) ?_
  intro v28 T28 L28 X28 hQ28
  obtain ⟨⟨rr, rfl, hrr⟩, Nq28, e28⟩ := hQ28
  have N28 := Fr.app N27 Nq28
  show own_Go p e below Φ T28 (mkF m 268 #[.val (.long p0), .second, .val (.long p1), .second, .val (.long p2), .second, .val (.int p3), .val (.int p4), .val (.int p5), .val (.ref b1), .val (.int f), .val (.int t), .val (.ref b26), .unset, .unset, .unset, .unset] [(.int rr)])
  have hsm : ¬ (9 : Int32) < (t - f) → t.toInt - f.toInt ≤ 9 := own_le9 rf.1 rt.2
  rcases hrr with ⟨hA1, hA2, hA3, hA4⟩ | ⟨hB, rfl⟩
  · have hA4 := own_wh rf.1 rt.2 hA1 hA3 hA4
    refine own_k (T' := T28) (g' := (mkF m 270 #[.val (.long p0), .second, .val (.long p1), .second, .val (.long p2), .second, .val (.int p3), .val (.int p4), .val (.int p5), .val (.ref b1), .val (.int f), .val (.int t), .val (.ref b26), .val (.int rr), .unset, .unset, .unset] [])) (fun _ k_ => XS.istore X28.here hx rfl (hb hby at_268) rfl (l' := #[.val (.long p0), .second, .val (.long p1), .second, .val (.long p2), .second, .val (.int p3), .val (.int p4), .val (.int p5), .val (.ref b1), .val (.int f), .val (.int t), .val (.ref b26), .val (.int rr), .unset, .unset, .unset]) rfl k_) ?_
    refine own_k (T' := T28) (g' := (mkF m 272 #[.val (.long p0), .second, .val (.long p1), .second, .val (.long p2), .second, .val (.int p3), .val (.int p4), .val (.int p5), .val (.ref b1), .val (.int f), .val (.int t), .val (.ref b26), .val (.int rr), .unset, .unset, .unset] [(.int f)])) (fun _ k_ => XS.iload X28.here hx rfl (hb hby at_270) rfl  k_) ?_
    refine own_k (T' := T28) (g' := (mkF m 274 #[.val (.long p0), .second, .val (.long p1), .second, .val (.long p2), .second, .val (.int p3), .val (.int p4), .val (.int p5), .val (.ref b1), .val (.int f), .val (.int t), .val (.ref b26), .val (.int rr), .unset, .unset, .unset] [(.int t), (.int f)])) (fun _ k_ => XS.iload X28.here hx rfl (hb hby at_272) rfl  k_) ?_
    refine own_k (T' := T28) (g' := (mkF m 277 #[.val (.long p0), .second, .val (.long p1), .second, .val (.long p2), .second, .val (.int p3), .val (.int p4), .val (.int p5), .val (.ref b1), .val (.int f), .val (.int t), .val (.ref b26), .val (.int rr), .unset, .unset, .unset] [])) (fun _ k_ => XS.icmpNo X28.here hx rfl (hb hby at_274) rfl ((tlt hA1).2.1) k_) ?_
    refine own_k (T' := T28) (g' := (mkF m 279 #[.val (.long p0), .second, .val (.long p1), .second, .val (.long p2), .second, .val (.int p3), .val (.int p4), .val (.int p5), .val (.ref b1), .val (.int f), .val (.int t), .val (.ref b26), .val (.int rr), .unset, .unset, .unset] [(.int t)])) (fun _ k_ => XS.iload X28.here hx rfl (hb hby at_277) rfl  k_) ?_
    refine own_k (T' := T28) (g' := (mkF m 281 #[.val (.long p0), .second, .val (.long p1), .second, .val (.long p2), .second, .val (.int p3), .val (.int p4), .val (.int p5), .val (.ref b1), .val (.int f), .val (.int t), .val (.ref b26), .val (.int rr), .unset, .unset, .unset] [(.int f), (.int t)])) (fun _ k_ => XS.iload X28.here hx rfl (hb hby at_279) rfl  k_) ?_
    refine own_k (T' := T28) (g' := (mkF m 282 #[.val (.long p0), .second, .val (.long p1), .second, .val (.long p2), .second, .val (.int p3), .val (.int p4), .val (.int p5), .val (.ref b1), .val (.int f), .val (.int t), .val (.ref b26), .val (.int rr), .unset, .unset, .unset] [(.int (t - f))])) (fun _ k_ => XS.isub X28.here hx rfl (hb hby at_281) rfl k_) ?_
    refine own_k (T' := T28) (g' := (mkF m 284 #[.val (.long p0), .second, .val (.long p1), .second, .val (.long p2), .second, .val (.int p3), .val (.int p4), .val (.int p5), .val (.ref b1), .val (.int f), .val (.int t), .val (.ref b26), .val (.int rr), .unset, .unset, .unset] [(.int (9 : Int32)), (.int (t - f))])) (fun _ k_ => XS.bipush X28.here hx rfl (hb hby at_282) k_) ?_
    refine own_k (T' := T28) (g' := (mkF m 293 #[.val (.long p0), .second, .val (.long p1), .second, .val (.long p2), .second, .val (.int p3), .val (.int p4), .val (.int p5), .val (.ref b1), .val (.int f), .val (.int t), .val (.ref b26), .val (.int rr), .unset, .unset, .unset] [])) (fun _ k_ => XS.icmpYes X28.here hx rfl (pc0 := 284) (pc' := 293) rfl (hb hby at_284) rfl ((flt hA2).2.2.2) (by decide) (by decide) k_) ?_
    refine own_k (T' := T28) (g' := (mkF m 295 #[.val (.long p0), .second, .val (.long p1), .second, .val (.long p2), .second, .val (.int p3), .val (.int p4), .val (.int p5), .val (.ref b1), .val (.int f), .val (.int t), .val (.ref b26), .val (.int rr), .unset, .unset, .unset] [(.ref b1)])) (fun _ k_ => XS.aload X28.here hx rfl (hb hby at_293) rfl rfl  k_) ?_
    refine own_k (T' := T28) (g' := (mkF m 296 #[.val (.long p0), .second, .val (.long p1), .second, .val (.long p2), .second, .val (.int p3), .val (.int p4), .val (.int p5), .val (.ref b1), .val (.int f), .val (.int t), .val (.ref b26), .val (.int rr), .unset, .unset, .unset] [(.int (0 : Int32)), (.ref b1)])) (fun _ k_ => XS.iconst X28.here hx rfl (hb hby at_295) k_) ?_
    refine own_k (T' := T28) (g' := (mkF m 298 #[.val (.long p0), .second, .val (.long p1), .second, .val (.long p2), .second, .val (.int p3), .val (.int p4), .val (.int p5), .val (.ref b1), .val (.int f), .val (.int t), .val (.ref b26), .val (.int rr), .unset, .unset, .unset] [(.int f), (.int (0 : Int32)), (.ref b1)])) (fun _ k_ => XS.iload X28.here hx rfl (hb hby at_296) rfl  k_) ?_
    refine own_k (T' := T28) (g' := (mkF m 300 #[.val (.long p0), .second, .val (.long p1), .second, .val (.long p2), .second, .val (.int p3), .val (.int p4), .val (.int p5), .val (.ref b1), .val (.int f), .val (.int t), .val (.ref b26), .val (.int rr), .unset, .unset, .unset] [(.int t), (.int f), (.int (0 : Int32)), (.ref b1)])) (fun _ k_ => XS.iload X28.here hx rfl (hb hby at_298) rfl  k_) ?_
    have f30 := ((V25.ext E26).keep K27 (ninS (Nat.ne_of_lt (Nat.lt_of_lt_of_le (Nat.lt_of_lt_of_le (Nat.lt_of_lt_of_le (Nat.lt_of_lt_of_le (Nat.lt_of_lt_of_le (Nat.lt_of_lt_of_le (Nat.lt_of_lt_of_le (Nat.lt_of_lt_of_le (Nat.lt_of_lt_of_le (Nat.lt_of_lt_of_le (Nat.lt_of_lt_of_le (Nat.lt_of_lt_of_le (Nat.lt_of_lt_of_le A1.lt (Keep.of_wr W3).1) (Keep.of_wr W5).1) (Keep.of_wr W7).1) (Keep.of_wr W9).1) (Keep.of_wr W11).1) (Keep.of_wr W13).1) (Keep.of_wr W15).1) (Keep.of_wr W17).1) (Keep.of_wr W19).1) (Keep.of_wr W21).1) (Keep.of_wr W23).1) (Keep.of_wr W25).1) (Nat.le_of_eq g26.symm))) nin0))
    refine own_callS X28 hx hZ (y := (⟨"com/example/couponforge/couponforge/io/DecimalNumberWholeNumberPinLaw", "part", "([CIII)J"⟩ : MethodName)) hown (hw _ (List.mem_of_getElem? (i := 90) rfl)) (hw _ (List.mem_of_getElem? (i := 91) rfl)) (hw _ (List.mem_of_getElem? (i := 3) rfl)) (hw _ (List.mem_of_getElem? (i := 92) rfl)) (by decide) (al := [(.ref b1), (.int (0 : Int32)), (.int f), (.int t)]) (rm_part l Z a0 g_COMPACT_STRINGS g_SIOOBE_FORMATTER hW b1 k1 (0 : Int32) f t [c0, c1, c2, c3, c4, c5, c6, c7, c8, c9, c10, c11] T27.heap O27' f30 (by decide) rf.1 (hsm hA2) (own_all_12 r0 r1 r2 r3 r4 r5 r6 r7 r8 r9 r10 r11)) 0 (by decide) (by decide) e28 (by decide) (by decide) (by rw [hml]; rfl) (lenOf pd__28_5bCIII_29J rfl) rfl (rest := []) (by show 2 * 0 + _ ≤ _; exact Nat.le_of_eq rfl) (hb hby at_300) ?_
    intro v31 T31 L31 X31 hQ31
    obtain ⟨⟨z29, rfl, hz_z29⟩, Nq31, K31⟩ := hQ31
    have N31 := Fr.app N28 Nq31
    have O31' := O27'.keep K31 all0
    show own_Go p e below Φ T31 (mkF m 303 #[.val (.long p0), .second, .val (.long p1), .second, .val (.long p2), .second, .val (.int p3), .val (.int p4), .val (.int p5), .val (.ref b1), .val (.int f), .val (.int t), .val (.ref b26), .val (.int rr), .unset, .unset, .unset] [(.long z29)])
    refine own_k (T' := T31) (g' := (mkF m 305 #[.val (.long p0), .second, .val (.long p1), .second, .val (.long p2), .second, .val (.int p3), .val (.int p4), .val (.int p5), .val (.ref b1), .val (.int f), .val (.int t), .val (.ref b26), .val (.int rr), .unset, .unset, .unset] [(.ref b1), (.long z29)])) (fun _ k_ => XS.aload X31.here hx rfl (hb hby at_303) rfl rfl  k_) ?_
    refine own_k (T' := T31) (g' := (mkF m 306 #[.val (.long p0), .second, .val (.long p1), .second, .val (.long p2), .second, .val (.int p3), .val (.int p4), .val (.int p5), .val (.ref b1), .val (.int f), .val (.int t), .val (.ref b26), .val (.int rr), .unset, .unset, .unset] [(.int (1 : Int32)), (.ref b1), (.long z29)])) (fun _ k_ => XS.iconst X31.here hx rfl (hb hby at_305) k_) ?_
    refine own_k (T' := T31) (g' := (mkF m 308 #[.val (.long p0), .second, .val (.long p1), .second, .val (.long p2), .second, .val (.int p3), .val (.int p4), .val (.int p5), .val (.ref b1), .val (.int f), .val (.int t), .val (.ref b26), .val (.int rr), .unset, .unset, .unset] [(.int f), (.int (1 : Int32)), (.ref b1), (.long z29)])) (fun _ k_ => XS.iload X31.here hx rfl (hb hby at_306) rfl  k_) ?_
    refine own_k (T' := T31) (g' := (mkF m 310 #[.val (.long p0), .second, .val (.long p1), .second, .val (.long p2), .second, .val (.int p3), .val (.int p4), .val (.int p5), .val (.ref b1), .val (.int f), .val (.int t), .val (.ref b26), .val (.int rr), .unset, .unset, .unset] [(.int t), (.int f), (.int (1 : Int32)), (.ref b1), (.long z29)])) (fun _ k_ => XS.iload X31.here hx rfl (hb hby at_308) rfl  k_) ?_
    refine own_callS X31 hx hZ (y := (⟨"com/example/couponforge/couponforge/io/DecimalNumberWholeNumberPinLaw", "part", "([CIII)J"⟩ : MethodName)) hown (hw _ (List.mem_of_getElem? (i := 90) rfl)) (hw _ (List.mem_of_getElem? (i := 91) rfl)) (hw _ (List.mem_of_getElem? (i := 3) rfl)) (hw _ (List.mem_of_getElem? (i := 92) rfl)) (by decide) (al := [(.ref b1), (.int (1 : Int32)), (.int f), (.int t)]) (rm_part l Z a0 g_COMPACT_STRINGS g_SIOOBE_FORMATTER hW b1 k1 (1 : Int32) f t [c0, c1, c2, c3, c4, c5, c6, c7, c8, c9, c10, c11] T31.heap O31' (f30.keep K31 nin0) (by decide) rf.1 (hsm hA2) (own_all_12 r0 r1 r2 r3 r4 r5 r6 r7 r8 r9 r10 r11)) 2 (by decide) (by decide) rfl (by decide) (by decide) (by rw [hml]; rfl) (lenOf pd__28_5bCIII_29J rfl) rfl (rest := [(.long z29)]) (by show 2 * 0 + _ ≤ _; exact Nat.le_of_eq rfl) (hb hby at_310) ?_
    intro v33 T33 L33 X33 hQ33
    obtain ⟨⟨z32, rfl, hz_z32⟩, Nq33, K33⟩ := hQ33
    have N33 := Fr.app N31 Nq33
    have O33' := O31'.keep K33 all0
    show own_Go p e below Φ T33 (mkF m 313 #[.val (.long p0), .second, .val (.long p1), .second, .val (.long p2), .second, .val (.int p3), .val (.int p4), .val (.int p5), .val (.ref b1), .val (.int f), .val (.int t), .val (.ref b26), .val (.int rr), .unset, .unset, .unset] [(.long z32), (.long z29)])
    refine own_k (T' := T33) (g' := (mkF m 314 #[.val (.long p0), .second, .val (.long p1), .second, .val (.long p2), .second, .val (.int p3), .val (.int p4), .val (.int p5), .val (.ref b1), .val (.int f), .val (.int t), .val (.ref b26), .val (.int rr), .unset, .unset, .unset] [(.long (z29 + z32))])) (fun _ k_ => XS.ladd X33.here hx rfl (hb hby at_313) rfl k_) ?_
    refine own_k (T' := T33) (g' := (mkF m 316 #[.val (.long p0), .second, .val (.long p1), .second, .val (.long p2), .second, .val (.int p3), .val (.int p4), .val (.int p5), .val (.ref b1), .val (.int f), .val (.int t), .val (.ref b26), .val (.int rr), .unset, .unset, .unset] [(.ref b1), (.long (z29 + z32))])) (fun _ k_ => XS.aload X33.here hx rfl (hb hby at_314) rfl rfl  k_) ?_
    refine own_k (T' := T33) (g' := (mkF m 317 #[.val (.long p0), .second, .val (.long p1), .second, .val (.long p2), .second, .val (.int p3), .val (.int p4), .val (.int p5), .val (.ref b1), .val (.int f), .val (.int t), .val (.ref b26), .val (.int rr), .unset, .unset, .unset] [(.int (2 : Int32)), (.ref b1), (.long (z29 + z32))])) (fun _ k_ => XS.iconst X33.here hx rfl (hb hby at_316) k_) ?_
    refine own_k (T' := T33) (g' := (mkF m 319 #[.val (.long p0), .second, .val (.long p1), .second, .val (.long p2), .second, .val (.int p3), .val (.int p4), .val (.int p5), .val (.ref b1), .val (.int f), .val (.int t), .val (.ref b26), .val (.int rr), .unset, .unset, .unset] [(.int f), (.int (2 : Int32)), (.ref b1), (.long (z29 + z32))])) (fun _ k_ => XS.iload X33.here hx rfl (hb hby at_317) rfl  k_) ?_
    refine own_k (T' := T33) (g' := (mkF m 321 #[.val (.long p0), .second, .val (.long p1), .second, .val (.long p2), .second, .val (.int p3), .val (.int p4), .val (.int p5), .val (.ref b1), .val (.int f), .val (.int t), .val (.ref b26), .val (.int rr), .unset, .unset, .unset] [(.int t), (.int f), (.int (2 : Int32)), (.ref b1), (.long (z29 + z32))])) (fun _ k_ => XS.iload X33.here hx rfl (hb hby at_319) rfl  k_) ?_
    refine own_callS X33 hx hZ (y := (⟨"com/example/couponforge/couponforge/io/DecimalNumberWholeNumberPinLaw", "part", "([CIII)J"⟩ : MethodName)) hown (hw _ (List.mem_of_getElem? (i := 90) rfl)) (hw _ (List.mem_of_getElem? (i := 91) rfl)) (hw _ (List.mem_of_getElem? (i := 3) rfl)) (hw _ (List.mem_of_getElem? (i := 92) rfl)) (by decide) (al := [(.ref b1), (.int (2 : Int32)), (.int f), (.int t)]) (rm_part l Z a0 g_COMPACT_STRINGS g_SIOOBE_FORMATTER hW b1 k1 (2 : Int32) f t [c0, c1, c2, c3, c4, c5, c6, c7, c8, c9, c10, c11] T33.heap O33' ((f30.keep K31 nin0).keep K33 nin0) (by decide) rf.1 (hsm hA2) (own_all_12 r0 r1 r2 r3 r4 r5 r6 r7 r8 r9 r10 r11)) 2 (by decide) (by decide) rfl (by decide) (by decide) (by rw [hml]; rfl) (lenOf pd__28_5bCIII_29J rfl) rfl (rest := [(.long (z29 + z32))]) (by show 2 * 0 + _ ≤ _; exact Nat.le_of_eq rfl) (hb hby at_321) ?_
    intro v35 T35 L35 X35 hQ35
    obtain ⟨⟨z34, rfl, hz_z34⟩, Nq35, K35⟩ := hQ35
    have N35 := Fr.app N33 Nq35
    have O35' := O33'.keep K35 all0
    show own_Go p e below Φ T35 (mkF m 324 #[.val (.long p0), .second, .val (.long p1), .second, .val (.long p2), .second, .val (.int p3), .val (.int p4), .val (.int p5), .val (.ref b1), .val (.int f), .val (.int t), .val (.ref b26), .val (.int rr), .unset, .unset, .unset] [(.long z34), (.long (z29 + z32))])
    refine own_k (T' := T35) (g' := (mkF m 325 #[.val (.long p0), .second, .val (.long p1), .second, .val (.long p2), .second, .val (.int p3), .val (.int p4), .val (.int p5), .val (.ref b1), .val (.int f), .val (.int t), .val (.ref b26), .val (.int rr), .unset, .unset, .unset] [(.long ((z29 + z32) + z34))])) (fun _ k_ => XS.ladd X35.here hx rfl (hb hby at_324) rfl k_) ?_
    refine own_k (T' := T35) (g' := (mkF m 327 #[.val (.long p0), .second, .val (.long p1), .second, .val (.long p2), .second, .val (.int p3), .val (.int p4), .val (.int p5), .val (.ref b1), .val (.int f), .val (.int t), .val (.ref b26), .val (.int rr), .unset, .unset, .unset] [(.ref b1), (.long ((z29 + z32) + z34))])) (fun _ k_ => XS.aload X35.here hx rfl (hb hby at_325) rfl rfl  k_) ?_
    refine own_k (T' := T35) (g' := (mkF m 328 #[.val (.long p0), .second, .val (.long p1), .second, .val (.long p2), .second, .val (.int p3), .val (.int p4), .val (.int p5), .val (.ref b1), .val (.int f), .val (.int t), .val (.ref b26), .val (.int rr), .unset, .unset, .unset] [(.int (3 : Int32)), (.ref b1), (.long ((z29 + z32) + z34))])) (fun _ k_ => XS.iconst X35.here hx rfl (hb hby at_327) k_) ?_
    refine own_k (T' := T35) (g' := (mkF m 330 #[.val (.long p0), .second, .val (.long p1), .second, .val (.long p2), .second, .val (.int p3), .val (.int p4), .val (.int p5), .val (.ref b1), .val (.int f), .val (.int t), .val (.ref b26), .val (.int rr), .unset, .unset, .unset] [(.int f), (.int (3 : Int32)), (.ref b1), (.long ((z29 + z32) + z34))])) (fun _ k_ => XS.iload X35.here hx rfl (hb hby at_328) rfl  k_) ?_
    refine own_k (T' := T35) (g' := (mkF m 332 #[.val (.long p0), .second, .val (.long p1), .second, .val (.long p2), .second, .val (.int p3), .val (.int p4), .val (.int p5), .val (.ref b1), .val (.int f), .val (.int t), .val (.ref b26), .val (.int rr), .unset, .unset, .unset] [(.int t), (.int f), (.int (3 : Int32)), (.ref b1), (.long ((z29 + z32) + z34))])) (fun _ k_ => XS.iload X35.here hx rfl (hb hby at_330) rfl  k_) ?_
    refine own_callS X35 hx hZ (y := (⟨"com/example/couponforge/couponforge/io/DecimalNumberWholeNumberPinLaw", "part", "([CIII)J"⟩ : MethodName)) hown (hw _ (List.mem_of_getElem? (i := 90) rfl)) (hw _ (List.mem_of_getElem? (i := 91) rfl)) (hw _ (List.mem_of_getElem? (i := 3) rfl)) (hw _ (List.mem_of_getElem? (i := 92) rfl)) (by decide) (al := [(.ref b1), (.int (3 : Int32)), (.int f), (.int t)]) (rm_part l Z a0 g_COMPACT_STRINGS g_SIOOBE_FORMATTER hW b1 k1 (3 : Int32) f t [c0, c1, c2, c3, c4, c5, c6, c7, c8, c9, c10, c11] T35.heap O35' (((f30.keep K31 nin0).keep K33 nin0).keep K35 nin0) (by decide) rf.1 (hsm hA2) (own_all_12 r0 r1 r2 r3 r4 r5 r6 r7 r8 r9 r10 r11)) 2 (by decide) (by decide) rfl (by decide) (by decide) (by rw [hml]; rfl) (lenOf pd__28_5bCIII_29J rfl) rfl (rest := [(.long ((z29 + z32) + z34))]) (by show 2 * 0 + _ ≤ _; exact Nat.le_of_eq rfl) (hb hby at_332) ?_
    intro v37 T37 L37 X37 hQ37
    obtain ⟨⟨z36, rfl, hz_z36⟩, Nq37, K37⟩ := hQ37
    have N37 := Fr.app N35 Nq37
    have O37' := O35'.keep K37 all0
    show own_Go p e below Φ T37 (mkF m 335 #[.val (.long p0), .second, .val (.long p1), .second, .val (.long p2), .second, .val (.int p3), .val (.int p4), .val (.int p5), .val (.ref b1), .val (.int f), .val (.int t), .val (.ref b26), .val (.int rr), .unset, .unset, .unset] [(.long z36), (.long ((z29 + z32) + z34))])
    refine own_k (T' := T37) (g' := (mkF m 336 #[.val (.long p0), .second, .val (.long p1), .second, .val (.long p2), .second, .val (.int p3), .val (.int p4), .val (.int p5), .val (.ref b1), .val (.int f), .val (.int t), .val (.ref b26), .val (.int rr), .unset, .unset, .unset] [(.long (((z29 + z32) + z34) + z36))])) (fun _ k_ => XS.ladd X37.here hx rfl (hb hby at_335) rfl k_) ?_
    refine own_k (T' := T37) (g' := (mkF m 338 #[.val (.long p0), .second, .val (.long p1), .second, .val (.long p2), .second, .val (.int p3), .val (.int p4), .val (.int p5), .val (.ref b1), .val (.int f), .val (.int t), .val (.ref b26), .val (.int rr), .unset, .unset, .unset] [(.ref b1), (.long (((z29 + z32) + z34) + z36))])) (fun _ k_ => XS.aload X37.here hx rfl (hb hby at_336) rfl rfl  k_) ?_
    refine own_k (T' := T37) (g' := (mkF m 339 #[.val (.long p0), .second, .val (.long p1), .second, .val (.long p2), .second, .val (.int p3), .val (.int p4), .val (.int p5), .val (.ref b1), .val (.int f), .val (.int t), .val (.ref b26), .val (.int rr), .unset, .unset, .unset] [(.int (4 : Int32)), (.ref b1), (.long (((z29 + z32) + z34) + z36))])) (fun _ k_ => XS.iconst X37.here hx rfl (hb hby at_338) k_) ?_
    refine own_k (T' := T37) (g' := (mkF m 341 #[.val (.long p0), .second, .val (.long p1), .second, .val (.long p2), .second, .val (.int p3), .val (.int p4), .val (.int p5), .val (.ref b1), .val (.int f), .val (.int t), .val (.ref b26), .val (.int rr), .unset, .unset, .unset] [(.int f), (.int (4 : Int32)), (.ref b1), (.long (((z29 + z32) + z34) + z36))])) (fun _ k_ => XS.iload X37.here hx rfl (hb hby at_339) rfl  k_) ?_
    refine own_k (T' := T37) (g' := (mkF m 343 #[.val (.long p0), .second, .val (.long p1), .second, .val (.long p2), .second, .val (.int p3), .val (.int p4), .val (.int p5), .val (.ref b1), .val (.int f), .val (.int t), .val (.ref b26), .val (.int rr), .unset, .unset, .unset] [(.int t), (.int f), (.int (4 : Int32)), (.ref b1), (.long (((z29 + z32) + z34) + z36))])) (fun _ k_ => XS.iload X37.here hx rfl (hb hby at_341) rfl  k_) ?_
    have f39 := ((((f30.keep K31 nin0).keep K33 nin0).keep K35 nin0).keep K37 nin0)
    refine own_callS X37 hx hZ (y := (⟨"com/example/couponforge/couponforge/io/DecimalNumberWholeNumberPinLaw", "part", "([CIII)J"⟩ : MethodName)) hown (hw _ (List.mem_of_getElem? (i := 90) rfl)) (hw _ (List.mem_of_getElem? (i := 91) rfl)) (hw _ (List.mem_of_getElem? (i := 3) rfl)) (hw _ (List.mem_of_getElem? (i := 92) rfl)) (by decide) (al := [(.ref b1), (.int (4 : Int32)), (.int f), (.int t)]) (rm_part l Z a0 g_COMPACT_STRINGS g_SIOOBE_FORMATTER hW b1 k1 (4 : Int32) f t [c0, c1, c2, c3, c4, c5, c6, c7, c8, c9, c10, c11] T37.heap O37' f39 (by decide) rf.1 (hsm hA2) (own_all_12 r0 r1 r2 r3 r4 r5 r6 r7 r8 r9 r10 r11)) 2 (by decide) (by decide) rfl (by decide) (by decide) (by rw [hml]; rfl) (lenOf pd__28_5bCIII_29J rfl) rfl (rest := [(.long (((z29 + z32) + z34) + z36))]) (by show 2 * 0 + _ ≤ _; exact Nat.le_of_eq rfl) (hb hby at_343) ?_
    intro v40 T40 L40 X40 hQ40
    obtain ⟨⟨z38, rfl, hz_z38⟩, Nq40, K40⟩ := hQ40
    have N40 := Fr.app N37 Nq40
    have O40' := O37'.keep K40 all0
    show own_Go p e below Φ T40 (mkF m 346 #[.val (.long p0), .second, .val (.long p1), .second, .val (.long p2), .second, .val (.int p3), .val (.int p4), .val (.int p5), .val (.ref b1), .val (.int f), .val (.int t), .val (.ref b26), .val (.int rr), .unset, .unset, .unset] [(.long z38), (.long (((z29 + z32) + z34) + z36))])
    refine own_k (T' := T40) (g' := (mkF m 347 #[.val (.long p0), .second, .val (.long p1), .second, .val (.long p2), .second, .val (.int p3), .val (.int p4), .val (.int p5), .val (.ref b1), .val (.int f), .val (.int t), .val (.ref b26), .val (.int rr), .unset, .unset, .unset] [(.long ((((z29 + z32) + z34) + z36) + z38))])) (fun _ k_ => XS.ladd X40.here hx rfl (hb hby at_346) rfl k_) ?_
    refine own_k (T' := T40) (g' := (mkF m 349 #[.val (.long p0), .second, .val (.long p1), .second, .val (.long p2), .second, .val (.int p3), .val (.int p4), .val (.int p5), .val (.ref b1), .val (.int f), .val (.int t), .val (.ref b26), .val (.int rr), .unset, .unset, .unset] [(.ref b1), (.long ((((z29 + z32) + z34) + z36) + z38))])) (fun _ k_ => XS.aload X40.here hx rfl (hb hby at_347) rfl rfl  k_) ?_
    refine own_k (T' := T40) (g' := (mkF m 350 #[.val (.long p0), .second, .val (.long p1), .second, .val (.long p2), .second, .val (.int p3), .val (.int p4), .val (.int p5), .val (.ref b1), .val (.int f), .val (.int t), .val (.ref b26), .val (.int rr), .unset, .unset, .unset] [(.int (5 : Int32)), (.ref b1), (.long ((((z29 + z32) + z34) + z36) + z38))])) (fun _ k_ => XS.iconst X40.here hx rfl (hb hby at_349) k_) ?_
    refine own_k (T' := T40) (g' := (mkF m 352 #[.val (.long p0), .second, .val (.long p1), .second, .val (.long p2), .second, .val (.int p3), .val (.int p4), .val (.int p5), .val (.ref b1), .val (.int f), .val (.int t), .val (.ref b26), .val (.int rr), .unset, .unset, .unset] [(.int f), (.int (5 : Int32)), (.ref b1), (.long ((((z29 + z32) + z34) + z36) + z38))])) (fun _ k_ => XS.iload X40.here hx rfl (hb hby at_350) rfl  k_) ?_
    refine own_k (T' := T40) (g' := (mkF m 354 #[.val (.long p0), .second, .val (.long p1), .second, .val (.long p2), .second, .val (.int p3), .val (.int p4), .val (.int p5), .val (.ref b1), .val (.int f), .val (.int t), .val (.ref b26), .val (.int rr), .unset, .unset, .unset] [(.int t), (.int f), (.int (5 : Int32)), (.ref b1), (.long ((((z29 + z32) + z34) + z36) + z38))])) (fun _ k_ => XS.iload X40.here hx rfl (hb hby at_352) rfl  k_) ?_
    refine own_callS X40 hx hZ (y := (⟨"com/example/couponforge/couponforge/io/DecimalNumberWholeNumberPinLaw", "part", "([CIII)J"⟩ : MethodName)) hown (hw _ (List.mem_of_getElem? (i := 90) rfl)) (hw _ (List.mem_of_getElem? (i := 91) rfl)) (hw _ (List.mem_of_getElem? (i := 3) rfl)) (hw _ (List.mem_of_getElem? (i := 92) rfl)) (by decide) (al := [(.ref b1), (.int (5 : Int32)), (.int f), (.int t)]) (rm_part l Z a0 g_COMPACT_STRINGS g_SIOOBE_FORMATTER hW b1 k1 (5 : Int32) f t [c0, c1, c2, c3, c4, c5, c6, c7, c8, c9, c10, c11] T40.heap O40' (f39.keep K40 nin0) (by decide) rf.1 (hsm hA2) (own_all_12 r0 r1 r2 r3 r4 r5 r6 r7 r8 r9 r10 r11)) 2 (by decide) (by decide) rfl (by decide) (by decide) (by rw [hml]; rfl) (lenOf pd__28_5bCIII_29J rfl) rfl (rest := [(.long ((((z29 + z32) + z34) + z36) + z38))]) (by show 2 * 0 + _ ≤ _; exact Nat.le_of_eq rfl) (hb hby at_354) ?_
    intro v42 T42 L42 X42 hQ42
    obtain ⟨⟨z41, rfl, hz_z41⟩, Nq42, K42⟩ := hQ42
    have N42 := Fr.app N40 Nq42
    have O42' := O40'.keep K42 all0
    show own_Go p e below Φ T42 (mkF m 357 #[.val (.long p0), .second, .val (.long p1), .second, .val (.long p2), .second, .val (.int p3), .val (.int p4), .val (.int p5), .val (.ref b1), .val (.int f), .val (.int t), .val (.ref b26), .val (.int rr), .unset, .unset, .unset] [(.long z41), (.long ((((z29 + z32) + z34) + z36) + z38))])
    refine own_k (T' := T42) (g' := (mkF m 358 #[.val (.long p0), .second, .val (.long p1), .second, .val (.long p2), .second, .val (.int p3), .val (.int p4), .val (.int p5), .val (.ref b1), .val (.int f), .val (.int t), .val (.ref b26), .val (.int rr), .unset, .unset, .unset] [(.long (((((z29 + z32) + z34) + z36) + z38) + z41))])) (fun _ k_ => XS.ladd X42.here hx rfl (hb hby at_357) rfl k_) ?_
    refine own_k (T' := T42) (g' := (mkF m 360 #[.val (.long p0), .second, .val (.long p1), .second, .val (.long p2), .second, .val (.int p3), .val (.int p4), .val (.int p5), .val (.ref b1), .val (.int f), .val (.int t), .val (.ref b26), .val (.int rr), .unset, .unset, .unset] [(.ref b1), (.long (((((z29 + z32) + z34) + z36) + z38) + z41))])) (fun _ k_ => XS.aload X42.here hx rfl (hb hby at_358) rfl rfl  k_) ?_
    refine own_k (T' := T42) (g' := (mkF m 362 #[.val (.long p0), .second, .val (.long p1), .second, .val (.long p2), .second, .val (.int p3), .val (.int p4), .val (.int p5), .val (.ref b1), .val (.int f), .val (.int t), .val (.ref b26), .val (.int rr), .unset, .unset, .unset] [(.int (6 : Int32)), (.ref b1), (.long (((((z29 + z32) + z34) + z36) + z38) + z41))])) (fun _ k_ => XS.bipush X42.here hx rfl (hb hby at_360) k_) ?_
    refine own_k (T' := T42) (g' := (mkF m 364 #[.val (.long p0), .second, .val (.long p1), .second, .val (.long p2), .second, .val (.int p3), .val (.int p4), .val (.int p5), .val (.ref b1), .val (.int f), .val (.int t), .val (.ref b26), .val (.int rr), .unset, .unset, .unset] [(.int f), (.int (6 : Int32)), (.ref b1), (.long (((((z29 + z32) + z34) + z36) + z38) + z41))])) (fun _ k_ => XS.iload X42.here hx rfl (hb hby at_362) rfl  k_) ?_
    refine own_k (T' := T42) (g' := (mkF m 366 #[.val (.long p0), .second, .val (.long p1), .second, .val (.long p2), .second, .val (.int p3), .val (.int p4), .val (.int p5), .val (.ref b1), .val (.int f), .val (.int t), .val (.ref b26), .val (.int rr), .unset, .unset, .unset] [(.int t), (.int f), (.int (6 : Int32)), (.ref b1), (.long (((((z29 + z32) + z34) + z36) + z38) + z41))])) (fun _ k_ => XS.iload X42.here hx rfl (hb hby at_364) rfl  k_) ?_
    refine own_callS X42 hx hZ (y := (⟨"com/example/couponforge/couponforge/io/DecimalNumberWholeNumberPinLaw", "part", "([CIII)J"⟩ : MethodName)) hown (hw _ (List.mem_of_getElem? (i := 90) rfl)) (hw _ (List.mem_of_getElem? (i := 91) rfl)) (hw _ (List.mem_of_getElem? (i := 3) rfl)) (hw _ (List.mem_of_getElem? (i := 92) rfl)) (by decide) (al := [(.ref b1), (.int (6 : Int32)), (.int f), (.int t)]) (rm_part l Z a0 g_COMPACT_STRINGS g_SIOOBE_FORMATTER hW b1 k1 (6 : Int32) f t [c0, c1, c2, c3, c4, c5, c6, c7, c8, c9, c10, c11] T42.heap O42' ((f39.keep K40 nin0).keep K42 nin0) (by decide) rf.1 (hsm hA2) (own_all_12 r0 r1 r2 r3 r4 r5 r6 r7 r8 r9 r10 r11)) 2 (by decide) (by decide) rfl (by decide) (by decide) (by rw [hml]; rfl) (lenOf pd__28_5bCIII_29J rfl) rfl (rest := [(.long (((((z29 + z32) + z34) + z36) + z38) + z41))]) (by show 2 * 0 + _ ≤ _; exact Nat.le_of_eq rfl) (hb hby at_366) ?_
    intro v44 T44 L44 X44 hQ44
    obtain ⟨⟨z43, rfl, hz_z43⟩, Nq44, K44⟩ := hQ44
    have N44 := Fr.app N42 Nq44
    have O44' := O42'.keep K44 all0
    show own_Go p e below Φ T44 (mkF m 369 #[.val (.long p0), .second, .val (.long p1), .second, .val (.long p2), .second, .val (.int p3), .val (.int p4), .val (.int p5), .val (.ref b1), .val (.int f), .val (.int t), .val (.ref b26), .val (.int rr), .unset, .unset, .unset] [(.long z43), (.long (((((z29 + z32) + z34) + z36) + z38) + z41))])
    refine own_k (T' := T44) (g' := (mkF m 370 #[.val (.long p0), .second, .val (.long p1), .second, .val (.long p2), .second, .val (.int p3), .val (.int p4), .val (.int p5), .val (.ref b1), .val (.int f), .val (.int t), .val (.ref b26), .val (.int rr), .unset, .unset, .unset] [(.long ((((((z29 + z32) + z34) + z36) + z38) + z41) + z43))])) (fun _ k_ => XS.ladd X44.here hx rfl (hb hby at_369) rfl k_) ?_
    refine own_k (T' := T44) (g' := (mkF m 372 #[.val (.long p0), .second, .val (.long p1), .second, .val (.long p2), .second, .val (.int p3), .val (.int p4), .val (.int p5), .val (.ref b1), .val (.int f), .val (.int t), .val (.ref b26), .val (.int rr), .unset, .unset, .unset] [(.ref b1), (.long ((((((z29 + z32) + z34) + z36) + z38) + z41) + z43))])) (fun _ k_ => XS.aload X44.here hx rfl (hb hby at_370) rfl rfl  k_) ?_
    refine own_k (T' := T44) (g' := (mkF m 374 #[.val (.long p0), .second, .val (.long p1), .second, .val (.long p2), .second, .val (.int p3), .val (.int p4), .val (.int p5), .val (.ref b1), .val (.int f), .val (.int t), .val (.ref b26), .val (.int rr), .unset, .unset, .unset] [(.int (7 : Int32)), (.ref b1), (.long ((((((z29 + z32) + z34) + z36) + z38) + z41) + z43))])) (fun _ k_ => XS.bipush X44.here hx rfl (hb hby at_372) k_) ?_
    refine own_k (T' := T44) (g' := (mkF m 376 #[.val (.long p0), .second, .val (.long p1), .second, .val (.long p2), .second, .val (.int p3), .val (.int p4), .val (.int p5), .val (.ref b1), .val (.int f), .val (.int t), .val (.ref b26), .val (.int rr), .unset, .unset, .unset] [(.int f), (.int (7 : Int32)), (.ref b1), (.long ((((((z29 + z32) + z34) + z36) + z38) + z41) + z43))])) (fun _ k_ => XS.iload X44.here hx rfl (hb hby at_374) rfl  k_) ?_
    refine own_k (T' := T44) (g' := (mkF m 378 #[.val (.long p0), .second, .val (.long p1), .second, .val (.long p2), .second, .val (.int p3), .val (.int p4), .val (.int p5), .val (.ref b1), .val (.int f), .val (.int t), .val (.ref b26), .val (.int rr), .unset, .unset, .unset] [(.int t), (.int f), (.int (7 : Int32)), (.ref b1), (.long ((((((z29 + z32) + z34) + z36) + z38) + z41) + z43))])) (fun _ k_ => XS.iload X44.here hx rfl (hb hby at_376) rfl  k_) ?_
    refine own_callS X44 hx hZ (y := (⟨"com/example/couponforge/couponforge/io/DecimalNumberWholeNumberPinLaw", "part", "([CIII)J"⟩ : MethodName)) hown (hw _ (List.mem_of_getElem? (i := 90) rfl)) (hw _ (List.mem_of_getElem? (i := 91) rfl)) (hw _ (List.mem_of_getElem? (i := 3) rfl)) (hw _ (List.mem_of_getElem? (i := 92) rfl)) (by decide) (al := [(.ref b1), (.int (7 : Int32)), (.int f), (.int t)]) (rm_part l Z a0 g_COMPACT_STRINGS g_SIOOBE_FORMATTER hW b1 k1 (7 : Int32) f t [c0, c1, c2, c3, c4, c5, c6, c7, c8, c9, c10, c11] T44.heap O44' (((f39.keep K40 nin0).keep K42 nin0).keep K44 nin0) (by decide) rf.1 (hsm hA2) (own_all_12 r0 r1 r2 r3 r4 r5 r6 r7 r8 r9 r10 r11)) 2 (by decide) (by decide) rfl (by decide) (by decide) (by rw [hml]; rfl) (lenOf pd__28_5bCIII_29J rfl) rfl (rest := [(.long ((((((z29 + z32) + z34) + z36) + z38) + z41) + z43))]) (by show 2 * 0 + _ ≤ _; exact Nat.le_of_eq rfl) (hb hby at_378) ?_
    intro v46 T46 L46 X46 hQ46
    obtain ⟨⟨z45, rfl, hz_z45⟩, Nq46, K46⟩ := hQ46
    have N46 := Fr.app N44 Nq46
    have O46' := O44'.keep K46 all0
    show own_Go p e below Φ T46 (mkF m 381 #[.val (.long p0), .second, .val (.long p1), .second, .val (.long p2), .second, .val (.int p3), .val (.int p4), .val (.int p5), .val (.ref b1), .val (.int f), .val (.int t), .val (.ref b26), .val (.int rr), .unset, .unset, .unset] [(.long z45), (.long ((((((z29 + z32) + z34) + z36) + z38) + z41) + z43))])
    refine own_k (T' := T46) (g' := (mkF m 382 #[.val (.long p0), .second, .val (.long p1), .second, .val (.long p2), .second, .val (.int p3), .val (.int p4), .val (.int p5), .val (.ref b1), .val (.int f), .val (.int t), .val (.ref b26), .val (.int rr), .unset, .unset, .unset] [(.long (((((((z29 + z32) + z34) + z36) + z38) + z41) + z43) + z45))])) (fun _ k_ => XS.ladd X46.here hx rfl (hb hby at_381) rfl k_) ?_
    refine own_k (T' := T46) (g' := (mkF m 384 #[.val (.long p0), .second, .val (.long p1), .second, .val (.long p2), .second, .val (.int p3), .val (.int p4), .val (.int p5), .val (.ref b1), .val (.int f), .val (.int t), .val (.ref b26), .val (.int rr), .unset, .unset, .unset] [(.ref b1), (.long (((((((z29 + z32) + z34) + z36) + z38) + z41) + z43) + z45))])) (fun _ k_ => XS.aload X46.here hx rfl (hb hby at_382) rfl rfl  k_) ?_
    refine own_k (T' := T46) (g' := (mkF m 386 #[.val (.long p0), .second, .val (.long p1), .second, .val (.long p2), .second, .val (.int p3), .val (.int p4), .val (.int p5), .val (.ref b1), .val (.int f), .val (.int t), .val (.ref b26), .val (.int rr), .unset, .unset, .unset] [(.int (8 : Int32)), (.ref b1), (.long (((((((z29 + z32) + z34) + z36) + z38) + z41) + z43) + z45))])) (fun _ k_ => XS.bipush X46.here hx rfl (hb hby at_384) k_) ?_
    refine own_k (T' := T46) (g' := (mkF m 388 #[.val (.long p0), .second, .val (.long p1), .second, .val (.long p2), .second, .val (.int p3), .val (.int p4), .val (.int p5), .val (.ref b1), .val (.int f), .val (.int t), .val (.ref b26), .val (.int rr), .unset, .unset, .unset] [(.int f), (.int (8 : Int32)), (.ref b1), (.long (((((((z29 + z32) + z34) + z36) + z38) + z41) + z43) + z45))])) (fun _ k_ => XS.iload X46.here hx rfl (hb hby at_386) rfl  k_) ?_
    refine own_k (T' := T46) (g' := (mkF m 390 #[.val (.long p0), .second, .val (.long p1), .second, .val (.long p2), .second, .val (.int p3), .val (.int p4), .val (.int p5), .val (.ref b1), .val (.int f), .val (.int t), .val (.ref b26), .val (.int rr), .unset, .unset, .unset] [(.int t), (.int f), (.int (8 : Int32)), (.ref b1), (.long (((((((z29 + z32) + z34) + z36) + z38) + z41) + z43) + z45))])) (fun _ k_ => XS.iload X46.here hx rfl (hb hby at_388) rfl  k_) ?_
    have f48 := ((((f39.keep K40 nin0).keep K42 nin0).keep K44 nin0).keep K46 nin0)
    refine own_callS X46 hx hZ (y := (⟨"com/example/couponforge/couponforge/io/DecimalNumberWholeNumberPinLaw", "part", "([CIII)J"⟩ : MethodName)) hown (hw _ (List.mem_of_getElem? (i := 90) rfl)) (hw _ (List.mem_of_getElem? (i := 91) rfl)) (hw _ (List.mem_of_getElem? (i := 3) rfl)) (hw _ (List.mem_of_getElem? (i := 92) rfl)) (by decide) (al := [(.ref b1), (.int (8 : Int32)), (.int f), (.int t)]) (rm_part l Z a0 g_COMPACT_STRINGS g_SIOOBE_FORMATTER hW b1 k1 (8 : Int32) f t [c0, c1, c2, c3, c4, c5, c6, c7, c8, c9, c10, c11] T46.heap O46' f48 (by decide) rf.1 (hsm hA2) (own_all_12 r0 r1 r2 r3 r4 r5 r6 r7 r8 r9 r10 r11)) 2 (by decide) (by decide) rfl (by decide) (by decide) (by rw [hml]; rfl) (lenOf pd__28_5bCIII_29J rfl) rfl (rest := [(.long (((((((z29 + z32) + z34) + z36) + z38) + z41) + z43) + z45))]) (by show 2 * 0 + _ ≤ _; exact Nat.le_of_eq rfl) (hb hby at_390) ?_
    intro v49 T49 L49 X49 hQ49
    obtain ⟨⟨z47, rfl, hz_z47⟩, Nq49, K49⟩ := hQ49
    have N49 := Fr.app N46 Nq49
    have O49' := O46'.keep K49 all0
    show own_Go p e below Φ T49 (mkF m 393 #[.val (.long p0), .second, .val (.long p1), .second, .val (.long p2), .second, .val (.int p3), .val (.int p4), .val (.int p5), .val (.ref b1), .val (.int f), .val (.int t), .val (.ref b26), .val (.int rr), .unset, .unset, .unset] [(.long z47), (.long (((((((z29 + z32) + z34) + z36) + z38) + z41) + z43) + z45))])
    refine own_k (T' := T49) (g' := (mkF m 394 #[.val (.long p0), .second, .val (.long p1), .second, .val (.long p2), .second, .val (.int p3), .val (.int p4), .val (.int p5), .val (.ref b1), .val (.int f), .val (.int t), .val (.ref b26), .val (.int rr), .unset, .unset, .unset] [(.long ((((((((z29 + z32) + z34) + z36) + z38) + z41) + z43) + z45) + z47))])) (fun _ k_ => XS.ladd X49.here hx rfl (hb hby at_393) rfl k_) ?_
    refine own_k (T' := T49) (g' := (mkF m 396 #[.val (.long p0), .second, .val (.long p1), .second, .val (.long p2), .second, .val (.int p3), .val (.int p4), .val (.int p5), .val (.ref b1), .val (.int f), .val (.int t), .val (.ref b26), .val (.int rr), .unset, .unset, .unset] [(.ref b1), (.long ((((((((z29 + z32) + z34) + z36) + z38) + z41) + z43) + z45) + z47))])) (fun _ k_ => XS.aload X49.here hx rfl (hb hby at_394) rfl rfl  k_) ?_
    refine own_k (T' := T49) (g' := (mkF m 398 #[.val (.long p0), .second, .val (.long p1), .second, .val (.long p2), .second, .val (.int p3), .val (.int p4), .val (.int p5), .val (.ref b1), .val (.int f), .val (.int t), .val (.ref b26), .val (.int rr), .unset, .unset, .unset] [(.int (9 : Int32)), (.ref b1), (.long ((((((((z29 + z32) + z34) + z36) + z38) + z41) + z43) + z45) + z47))])) (fun _ k_ => XS.bipush X49.here hx rfl (hb hby at_396) k_) ?_
    refine own_k (T' := T49) (g' := (mkF m 400 #[.val (.long p0), .second, .val (.long p1), .second, .val (.long p2), .second, .val (.int p3), .val (.int p4), .val (.int p5), .val (.ref b1), .val (.int f), .val (.int t), .val (.ref b26), .val (.int rr), .unset, .unset, .unset] [(.int f), (.int (9 : Int32)), (.ref b1), (.long ((((((((z29 + z32) + z34) + z36) + z38) + z41) + z43) + z45) + z47))])) (fun _ k_ => XS.iload X49.here hx rfl (hb hby at_398) rfl  k_) ?_
    refine own_k (T' := T49) (g' := (mkF m 402 #[.val (.long p0), .second, .val (.long p1), .second, .val (.long p2), .second, .val (.int p3), .val (.int p4), .val (.int p5), .val (.ref b1), .val (.int f), .val (.int t), .val (.ref b26), .val (.int rr), .unset, .unset, .unset] [(.int t), (.int f), (.int (9 : Int32)), (.ref b1), (.long ((((((((z29 + z32) + z34) + z36) + z38) + z41) + z43) + z45) + z47))])) (fun _ k_ => XS.iload X49.here hx rfl (hb hby at_400) rfl  k_) ?_
    refine own_callS X49 hx hZ (y := (⟨"com/example/couponforge/couponforge/io/DecimalNumberWholeNumberPinLaw", "part", "([CIII)J"⟩ : MethodName)) hown (hw _ (List.mem_of_getElem? (i := 90) rfl)) (hw _ (List.mem_of_getElem? (i := 91) rfl)) (hw _ (List.mem_of_getElem? (i := 3) rfl)) (hw _ (List.mem_of_getElem? (i := 92) rfl)) (by decide) (al := [(.ref b1), (.int (9 : Int32)), (.int f), (.int t)]) (rm_part l Z a0 g_COMPACT_STRINGS g_SIOOBE_FORMATTER hW b1 k1 (9 : Int32) f t [c0, c1, c2, c3, c4, c5, c6, c7, c8, c9, c10, c11] T49.heap O49' (f48.keep K49 nin0) (by decide) rf.1 (hsm hA2) (own_all_12 r0 r1 r2 r3 r4 r5 r6 r7 r8 r9 r10 r11)) 2 (by decide) (by decide) rfl (by decide) (by decide) (by rw [hml]; rfl) (lenOf pd__28_5bCIII_29J rfl) rfl (rest := [(.long ((((((((z29 + z32) + z34) + z36) + z38) + z41) + z43) + z45) + z47))]) (by show 2 * 0 + _ ≤ _; exact Nat.le_of_eq rfl) (hb hby at_402) ?_
    intro v51 T51 L51 X51 hQ51
    obtain ⟨⟨z50, rfl, hz_z50⟩, Nq51, K51⟩ := hQ51
    have N51 := Fr.app N49 Nq51
    have O51' := O49'.keep K51 all0
    show own_Go p e below Φ T51 (mkF m 405 #[.val (.long p0), .second, .val (.long p1), .second, .val (.long p2), .second, .val (.int p3), .val (.int p4), .val (.int p5), .val (.ref b1), .val (.int f), .val (.int t), .val (.ref b26), .val (.int rr), .unset, .unset, .unset] [(.long z50), (.long ((((((((z29 + z32) + z34) + z36) + z38) + z41) + z43) + z45) + z47))])
    refine own_k (T' := T51) (g' := (mkF m 406 #[.val (.long p0), .second, .val (.long p1), .second, .val (.long p2), .second, .val (.int p3), .val (.int p4), .val (.int p5), .val (.ref b1), .val (.int f), .val (.int t), .val (.ref b26), .val (.int rr), .unset, .unset, .unset] [(.long (((((((((z29 + z32) + z34) + z36) + z38) + z41) + z43) + z45) + z47) + z50))])) (fun _ k_ => XS.ladd X51.here hx rfl (hb hby at_405) rfl k_) ?_
    refine own_k (T' := T51) (g' := (mkF m 408 #[.val (.long p0), .second, .val (.long p1), .second, .val (.long p2), .second, .val (.int p3), .val (.int p4), .val (.int p5), .val (.ref b1), .val (.int f), .val (.int t), .val (.ref b26), .val (.int rr), .unset, .unset, .unset] [(.ref b1), (.long (((((((((z29 + z32) + z34) + z36) + z38) + z41) + z43) + z45) + z47) + z50))])) (fun _ k_ => XS.aload X51.here hx rfl (hb hby at_406) rfl rfl  k_) ?_
    refine own_k (T' := T51) (g' := (mkF m 410 #[.val (.long p0), .second, .val (.long p1), .second, .val (.long p2), .second, .val (.int p3), .val (.int p4), .val (.int p5), .val (.ref b1), .val (.int f), .val (.int t), .val (.ref b26), .val (.int rr), .unset, .unset, .unset] [(.int (10 : Int32)), (.ref b1), (.long (((((((((z29 + z32) + z34) + z36) + z38) + z41) + z43) + z45) + z47) + z50))])) (fun _ k_ => XS.bipush X51.here hx rfl (hb hby at_408) k_) ?_
    refine own_k (T' := T51) (g' := (mkF m 412 #[.val (.long p0), .second, .val (.long p1), .second, .val (.long p2), .second, .val (.int p3), .val (.int p4), .val (.int p5), .val (.ref b1), .val (.int f), .val (.int t), .val (.ref b26), .val (.int rr), .unset, .unset, .unset] [(.int f), (.int (10 : Int32)), (.ref b1), (.long (((((((((z29 + z32) + z34) + z36) + z38) + z41) + z43) + z45) + z47) + z50))])) (fun _ k_ => XS.iload X51.here hx rfl (hb hby at_410) rfl  k_) ?_
    refine own_k (T' := T51) (g' := (mkF m 414 #[.val (.long p0), .second, .val (.long p1), .second, .val (.long p2), .second, .val (.int p3), .val (.int p4), .val (.int p5), .val (.ref b1), .val (.int f), .val (.int t), .val (.ref b26), .val (.int rr), .unset, .unset, .unset] [(.int t), (.int f), (.int (10 : Int32)), (.ref b1), (.long (((((((((z29 + z32) + z34) + z36) + z38) + z41) + z43) + z45) + z47) + z50))])) (fun _ k_ => XS.iload X51.here hx rfl (hb hby at_412) rfl  k_) ?_
    refine own_callS X51 hx hZ (y := (⟨"com/example/couponforge/couponforge/io/DecimalNumberWholeNumberPinLaw", "part", "([CIII)J"⟩ : MethodName)) hown (hw _ (List.mem_of_getElem? (i := 90) rfl)) (hw _ (List.mem_of_getElem? (i := 91) rfl)) (hw _ (List.mem_of_getElem? (i := 3) rfl)) (hw _ (List.mem_of_getElem? (i := 92) rfl)) (by decide) (al := [(.ref b1), (.int (10 : Int32)), (.int f), (.int t)]) (rm_part l Z a0 g_COMPACT_STRINGS g_SIOOBE_FORMATTER hW b1 k1 (10 : Int32) f t [c0, c1, c2, c3, c4, c5, c6, c7, c8, c9, c10, c11] T51.heap O51' ((f48.keep K49 nin0).keep K51 nin0) (by decide) rf.1 (hsm hA2) (own_all_12 r0 r1 r2 r3 r4 r5 r6 r7 r8 r9 r10 r11)) 2 (by decide) (by decide) rfl (by decide) (by decide) (by rw [hml]; rfl) (lenOf pd__28_5bCIII_29J rfl) rfl (rest := [(.long (((((((((z29 + z32) + z34) + z36) + z38) + z41) + z43) + z45) + z47) + z50))]) (by show 2 * 0 + _ ≤ _; exact Nat.le_of_eq rfl) (hb hby at_414) ?_
    intro v53 T53 L53 X53 hQ53
    obtain ⟨⟨z52, rfl, hz_z52⟩, Nq53, K53⟩ := hQ53
    have N53 := Fr.app N51 Nq53
    have O53' := O51'.keep K53 all0
    show own_Go p e below Φ T53 (mkF m 417 #[.val (.long p0), .second, .val (.long p1), .second, .val (.long p2), .second, .val (.int p3), .val (.int p4), .val (.int p5), .val (.ref b1), .val (.int f), .val (.int t), .val (.ref b26), .val (.int rr), .unset, .unset, .unset] [(.long z52), (.long (((((((((z29 + z32) + z34) + z36) + z38) + z41) + z43) + z45) + z47) + z50))])
    refine own_k (T' := T53) (g' := (mkF m 418 #[.val (.long p0), .second, .val (.long p1), .second, .val (.long p2), .second, .val (.int p3), .val (.int p4), .val (.int p5), .val (.ref b1), .val (.int f), .val (.int t), .val (.ref b26), .val (.int rr), .unset, .unset, .unset] [(.long ((((((((((z29 + z32) + z34) + z36) + z38) + z41) + z43) + z45) + z47) + z50) + z52))])) (fun _ k_ => XS.ladd X53.here hx rfl (hb hby at_417) rfl k_) ?_
    refine own_k (T' := T53) (g' := (mkF m 420 #[.val (.long p0), .second, .val (.long p1), .second, .val (.long p2), .second, .val (.int p3), .val (.int p4), .val (.int p5), .val (.ref b1), .val (.int f), .val (.int t), .val (.ref b26), .val (.int rr), .unset, .unset, .unset] [(.ref b1), (.long ((((((((((z29 + z32) + z34) + z36) + z38) + z41) + z43) + z45) + z47) + z50) + z52))])) (fun _ k_ => XS.aload X53.here hx rfl (hb hby at_418) rfl rfl  k_) ?_
    refine own_k (T' := T53) (g' := (mkF m 422 #[.val (.long p0), .second, .val (.long p1), .second, .val (.long p2), .second, .val (.int p3), .val (.int p4), .val (.int p5), .val (.ref b1), .val (.int f), .val (.int t), .val (.ref b26), .val (.int rr), .unset, .unset, .unset] [(.int (11 : Int32)), (.ref b1), (.long ((((((((((z29 + z32) + z34) + z36) + z38) + z41) + z43) + z45) + z47) + z50) + z52))])) (fun _ k_ => XS.bipush X53.here hx rfl (hb hby at_420) k_) ?_
    refine own_k (T' := T53) (g' := (mkF m 424 #[.val (.long p0), .second, .val (.long p1), .second, .val (.long p2), .second, .val (.int p3), .val (.int p4), .val (.int p5), .val (.ref b1), .val (.int f), .val (.int t), .val (.ref b26), .val (.int rr), .unset, .unset, .unset] [(.int f), (.int (11 : Int32)), (.ref b1), (.long ((((((((((z29 + z32) + z34) + z36) + z38) + z41) + z43) + z45) + z47) + z50) + z52))])) (fun _ k_ => XS.iload X53.here hx rfl (hb hby at_422) rfl  k_) ?_
    refine own_k (T' := T53) (g' := (mkF m 426 #[.val (.long p0), .second, .val (.long p1), .second, .val (.long p2), .second, .val (.int p3), .val (.int p4), .val (.int p5), .val (.ref b1), .val (.int f), .val (.int t), .val (.ref b26), .val (.int rr), .unset, .unset, .unset] [(.int t), (.int f), (.int (11 : Int32)), (.ref b1), (.long ((((((((((z29 + z32) + z34) + z36) + z38) + z41) + z43) + z45) + z47) + z50) + z52))])) (fun _ k_ => XS.iload X53.here hx rfl (hb hby at_424) rfl  k_) ?_
    refine own_callS X53 hx hZ (y := (⟨"com/example/couponforge/couponforge/io/DecimalNumberWholeNumberPinLaw", "part", "([CIII)J"⟩ : MethodName)) hown (hw _ (List.mem_of_getElem? (i := 90) rfl)) (hw _ (List.mem_of_getElem? (i := 91) rfl)) (hw _ (List.mem_of_getElem? (i := 3) rfl)) (hw _ (List.mem_of_getElem? (i := 92) rfl)) (by decide) (al := [(.ref b1), (.int (11 : Int32)), (.int f), (.int t)]) (rm_part l Z a0 g_COMPACT_STRINGS g_SIOOBE_FORMATTER hW b1 k1 (11 : Int32) f t [c0, c1, c2, c3, c4, c5, c6, c7, c8, c9, c10, c11] T53.heap O53' (((f48.keep K49 nin0).keep K51 nin0).keep K53 nin0) (by decide) rf.1 (hsm hA2) (own_all_12 r0 r1 r2 r3 r4 r5 r6 r7 r8 r9 r10 r11)) 2 (by decide) (by decide) rfl (by decide) (by decide) (by rw [hml]; rfl) (lenOf pd__28_5bCIII_29J rfl) rfl (rest := [(.long ((((((((((z29 + z32) + z34) + z36) + z38) + z41) + z43) + z45) + z47) + z50) + z52))]) (by show 2 * 0 + _ ≤ _; exact Nat.le_of_eq rfl) (hb hby at_426) ?_
    intro v55 T55 L55 X55 hQ55
    obtain ⟨⟨z54, rfl, hz_z54⟩, Nq55, K55⟩ := hQ55
    have N55 := Fr.app N53 Nq55
    have O55' := O53'.keep K55 all0
    show own_Go p e below Φ T55 (mkF m 429 #[.val (.long p0), .second, .val (.long p1), .second, .val (.long p2), .second, .val (.int p3), .val (.int p4), .val (.int p5), .val (.ref b1), .val (.int f), .val (.int t), .val (.ref b26), .val (.int rr), .unset, .unset, .unset] [(.long z54), (.long ((((((((((z29 + z32) + z34) + z36) + z38) + z41) + z43) + z45) + z47) + z50) + z52))])
    refine own_k (T' := T55) (g' := (mkF m 430 #[.val (.long p0), .second, .val (.long p1), .second, .val (.long p2), .second, .val (.int p3), .val (.int p4), .val (.int p5), .val (.ref b1), .val (.int f), .val (.int t), .val (.ref b26), .val (.int rr), .unset, .unset, .unset] [(.long (((((((((((z29 + z32) + z34) + z36) + z38) + z41) + z43) + z45) + z47) + z50) + z52) + z54))])) (fun _ k_ => XS.ladd X55.here hx rfl (hb hby at_429) rfl k_) ?_
    refine own_k (T' := T55) (g' := (mkF m 432 #[.val (.long p0), .second, .val (.long p1), .second, .val (.long p2), .second, .val (.int p3), .val (.int p4), .val (.int p5), .val (.ref b1), .val (.int f), .val (.int t), .val (.ref b26), .val (.int rr), .unset, .val (.long (((((((((((z29 + z32) + z34) + z36) + z38) + z41) + z43) + z45) + z47) + z50) + z52) + z54)), .second] [])) (fun _ k_ => XS.lstore X55.here hx rfl (hb hby at_430) rfl (l' := #[.val (.long p0), .second, .val (.long p1), .second, .val (.long p2), .second, .val (.int p3), .val (.int p4), .val (.int p5), .val (.ref b1), .val (.int f), .val (.int t), .val (.ref b26), .val (.int rr), .unset, .val (.long (((((((((((z29 + z32) + z34) + z36) + z38) + z41) + z43) + z45) + z47) + z50) + z52) + z54)), .second]) rfl k_) ?_
    refine own_k (T' := T55) (g' := (mkF m 434 #[.val (.long p0), .second, .val (.long p1), .second, .val (.long p2), .second, .val (.int p3), .val (.int p4), .val (.int p5), .val (.ref b1), .val (.int f), .val (.int t), .val (.ref b26), .val (.int rr), .unset, .val (.long (((((((((((z29 + z32) + z34) + z36) + z38) + z41) + z43) + z45) + z47) + z50) + z52) + z54)), .second] [(.long (((((((((((z29 + z32) + z34) + z36) + z38) + z41) + z43) + z45) + z47) + z50) + z52) + z54))])) (fun _ k_ => XS.lload X55.here hx rfl (hb hby at_432) rfl  k_) ?_
    refine own_k (T' := T55) (g' := (mkF m 435 #[.val (.long p0), .second, .val (.long p1), .second, .val (.long p2), .second, .val (.int p3), .val (.int p4), .val (.int p5), .val (.ref b1), .val (.int f), .val (.int t), .val (.ref b26), .val (.int rr), .unset, .val (.long (((((((((((z29 + z32) + z34) + z36) + z38) + z41) + z43) + z45) + z47) + z50) + z52) + z54)), .second] [(.long (0 : Int64)), (.long (((((((((((z29 + z32) + z34) + z36) + z38) + z41) + z43) + z45) + z47) + z50) + z52) + z54))])) (fun _ k_ => XS.lconst X55.here hx rfl (hb hby at_434) k_) ?_
    refine own_k (T' := T55) (g' := (mkF m 436 #[.val (.long p0), .second, .val (.long p1), .second, .val (.long p2), .second, .val (.int p3), .val (.int p4), .val (.int p5), .val (.ref b1), .val (.int f), .val (.int t), .val (.ref b26), .val (.int rr), .unset, .val (.long (((((((((((z29 + z32) + z34) + z36) + z38) + z41) + z43) + z45) + z47) + z50) + z52) + z54)), .second] [(.int (lcmpW (((((((((((z29 + z32) + z34) + z36) + z38) + z41) + z43) + z45) + z47) + z50) + z52) + z54) (0 : Int64)))])) (fun _ k_ => XS.lcmp X55.here hx rfl (hb hby at_435) rfl k_) ?_
    refine own_k (T' := T55) (g' := (mkF m 443 #[.val (.long p0), .second, .val (.long p1), .second, .val (.long p2), .second, .val (.int p3), .val (.int p4), .val (.int p5), .val (.ref b1), .val (.int f), .val (.int t), .val (.ref b26), .val (.int rr), .unset, .val (.long (((((((((((z29 + z32) + z34) + z36) + z38) + z41) + z43) + z45) + z47) + z50) + z52) + z54)), .second] [])) (fun _ k_ => XS.ifYes X55.here hx rfl (pc0 := 436) (pc' := 443) rfl (hb hby at_436) rfl ((if0 _ _).trans (flt (own_nn (own_S (own_cv (k := 0) (by decide) (by decide) hz_z29) (own_cv (k := 1) (by decide) (by decide) hz_z32) (own_cv (k := 2) (by decide) (by decide) hz_z34) (own_cv (k := 3) (by decide) (by decide) hz_z36) (own_cv (k := 4) (by decide) (by decide) hz_z38) (own_cv (k := 5) (by decide) (by decide) hz_z41) (own_cv (k := 6) (by decide) (by decide) hz_z43) (own_cv (k := 7) (by decide) (by decide) hz_z45) (own_cv (k := 8) (by decide) (by decide) hz_z47) (own_cv (k := 9) (by decide) (by decide) hz_z50) (own_cv (k := 10) (by decide) (by decide) hz_z52) (own_cv (k := 11) (by decide) (by decide) hz_z54)) (hsm hA2) hA4)).2.1) (by decide) (by decide) k_) ?_
    refine own_k (T' := T55) (g' := (mkF m 445 #[.val (.long p0), .second, .val (.long p1), .second, .val (.long p2), .second, .val (.int p3), .val (.int p4), .val (.int p5), .val (.ref b1), .val (.int f), .val (.int t), .val (.ref b26), .val (.int rr), .unset, .val (.long (((((((((((z29 + z32) + z34) + z36) + z38) + z41) + z43) + z45) + z47) + z50) + z52) + z54)), .second] [(.long (((((((((((z29 + z32) + z34) + z36) + z38) + z41) + z43) + z45) + z47) + z50) + z52) + z54))])) (fun _ k_ => XS.lload X55.here hx rfl (hb hby at_443) rfl  k_) ?_
    refine own_k (T' := T55) (g' := (mkF m 446 #[.val (.long p0), .second, .val (.long p1), .second, .val (.long p2), .second, .val (.int p3), .val (.int p4), .val (.int p5), .val (.ref b1), .val (.int f), .val (.int t), .val (.ref b26), .val (.int rr), .unset, .val (.long (((((((((((z29 + z32) + z34) + z36) + z38) + z41) + z43) + z45) + z47) + z50) + z52) + z54)), .second] [(.int ((((((((((((z29 + z32) + z34) + z36) + z38) + z41) + z43) + z45) + z47) + z50) + z52) + z54).toInt32))])) (fun _ k_ => XS.l2i X55.here hx rfl (hb hby at_445) rfl k_) ?_
    refine own_k (T' := T55) (g' := (mkF m 448 #[.val (.long p0), .second, .val (.long p1), .second, .val (.long p2), .second, .val (.int p3), .val (.int p4), .val (.int p5), .val (.ref b1), .val (.int f), .val (.int t), .val (.ref b26), .val (.int rr), .val (.int ((((((((((((z29 + z32) + z34) + z36) + z38) + z41) + z43) + z45) + z47) + z50) + z52) + z54).toInt32)), .val (.long (((((((((((z29 + z32) + z34) + z36) + z38) + z41) + z43) + z45) + z47) + z50) + z52) + z54)), .second] [])) (fun _ k_ => XS.istore X55.here hx rfl (hb hby at_446) rfl (l' := #[.val (.long p0), .second, .val (.long p1), .second, .val (.long p2), .second, .val (.int p3), .val (.int p4), .val (.int p5), .val (.ref b1), .val (.int f), .val (.int t), .val (.ref b26), .val (.int rr), .val (.int ((((((((((((z29 + z32) + z34) + z36) + z38) + z41) + z43) + z45) + z47) + z50) + z52) + z54).toInt32)), .val (.long (((((((((((z29 + z32) + z34) + z36) + z38) + z41) + z43) + z45) + z47) + z50) + z52) + z54)), .second]) rfl k_) ?_
    refine own_k (T' := T55) (g' := (mkF m 450 #[.val (.long p0), .second, .val (.long p1), .second, .val (.long p2), .second, .val (.int p3), .val (.int p4), .val (.int p5), .val (.ref b1), .val (.int f), .val (.int t), .val (.ref b26), .val (.int rr), .val (.int ((((((((((((z29 + z32) + z34) + z36) + z38) + z41) + z43) + z45) + z47) + z50) + z52) + z54).toInt32)), .val (.long (((((((((((z29 + z32) + z34) + z36) + z38) + z41) + z43) + z45) + z47) + z50) + z52) + z54)), .second] [(.int rr)])) (fun _ k_ => XS.iload X55.here hx rfl (hb hby at_448) rfl  k_) ?_
    refine own_k (T' := T55) (g' := (mkF m 452 #[.val (.long p0), .second, .val (.long p1), .second, .val (.long p2), .second, .val (.int p3), .val (.int p4), .val (.int p5), .val (.ref b1), .val (.int f), .val (.int t), .val (.ref b26), .val (.int rr), .val (.int ((((((((((((z29 + z32) + z34) + z36) + z38) + z41) + z43) + z45) + z47) + z50) + z52) + z54).toInt32)), .val (.long (((((((((((z29 + z32) + z34) + z36) + z38) + z41) + z43) + z45) + z47) + z50) + z52) + z54)), .second] [(.int ((((((((((((z29 + z32) + z34) + z36) + z38) + z41) + z43) + z45) + z47) + z50) + z52) + z54).toInt32)), (.int rr)])) (fun _ k_ => XS.iload X55.here hx rfl (hb hby at_450) rfl  k_) ?_
    refine own_k (T' := T55) (g' := (mkF m 455 #[.val (.long p0), .second, .val (.long p1), .second, .val (.long p2), .second, .val (.int p3), .val (.int p4), .val (.int p5), .val (.ref b1), .val (.int f), .val (.int t), .val (.ref b26), .val (.int rr), .val (.int ((((((((((((z29 + z32) + z34) + z36) + z38) + z41) + z43) + z45) + z47) + z50) + z52) + z54).toInt32)), .val (.long (((((((((((z29 + z32) + z34) + z36) + z38) + z41) + z43) + z45) + z47) + z50) + z52) + z54)), .second] [])) (fun _ k_ => XS.icmpNo X55.here hx rfl (hb hby at_452) rfl ((teq (own_eqi (own_S (own_cv (k := 0) (by decide) (by decide) hz_z29) (own_cv (k := 1) (by decide) (by decide) hz_z32) (own_cv (k := 2) (by decide) (by decide) hz_z34) (own_cv (k := 3) (by decide) (by decide) hz_z36) (own_cv (k := 4) (by decide) (by decide) hz_z38) (own_cv (k := 5) (by decide) (by decide) hz_z41) (own_cv (k := 6) (by decide) (by decide) hz_z43) (own_cv (k := 7) (by decide) (by decide) hz_z45) (own_cv (k := 8) (by decide) (by decide) hz_z47) (own_cv (k := 9) (by decide) (by decide) hz_z50) (own_cv (k := 10) (by decide) (by decide) hz_z52) (own_cv (k := 11) (by decide) (by decide) hz_z54)) (hsm hA2) hA4)).2) k_) ?_
    refine own_k (T' := T55) (g' := (mkF m 456 #[.val (.long p0), .second, .val (.long p1), .second, .val (.long p2), .second, .val (.int p3), .val (.int p4), .val (.int p5), .val (.ref b1), .val (.int f), .val (.int t), .val (.ref b26), .val (.int rr), .val (.int ((((((((((((z29 + z32) + z34) + z36) + z38) + z41) + z43) + z45) + z47) + z50) + z52) + z54).toInt32)), .val (.long (((((((((((z29 + z32) + z34) + z36) + z38) + z41) + z43) + z45) + z47) + z50) + z52) + z54)), .second] [(.int (1 : Int32))])) (fun _ k_ => XS.iconst X55.here hx rfl (hb hby at_455) k_) ?_
    refine own_k (T' := T55) (g' := (mkF m 460 #[.val (.long p0), .second, .val (.long p1), .second, .val (.long p2), .second, .val (.int p3), .val (.int p4), .val (.int p5), .val (.ref b1), .val (.int f), .val (.int t), .val (.ref b26), .val (.int rr), .val (.int ((((((((((((z29 + z32) + z34) + z36) + z38) + z41) + z43) + z45) + z47) + z50) + z52) + z54).toInt32)), .val (.long (((((((((((z29 + z32) + z34) + z36) + z38) + z41) + z43) + z45) + z47) + z50) + z52) + z54)), .second] [(.int (1 : Int32))])) (fun _ k_ => XS.goto X55.here hx rfl (pc0 := 456) (pc' := 460) rfl (hb hby at_456) (by decide) (by decide) k_) ?_
    exact own_retN X55 hx (t := .boolean) hret (by simp) hlk (hb hby at_460) hF (⟨by rw [show nar .boolean (1 : Int32) = (1 : Int32) from by decide], N55, trivial⟩) (by decide) (by decide)
  · refine own_k (T' := T28) (g' := (mkF m 270 #[.val (.long p0), .second, .val (.long p1), .second, .val (.long p2), .second, .val (.int p3), .val (.int p4), .val (.int p5), .val (.ref b1), .val (.int f), .val (.int t), .val (.ref b26), .val (.int (-1 : Int32)), .unset, .unset, .unset] [])) (fun _ k_ => XS.istore X28.here hx rfl (hb hby at_268) rfl (l' := #[.val (.long p0), .second, .val (.long p1), .second, .val (.long p2), .second, .val (.int p3), .val (.int p4), .val (.int p5), .val (.ref b1), .val (.int f), .val (.int t), .val (.ref b26), .val (.int (-1 : Int32)), .unset, .unset, .unset]) rfl k_) ?_
    refine own_k (T' := T28) (g' := (mkF m 272 #[.val (.long p0), .second, .val (.long p1), .second, .val (.long p2), .second, .val (.int p3), .val (.int p4), .val (.int p5), .val (.ref b1), .val (.int f), .val (.int t), .val (.ref b26), .val (.int (-1 : Int32)), .unset, .unset, .unset] [(.int f)])) (fun _ k_ => XS.iload X28.here hx rfl (hb hby at_270) rfl  k_) ?_
    refine own_k (T' := T28) (g' := (mkF m 274 #[.val (.long p0), .second, .val (.long p1), .second, .val (.long p2), .second, .val (.int p3), .val (.int p4), .val (.int p5), .val (.ref b1), .val (.int f), .val (.int t), .val (.ref b26), .val (.int (-1 : Int32)), .unset, .unset, .unset] [(.int t), (.int f)])) (fun _ k_ => XS.iload X28.here hx rfl (hb hby at_272) rfl  k_) ?_
    by_cases hc56 : f < t
    · refine own_k (T' := T28) (g' := (mkF m 277 #[.val (.long p0), .second, .val (.long p1), .second, .val (.long p2), .second, .val (.int p3), .val (.int p4), .val (.int p5), .val (.ref b1), .val (.int f), .val (.int t), .val (.ref b26), .val (.int (-1 : Int32)), .unset, .unset, .unset] [])) (fun _ k_ => XS.icmpNo X28.here hx rfl (hb hby at_274) rfl ((tlt hc56).2.1) k_) ?_
      refine own_k (T' := T28) (g' := (mkF m 279 #[.val (.long p0), .second, .val (.long p1), .second, .val (.long p2), .second, .val (.int p3), .val (.int p4), .val (.int p5), .val (.ref b1), .val (.int f), .val (.int t), .val (.ref b26), .val (.int (-1 : Int32)), .unset, .unset, .unset] [(.int t)])) (fun _ k_ => XS.iload X28.here hx rfl (hb hby at_277) rfl  k_) ?_
      refine own_k (T' := T28) (g' := (mkF m 281 #[.val (.long p0), .second, .val (.long p1), .second, .val (.long p2), .second, .val (.int p3), .val (.int p4), .val (.int p5), .val (.ref b1), .val (.int f), .val (.int t), .val (.ref b26), .val (.int (-1 : Int32)), .unset, .unset, .unset] [(.int f), (.int t)])) (fun _ k_ => XS.iload X28.here hx rfl (hb hby at_279) rfl  k_) ?_
      refine own_k (T' := T28) (g' := (mkF m 282 #[.val (.long p0), .second, .val (.long p1), .second, .val (.long p2), .second, .val (.int p3), .val (.int p4), .val (.int p5), .val (.ref b1), .val (.int f), .val (.int t), .val (.ref b26), .val (.int (-1 : Int32)), .unset, .unset, .unset] [(.int (t - f))])) (fun _ k_ => XS.isub X28.here hx rfl (hb hby at_281) rfl k_) ?_
      refine own_k (T' := T28) (g' := (mkF m 284 #[.val (.long p0), .second, .val (.long p1), .second, .val (.long p2), .second, .val (.int p3), .val (.int p4), .val (.int p5), .val (.ref b1), .val (.int f), .val (.int t), .val (.ref b26), .val (.int (-1 : Int32)), .unset, .unset, .unset] [(.int (9 : Int32)), (.int (t - f))])) (fun _ k_ => XS.bipush X28.here hx rfl (hb hby at_282) k_) ?_
      by_cases hc57 : (9 : Int32) < (t - f)
      · refine own_k (T' := T28) (g' := (mkF m 287 #[.val (.long p0), .second, .val (.long p1), .second, .val (.long p2), .second, .val (.int p3), .val (.int p4), .val (.int p5), .val (.ref b1), .val (.int f), .val (.int t), .val (.ref b26), .val (.int (-1 : Int32)), .unset, .unset, .unset] [])) (fun _ k_ => XS.icmpNo X28.here hx rfl (hb hby at_284) rfl ((tlt hc57).2.2.2) k_) ?_
        refine own_k (T' := T28) (g' := (mkF m 288 #[.val (.long p0), .second, .val (.long p1), .second, .val (.long p2), .second, .val (.int p3), .val (.int p4), .val (.int p5), .val (.ref b1), .val (.int f), .val (.int t), .val (.ref b26), .val (.int (-1 : Int32)), .unset, .unset, .unset] [(.int (-1 : Int32))])) (fun _ k_ => XS.iconst X28.here hx rfl (hb hby at_287) k_) ?_
        refine own_k (T' := T28) (g' := (mkF m 290 #[.val (.long p0), .second, .val (.long p1), .second, .val (.long p2), .second, .val (.int p3), .val (.int p4), .val (.int p5), .val (.ref b1), .val (.int f), .val (.int t), .val (.ref b26), .val (.int (-1 : Int32)), .val (.int (-1 : Int32)), .unset, .unset] [])) (fun _ k_ => XS.istore X28.here hx rfl (hb hby at_288) rfl (l' := #[.val (.long p0), .second, .val (.long p1), .second, .val (.long p2), .second, .val (.int p3), .val (.int p4), .val (.int p5), .val (.ref b1), .val (.int f), .val (.int t), .val (.ref b26), .val (.int (-1 : Int32)), .val (.int (-1 : Int32)), .unset, .unset]) rfl k_) ?_
        refine own_k (T' := T28) (g' := (mkF m 448 #[.val (.long p0), .second, .val (.long p1), .second, .val (.long p2), .second, .val (.int p3), .val (.int p4), .val (.int p5), .val (.ref b1), .val (.int f), .val (.int t), .val (.ref b26), .val (.int (-1 : Int32)), .val (.int (-1 : Int32)), .unset, .unset] [])) (fun _ k_ => XS.goto X28.here hx rfl (pc0 := 290) (pc' := 448) rfl (hb hby at_290) (by decide) (by decide) k_) ?_
        refine own_k (T' := T28) (g' := (mkF m 450 #[.val (.long p0), .second, .val (.long p1), .second, .val (.long p2), .second, .val (.int p3), .val (.int p4), .val (.int p5), .val (.ref b1), .val (.int f), .val (.int t), .val (.ref b26), .val (.int (-1 : Int32)), .val (.int (-1 : Int32)), .unset, .unset] [(.int (-1 : Int32))])) (fun _ k_ => XS.iload X28.here hx rfl (hb hby at_448) rfl  k_) ?_
        refine own_k (T' := T28) (g' := (mkF m 452 #[.val (.long p0), .second, .val (.long p1), .second, .val (.long p2), .second, .val (.int p3), .val (.int p4), .val (.int p5), .val (.ref b1), .val (.int f), .val (.int t), .val (.ref b26), .val (.int (-1 : Int32)), .val (.int (-1 : Int32)), .unset, .unset] [(.int (-1 : Int32)), (.int (-1 : Int32))])) (fun _ k_ => XS.iload X28.here hx rfl (hb hby at_450) rfl  k_) ?_
        refine own_k (T' := T28) (g' := (mkF m 455 #[.val (.long p0), .second, .val (.long p1), .second, .val (.long p2), .second, .val (.int p3), .val (.int p4), .val (.int p5), .val (.ref b1), .val (.int f), .val (.int t), .val (.ref b26), .val (.int (-1 : Int32)), .val (.int (-1 : Int32)), .unset, .unset] [])) (fun _ k_ => XS.icmpNo X28.here hx rfl (hb hby at_452) rfl ((teq (by decide : ((-1 : Int32) = (-1 : Int32)))).2) k_) ?_
        refine own_k (T' := T28) (g' := (mkF m 456 #[.val (.long p0), .second, .val (.long p1), .second, .val (.long p2), .second, .val (.int p3), .val (.int p4), .val (.int p5), .val (.ref b1), .val (.int f), .val (.int t), .val (.ref b26), .val (.int (-1 : Int32)), .val (.int (-1 : Int32)), .unset, .unset] [(.int (1 : Int32))])) (fun _ k_ => XS.iconst X28.here hx rfl (hb hby at_455) k_) ?_
        refine own_k (T' := T28) (g' := (mkF m 460 #[.val (.long p0), .second, .val (.long p1), .second, .val (.long p2), .second, .val (.int p3), .val (.int p4), .val (.int p5), .val (.ref b1), .val (.int f), .val (.int t), .val (.ref b26), .val (.int (-1 : Int32)), .val (.int (-1 : Int32)), .unset, .unset] [(.int (1 : Int32))])) (fun _ k_ => XS.goto X28.here hx rfl (pc0 := 456) (pc' := 460) rfl (hb hby at_456) (by decide) (by decide) k_) ?_
        exact own_retN X28 hx (t := .boolean) hret (by simp) hlk (hb hby at_460) hF (⟨by rw [show nar .boolean (1 : Int32) = (1 : Int32) from by decide], N28, trivial⟩) (by decide) (by decide)
      · refine own_k (T' := T28) (g' := (mkF m 293 #[.val (.long p0), .second, .val (.long p1), .second, .val (.long p2), .second, .val (.int p3), .val (.int p4), .val (.int p5), .val (.ref b1), .val (.int f), .val (.int t), .val (.ref b26), .val (.int (-1 : Int32)), .unset, .unset, .unset] [])) (fun _ k_ => XS.icmpYes X28.here hx rfl (pc0 := 284) (pc' := 293) rfl (hb hby at_284) rfl ((flt hc57).2.2.2) (by decide) (by decide) k_) ?_
        refine own_k (T' := T28) (g' := (mkF m 295 #[.val (.long p0), .second, .val (.long p1), .second, .val (.long p2), .second, .val (.int p3), .val (.int p4), .val (.int p5), .val (.ref b1), .val (.int f), .val (.int t), .val (.ref b26), .val (.int (-1 : Int32)), .unset, .unset, .unset] [(.ref b1)])) (fun _ k_ => XS.aload X28.here hx rfl (hb hby at_293) rfl rfl  k_) ?_
        refine own_k (T' := T28) (g' := (mkF m 296 #[.val (.long p0), .second, .val (.long p1), .second, .val (.long p2), .second, .val (.int p3), .val (.int p4), .val (.int p5), .val (.ref b1), .val (.int f), .val (.int t), .val (.ref b26), .val (.int (-1 : Int32)), .unset, .unset, .unset] [(.int (0 : Int32)), (.ref b1)])) (fun _ k_ => XS.iconst X28.here hx rfl (hb hby at_295) k_) ?_
        refine own_k (T' := T28) (g' := (mkF m 298 #[.val (.long p0), .second, .val (.long p1), .second, .val (.long p2), .second, .val (.int p3), .val (.int p4), .val (.int p5), .val (.ref b1), .val (.int f), .val (.int t), .val (.ref b26), .val (.int (-1 : Int32)), .unset, .unset, .unset] [(.int f), (.int (0 : Int32)), (.ref b1)])) (fun _ k_ => XS.iload X28.here hx rfl (hb hby at_296) rfl  k_) ?_
        refine own_k (T' := T28) (g' := (mkF m 300 #[.val (.long p0), .second, .val (.long p1), .second, .val (.long p2), .second, .val (.int p3), .val (.int p4), .val (.int p5), .val (.ref b1), .val (.int f), .val (.int t), .val (.ref b26), .val (.int (-1 : Int32)), .unset, .unset, .unset] [(.int t), (.int f), (.int (0 : Int32)), (.ref b1)])) (fun _ k_ => XS.iload X28.here hx rfl (hb hby at_298) rfl  k_) ?_
        have f59 := ((V25.ext E26).keep K27 (ninS (Nat.ne_of_lt (Nat.lt_of_lt_of_le (Nat.lt_of_lt_of_le (Nat.lt_of_lt_of_le (Nat.lt_of_lt_of_le (Nat.lt_of_lt_of_le (Nat.lt_of_lt_of_le (Nat.lt_of_lt_of_le (Nat.lt_of_lt_of_le (Nat.lt_of_lt_of_le (Nat.lt_of_lt_of_le (Nat.lt_of_lt_of_le (Nat.lt_of_lt_of_le (Nat.lt_of_lt_of_le A1.lt (Keep.of_wr W3).1) (Keep.of_wr W5).1) (Keep.of_wr W7).1) (Keep.of_wr W9).1) (Keep.of_wr W11).1) (Keep.of_wr W13).1) (Keep.of_wr W15).1) (Keep.of_wr W17).1) (Keep.of_wr W19).1) (Keep.of_wr W21).1) (Keep.of_wr W23).1) (Keep.of_wr W25).1) (Nat.le_of_eq g26.symm))) nin0))
        refine own_callS X28 hx hZ (y := (⟨"com/example/couponforge/couponforge/io/DecimalNumberWholeNumberPinLaw", "part", "([CIII)J"⟩ : MethodName)) hown (hw _ (List.mem_of_getElem? (i := 90) rfl)) (hw _ (List.mem_of_getElem? (i := 91) rfl)) (hw _ (List.mem_of_getElem? (i := 3) rfl)) (hw _ (List.mem_of_getElem? (i := 92) rfl)) (by decide) (al := [(.ref b1), (.int (0 : Int32)), (.int f), (.int t)]) (rm_part l Z a0 g_COMPACT_STRINGS g_SIOOBE_FORMATTER hW b1 k1 (0 : Int32) f t [c0, c1, c2, c3, c4, c5, c6, c7, c8, c9, c10, c11] T27.heap O27' f59 (by decide) rf.1 (hsm hc57) (own_all_12 r0 r1 r2 r3 r4 r5 r6 r7 r8 r9 r10 r11)) 0 (by decide) (by decide) e28 (by decide) (by decide) (by rw [hml]; rfl) (lenOf pd__28_5bCIII_29J rfl) rfl (rest := []) (by show 2 * 0 + _ ≤ _; exact Nat.le_of_eq rfl) (hb hby at_300) ?_
        intro v60 T60 L60 X60 hQ60
        obtain ⟨⟨z58, rfl, hz_z58⟩, Nq60, K60⟩ := hQ60
        have N60 := Fr.app N28 Nq60
        have O60' := O27'.keep K60 all0
        show own_Go p e below Φ T60 (mkF m 303 #[.val (.long p0), .second, .val (.long p1), .second, .val (.long p2), .second, .val (.int p3), .val (.int p4), .val (.int p5), .val (.ref b1), .val (.int f), .val (.int t), .val (.ref b26), .val (.int (-1 : Int32)), .unset, .unset, .unset] [(.long z58)])
        refine own_k (T' := T60) (g' := (mkF m 305 #[.val (.long p0), .second, .val (.long p1), .second, .val (.long p2), .second, .val (.int p3), .val (.int p4), .val (.int p5), .val (.ref b1), .val (.int f), .val (.int t), .val (.ref b26), .val (.int (-1 : Int32)), .unset, .unset, .unset] [(.ref b1), (.long z58)])) (fun _ k_ => XS.aload X60.here hx rfl (hb hby at_303) rfl rfl  k_) ?_
        refine own_k (T' := T60) (g' := (mkF m 306 #[.val (.long p0), .second, .val (.long p1), .second, .val (.long p2), .second, .val (.int p3), .val (.int p4), .val (.int p5), .val (.ref b1), .val (.int f), .val (.int t), .val (.ref b26), .val (.int (-1 : Int32)), .unset, .unset, .unset] [(.int (1 : Int32)), (.ref b1), (.long z58)])) (fun _ k_ => XS.iconst X60.here hx rfl (hb hby at_305) k_) ?_
        refine own_k (T' := T60) (g' := (mkF m 308 #[.val (.long p0), .second, .val (.long p1), .second, .val (.long p2), .second, .val (.int p3), .val (.int p4), .val (.int p5), .val (.ref b1), .val (.int f), .val (.int t), .val (.ref b26), .val (.int (-1 : Int32)), .unset, .unset, .unset] [(.int f), (.int (1 : Int32)), (.ref b1), (.long z58)])) (fun _ k_ => XS.iload X60.here hx rfl (hb hby at_306) rfl  k_) ?_
        refine own_k (T' := T60) (g' := (mkF m 310 #[.val (.long p0), .second, .val (.long p1), .second, .val (.long p2), .second, .val (.int p3), .val (.int p4), .val (.int p5), .val (.ref b1), .val (.int f), .val (.int t), .val (.ref b26), .val (.int (-1 : Int32)), .unset, .unset, .unset] [(.int t), (.int f), (.int (1 : Int32)), (.ref b1), (.long z58)])) (fun _ k_ => XS.iload X60.here hx rfl (hb hby at_308) rfl  k_) ?_
        refine own_callS X60 hx hZ (y := (⟨"com/example/couponforge/couponforge/io/DecimalNumberWholeNumberPinLaw", "part", "([CIII)J"⟩ : MethodName)) hown (hw _ (List.mem_of_getElem? (i := 90) rfl)) (hw _ (List.mem_of_getElem? (i := 91) rfl)) (hw _ (List.mem_of_getElem? (i := 3) rfl)) (hw _ (List.mem_of_getElem? (i := 92) rfl)) (by decide) (al := [(.ref b1), (.int (1 : Int32)), (.int f), (.int t)]) (rm_part l Z a0 g_COMPACT_STRINGS g_SIOOBE_FORMATTER hW b1 k1 (1 : Int32) f t [c0, c1, c2, c3, c4, c5, c6, c7, c8, c9, c10, c11] T60.heap O60' (f59.keep K60 nin0) (by decide) rf.1 (hsm hc57) (own_all_12 r0 r1 r2 r3 r4 r5 r6 r7 r8 r9 r10 r11)) 2 (by decide) (by decide) rfl (by decide) (by decide) (by rw [hml]; rfl) (lenOf pd__28_5bCIII_29J rfl) rfl (rest := [(.long z58)]) (by show 2 * 0 + _ ≤ _; exact Nat.le_of_eq rfl) (hb hby at_310) ?_
        intro v62 T62 L62 X62 hQ62
        obtain ⟨⟨z61, rfl, hz_z61⟩, Nq62, K62⟩ := hQ62
        have N62 := Fr.app N60 Nq62
        have O62' := O60'.keep K62 all0
        show own_Go p e below Φ T62 (mkF m 313 #[.val (.long p0), .second, .val (.long p1), .second, .val (.long p2), .second, .val (.int p3), .val (.int p4), .val (.int p5), .val (.ref b1), .val (.int f), .val (.int t), .val (.ref b26), .val (.int (-1 : Int32)), .unset, .unset, .unset] [(.long z61), (.long z58)])
        refine own_k (T' := T62) (g' := (mkF m 314 #[.val (.long p0), .second, .val (.long p1), .second, .val (.long p2), .second, .val (.int p3), .val (.int p4), .val (.int p5), .val (.ref b1), .val (.int f), .val (.int t), .val (.ref b26), .val (.int (-1 : Int32)), .unset, .unset, .unset] [(.long (z58 + z61))])) (fun _ k_ => XS.ladd X62.here hx rfl (hb hby at_313) rfl k_) ?_
        refine own_k (T' := T62) (g' := (mkF m 316 #[.val (.long p0), .second, .val (.long p1), .second, .val (.long p2), .second, .val (.int p3), .val (.int p4), .val (.int p5), .val (.ref b1), .val (.int f), .val (.int t), .val (.ref b26), .val (.int (-1 : Int32)), .unset, .unset, .unset] [(.ref b1), (.long (z58 + z61))])) (fun _ k_ => XS.aload X62.here hx rfl (hb hby at_314) rfl rfl  k_) ?_
        refine own_k (T' := T62) (g' := (mkF m 317 #[.val (.long p0), .second, .val (.long p1), .second, .val (.long p2), .second, .val (.int p3), .val (.int p4), .val (.int p5), .val (.ref b1), .val (.int f), .val (.int t), .val (.ref b26), .val (.int (-1 : Int32)), .unset, .unset, .unset] [(.int (2 : Int32)), (.ref b1), (.long (z58 + z61))])) (fun _ k_ => XS.iconst X62.here hx rfl (hb hby at_316) k_) ?_
        refine own_k (T' := T62) (g' := (mkF m 319 #[.val (.long p0), .second, .val (.long p1), .second, .val (.long p2), .second, .val (.int p3), .val (.int p4), .val (.int p5), .val (.ref b1), .val (.int f), .val (.int t), .val (.ref b26), .val (.int (-1 : Int32)), .unset, .unset, .unset] [(.int f), (.int (2 : Int32)), (.ref b1), (.long (z58 + z61))])) (fun _ k_ => XS.iload X62.here hx rfl (hb hby at_317) rfl  k_) ?_
        refine own_k (T' := T62) (g' := (mkF m 321 #[.val (.long p0), .second, .val (.long p1), .second, .val (.long p2), .second, .val (.int p3), .val (.int p4), .val (.int p5), .val (.ref b1), .val (.int f), .val (.int t), .val (.ref b26), .val (.int (-1 : Int32)), .unset, .unset, .unset] [(.int t), (.int f), (.int (2 : Int32)), (.ref b1), (.long (z58 + z61))])) (fun _ k_ => XS.iload X62.here hx rfl (hb hby at_319) rfl  k_) ?_
        refine own_callS X62 hx hZ (y := (⟨"com/example/couponforge/couponforge/io/DecimalNumberWholeNumberPinLaw", "part", "([CIII)J"⟩ : MethodName)) hown (hw _ (List.mem_of_getElem? (i := 90) rfl)) (hw _ (List.mem_of_getElem? (i := 91) rfl)) (hw _ (List.mem_of_getElem? (i := 3) rfl)) (hw _ (List.mem_of_getElem? (i := 92) rfl)) (by decide) (al := [(.ref b1), (.int (2 : Int32)), (.int f), (.int t)]) (rm_part l Z a0 g_COMPACT_STRINGS g_SIOOBE_FORMATTER hW b1 k1 (2 : Int32) f t [c0, c1, c2, c3, c4, c5, c6, c7, c8, c9, c10, c11] T62.heap O62' ((f59.keep K60 nin0).keep K62 nin0) (by decide) rf.1 (hsm hc57) (own_all_12 r0 r1 r2 r3 r4 r5 r6 r7 r8 r9 r10 r11)) 2 (by decide) (by decide) rfl (by decide) (by decide) (by rw [hml]; rfl) (lenOf pd__28_5bCIII_29J rfl) rfl (rest := [(.long (z58 + z61))]) (by show 2 * 0 + _ ≤ _; exact Nat.le_of_eq rfl) (hb hby at_321) ?_
        intro v64 T64 L64 X64 hQ64
        obtain ⟨⟨z63, rfl, hz_z63⟩, Nq64, K64⟩ := hQ64
        have N64 := Fr.app N62 Nq64
        have O64' := O62'.keep K64 all0
        show own_Go p e below Φ T64 (mkF m 324 #[.val (.long p0), .second, .val (.long p1), .second, .val (.long p2), .second, .val (.int p3), .val (.int p4), .val (.int p5), .val (.ref b1), .val (.int f), .val (.int t), .val (.ref b26), .val (.int (-1 : Int32)), .unset, .unset, .unset] [(.long z63), (.long (z58 + z61))])
        refine own_k (T' := T64) (g' := (mkF m 325 #[.val (.long p0), .second, .val (.long p1), .second, .val (.long p2), .second, .val (.int p3), .val (.int p4), .val (.int p5), .val (.ref b1), .val (.int f), .val (.int t), .val (.ref b26), .val (.int (-1 : Int32)), .unset, .unset, .unset] [(.long ((z58 + z61) + z63))])) (fun _ k_ => XS.ladd X64.here hx rfl (hb hby at_324) rfl k_) ?_
        refine own_k (T' := T64) (g' := (mkF m 327 #[.val (.long p0), .second, .val (.long p1), .second, .val (.long p2), .second, .val (.int p3), .val (.int p4), .val (.int p5), .val (.ref b1), .val (.int f), .val (.int t), .val (.ref b26), .val (.int (-1 : Int32)), .unset, .unset, .unset] [(.ref b1), (.long ((z58 + z61) + z63))])) (fun _ k_ => XS.aload X64.here hx rfl (hb hby at_325) rfl rfl  k_) ?_
        refine own_k (T' := T64) (g' := (mkF m 328 #[.val (.long p0), .second, .val (.long p1), .second, .val (.long p2), .second, .val (.int p3), .val (.int p4), .val (.int p5), .val (.ref b1), .val (.int f), .val (.int t), .val (.ref b26), .val (.int (-1 : Int32)), .unset, .unset, .unset] [(.int (3 : Int32)), (.ref b1), (.long ((z58 + z61) + z63))])) (fun _ k_ => XS.iconst X64.here hx rfl (hb hby at_327) k_) ?_
        refine own_k (T' := T64) (g' := (mkF m 330 #[.val (.long p0), .second, .val (.long p1), .second, .val (.long p2), .second, .val (.int p3), .val (.int p4), .val (.int p5), .val (.ref b1), .val (.int f), .val (.int t), .val (.ref b26), .val (.int (-1 : Int32)), .unset, .unset, .unset] [(.int f), (.int (3 : Int32)), (.ref b1), (.long ((z58 + z61) + z63))])) (fun _ k_ => XS.iload X64.here hx rfl (hb hby at_328) rfl  k_) ?_
        refine own_k (T' := T64) (g' := (mkF m 332 #[.val (.long p0), .second, .val (.long p1), .second, .val (.long p2), .second, .val (.int p3), .val (.int p4), .val (.int p5), .val (.ref b1), .val (.int f), .val (.int t), .val (.ref b26), .val (.int (-1 : Int32)), .unset, .unset, .unset] [(.int t), (.int f), (.int (3 : Int32)), (.ref b1), (.long ((z58 + z61) + z63))])) (fun _ k_ => XS.iload X64.here hx rfl (hb hby at_330) rfl  k_) ?_
        refine own_callS X64 hx hZ (y := (⟨"com/example/couponforge/couponforge/io/DecimalNumberWholeNumberPinLaw", "part", "([CIII)J"⟩ : MethodName)) hown (hw _ (List.mem_of_getElem? (i := 90) rfl)) (hw _ (List.mem_of_getElem? (i := 91) rfl)) (hw _ (List.mem_of_getElem? (i := 3) rfl)) (hw _ (List.mem_of_getElem? (i := 92) rfl)) (by decide) (al := [(.ref b1), (.int (3 : Int32)), (.int f), (.int t)]) (rm_part l Z a0 g_COMPACT_STRINGS g_SIOOBE_FORMATTER hW b1 k1 (3 : Int32) f t [c0, c1, c2, c3, c4, c5, c6, c7, c8, c9, c10, c11] T64.heap O64' (((f59.keep K60 nin0).keep K62 nin0).keep K64 nin0) (by decide) rf.1 (hsm hc57) (own_all_12 r0 r1 r2 r3 r4 r5 r6 r7 r8 r9 r10 r11)) 2 (by decide) (by decide) rfl (by decide) (by decide) (by rw [hml]; rfl) (lenOf pd__28_5bCIII_29J rfl) rfl (rest := [(.long ((z58 + z61) + z63))]) (by show 2 * 0 + _ ≤ _; exact Nat.le_of_eq rfl) (hb hby at_332) ?_
        intro v66 T66 L66 X66 hQ66
        obtain ⟨⟨z65, rfl, hz_z65⟩, Nq66, K66⟩ := hQ66
        have N66 := Fr.app N64 Nq66
        have O66' := O64'.keep K66 all0
        show own_Go p e below Φ T66 (mkF m 335 #[.val (.long p0), .second, .val (.long p1), .second, .val (.long p2), .second, .val (.int p3), .val (.int p4), .val (.int p5), .val (.ref b1), .val (.int f), .val (.int t), .val (.ref b26), .val (.int (-1 : Int32)), .unset, .unset, .unset] [(.long z65), (.long ((z58 + z61) + z63))])
        refine own_k (T' := T66) (g' := (mkF m 336 #[.val (.long p0), .second, .val (.long p1), .second, .val (.long p2), .second, .val (.int p3), .val (.int p4), .val (.int p5), .val (.ref b1), .val (.int f), .val (.int t), .val (.ref b26), .val (.int (-1 : Int32)), .unset, .unset, .unset] [(.long (((z58 + z61) + z63) + z65))])) (fun _ k_ => XS.ladd X66.here hx rfl (hb hby at_335) rfl k_) ?_
        refine own_k (T' := T66) (g' := (mkF m 338 #[.val (.long p0), .second, .val (.long p1), .second, .val (.long p2), .second, .val (.int p3), .val (.int p4), .val (.int p5), .val (.ref b1), .val (.int f), .val (.int t), .val (.ref b26), .val (.int (-1 : Int32)), .unset, .unset, .unset] [(.ref b1), (.long (((z58 + z61) + z63) + z65))])) (fun _ k_ => XS.aload X66.here hx rfl (hb hby at_336) rfl rfl  k_) ?_
        refine own_k (T' := T66) (g' := (mkF m 339 #[.val (.long p0), .second, .val (.long p1), .second, .val (.long p2), .second, .val (.int p3), .val (.int p4), .val (.int p5), .val (.ref b1), .val (.int f), .val (.int t), .val (.ref b26), .val (.int (-1 : Int32)), .unset, .unset, .unset] [(.int (4 : Int32)), (.ref b1), (.long (((z58 + z61) + z63) + z65))])) (fun _ k_ => XS.iconst X66.here hx rfl (hb hby at_338) k_) ?_
        refine own_k (T' := T66) (g' := (mkF m 341 #[.val (.long p0), .second, .val (.long p1), .second, .val (.long p2), .second, .val (.int p3), .val (.int p4), .val (.int p5), .val (.ref b1), .val (.int f), .val (.int t), .val (.ref b26), .val (.int (-1 : Int32)), .unset, .unset, .unset] [(.int f), (.int (4 : Int32)), (.ref b1), (.long (((z58 + z61) + z63) + z65))])) (fun _ k_ => XS.iload X66.here hx rfl (hb hby at_339) rfl  k_) ?_
        refine own_k (T' := T66) (g' := (mkF m 343 #[.val (.long p0), .second, .val (.long p1), .second, .val (.long p2), .second, .val (.int p3), .val (.int p4), .val (.int p5), .val (.ref b1), .val (.int f), .val (.int t), .val (.ref b26), .val (.int (-1 : Int32)), .unset, .unset, .unset] [(.int t), (.int f), (.int (4 : Int32)), (.ref b1), (.long (((z58 + z61) + z63) + z65))])) (fun _ k_ => XS.iload X66.here hx rfl (hb hby at_341) rfl  k_) ?_
        have f68 := ((((f59.keep K60 nin0).keep K62 nin0).keep K64 nin0).keep K66 nin0)
        refine own_callS X66 hx hZ (y := (⟨"com/example/couponforge/couponforge/io/DecimalNumberWholeNumberPinLaw", "part", "([CIII)J"⟩ : MethodName)) hown (hw _ (List.mem_of_getElem? (i := 90) rfl)) (hw _ (List.mem_of_getElem? (i := 91) rfl)) (hw _ (List.mem_of_getElem? (i := 3) rfl)) (hw _ (List.mem_of_getElem? (i := 92) rfl)) (by decide) (al := [(.ref b1), (.int (4 : Int32)), (.int f), (.int t)]) (rm_part l Z a0 g_COMPACT_STRINGS g_SIOOBE_FORMATTER hW b1 k1 (4 : Int32) f t [c0, c1, c2, c3, c4, c5, c6, c7, c8, c9, c10, c11] T66.heap O66' f68 (by decide) rf.1 (hsm hc57) (own_all_12 r0 r1 r2 r3 r4 r5 r6 r7 r8 r9 r10 r11)) 2 (by decide) (by decide) rfl (by decide) (by decide) (by rw [hml]; rfl) (lenOf pd__28_5bCIII_29J rfl) rfl (rest := [(.long (((z58 + z61) + z63) + z65))]) (by show 2 * 0 + _ ≤ _; exact Nat.le_of_eq rfl) (hb hby at_343) ?_
        intro v69 T69 L69 X69 hQ69
        obtain ⟨⟨z67, rfl, hz_z67⟩, Nq69, K69⟩ := hQ69
        have N69 := Fr.app N66 Nq69
        have O69' := O66'.keep K69 all0
        show own_Go p e below Φ T69 (mkF m 346 #[.val (.long p0), .second, .val (.long p1), .second, .val (.long p2), .second, .val (.int p3), .val (.int p4), .val (.int p5), .val (.ref b1), .val (.int f), .val (.int t), .val (.ref b26), .val (.int (-1 : Int32)), .unset, .unset, .unset] [(.long z67), (.long (((z58 + z61) + z63) + z65))])
        refine own_k (T' := T69) (g' := (mkF m 347 #[.val (.long p0), .second, .val (.long p1), .second, .val (.long p2), .second, .val (.int p3), .val (.int p4), .val (.int p5), .val (.ref b1), .val (.int f), .val (.int t), .val (.ref b26), .val (.int (-1 : Int32)), .unset, .unset, .unset] [(.long ((((z58 + z61) + z63) + z65) + z67))])) (fun _ k_ => XS.ladd X69.here hx rfl (hb hby at_346) rfl k_) ?_
        refine own_k (T' := T69) (g' := (mkF m 349 #[.val (.long p0), .second, .val (.long p1), .second, .val (.long p2), .second, .val (.int p3), .val (.int p4), .val (.int p5), .val (.ref b1), .val (.int f), .val (.int t), .val (.ref b26), .val (.int (-1 : Int32)), .unset, .unset, .unset] [(.ref b1), (.long ((((z58 + z61) + z63) + z65) + z67))])) (fun _ k_ => XS.aload X69.here hx rfl (hb hby at_347) rfl rfl  k_) ?_
        refine own_k (T' := T69) (g' := (mkF m 350 #[.val (.long p0), .second, .val (.long p1), .second, .val (.long p2), .second, .val (.int p3), .val (.int p4), .val (.int p5), .val (.ref b1), .val (.int f), .val (.int t), .val (.ref b26), .val (.int (-1 : Int32)), .unset, .unset, .unset] [(.int (5 : Int32)), (.ref b1), (.long ((((z58 + z61) + z63) + z65) + z67))])) (fun _ k_ => XS.iconst X69.here hx rfl (hb hby at_349) k_) ?_
        refine own_k (T' := T69) (g' := (mkF m 352 #[.val (.long p0), .second, .val (.long p1), .second, .val (.long p2), .second, .val (.int p3), .val (.int p4), .val (.int p5), .val (.ref b1), .val (.int f), .val (.int t), .val (.ref b26), .val (.int (-1 : Int32)), .unset, .unset, .unset] [(.int f), (.int (5 : Int32)), (.ref b1), (.long ((((z58 + z61) + z63) + z65) + z67))])) (fun _ k_ => XS.iload X69.here hx rfl (hb hby at_350) rfl  k_) ?_
        refine own_k (T' := T69) (g' := (mkF m 354 #[.val (.long p0), .second, .val (.long p1), .second, .val (.long p2), .second, .val (.int p3), .val (.int p4), .val (.int p5), .val (.ref b1), .val (.int f), .val (.int t), .val (.ref b26), .val (.int (-1 : Int32)), .unset, .unset, .unset] [(.int t), (.int f), (.int (5 : Int32)), (.ref b1), (.long ((((z58 + z61) + z63) + z65) + z67))])) (fun _ k_ => XS.iload X69.here hx rfl (hb hby at_352) rfl  k_) ?_
        refine own_callS X69 hx hZ (y := (⟨"com/example/couponforge/couponforge/io/DecimalNumberWholeNumberPinLaw", "part", "([CIII)J"⟩ : MethodName)) hown (hw _ (List.mem_of_getElem? (i := 90) rfl)) (hw _ (List.mem_of_getElem? (i := 91) rfl)) (hw _ (List.mem_of_getElem? (i := 3) rfl)) (hw _ (List.mem_of_getElem? (i := 92) rfl)) (by decide) (al := [(.ref b1), (.int (5 : Int32)), (.int f), (.int t)]) (rm_part l Z a0 g_COMPACT_STRINGS g_SIOOBE_FORMATTER hW b1 k1 (5 : Int32) f t [c0, c1, c2, c3, c4, c5, c6, c7, c8, c9, c10, c11] T69.heap O69' (f68.keep K69 nin0) (by decide) rf.1 (hsm hc57) (own_all_12 r0 r1 r2 r3 r4 r5 r6 r7 r8 r9 r10 r11)) 2 (by decide) (by decide) rfl (by decide) (by decide) (by rw [hml]; rfl) (lenOf pd__28_5bCIII_29J rfl) rfl (rest := [(.long ((((z58 + z61) + z63) + z65) + z67))]) (by show 2 * 0 + _ ≤ _; exact Nat.le_of_eq rfl) (hb hby at_354) ?_
        intro v71 T71 L71 X71 hQ71
        obtain ⟨⟨z70, rfl, hz_z70⟩, Nq71, K71⟩ := hQ71
        have N71 := Fr.app N69 Nq71
        have O71' := O69'.keep K71 all0
        show own_Go p e below Φ T71 (mkF m 357 #[.val (.long p0), .second, .val (.long p1), .second, .val (.long p2), .second, .val (.int p3), .val (.int p4), .val (.int p5), .val (.ref b1), .val (.int f), .val (.int t), .val (.ref b26), .val (.int (-1 : Int32)), .unset, .unset, .unset] [(.long z70), (.long ((((z58 + z61) + z63) + z65) + z67))])
        refine own_k (T' := T71) (g' := (mkF m 358 #[.val (.long p0), .second, .val (.long p1), .second, .val (.long p2), .second, .val (.int p3), .val (.int p4), .val (.int p5), .val (.ref b1), .val (.int f), .val (.int t), .val (.ref b26), .val (.int (-1 : Int32)), .unset, .unset, .unset] [(.long (((((z58 + z61) + z63) + z65) + z67) + z70))])) (fun _ k_ => XS.ladd X71.here hx rfl (hb hby at_357) rfl k_) ?_
        refine own_k (T' := T71) (g' := (mkF m 360 #[.val (.long p0), .second, .val (.long p1), .second, .val (.long p2), .second, .val (.int p3), .val (.int p4), .val (.int p5), .val (.ref b1), .val (.int f), .val (.int t), .val (.ref b26), .val (.int (-1 : Int32)), .unset, .unset, .unset] [(.ref b1), (.long (((((z58 + z61) + z63) + z65) + z67) + z70))])) (fun _ k_ => XS.aload X71.here hx rfl (hb hby at_358) rfl rfl  k_) ?_
        refine own_k (T' := T71) (g' := (mkF m 362 #[.val (.long p0), .second, .val (.long p1), .second, .val (.long p2), .second, .val (.int p3), .val (.int p4), .val (.int p5), .val (.ref b1), .val (.int f), .val (.int t), .val (.ref b26), .val (.int (-1 : Int32)), .unset, .unset, .unset] [(.int (6 : Int32)), (.ref b1), (.long (((((z58 + z61) + z63) + z65) + z67) + z70))])) (fun _ k_ => XS.bipush X71.here hx rfl (hb hby at_360) k_) ?_
        refine own_k (T' := T71) (g' := (mkF m 364 #[.val (.long p0), .second, .val (.long p1), .second, .val (.long p2), .second, .val (.int p3), .val (.int p4), .val (.int p5), .val (.ref b1), .val (.int f), .val (.int t), .val (.ref b26), .val (.int (-1 : Int32)), .unset, .unset, .unset] [(.int f), (.int (6 : Int32)), (.ref b1), (.long (((((z58 + z61) + z63) + z65) + z67) + z70))])) (fun _ k_ => XS.iload X71.here hx rfl (hb hby at_362) rfl  k_) ?_
        refine own_k (T' := T71) (g' := (mkF m 366 #[.val (.long p0), .second, .val (.long p1), .second, .val (.long p2), .second, .val (.int p3), .val (.int p4), .val (.int p5), .val (.ref b1), .val (.int f), .val (.int t), .val (.ref b26), .val (.int (-1 : Int32)), .unset, .unset, .unset] [(.int t), (.int f), (.int (6 : Int32)), (.ref b1), (.long (((((z58 + z61) + z63) + z65) + z67) + z70))])) (fun _ k_ => XS.iload X71.here hx rfl (hb hby at_364) rfl  k_) ?_
        refine own_callS X71 hx hZ (y := (⟨"com/example/couponforge/couponforge/io/DecimalNumberWholeNumberPinLaw", "part", "([CIII)J"⟩ : MethodName)) hown (hw _ (List.mem_of_getElem? (i := 90) rfl)) (hw _ (List.mem_of_getElem? (i := 91) rfl)) (hw _ (List.mem_of_getElem? (i := 3) rfl)) (hw _ (List.mem_of_getElem? (i := 92) rfl)) (by decide) (al := [(.ref b1), (.int (6 : Int32)), (.int f), (.int t)]) (rm_part l Z a0 g_COMPACT_STRINGS g_SIOOBE_FORMATTER hW b1 k1 (6 : Int32) f t [c0, c1, c2, c3, c4, c5, c6, c7, c8, c9, c10, c11] T71.heap O71' ((f68.keep K69 nin0).keep K71 nin0) (by decide) rf.1 (hsm hc57) (own_all_12 r0 r1 r2 r3 r4 r5 r6 r7 r8 r9 r10 r11)) 2 (by decide) (by decide) rfl (by decide) (by decide) (by rw [hml]; rfl) (lenOf pd__28_5bCIII_29J rfl) rfl (rest := [(.long (((((z58 + z61) + z63) + z65) + z67) + z70))]) (by show 2 * 0 + _ ≤ _; exact Nat.le_of_eq rfl) (hb hby at_366) ?_
        intro v73 T73 L73 X73 hQ73
        obtain ⟨⟨z72, rfl, hz_z72⟩, Nq73, K73⟩ := hQ73
        have N73 := Fr.app N71 Nq73
        have O73' := O71'.keep K73 all0
        show own_Go p e below Φ T73 (mkF m 369 #[.val (.long p0), .second, .val (.long p1), .second, .val (.long p2), .second, .val (.int p3), .val (.int p4), .val (.int p5), .val (.ref b1), .val (.int f), .val (.int t), .val (.ref b26), .val (.int (-1 : Int32)), .unset, .unset, .unset] [(.long z72), (.long (((((z58 + z61) + z63) + z65) + z67) + z70))])
        refine own_k (T' := T73) (g' := (mkF m 370 #[.val (.long p0), .second, .val (.long p1), .second, .val (.long p2), .second, .val (.int p3), .val (.int p4), .val (.int p5), .val (.ref b1), .val (.int f), .val (.int t), .val (.ref b26), .val (.int (-1 : Int32)), .unset, .unset, .unset] [(.long ((((((z58 + z61) + z63) + z65) + z67) + z70) + z72))])) (fun _ k_ => XS.ladd X73.here hx rfl (hb hby at_369) rfl k_) ?_
        refine own_k (T' := T73) (g' := (mkF m 372 #[.val (.long p0), .second, .val (.long p1), .second, .val (.long p2), .second, .val (.int p3), .val (.int p4), .val (.int p5), .val (.ref b1), .val (.int f), .val (.int t), .val (.ref b26), .val (.int (-1 : Int32)), .unset, .unset, .unset] [(.ref b1), (.long ((((((z58 + z61) + z63) + z65) + z67) + z70) + z72))])) (fun _ k_ => XS.aload X73.here hx rfl (hb hby at_370) rfl rfl  k_) ?_
        refine own_k (T' := T73) (g' := (mkF m 374 #[.val (.long p0), .second, .val (.long p1), .second, .val (.long p2), .second, .val (.int p3), .val (.int p4), .val (.int p5), .val (.ref b1), .val (.int f), .val (.int t), .val (.ref b26), .val (.int (-1 : Int32)), .unset, .unset, .unset] [(.int (7 : Int32)), (.ref b1), (.long ((((((z58 + z61) + z63) + z65) + z67) + z70) + z72))])) (fun _ k_ => XS.bipush X73.here hx rfl (hb hby at_372) k_) ?_
        refine own_k (T' := T73) (g' := (mkF m 376 #[.val (.long p0), .second, .val (.long p1), .second, .val (.long p2), .second, .val (.int p3), .val (.int p4), .val (.int p5), .val (.ref b1), .val (.int f), .val (.int t), .val (.ref b26), .val (.int (-1 : Int32)), .unset, .unset, .unset] [(.int f), (.int (7 : Int32)), (.ref b1), (.long ((((((z58 + z61) + z63) + z65) + z67) + z70) + z72))])) (fun _ k_ => XS.iload X73.here hx rfl (hb hby at_374) rfl  k_) ?_
        refine own_k (T' := T73) (g' := (mkF m 378 #[.val (.long p0), .second, .val (.long p1), .second, .val (.long p2), .second, .val (.int p3), .val (.int p4), .val (.int p5), .val (.ref b1), .val (.int f), .val (.int t), .val (.ref b26), .val (.int (-1 : Int32)), .unset, .unset, .unset] [(.int t), (.int f), (.int (7 : Int32)), (.ref b1), (.long ((((((z58 + z61) + z63) + z65) + z67) + z70) + z72))])) (fun _ k_ => XS.iload X73.here hx rfl (hb hby at_376) rfl  k_) ?_
        refine own_callS X73 hx hZ (y := (⟨"com/example/couponforge/couponforge/io/DecimalNumberWholeNumberPinLaw", "part", "([CIII)J"⟩ : MethodName)) hown (hw _ (List.mem_of_getElem? (i := 90) rfl)) (hw _ (List.mem_of_getElem? (i := 91) rfl)) (hw _ (List.mem_of_getElem? (i := 3) rfl)) (hw _ (List.mem_of_getElem? (i := 92) rfl)) (by decide) (al := [(.ref b1), (.int (7 : Int32)), (.int f), (.int t)]) (rm_part l Z a0 g_COMPACT_STRINGS g_SIOOBE_FORMATTER hW b1 k1 (7 : Int32) f t [c0, c1, c2, c3, c4, c5, c6, c7, c8, c9, c10, c11] T73.heap O73' (((f68.keep K69 nin0).keep K71 nin0).keep K73 nin0) (by decide) rf.1 (hsm hc57) (own_all_12 r0 r1 r2 r3 r4 r5 r6 r7 r8 r9 r10 r11)) 2 (by decide) (by decide) rfl (by decide) (by decide) (by rw [hml]; rfl) (lenOf pd__28_5bCIII_29J rfl) rfl (rest := [(.long ((((((z58 + z61) + z63) + z65) + z67) + z70) + z72))]) (by show 2 * 0 + _ ≤ _; exact Nat.le_of_eq rfl) (hb hby at_378) ?_
        intro v75 T75 L75 X75 hQ75
        obtain ⟨⟨z74, rfl, hz_z74⟩, Nq75, K75⟩ := hQ75
        have N75 := Fr.app N73 Nq75
        have O75' := O73'.keep K75 all0
        show own_Go p e below Φ T75 (mkF m 381 #[.val (.long p0), .second, .val (.long p1), .second, .val (.long p2), .second, .val (.int p3), .val (.int p4), .val (.int p5), .val (.ref b1), .val (.int f), .val (.int t), .val (.ref b26), .val (.int (-1 : Int32)), .unset, .unset, .unset] [(.long z74), (.long ((((((z58 + z61) + z63) + z65) + z67) + z70) + z72))])
        refine own_k (T' := T75) (g' := (mkF m 382 #[.val (.long p0), .second, .val (.long p1), .second, .val (.long p2), .second, .val (.int p3), .val (.int p4), .val (.int p5), .val (.ref b1), .val (.int f), .val (.int t), .val (.ref b26), .val (.int (-1 : Int32)), .unset, .unset, .unset] [(.long (((((((z58 + z61) + z63) + z65) + z67) + z70) + z72) + z74))])) (fun _ k_ => XS.ladd X75.here hx rfl (hb hby at_381) rfl k_) ?_
        refine own_k (T' := T75) (g' := (mkF m 384 #[.val (.long p0), .second, .val (.long p1), .second, .val (.long p2), .second, .val (.int p3), .val (.int p4), .val (.int p5), .val (.ref b1), .val (.int f), .val (.int t), .val (.ref b26), .val (.int (-1 : Int32)), .unset, .unset, .unset] [(.ref b1), (.long (((((((z58 + z61) + z63) + z65) + z67) + z70) + z72) + z74))])) (fun _ k_ => XS.aload X75.here hx rfl (hb hby at_382) rfl rfl  k_) ?_
        refine own_k (T' := T75) (g' := (mkF m 386 #[.val (.long p0), .second, .val (.long p1), .second, .val (.long p2), .second, .val (.int p3), .val (.int p4), .val (.int p5), .val (.ref b1), .val (.int f), .val (.int t), .val (.ref b26), .val (.int (-1 : Int32)), .unset, .unset, .unset] [(.int (8 : Int32)), (.ref b1), (.long (((((((z58 + z61) + z63) + z65) + z67) + z70) + z72) + z74))])) (fun _ k_ => XS.bipush X75.here hx rfl (hb hby at_384) k_) ?_
        refine own_k (T' := T75) (g' := (mkF m 388 #[.val (.long p0), .second, .val (.long p1), .second, .val (.long p2), .second, .val (.int p3), .val (.int p4), .val (.int p5), .val (.ref b1), .val (.int f), .val (.int t), .val (.ref b26), .val (.int (-1 : Int32)), .unset, .unset, .unset] [(.int f), (.int (8 : Int32)), (.ref b1), (.long (((((((z58 + z61) + z63) + z65) + z67) + z70) + z72) + z74))])) (fun _ k_ => XS.iload X75.here hx rfl (hb hby at_386) rfl  k_) ?_
        refine own_k (T' := T75) (g' := (mkF m 390 #[.val (.long p0), .second, .val (.long p1), .second, .val (.long p2), .second, .val (.int p3), .val (.int p4), .val (.int p5), .val (.ref b1), .val (.int f), .val (.int t), .val (.ref b26), .val (.int (-1 : Int32)), .unset, .unset, .unset] [(.int t), (.int f), (.int (8 : Int32)), (.ref b1), (.long (((((((z58 + z61) + z63) + z65) + z67) + z70) + z72) + z74))])) (fun _ k_ => XS.iload X75.here hx rfl (hb hby at_388) rfl  k_) ?_
        have f77 := ((((f68.keep K69 nin0).keep K71 nin0).keep K73 nin0).keep K75 nin0)
        refine own_callS X75 hx hZ (y := (⟨"com/example/couponforge/couponforge/io/DecimalNumberWholeNumberPinLaw", "part", "([CIII)J"⟩ : MethodName)) hown (hw _ (List.mem_of_getElem? (i := 90) rfl)) (hw _ (List.mem_of_getElem? (i := 91) rfl)) (hw _ (List.mem_of_getElem? (i := 3) rfl)) (hw _ (List.mem_of_getElem? (i := 92) rfl)) (by decide) (al := [(.ref b1), (.int (8 : Int32)), (.int f), (.int t)]) (rm_part l Z a0 g_COMPACT_STRINGS g_SIOOBE_FORMATTER hW b1 k1 (8 : Int32) f t [c0, c1, c2, c3, c4, c5, c6, c7, c8, c9, c10, c11] T75.heap O75' f77 (by decide) rf.1 (hsm hc57) (own_all_12 r0 r1 r2 r3 r4 r5 r6 r7 r8 r9 r10 r11)) 2 (by decide) (by decide) rfl (by decide) (by decide) (by rw [hml]; rfl) (lenOf pd__28_5bCIII_29J rfl) rfl (rest := [(.long (((((((z58 + z61) + z63) + z65) + z67) + z70) + z72) + z74))]) (by show 2 * 0 + _ ≤ _; exact Nat.le_of_eq rfl) (hb hby at_390) ?_
        intro v78 T78 L78 X78 hQ78
        obtain ⟨⟨z76, rfl, hz_z76⟩, Nq78, K78⟩ := hQ78
        have N78 := Fr.app N75 Nq78
        have O78' := O75'.keep K78 all0
        show own_Go p e below Φ T78 (mkF m 393 #[.val (.long p0), .second, .val (.long p1), .second, .val (.long p2), .second, .val (.int p3), .val (.int p4), .val (.int p5), .val (.ref b1), .val (.int f), .val (.int t), .val (.ref b26), .val (.int (-1 : Int32)), .unset, .unset, .unset] [(.long z76), (.long (((((((z58 + z61) + z63) + z65) + z67) + z70) + z72) + z74))])
        refine own_k (T' := T78) (g' := (mkF m 394 #[.val (.long p0), .second, .val (.long p1), .second, .val (.long p2), .second, .val (.int p3), .val (.int p4), .val (.int p5), .val (.ref b1), .val (.int f), .val (.int t), .val (.ref b26), .val (.int (-1 : Int32)), .unset, .unset, .unset] [(.long ((((((((z58 + z61) + z63) + z65) + z67) + z70) + z72) + z74) + z76))])) (fun _ k_ => XS.ladd X78.here hx rfl (hb hby at_393) rfl k_) ?_
        refine own_k (T' := T78) (g' := (mkF m 396 #[.val (.long p0), .second, .val (.long p1), .second, .val (.long p2), .second, .val (.int p3), .val (.int p4), .val (.int p5), .val (.ref b1), .val (.int f), .val (.int t), .val (.ref b26), .val (.int (-1 : Int32)), .unset, .unset, .unset] [(.ref b1), (.long ((((((((z58 + z61) + z63) + z65) + z67) + z70) + z72) + z74) + z76))])) (fun _ k_ => XS.aload X78.here hx rfl (hb hby at_394) rfl rfl  k_) ?_
        refine own_k (T' := T78) (g' := (mkF m 398 #[.val (.long p0), .second, .val (.long p1), .second, .val (.long p2), .second, .val (.int p3), .val (.int p4), .val (.int p5), .val (.ref b1), .val (.int f), .val (.int t), .val (.ref b26), .val (.int (-1 : Int32)), .unset, .unset, .unset] [(.int (9 : Int32)), (.ref b1), (.long ((((((((z58 + z61) + z63) + z65) + z67) + z70) + z72) + z74) + z76))])) (fun _ k_ => XS.bipush X78.here hx rfl (hb hby at_396) k_) ?_
        refine own_k (T' := T78) (g' := (mkF m 400 #[.val (.long p0), .second, .val (.long p1), .second, .val (.long p2), .second, .val (.int p3), .val (.int p4), .val (.int p5), .val (.ref b1), .val (.int f), .val (.int t), .val (.ref b26), .val (.int (-1 : Int32)), .unset, .unset, .unset] [(.int f), (.int (9 : Int32)), (.ref b1), (.long ((((((((z58 + z61) + z63) + z65) + z67) + z70) + z72) + z74) + z76))])) (fun _ k_ => XS.iload X78.here hx rfl (hb hby at_398) rfl  k_) ?_
        refine own_k (T' := T78) (g' := (mkF m 402 #[.val (.long p0), .second, .val (.long p1), .second, .val (.long p2), .second, .val (.int p3), .val (.int p4), .val (.int p5), .val (.ref b1), .val (.int f), .val (.int t), .val (.ref b26), .val (.int (-1 : Int32)), .unset, .unset, .unset] [(.int t), (.int f), (.int (9 : Int32)), (.ref b1), (.long ((((((((z58 + z61) + z63) + z65) + z67) + z70) + z72) + z74) + z76))])) (fun _ k_ => XS.iload X78.here hx rfl (hb hby at_400) rfl  k_) ?_
        refine own_callS X78 hx hZ (y := (⟨"com/example/couponforge/couponforge/io/DecimalNumberWholeNumberPinLaw", "part", "([CIII)J"⟩ : MethodName)) hown (hw _ (List.mem_of_getElem? (i := 90) rfl)) (hw _ (List.mem_of_getElem? (i := 91) rfl)) (hw _ (List.mem_of_getElem? (i := 3) rfl)) (hw _ (List.mem_of_getElem? (i := 92) rfl)) (by decide) (al := [(.ref b1), (.int (9 : Int32)), (.int f), (.int t)]) (rm_part l Z a0 g_COMPACT_STRINGS g_SIOOBE_FORMATTER hW b1 k1 (9 : Int32) f t [c0, c1, c2, c3, c4, c5, c6, c7, c8, c9, c10, c11] T78.heap O78' (f77.keep K78 nin0) (by decide) rf.1 (hsm hc57) (own_all_12 r0 r1 r2 r3 r4 r5 r6 r7 r8 r9 r10 r11)) 2 (by decide) (by decide) rfl (by decide) (by decide) (by rw [hml]; rfl) (lenOf pd__28_5bCIII_29J rfl) rfl (rest := [(.long ((((((((z58 + z61) + z63) + z65) + z67) + z70) + z72) + z74) + z76))]) (by show 2 * 0 + _ ≤ _; exact Nat.le_of_eq rfl) (hb hby at_402) ?_
        intro v80 T80 L80 X80 hQ80
        obtain ⟨⟨z79, rfl, hz_z79⟩, Nq80, K80⟩ := hQ80
        have N80 := Fr.app N78 Nq80
        have O80' := O78'.keep K80 all0
        show own_Go p e below Φ T80 (mkF m 405 #[.val (.long p0), .second, .val (.long p1), .second, .val (.long p2), .second, .val (.int p3), .val (.int p4), .val (.int p5), .val (.ref b1), .val (.int f), .val (.int t), .val (.ref b26), .val (.int (-1 : Int32)), .unset, .unset, .unset] [(.long z79), (.long ((((((((z58 + z61) + z63) + z65) + z67) + z70) + z72) + z74) + z76))])
        refine own_k (T' := T80) (g' := (mkF m 406 #[.val (.long p0), .second, .val (.long p1), .second, .val (.long p2), .second, .val (.int p3), .val (.int p4), .val (.int p5), .val (.ref b1), .val (.int f), .val (.int t), .val (.ref b26), .val (.int (-1 : Int32)), .unset, .unset, .unset] [(.long (((((((((z58 + z61) + z63) + z65) + z67) + z70) + z72) + z74) + z76) + z79))])) (fun _ k_ => XS.ladd X80.here hx rfl (hb hby at_405) rfl k_) ?_
        refine own_k (T' := T80) (g' := (mkF m 408 #[.val (.long p0), .second, .val (.long p1), .second, .val (.long p2), .second, .val (.int p3), .val (.int p4), .val (.int p5), .val (.ref b1), .val (.int f), .val (.int t), .val (.ref b26), .val (.int (-1 : Int32)), .unset, .unset, .unset] [(.ref b1), (.long (((((((((z58 + z61) + z63) + z65) + z67) + z70) + z72) + z74) + z76) + z79))])) (fun _ k_ => XS.aload X80.here hx rfl (hb hby at_406) rfl rfl  k_) ?_
        refine own_k (T' := T80) (g' := (mkF m 410 #[.val (.long p0), .second, .val (.long p1), .second, .val (.long p2), .second, .val (.int p3), .val (.int p4), .val (.int p5), .val (.ref b1), .val (.int f), .val (.int t), .val (.ref b26), .val (.int (-1 : Int32)), .unset, .unset, .unset] [(.int (10 : Int32)), (.ref b1), (.long (((((((((z58 + z61) + z63) + z65) + z67) + z70) + z72) + z74) + z76) + z79))])) (fun _ k_ => XS.bipush X80.here hx rfl (hb hby at_408) k_) ?_
        refine own_k (T' := T80) (g' := (mkF m 412 #[.val (.long p0), .second, .val (.long p1), .second, .val (.long p2), .second, .val (.int p3), .val (.int p4), .val (.int p5), .val (.ref b1), .val (.int f), .val (.int t), .val (.ref b26), .val (.int (-1 : Int32)), .unset, .unset, .unset] [(.int f), (.int (10 : Int32)), (.ref b1), (.long (((((((((z58 + z61) + z63) + z65) + z67) + z70) + z72) + z74) + z76) + z79))])) (fun _ k_ => XS.iload X80.here hx rfl (hb hby at_410) rfl  k_) ?_
        refine own_k (T' := T80) (g' := (mkF m 414 #[.val (.long p0), .second, .val (.long p1), .second, .val (.long p2), .second, .val (.int p3), .val (.int p4), .val (.int p5), .val (.ref b1), .val (.int f), .val (.int t), .val (.ref b26), .val (.int (-1 : Int32)), .unset, .unset, .unset] [(.int t), (.int f), (.int (10 : Int32)), (.ref b1), (.long (((((((((z58 + z61) + z63) + z65) + z67) + z70) + z72) + z74) + z76) + z79))])) (fun _ k_ => XS.iload X80.here hx rfl (hb hby at_412) rfl  k_) ?_
        refine own_callS X80 hx hZ (y := (⟨"com/example/couponforge/couponforge/io/DecimalNumberWholeNumberPinLaw", "part", "([CIII)J"⟩ : MethodName)) hown (hw _ (List.mem_of_getElem? (i := 90) rfl)) (hw _ (List.mem_of_getElem? (i := 91) rfl)) (hw _ (List.mem_of_getElem? (i := 3) rfl)) (hw _ (List.mem_of_getElem? (i := 92) rfl)) (by decide) (al := [(.ref b1), (.int (10 : Int32)), (.int f), (.int t)]) (rm_part l Z a0 g_COMPACT_STRINGS g_SIOOBE_FORMATTER hW b1 k1 (10 : Int32) f t [c0, c1, c2, c3, c4, c5, c6, c7, c8, c9, c10, c11] T80.heap O80' ((f77.keep K78 nin0).keep K80 nin0) (by decide) rf.1 (hsm hc57) (own_all_12 r0 r1 r2 r3 r4 r5 r6 r7 r8 r9 r10 r11)) 2 (by decide) (by decide) rfl (by decide) (by decide) (by rw [hml]; rfl) (lenOf pd__28_5bCIII_29J rfl) rfl (rest := [(.long (((((((((z58 + z61) + z63) + z65) + z67) + z70) + z72) + z74) + z76) + z79))]) (by show 2 * 0 + _ ≤ _; exact Nat.le_of_eq rfl) (hb hby at_414) ?_
        intro v82 T82 L82 X82 hQ82
        obtain ⟨⟨z81, rfl, hz_z81⟩, Nq82, K82⟩ := hQ82
        have N82 := Fr.app N80 Nq82
        have O82' := O80'.keep K82 all0
        show own_Go p e below Φ T82 (mkF m 417 #[.val (.long p0), .second, .val (.long p1), .second, .val (.long p2), .second, .val (.int p3), .val (.int p4), .val (.int p5), .val (.ref b1), .val (.int f), .val (.int t), .val (.ref b26), .val (.int (-1 : Int32)), .unset, .unset, .unset] [(.long z81), (.long (((((((((z58 + z61) + z63) + z65) + z67) + z70) + z72) + z74) + z76) + z79))])
        refine own_k (T' := T82) (g' := (mkF m 418 #[.val (.long p0), .second, .val (.long p1), .second, .val (.long p2), .second, .val (.int p3), .val (.int p4), .val (.int p5), .val (.ref b1), .val (.int f), .val (.int t), .val (.ref b26), .val (.int (-1 : Int32)), .unset, .unset, .unset] [(.long ((((((((((z58 + z61) + z63) + z65) + z67) + z70) + z72) + z74) + z76) + z79) + z81))])) (fun _ k_ => XS.ladd X82.here hx rfl (hb hby at_417) rfl k_) ?_
        refine own_k (T' := T82) (g' := (mkF m 420 #[.val (.long p0), .second, .val (.long p1), .second, .val (.long p2), .second, .val (.int p3), .val (.int p4), .val (.int p5), .val (.ref b1), .val (.int f), .val (.int t), .val (.ref b26), .val (.int (-1 : Int32)), .unset, .unset, .unset] [(.ref b1), (.long ((((((((((z58 + z61) + z63) + z65) + z67) + z70) + z72) + z74) + z76) + z79) + z81))])) (fun _ k_ => XS.aload X82.here hx rfl (hb hby at_418) rfl rfl  k_) ?_
        refine own_k (T' := T82) (g' := (mkF m 422 #[.val (.long p0), .second, .val (.long p1), .second, .val (.long p2), .second, .val (.int p3), .val (.int p4), .val (.int p5), .val (.ref b1), .val (.int f), .val (.int t), .val (.ref b26), .val (.int (-1 : Int32)), .unset, .unset, .unset] [(.int (11 : Int32)), (.ref b1), (.long ((((((((((z58 + z61) + z63) + z65) + z67) + z70) + z72) + z74) + z76) + z79) + z81))])) (fun _ k_ => XS.bipush X82.here hx rfl (hb hby at_420) k_) ?_
        refine own_k (T' := T82) (g' := (mkF m 424 #[.val (.long p0), .second, .val (.long p1), .second, .val (.long p2), .second, .val (.int p3), .val (.int p4), .val (.int p5), .val (.ref b1), .val (.int f), .val (.int t), .val (.ref b26), .val (.int (-1 : Int32)), .unset, .unset, .unset] [(.int f), (.int (11 : Int32)), (.ref b1), (.long ((((((((((z58 + z61) + z63) + z65) + z67) + z70) + z72) + z74) + z76) + z79) + z81))])) (fun _ k_ => XS.iload X82.here hx rfl (hb hby at_422) rfl  k_) ?_
        refine own_k (T' := T82) (g' := (mkF m 426 #[.val (.long p0), .second, .val (.long p1), .second, .val (.long p2), .second, .val (.int p3), .val (.int p4), .val (.int p5), .val (.ref b1), .val (.int f), .val (.int t), .val (.ref b26), .val (.int (-1 : Int32)), .unset, .unset, .unset] [(.int t), (.int f), (.int (11 : Int32)), (.ref b1), (.long ((((((((((z58 + z61) + z63) + z65) + z67) + z70) + z72) + z74) + z76) + z79) + z81))])) (fun _ k_ => XS.iload X82.here hx rfl (hb hby at_424) rfl  k_) ?_
        refine own_callS X82 hx hZ (y := (⟨"com/example/couponforge/couponforge/io/DecimalNumberWholeNumberPinLaw", "part", "([CIII)J"⟩ : MethodName)) hown (hw _ (List.mem_of_getElem? (i := 90) rfl)) (hw _ (List.mem_of_getElem? (i := 91) rfl)) (hw _ (List.mem_of_getElem? (i := 3) rfl)) (hw _ (List.mem_of_getElem? (i := 92) rfl)) (by decide) (al := [(.ref b1), (.int (11 : Int32)), (.int f), (.int t)]) (rm_part l Z a0 g_COMPACT_STRINGS g_SIOOBE_FORMATTER hW b1 k1 (11 : Int32) f t [c0, c1, c2, c3, c4, c5, c6, c7, c8, c9, c10, c11] T82.heap O82' (((f77.keep K78 nin0).keep K80 nin0).keep K82 nin0) (by decide) rf.1 (hsm hc57) (own_all_12 r0 r1 r2 r3 r4 r5 r6 r7 r8 r9 r10 r11)) 2 (by decide) (by decide) rfl (by decide) (by decide) (by rw [hml]; rfl) (lenOf pd__28_5bCIII_29J rfl) rfl (rest := [(.long ((((((((((z58 + z61) + z63) + z65) + z67) + z70) + z72) + z74) + z76) + z79) + z81))]) (by show 2 * 0 + _ ≤ _; exact Nat.le_of_eq rfl) (hb hby at_426) ?_
        intro v84 T84 L84 X84 hQ84
        obtain ⟨⟨z83, rfl, hz_z83⟩, Nq84, K84⟩ := hQ84
        have N84 := Fr.app N82 Nq84
        have O84' := O82'.keep K84 all0
        show own_Go p e below Φ T84 (mkF m 429 #[.val (.long p0), .second, .val (.long p1), .second, .val (.long p2), .second, .val (.int p3), .val (.int p4), .val (.int p5), .val (.ref b1), .val (.int f), .val (.int t), .val (.ref b26), .val (.int (-1 : Int32)), .unset, .unset, .unset] [(.long z83), (.long ((((((((((z58 + z61) + z63) + z65) + z67) + z70) + z72) + z74) + z76) + z79) + z81))])
        refine own_k (T' := T84) (g' := (mkF m 430 #[.val (.long p0), .second, .val (.long p1), .second, .val (.long p2), .second, .val (.int p3), .val (.int p4), .val (.int p5), .val (.ref b1), .val (.int f), .val (.int t), .val (.ref b26), .val (.int (-1 : Int32)), .unset, .unset, .unset] [(.long (((((((((((z58 + z61) + z63) + z65) + z67) + z70) + z72) + z74) + z76) + z79) + z81) + z83))])) (fun _ k_ => XS.ladd X84.here hx rfl (hb hby at_429) rfl k_) ?_
        refine own_k (T' := T84) (g' := (mkF m 432 #[.val (.long p0), .second, .val (.long p1), .second, .val (.long p2), .second, .val (.int p3), .val (.int p4), .val (.int p5), .val (.ref b1), .val (.int f), .val (.int t), .val (.ref b26), .val (.int (-1 : Int32)), .unset, .val (.long (((((((((((z58 + z61) + z63) + z65) + z67) + z70) + z72) + z74) + z76) + z79) + z81) + z83)), .second] [])) (fun _ k_ => XS.lstore X84.here hx rfl (hb hby at_430) rfl (l' := #[.val (.long p0), .second, .val (.long p1), .second, .val (.long p2), .second, .val (.int p3), .val (.int p4), .val (.int p5), .val (.ref b1), .val (.int f), .val (.int t), .val (.ref b26), .val (.int (-1 : Int32)), .unset, .val (.long (((((((((((z58 + z61) + z63) + z65) + z67) + z70) + z72) + z74) + z76) + z79) + z81) + z83)), .second]) rfl k_) ?_
        refine own_k (T' := T84) (g' := (mkF m 434 #[.val (.long p0), .second, .val (.long p1), .second, .val (.long p2), .second, .val (.int p3), .val (.int p4), .val (.int p5), .val (.ref b1), .val (.int f), .val (.int t), .val (.ref b26), .val (.int (-1 : Int32)), .unset, .val (.long (((((((((((z58 + z61) + z63) + z65) + z67) + z70) + z72) + z74) + z76) + z79) + z81) + z83)), .second] [(.long (((((((((((z58 + z61) + z63) + z65) + z67) + z70) + z72) + z74) + z76) + z79) + z81) + z83))])) (fun _ k_ => XS.lload X84.here hx rfl (hb hby at_432) rfl  k_) ?_
        refine own_k (T' := T84) (g' := (mkF m 435 #[.val (.long p0), .second, .val (.long p1), .second, .val (.long p2), .second, .val (.int p3), .val (.int p4), .val (.int p5), .val (.ref b1), .val (.int f), .val (.int t), .val (.ref b26), .val (.int (-1 : Int32)), .unset, .val (.long (((((((((((z58 + z61) + z63) + z65) + z67) + z70) + z72) + z74) + z76) + z79) + z81) + z83)), .second] [(.long (0 : Int64)), (.long (((((((((((z58 + z61) + z63) + z65) + z67) + z70) + z72) + z74) + z76) + z79) + z81) + z83))])) (fun _ k_ => XS.lconst X84.here hx rfl (hb hby at_434) k_) ?_
        refine own_k (T' := T84) (g' := (mkF m 436 #[.val (.long p0), .second, .val (.long p1), .second, .val (.long p2), .second, .val (.int p3), .val (.int p4), .val (.int p5), .val (.ref b1), .val (.int f), .val (.int t), .val (.ref b26), .val (.int (-1 : Int32)), .unset, .val (.long (((((((((((z58 + z61) + z63) + z65) + z67) + z70) + z72) + z74) + z76) + z79) + z81) + z83)), .second] [(.int (lcmpW (((((((((((z58 + z61) + z63) + z65) + z67) + z70) + z72) + z74) + z76) + z79) + z81) + z83) (0 : Int64)))])) (fun _ k_ => XS.lcmp X84.here hx rfl (hb hby at_435) rfl k_) ?_
        refine own_k (T' := T84) (g' := (mkF m 439 #[.val (.long p0), .second, .val (.long p1), .second, .val (.long p2), .second, .val (.int p3), .val (.int p4), .val (.int p5), .val (.ref b1), .val (.int f), .val (.int t), .val (.ref b26), .val (.int (-1 : Int32)), .unset, .val (.long (((((((((((z58 + z61) + z63) + z65) + z67) + z70) + z72) + z74) + z76) + z79) + z81) + z83)), .second] [])) (fun _ k_ => XS.ifNo X84.here hx rfl (hb hby at_436) rfl ((if0 _ _).trans (tlt (own_ng (own_S (own_cv (k := 0) (by decide) (by decide) hz_z58) (own_cv (k := 1) (by decide) (by decide) hz_z61) (own_cv (k := 2) (by decide) (by decide) hz_z63) (own_cv (k := 3) (by decide) (by decide) hz_z65) (own_cv (k := 4) (by decide) (by decide) hz_z67) (own_cv (k := 5) (by decide) (by decide) hz_z70) (own_cv (k := 6) (by decide) (by decide) hz_z72) (own_cv (k := 7) (by decide) (by decide) hz_z74) (own_cv (k := 8) (by decide) (by decide) hz_z76) (own_cv (k := 9) (by decide) (by decide) hz_z79) (own_cv (k := 10) (by decide) (by decide) hz_z81) (own_cv (k := 11) (by decide) (by decide) hz_z83)) rf.1 rt.2 (hsm hc57) (fun q => hB ⟨hc56, hc57, q⟩))).2.1) k_) ?_
        refine own_k (T' := T84) (g' := (mkF m 440 #[.val (.long p0), .second, .val (.long p1), .second, .val (.long p2), .second, .val (.int p3), .val (.int p4), .val (.int p5), .val (.ref b1), .val (.int f), .val (.int t), .val (.ref b26), .val (.int (-1 : Int32)), .unset, .val (.long (((((((((((z58 + z61) + z63) + z65) + z67) + z70) + z72) + z74) + z76) + z79) + z81) + z83)), .second] [(.int (-1 : Int32))])) (fun _ k_ => XS.iconst X84.here hx rfl (hb hby at_439) k_) ?_
        refine own_k (T' := T84) (g' := (mkF m 446 #[.val (.long p0), .second, .val (.long p1), .second, .val (.long p2), .second, .val (.int p3), .val (.int p4), .val (.int p5), .val (.ref b1), .val (.int f), .val (.int t), .val (.ref b26), .val (.int (-1 : Int32)), .unset, .val (.long (((((((((((z58 + z61) + z63) + z65) + z67) + z70) + z72) + z74) + z76) + z79) + z81) + z83)), .second] [(.int (-1 : Int32))])) (fun _ k_ => XS.goto X84.here hx rfl (pc0 := 440) (pc' := 446) rfl (hb hby at_440) (by decide) (by decide) k_) ?_
        refine own_k (T' := T84) (g' := (mkF m 448 #[.val (.long p0), .second, .val (.long p1), .second, .val (.long p2), .second, .val (.int p3), .val (.int p4), .val (.int p5), .val (.ref b1), .val (.int f), .val (.int t), .val (.ref b26), .val (.int (-1 : Int32)), .val (.int (-1 : Int32)), .val (.long (((((((((((z58 + z61) + z63) + z65) + z67) + z70) + z72) + z74) + z76) + z79) + z81) + z83)), .second] [])) (fun _ k_ => XS.istore X84.here hx rfl (hb hby at_446) rfl (l' := #[.val (.long p0), .second, .val (.long p1), .second, .val (.long p2), .second, .val (.int p3), .val (.int p4), .val (.int p5), .val (.ref b1), .val (.int f), .val (.int t), .val (.ref b26), .val (.int (-1 : Int32)), .val (.int (-1 : Int32)), .val (.long (((((((((((z58 + z61) + z63) + z65) + z67) + z70) + z72) + z74) + z76) + z79) + z81) + z83)), .second]) rfl k_) ?_
        refine own_k (T' := T84) (g' := (mkF m 450 #[.val (.long p0), .second, .val (.long p1), .second, .val (.long p2), .second, .val (.int p3), .val (.int p4), .val (.int p5), .val (.ref b1), .val (.int f), .val (.int t), .val (.ref b26), .val (.int (-1 : Int32)), .val (.int (-1 : Int32)), .val (.long (((((((((((z58 + z61) + z63) + z65) + z67) + z70) + z72) + z74) + z76) + z79) + z81) + z83)), .second] [(.int (-1 : Int32))])) (fun _ k_ => XS.iload X84.here hx rfl (hb hby at_448) rfl  k_) ?_
        refine own_k (T' := T84) (g' := (mkF m 452 #[.val (.long p0), .second, .val (.long p1), .second, .val (.long p2), .second, .val (.int p3), .val (.int p4), .val (.int p5), .val (.ref b1), .val (.int f), .val (.int t), .val (.ref b26), .val (.int (-1 : Int32)), .val (.int (-1 : Int32)), .val (.long (((((((((((z58 + z61) + z63) + z65) + z67) + z70) + z72) + z74) + z76) + z79) + z81) + z83)), .second] [(.int (-1 : Int32)), (.int (-1 : Int32))])) (fun _ k_ => XS.iload X84.here hx rfl (hb hby at_450) rfl  k_) ?_
        refine own_k (T' := T84) (g' := (mkF m 455 #[.val (.long p0), .second, .val (.long p1), .second, .val (.long p2), .second, .val (.int p3), .val (.int p4), .val (.int p5), .val (.ref b1), .val (.int f), .val (.int t), .val (.ref b26), .val (.int (-1 : Int32)), .val (.int (-1 : Int32)), .val (.long (((((((((((z58 + z61) + z63) + z65) + z67) + z70) + z72) + z74) + z76) + z79) + z81) + z83)), .second] [])) (fun _ k_ => XS.icmpNo X84.here hx rfl (hb hby at_452) rfl ((teq (by decide : ((-1 : Int32) = (-1 : Int32)))).2) k_) ?_
        refine own_k (T' := T84) (g' := (mkF m 456 #[.val (.long p0), .second, .val (.long p1), .second, .val (.long p2), .second, .val (.int p3), .val (.int p4), .val (.int p5), .val (.ref b1), .val (.int f), .val (.int t), .val (.ref b26), .val (.int (-1 : Int32)), .val (.int (-1 : Int32)), .val (.long (((((((((((z58 + z61) + z63) + z65) + z67) + z70) + z72) + z74) + z76) + z79) + z81) + z83)), .second] [(.int (1 : Int32))])) (fun _ k_ => XS.iconst X84.here hx rfl (hb hby at_455) k_) ?_
        refine own_k (T' := T84) (g' := (mkF m 460 #[.val (.long p0), .second, .val (.long p1), .second, .val (.long p2), .second, .val (.int p3), .val (.int p4), .val (.int p5), .val (.ref b1), .val (.int f), .val (.int t), .val (.ref b26), .val (.int (-1 : Int32)), .val (.int (-1 : Int32)), .val (.long (((((((((((z58 + z61) + z63) + z65) + z67) + z70) + z72) + z74) + z76) + z79) + z81) + z83)), .second] [(.int (1 : Int32))])) (fun _ k_ => XS.goto X84.here hx rfl (pc0 := 456) (pc' := 460) rfl (hb hby at_456) (by decide) (by decide) k_) ?_
        exact own_retN X84 hx (t := .boolean) hret (by simp) hlk (hb hby at_460) hF (⟨by rw [show nar .boolean (1 : Int32) = (1 : Int32) from by decide], N84, trivial⟩) (by decide) (by decide)
    · refine own_k (T' := T28) (g' := (mkF m 287 #[.val (.long p0), .second, .val (.long p1), .second, .val (.long p2), .second, .val (.int p3), .val (.int p4), .val (.int p5), .val (.ref b1), .val (.int f), .val (.int t), .val (.ref b26), .val (.int (-1 : Int32)), .unset, .unset, .unset] [])) (fun _ k_ => XS.icmpYes X28.here hx rfl (pc0 := 274) (pc' := 287) rfl (hb hby at_274) rfl ((flt hc56).2.1) (by decide) (by decide) k_) ?_
      refine own_k (T' := T28) (g' := (mkF m 288 #[.val (.long p0), .second, .val (.long p1), .second, .val (.long p2), .second, .val (.int p3), .val (.int p4), .val (.int p5), .val (.ref b1), .val (.int f), .val (.int t), .val (.ref b26), .val (.int (-1 : Int32)), .unset, .unset, .unset] [(.int (-1 : Int32))])) (fun _ k_ => XS.iconst X28.here hx rfl (hb hby at_287) k_) ?_
      refine own_k (T' := T28) (g' := (mkF m 290 #[.val (.long p0), .second, .val (.long p1), .second, .val (.long p2), .second, .val (.int p3), .val (.int p4), .val (.int p5), .val (.ref b1), .val (.int f), .val (.int t), .val (.ref b26), .val (.int (-1 : Int32)), .val (.int (-1 : Int32)), .unset, .unset] [])) (fun _ k_ => XS.istore X28.here hx rfl (hb hby at_288) rfl (l' := #[.val (.long p0), .second, .val (.long p1), .second, .val (.long p2), .second, .val (.int p3), .val (.int p4), .val (.int p5), .val (.ref b1), .val (.int f), .val (.int t), .val (.ref b26), .val (.int (-1 : Int32)), .val (.int (-1 : Int32)), .unset, .unset]) rfl k_) ?_
      refine own_k (T' := T28) (g' := (mkF m 448 #[.val (.long p0), .second, .val (.long p1), .second, .val (.long p2), .second, .val (.int p3), .val (.int p4), .val (.int p5), .val (.ref b1), .val (.int f), .val (.int t), .val (.ref b26), .val (.int (-1 : Int32)), .val (.int (-1 : Int32)), .unset, .unset] [])) (fun _ k_ => XS.goto X28.here hx rfl (pc0 := 290) (pc' := 448) rfl (hb hby at_290) (by decide) (by decide) k_) ?_
      refine own_k (T' := T28) (g' := (mkF m 450 #[.val (.long p0), .second, .val (.long p1), .second, .val (.long p2), .second, .val (.int p3), .val (.int p4), .val (.int p5), .val (.ref b1), .val (.int f), .val (.int t), .val (.ref b26), .val (.int (-1 : Int32)), .val (.int (-1 : Int32)), .unset, .unset] [(.int (-1 : Int32))])) (fun _ k_ => XS.iload X28.here hx rfl (hb hby at_448) rfl  k_) ?_
      refine own_k (T' := T28) (g' := (mkF m 452 #[.val (.long p0), .second, .val (.long p1), .second, .val (.long p2), .second, .val (.int p3), .val (.int p4), .val (.int p5), .val (.ref b1), .val (.int f), .val (.int t), .val (.ref b26), .val (.int (-1 : Int32)), .val (.int (-1 : Int32)), .unset, .unset] [(.int (-1 : Int32)), (.int (-1 : Int32))])) (fun _ k_ => XS.iload X28.here hx rfl (hb hby at_450) rfl  k_) ?_
      refine own_k (T' := T28) (g' := (mkF m 455 #[.val (.long p0), .second, .val (.long p1), .second, .val (.long p2), .second, .val (.int p3), .val (.int p4), .val (.int p5), .val (.ref b1), .val (.int f), .val (.int t), .val (.ref b26), .val (.int (-1 : Int32)), .val (.int (-1 : Int32)), .unset, .unset] [])) (fun _ k_ => XS.icmpNo X28.here hx rfl (hb hby at_452) rfl ((teq (by decide : ((-1 : Int32) = (-1 : Int32)))).2) k_) ?_
      refine own_k (T' := T28) (g' := (mkF m 456 #[.val (.long p0), .second, .val (.long p1), .second, .val (.long p2), .second, .val (.int p3), .val (.int p4), .val (.int p5), .val (.ref b1), .val (.int f), .val (.int t), .val (.ref b26), .val (.int (-1 : Int32)), .val (.int (-1 : Int32)), .unset, .unset] [(.int (1 : Int32))])) (fun _ k_ => XS.iconst X28.here hx rfl (hb hby at_455) k_) ?_
      refine own_k (T' := T28) (g' := (mkF m 460 #[.val (.long p0), .second, .val (.long p1), .second, .val (.long p2), .second, .val (.int p3), .val (.int p4), .val (.int p5), .val (.ref b1), .val (.int f), .val (.int t), .val (.ref b26), .val (.int (-1 : Int32)), .val (.int (-1 : Int32)), .unset, .unset] [(.int (1 : Int32))])) (fun _ k_ => XS.goto X28.here hx rfl (pc0 := 456) (pc' := 460) rfl (hb hby at_456) (by decide) (by decide) k_) ?_
      exact own_retN X28 hx (t := .boolean) hret (by simp) hlk (hb hby at_460) hF (⟨by rw [show nar .boolean (1 : Int32) = (1 : Int32) from by decide], N28, trivial⟩) (by decide) (by decide)
set_option maxRecDepth 65536 in
set_option maxHeartbeats 40000000 in
theorem comes_1 {Post : Tables → Env → Array Value → State → Outcome → State → Prop} (hpost : ∀ tb e args s v u, (limb_1_1.after args s (.returned v) u = true ∧ limb_1_2.after args s (.returned v) u = true ∧ True) → FrameEnd s (.returned v) u (Jvm.fieldLocs frame_1_writes args s ++ Jvm.arrayLocs frame_1_arrays args s ++ Jvm.staticLocs frame_1_statics s) 32 320 → Post tb e args s (.returned v) u) :
    ArmFor flags0 classFile x code maxLocals ret World_1 tables_1 room_1 Calls_1 rest_1 Pre_1 Post := by
  intro l hfl _ _ p e ha hc hk s m args below hf hA hF happ hP
  obtain ⟨hcalls, hrest, hpre⟩ := hP
  obtain ⟨-, -, -, hnamed, -, -, -, hat⟩ := (Spec.applies_iff hf).mp happ
  obtain ⟨hg, hn⟩ := and_e (Cond.before_iff.mp (show (Jvm.Cond.and given_1 narrow_1).before args s = true from hpre))
  obtain ⟨g1, g2⟩ := and_e hg
  obtain ⟨g3, g4⟩ := and_e g2
  obtain ⟨g5, g6⟩ := and_e g4
  obtain ⟨g7, g8⟩ := and_e g6
  obtain ⟨g9, g10⟩ := and_e g8
  obtain ⟨g11, g12⟩ := and_e g10
  obtain ⟨w0, w1, w2, w3, w4, w5, rfl⟩ : ∃ w0 w1 w2 w3 w4 w5 : Value, args = #[w0, w1, w2, w3, w4, w5] := by
    have hs : args.size = 6 := by simpa [Cond.value, given_1] using g1
    obtain ⟨L⟩ := args
    match L, hs with
    | [w0, w1, w2, w3, w4, w5], _ => exact ⟨w0, w1, w2, w3, w4, w5, rfl⟩
  have hw := fun d (hd : d ∈ tables_1) => atoms_spec (ws := Jvm.Cond.code x code maxLocals ret :: tables_1) hat d (List.mem_cons_of_mem _ hd)
  have hfit : Fit s := fun {y c} hc i hi => by
    obtain ⟨ha, rfl⟩ := Array.getElem?_eq_some_iff.mp hc
    have q := List.all_eq_true.mp ((Array.all_eq_true_iff_forall_mem.mp hF) _ (Array.getElem_mem ha)) i (List.mem_range.mpr hi)
    simpa [Array.getElem?_eq_getElem hi] using q
  obtain ⟨hsets, hown0⟩ := atoms_of _ (rest_1_c_eq ▸ (show rest_1_c.before _ s = true from hrest))
  obtain ⟨i0, ei0⟩ := isL_v g3
  obtain rfl : w0 = (.long i0) := Option.some.inj ei0
  obtain ⟨i1, ei1⟩ := isL_v g5
  obtain rfl : w1 = (.long i1) := Option.some.inj ei1
  obtain ⟨i2, ei2⟩ := isL_v g7
  obtain rfl : w2 = (.long i2) := Option.some.inj ei2
  obtain ⟨i3, ei3⟩ := is_v g9
  obtain rfl : w3 = (.int i3) := Option.some.inj ei3
  obtain ⟨i4, ei4⟩ := is_v g11
  obtain rfl : w4 = (.int i4) := Option.some.inj ei4
  obtain ⟨i5, ei5⟩ := is_v g12
  obtain rfl : w5 = (.int i5) := Option.some.inj ei5
  obtain ⟨g_COMPACT_STRINGS, ev_g_COMPACT_STRINGS⟩ := is_v (Cond.before_iff.mp (hsets _ (List.mem_of_getElem? (i := 1) rfl)))
  have S_g_COMPACT_STRINGS := Sta.start ev_g_COMPACT_STRINGS (Or.inl (hsets _ (List.mem_of_getElem? (i := 0) rfl)))
  have P_g_COMPACT_STRINGS : ¬ (g_COMPACT_STRINGS = (0 : Int32)) := gotF (Cond.eq_ints ev_g_COMPACT_STRINGS (Term.int_eval (0))) (not_v (Cond.before_iff.mp (hsets _ (List.mem_of_getElem? (i := 2) rfl))))
  obtain ⟨g_SIOOBE_FORMATTER, ev_g_SIOOBE_FORMATTER, R_g_SIOOBE_FORMATTER⟩ := isR_v (Cond.before_iff.mp (hsets _ (List.mem_of_getElem? (i := 8) rfl)))
  have S_g_SIOOBE_FORMATTER := Sta.start ev_g_SIOOBE_FORMATTER (Or.inl (hsets _ (List.mem_of_getElem? (i := 7) rfl)))
  have S_g__assertionsDisabled := Sta.start (own_eqI (Cond.before_iff.mp (hsets _ (List.mem_of_getElem? (i := 12) rfl)))) (Or.inl (hsets _ (List.mem_of_getElem? (i := 11) rfl)))
  have S_g_HI_BYTE_SHIFT := Sta.start (own_eqI (Cond.before_iff.mp (hsets _ (List.mem_of_getElem? (i := 15) rfl)))) (Or.inl (hsets _ (List.mem_of_getElem? (i := 14) rfl)))
  have S_g_LO_BYTE_SHIFT := Sta.start (own_eqI (Cond.before_iff.mp (hsets _ (List.mem_of_getElem? (i := 18) rfl)))) (Or.inl (hsets _ (List.mem_of_getElem? (i := 17) rfl)))
  obtain ⟨n, o, h1, h2, h3, _, L, rfl, ⟨rfl, N, -⟩, hq⟩ := own_law l s _ g_COMPACT_STRINGS g_SIOOBE_FORMATTER ⟨hw, S_g_COMPACT_STRINGS, P_g_COMPACT_STRINGS, R_g_SIOOBE_FORMATTER, S_g_SIOOBE_FORMATTER, S_g__assertionsDisabled, S_g_HI_BYTE_SHIFT, S_g_LO_BYTE_SHIFT⟩ i0 i1 i2 i3 i4 i5 s.heap (Old.start s)  tables_1 p e ha hc hk s m _ below hf ((Spec.applies_iff_loose hf).mp happ).1 ⟨rfl, State.Warmed39.refl s, rfl⟩ trivial
  refine ⟨n, _, h1, h2, h3, hpost _ _ _ _ _ _ ⟨Cond.after_iff.mpr rfl, Cond.after_iff.mpr (eq_i res_at (Term.int_eval (1)) rfl), trivial⟩ ⟨hq.1, hq.2.1, (hq.2.2.sift fun y hy => Or.inr (N y hy)).mono (by decide) (by decide)⟩⟩
theorem main_1_1 : Claimed_1_1 := comes_1 fun _ _ _ _ _ _ h hF => ⟨h.1, hF⟩
theorem main_1_2 : Claimed_1_2 := comes_1 fun _ _ _ _ _ _ h hF => ⟨h.2.1, hF⟩
end Jvm.Pilot.@@N@@
namespace Jvm.Pilot.@@N@@
open Jvm Jvm.ClassFile Sem Op Lib Jvm.Free Jvm.Stand Jvm.Pilot.@@N@@.Jvm.D
/-! MADE BY PROGRAM (witnessworld.py) out of the Statement's table words and the real class files: 22 classes; the members and pool entries that the words name. The judged class is class 1, her method 1. -/
namespace start1
open Jvm.ClassFile
def u (s : String) : CpInfo := .utf8 (stringToUtf16 s)
/-- a pool by its gaps: so many unusable entries, then the entry; so many at the end -/
def gap : Nat → List CpInfo → List CpInfo
  | 0, r => r
  | n + 1, r => .unusable :: gap n r
def poolList (es : List (Nat × CpInfo)) (last : Nat) : List CpInfo := es.foldr (fun e r => gap e.1 (e.2 :: r)) (gap last [])
def pool (es : List (Nat × CpInfo)) (last : Nat) : Array CpInfo := ⟨poolList es last⟩
def fileOf (pool : Array CpInfo) (this : Nat) (attrs : Array Attribute := #[]) (ms : Array MethodInfo := #[]) (fl : Nat := 33) (sup : Nat := 0) (ifs : Array Nat := #[]) (fds : Array FieldInfo := #[]) : ClassFile where
  minorVersion := 0
  majorVersion := 65
  constantPool := pool
  accessFlags := fl
  thisClass := this
  superClass := sup
  interfaces := ifs
  fields := fds
  methods := ms
  attributes := attrs
def plain (name : String) (sup : Option ClassId) : Class where
  name := name
  kind := .ordinary
  loader := none
  accessFlags := 33
  super := sup
  interfaces := #[]
  cf := none
  fields := #[]
  methods := #[]
  instanceTypes := #[]
  staticTypes := #[]
  resolved := #[]
  callSites := []
  init := .initialized
  statics := none
  mirror := none

def pool0 : Array CpInfo := pool [(5, u "<init>"), (0, u "()V"), (1, .class_ 10), (1, u "java/lang/Object")] 113

def k0c0 : Code := { maxStack := 0, maxLocals := 1, code := object_method_1_code, exceptionTable := #[], attributes := #[] }
def k0m0 : Method := { name := "<init>", desc := "()V", sig := { parameters := [], returnType := none }, accessFlags := 1, code := some k0c0 }
/-- java/lang/Object -/
def k0 : Class := { plain "java/lang/Object" none with
  accessFlags := 33
  interfaces := #[]
  cf := some (fileOf pool0 8 #[] #[{ accessFlags := 1, nameIndex := 5, descriptorIndex := 6, attributes := #[] }] 33 0 #[] #[])
  fields := #[]
  methods := #[k0m0]
  instanceTypes := #[]
  staticTypes := #[]
  resolved := Array.replicate 124 none
  statics := none }

def pool1 : Array CpInfo := pool [(2, .class_ 4), (1, u "java/lang/Object"), (0, u "<init>"), (0, u "()V"), (0, .methodref 8 9), (0, .class_ 10), (0, .nameAndType 11 12), (0, u "com/example/couponforge/couponforge/io/DecimalNumberWholeNumberPinLaw"), (0, u "draw"), (0, u "(IJJIII)C"), (0, .integer 65535), (0, .integer 2147483647), (0, .class_ 16), (0, u "java/lang/String"), (0, .methodref 15 18), (0, .nameAndType 5 19), (0, u "([C)V"), (0, .methodref 21 22), (0, .class_ 23), (0, .nameAndType 24 25), (0, u "com/example/couponforge/couponforge/io/DecimalNumber"), (0, u "wholeNumber"), (0, u "(Ljava/lang/String;II)I"), (0, .methodref 8 27), (0, .nameAndType 28 29), (0, u "part"), (0, u "([CIII)J"), (0, .long 15), (1, .long 18446743073709551616), (1, .methodref 8 35), (0, .nameAndType 36 37), (0, u "pow10"), (0, u "(I)J"), (0, .long 10), (1, .long 100), (1, .long 1000), (1, .long 10000), (1, .long 100000), (1, .long 1000000), (1, .long 10000000), (1, .long 100000000), (3, u "law"), (0, u "(JJJIII)Z")] 5

def k1m0 : Method := { name := "<init>", desc := "()V", sig := { parameters := [], returnType := none }, accessFlags := 2, code := none }
def k1c1 : Code := { maxStack := 10, maxLocals := 17, code := code, exceptionTable := #[], attributes := #[] }
def k1m1 : Method := { name := "law", desc := "(JJJIII)Z", sig := { parameters := [.long, .long, .long, .int, .int, .int], returnType := some .boolean }, accessFlags := 9, code := some k1c1 }
def k1c2 : Code := { maxStack := 4, maxLocals := 9, code := method_3_code, exceptionTable := #[], attributes := #[] }
def k1m2 : Method := { name := "draw", desc := "(IJJIII)C", sig := { parameters := [.int, .long, .long, .int, .int, .int], returnType := some .char }, accessFlags := 10, code := some k1c2 }
def k1c3 : Code := { maxStack := 4, maxLocals := 5, code := method_4_code, exceptionTable := #[], attributes := #[] }
def k1m3 : Method := { name := "part", desc := "([CIII)J", sig := { parameters := [(.array .char), .int, .int, .int], returnType := some .long }, accessFlags := 10, code := some k1c3 }
def k1c4 : Code := { maxStack := 5, maxLocals := 2, code := method_5_code, exceptionTable := #[], attributes := #[] }
def k1m4 : Method := { name := "pow10", desc := "(I)J", sig := { parameters := [.int], returnType := some .long }, accessFlags := 10, code := some k1c4 }
/-- com/example/couponforge/couponforge/io/DecimalNumberWholeNumberPinLaw -/
def k1 : Class := { plain "com/example/couponforge/couponforge/io/DecimalNumberWholeNumberPinLaw" (some 0) with
  accessFlags := 49
  interfaces := #[]
  cf := some (fileOf pool1 8 #[] #[{ accessFlags := 2, nameIndex := 5, descriptorIndex := 6, attributes := #[] }, { accessFlags := 9, nameIndex := 56, descriptorIndex := 57, attributes := #[] }, { accessFlags := 10, nameIndex := 11, descriptorIndex := 12, attributes := #[] }, { accessFlags := 10, nameIndex := 28, descriptorIndex := 29, attributes := #[] }, { accessFlags := 10, nameIndex := 36, descriptorIndex := 37, attributes := #[] }] 49 2 #[] #[])
  fields := #[]
  methods := #[k1m0, k1m1, k1m2, k1m3, k1m4]
  instanceTypes := #[]
  staticTypes := #[]
  resolved := Array.replicate 63 none
  statics := none }

def pool2 : Array CpInfo := pool [(1, .class_ 2), (0, u "java/io/Serializable"), (0, .class_ 4), (0, u "java/lang/Object")] 2

/-- java/io/Serializable -/
def k2 : Class := { plain "java/io/Serializable" (some 0) with
  accessFlags := 1537
  interfaces := #[]
  cf := some (fileOf pool2 1 #[] #[] 1537 3 #[] #[])
  fields := #[]
  methods := #[]
  instanceTypes := #[]
  staticTypes := #[]
  resolved := Array.replicate 7 none
  statics := none }

def pool3 : Array CpInfo := pool [(1, .class_ 2), (0, u "java/lang/Comparable"), (0, .class_ 4), (0, u "java/lang/Object")] 7

/-- java/lang/Comparable -/
def k3 : Class := { plain "java/lang/Comparable" (some 0) with
  accessFlags := 1537
  interfaces := #[]
  cf := some (fileOf pool3 1 #[] #[] 1537 3 #[] #[])
  fields := #[]
  methods := #[]
  instanceTypes := #[]
  staticTypes := #[]
  resolved := Array.replicate 12 none
  statics := none }

def pool4 : Array CpInfo := pool [(2, .class_ 4), (1, u "java/lang/CharSequence"), (42, .class_ 48), (0, u "java/lang/CharSequence$1CodePointIterator"), (10, .class_ 60), (0, u "java/lang/CharSequence$1CharIterator"), (5, .class_ 67), (0, u "java/lang/Object")] 63

/-- java/lang/CharSequence -/
def k4 : Class := { plain "java/lang/CharSequence" (some 0) with
  accessFlags := 1537
  interfaces := #[]
  cf := some (fileOf pool4 2 #[.nestMembers #[47, 59]] #[] 1537 66 #[] #[])
  fields := #[]
  methods := #[]
  instanceTypes := #[]
  staticTypes := #[]
  resolved := Array.replicate 131 none
  statics := none }

def pool5 : Array CpInfo := pool [(1, .class_ 2), (0, u "java/lang/constant/Constable"), (0, .class_ 4), (0, u "java/lang/Object")] 6

/-- java/lang/constant/Constable -/
def k5 : Class := { plain "java/lang/constant/Constable" (some 0) with
  accessFlags := 1537
  interfaces := #[]
  cf := some (fileOf pool5 1 #[] #[] 1537 3 #[] #[])
  fields := #[]
  methods := #[]
  instanceTypes := #[]
  staticTypes := #[]
  resolved := Array.replicate 11 none
  statics := none }

def pool6 : Array CpInfo := pool [(1, .class_ 2), (0, u "java/lang/constant/ConstantDesc"), (0, .class_ 4), (0, u "java/lang/Object")] 32

/-- java/lang/constant/ConstantDesc -/
def k6 : Class := { plain "java/lang/constant/ConstantDesc" (some 0) with
  accessFlags := 1537
  interfaces := #[]
  cf := some (fileOf pool6 1 #[] #[] 1537 3 #[] #[])
  fields := #[]
  methods := #[]
  instanceTypes := #[]
  staticTypes := #[]
  resolved := Array.replicate 37 none
  statics := none }

def pool7 : Array CpInfo := pool [(1, .methodref 2 3), (0, .class_ 4), (0, .nameAndType 5 6), (0, u "java/lang/Object"), (0, u "<init>"), (0, u "()V"), (2, .fieldref 10 11), (0, .class_ 12), (0, .nameAndType 13 14), (0, u "java/lang/String"), (0, u "value"), (0, u "[B"), (0, .fieldref 10 16), (0, .nameAndType 17 18), (0, u "coder"), (0, u "B"), (2, u "hash"), (0, u "I"), (2, u "hashIsZero"), (0, u "Z"), (0, .methodref 10 28), (0, .nameAndType 5 29), (0, u "([CIILjava/lang/Void;)V"), (8, .fieldref 10 39), (0, .nameAndType 40 26), (0, u "COMPACT_STRINGS"), (1, .class_ 44), (1, u "java/lang/StringUTF16"), (0, u "compress"), (1, .methodref 42 48), (0, .nameAndType 49 50), (0, u "coderFromArrayLen"), (0, u "([BI)B"), (56, .class_ 109), (1, u "java/lang/StringLatin1"), (32, u "()Z"), (34, .methodref 42 178), (0, .nameAndType 45 179), (0, u "([CII)[B"), (183, u "([BI)C"), (27, u "(II)V"), (35, u "(I)C"), (64, .methodref 10 493), (0, .nameAndType 494 142), (0, u "isLatin1"), (0, .methodref 107 496), (0, .nameAndType 497 363), (0, u "charAt"), (0, .methodref 42 496), (2, u "checkIndex"), (73, .class_ 576), (0, u "java/lang/CharSequence"), (22, u "CASE_INSENSITIVE_ORDER"), (0, u "Ljava/util/Comparator;"), (409, u "([C)V"), (42, .fieldref 1054 1055), (0, .class_ 1056), (0, .nameAndType 1057 1058), (0, u "jdk/internal/util/Preconditions"), (0, u "SIOOBE_FORMATTER"), (0, u "Ljava/util/function/BiFunction;"), (0, .methodref 1054 1060), (0, .nameAndType 501 1061), (0, u "(IILjava/util/function/BiFunction;)I"), (39, u "serialPersistentFields"), (0, u "[Ljava/io/ObjectStreamField;"), (0, .class_ 1104), (0, u "java/lang/String$CaseInsensitiveComparator"), (1, .class_ 1107), (0, u "java/io/Serializable"), (0, .class_ 1109), (0, u "java/lang/Comparable"), (0, .class_ 1111), (0, u "java/lang/constant/Constable"), (0, .class_ 1113), (0, u "java/lang/constant/ConstantDesc"), (2, u "serialVersionUID"), (0, u "J"), (3, u "REPL"), (0, u "C"), (2, u "LATIN1"), (1, u "UTF16")] 323

def k7m0 : Method := { name := "<init>", desc := "()V", sig := { parameters := [], returnType := none }, accessFlags := 1, code := none }
def k7c1 : Code := { maxStack := 5, maxLocals := 2, code := jdk_42_method_3_code, exceptionTable := #[], attributes := #[] }
def k7m1 : Method := { name := "<init>", desc := "([C)V", sig := { parameters := [(.array .char)], returnType := none }, accessFlags := 1, code := some k7c1 }
def k7c2 : Code := { maxStack := 2, maxLocals := 2, code := jdk_42_method_56_code, exceptionTable := #[], attributes := #[] }
def k7m2 : Method := { name := "charAt", desc := "(I)C", sig := { parameters := [.int], returnType := some .char }, accessFlags := 1, code := some k7c2 }
def k7c3 : Code := { maxStack := 4, maxLocals := 6, code := jdk_42_method_149_code, exceptionTable := #[], attributes := #[] }
def k7m3 : Method := { name := "<init>", desc := "([CIILjava/lang/Void;)V", sig := { parameters := [(.array .char), .int, .int, (.object "java/lang/Void")], returnType := none }, accessFlags := 2, code := some k7c3 }
def k7c4 : Code := { maxStack := 1, maxLocals := 1, code := jdk_42_method_154_code, exceptionTable := #[], attributes := #[] }
def k7m4 : Method := { name := "isLatin1", desc := "()Z", sig := { parameters := [], returnType := some .boolean }, accessFlags := 0, code := some k7c4 }
def k7c5 : Code := { maxStack := 3, maxLocals := 2, code := jdk_42_method_155_code, exceptionTable := #[], attributes := #[] }
def k7m5 : Method := { name := "checkIndex", desc := "(II)V", sig := { parameters := [.int, .int], returnType := none }, accessFlags := 8, code := some k7c5 }
/-- java/lang/String -/
def k7 : Class := { plain "java/lang/String" (some 0) with
  accessFlags := 49
  interfaces := #[2, 3, 4, 5, 6]
  cf := some (fileOf pool7 10 #[.nestMembers #[1103]] #[{ accessFlags := 1, nameIndex := 5, descriptorIndex := 6, attributes := #[] }, { accessFlags := 1, nameIndex := 5, descriptorIndex := 1010, attributes := #[] }, { accessFlags := 1, nameIndex := 497, descriptorIndex := 427, attributes := #[] }, { accessFlags := 2, nameIndex := 5, descriptorIndex := 29, attributes := #[] }, { accessFlags := 0, nameIndex := 494, descriptorIndex := 142, attributes := #[] }, { accessFlags := 8, nameIndex := 501, descriptorIndex := 391, attributes := #[] }] 49 2 #[1106, 1108, 575, 1110, 1112] #[{ accessFlags := 18, nameIndex := 13, descriptorIndex := 14, attributes := #[] }, { accessFlags := 18, nameIndex := 17, descriptorIndex := 18, attributes := #[] }, { accessFlags := 2, nameIndex := 21, descriptorIndex := 22, attributes := #[] }, { accessFlags := 2, nameIndex := 25, descriptorIndex := 26, attributes := #[] }, { accessFlags := 26, nameIndex := 1116, descriptorIndex := 1117, attributes := #[] }, { accessFlags := 24, nameIndex := 40, descriptorIndex := 26, attributes := #[] }, { accessFlags := 26, nameIndex := 1101, descriptorIndex := 1102, attributes := #[] }, { accessFlags := 26, nameIndex := 1121, descriptorIndex := 1122, attributes := #[] }, { accessFlags := 25, nameIndex := 599, descriptorIndex := 600, attributes := #[] }, { accessFlags := 24, nameIndex := 1125, descriptorIndex := 18, attributes := #[] }, { accessFlags := 24, nameIndex := 1127, descriptorIndex := 18, attributes := #[] }])
  fields := #[{ name := "value", type := (.array .byte), accessFlags := 18, slot := 0, constantValue := 0 }, { name := "coder", type := .byte, accessFlags := 18, slot := 1, constantValue := 0 }, { name := "hash", type := .int, accessFlags := 2, slot := 2, constantValue := 0 }, { name := "hashIsZero", type := .boolean, accessFlags := 2, slot := 3, constantValue := 0 }, { name := "serialVersionUID", type := .long, accessFlags := 26, slot := 0, constantValue := 0 }, { name := "COMPACT_STRINGS", type := .boolean, accessFlags := 24, slot := 1, constantValue := 0 }, { name := "serialPersistentFields", type := (.array (.object "java/io/ObjectStreamField")), accessFlags := 26, slot := 2, constantValue := 0 }, { name := "REPL", type := .char, accessFlags := 26, slot := 3, constantValue := 0 }, { name := "CASE_INSENSITIVE_ORDER", type := (.object "java/util/Comparator"), accessFlags := 25, slot := 4, constantValue := 0 }, { name := "LATIN1", type := .byte, accessFlags := 24, slot := 5, constantValue := 0 }, { name := "UTF16", type := .byte, accessFlags := 24, slot := 6, constantValue := 0 }]
  methods := #[k7m0, k7m1, k7m2, k7m3, k7m4, k7m5]
  instanceTypes := #[(.array .byte), .byte, .int, .boolean]
  staticTypes := #[.long, .boolean, (.array (.object "java/io/ObjectStreamField")), .char, (.object "java/util/Comparator"), .byte, .byte]
  resolved := Array.replicate 1451 none
  statics := some 0 }

def pool8 : Array CpInfo := pool [(3, .class_ 4), (0, u "java/lang/String"), (1, .class_ 8), (1, u "java/lang/Object"), (0, u "<init>"), (0, u "()V"), (0, .methodref 12 13), (0, .class_ 14), (0, .nameAndType 15 16), (0, u "java/lang/StringUTF16"), (0, u "newBytesLength"), (0, u "(I)I"), (3, .integer 1073741823), (23, .fieldref 12 45), (0, .nameAndType 46 47), (0, u "$assertionsDisabled"), (0, u "Z"), (0, .methodref 12 49), (0, .nameAndType 50 51), (0, u "length"), (0, u "([B)I"), (7, .fieldref 12 60), (0, .nameAndType 61 62), (0, u "HI_BYTE_SHIFT"), (0, u "I"), (0, .fieldref 12 64), (0, .nameAndType 65 62), (0, u "LO_BYTE_SHIFT"), (1, .methodref 12 68), (0, .nameAndType 69 70), (0, u "checkIndex"), (0, u "(I[B)V"), (0, .methodref 12 72), (0, .nameAndType 73 74), (0, u "getChar"), (0, u "([BI)C"), (32, .methodref 12 108), (0, .nameAndType 109 110), (0, u "newBytesFor"), (0, u "(I)[B"), (0, .methodref 12 112), (0, .nameAndType 113 114), (0, u "putChar"), (0, u "([BII)V"), (0, .methodref 12 116), (0, .nameAndType 117 118), (0, u "compress"), (0, u "([CI[BII)I"), (0, .methodref 12 120), (0, .nameAndType 121 122), (0, u "toBytes"), (0, u "([CII)[B"), (138, u "coderFromArrayLen"), (0, u "([BI)B"), (106, .class_ 371), (1, u "java/lang/StringUTF16$LinesSpliterator"), (20, u "charAt"), (21, .methodref 3 415), (0, .nameAndType 69 416), (0, u "(II)V"), (13, u "MAX_LENGTH"), (196, .class_ 628), (0, u "java/lang/StringUTF16$CodePointsSpliterator"), (0, .class_ 630), (0, u "java/lang/StringUTF16$CharsSpliterator")] 4

def k8m0 : Method := { name := "<init>", desc := "()V", sig := { parameters := [], returnType := none }, accessFlags := 0, code := none }
def k8c1 : Code := { maxStack := 1, maxLocals := 1, code := jdk_52_method_2_code, exceptionTable := #[], attributes := #[] }
def k8m1 : Method := { name := "newBytesFor", desc := "(I)[B", sig := { parameters := [.int], returnType := some (.array .byte) }, accessFlags := 9, code := some k8c1 }
def k8c2 : Code := { maxStack := 4, maxLocals := 1, code := jdk_52_method_3_code, exceptionTable := #[], attributes := #[] }
def k8m2 : Method := { name := "newBytesLength", desc := "(I)I", sig := { parameters := [.int], returnType := some .int }, accessFlags := 9, code := some k8c2 }
def k8c3 : Code := { maxStack := 4, maxLocals := 3, code := jdk_52_method_4_code, exceptionTable := #[], attributes := #[] }
def k8m3 : Method := { name := "putChar", desc := "([BII)V", sig := { parameters := [(.array .byte), .int, .int], returnType := none }, accessFlags := 8, code := some k8c3 }
def k8c4 : Code := { maxStack := 3, maxLocals := 2, code := jdk_52_method_5_code, exceptionTable := #[], attributes := #[] }
def k8m4 : Method := { name := "getChar", desc := "([BI)C", sig := { parameters := [(.array .byte), .int], returnType := some .char }, accessFlags := 8, code := some k8c4 }
def k8c5 : Code := { maxStack := 2, maxLocals := 1, code := jdk_52_method_6_code, exceptionTable := #[], attributes := #[] }
def k8m5 : Method := { name := "length", desc := "([B)I", sig := { parameters := [(.array .byte)], returnType := some .int }, accessFlags := 9, code := some k8c5 }
def k8c6 : Code := { maxStack := 4, maxLocals := 5, code := jdk_52_method_14_code, exceptionTable := #[], attributes := #[] }
def k8m6 : Method := { name := "toBytes", desc := "([CII)[B", sig := { parameters := [(.array .char), .int, .int], returnType := some (.array .byte) }, accessFlags := 9, code := some k8c6 }
def k8c7 : Code := { maxStack := 2, maxLocals := 2, code := jdk_52_method_15_code, exceptionTable := #[], attributes := #[] }
def k8m7 : Method := { name := "coderFromArrayLen", desc := "([BI)B", sig := { parameters := [(.array .byte), .int], returnType := some .byte }, accessFlags := 8, code := some k8c7 }
def k8c8 : Code := { maxStack := 5, maxLocals := 6, code := jdk_52_method_16_code, exceptionTable := #[], attributes := #[] }
def k8m8 : Method := { name := "compress", desc := "([CII)[B", sig := { parameters := [(.array .char), .int, .int], returnType := some (.array .byte) }, accessFlags := 9, code := some k8c8 }
def k8c9 : Code := { maxStack := 3, maxLocals := 7, code := jdk_52_method_21_code, exceptionTable := #[], attributes := #[] }
def k8m9 : Method := { name := "compress", desc := "([CI[BII)I", sig := { parameters := [(.array .char), .int, (.array .byte), .int, .int], returnType := some .int }, accessFlags := 9, code := some k8c9 }
def k8c10 : Code := { maxStack := 2, maxLocals := 2, code := jdk_52_method_83_code, exceptionTable := #[], attributes := #[] }
def k8m10 : Method := { name := "charAt", desc := "([BI)C", sig := { parameters := [(.array .byte), .int], returnType := some .char }, accessFlags := 9, code := some k8c10 }
def k8c11 : Code := { maxStack := 2, maxLocals := 2, code := jdk_52_method_91_code, exceptionTable := #[], attributes := #[] }
def k8m11 : Method := { name := "checkIndex", desc := "(I[B)V", sig := { parameters := [.int, (.array .byte)], returnType := none }, accessFlags := 9, code := some k8c11 }
/-- java/lang/StringUTF16 -/
def k8 : Class := { plain "java/lang/StringUTF16" (some 0) with
  accessFlags := 48
  interfaces := #[]
  cf := some (fileOf pool8 12 #[.nestMembers #[627, 629, 369]] #[{ accessFlags := 0, nameIndex := 9, descriptorIndex := 10, attributes := #[] }, { accessFlags := 9, nameIndex := 109, descriptorIndex := 110, attributes := #[] }, { accessFlags := 9, nameIndex := 15, descriptorIndex := 16, attributes := #[] }, { accessFlags := 8, nameIndex := 113, descriptorIndex := 114, attributes := #[] }, { accessFlags := 8, nameIndex := 73, descriptorIndex := 74, attributes := #[] }, { accessFlags := 9, nameIndex := 50, descriptorIndex := 51, attributes := #[] }, { accessFlags := 9, nameIndex := 121, descriptorIndex := 122, attributes := #[] }, { accessFlags := 8, nameIndex := 261, descriptorIndex := 262, attributes := #[] }, { accessFlags := 9, nameIndex := 117, descriptorIndex := 122, attributes := #[] }, { accessFlags := 9, nameIndex := 117, descriptorIndex := 118, attributes := #[] }, { accessFlags := 9, nameIndex := 392, descriptorIndex := 74, attributes := #[] }, { accessFlags := 9, nameIndex := 69, descriptorIndex := 70, attributes := #[] }] 48 6 #[] #[{ accessFlags := 26, nameIndex := 61, descriptorIndex := 62, attributes := #[] }, { accessFlags := 26, nameIndex := 65, descriptorIndex := 62, attributes := #[] }, { accessFlags := 24, nameIndex := 430, descriptorIndex := 62, attributes := #[] }, { accessFlags := 4120, nameIndex := 46, descriptorIndex := 47, attributes := #[] }])
  fields := #[{ name := "HI_BYTE_SHIFT", type := .int, accessFlags := 26, slot := 0, constantValue := 0 }, { name := "LO_BYTE_SHIFT", type := .int, accessFlags := 26, slot := 1, constantValue := 0 }, { name := "MAX_LENGTH", type := .int, accessFlags := 24, slot := 2, constantValue := 0 }, { name := "$assertionsDisabled", type := .boolean, accessFlags := 4120, slot := 3, constantValue := 0 }]
  methods := #[k8m0, k8m1, k8m2, k8m3, k8m4, k8m5, k8m6, k8m7, k8m8, k8m9, k8m10, k8m11]
  instanceTypes := #[]
  staticTypes := #[.int, .int, .int, .boolean]
  resolved := Array.replicate 635 none
  statics := some 1 }

def pool9 : Array CpInfo := pool [(2, .class_ 4), (1, u "java/lang/Object"), (0, u "<init>"), (0, u "()V"), (7, .class_ 16), (1, u "java/lang/String"), (11, .class_ 30), (1, u "com/example/couponforge/couponforge/io/DecimalNumber"), (17, .methodref 14 49), (0, .nameAndType 50 51), (0, u "charAt"), (0, u "(I)C"), (0, .methodref 28 53), (0, .nameAndType 54 55), (0, u "isDigit"), (0, u "(C)Z"), (0, u "MOST_WHOLE_DIGITS"), (0, u "I"), (10, u "wholeNumber"), (0, u "(Ljava/lang/String;II)I")] 17

def k9m0 : Method := { name := "<init>", desc := "()V", sig := { parameters := [], returnType := none }, accessFlags := 2, code := none }
def k9c1 : Code := { maxStack := 3, maxLocals := 6, code := prog_33_method_5_code, exceptionTable := #[], attributes := #[] }
def k9m1 : Method := { name := "wholeNumber", desc := "(Ljava/lang/String;II)I", sig := { parameters := [(.object "java/lang/String"), .int, .int], returnType := some .int }, accessFlags := 8, code := some k9c1 }
def k9c2 : Code := { maxStack := 2, maxLocals := 1, code := prog_33_method_6_code, exceptionTable := #[], attributes := #[] }
def k9m2 : Method := { name := "isDigit", desc := "(C)Z", sig := { parameters := [.char], returnType := some .boolean }, accessFlags := 10, code := some k9c2 }
/-- com/example/couponforge/couponforge/io/DecimalNumber -/
def k9 : Class := { plain "com/example/couponforge/couponforge/io/DecimalNumber" (some 0) with
  accessFlags := 48
  interfaces := #[]
  cf := some (fileOf pool9 28 #[] #[{ accessFlags := 2, nameIndex := 5, descriptorIndex := 6, attributes := #[] }, { accessFlags := 8, nameIndex := 68, descriptorIndex := 69, attributes := #[] }, { accessFlags := 10, nameIndex := 54, descriptorIndex := 55, attributes := #[] }] 48 2 #[] #[{ accessFlags := 26, nameIndex := 56, descriptorIndex := 57, attributes := #[] }])
  fields := #[{ name := "MOST_WHOLE_DIGITS", type := .int, accessFlags := 26, slot := 0, constantValue := 0 }]
  methods := #[k9m0, k9m1, k9m2]
  instanceTypes := #[]
  staticTypes := #[.int]
  resolved := Array.replicate 87 none
  statics := none }

def pool10 : Array CpInfo := pool [(2, .class_ 4), (1, u "java/lang/Object"), (0, u "<init>"), (0, u "()V"), (17, .class_ 26), (1, u "jdk/internal/util/Preconditions"), (6, u "checkIndex"), (21, .class_ 56), (0, u "jdk/internal/util/Preconditions$4"), (57, .class_ 115), (0, u "jdk/internal/util/Preconditions$1"), (7, u "SIOOBE_FORMATTER"), (0, u "Ljava/util/function/BiFunction;"), (0, .class_ 126), (0, u "jdk/internal/util/Preconditions$2"), (3, u "AIOOBE_FORMATTER"), (0, .class_ 132), (0, u "jdk/internal/util/Preconditions$3"), (3, u "IOOBE_FORMATTER"), (41, u "(IILjava/util/function/BiFunction;)I")] 15

def k10m0 : Method := { name := "<init>", desc := "()V", sig := { parameters := [], returnType := none }, accessFlags := 1, code := none }
def k10c1 : Code := { maxStack := 3, maxLocals := 3, code := jdk_41_method_11_code, exceptionTable := #[], attributes := #[] }
def k10m1 : Method := { name := "checkIndex", desc := "(IILjava/util/function/BiFunction;)I", sig := { parameters := [.int, .int, (.object "java/util/function/BiFunction")], returnType := some .int }, accessFlags := 9, code := some k10c1 }
/-- jdk/internal/util/Preconditions -/
def k10 : Class := { plain "jdk/internal/util/Preconditions" (some 0) with
  accessFlags := 33
  interfaces := #[]
  cf := some (fileOf pool10 24 #[.nestMembers #[55, 131, 125, 114]] #[{ accessFlags := 1, nameIndex := 5, descriptorIndex := 6, attributes := #[] }, { accessFlags := 9, nameIndex := 33, descriptorIndex := 178, attributes := #[] }] 33 2 #[] #[{ accessFlags := 25, nameIndex := 123, descriptorIndex := 124, attributes := #[] }, { accessFlags := 25, nameIndex := 130, descriptorIndex := 124, attributes := #[] }, { accessFlags := 25, nameIndex := 136, descriptorIndex := 124, attributes := #[] }])
  fields := #[{ name := "SIOOBE_FORMATTER", type := (.object "java/util/function/BiFunction"), accessFlags := 25, slot := 0, constantValue := 0 }, { name := "AIOOBE_FORMATTER", type := (.object "java/util/function/BiFunction"), accessFlags := 25, slot := 1, constantValue := 0 }, { name := "IOOBE_FORMATTER", type := (.object "java/util/function/BiFunction"), accessFlags := 25, slot := 2, constantValue := 0 }]
  methods := #[k10m0, k10m1]
  instanceTypes := #[]
  staticTypes := #[(.object "java/util/function/BiFunction"), (.object "java/util/function/BiFunction"), (.object "java/util/function/BiFunction")]
  resolved := Array.replicate 194 none
  statics := some 2 }

def pool11 : Array CpInfo := pool [(1, .class_ 2), (0, u "java/lang/String"), (1, .class_ 6), (1, u "java/lang/Object"), (0, u "<init>"), (0, u "()V"), (0, .methodref 1 10), (0, .nameAndType 11 12), (0, u "checkIndex"), (0, u "(II)V"), (1, .class_ 16), (1, u "java/lang/StringLatin1"), (36, u "([BI)C"), (67, u "$assertionsDisabled"), (0, u "Z"), (98, .class_ 223), (1, u "java/lang/StringLatin1$LinesSpliterator"), (28, u "charAt"), (137, .class_ 391), (0, u "java/lang/StringLatin1$CharsSpliterator")] 3

def k11m0 : Method := { name := "<init>", desc := "()V", sig := { parameters := [], returnType := none }, accessFlags := 0, code := none }
def k11c1 : Code := { maxStack := 2, maxLocals := 2, code := jdk_43_method_2_code, exceptionTable := #[], attributes := #[] }
def k11m1 : Method := { name := "charAt", desc := "([BI)C", sig := { parameters := [(.array .byte), .int], returnType := some .char }, accessFlags := 9, code := some k11c1 }
/-- java/lang/StringLatin1 -/
def k11 : Class := { plain "java/lang/StringLatin1" (some 0) with
  accessFlags := 48
  interfaces := #[]
  cf := some (fileOf pool11 14 #[.nestMembers #[390, 221]] #[{ accessFlags := 0, nameIndex := 7, descriptorIndex := 8, attributes := #[] }, { accessFlags := 9, nameIndex := 252, descriptorIndex := 53, attributes := #[] }] 48 4 #[] #[{ accessFlags := 4120, nameIndex := 121, descriptorIndex := 122, attributes := #[] }])
  fields := #[{ name := "$assertionsDisabled", type := .boolean, accessFlags := 4120, slot := 0, constantValue := 0 }]
  methods := #[k11m0, k11m1]
  instanceTypes := #[]
  staticTypes := #[.boolean]
  resolved := Array.replicate 395 none
  statics := none }

def pool12 : Array CpInfo := pool [(9, u "<init>"), (6, .class_ 18), (1, u "java/lang/Object"), (0, u "()V"), (1, .class_ 23), (1, u "jdk/internal/util/ArraysSupport"), (0, u "LOG2_ARRAY_LONG_INDEX_SCALE"), (0, u "I"), (2, u "U"), (0, u "Ljdk/internal/misc/Unsafe;"), (8, u "BIG_ENDIAN"), (0, u "Z"), (8, u "LOG2_BYTE_BIT_SIZE"), (4, u "LOG2_ARRAY_INT_INDEX_SCALE"), (54, u "JLA"), (0, u "Ljdk/internal/access/JavaLangAccess;"), (11, u "LOG2_ARRAY_BOOLEAN_INDEX_SCALE"), (9, u "LOG2_ARRAY_BYTE_INDEX_SCALE"), (5, u "LOG2_ARRAY_CHAR_INDEX_SCALE"), (5, u "LOG2_ARRAY_SHORT_INDEX_SCALE"), (18, u "LOG2_ARRAY_FLOAT_INDEX_SCALE"), (24, u "LOG2_ARRAY_DOUBLE_INDEX_SCALE"), (89, u "T_BOOLEAN"), (2, u "T_CHAR"), (1, u "T_FLOAT"), (1, u "T_DOUBLE"), (1, u "T_BYTE"), (1, u "T_SHORT"), (1, u "T_INT"), (1, u "T_LONG"), (1, u "SOFT_MAX_ARRAY_LENGTH")] 83

def k12m0 : Method := { name := "<init>", desc := "()V", sig := { parameters := [], returnType := none }, accessFlags := 2, code := none }
/-- jdk/internal/util/ArraysSupport -/
def k12 : Class := { plain "jdk/internal/util/ArraysSupport" (some 0) with
  accessFlags := 33
  interfaces := #[]
  cf := some (fileOf pool12 21 #[] #[{ accessFlags := 2, nameIndex := 9, descriptorIndex := 19, attributes := #[] }] 33 16 #[] #[{ accessFlags := 24, nameIndex := 28, descriptorIndex := 29, attributes := #[] }, { accessFlags := 26, nameIndex := 38, descriptorIndex := 39, attributes := #[] }, { accessFlags := 25, nameIndex := 121, descriptorIndex := 25, attributes := #[] }, { accessFlags := 25, nameIndex := 131, descriptorIndex := 25, attributes := #[] }, { accessFlags := 25, nameIndex := 137, descriptorIndex := 25, attributes := #[] }, { accessFlags := 25, nameIndex := 143, descriptorIndex := 25, attributes := #[] }, { accessFlags := 25, nameIndex := 53, descriptorIndex := 25, attributes := #[] }, { accessFlags := 25, nameIndex := 24, descriptorIndex := 25, attributes := #[] }, { accessFlags := 25, nameIndex := 162, descriptorIndex := 25, attributes := #[] }, { accessFlags := 25, nameIndex := 187, descriptorIndex := 25, attributes := #[] }, { accessFlags := 26, nameIndex := 48, descriptorIndex := 25, attributes := #[] }, { accessFlags := 25, nameIndex := 277, descriptorIndex := 25, attributes := #[] }, { accessFlags := 25, nameIndex := 280, descriptorIndex := 25, attributes := #[] }, { accessFlags := 25, nameIndex := 282, descriptorIndex := 25, attributes := #[] }, { accessFlags := 25, nameIndex := 284, descriptorIndex := 25, attributes := #[] }, { accessFlags := 25, nameIndex := 286, descriptorIndex := 25, attributes := #[] }, { accessFlags := 25, nameIndex := 288, descriptorIndex := 25, attributes := #[] }, { accessFlags := 25, nameIndex := 290, descriptorIndex := 25, attributes := #[] }, { accessFlags := 25, nameIndex := 292, descriptorIndex := 25, attributes := #[] }, { accessFlags := 26, nameIndex := 108, descriptorIndex := 109, attributes := #[] }, { accessFlags := 25, nameIndex := 294, descriptorIndex := 25, attributes := #[] }])
  fields := #[{ name := "U", type := (.object "jdk/internal/misc/Unsafe"), accessFlags := 24, slot := 0, constantValue := 0 }, { name := "BIG_ENDIAN", type := .boolean, accessFlags := 26, slot := 1, constantValue := 0 }, { name := "LOG2_ARRAY_BOOLEAN_INDEX_SCALE", type := .int, accessFlags := 25, slot := 2, constantValue := 0 }, { name := "LOG2_ARRAY_BYTE_INDEX_SCALE", type := .int, accessFlags := 25, slot := 3, constantValue := 0 }, { name := "LOG2_ARRAY_CHAR_INDEX_SCALE", type := .int, accessFlags := 25, slot := 4, constantValue := 0 }, { name := "LOG2_ARRAY_SHORT_INDEX_SCALE", type := .int, accessFlags := 25, slot := 5, constantValue := 0 }, { name := "LOG2_ARRAY_INT_INDEX_SCALE", type := .int, accessFlags := 25, slot := 6, constantValue := 0 }, { name := "LOG2_ARRAY_LONG_INDEX_SCALE", type := .int, accessFlags := 25, slot := 7, constantValue := 0 }, { name := "LOG2_ARRAY_FLOAT_INDEX_SCALE", type := .int, accessFlags := 25, slot := 8, constantValue := 0 }, { name := "LOG2_ARRAY_DOUBLE_INDEX_SCALE", type := .int, accessFlags := 25, slot := 9, constantValue := 0 }, { name := "LOG2_BYTE_BIT_SIZE", type := .int, accessFlags := 26, slot := 10, constantValue := 0 }, { name := "T_BOOLEAN", type := .int, accessFlags := 25, slot := 11, constantValue := 0 }, { name := "T_CHAR", type := .int, accessFlags := 25, slot := 12, constantValue := 0 }, { name := "T_FLOAT", type := .int, accessFlags := 25, slot := 13, constantValue := 0 }, { name := "T_DOUBLE", type := .int, accessFlags := 25, slot := 14, constantValue := 0 }, { name := "T_BYTE", type := .int, accessFlags := 25, slot := 15, constantValue := 0 }, { name := "T_SHORT", type := .int, accessFlags := 25, slot := 16, constantValue := 0 }, { name := "T_INT", type := .int, accessFlags := 25, slot := 17, constantValue := 0 }, { name := "T_LONG", type := .int, accessFlags := 25, slot := 18, constantValue := 0 }, { name := "JLA", type := (.object "jdk/internal/access/JavaLangAccess"), accessFlags := 26, slot := 19, constantValue := 0 }, { name := "SOFT_MAX_ARRAY_LENGTH", type := .int, accessFlags := 25, slot := 20, constantValue := 0 }]
  methods := #[k12m0]
  instanceTypes := #[]
  staticTypes := #[(.object "jdk/internal/misc/Unsafe"), .boolean, .int, .int, .int, .int, .int, .int, .int, .int, .int, .int, .int, .int, .int, .int, .int, .int, .int, (.object "jdk/internal/access/JavaLangAccess"), .int]
  resolved := Array.replicate 378 none
  statics := none }

def pool13 : Array CpInfo := pool [(1, u "java/lang/Cloneable"), (0, .class_ 1), (0, u "java/lang/Object"), (0, .class_ 3)] 3

/-- java/lang/Cloneable -/
def k13 : Class := { plain "java/lang/Cloneable" (some 0) with
  accessFlags := 1537
  interfaces := #[]
  cf := some (fileOf pool13 2 #[] #[] 1537 4 #[] #[])
  fields := #[]
  methods := #[]
  instanceTypes := #[]
  staticTypes := #[]
  resolved := Array.replicate 8 none
  statics := none }

/-- the primitive byte -/
def k14 : Class := { plain "byte" none with kind := .primitive 'B', accessFlags := 0x411 }
/-- [B -/
def k15 : Class := { plain "[B" (some 0) with kind := .array 14 .byte, interfaces := #[13, 2], accessFlags := 1041 }

/-- the primitive char -/
def k16 : Class := { plain "char" none with kind := .primitive 'C', accessFlags := 0x411 }
/-- [C -/
def k17 : Class := { plain "[C" (some 0) with kind := .array 16 .char, interfaces := #[13, 2], accessFlags := 1041 }

/-- the primitive int -/
def k18 : Class := { plain "int" none with kind := .primitive 'I', accessFlags := 0x411 }
/-- [I -/
def k19 : Class := { plain "[I" (some 0) with kind := .array 18 .int, interfaces := #[13, 2], accessFlags := 1041 }

/-- the primitive long -/
def k20 : Class := { plain "long" none with kind := .primitive 'J', accessFlags := 0x411 }
/-- [J -/
def k21 : Class := { plain "[J" (some 0) with kind := .array 20 .long, interfaces := #[13, 2], accessFlags := 1041 }

def heap : Heap := #[{ cls := 7, slots := #[.long 0, .int 1, .null, .int 0, .null, .int 0, .int 0], vm := .statics 7 },
  { cls := 8, slots := #[.int 0, .int 8, .int 0, .int 1], vm := .statics 8 },
  { cls := 10, slots := #[.null, .null, .null], vm := .statics 10 }]
def classes : Array Class := #[k0, k1, k2, k3, k4, k5, k6, k7, k8, k9, k10, k11, k12, k13, k14, k15, k16, k17, k18, k19, k20, k21]
def interned : List (Array UInt16 × Addr) := []
def slotsUsed : Nat := 14
def theMethod : MethodId := ⟨1, 1⟩
def args0 : Array Value := #[.long 5, .long 5, .long 5, .int 5, .int 5, .int 5]
def aboutOver (below : List Frame) : State where
  vm := { classes := classes, interned := interned.toArray }
  heap := heap
  slotsUsed := slotsUsed
  threads := #[{ frames := .invoking theMethod args0 :: below }]
def below0 : List Frame := [.native { method := ⟨0, 0⟩, args := #[] }]
def about1 : State := aboutOver below0
def p0 : Program := .bare "" "" ""
def e0 : Env := launch0.env 0 0 0
theorem w_frames : about1.frames = Frame.invoking theMethod args0 :: below0 := rfl
set_option maxRecDepth 65536 in
theorem w_args : argsFit about1.vm theMethod args0 = true := by decide +kernel
set_option maxRecDepth 65536 in
theorem w_heap : heapFits about1 = true := by decide +kernel
set_option maxRecDepth 65536 in
theorem w_runnable : about1.curStatus? = some .runnable := by decide +kernel
set_option maxRecDepth 65536 in
theorem w_alone : about1.alone = true := by decide +kernel
set_option maxRecDepth 65536 in
theorem w_named : about1.methodNamed? x = some theMethod := by decide +kernel
set_option maxRecDepth 65536 in
theorem w_hears : about1.hears theMethod below0 = true := by decide +kernel
set_option maxRecDepth 65536 in
theorem w_ripe : about1.ripe theMethod args0 below0 = true := by decide +kernel
theorem w_running : about1.status = .running := rfl
set_option maxRecDepth 65536 in
theorem w_room : about1.hasRoom e0.platform room_1 = true :=
  launch0.hasRoom_least _ room_1 (by decide +kernel) (by decide +kernel) (by decide +kernel) (by decide +kernel) (by decide +kernel) (by decide +kernel)
theorem allAtoms_all (ts : List Jvm.Cond) (a : Array Jvm.Value) (st : Jvm.State) : (allAtoms ts).before a st = ts.all (fun c => c.before a st) := by
  induction ts with
  | nil => rfl
  | cons c t ih =>
    show (Jvm.Cond.and c (allAtoms t)).before a st = _
    rw [Jvm.Cond.before_and, ih, List.all_cons]
def words1 : List Jvm.Cond := Jvm.Cond.code x code maxLocals ret :: tables_1
/-- a 'code' word, met by the world's own term for the bytes: nothing is compared byte by byte -/
theorem code_word {y : MethodName} {bytes : ByteArray} {mx : Nat} {rt : Option FieldType} {a : Array Value} {s : State} {m : MethodId} {meth : Method} {c : Code} (h1 : s.methodNamed? y = some m) (h2 : s.vm.method? m = some meth) (h3 : meth.code = some c) (h4 : c.code = bytes)
    (h5 : (c.maxLocals == mx && c.exceptionTable.isEmpty && decide (c.maxStack ≤ mostOperands) && decide (meth.sig.returnType = rt) && !meth.locks && decide (parseMethodDescriptor y.desc = some meth.sig)) = true) : (Jvm.Cond.code y bytes mx rt).before a s = true := by
  simp only [Bool.and_eq_true, beq_iff_eq, Bool.not_eq_true', decide_eq_true_eq] at h5
  obtain ⟨⟨⟨⟨⟨g1, g2⟩, g3⟩, g4⟩, g5⟩, g6⟩ := h5
  simp [Cond.before, Cond.holds, Cond.value, h1, h2, h3, h4, g1, g2, g3, g4, g5, g6]
def isCode : Jvm.Cond → Bool
  | .code _ _ _ _ => true
  | _ => false
theorem all_split {L : List Jvm.Cond} {P : Jvm.Cond → Bool} (h1 : L.all (fun c => isCode c || P c) = true) (h2 : ∀ c ∈ L.filter isCode, P c = true) : L.all P = true := by
  refine List.all_eq_true.mpr fun c hc => ?_
  have h := List.all_eq_true.mp h1 c hc
  rcases Bool.eq_false_or_eq_true (isCode c) with hi | hi
  · exact h2 c (List.mem_filter.mpr ⟨hc, hi⟩)
  · simpa [hi] using h
set_option maxRecDepth 65536 in
theorem w_c0 : (Jvm.Cond.code x code maxLocals ret).before args0 about1 = true := code_word (m := ⟨1, 1⟩) (meth := k1m1) (c := k1c1) (by decide +kernel) rfl rfl rfl (by decide +kernel)
set_option maxRecDepth 65536 in
theorem w_c1 : (Jvm.Cond.code ({ cls := "com/example/couponforge/couponforge/io/DecimalNumberWholeNumberPinLaw", name := "draw", desc := "(IJJIII)C" } : Jvm.MethodName) method_3_code (9 : Nat) (Option.some Jvm.ClassFile.FieldType.char)).before args0 about1 = true := code_word (m := ⟨1, 2⟩) (meth := k1m2) (c := k1c2) (by decide +kernel) rfl rfl rfl (by decide +kernel)
set_option maxRecDepth 65536 in
theorem w_c2 : (Jvm.Cond.code ({ cls := "java/lang/String", name := "<init>", desc := "([C)V" } : Jvm.MethodName) jdk_42_method_3_code (2 : Nat) (Option.none : Option Jvm.ClassFile.FieldType)).before args0 about1 = true := code_word (m := ⟨7, 1⟩) (meth := k7m1) (c := k7c1) (by decide +kernel) rfl rfl rfl (by decide +kernel)
set_option maxRecDepth 65536 in
theorem w_c3 : (Jvm.Cond.code ({ cls := "java/lang/String", name := "<init>", desc := "([CIILjava/lang/Void;)V" } : Jvm.MethodName) jdk_42_method_149_code (6 : Nat) (Option.none : Option Jvm.ClassFile.FieldType)).before args0 about1 = true := code_word (m := ⟨7, 3⟩) (meth := k7m3) (c := k7c3) (by decide +kernel) rfl rfl rfl (by decide +kernel)
set_option maxRecDepth 65536 in
theorem w_c4 : (Jvm.Cond.code ({ cls := "java/lang/Object", name := "<init>", desc := "()V" } : Jvm.MethodName) object_method_1_code (1 : Nat) (Option.none : Option Jvm.ClassFile.FieldType)).before args0 about1 = true := code_word (m := ⟨0, 0⟩) (meth := k0m0) (c := k0c0) (by decide +kernel) rfl rfl rfl (by decide +kernel)
set_option maxRecDepth 65536 in
theorem w_c5 : (Jvm.Cond.code ({ cls := "java/lang/StringUTF16", name := "compress", desc := "([CII)[B" } : Jvm.MethodName) jdk_52_method_16_code (6 : Nat) (Option.some (Jvm.ClassFile.FieldType.array Jvm.ClassFile.FieldType.byte))).before args0 about1 = true := code_word (m := ⟨8, 8⟩) (meth := k8m8) (c := k8c8) (by decide +kernel) rfl rfl rfl (by decide +kernel)
set_option maxRecDepth 65536 in
theorem w_c6 : (Jvm.Cond.code ({ cls := "java/lang/StringUTF16", name := "compress", desc := "([CI[BII)I" } : Jvm.MethodName) jdk_52_method_21_code (7 : Nat) (Option.some Jvm.ClassFile.FieldType.int)).before args0 about1 = true := code_word (m := ⟨8, 9⟩) (meth := k8m9) (c := k8c9) (by decide +kernel) rfl rfl rfl (by decide +kernel)
set_option maxRecDepth 65536 in
theorem w_c7 : (Jvm.Cond.code ({ cls := "java/lang/StringUTF16", name := "coderFromArrayLen", desc := "([BI)B" } : Jvm.MethodName) jdk_52_method_15_code (2 : Nat) (Option.some Jvm.ClassFile.FieldType.byte)).before args0 about1 = true := code_word (m := ⟨8, 7⟩) (meth := k8m7) (c := k8c7) (by decide +kernel) rfl rfl rfl (by decide +kernel)
set_option maxRecDepth 65536 in
theorem w_c8 : (Jvm.Cond.code ({ cls := "com/example/couponforge/couponforge/io/DecimalNumber", name := "wholeNumber", desc := "(Ljava/lang/String;II)I" } : Jvm.MethodName) prog_33_method_5_code (6 : Nat) (Option.some Jvm.ClassFile.FieldType.int)).before args0 about1 = true := code_word (m := ⟨9, 1⟩) (meth := k9m1) (c := k9c1) (by decide +kernel) rfl rfl rfl (by decide +kernel)
set_option maxRecDepth 65536 in
theorem w_c9 : (Jvm.Cond.code ({ cls := "java/lang/StringUTF16", name := "toBytes", desc := "([CII)[B" } : Jvm.MethodName) jdk_52_method_14_code (5 : Nat) (Option.some (Jvm.ClassFile.FieldType.array Jvm.ClassFile.FieldType.byte))).before args0 about1 = true := code_word (m := ⟨8, 6⟩) (meth := k8m6) (c := k8c6) (by decide +kernel) rfl rfl rfl (by decide +kernel)
set_option maxRecDepth 65536 in
theorem w_c10 : (Jvm.Cond.code ({ cls := "java/lang/StringUTF16", name := "newBytesFor", desc := "(I)[B" } : Jvm.MethodName) jdk_52_method_2_code (1 : Nat) (Option.some (Jvm.ClassFile.FieldType.array Jvm.ClassFile.FieldType.byte))).before args0 about1 = true := code_word (m := ⟨8, 1⟩) (meth := k8m1) (c := k8c1) (by decide +kernel) rfl rfl rfl (by decide +kernel)
set_option maxRecDepth 65536 in
theorem w_c11 : (Jvm.Cond.code ({ cls := "java/lang/StringUTF16", name := "newBytesLength", desc := "(I)I" } : Jvm.MethodName) jdk_52_method_3_code (1 : Nat) (Option.some Jvm.ClassFile.FieldType.int)).before args0 about1 = true := code_word (m := ⟨8, 2⟩) (meth := k8m2) (c := k8c2) (by decide +kernel) rfl rfl rfl (by decide +kernel)
set_option maxRecDepth 65536 in
theorem w_c12 : (Jvm.Cond.code ({ cls := "java/lang/StringUTF16", name := "putChar", desc := "([BII)V" } : Jvm.MethodName) jdk_52_method_4_code (3 : Nat) (Option.none : Option Jvm.ClassFile.FieldType)).before args0 about1 = true := code_word (m := ⟨8, 3⟩) (meth := k8m3) (c := k8c3) (by decide +kernel) rfl rfl rfl (by decide +kernel)
set_option maxRecDepth 65536 in
theorem w_c13 : (Jvm.Cond.code ({ cls := "java/lang/StringUTF16", name := "getChar", desc := "([BI)C" } : Jvm.MethodName) jdk_52_method_5_code (2 : Nat) (Option.some Jvm.ClassFile.FieldType.char)).before args0 about1 = true := code_word (m := ⟨8, 4⟩) (meth := k8m4) (c := k8c4) (by decide +kernel) rfl rfl rfl (by decide +kernel)
set_option maxRecDepth 65536 in
theorem w_c14 : (Jvm.Cond.code ({ cls := "java/lang/String", name := "charAt", desc := "(I)C" } : Jvm.MethodName) jdk_42_method_56_code (2 : Nat) (Option.some Jvm.ClassFile.FieldType.char)).before args0 about1 = true := code_word (m := ⟨7, 2⟩) (meth := k7m2) (c := k7c2) (by decide +kernel) rfl rfl rfl (by decide +kernel)
set_option maxRecDepth 65536 in
theorem w_c15 : (Jvm.Cond.code ({ cls := "java/lang/String", name := "isLatin1", desc := "()Z" } : Jvm.MethodName) jdk_42_method_154_code (1 : Nat) (Option.some Jvm.ClassFile.FieldType.boolean)).before args0 about1 = true := code_word (m := ⟨7, 4⟩) (meth := k7m4) (c := k7c4) (by decide +kernel) rfl rfl rfl (by decide +kernel)
set_option maxRecDepth 65536 in
theorem w_c16 : (Jvm.Cond.code ({ cls := "java/lang/StringUTF16", name := "charAt", desc := "([BI)C" } : Jvm.MethodName) jdk_52_method_83_code (2 : Nat) (Option.some Jvm.ClassFile.FieldType.char)).before args0 about1 = true := code_word (m := ⟨8, 10⟩) (meth := k8m10) (c := k8c10) (by decide +kernel) rfl rfl rfl (by decide +kernel)
set_option maxRecDepth 65536 in
theorem w_c17 : (Jvm.Cond.code ({ cls := "java/lang/StringUTF16", name := "checkIndex", desc := "(I[B)V" } : Jvm.MethodName) jdk_52_method_91_code (2 : Nat) (Option.none : Option Jvm.ClassFile.FieldType)).before args0 about1 = true := code_word (m := ⟨8, 11⟩) (meth := k8m11) (c := k8c11) (by decide +kernel) rfl rfl rfl (by decide +kernel)
set_option maxRecDepth 65536 in
theorem w_c18 : (Jvm.Cond.code ({ cls := "java/lang/StringUTF16", name := "length", desc := "([B)I" } : Jvm.MethodName) jdk_52_method_6_code (1 : Nat) (Option.some Jvm.ClassFile.FieldType.int)).before args0 about1 = true := code_word (m := ⟨8, 5⟩) (meth := k8m5) (c := k8c5) (by decide +kernel) rfl rfl rfl (by decide +kernel)
set_option maxRecDepth 65536 in
theorem w_c19 : (Jvm.Cond.code ({ cls := "java/lang/String", name := "checkIndex", desc := "(II)V" } : Jvm.MethodName) jdk_42_method_155_code (2 : Nat) (Option.none : Option Jvm.ClassFile.FieldType)).before args0 about1 = true := code_word (m := ⟨7, 5⟩) (meth := k7m5) (c := k7c5) (by decide +kernel) rfl rfl rfl (by decide +kernel)
set_option maxRecDepth 65536 in
theorem w_c20 : (Jvm.Cond.code ({ cls := "jdk/internal/util/Preconditions", name := "checkIndex", desc := "(IILjava/util/function/BiFunction;)I" } : Jvm.MethodName) jdk_41_method_11_code (3 : Nat) (Option.some Jvm.ClassFile.FieldType.int)).before args0 about1 = true := code_word (m := ⟨10, 1⟩) (meth := k10m1) (c := k10c1) (by decide +kernel) rfl rfl rfl (by decide +kernel)
set_option maxRecDepth 65536 in
theorem w_c21 : (Jvm.Cond.code ({ cls := "com/example/couponforge/couponforge/io/DecimalNumber", name := "isDigit", desc := "(C)Z" } : Jvm.MethodName) prog_33_method_6_code (1 : Nat) (Option.some Jvm.ClassFile.FieldType.boolean)).before args0 about1 = true := code_word (m := ⟨9, 2⟩) (meth := k9m2) (c := k9c2) (by decide +kernel) rfl rfl rfl (by decide +kernel)
set_option maxRecDepth 65536 in
theorem w_c22 : (Jvm.Cond.code ({ cls := "com/example/couponforge/couponforge/io/DecimalNumberWholeNumberPinLaw", name := "part", desc := "([CIII)J" } : Jvm.MethodName) method_4_code (5 : Nat) (Option.some Jvm.ClassFile.FieldType.long)).before args0 about1 = true := code_word (m := ⟨1, 3⟩) (meth := k1m3) (c := k1c3) (by decide +kernel) rfl rfl rfl (by decide +kernel)
set_option maxRecDepth 65536 in
theorem w_c23 : (Jvm.Cond.code ({ cls := "com/example/couponforge/couponforge/io/DecimalNumberWholeNumberPinLaw", name := "pow10", desc := "(I)J" } : Jvm.MethodName) method_5_code (2 : Nat) (Option.some Jvm.ClassFile.FieldType.long)).before args0 about1 = true := code_word (m := ⟨1, 4⟩) (meth := k1m4) (c := k1c4) (by decide +kernel) rfl rfl rfl (by decide +kernel)
set_option maxRecDepth 65536 in
theorem w_c24 : (Jvm.Cond.code ({ cls := "java/lang/StringLatin1", name := "charAt", desc := "([BI)C" } : Jvm.MethodName) jdk_43_method_2_code (2 : Nat) (Option.some Jvm.ClassFile.FieldType.char)).before args0 about1 = true := code_word (m := ⟨11, 1⟩) (meth := k11m1) (c := k11c1) (by decide +kernel) rfl rfl rfl (by decide +kernel)
def codes1 : List Jvm.Cond := [Jvm.Cond.code x code maxLocals ret, Jvm.Cond.code ({ cls := "com/example/couponforge/couponforge/io/DecimalNumberWholeNumberPinLaw", name := "draw", desc := "(IJJIII)C" } : Jvm.MethodName) method_3_code (9 : Nat) (Option.some Jvm.ClassFile.FieldType.char), Jvm.Cond.code ({ cls := "java/lang/String", name := "<init>", desc := "([C)V" } : Jvm.MethodName) jdk_42_method_3_code (2 : Nat) (Option.none : Option Jvm.ClassFile.FieldType), Jvm.Cond.code ({ cls := "java/lang/String", name := "<init>", desc := "([CIILjava/lang/Void;)V" } : Jvm.MethodName) jdk_42_method_149_code (6 : Nat) (Option.none : Option Jvm.ClassFile.FieldType), Jvm.Cond.code ({ cls := "java/lang/Object", name := "<init>", desc := "()V" } : Jvm.MethodName) object_method_1_code (1 : Nat) (Option.none : Option Jvm.ClassFile.FieldType), Jvm.Cond.code ({ cls := "java/lang/StringUTF16", name := "compress", desc := "([CII)[B" } : Jvm.MethodName) jdk_52_method_16_code (6 : Nat) (Option.some (Jvm.ClassFile.FieldType.array Jvm.ClassFile.FieldType.byte)), Jvm.Cond.code ({ cls := "java/lang/StringUTF16", name := "compress", desc := "([CI[BII)I" } : Jvm.MethodName) jdk_52_method_21_code (7 : Nat) (Option.some Jvm.ClassFile.FieldType.int), Jvm.Cond.code ({ cls := "java/lang/StringUTF16", name := "coderFromArrayLen", desc := "([BI)B" } : Jvm.MethodName) jdk_52_method_15_code (2 : Nat) (Option.some Jvm.ClassFile.FieldType.byte), Jvm.Cond.code ({ cls := "com/example/couponforge/couponforge/io/DecimalNumber", name := "wholeNumber", desc := "(Ljava/lang/String;II)I" } : Jvm.MethodName) prog_33_method_5_code (6 : Nat) (Option.some Jvm.ClassFile.FieldType.int), Jvm.Cond.code ({ cls := "java/lang/StringUTF16", name := "toBytes", desc := "([CII)[B" } : Jvm.MethodName) jdk_52_method_14_code (5 : Nat) (Option.some (Jvm.ClassFile.FieldType.array Jvm.ClassFile.FieldType.byte)), Jvm.Cond.code ({ cls := "java/lang/StringUTF16", name := "newBytesFor", desc := "(I)[B" } : Jvm.MethodName) jdk_52_method_2_code (1 : Nat) (Option.some (Jvm.ClassFile.FieldType.array Jvm.ClassFile.FieldType.byte)), Jvm.Cond.code ({ cls := "java/lang/StringUTF16", name := "newBytesLength", desc := "(I)I" } : Jvm.MethodName) jdk_52_method_3_code (1 : Nat) (Option.some Jvm.ClassFile.FieldType.int), Jvm.Cond.code ({ cls := "java/lang/StringUTF16", name := "putChar", desc := "([BII)V" } : Jvm.MethodName) jdk_52_method_4_code (3 : Nat) (Option.none : Option Jvm.ClassFile.FieldType), Jvm.Cond.code ({ cls := "java/lang/StringUTF16", name := "getChar", desc := "([BI)C" } : Jvm.MethodName) jdk_52_method_5_code (2 : Nat) (Option.some Jvm.ClassFile.FieldType.char), Jvm.Cond.code ({ cls := "java/lang/String", name := "charAt", desc := "(I)C" } : Jvm.MethodName) jdk_42_method_56_code (2 : Nat) (Option.some Jvm.ClassFile.FieldType.char), Jvm.Cond.code ({ cls := "java/lang/String", name := "isLatin1", desc := "()Z" } : Jvm.MethodName) jdk_42_method_154_code (1 : Nat) (Option.some Jvm.ClassFile.FieldType.boolean), Jvm.Cond.code ({ cls := "java/lang/StringUTF16", name := "charAt", desc := "([BI)C" } : Jvm.MethodName) jdk_52_method_83_code (2 : Nat) (Option.some Jvm.ClassFile.FieldType.char), Jvm.Cond.code ({ cls := "java/lang/StringUTF16", name := "checkIndex", desc := "(I[B)V" } : Jvm.MethodName) jdk_52_method_91_code (2 : Nat) (Option.none : Option Jvm.ClassFile.FieldType), Jvm.Cond.code ({ cls := "java/lang/StringUTF16", name := "length", desc := "([B)I" } : Jvm.MethodName) jdk_52_method_6_code (1 : Nat) (Option.some Jvm.ClassFile.FieldType.int), Jvm.Cond.code ({ cls := "java/lang/String", name := "checkIndex", desc := "(II)V" } : Jvm.MethodName) jdk_42_method_155_code (2 : Nat) (Option.none : Option Jvm.ClassFile.FieldType), Jvm.Cond.code ({ cls := "jdk/internal/util/Preconditions", name := "checkIndex", desc := "(IILjava/util/function/BiFunction;)I" } : Jvm.MethodName) jdk_41_method_11_code (3 : Nat) (Option.some Jvm.ClassFile.FieldType.int), Jvm.Cond.code ({ cls := "com/example/couponforge/couponforge/io/DecimalNumber", name := "isDigit", desc := "(C)Z" } : Jvm.MethodName) prog_33_method_6_code (1 : Nat) (Option.some Jvm.ClassFile.FieldType.boolean), Jvm.Cond.code ({ cls := "com/example/couponforge/couponforge/io/DecimalNumberWholeNumberPinLaw", name := "part", desc := "([CIII)J" } : Jvm.MethodName) method_4_code (5 : Nat) (Option.some Jvm.ClassFile.FieldType.long), Jvm.Cond.code ({ cls := "com/example/couponforge/couponforge/io/DecimalNumberWholeNumberPinLaw", name := "pow10", desc := "(I)J" } : Jvm.MethodName) method_5_code (2 : Nat) (Option.some Jvm.ClassFile.FieldType.long), Jvm.Cond.code ({ cls := "java/lang/StringLatin1", name := "charAt", desc := "([BI)C" } : Jvm.MethodName) jdk_43_method_2_code (2 : Nat) (Option.some Jvm.ClassFile.FieldType.char)]
set_option maxRecDepth 65536 in
theorem codes_eq : words1.filter isCode = codes1 := rfl
theorem w_codes : ∀ c ∈ words1.filter isCode, c.before args0 about1 = true := by
  rw [codes_eq]
  intro c hc
  simp only [codes1, List.mem_cons, List.not_mem_nil, or_false] at hc
  rcases hc with rfl | rfl | rfl | rfl | rfl | rfl | rfl | rfl | rfl | rfl | rfl | rfl | rfl | rfl | rfl | rfl | rfl | rfl | rfl | rfl | rfl | rfl | rfl | rfl | rfl
  · exact w_c0
  · exact w_c1
  · exact w_c2
  · exact w_c3
  · exact w_c4
  · exact w_c5
  · exact w_c6
  · exact w_c7
  · exact w_c8
  · exact w_c9
  · exact w_c10
  · exact w_c11
  · exact w_c12
  · exact w_c13
  · exact w_c14
  · exact w_c15
  · exact w_c16
  · exact w_c17
  · exact w_c18
  · exact w_c19
  · exact w_c20
  · exact w_c21
  · exact w_c22
  · exact w_c23
  · exact w_c24
set_option maxRecDepth 65536 in
theorem w_t1 : (words1.take 24).all (fun c => isCode c || c.before args0 about1) = true := by decide +kernel
set_option maxRecDepth 65536 in
theorem w_t2 : ((words1.drop 24).take 24).all (fun c => isCode c || c.before args0 about1) = true := by decide +kernel
set_option maxRecDepth 65536 in
theorem w_t3 : (((words1.drop 24).drop 24).take 24).all (fun c => isCode c || c.before args0 about1) = true := by decide +kernel
set_option maxRecDepth 65536 in
theorem w_t4 : ((((words1.drop 24).drop 24).drop 24).take 24).all (fun c => isCode c || c.before args0 about1) = true := by decide +kernel
set_option maxRecDepth 65536 in
theorem w_t5 : ((((words1.drop 24).drop 24).drop 24).drop 24).all (fun c => isCode c || c.before args0 about1) = true := by decide +kernel
theorem w_tables : (allAtoms (Jvm.Cond.code x code maxLocals ret :: tables_1)).before args0 about1 = true := by
  rw [allAtoms_all]
  show words1.all (fun c => c.before args0 about1) = true
  refine all_split ?_ w_codes
  rw [← List.take_append_drop 24 words1, List.all_append, w_t1, ← List.take_append_drop 24 (words1.drop 24), List.all_append, w_t2, ← List.take_append_drop 24 ((words1.drop 24).drop 24), List.all_append, w_t3, ← List.take_append_drop 24 (((words1.drop 24).drop 24).drop 24), List.all_append, w_t4, w_t5]
  rfl
set_option maxRecDepth 65536 in
theorem w_rest : rest_1_c.before args0 about1 = true := by decide +kernel
set_option maxRecDepth 65536 in
theorem w_case : (Jvm.Cond.and given_1 narrow_1).before args0 about1 = true := by decide +kernel
theorem w_applies : (headSpec (Jvm.Cond.code x code maxLocals ret :: tables_1) room_1).applies x e0.platform about1 = true :=
  (Spec.applies_iff w_frames).mpr ⟨w_running, w_runnable, w_alone, w_named, w_hears, w_ripe, w_room, w_tables⟩
theorem atStart : AtStart classFile x code maxLocals ret World_1 tables_1 room_1 Calls_1 rest_1 Pre_1 launch0 p0 e0 about1 theMethod args0 below0 :=
  ⟨lists_1, trivial, launch0.admits_env _ _ _, launch0.least_env, fairChoices_fair.cas, fairChoices_fair.clock, w_frames, w_args, w_heap, w_applies, trivial, w_rest, w_case⟩
end start1
theorem witness_1 : WitnessClaimed_1 := ⟨start1.p0, start1.e0, start1.about1, start1.theMethod, start1.args0, start1.below0, start1.atStart⟩
end Jvm.Pilot.@@N@@
