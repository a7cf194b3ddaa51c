import JvmDerived
import JvmDerived.Pilot.@@N@@Statement
import JvmDerived.Pilot.@@N@@Code
set_option linter.unusedVariables false
set_option linter.unusedSimpArgs false
namespace Jvm.RoadKit
open Sem ClassFile Op Lib Jvm.Stand Jvm.Free Jvm.LawKit
section Own
variable {p : Program} {l : Launch} {e : Env} {R : Room} {s : State} {m : MethodId} {args : Array Value} {below : List Frame} {meth : Method} {c : Code} {T T' : State} {locs : List Loc} {cells slots : Nat} {Z : State} {a0 : Array Value} {h : Heap} {Φ : State → Prop} {g g' : JFrame} {Q : Option Value → Heap → List Loc → Prop} {kc ks pc : Nat} {Ls : Array Slot} {st rest : List Value}
/-- from the frame g of T the run comes to a state of which Φ holds -/
def own_Go (p : Program) (e : Env) (below : List Frame) (Φ : State → Prop) (T : State) (g : JFrame) : Prop := ∃ t, Steps p.tables e below (T.setTop g) t ∧ Φ t
theorem own_k (st : ∀ t, Steps p.tables e below (T'.setTop g') t → Steps p.tables e below (T.setTop g) t) (k : own_Go p e below Φ T' g') : own_Go p e below Φ T g := by
  obtain ⟨t, h1, h2⟩ := k
  exact ⟨t, st t h1, h2⟩
theorem own_s (st : Steps p.tables e below (T.setTop g) (T'.setTop g')) (k : own_Go p e below Φ T' g') : own_Go p e below Φ T g := by
  obtain ⟨t, h1, h2⟩ := k
  exact ⟨t, st.trans h1, h2⟩
def own_Fin (s : State) (below : List Frame) (Q : Option Value → Heap → List Loc → Prop) (kc ks : Nat) (t : State) : Prop := t.status = .running ∧ ∃ v L, Ended t below (.returned v) ∧ Q v t.heap L ∧ FrameEnd s (.returned v) t L kc ks
def own_Met (l : Launch) (Z : State) (y : MethodName) (bytes : ByteArray) (maxL : Nat) (ret : Option FieldType) (rm : Room) (av : Array Value) (h : Heap) (Q : Option Value → Heap → List Loc → Prop) : Prop :=
  ∀ ws : List Jvm.Cond, MetFree l y (head1 (Cond.code y bytes maxL ret :: ws) rm) (fun a U => a = av ∧ Z.Warmed39 U.vm ∧ U.heap = h) (fun _ _ _ _ _ => True) (fun _ U o U' => ∃ v L, o = .returned v ∧ Q v U'.heap L ∧ FrameEnd U o U' L rm.cells rm.slots)
theorem own_met {y : MethodName} {bytes : ByteArray} {maxL : Nat} {ret : Option FieldType} {rm : Room} {av : Array Value} (hpl : plainFor y = true)
    (body : ∀ (p : Program) (e : Env) (s : State) (m : MethodId) (below : List Frame) (meth : Method) (c : Code) (s₁ : State) (Φ : State → Prop), (∀ t, own_Fin s below Q rm.cells rm.slots t → Φ t) → Stand p l e rm s m av below meth c s₁ [] 0 0 → p.tables.exec = Jvm.exec → c.code = bytes → c.maxLocals = maxL → Z.Warmed39 s.vm → s.vm.findClass y.cls = some m.cls → meth.name = y.name → meth.sig.returnType = ret → meth.locks = false → s₁.heap = h →
      own_Go p e below Φ s₁ (entryFrame m av maxL)) : own_Met l Z y bytes maxL ret rm av h Q := by
  intro ws
  refine MetFree.of_bodySF hpl hisR ?_
  intro p e s m args below meth c s₁ Bd hml hP hK
  obtain ⟨rfl, hZ, hh⟩ := hP
  obtain ⟨t, h1, hrun, v, L, h2, h3, h4⟩ := body p e s m below meth c s₁ (own_Fin s below Q rm.cells rm.slots) (fun _ q => q) (Stand.of_body Bd) Bd.exec Bd.bytes hml hZ (findClass_of_methodNamed Bd.named) (name_of_methodNamed Bd.named Bd.method).1 Bd.returns Bd.notSynchronized (by rw [← hh, Bd.state]; rfl)
  exact ⟨t, _, h1, hrun, h2, v, L, rfl, h3, h4⟩
theorem own_fin {v : Option Value} (X : Stand p l e R s m args below meth c T locs cells slots) (hv : meth.sig.returnType = none → v = none) (hlk : meth.locks = false)
    (hs : ∀ fs, (∀ (f : JFrame) (acts : List Action), f.method = m → f.locked = none → f.entered = [] → (doReturn e (T.setTop f) acts v).1 = T.setFrames fs) → Steps p.tables e below (T.setTop g) (T.setFrames fs))
    (hF : ∀ t, own_Fin s below Q kc ks t → Φ t) (hQ : Q v T.heap locs) (hk : cells ≤ kc) (hn : slots ≤ ks) : own_Go p e below Φ T g := by
  obtain ⟨fs, hr, hrun, hended, hW, hsame⟩ := X.leave (v := v) hv hlk
  exact ⟨T.setFrames fs, hs fs hr, hF _ ⟨hrun, v, locs, hended, hQ, ⟨_, rfl⟩, hW, hsame.mono hk hn⟩⟩
theorem own_retI (X : Stand p l e R s m args below meth c T locs cells slots) (hx : p.tables.exec = Jvm.exec) {z : Int32} (hret : meth.sig.returnType = some .int) (hlk : meth.locks = false) (hd : decode c.code pc = .ok (.ireturn, 1)) (hF : ∀ t, own_Fin s below Q kc ks t → Φ t) (hQ : Q (some (.int z)) T.heap locs) (hk : cells ≤ kc) (hn : slots ≤ ks) :
    own_Go p e below Φ T (mkF m pc Ls (.int z :: rest)) :=
  own_fin X (fun q => by rw [hret] at q; cases q) hlk (fun fs hr => retOut X hx hret (narrow_int z) (Or.inl ⟨rfl, Or.inl rfl, z, rfl⟩) hd hr) hF hQ hk hn
where narrow_int (z : Int32) : narrow .int (.int z) = .int z := rfl
theorem own_retN (X : Stand p l e R s m args below meth c T locs cells slots) (hx : p.tables.exec = Jvm.exec) {z : Int32} {t : FieldType} (hret : meth.sig.returnType = some t) (ht : t = .boolean ∨ t = .byte ∨ t = .char ∨ t = .short) (hlk : meth.locks = false) (hd : decode c.code pc = .ok (.ireturn, 1)) (hF : ∀ t, own_Fin s below Q kc ks t → Φ t) (hQ : Q (some (.int (nar t z))) T.heap locs) (hk : cells ≤ kc) (hn : slots ≤ ks) :
    own_Go p e below Φ T (mkF m pc Ls (.int z :: rest)) :=
  own_fin X (fun q => by rw [hret] at q; cases q) hlk (fun fs hr => retN X hx hret ht hd hr) hF hQ hk hn
theorem own_retA (X : Stand p l e R s m args below meth c T locs cells slots) (hx : p.tables.exec = Jvm.exec) {w : Value} {t : FieldType} (hret : meth.sig.returnType = some t) (ht : t.isReference = true) (hw : w.isRef = true) (hlk : meth.locks = false) (hd : decode c.code pc = .ok (.areturn, 1)) (hF : ∀ t, own_Fin s below Q kc ks t → Φ t) (hQ : Q (some w) T.heap locs) (hk : cells ≤ kc) (hn : slots ≤ ks) :
    own_Go p e below Φ T (mkF m pc Ls (w :: rest)) :=
  own_fin X (fun q => by rw [hret] at q; cases q) hlk (fun fs hr => retOut X hx hret (by cases t <;> cases w <;> first | rfl | cases ht | cases hw) (Or.inr (Or.inr (Or.inr (Or.inr ⟨rfl, ht, hw⟩)))) hd hr) hF hQ hk hn
theorem own_retJ (X : Stand p l e R s m args below meth c T locs cells slots) (hx : p.tables.exec = Jvm.exec) {z : Int64} (hret : meth.sig.returnType = some .long) (hlk : meth.locks = false) (hd : decode c.code pc = .ok (.lreturn, 1)) (hF : ∀ t, own_Fin s below Q kc ks t → Φ t) (hQ : Q (some (.long z)) T.heap locs) (hk : cells ≤ kc) (hn : slots ≤ ks) :
    own_Go p e below Φ T (mkF m pc Ls (.long z :: rest)) :=
  own_fin X (fun q => by rw [hret] at q; cases q) hlk (fun fs hr => retOut X hx hret rfl (Or.inr (Or.inl ⟨rfl, rfl, z, rfl⟩)) hd hr) hF hQ hk hn
theorem own_ret0 (X : Stand p l e R s m args below meth c T locs cells slots) (hx : p.tables.exec = Jvm.exec) (hret : meth.sig.returnType = none) (hlk : meth.locks = false) (hd : decode c.code pc = .ok (.return_, 1)) (hF : ∀ t, own_Fin s below Q kc ks t → Φ t) (hQ : Q none T.heap locs) (hk : cells ≤ kc) (hn : slots ≤ ks) :
    own_Go p e below Φ T (mkF m pc Ls []) :=
  own_fin X (fun _ => rfl) hlk (fun fs hr => X.returnOut hx hret hd hr) hF hQ hk hn
theorem own_back {y : MethodName} {bytes : ByteArray} {maxL : Nat} {ret : Option FieldType} {rm : Room} {len W : Nat} {av : Array Value} (hM : own_Met l Z y bytes maxL ret rm av h Q)
    (hZ : Z.Warmed39 s.vm) (wc : (Cond.code y bytes maxL ret).before a0 Z = true) (wz : (Cond.initialized y.cls).before a0 Z = true) (hf : rm.frames + 1 ≤ R.frames) (hl : W + (maxL + 11) + rm.locals ≤ R.locals) :
    Back l R p e below s args y len W (fun A a => a = av ∧ A.U.heap = h ∧ A.cells + rm.cells ≤ R.cells ∧ A.slots + rm.slots ≤ R.slots)
      (fun A _ v B => ∃ L, Q v B.U.heap L ∧ B.locs = A.locs ++ L ∧ B.cells = A.cells + rm.cells ∧ B.slots = A.slots + rm.slots) :=
  backOf (Q := Q) (hM []) hZ wc wz hf hl
theorem own_callS (X : Stand p l e R s m args below meth c T locs cells slots) (hx : p.tables.exec = Jvm.exec) (hZ : Z.Warmed39 s.vm) {own : String} {index : Nat} {y : MethodName} {bytes : ByteArray} {maxL : Nat} {ret : Option FieldType} (hown : s.vm.findClass own = some m.cls)
    (w1 : (Cond.methodLink own index y).before a0 Z = true) (w2 : (Cond.static y).before a0 Z = true) (w3 : (Cond.initialized y.cls).before a0 Z = true) (w4 : (Cond.code y bytes maxL ret).before a0 Z = true) (hy : y.cls ≠ "java/lang/invoke/MethodHandle" ∧ y.cls ≠ "java/lang/invoke/VarHandle")
    {rm : Room} {al : List Value} (hM : own_Met l Z y bytes maxL ret rm al.toArray h Q) (W : Nat) (hf : rm.frames + 1 ≤ R.frames) (hl : W + (maxL + 11) + rm.locals ≤ R.locals) (eT : T.heap = h) (hc : cells + rm.cells ≤ R.cells) (hn : slots + rm.slots ≤ R.slots)
    (hsz : Ls.size = c.maxLocals) (hlen : ∀ sig, parseMethodDescriptor y.desc = some sig → al.length = sig.parameters.length) (hst : st = al.reverse ++ rest) (hW : 2 * 0 + (rest.map fun v => v.category).sum ≤ W) (hd : decode c.code pc = .ok (.invokestatic index, 3))
    (k : ∀ (v : Option Value) (T' : State) (L : List Loc), Stand p l e R s m args below meth c T' (locs ++ L) (cells + rm.cells) (slots + rm.slots) → Q v T'.heap L → own_Go p e below Φ T' (mkF m (pc + 3) Ls (v.toList ++ rest))) : own_Go p e below Φ T (mkF m pc Ls st) := by
  obtain ⟨v, vm₁, ⟨T', L', k', n'⟩, -, X', ⟨L, hQ, l1, l2, l3⟩, st'⟩ := Jvm.LawKit.callS X hx (y := y) hown (mvT hZ w1) (mvT hZ w2) (mvT hZ w3) (mvT hZ w4) hy (own_back (W := W) hM hZ w4 w3 hf hl) (g := mkF m pc Ls st) rfl hsz (argsL := al) (rest := rest) hlen hst hW hd (fun _ _ => ⟨rfl, eT, hc, hn⟩)
  dsimp only [Pt.U, Pt.locs, Pt.cells, Pt.slots] at X' l1 l2 l3 st' hQ
  subst l1 l2 l3
  exact own_k st' (k v T' L X' hQ)
theorem own_callV (X : Stand p l e R s m args below meth c T locs cells slots) (hx : p.tables.exec = Jvm.exec) (hZ : Z.Warmed39 s.vm) {own C : String} {index : Nat} {y z : MethodName} {bytes : ByteArray} {maxL : Nat} {ret : Option FieldType} (hown : s.vm.findClass own = some m.cls)
    (w1 : (Cond.methodLink own index y).before a0 Z = true) (w2 : (Cond.declares y).before a0 Z = true) (hnf : NotFace s y) (w3 : (Cond.selects C y z).before a0 Z = true) (w4 : (Cond.instanceMethod z).before a0 Z = true) (w5 : (Cond.code z bytes maxL ret).before a0 Z = true) (w6 : (Cond.initialized z.cls).before a0 Z = true) (hy : y.cls ≠ "java/lang/invoke/MethodHandle" ∧ y.cls ≠ "java/lang/invoke/VarHandle")
    {rm : Room} {al : List Value} {b : Addr} (E : Exa Z h b C) (hM : own_Met l Z z bytes maxL ret rm (.ref b :: al).toArray h Q) (W : Nat) (hf : rm.frames + 1 ≤ R.frames) (hl : W + (maxL + 11) + rm.locals ≤ R.locals) (eT : T.heap = h) (hc : cells + rm.cells ≤ R.cells) (hn : slots + rm.slots ≤ R.slots)
    (hsz : Ls.size = c.maxLocals) (hlen : ∀ sig, parseMethodDescriptor y.desc = some sig → al.length = sig.parameters.length) (hst : st = al.reverse ++ .ref b :: rest) (hW : 2 * 0 + (rest.map fun v => v.category).sum ≤ W) (hd : decode c.code pc = .ok (.invokevirtual index, 3))
    (k : ∀ (v : Option Value) (T' : State) (L : List Loc), Stand p l e R s m args below meth c T' (locs ++ L) (cells + rm.cells) (slots + rm.slots) → Q v T'.heap L → own_Go p e below Φ T' (mkF m (pc + 3) Ls (v.toList ++ rest))) : own_Go p e below Φ T (mkF m pc Ls st) := by
  obtain ⟨cB, kB, q1, q2, q3⟩ := isOf hZ eT E
  obtain ⟨v, vm₁, ⟨T', L', k', n'⟩, -, X', ⟨L, hQ, l1, l2, l3⟩, st'⟩ := X.virtualBack hx (y := y) (z := z) hown (mvT hZ w1) (mvT hZ w2) hnf (mvT hZ w3) (mvT hZ w4) hy (own_back (W := W) hM hZ w5 w6 hf hl) q1 q3 (g := mkF m pc Ls st) rfl hsz (Steps.refl _) (argsL := al) (rest := rest) hlen hst hW hd (fun _ _ => ⟨rfl, eT, hc, hn⟩)
  dsimp only [Pt.U, Pt.locs, Pt.cells, Pt.slots] at X' l1 l2 l3 st' hQ
  subst l1 l2 l3
  exact own_s st' (k v T' L X' hQ)
theorem own_callU (X : Stand p l e R s m args below meth c T locs cells slots) (hx : p.tables.exec = Jvm.exec) (hZ : Z.Warmed39 s.vm) {own C owner : String} {index : Nat} {y z : MethodName} {bytes : ByteArray} {maxL : Nat} {ret : Option FieldType} (hown : s.vm.findClass own = some m.cls)
    (w1 : (Cond.methodLink own index y).before a0 Z = true) (w2 : (Cond.sameMethod y.cls owner y.name y.desc).before a0 Z = true) (w2' : (Cond.declares ⟨owner, y.name, y.desc⟩).before a0 Z = true) (w3 : (Cond.selects C y z).before a0 Z = true) (w4 : (Cond.instanceMethod z).before a0 Z = true) (w5 : (Cond.code z bytes maxL ret).before a0 Z = true) (w6 : (Cond.initialized z.cls).before a0 Z = true) (hy : owner ≠ "java/lang/invoke/MethodHandle" ∧ owner ≠ "java/lang/invoke/VarHandle")
    {rm : Room} {al : List Value} {b : Addr} (E : Exa Z h b C) (hM : own_Met l Z z bytes maxL ret rm (.ref b :: al).toArray h Q) (W : Nat) (hf : rm.frames + 1 ≤ R.frames) (hl : W + (maxL + 11) + rm.locals ≤ R.locals) (eT : T.heap = h) (hc : cells + rm.cells ≤ R.cells) (hn : slots + rm.slots ≤ R.slots)
    (hsz : Ls.size = c.maxLocals) (hlen : ∀ sig, parseMethodDescriptor y.desc = some sig → al.length = sig.parameters.length) (hst : st = al.reverse ++ .ref b :: rest) (hW : 2 * 0 + (rest.map fun v => v.category).sum ≤ W) (hd : decode c.code pc = .ok (.invokevirtual index, 3))
    (k : ∀ (v : Option Value) (T' : State) (L : List Loc), Stand p l e R s m args below meth c T' (locs ++ L) (cells + rm.cells) (slots + rm.slots) → Q v T'.heap L → own_Go p e below Φ T' (mkF m (pc + 3) Ls (v.toList ++ rest))) : own_Go p e below Φ T (mkF m pc Ls st) := by
  obtain ⟨cB, kB, q1, q2, q3⟩ := isOf hZ eT E
  obtain ⟨v, vm₁, ⟨T', L', k', n'⟩, -, X', ⟨L, hQ, l1, l2, l3⟩, st'⟩ := X.virtualBackUp hx (x := y) (y := z) hown (mvT hZ w1) (mvT hZ w2) (mvT hZ w2') hy (mvT hZ w3) (mvT hZ w4) (own_back (W := W) hM hZ w5 w6 hf hl) q1 q3 (g := mkF m pc Ls st) rfl hsz (Steps.refl _) (argsL := al) (rest := rest) hlen hst hW hd (fun _ _ => ⟨rfl, eT, hc, hn⟩)
  dsimp only [Pt.U, Pt.locs, Pt.cells, Pt.slots] at X' l1 l2 l3 st' hQ
  subst l1 l2 l3
  exact own_s st' (k v T' L X' hQ)
theorem own_callN (X : Stand p l e R s m args below meth c T locs cells slots) (hx : p.tables.exec = Jvm.exec) (hZ : Z.Warmed39 s.vm) {own : String} {index : Nat} {y : MethodName} {bytes : ByteArray} {maxL : Nat} (hy1 : y.name = "<init>") (hown : s.vm.findClass own = some m.cls)
    (w1 : (Cond.methodLink own index y).before a0 Z = true) (w2 : (Cond.instanceMethod y).before a0 Z = true) (w3 : (Cond.code y bytes maxL none).before a0 Z = true) (w4 : (Cond.initialized y.cls).before a0 Z = true) (hy : y.cls ≠ "java/lang/invoke/MethodHandle" ∧ y.cls ≠ "java/lang/invoke/VarHandle")
    {rm : Room} {al : List Value} {b : Addr} (hM : own_Met l Z y bytes maxL none rm (.ref b :: al).toArray h Q) (W : Nat) (hf : rm.frames + 1 ≤ R.frames) (hl : W + (maxL + 11) + rm.locals ≤ R.locals) (eT : T.heap = h) (hc : cells + rm.cells ≤ R.cells) (hn : slots + rm.slots ≤ R.slots)
    (hsz : Ls.size = c.maxLocals) (hlen : ∀ sig, parseMethodDescriptor y.desc = some sig → al.length = sig.parameters.length) (hst : st = al.reverse ++ .ref b :: rest) (hW : 2 * 0 + (rest.map fun v => v.category).sum ≤ W) (hd : decode c.code pc = .ok (.invokespecial index, 3))
    (k : ∀ (v : Option Value) (T' : State) (L : List Loc), Stand p l e R s m args below meth c T' (locs ++ L) (cells + rm.cells) (slots + rm.slots) → Q v T'.heap L → own_Go p e below Φ T' (mkF m (pc + 3) Ls (v.toList ++ rest))) : own_Go p e below Φ T (mkF m pc Ls st) := by
  obtain ⟨v, vm₁, ⟨T', L', k', n'⟩, -, X', ⟨L, hQ, l1, l2, l3⟩, st'⟩ := X.specialBack hx (y := y) hy1 hown (mvT hZ w1) (mvT hZ w2) (mvT hZ w3) hy (own_back (W := W) hM hZ w3 w4 hf hl) (g := mkF m pc Ls st) rfl hsz (Steps.refl _) (a := b) (argsL := al) (rest := rest) hlen hst hW hd (fun _ _ => ⟨rfl, eT, hc, hn⟩)
  dsimp only [Pt.U, Pt.locs, Pt.cells, Pt.slots] at X' l1 l2 l3 st' hQ
  subst l1 l2 l3
  exact own_s st' (k v T' L X' hQ)
theorem own_iaload (X : Stand p l e R s m args below meth c T locs cells slots) (hx : p.tables.exec = Jvm.exec) (hZ : Z.Warmed39 s.vm) (eT : T.heap = h) {a : Addr} {k : ClassId} {n : Int32} {vs : List Value} {d : Value} (V : Arv Z h a k .int n vs d) {j : Int32} (hj : ¬ j < 0 ∧ j < n) {v : Value} (hv : vs.getD j.toNatClampNeg d = v) (hd : decode c.code pc = .ok (.iaload, 1)) (kk : own_Go p e below Φ T (mkF m (pc + 1) Ls (v :: rest))) : own_Go p e below Φ T (mkF m pc Ls (.int j :: .ref a :: rest)) := by
  obtain ⟨cl, A, -, S, N, H, -⟩ := V
  have hin := inb_of S hj
  exact own_k (fun t q => X.iaload hx (j := j) (v := v) (by rw [eT]; exact A.1) (State.isArrayOf_alike hZ.alike A.2.1) A.2.2 hin (H.at hin hv) (g := mkF m pc Ls (.int j :: .ref a :: rest)) rfl rfl hd t q) kk
theorem own_saload (X : Stand p l e R s m args below meth c T locs cells slots) (hx : p.tables.exec = Jvm.exec) (hZ : Z.Warmed39 s.vm) (eT : T.heap = h) {a : Addr} {k : ClassId} {n : Int32} {vs : List Value} {d : Value} (V : Arv Z h a k .short n vs d) {j : Int32} (hj : ¬ j < 0 ∧ j < n) {v : Value} (hv : vs.getD j.toNatClampNeg d = v) (hd : decode c.code pc = .ok (.saload, 1)) (kk : own_Go p e below Φ T (mkF m (pc + 1) Ls (v :: rest))) : own_Go p e below Φ T (mkF m pc Ls (.int j :: .ref a :: rest)) := by
  obtain ⟨cl, A, -, S, N, H, -⟩ := V
  have hin := inb_of S hj
  exact own_k (fun t q => X.saload hx (j := j) (v := v) (by rw [eT]; exact A.1) (State.isArrayOf_alike hZ.alike A.2.1) A.2.2 hin (H.at hin hv) (g := mkF m pc Ls (.int j :: .ref a :: rest)) rfl rfl hd t q) kk
theorem own_caload (X : Stand p l e R s m args below meth c T locs cells slots) (hx : p.tables.exec = Jvm.exec) (hZ : Z.Warmed39 s.vm) (eT : T.heap = h) {a : Addr} {k : ClassId} {n : Int32} {vs : List Value} {d : Value} (V : Arv Z h a k .char n vs d) {j : Int32} (hj : ¬ j < 0 ∧ j < n) {v : Value} (hv : vs.getD j.toNatClampNeg d = v) (hd : decode c.code pc = .ok (.caload, 1)) (kk : own_Go p e below Φ T (mkF m (pc + 1) Ls (v :: rest))) : own_Go p e below Φ T (mkF m pc Ls (.int j :: .ref a :: rest)) := by
  obtain ⟨cl, A, -, S, N, H, -⟩ := V
  have hin := inb_of S hj
  exact own_k (fun t q => X.caload hx (j := j) (v := v) (by rw [eT]; exact A.1) (State.isArrayOf_alike hZ.alike A.2.1) A.2.2 hin (H.at hin hv) (g := mkF m pc Ls (.int j :: .ref a :: rest)) rfl rfl hd t q) kk
theorem own_laload (X : Stand p l e R s m args below meth c T locs cells slots) (hx : p.tables.exec = Jvm.exec) (hZ : Z.Warmed39 s.vm) (eT : T.heap = h) {a : Addr} {k : ClassId} {n : Int32} {vs : List Value} {d : Value} (V : Arv Z h a k .long n vs d) {j : Int32} (hj : ¬ j < 0 ∧ j < n) {v : Value} (hv : vs.getD j.toNatClampNeg d = v) (hd : decode c.code pc = .ok (.laload, 1)) (kk : own_Go p e below Φ T (mkF m (pc + 1) Ls (v :: rest))) : own_Go p e below Φ T (mkF m pc Ls (.int j :: .ref a :: rest)) := by
  obtain ⟨cl, A, -, S, N, H, -⟩ := V
  have hin := inb_of S hj
  exact own_k (fun t q => X.laload hx (j := j) (v := v) (by rw [eT]; exact A.1) (State.isArrayOf_alike hZ.alike A.2.1) A.2.2 hin (H.at hin hv) (g := mkF m pc Ls (.int j :: .ref a :: rest)) rfl rfl hd t q) kk
theorem own_baload (X : Stand p l e R s m args below meth c T locs cells slots) (hx : p.tables.exec = Jvm.exec) (hZ : Z.Warmed39 s.vm) (eT : T.heap = h) {a : Addr} {k : ClassId} {n : Int32} {vs : List Value} {d : Value} (V : Arv Z h a k .byte n vs d) {j : Int32} (hj : ¬ j < 0 ∧ j < n) {v : Value} (hv : vs.getD j.toNatClampNeg d = v) (hd : decode c.code pc = .ok (.baload, 1)) (kk : own_Go p e below Φ T (mkF m (pc + 1) Ls (v :: rest))) : own_Go p e below Φ T (mkF m pc Ls (.int j :: .ref a :: rest)) := by
  obtain ⟨cl, A, -, S, N, H, -⟩ := V
  have hin := inb_of S hj
  exact own_k (fun t q => X.baloadBytes hx (j := j) (v := v) (by rw [eT]; exact A.1) (State.isArrayOf_alike hZ.alike A.2.1) A.2.2 hin (H.at hin hv) (g := mkF m pc Ls (.int j :: .ref a :: rest)) rfl rfl hd t q) kk
theorem own_aaload (X : Stand p l e R s m args below meth c T locs cells slots) (hx : p.tables.exec = Jvm.exec) (hZ : Z.Warmed39 s.vm) (eT : T.heap = h) {a : Addr} {k : ClassId} {n : Int32} {vs : List Value} {d : Value} {ty : FieldType} (V : Arv Z h a k ty n vs d) (ht : ty.isReference = true) {j : Int32} (hj : ¬ j < 0 ∧ j < n) {v : Value} (hv : vs.getD j.toNatClampNeg d = v) (hd : decode c.code pc = .ok (.aaload, 1)) (kk : own_Go p e below Φ T (mkF m (pc + 1) Ls (v :: rest))) : own_Go p e below Φ T (mkF m pc Ls (.int j :: .ref a :: rest)) := by
  obtain ⟨cl, A, -, S, N, H, -⟩ := V
  have hin := inb_of S hj
  exact own_k (fun t q => X.aaload hx (j := j) (v := v) (by rw [eT]; exact A.1) (State.isArrayOf_alike hZ.alike A.2.1) ht A.2.2 hin (H.at hin hv) (g := mkF m pc Ls (.int j :: .ref a :: rest)) rfl rfl hd t q) kk
theorem own_len (X : Stand p l e R s m args below meth c T locs cells slots) (hx : p.tables.exec = Jvm.exec) (hZ : Z.Warmed39 s.vm) (eT : T.heap = h) {a : Addr} {k : ClassId} {n : Int32} {vs : List Value} {d : Value} {ty : FieldType} (V : Arv Z h a k ty n vs d) (hd : decode c.code pc = .ok (.arraylength, 1)) (kk : own_Go p e below Φ T (mkF m (pc + 1) Ls (.int n :: rest))) : own_Go p e below Φ T (mkF m pc Ls (.ref a :: rest)) := by
  obtain ⟨cl, A, -, S, N, H, -⟩ := V
  refine own_k (fun t q => X.arraylength hx (by rw [eT]; exact A.1) (State.isArrayOf_alike hZ.alike A.2.1) (g := mkF m pc Ls (.ref a :: rest)) rfl rfl hd t q) ?_
  rw [len_of S N]
  exact kk
theorem own_iastore (X : Stand p l e R s m args below meth c T locs cells slots) (hx : p.tables.exec = Jvm.exec) (hZ : Z.Warmed39 s.vm) (eT : T.heap = h) {a : Addr} {k : ClassId} {n : Int32} {vs : List Value} {d : Value} (V : Arv Z h a k .int n vs d) {j : Int32} {x : Int32} (hj : ¬ j < 0 ∧ j < n) (i : Nat) (hi : j.toNatClampNeg = i) (hl : i < vs.length) (hd : decode c.code pc = .ok (.iastore, 1)) :
    ∃ T' h', Stand p l e R s m args below meth c T' (locs ++ [⟨a, j.toNatClampNeg⟩]) cells slots ∧ T'.heap = h' ∧ Wr h h' a j.toNatClampNeg (.int x) ∧ Arv Z h' a k .int n (vs.set i (.int x)) d ∧ ∀ t, Steps p.tables e below (T'.setTop (mkF m (pc + 1) Ls rest)) t → Steps p.tables e below (T.setTop (mkF m pc Ls ((.int x) :: .int j :: .ref a :: rest))) t := by
  obtain ⟨cl, A, q, S, N, H, G⟩ := V
  have hin := inb_of S hj
  obtain ⟨T', h', X', e', W, st'⟩ := stI X hx hZ eT A (j := j) (x := x) hin (g := mkF m pc Ls ((.int x) :: .int j :: .ref a :: rest)) rfl rfl hd
  exact ⟨T', h', X', e', W, Arv.set A q S N H G rfl W i hi hl, st'⟩
theorem own_lastore (X : Stand p l e R s m args below meth c T locs cells slots) (hx : p.tables.exec = Jvm.exec) (hZ : Z.Warmed39 s.vm) (eT : T.heap = h) {a : Addr} {k : ClassId} {n : Int32} {vs : List Value} {d : Value} (V : Arv Z h a k .long n vs d) {j : Int32} {x : Int64} (hj : ¬ j < 0 ∧ j < n) (i : Nat) (hi : j.toNatClampNeg = i) (hl : i < vs.length) (hd : decode c.code pc = .ok (.lastore, 1)) :
    ∃ T' h', Stand p l e R s m args below meth c T' (locs ++ [⟨a, j.toNatClampNeg⟩]) cells slots ∧ T'.heap = h' ∧ Wr h h' a j.toNatClampNeg (.long x) ∧ Arv Z h' a k .long n (vs.set i (.long x)) d ∧ ∀ t, Steps p.tables e below (T'.setTop (mkF m (pc + 1) Ls rest)) t → Steps p.tables e below (T.setTop (mkF m pc Ls ((.long x) :: .int j :: .ref a :: rest))) t := by
  obtain ⟨cl, A, q, S, N, H, G⟩ := V
  have hin := inb_of S hj
  obtain ⟨T', h', X', e', W, st'⟩ := stJ X hx hZ eT A (j := j) (x := x) hin (g := mkF m pc Ls ((.long x) :: .int j :: .ref a :: rest)) rfl rfl hd
  exact ⟨T', h', X', e', W, Arv.set A q S N H G rfl W i hi hl, st'⟩
theorem own_castore (X : Stand p l e R s m args below meth c T locs cells slots) (hx : p.tables.exec = Jvm.exec) (hZ : Z.Warmed39 s.vm) (eT : T.heap = h) {a : Addr} {k : ClassId} {n : Int32} {vs : List Value} {d : Value} (V : Arv Z h a k .char n vs d) {j : Int32} {x : Int32} (hj : ¬ j < 0 ∧ j < n) (i : Nat) (hi : j.toNatClampNeg = i) (hl : i < vs.length) (hd : decode c.code pc = .ok (.castore, 1)) :
    ∃ T' h', Stand p l e R s m args below meth c T' (locs ++ [⟨a, j.toNatClampNeg⟩]) cells slots ∧ T'.heap = h' ∧ Wr h h' a j.toNatClampNeg (.int (nar .char x)) ∧ Arv Z h' a k .char n (vs.set i (.int (nar .char x))) d ∧ ∀ t, Steps p.tables e below (T'.setTop (mkF m (pc + 1) Ls rest)) t → Steps p.tables e below (T.setTop (mkF m pc Ls ((.int x) :: .int j :: .ref a :: rest))) t := by
  obtain ⟨cl, A, q, S, N, H, G⟩ := V
  have hin := inb_of S hj
  obtain ⟨T', h', X', e', W, st'⟩ := stC X hx hZ eT A (j := j) (x := x) hin (g := mkF m pc Ls ((.int x) :: .int j :: .ref a :: rest)) rfl rfl hd
  exact ⟨T', h', X', e', W, Arv.set A q S N H G (fits_nar_char x) W i hi hl, st'⟩
theorem own_sastore (X : Stand p l e R s m args below meth c T locs cells slots) (hx : p.tables.exec = Jvm.exec) (hZ : Z.Warmed39 s.vm) (eT : T.heap = h) {a : Addr} {k : ClassId} {n : Int32} {vs : List Value} {d : Value} (V : Arv Z h a k .short n vs d) {j : Int32} {x : Int32} (hj : ¬ j < 0 ∧ j < n) (i : Nat) (hi : j.toNatClampNeg = i) (hl : i < vs.length) (hd : decode c.code pc = .ok (.sastore, 1)) :
    ∃ T' h', Stand p l e R s m args below meth c T' (locs ++ [⟨a, j.toNatClampNeg⟩]) cells slots ∧ T'.heap = h' ∧ Wr h h' a j.toNatClampNeg (.int (nar .short x)) ∧ Arv Z h' a k .short n (vs.set i (.int (nar .short x))) d ∧ ∀ t, Steps p.tables e below (T'.setTop (mkF m (pc + 1) Ls rest)) t → Steps p.tables e below (T.setTop (mkF m pc Ls ((.int x) :: .int j :: .ref a :: rest))) t := by
  obtain ⟨cl, A, q, S, N, H, G⟩ := V
  have hin := inb_of S hj
  obtain ⟨T', h', X', e', W, st'⟩ := stS X hx hZ eT A (j := j) (x := x) hin (g := mkF m pc Ls ((.int x) :: .int j :: .ref a :: rest)) rfl rfl hd
  exact ⟨T', h', X', e', W, Arv.set A q S N H G (fits_nar_short x) W i hi hl, st'⟩
theorem own_bastore (X : Stand p l e R s m args below meth c T locs cells slots) (hx : p.tables.exec = Jvm.exec) (hZ : Z.Warmed39 s.vm) (eT : T.heap = h) {a : Addr} {k : ClassId} {n : Int32} {vs : List Value} {d : Value} (V : Arv Z h a k .byte n vs d) {j : Int32} {x : Int32} (hj : ¬ j < 0 ∧ j < n) (i : Nat) (hi : j.toNatClampNeg = i) (hl : i < vs.length) (hd : decode c.code pc = .ok (.bastore, 1)) :
    ∃ T' h', Stand p l e R s m args below meth c T' (locs ++ [⟨a, j.toNatClampNeg⟩]) cells slots ∧ T'.heap = h' ∧ Wr h h' a j.toNatClampNeg (.int (nar .byte x)) ∧ Arv Z h' a k .byte n (vs.set i (.int (nar .byte x))) d ∧ ∀ t, Steps p.tables e below (T'.setTop (mkF m (pc + 1) Ls rest)) t → Steps p.tables e below (T.setTop (mkF m pc Ls ((.int x) :: .int j :: .ref a :: rest))) t := by
  obtain ⟨cl, A, q, S, N, H, G⟩ := V
  have hin := inb_of S hj
  obtain ⟨T', h', X', e', W, st'⟩ := stB X hx hZ eT A (j := j) (x := x) hin (g := mkF m pc Ls ((.int x) :: .int j :: .ref a :: rest)) rfl rfl hd
  exact ⟨T', h', X', e', W, Arv.set A q S N H G (fits_nar_byte x) W i hi hl, st'⟩
theorem own_aastore (X : Stand p l e R s m args below meth c T locs cells slots) (hx : p.tables.exec = Jvm.exec) (hZ : Z.Warmed39 s.vm) (eT : T.heap = h) {a : Addr} {k : ClassId} {n : Int32} {vs : List Value} {d : Value} {ty : FieldType} (V : Arv Z h a k ty n vs d) (ht : ty.isReference = true) {j : Int32} {v : Value} (hj : ¬ j < 0 ∧ j < n) (hf : fits ty v = true) (F : ∀ cl : Cell, Arr Z h a cl ty → cl.cls = k → Sto Z h a v) (i : Nat) (hi : j.toNatClampNeg = i) (hl : i < vs.length) (hd : decode c.code pc = .ok (.aastore, 1)) :
    ∃ T' h', Stand p l e R s m args below meth c T' (locs ++ [⟨a, j.toNatClampNeg⟩]) cells slots ∧ T'.heap = h' ∧ Wr h h' a j.toNatClampNeg v ∧ Arv Z h' a k ty n (vs.set i v) d ∧ ∀ t, Steps p.tables e below (T'.setTop (mkF m (pc + 1) Ls rest)) t → Steps p.tables e below (T.setTop (mkF m pc Ls (v :: .int j :: .ref a :: rest))) t := by
  obtain ⟨cl, A, q, S, N, H, G⟩ := V
  have hin := inb_of S hj
  obtain ⟨T', h', X', e', W, st'⟩ := stR X hx hZ eT A (j := j) (v := v) hin ht (F cl A q) (g := mkF m pc Ls (v :: .int j :: .ref a :: rest)) rfl rfl hd
  exact ⟨T', h', X', e', W, Arv.set A q S N H G hf W i hi hl, st'⟩
theorem own_newarr (X : Stand p l e R s m args below meth c T locs cells slots) (hx : p.tables.exec = Jvm.exec) (hZ : Z.Warmed39 s.vm) {aty : ArrayType} (w : (Cond.arrayClass (newarray.typeOf aty)).before a0 Z = true) (eT : T.heap = h) (hd : decode c.code pc = .ok (.newarray aty, 2)) {n : Int32} (hn : ¬ n < 0) {cap : Nat} (hcap : n.toNatClampNeg ≤ cap) (hb : cap * 8 ≤ 536870912) (hc : cells + 1 ≤ R.cells) (hl : slots + cap ≤ R.slots) {ad : String} (had : "[" ++ (newarray.typeOf aty).toString = ad) :
    ∃ T' h' cA, Stand p l e R s m args below meth c T' locs (cells + 1) (slots + cap) ∧ T'.heap = h' ∧ Ext h h' ∧ Arv Z h' h.size cA (newarray.typeOf aty) n (List.replicate cap (defaultValue (newarray.typeOf aty))) (defaultValue (newarray.typeOf aty)) ∧ Exa Z h' h.size ad ∧
      ∀ t, Steps p.tables e below (T'.setTop (mkF m (pc + 2) Ls (.ref h.size :: rest))) t → Steps p.tables e below (T.setTop (mkF m pc Ls (.int n :: rest))) t := by
  obtain ⟨T', h', cA, X', e', E', A', C', st'⟩ := newPE X hx hZ w eT (g := mkF m pc Ls (.int n :: rest)) rfl hd rfl hn hcap hb hc hl had
  exact ⟨T', h', cA, X', e', E', (Arv.new A' hn).pad (fun i => by have q := pad_rep [] (defaultValue (newarray.typeOf aty)) cap i; simpa using q), C', st'⟩
theorem own_newref (X : Stand p l e R s m args below meth c T locs cells slots) (hx : p.tables.exec = Jvm.exec) (hZ : Z.Warmed39 s.vm) {own C : String} {index : Nat} (hown : s.vm.findClass own = some m.cls) (w1 : (Cond.classLink own index C).before a0 Z = true) (w2 : (Cond.arrayOver (.object C)).before a0 Z = true) (eT : T.heap = h) (hd : decode c.code pc = .ok (.anewarray index, 3)) {n : Int32} (hn : ¬ n < 0) {cap : Nat} (hcap : n.toNatClampNeg ≤ cap) (hb : cap * 8 ≤ 536870912) (hc : cells + 1 ≤ R.cells) (hl : slots + cap ≤ R.slots) {ad : String} (had : "[" ++ (FieldType.object C).toString = ad) :
    ∃ T' h' cA, Stand p l e R s m args below meth c T' locs (cells + 1) (slots + cap) ∧ T'.heap = h' ∧ Ext h h' ∧ Arv Z h' h.size cA (.object C) n (List.replicate cap .null) .null ∧ Exa Z h' h.size ad ∧ Ovr Z cA C ∧
      ∀ t, Steps p.tables e below (T'.setTop (mkF m (pc + 3) Ls (.ref h.size :: rest))) t → Steps p.tables e below (T.setTop (mkF m pc Ls (.int n :: rest))) t := by
  obtain ⟨T', h', cA, X', e', E', A', C', O', st'⟩ := newRE X hx hZ hown w1 w2 eT (g := mkF m pc Ls (.int n :: rest)) rfl hd rfl hn hcap hb hc hl had
  exact ⟨T', h', cA, X', e', E', (Arv.new A' hn).pad (fun i => by have q := pad_rep [] (.null) cap i; simpa [defaultValue] using q), C', O', st'⟩
theorem own_newarr2 (X : Stand p l e R s m args below meth c T locs cells slots) (hx : p.tables.exec = Jvm.exec) (hZ : Z.Warmed39 s.vm) {own C : String} {ty : FieldType} {index : Nat} (hown : s.vm.findClass own = some m.cls) (hC : (FieldType.array ty).toString = C) (w1 : (Cond.classLink own index C).before a0 Z = true) (w2 : (Cond.arrayOver (.array ty)).before a0 Z = true) (eT : T.heap = h) (hd : decode c.code pc = .ok (.anewarray index, 3)) {n : Int32} (hn : ¬ n < 0) {cap : Nat} (hcap : n.toNatClampNeg ≤ cap) (hb : cap * 8 ≤ 536870912) (hc : cells + 1 ≤ R.cells) (hl : slots + cap ≤ R.slots) {ad : String} (had : "[" ++ C = ad) :
    ∃ T' h' cA, Stand p l e R s m args below meth c T' locs (cells + 1) (slots + cap) ∧ T'.heap = h' ∧ Ext h h' ∧ Arv Z h' h.size cA (.array ty) n (List.replicate cap .null) .null ∧ Exa Z h' h.size ad ∧ OvrA Z cA ty C ∧
      ∀ t, Steps p.tables e below (T'.setTop (mkF m (pc + 3) Ls (.ref h.size :: rest))) t → Steps p.tables e below (T.setTop (mkF m pc Ls (.int n :: rest))) t := by
  obtain ⟨T', h', cA, X', e', E', A', C', O', st'⟩ := newRA X hx hZ hown hC w1 w2 eT (g := mkF m pc Ls (.int n :: rest)) rfl hd rfl hn hcap hb hc hl had
  exact ⟨T', h', cA, X', e', E', (Arv.new A' hn).pad (fun i => by have q := pad_rep [] (.null) cap i; simpa [defaultValue] using q), C', O', st'⟩
theorem own_callP (X : Stand p l e R s m args below meth c T locs cells slots) (hx : p.tables.exec = Jvm.exec) (hZ : Z.Warmed39 s.vm) {own : String} {index kk : Nat} {y : MethodName} {bytes : ByteArray} {maxL : Nat} {ret : Option FieldType} (hown : s.vm.findClass own = some m.cls)
    (w1 : (Cond.methodLink own index y).before a0 Z = true) (w2 : (Cond.instanceMethod y).before a0 Z = true) (w3 : (Cond.privateMethod y).before a0 Z = true) (w4 : (Cond.code y bytes maxL ret).before a0 Z = true) (w5 : (Cond.initialized y.cls).before a0 Z = true) (w6 : (Cond.instantiable y.cls kk).before a0 Z = true) (hy : y.cls ≠ "java/lang/invoke/MethodHandle" ∧ y.cls ≠ "java/lang/invoke/VarHandle")
    {rm : Room} {al : List Value} {b : Addr} {C : String} (E : Exa Z h b C) (hM : own_Met l Z y bytes maxL ret rm (.ref b :: al).toArray h Q) (W : Nat) (hf : rm.frames + 1 ≤ R.frames) (hl : W + (maxL + 11) + rm.locals ≤ R.locals) (eT : T.heap = h) (hc : cells + rm.cells ≤ R.cells) (hn : slots + rm.slots ≤ R.slots)
    (hsz : Ls.size = c.maxLocals) (hlen : ∀ sig, parseMethodDescriptor y.desc = some sig → al.length = sig.parameters.length) (hst : st = al.reverse ++ .ref b :: rest) (hW : 2 * 0 + (rest.map fun v => v.category).sum ≤ W) (hd : decode c.code pc = .ok (.invokevirtual index, 3))
    (k : ∀ (v : Option Value) (T' : State) (L : List Loc), Stand p l e R s m args below meth c T' (locs ++ L) (cells + rm.cells) (slots + rm.slots) → Q v T'.heap L → own_Go p e below Φ T' (mkF m (pc + 3) Ls (v.toList ++ rest))) : own_Go p e below Φ T (mkF m pc Ls st) := by
  obtain ⟨cB, q1, q2⟩ := E.cell
  have hp : s.PrivateAt y := Cond.privateMethod_at (mvP hZ w3 (args := #[]))
  obtain ⟨cc, ki, z1, z2, -, z4, -⟩ := Cond.instantiable_spec (mvT (s := s) (args := args) hZ w6)
  have hsel : (Cond.selects y.cls y y).before args s = true := selects_self_of_private z1 z2 (by simp only [Bool.or_eq_false_iff] at z4; exact z4.1) hp (mvT hZ w2) hy
  obtain ⟨v, vm₁, ⟨T', L', k', n'⟩, -, X', ⟨L, hQ, l1, l2, l3⟩, st'⟩ := X.privateBack hx (y := y) hown (mvT hZ w1) (mvT hZ w2) hsel hp (mvT hZ w4) hy (own_back (W := W) hM hZ w4 w5 hf hl) (g := mkF m pc Ls st) rfl hsz (Steps.refl _) (a := b) (cell := cB) (by rw [eT]; exact q1) q2 (argsL := al) (rest := rest) hlen hst hW hd (fun _ _ => ⟨rfl, eT, hc, hn⟩)
  dsimp only [Pt.U, Pt.locs, Pt.cells, Pt.slots] at X' l1 l2 l3 st' hQ
  subst l1 l2 l3
  exact own_s st' (k v T' L X' hQ)
theorem own_eqI {args : Array Value} {t : Term} {n : Int32} (hq : (Cond.eq t (.int n)).value args Z none Z [] = some true) : t.eval args Z none [] Z = some (.int n) := eqv_i (Term.int_eval n) hq
theorem own_fldI {args : Array Value} {t : Term} {n : Int32} {a : Addr} {C f d : String} (ev : t.eval args Z none [] Z = some (.ref a)) (hq : (Cond.eq (.field t C f d) (.int n)).value args Z none Z [] = some true) : Fld Z Z.heap a C f d (.int n) := by
  have q := own_eqI hq
  rw [fld_at ev] at q
  exact Fld.start q
theorem own_nar_short (x : Int32) : nar .short x.toInt16.toInt32 = x.toInt16.toInt32 := by simp [nar]
theorem own_nar_byte (x : Int32) : nar .byte x.toInt8.toInt32 = x.toInt8.toInt32 := by simp [nar]
theorem own_nar_char (x : Int32) : nar .char x.toUInt32.toUInt16.toUInt32.toInt32 = x.toUInt32.toUInt16.toUInt32.toInt32 := by
  have e1 := c_i2c x
  have e2 := c_i2c (x.toUInt32.toUInt16.toUInt32.toInt32)
  exact Int32.toInt_inj.mp (by show (x.toUInt32.toUInt16.toUInt32.toInt32.toUInt32.toUInt16.toUInt32.toInt32).toInt = _; omega)
end Own
end Jvm.RoadKit
namespace Jvm.Pilot.@@N@@
open Jvm Jvm.ClassFile Sem Op Lib Jvm.Free Jvm.Stand Jvm.LawKit Jvm.RoadKit Bundle Jvm.Pilot.@@N@@.Jvm.D
def own_W (Z : State) (a0 : Array Value)  : Prop := (∀ d ∈ tables_1, d.before a0 Z = true)
theorem own_z (x : Int32) : (((x - (x - (32768 : Int32))).toUInt32 >>> ((16 : Int32) &&& 31).toUInt32).toInt32) = (0 : Int32) := by
  have e1 := c_isub x (32768 : Int32)
  have e2 := c_isub x (x - (32768 : Int32))
  have e3 := rng32 x
  have e4 := rng32 (x - (32768 : Int32))
  have e5 := rng32 (x - (x - (32768 : Int32)))
  have e6 : (32768 : Int32).toInt = 32768 := by decide
  have e7 : x - (x - (32768 : Int32)) = (32768 : Int32) := Int32.toInt_inj.mp (by omega)
  rw [e7]
  decide
theorem own_rt (b v : Int32) (h : (((v - b).toUInt32 >>> ((16 : Int32) &&& 31).toUInt32).toInt32) = (0 : Int32)) : (b + (((v - b).toInt16.toInt32) &&& (65535 : Int32))) = v := by
  have e1 := c_iushr (v - b) (16 : Int32) 16 (by decide) (by decide)
  rw [h] at e1
  have e2 : (0 : Int32).toInt = 0 := by decide
  have e3 := rng32 (v - b)
  have e4 := c_i2s (v - b)
  have e5 : (((v - b).toInt16.toInt32) &&& (65535 : Int32)).toInt = ((v - b).toInt16.toInt32).toInt % (2 ^ 16 : Nat) := c_mask _ 65535 16 (by decide) (by decide)
  have e6 := c_isub v b
  have e7 := c_iadd b (((v - b).toInt16.toInt32) &&& (65535 : Int32))
  have e8 := rng32 (b + (((v - b).toInt16.toInt32) &&& (65535 : Int32)))
  have e9 := rng32 v
  exact Int32.toInt_inj.mp (by omega)
theorem ef_0_IIII (m : MethodId) (x0 : Int32) (x1 : Int32) (x2 : Int32) (x3 : Int32)  : entryFrame m #[(.int x0), (.int x1), (.int x2), (.int x3)] maxLocals = mkF m 0 #[.val (.int x0), .val (.int x1), .val (.int x2), .val (.int x3), .unset, .unset, .unset] [] := by first | (simp [entryFrame, mkF, argsToLocals, Value.category, maxLocals]; done) | rfl
theorem pn_com_example_control_design_check_controldesigncheck_lts_IntBlocksGetPinLaw : plainName "com/example/control_design_check/controldesigncheck/lts/IntBlocksGetPinLaw" = true := by first | (simp [plainName, overriddenIn]; done) | decide +kernel
theorem pd__28_29V : parseMethodDescriptor "()V" = some ⟨[], none⟩ := by decide +kernel
theorem ef_1_R (m : MethodId) (x0 : Addr)  : entryFrame m #[(.ref x0)] 1 = mkF m 0 #[.val (.ref x0)] [] := by first | (simp [entryFrame, mkF, argsToLocals, Value.category]; done) | rfl
theorem pn_com_example_control_design_check_controldesigncheck_lts_IntBlocks : plainName "com/example/control_design_check/controldesigncheck/lts/IntBlocks" = true := by first | (simp [plainName, overriddenIn]; done) | decide +kernel
theorem d1_0 : decode prog_69_method_1_code 0 = .ok (.aload_n 0, 1) := by decide +kernel
theorem d1_1 : decode prog_69_method_1_code 1 = .ok (.invokespecial 3, 3) := by decide +kernel
theorem d1_4 : decode prog_69_method_1_code 4 = .ok (.aload_n 0, 1) := by decide +kernel
theorem d1_5 : decode prog_69_method_1_code 5 = .ok (.iconst 1, 1) := by decide +kernel
theorem d1_6 : decode prog_69_method_1_code 6 = .ok (.anewarray 9, 3) := by decide +kernel
theorem d1_9 : decode prog_69_method_1_code 9 = .ok (.putfield 11, 3) := by decide +kernel
theorem d1_12 : decode prog_69_method_1_code 12 = .ok (.aload_n 0, 1) := by decide +kernel
theorem d1_13 : decode prog_69_method_1_code 13 = .ok (.iconst 1, 1) := by decide +kernel
theorem d1_14 : decode prog_69_method_1_code 14 = .ok (.anewarray 15, 3) := by decide +kernel
theorem d1_17 : decode prog_69_method_1_code 17 = .ok (.putfield 17, 3) := by decide +kernel
theorem d1_20 : decode prog_69_method_1_code 20 = .ok (.aload_n 0, 1) := by decide +kernel
theorem d1_21 : decode prog_69_method_1_code 21 = .ok (.iconst 1, 1) := by decide +kernel
theorem d1_22 : decode prog_69_method_1_code 22 = .ok (.newarray .int, 2) := by decide +kernel
theorem d1_24 : decode prog_69_method_1_code 24 = .ok (.putfield 21, 3) := by decide +kernel
theorem d1_27 : decode prog_69_method_1_code 27 = .ok (.return_, 1) := by decide +kernel
set_option maxRecDepth 65536 in
set_option maxHeartbeats 40000000 in
theorem rm_init_0 (l : Launch) (Z : State) (a0 : Array Value)  (hW : own_W Z a0) (a1 : Addr) (h0 : Heap) (O0 : Old Z Z.heap.size h0) (h_1 : Fld Z h0 a1 "com/example/control_design_check/controldesigncheck/lts/IntBlocks" "narrow" "[[S" .null) (h_2 : Exa Z h0 a1 "com/example/control_design_check/controldesigncheck/lts/IntBlocks") (h_3 : Z.heap.size ≤ a1) (h_4 : Fld Z h0 a1 "com/example/control_design_check/controldesigncheck/lts/IntBlocks" "wide" "[[I" .null) (h_5 : Fld Z h0 a1 "com/example/control_design_check/controldesigncheck/lts/IntBlocks" "bases" "[I" .null) (h_6 : Fld Z h0 a1 "com/example/control_design_check/controldesigncheck/lts/IntBlocks" "size" "I" (.int (0 : Int32))) :
    own_Met l Z (⟨"com/example/control_design_check/controldesigncheck/lts/IntBlocks", "<init>", "()V"⟩ : MethodName) prog_69_method_1_code 1 none ({ frames := 1, cells := 3, slots := 3, locals := 12 } : Room) #[(.ref a1)] h0 (fun v h L => ∃ (b2 : Addr) (b4 : Addr) (b7 : Addr) (k2 : ClassId) (k4 : ClassId) (k7 : ClassId), v = none ∧ Fr Z.heap.size L ∧ Keep h0 h [a1] ∧ h0.size ≤ b2 ∧ h0.size ≤ b4 ∧ h0.size ≤ b7 ∧ b2 ≠ b4 ∧ b2 ≠ b7 ∧ b4 ≠ b7 ∧ Exa Z h a1 "com/example/control_design_check/controldesigncheck/lts/IntBlocks" ∧ Fld Z h a1 "com/example/control_design_check/controldesigncheck/lts/IntBlocks" "narrow" "[[S" (.ref b2) ∧ Fld Z h a1 "com/example/control_design_check/controldesigncheck/lts/IntBlocks" "wide" "[[I" (.ref b4) ∧ Fld Z h a1 "com/example/control_design_check/controldesigncheck/lts/IntBlocks" "bases" "[I" (.ref b7) ∧ Fld Z h a1 "com/example/control_design_check/controldesigncheck/lts/IntBlocks" "size" "I" (.int (0 : Int32)) ∧ Arv Z h b2 k2 (.array .short) (1 : Int32) [.null] .null ∧ OvrA Z k2 .short "[S" ∧ Exa Z h b2 "[[S" ∧ Arv Z h b4 k4 (.array .int) (1 : Int32) [.null] .null ∧ OvrA Z k4 .int "[I" ∧ Exa Z h b4 "[[I" ∧ Arv Z h b7 k7 .int (1 : Int32) [(.int (0 : Int32))] (.int (0 : Int32)) ∧ Exa Z h b7 "[I") := by
  have hw : ∀ d ∈ tables_1, d.before a0 Z = true := hW
  refine own_met (plainFor_of_name pn_com_example_control_design_check_controldesigncheck_lts_IntBlocks) ?_
  intro p e s m below meth cc_ s₁ Φ hF X0 hx hby hml hZ hown hnm hret hlk e0
  have N0 := Fr.nil Z.heap.size
  refine own_k (T' := s₁) (g' := (mkF m 0 #[.val (.ref a1)] [])) (fun _ k_ => castTop (ef_1_R m a1) k_) ?_
  refine own_k (T' := s₁) (g' := (mkF m 1 #[.val (.ref a1)] [(.ref a1)])) (fun _ k_ => XS.aloadN X0.here hx rfl (hb hby d1_0) rfl rfl  k_) ?_
  obtain ⟨T1, X1, e1, st1⟩ := initO X0 hx hZ hown (hw _ (List.mem_of_getElem? (i := 6) rfl)) (hw _ (List.mem_of_getElem? (i := 7) rfl)) (hw _ (List.mem_of_getElem? (i := 8) rfl)) e0 (g := (mkF m 1 #[.val (.ref a1)] [(.ref a1)])) rfl (by rw [hml]; rfl) rfl (hb hby d1_1) (by decide) (W := 0) (by show 2 * 0 + _ ≤ _; exact Nat.le_of_eq rfl) (by decide)
  refine own_k (T' := T1) (g' := (mkF m 4 #[.val (.ref a1)] [])) st1 ?_
  refine own_k (T' := T1) (g' := (mkF m 5 #[.val (.ref a1)] [(.ref a1)])) (fun _ k_ => XS.aloadN X1.here hx rfl (hb hby d1_4) rfl rfl  k_) ?_
  refine own_k (T' := T1) (g' := (mkF m 6 #[.val (.ref a1)] [(.int (1 : Int32)), (.ref a1)])) (fun _ k_ => XS.iconst X1.here hx rfl (hb hby d1_5) k_) ?_
  obtain ⟨T2, h2, k2, X2, e2, E2, V2, A2, O2, st2⟩ := own_newarr2 (pc := 6) (Ls := #[.val (.ref a1)]) (rest := [(.ref a1)]) X1 hx hZ (C := "[S") (ty := .short) hown (by decide) (hw _ (List.mem_of_getElem? (i := 9) rfl)) (hw _ (List.mem_of_getElem? (i := 10) rfl)) e1 (hb hby d1_6) (n := (1 : Int32)) (by decide) (cap := 1) (by decide) (by decide) (by decide) (by decide) (ad := "[[S") (by decide)
  obtain ⟨b2, g2⟩ : ∃ z, z = h0.size := ⟨_, rfl⟩
  rw [← g2] at V2 A2 st2
  have O2' := O0.ext E2
  have V2 : Arv Z h2 b2 k2 (.array .short) (1 : Int32) [.null] .null := V2
  refine own_k (T' := T2) (g' := (mkF m 9 #[.val (.ref a1)] [(.ref b2), (.ref a1)])) st2 ?_
  obtain ⟨T3, h3, X3, e3, W3, st3⟩ := putF X2 hx hZ hown (host := "") (Or.inl (hw _ (List.mem_of_getElem? (i := 11) rfl))) Via.refl e2 (h_1.ext E2) (h_2.ext E2) (Or.inl (hw _ (List.mem_of_getElem? (i := 12) rfl))) (hw _ (List.mem_of_getElem? (i := 1) rfl)) (ty := (.array (.array .short))) (by decide) rfl rfl (g := (mkF m 9 #[.val (.ref a1)] [(.ref b2), (.ref a1)])) rfl rfl (hb hby d1_9)
  have w3 := Fld.same W3 (h_1.ext E2)
  have O3' := O2'.wr W3 h_3
  have N3 := Fr.snoc X3 N0 h_3
  refine own_k (T' := T3) (g' := (mkF m 12 #[.val (.ref a1)] [])) st3 ?_
  refine own_k (T' := T3) (g' := (mkF m 13 #[.val (.ref a1)] [(.ref a1)])) (fun _ k_ => XS.aloadN X3.here hx rfl (hb hby d1_12) rfl rfl  k_) ?_
  refine own_k (T' := T3) (g' := (mkF m 14 #[.val (.ref a1)] [(.int (1 : Int32)), (.ref a1)])) (fun _ k_ => XS.iconst X3.here hx rfl (hb hby d1_13) k_) ?_
  obtain ⟨T4, h4, k4, X4, e4, E4, V4, A4, O4, st4⟩ := own_newarr2 (pc := 14) (Ls := #[.val (.ref a1)]) (rest := [(.ref a1)]) X3 hx hZ (C := "[I") (ty := .int) hown (by decide) (hw _ (List.mem_of_getElem? (i := 13) rfl)) (hw _ (List.mem_of_getElem? (i := 14) rfl)) e3 (hb hby d1_14) (n := (1 : Int32)) (by decide) (cap := 1) (by decide) (by decide) (by decide) (by decide) (ad := "[[I") (by decide)
  obtain ⟨b4, g4⟩ : ∃ z, z = h3.size := ⟨_, rfl⟩
  rw [← g4] at V4 A4 st4
  have O4' := O3'.ext E4
  have V4 : Arv Z h4 b4 k4 (.array .int) (1 : Int32) [.null] .null := V4
  refine own_k (T' := T4) (g' := (mkF m 17 #[.val (.ref a1)] [(.ref b4), (.ref a1)])) st4 ?_
  have f5 := (((h_4.ext E2).other W3 (Or.inr (slot_ne (Or.inl (hw _ (List.mem_of_getElem? (i := 16) rfl))) (Or.inl (hw _ (List.mem_of_getElem? (i := 12) rfl))) (by decide) (t := (.array (.array .int))) (t' := (.array (.array .short))) (by decide) (by decide)))).ext E4)
  obtain ⟨T6, h6, X6, e6, W6, st6⟩ := putF X4 hx hZ hown (host := "") (Or.inl (hw _ (List.mem_of_getElem? (i := 15) rfl))) Via.refl e4 f5 (((h_2.ext E2).wr W3).ext E4) (Or.inl (hw _ (List.mem_of_getElem? (i := 16) rfl))) (hw _ (List.mem_of_getElem? (i := 1) rfl)) (ty := (.array (.array .int))) (by decide) rfl rfl (g := (mkF m 17 #[.val (.ref a1)] [(.ref b4), (.ref a1)])) rfl rfl (hb hby d1_17)
  have w6 := Fld.same W6 f5
  have O6' := O4'.wr W6 h_3
  have N6 := Fr.snoc X6 N3 h_3
  refine own_k (T' := T6) (g' := (mkF m 20 #[.val (.ref a1)] [])) st6 ?_
  refine own_k (T' := T6) (g' := (mkF m 21 #[.val (.ref a1)] [(.ref a1)])) (fun _ k_ => XS.aloadN X6.here hx rfl (hb hby d1_20) rfl rfl  k_) ?_
  refine own_k (T' := T6) (g' := (mkF m 22 #[.val (.ref a1)] [(.int (1 : Int32)), (.ref a1)])) (fun _ k_ => XS.iconst X6.here hx rfl (hb hby d1_21) k_) ?_
  obtain ⟨T7, h7, k7, X7, e7, E7, V7, A7, st7⟩ := own_newarr (pc := 22) (Ls := #[.val (.ref a1)]) (rest := [(.ref a1)]) X6 hx hZ (hw _ (List.mem_of_getElem? (i := 17) rfl)) e6 (hb hby d1_22) (n := (1 : Int32)) (by decide) (cap := 1) (by decide) (by decide) (by decide) (by decide) (ad := "[I") (by decide)
  obtain ⟨b7, g7⟩ : ∃ z, z = h6.size := ⟨_, rfl⟩
  rw [← g7] at V7 A7 st7
  have O7' := O6'.ext E7
  have V7 : Arv Z h7 b7 k7 .int (1 : Int32) [(.int (0 : Int32))] (.int (0 : Int32)) := V7
  refine own_k (T' := T7) (g' := (mkF m 24 #[.val (.ref a1)] [(.ref b7), (.ref a1)])) st7 ?_
  have f8 := (((((h_5.ext E2).other W3 (Or.inr (slot_ne (Or.inl (hw _ (List.mem_of_getElem? (i := 19) rfl))) (Or.inl (hw _ (List.mem_of_getElem? (i := 12) rfl))) (by decide) (t := (.array .int)) (t' := (.array (.array .short))) (by decide) (by decide)))).ext E4).other W6 (Or.inr (slot_ne (Or.inl (hw _ (List.mem_of_getElem? (i := 19) rfl))) (Or.inl (hw _ (List.mem_of_getElem? (i := 16) rfl))) (by decide) (t := (.array .int)) (t' := (.array (.array .int))) (by decide) (by decide)))).ext E7)
  obtain ⟨T9, h9, X9, e9, W9, st9⟩ := putF X7 hx hZ hown (host := "") (Or.inl (hw _ (List.mem_of_getElem? (i := 18) rfl))) Via.refl e7 f8 (((((h_2.ext E2).wr W3).ext E4).wr W6).ext E7) (Or.inl (hw _ (List.mem_of_getElem? (i := 19) rfl))) (hw _ (List.mem_of_getElem? (i := 1) rfl)) (ty := (.array .int)) (by decide) rfl rfl (g := (mkF m 24 #[.val (.ref a1)] [(.ref b7), (.ref a1)])) rfl rfl (hb hby d1_24)
  have w9 := Fld.same W9 f8
  have O9' := O7'.wr W9 h_3
  have N9 := Fr.snoc X9 N6 h_3
  refine own_k (T' := T9) (g' := (mkF m 27 #[.val (.ref a1)] [])) st9 ?_
  have kp0 : Keep h0 h0 [a1] := Keep.refl h0 [a1]
  have kp1 : Keep h0 h2 [a1] := kp0.ext E2
  have kp2 : Keep h0 h3 [a1] := kp1.wr W3 (Or.inl (List.mem_of_getElem? (i := 0) rfl))
  have kp3 : Keep h0 h4 [a1] := kp2.ext E4
  have kp4 : Keep h0 h6 [a1] := kp3.wr W6 (Or.inl (List.mem_of_getElem? (i := 0) rfl))
  have kp5 : Keep h0 h7 [a1] := kp4.ext E7
  have kp6 : Keep h0 h9 [a1] := kp5.wr W9 (Or.inl (List.mem_of_getElem? (i := 0) rfl))
  have f10 := ((((w3.ext E4).other W6 (Or.inr (slot_ne (Or.inl (hw _ (List.mem_of_getElem? (i := 12) rfl))) (Or.inl (hw _ (List.mem_of_getElem? (i := 16) rfl))) (by decide) (t := (.array (.array .short))) (t' := (.array (.array .int))) (by decide) (by decide)))).ext E7).other W9 (Or.inr (slot_ne (Or.inl (hw _ (List.mem_of_getElem? (i := 12) rfl))) (Or.inl (hw _ (List.mem_of_getElem? (i := 19) rfl))) (by decide) (t := (.array (.array .short))) (t' := (.array .int)) (by decide) (by decide))))
  have f11 := ((w6.ext E7).other W9 (Or.inr (slot_ne (Or.inl (hw _ (List.mem_of_getElem? (i := 16) rfl))) (Or.inl (hw _ (List.mem_of_getElem? (i := 19) rfl))) (by decide) (t := (.array (.array .int))) (t' := (.array .int)) (by decide) (by decide))))
  have f12 := ((((((h_6.ext E2).other W3 (Or.inr (slot_ne (Or.inl (hw _ (List.mem_of_getElem? (i := 26) rfl))) (Or.inl (hw _ (List.mem_of_getElem? (i := 12) rfl))) (by decide) (t := .int) (t' := (.array (.array .short))) (by decide) (by decide)))).ext E4).other W6 (Or.inr (slot_ne (Or.inl (hw _ (List.mem_of_getElem? (i := 26) rfl))) (Or.inl (hw _ (List.mem_of_getElem? (i := 16) rfl))) (by decide) (t := .int) (t' := (.array (.array .int))) (by decide) (by decide)))).ext E7).other W9 (Or.inr (slot_ne (Or.inl (hw _ (List.mem_of_getElem? (i := 26) rfl))) (Or.inl (hw _ (List.mem_of_getElem? (i := 19) rfl))) (by decide) (t := .int) (t' := (.array .int)) (by decide) (by decide))))
  have f13 := (((((V2.other W3 (Ne.symm (Nat.ne_of_lt (Nat.lt_of_lt_of_le h_2.lt (Nat.le_of_eq g2.symm))))).ext E4).other W6 (Ne.symm (Nat.ne_of_lt (Nat.lt_of_lt_of_le h_2.lt (Nat.le_of_eq g2.symm))))).ext E7).other W9 (Ne.symm (Nat.ne_of_lt (Nat.lt_of_lt_of_le h_2.lt (Nat.le_of_eq g2.symm)))))
  have f14 := (((V4.other W6 (Ne.symm (Nat.ne_of_lt (Nat.lt_of_lt_of_le (Nat.lt_of_lt_of_le (Nat.lt_of_lt_of_le h_2.lt E2.1) (Keep.of_wr W3).1) (Nat.le_of_eq g4.symm))))).ext E7).other W9 (Ne.symm (Nat.ne_of_lt (Nat.lt_of_lt_of_le (Nat.lt_of_lt_of_le (Nat.lt_of_lt_of_le h_2.lt E2.1) (Keep.of_wr W3).1) (Nat.le_of_eq g4.symm)))))
  have f15 := (V7.other W9 (Ne.symm (Nat.ne_of_lt (Nat.lt_of_lt_of_le (Nat.lt_of_lt_of_le (Nat.lt_of_lt_of_le (Nat.lt_of_lt_of_le (Nat.lt_of_lt_of_le h_2.lt E2.1) (Keep.of_wr W3).1) E4.1) (Keep.of_wr W6).1) (Nat.le_of_eq g7.symm)))))
  exact own_ret0 X9 hx hret hlk (hb hby d1_27) hF (by rw [e9]; exact ⟨b2, b4, b7, k2, k4, k7, rfl, N9, kp6, (Nat.le_trans kp0.1 (Nat.le_of_eq g2.symm)), (Nat.le_trans kp2.1 (Nat.le_of_eq g4.symm)), (Nat.le_trans kp4.1 (Nat.le_of_eq g7.symm)), (Nat.ne_of_lt (Nat.lt_of_lt_of_le (Nat.lt_of_lt_of_le A2.lt (Keep.of_wr W3).1) (Nat.le_of_eq g4.symm))), (Nat.ne_of_lt (Nat.lt_of_lt_of_le (Nat.lt_of_lt_of_le (Nat.lt_of_lt_of_le (Nat.lt_of_lt_of_le A2.lt (Keep.of_wr W3).1) E4.1) (Keep.of_wr W6).1) (Nat.le_of_eq g7.symm))), (Nat.ne_of_lt (Nat.lt_of_lt_of_le (Nat.lt_of_lt_of_le A4.lt (Keep.of_wr W6).1) (Nat.le_of_eq g7.symm))), ((((((h_2.ext E2).wr W3).ext E4).wr W6).ext E7).wr W9), f10, f11, w9, f12, f13, O2, (((((A2.wr W3).ext E4).wr W6).ext E7).wr W9), f14, O4, (((A4.wr W6).ext E7).wr W9), f15, (A7.wr W9)⟩) (by decide) (by decide)
theorem pd__28I_29V : parseMethodDescriptor "(I)V" = some ⟨[.int], none⟩ := by decide +kernel
theorem ef_3_RI (m : MethodId) (x0 : Addr) (x1 : Int32)  : entryFrame m #[(.ref x0), (.int x1)] 5 = mkF m 0 #[.val (.ref x0), .val (.int x1), .unset, .unset, .unset] [] := by first | (simp [entryFrame, mkF, argsToLocals, Value.category]; done) | rfl
theorem d3_0 : decode prog_69_method_4_code 0 = .ok (.aload_n 0, 1) := by decide +kernel
theorem d3_1 : decode prog_69_method_4_code 1 = .ok (.getfield 24, 3) := by decide +kernel
theorem d3_4 : decode prog_69_method_4_code 4 = .ok (.bipush 14, 2) := by decide +kernel
theorem d3_6 : decode prog_69_method_4_code 6 = .ok (.iushr, 1) := by decide +kernel
theorem d3_7 : decode prog_69_method_4_code 7 = .ok (.istore_n 2, 1) := by decide +kernel
theorem d3_8 : decode prog_69_method_4_code 8 = .ok (.aload_n 0, 1) := by decide +kernel
theorem d3_9 : decode prog_69_method_4_code 9 = .ok (.getfield 24, 3) := by decide +kernel
theorem d3_12 : decode prog_69_method_4_code 12 = .ok (.sipush 16383, 3) := by decide +kernel
theorem d3_15 : decode prog_69_method_4_code 15 = .ok (.iand, 1) := by decide +kernel
theorem d3_16 : decode prog_69_method_4_code 16 = .ok (.istore_n 3, 1) := by decide +kernel
theorem d3_17 : decode prog_69_method_4_code 17 = .ok (.iload_n 3, 1) := by decide +kernel
theorem d3_18 : decode prog_69_method_4_code 18 = .ok (.ifCond .ne 12, 3) := by decide +kernel
theorem d3_21 : decode prog_69_method_4_code 21 = .ok (.aload_n 0, 1) := by decide +kernel
theorem d3_22 : decode prog_69_method_4_code 22 = .ok (.iload_n 2, 1) := by decide +kernel
theorem d3_23 : decode prog_69_method_4_code 23 = .ok (.iload_n 1, 1) := by decide +kernel
theorem d3_24 : decode prog_69_method_4_code 24 = .ok (.invokevirtual 29, 3) := by decide +kernel
theorem pd__28II_29V : parseMethodDescriptor "(II)V" = some ⟨[.int, .int], none⟩ := by decide +kernel
theorem ef_4_RII (m : MethodId) (x0 : Addr) (x1 : Int32) (x2 : Int32)  : entryFrame m #[(.ref x0), (.int x1), (.int x2)] 6 = mkF m 0 #[.val (.ref x0), .val (.int x1), .val (.int x2), .unset, .unset, .unset] [] := by first | (simp [entryFrame, mkF, argsToLocals, Value.category]; done) | rfl
theorem d4_0 : decode prog_69_method_5_code 0 = .ok (.iload_n 1, 1) := by decide +kernel
theorem d4_1 : decode prog_69_method_5_code 1 = .ok (.aload_n 0, 1) := by decide +kernel
theorem d4_2 : decode prog_69_method_5_code 2 = .ok (.getfield 21, 3) := by decide +kernel
theorem d4_5 : decode prog_69_method_5_code 5 = .ok (.arraylength, 1) := by decide +kernel
theorem d4_6 : decode prog_69_method_5_code 6 = .ok (.if_icmp .ne 77, 3) := by decide +kernel
theorem d4_83 : decode prog_69_method_5_code 83 = .ok (.aload_n 0, 1) := by decide +kernel
theorem d4_84 : decode prog_69_method_5_code 84 = .ok (.getfield 21, 3) := by decide +kernel
theorem d4_87 : decode prog_69_method_5_code 87 = .ok (.iload_n 1, 1) := by decide +kernel
theorem d4_88 : decode prog_69_method_5_code 88 = .ok (.iload_n 2, 1) := by decide +kernel
theorem d4_89 : decode prog_69_method_5_code 89 = .ok (.ldc 49, 2) := by decide +kernel
theorem d4_91 : decode prog_69_method_5_code 91 = .ok (.isub, 1) := by decide +kernel
theorem d4_92 : decode prog_69_method_5_code 92 = .ok (.iastore, 1) := by decide +kernel
theorem d4_93 : decode prog_69_method_5_code 93 = .ok (.aload_n 0, 1) := by decide +kernel
theorem d4_94 : decode prog_69_method_5_code 94 = .ok (.getfield 11, 3) := by decide +kernel
theorem d4_97 : decode prog_69_method_5_code 97 = .ok (.iload_n 1, 1) := by decide +kernel
theorem d4_98 : decode prog_69_method_5_code 98 = .ok (.iload_n 1, 1) := by decide +kernel
theorem d4_99 : decode prog_69_method_5_code 99 = .ok (.ifCond .ne 8, 3) := by decide +kernel
theorem d4_102 : decode prog_69_method_5_code 102 = .ok (.bipush 16, 2) := by decide +kernel
theorem d4_104 : decode prog_69_method_5_code 104 = .ok (.goto 6, 3) := by decide +kernel
theorem d4_110 : decode prog_69_method_5_code 110 = .ok (.newarray .short, 2) := by decide +kernel
theorem d4_112 : decode prog_69_method_5_code 112 = .ok (.aastore, 1) := by decide +kernel
theorem d4_113 : decode prog_69_method_5_code 113 = .ok (.return_, 1) := by decide +kernel
set_option maxRecDepth 65536 in
set_option maxHeartbeats 40000000 in
theorem rm_start_1 (l : Launch) (Z : State) (a0 : Array Value)  (hW : own_W Z a0) (a1 : Addr) (i2 : Int32) (a3 : Addr) (q4 : ClassId) (a5 : Addr) (q6 : ClassId) (h0 : Heap) (O0 : Old Z Z.heap.size h0) (h_1 : Fld Z h0 a1 "com/example/control_design_check/controldesigncheck/lts/IntBlocks" "bases" "[I" (.ref a3)) (h_2 : Arv Z h0 a3 q4 .int (1 : Int32) [(.int (0 : Int32))] (.int (0 : Int32))) (h_3 : Z.heap.size ≤ a3) (h_4 : Fld Z h0 a1 "com/example/control_design_check/controldesigncheck/lts/IntBlocks" "narrow" "[[S" (.ref a5)) (h_5 : a1 ≠ a3) (h_6 : Arv Z h0 a5 q6 (.array .short) (1 : Int32) [.null] .null) (h_7 : a5 ≠ a3) (h_8 : OvrA Z q6 .short "[S") (h_9 : Z.heap.size ≤ a5) (h_10 : a3 ≠ a5) :
    own_Met l Z (⟨"com/example/control_design_check/controldesigncheck/lts/IntBlocks", "start", "(II)V"⟩ : MethodName) prog_69_method_5_code 6 none ({ frames := 0, cells := 1, slots := 16, locals := 0 } : Room) #[(.ref a1), (.int (0 : Int32)), (.int i2)] h0 (fun v h L => ∃ (b5 : Addr) (k5 : ClassId), v = none ∧ Fr Z.heap.size L ∧ Keep h0 h [a3, a5] ∧ h0.size ≤ b5 ∧ Arv Z h a3 q4 .int (1 : Int32) [(.int (i2 - (32768 : Int32)))] (.int (0 : Int32)) ∧ Arv Z h a5 q6 (.array .short) (1 : Int32) [(.ref b5)] .null ∧ Arv Z h b5 k5 .short (16 : Int32) [(.int (0 : Int32)), (.int (0 : Int32)), (.int (0 : Int32)), (.int (0 : Int32)), (.int (0 : Int32)), (.int (0 : Int32)), (.int (0 : Int32)), (.int (0 : Int32)), (.int (0 : Int32)), (.int (0 : Int32)), (.int (0 : Int32)), (.int (0 : Int32)), (.int (0 : Int32)), (.int (0 : Int32)), (.int (0 : Int32)), (.int (0 : Int32))] (.int (0 : Int32)) ∧ Exa Z h b5 "[S") := by
  have hw : ∀ d ∈ tables_1, d.before a0 Z = true := hW
  refine own_met (plainFor_of_name pn_com_example_control_design_check_controldesigncheck_lts_IntBlocks) ?_
  intro p e s m below meth cc_ s₁ Φ hF X0 hx hby hml hZ hown hnm hret hlk e0
  have N0 := Fr.nil Z.heap.size
  refine own_k (T' := s₁) (g' := (mkF m 0 #[.val (.ref a1), .val (.int (0 : Int32)), .val (.int i2), .unset, .unset, .unset] [])) (fun _ k_ => castTop (ef_4_RII m a1 (0 : Int32) i2) k_) ?_
  refine own_k (T' := s₁) (g' := (mkF m 1 #[.val (.ref a1), .val (.int (0 : Int32)), .val (.int i2), .unset, .unset, .unset] [(.int (0 : Int32))])) (fun _ k_ => XS.iloadN X0.here hx rfl (hb hby d4_0) rfl  k_) ?_
  refine own_k (T' := s₁) (g' := (mkF m 2 #[.val (.ref a1), .val (.int (0 : Int32)), .val (.int i2), .unset, .unset, .unset] [(.ref a1), (.int (0 : Int32))])) (fun _ k_ => XS.aloadN X0.here hx rfl (hb hby d4_1) rfl rfl  k_) ?_
  obtain ⟨T1, X1, e1, st1⟩ := getF X0 hx hZ hown (host := "") (Or.inl (hw _ (List.mem_of_getElem? (i := 18) rfl))) Via.refl e0 h_1 (g := (mkF m 2 #[.val (.ref a1), .val (.int (0 : Int32)), .val (.int i2), .unset, .unset, .unset] [(.ref a1), (.int (0 : Int32))])) rfl rfl (hb hby d4_2)
  refine own_k (T' := T1) (g' := (mkF m 5 #[.val (.ref a1), .val (.int (0 : Int32)), .val (.int i2), .unset, .unset, .unset] [(.ref a3), (.int (0 : Int32))])) st1 ?_
  refine own_len X1 hx hZ e1 h_2 (hb hby d4_5) ?_
  show own_Go p e below Φ T1 (mkF m 6 #[.val (.ref a1), .val (.int (0 : Int32)), .val (.int i2), .unset, .unset, .unset] [(.int (1 : Int32)), (.int (0 : Int32))])
  refine own_k (T' := T1) (g' := (mkF m 83 #[.val (.ref a1), .val (.int (0 : Int32)), .val (.int i2), .unset, .unset, .unset] [])) (fun _ k_ => XS.icmpYes X1.here hx rfl (pc0 := 6) (pc' := 83) rfl (hb hby d4_6) rfl ((feq (by decide : ¬ ((0 : Int32) = (1 : Int32)))).2) (by decide) (by decide) k_) ?_
  refine own_k (T' := T1) (g' := (mkF m 84 #[.val (.ref a1), .val (.int (0 : Int32)), .val (.int i2), .unset, .unset, .unset] [(.ref a1)])) (fun _ k_ => XS.aloadN X1.here hx rfl (hb hby d4_83) rfl rfl  k_) ?_
  obtain ⟨T2, X2, e2, st2⟩ := getF X1 hx hZ hown (host := "") (Or.inl (hw _ (List.mem_of_getElem? (i := 18) rfl))) Via.refl e1 h_1 (g := (mkF m 84 #[.val (.ref a1), .val (.int (0 : Int32)), .val (.int i2), .unset, .unset, .unset] [(.ref a1)])) rfl rfl (hb hby d4_84)
  refine own_k (T' := T2) (g' := (mkF m 87 #[.val (.ref a1), .val (.int (0 : Int32)), .val (.int i2), .unset, .unset, .unset] [(.ref a3)])) st2 ?_
  refine own_k (T' := T2) (g' := (mkF m 88 #[.val (.ref a1), .val (.int (0 : Int32)), .val (.int i2), .unset, .unset, .unset] [(.int (0 : Int32)), (.ref a3)])) (fun _ k_ => XS.iloadN X2.here hx rfl (hb hby d4_87) rfl  k_) ?_
  refine own_k (T' := T2) (g' := (mkF m 89 #[.val (.ref a1), .val (.int (0 : Int32)), .val (.int i2), .unset, .unset, .unset] [(.int i2), (.int (0 : Int32)), (.ref a3)])) (fun _ k_ => XS.iloadN X2.here hx rfl (hb hby d4_88) rfl  k_) ?_
  refine own_k (T' := T2) (g' := (mkF m 91 #[.val (.ref a1), .val (.int (0 : Int32)), .val (.int i2), .unset, .unset, .unset] [(.int (32768 : Int32)), (.int i2), (.int (0 : Int32)), (.ref a3)])) (X2.ldcInt hx hown (mvT hZ (hw _ (List.mem_of_getElem? (i := 31) rfl))) (g := (mkF m 89 #[.val (.ref a1), .val (.int (0 : Int32)), .val (.int i2), .unset, .unset, .unset] [(.int i2), (.int (0 : Int32)), (.ref a3)])) rfl (hb hby d4_89)) ?_
  refine own_k (T' := T2) (g' := (mkF m 92 #[.val (.ref a1), .val (.int (0 : Int32)), .val (.int i2), .unset, .unset, .unset] [(.int (i2 - (32768 : Int32))), (.int (0 : Int32)), (.ref a3)])) (fun _ k_ => XS.isub X2.here hx rfl (hb hby d4_91) rfl k_) ?_
  obtain ⟨T3, h3, X3, e3, W3, V3, st3⟩ := own_iastore (pc := 92) (Ls := #[.val (.ref a1), .val (.int (0 : Int32)), .val (.int i2), .unset, .unset, .unset]) (rest := []) X2 hx hZ e2 h_2 (j := (0 : Int32)) (x := (i2 - (32768 : Int32))) ⟨by decide, by decide⟩ 0 rfl (Nat.le_of_ble_eq_true rfl) (hb hby d4_92)
  have V3 : Arv Z h3 a3 q4 .int (1 : Int32) [(.int (i2 - (32768 : Int32)))] (.int (0 : Int32)) := V3
  have O3' := O0.wr W3 h_3
  have N3 := Fr.snoc X3 N0 h_3
  refine own_k (T' := T3) (g' := (mkF m 93 #[.val (.ref a1), .val (.int (0 : Int32)), .val (.int i2), .unset, .unset, .unset] [])) st3 ?_
  refine own_k (T' := T3) (g' := (mkF m 94 #[.val (.ref a1), .val (.int (0 : Int32)), .val (.int i2), .unset, .unset, .unset] [(.ref a1)])) (fun _ k_ => XS.aloadN X3.here hx rfl (hb hby d4_93) rfl rfl  k_) ?_
  obtain ⟨T4, X4, e4, st4⟩ := getF X3 hx hZ hown (host := "") (Or.inl (hw _ (List.mem_of_getElem? (i := 11) rfl))) Via.refl e3 (h_4.other W3 (Or.inl h_5)) (g := (mkF m 94 #[.val (.ref a1), .val (.int (0 : Int32)), .val (.int i2), .unset, .unset, .unset] [(.ref a1)])) rfl rfl (hb hby d4_94)
  refine own_k (T' := T4) (g' := (mkF m 97 #[.val (.ref a1), .val (.int (0 : Int32)), .val (.int i2), .unset, .unset, .unset] [(.ref a5)])) st4 ?_
  refine own_k (T' := T4) (g' := (mkF m 98 #[.val (.ref a1), .val (.int (0 : Int32)), .val (.int i2), .unset, .unset, .unset] [(.int (0 : Int32)), (.ref a5)])) (fun _ k_ => XS.iloadN X4.here hx rfl (hb hby d4_97) rfl  k_) ?_
  refine own_k (T' := T4) (g' := (mkF m 99 #[.val (.ref a1), .val (.int (0 : Int32)), .val (.int i2), .unset, .unset, .unset] [(.int (0 : Int32)), (.int (0 : Int32)), (.ref a5)])) (fun _ k_ => XS.iloadN X4.here hx rfl (hb hby d4_98) rfl  k_) ?_
  refine own_k (T' := T4) (g' := (mkF m 102 #[.val (.ref a1), .val (.int (0 : Int32)), .val (.int i2), .unset, .unset, .unset] [(.int (0 : Int32)), (.ref a5)])) (fun _ k_ => XS.ifNo X4.here hx rfl (hb hby d4_99) rfl ((if0 _ _).trans (teq (by decide : ((0 : Int32) = (0 : Int32)))).2) k_) ?_
  refine own_k (T' := T4) (g' := (mkF m 104 #[.val (.ref a1), .val (.int (0 : Int32)), .val (.int i2), .unset, .unset, .unset] [(.int (16 : Int32)), (.int (0 : Int32)), (.ref a5)])) (fun _ k_ => XS.bipush X4.here hx rfl (hb hby d4_102) k_) ?_
  refine own_k (T' := T4) (g' := (mkF m 110 #[.val (.ref a1), .val (.int (0 : Int32)), .val (.int i2), .unset, .unset, .unset] [(.int (16 : Int32)), (.int (0 : Int32)), (.ref a5)])) (fun _ k_ => XS.goto X4.here hx rfl (pc0 := 104) (pc' := 110) rfl (hb hby d4_104) (by decide) (by decide) k_) ?_
  obtain ⟨T5, h5, k5, X5, e5, E5, V5, A5, st5⟩ := own_newarr (pc := 110) (Ls := #[.val (.ref a1), .val (.int (0 : Int32)), .val (.int i2), .unset, .unset, .unset]) (rest := [(.int (0 : Int32)), (.ref a5)]) X4 hx hZ (hw _ (List.mem_of_getElem? (i := 32) rfl)) e4 (hb hby d4_110) (n := (16 : Int32)) (by decide) (cap := 16) (by decide) (by decide) (by decide) (by decide) (ad := "[S") (by decide)
  obtain ⟨b5, g5⟩ : ∃ z, z = h3.size := ⟨_, rfl⟩
  rw [← g5] at V5 A5 st5
  have O5' := O3'.ext E5
  have V5 : Arv Z h5 b5 k5 .short (16 : Int32) [(.int (0 : Int32)), (.int (0 : Int32)), (.int (0 : Int32)), (.int (0 : Int32)), (.int (0 : Int32)), (.int (0 : Int32)), (.int (0 : Int32)), (.int (0 : Int32)), (.int (0 : Int32)), (.int (0 : Int32)), (.int (0 : Int32)), (.int (0 : Int32)), (.int (0 : Int32)), (.int (0 : Int32)), (.int (0 : Int32)), (.int (0 : Int32))] (.int (0 : Int32)) := V5
  refine own_k (T' := T5) (g' := (mkF m 112 #[.val (.ref a1), .val (.int (0 : Int32)), .val (.int i2), .unset, .unset, .unset] [(.ref b5), (.int (0 : Int32)), (.ref a5)])) st5 ?_
  obtain ⟨T6, h6, X6, e6, W6, V6, st6⟩ := own_aastore (pc := 112) (Ls := #[.val (.ref a1), .val (.int (0 : Int32)), .val (.int i2), .unset, .unset, .unset]) (rest := []) X5 hx hZ e5 ((h_6.other W3 h_7).ext E5) rfl (j := (0 : Int32)) (v := (.ref b5)) ⟨by decide, by decide⟩ rfl (fun cl A q => Sto.ofVA A q h_8 (Ins.self A5)) 0 rfl (Nat.le_of_ble_eq_true rfl) (hb hby d4_112)
  have V6 : Arv Z h6 a5 q6 (.array .short) (1 : Int32) [(.ref b5)] .null := V6
  have O6' := O5'.wr W6 h_9
  have N6 := Fr.snoc X6 N3 h_9
  refine own_k (T' := T6) (g' := (mkF m 113 #[.val (.ref a1), .val (.int (0 : Int32)), .val (.int i2), .unset, .unset, .unset] [])) st6 ?_
  have kp0 : Keep h0 h0 [a3, a5] := Keep.refl h0 [a3, a5]
  have kp1 : Keep h0 h3 [a3, a5] := kp0.wr W3 (Or.inl (List.mem_of_getElem? (i := 0) rfl))
  have kp2 : Keep h0 h5 [a3, a5] := kp1.ext E5
  have kp3 : Keep h0 h6 [a3, a5] := kp2.wr W6 (Or.inl (List.mem_of_getElem? (i := 1) rfl))
  have f7 := (V5.other W6 (Ne.symm (Nat.ne_of_lt (Nat.lt_of_lt_of_le (Nat.lt_of_lt_of_le h_6.lt (Keep.of_wr W3).1) (Nat.le_of_eq g5.symm)))))
  exact own_ret0 X6 hx hret hlk (hb hby d4_113) hF (by rw [e6]; exact ⟨b5, k5, rfl, N6, kp3, (Nat.le_trans kp1.1 (Nat.le_of_eq g5.symm)), ((V3.ext E5).other W6 h_10), V6, f7, (A5.wr W6)⟩) (by decide) (by decide)
theorem d3_27 : decode prog_69_method_4_code 27 = .ok (.goto 18, 3) := by decide +kernel
theorem d3_45 : decode prog_69_method_4_code 45 = .ok (.iload_n 1, 1) := by decide +kernel
theorem d3_46 : decode prog_69_method_4_code 46 = .ok (.aload_n 0, 1) := by decide +kernel
theorem d3_47 : decode prog_69_method_4_code 47 = .ok (.getfield 21, 3) := by decide +kernel
theorem d3_50 : decode prog_69_method_4_code 50 = .ok (.iload_n 2, 1) := by decide +kernel
theorem d3_51 : decode prog_69_method_4_code 51 = .ok (.iaload, 1) := by decide +kernel
theorem d3_52 : decode prog_69_method_4_code 52 = .ok (.isub, 1) := by decide +kernel
theorem d3_53 : decode prog_69_method_4_code 53 = .ok (.istore 4, 2) := by decide +kernel
theorem d3_55 : decode prog_69_method_4_code 55 = .ok (.aload_n 0, 1) := by decide +kernel
theorem d3_56 : decode prog_69_method_4_code 56 = .ok (.getfield 11, 3) := by decide +kernel
theorem d3_59 : decode prog_69_method_4_code 59 = .ok (.iload_n 2, 1) := by decide +kernel
theorem d3_60 : decode prog_69_method_4_code 60 = .ok (.aaload, 1) := by decide +kernel
theorem d3_61 : decode prog_69_method_4_code 61 = .ok (.ifnull 17, 3) := by decide +kernel
theorem d3_64 : decode prog_69_method_4_code 64 = .ok (.iload 4, 2) := by decide +kernel
theorem d3_66 : decode prog_69_method_4_code 66 = .ok (.bipush 16, 2) := by decide +kernel
theorem d3_68 : decode prog_69_method_4_code 68 = .ok (.iushr, 1) := by decide +kernel
theorem d3_69 : decode prog_69_method_4_code 69 = .ok (.ifCond .eq 9, 3) := by decide +kernel
theorem d3_78 : decode prog_69_method_4_code 78 = .ok (.aload_n 0, 1) := by decide +kernel
theorem d3_79 : decode prog_69_method_4_code 79 = .ok (.getfield 11, 3) := by decide +kernel
theorem d3_82 : decode prog_69_method_4_code 82 = .ok (.iload_n 2, 1) := by decide +kernel
theorem d3_83 : decode prog_69_method_4_code 83 = .ok (.aaload, 1) := by decide +kernel
theorem d3_84 : decode prog_69_method_4_code 84 = .ok (.ifnull 17, 3) := by decide +kernel
theorem d3_87 : decode prog_69_method_4_code 87 = .ok (.aload_n 0, 1) := by decide +kernel
theorem d3_88 : decode prog_69_method_4_code 88 = .ok (.getfield 11, 3) := by decide +kernel
theorem d3_91 : decode prog_69_method_4_code 91 = .ok (.iload_n 2, 1) := by decide +kernel
theorem d3_92 : decode prog_69_method_4_code 92 = .ok (.aaload, 1) := by decide +kernel
theorem d3_93 : decode prog_69_method_4_code 93 = .ok (.iload_n 3, 1) := by decide +kernel
theorem d3_94 : decode prog_69_method_4_code 94 = .ok (.iload 4, 2) := by decide +kernel
theorem d3_96 : decode prog_69_method_4_code 96 = .ok (.i2s, 1) := by decide +kernel
theorem d3_97 : decode prog_69_method_4_code 97 = .ok (.sastore, 1) := by decide +kernel
theorem d3_98 : decode prog_69_method_4_code 98 = .ok (.goto 12, 3) := by decide +kernel
theorem d3_110 : decode prog_69_method_4_code 110 = .ok (.aload_n 0, 1) := by decide +kernel
theorem d3_111 : decode prog_69_method_4_code 111 = .ok (.dup, 1) := by decide +kernel
theorem d3_112 : decode prog_69_method_4_code 112 = .ok (.getfield 24, 3) := by decide +kernel
theorem d3_115 : decode prog_69_method_4_code 115 = .ok (.iconst 1, 1) := by decide +kernel
theorem d3_116 : decode prog_69_method_4_code 116 = .ok (.iadd, 1) := by decide +kernel
theorem d3_117 : decode prog_69_method_4_code 117 = .ok (.putfield 24, 3) := by decide +kernel
theorem d3_120 : decode prog_69_method_4_code 120 = .ok (.return_, 1) := by decide +kernel
set_option maxRecDepth 65536 in
set_option maxHeartbeats 40000000 in
theorem rm_add_2 (l : Launch) (Z : State) (a0 : Array Value)  (hW : own_W Z a0) (a1 : Addr) (i2 : Int32) (a3 : Addr) (q4 : ClassId) (a5 : Addr) (q6 : ClassId) (a7 : Addr) (h0 : Heap) (O0 : Old Z Z.heap.size h0) (h_1 : Fld Z h0 a1 "com/example/control_design_check/controldesigncheck/lts/IntBlocks" "size" "I" (.int (0 : Int32))) (h_2 : Fld Z h0 a1 "com/example/control_design_check/controldesigncheck/lts/IntBlocks" "bases" "[I" (.ref a3)) (h_3 : Arv Z h0 a3 q4 .int (1 : Int32) [(.int (0 : Int32))] (.int (0 : Int32))) (h_4 : Z.heap.size ≤ a3) (h_5 : Fld Z h0 a1 "com/example/control_design_check/controldesigncheck/lts/IntBlocks" "narrow" "[[S" (.ref a5)) (h_6 : a1 ≠ a3) (h_7 : Arv Z h0 a5 q6 (.array .short) (1 : Int32) [.null] .null) (h_8 : a5 ≠ a3) (h_9 : OvrA Z q6 .short "[S") (h_10 : Z.heap.size ≤ a5) (h_11 : a3 ≠ a5) (h_12 : Exa Z h0 a1 "com/example/control_design_check/controldesigncheck/lts/IntBlocks") (h_13 : a1 ≠ a5) (h_14 : ((((i2 - (i2 - (32768 : Int32))).toUInt32 >>> ((16 : Int32) &&& 31).toUInt32).toInt32) = (0 : Int32))) (h_15 : Z.heap.size ≤ a1) (h_16 : a3 ≠ a1) (h_17 : Exa Z h0 a3 "[I") (h_18 : a5 ≠ a1) (h_19 : Exa Z h0 a5 "[[S") (h_20 : Fld Z h0 a1 "com/example/control_design_check/controldesigncheck/lts/IntBlocks" "wide" "[[I" (.ref a7)) :
    own_Met l Z (⟨"com/example/control_design_check/controldesigncheck/lts/IntBlocks", "add", "(I)V"⟩ : MethodName) prog_69_method_4_code 5 none ({ frames := 1, cells := 1, slots := 16, locals := 17 } : Room) #[(.ref a1), (.int i2)] h0 (fun v h L => ∃ (b3_0 : Addr) (k3_1 : ClassId), v = none ∧ Fr Z.heap.size L ∧ Keep h0 h [a3, a5, a1] ∧ h0.size ≤ b3_0 ∧ Arv Z h a3 q4 .int (1 : Int32) [(.int (i2 - (32768 : Int32)))] (.int (0 : Int32)) ∧ Exa Z h a3 "[I" ∧ Arv Z h a5 q6 (.array .short) (1 : Int32) [(.ref b3_0)] .null ∧ Exa Z h a5 "[[S" ∧ Fld Z h a1 "com/example/control_design_check/controldesigncheck/lts/IntBlocks" "size" "I" (.int (1 : Int32)) ∧ Fld Z h a1 "com/example/control_design_check/controldesigncheck/lts/IntBlocks" "bases" "[I" (.ref a3) ∧ Fld Z h a1 "com/example/control_design_check/controldesigncheck/lts/IntBlocks" "narrow" "[[S" (.ref a5) ∧ Exa Z h a1 "com/example/control_design_check/controldesigncheck/lts/IntBlocks" ∧ Fld Z h a1 "com/example/control_design_check/controldesigncheck/lts/IntBlocks" "wide" "[[I" (.ref a7) ∧ Arv Z h b3_0 k3_1 .short (16 : Int32) [(.int ((i2 - (i2 - (32768 : Int32))).toInt16.toInt32)), (.int (0 : Int32)), (.int (0 : Int32)), (.int (0 : Int32)), (.int (0 : Int32)), (.int (0 : Int32)), (.int (0 : Int32)), (.int (0 : Int32)), (.int (0 : Int32)), (.int (0 : Int32)), (.int (0 : Int32)), (.int (0 : Int32)), (.int (0 : Int32)), (.int (0 : Int32)), (.int (0 : Int32)), (.int (0 : Int32))] (.int (0 : Int32)) ∧ Exa Z h b3_0 "[S") := by
  have hw : ∀ d ∈ tables_1, d.before a0 Z = true := hW
  refine own_met (plainFor_of_name pn_com_example_control_design_check_controldesigncheck_lts_IntBlocks) ?_
  intro p e s m below meth cc_ s₁ Φ hF X0 hx hby hml hZ hown hnm hret hlk e0
  have N0 := Fr.nil Z.heap.size
  refine own_k (T' := s₁) (g' := (mkF m 0 #[.val (.ref a1), .val (.int i2), .unset, .unset, .unset] [])) (fun _ k_ => castTop (ef_3_RI m a1 i2) k_) ?_
  refine own_k (T' := s₁) (g' := (mkF m 1 #[.val (.ref a1), .val (.int i2), .unset, .unset, .unset] [(.ref a1)])) (fun _ k_ => XS.aloadN X0.here hx rfl (hb hby d3_0) rfl rfl  k_) ?_
  obtain ⟨T1, X1, e1, st1⟩ := getF X0 hx hZ hown (host := "") (Or.inl (hw _ (List.mem_of_getElem? (i := 25) rfl))) Via.refl e0 h_1 (g := (mkF m 1 #[.val (.ref a1), .val (.int i2), .unset, .unset, .unset] [(.ref a1)])) rfl rfl (hb hby d3_1)
  refine own_k (T' := T1) (g' := (mkF m 4 #[.val (.ref a1), .val (.int i2), .unset, .unset, .unset] [(.int (0 : Int32))])) st1 ?_
  refine own_k (T' := T1) (g' := (mkF m 6 #[.val (.ref a1), .val (.int i2), .unset, .unset, .unset] [(.int (14 : Int32)), (.int (0 : Int32))])) (fun _ k_ => XS.bipush X1.here hx rfl (hb hby d3_4) k_) ?_
  refine own_k (T' := T1) (g' := (mkF m 7 #[.val (.ref a1), .val (.int i2), .unset, .unset, .unset] [(.int (((0 : Int32).toUInt32 >>> ((14 : Int32) &&& 31).toUInt32).toInt32))])) (fun _ k_ => XS.iushr X1.here hx rfl (hb hby d3_6) rfl k_) ?_
  rw [show (((0 : Int32).toUInt32 >>> ((14 : Int32) &&& 31).toUInt32).toInt32) = (0 : Int32) from by decide]
  refine own_k (T' := T1) (g' := (mkF m 8 #[.val (.ref a1), .val (.int i2), .val (.int (0 : Int32)), .unset, .unset] [])) (fun _ k_ => XS.istoreN X1.here hx rfl (hb hby d3_7) rfl (l' := #[.val (.ref a1), .val (.int i2), .val (.int (0 : Int32)), .unset, .unset]) rfl k_) ?_
  refine own_k (T' := T1) (g' := (mkF m 9 #[.val (.ref a1), .val (.int i2), .val (.int (0 : Int32)), .unset, .unset] [(.ref a1)])) (fun _ k_ => XS.aloadN X1.here hx rfl (hb hby d3_8) rfl rfl  k_) ?_
  obtain ⟨T2, X2, e2, st2⟩ := getF X1 hx hZ hown (host := "") (Or.inl (hw _ (List.mem_of_getElem? (i := 25) rfl))) Via.refl e1 h_1 (g := (mkF m 9 #[.val (.ref a1), .val (.int i2), .val (.int (0 : Int32)), .unset, .unset] [(.ref a1)])) rfl rfl (hb hby d3_9)
  refine own_k (T' := T2) (g' := (mkF m 12 #[.val (.ref a1), .val (.int i2), .val (.int (0 : Int32)), .unset, .unset] [(.int (0 : Int32))])) st2 ?_
  refine own_k (T' := T2) (g' := (mkF m 15 #[.val (.ref a1), .val (.int i2), .val (.int (0 : Int32)), .unset, .unset] [(.int (16383 : Int32)), (.int (0 : Int32))])) (fun _ k_ => XS.sipush X2.here hx rfl (hb hby d3_12) k_) ?_
  refine own_k (T' := T2) (g' := (mkF m 16 #[.val (.ref a1), .val (.int i2), .val (.int (0 : Int32)), .unset, .unset] [(.int ((0 : Int32) &&& (16383 : Int32)))])) (fun _ k_ => XS.iand X2.here hx rfl (hb hby d3_15) rfl k_) ?_
  rw [show ((0 : Int32) &&& (16383 : Int32)) = (0 : Int32) from by decide]
  refine own_k (T' := T2) (g' := (mkF m 17 #[.val (.ref a1), .val (.int i2), .val (.int (0 : Int32)), .val (.int (0 : Int32)), .unset] [])) (fun _ k_ => XS.istoreN X2.here hx rfl (hb hby d3_16) rfl (l' := #[.val (.ref a1), .val (.int i2), .val (.int (0 : Int32)), .val (.int (0 : Int32)), .unset]) rfl k_) ?_
  refine own_k (T' := T2) (g' := (mkF m 18 #[.val (.ref a1), .val (.int i2), .val (.int (0 : Int32)), .val (.int (0 : Int32)), .unset] [(.int (0 : Int32))])) (fun _ k_ => XS.iloadN X2.here hx rfl (hb hby d3_17) rfl  k_) ?_
  refine own_k (T' := T2) (g' := (mkF m 21 #[.val (.ref a1), .val (.int i2), .val (.int (0 : Int32)), .val (.int (0 : Int32)), .unset] [])) (fun _ k_ => XS.ifNo X2.here hx rfl (hb hby d3_18) rfl ((if0 _ _).trans (teq (by decide : ((0 : Int32) = (0 : Int32)))).2) k_) ?_
  refine own_k (T' := T2) (g' := (mkF m 22 #[.val (.ref a1), .val (.int i2), .val (.int (0 : Int32)), .val (.int (0 : Int32)), .unset] [(.ref a1)])) (fun _ k_ => XS.aloadN X2.here hx rfl (hb hby d3_21) rfl rfl  k_) ?_
  refine own_k (T' := T2) (g' := (mkF m 23 #[.val (.ref a1), .val (.int i2), .val (.int (0 : Int32)), .val (.int (0 : Int32)), .unset] [(.int (0 : Int32)), (.ref a1)])) (fun _ k_ => XS.iloadN X2.here hx rfl (hb hby d3_22) rfl  k_) ?_
  refine own_k (T' := T2) (g' := (mkF m 24 #[.val (.ref a1), .val (.int i2), .val (.int (0 : Int32)), .val (.int (0 : Int32)), .unset] [(.int i2), (.int (0 : Int32)), (.ref a1)])) (fun _ k_ => XS.iloadN X2.here hx rfl (hb hby d3_23) rfl  k_) ?_
  refine own_callP X2 hx hZ (y := (⟨"com/example/control_design_check/controldesigncheck/lts/IntBlocks", "start", "(II)V"⟩ : MethodName)) hown (hw _ (List.mem_of_getElem? (i := 27) rfl)) (hw _ (List.mem_of_getElem? (i := 28) rfl)) (hw _ (List.mem_of_getElem? (i := 29) rfl)) (hw _ (List.mem_of_getElem? (i := 30) rfl)) (hw _ (List.mem_of_getElem? (i := 2) rfl)) (hw _ (List.mem_of_getElem? (i := 1) rfl)) (by decide) (al := [(.int (0 : Int32)), (.int i2)]) h_12 (rm_start_1 l Z a0 hW a1 i2 a3 q4 a5 q6 h0 O0 h_2 h_3 h_4 h_5 h_6 h_7 h_8 h_9 h_10 h_11) 0 (by decide) (by decide) e2 (by decide) (by decide) (by rw [hml]; rfl) (lenOf pd__28II_29V rfl) rfl (rest := []) (by show 2 * 0 + _ ≤ _; exact Nat.le_of_eq rfl) (hb hby d3_24) ?_
  intro v3 T3 L3 X3 hQ3
  obtain ⟨b3_0, k3_1, rfl, Nq3, K3, ge3_0, q3_0, q3_1, q3_2, q3_3⟩ := hQ3
  have N3 := Fr.app N0 Nq3
  have O3' := O0.keep K3 (allS h_4 (allS h_10 all0))
  show own_Go p e below Φ T3 (mkF m 27 #[.val (.ref a1), .val (.int i2), .val (.int (0 : Int32)), .val (.int (0 : Int32)), .unset] [])
  refine own_k (T' := T3) (g' := (mkF m 45 #[.val (.ref a1), .val (.int i2), .val (.int (0 : Int32)), .val (.int (0 : Int32)), .unset] [])) (fun _ k_ => XS.goto X3.here hx rfl (pc0 := 27) (pc' := 45) rfl (hb hby d3_27) (by decide) (by decide) k_) ?_
  refine own_k (T' := T3) (g' := (mkF m 46 #[.val (.ref a1), .val (.int i2), .val (.int (0 : Int32)), .val (.int (0 : Int32)), .unset] [(.int i2)])) (fun _ k_ => XS.iloadN X3.here hx rfl (hb hby d3_45) rfl  k_) ?_
  refine own_k (T' := T3) (g' := (mkF m 47 #[.val (.ref a1), .val (.int i2), .val (.int (0 : Int32)), .val (.int (0 : Int32)), .unset] [(.ref a1), (.int i2)])) (fun _ k_ => XS.aloadN X3.here hx rfl (hb hby d3_46) rfl rfl  k_) ?_
  obtain ⟨T4, X4, e4, st4⟩ := getF X3 hx hZ hown (host := "") (Or.inl (hw _ (List.mem_of_getElem? (i := 18) rfl))) Via.refl rfl (h_2.keep K3 (ninS h_6 (ninS h_13 nin0))) (g := (mkF m 47 #[.val (.ref a1), .val (.int i2), .val (.int (0 : Int32)), .val (.int (0 : Int32)), .unset] [(.ref a1), (.int i2)])) rfl rfl (hb hby d3_47)
  refine own_k (T' := T4) (g' := (mkF m 50 #[.val (.ref a1), .val (.int i2), .val (.int (0 : Int32)), .val (.int (0 : Int32)), .unset] [(.ref a3), (.int i2)])) st4 ?_
  refine own_k (T' := T4) (g' := (mkF m 51 #[.val (.ref a1), .val (.int i2), .val (.int (0 : Int32)), .val (.int (0 : Int32)), .unset] [(.int (0 : Int32)), (.ref a3), (.int i2)])) (fun _ k_ => XS.iloadN X4.here hx rfl (hb hby d3_50) rfl  k_) ?_
  refine own_iaload X4 hx hZ e4 q3_0 (j := (0 : Int32)) ⟨by decide, by decide⟩ (v := (.int (i2 - (32768 : Int32)))) rfl (hb hby d3_51) ?_
  show own_Go p e below Φ T4 (mkF m 52 #[.val (.ref a1), .val (.int i2), .val (.int (0 : Int32)), .val (.int (0 : Int32)), .unset] [(.int (i2 - (32768 : Int32))), (.int i2)])
  refine own_k (T' := T4) (g' := (mkF m 53 #[.val (.ref a1), .val (.int i2), .val (.int (0 : Int32)), .val (.int (0 : Int32)), .unset] [(.int (i2 - (i2 - (32768 : Int32))))])) (fun _ k_ => XS.isub X4.here hx rfl (hb hby d3_52) rfl k_) ?_
  refine own_k (T' := T4) (g' := (mkF m 55 #[.val (.ref a1), .val (.int i2), .val (.int (0 : Int32)), .val (.int (0 : Int32)), .val (.int (i2 - (i2 - (32768 : Int32))))] [])) (fun _ k_ => XS.istore X4.here hx rfl (hb hby d3_53) rfl (l' := #[.val (.ref a1), .val (.int i2), .val (.int (0 : Int32)), .val (.int (0 : Int32)), .val (.int (i2 - (i2 - (32768 : Int32))))]) rfl k_) ?_
  refine own_k (T' := T4) (g' := (mkF m 56 #[.val (.ref a1), .val (.int i2), .val (.int (0 : Int32)), .val (.int (0 : Int32)), .val (.int (i2 - (i2 - (32768 : Int32))))] [(.ref a1)])) (fun _ k_ => XS.aloadN X4.here hx rfl (hb hby d3_55) rfl rfl  k_) ?_
  obtain ⟨T5, X5, e5, st5⟩ := getF X4 hx hZ hown (host := "") (Or.inl (hw _ (List.mem_of_getElem? (i := 11) rfl))) Via.refl e4 (h_5.keep K3 (ninS h_6 (ninS h_13 nin0))) (g := (mkF m 56 #[.val (.ref a1), .val (.int i2), .val (.int (0 : Int32)), .val (.int (0 : Int32)), .val (.int (i2 - (i2 - (32768 : Int32))))] [(.ref a1)])) rfl rfl (hb hby d3_56)
  refine own_k (T' := T5) (g' := (mkF m 59 #[.val (.ref a1), .val (.int i2), .val (.int (0 : Int32)), .val (.int (0 : Int32)), .val (.int (i2 - (i2 - (32768 : Int32))))] [(.ref a5)])) st5 ?_
  refine own_k (T' := T5) (g' := (mkF m 60 #[.val (.ref a1), .val (.int i2), .val (.int (0 : Int32)), .val (.int (0 : Int32)), .val (.int (i2 - (i2 - (32768 : Int32))))] [(.int (0 : Int32)), (.ref a5)])) (fun _ k_ => XS.iloadN X5.here hx rfl (hb hby d3_59) rfl  k_) ?_
  refine own_aaload X5 hx hZ e5 q3_1 rfl (j := (0 : Int32)) ⟨by decide, by decide⟩ (v := (.ref b3_0)) rfl (hb hby d3_60) ?_
  show own_Go p e below Φ T5 (mkF m 61 #[.val (.ref a1), .val (.int i2), .val (.int (0 : Int32)), .val (.int (0 : Int32)), .val (.int (i2 - (i2 - (32768 : Int32))))] [(.ref b3_0)])
  refine own_k (T' := T5) (g' := (mkF m 64 #[.val (.ref a1), .val (.int i2), .val (.int (0 : Int32)), .val (.int (0 : Int32)), .val (.int (i2 - (i2 - (32768 : Int32))))] [])) (fun _ k_ => XS.ifnullNo X5.here hx rfl (hb hby d3_61) rfl k_) ?_
  refine own_k (T' := T5) (g' := (mkF m 66 #[.val (.ref a1), .val (.int i2), .val (.int (0 : Int32)), .val (.int (0 : Int32)), .val (.int (i2 - (i2 - (32768 : Int32))))] [(.int (i2 - (i2 - (32768 : Int32))))])) (fun _ k_ => XS.iload X5.here hx rfl (hb hby d3_64) rfl  k_) ?_
  refine own_k (T' := T5) (g' := (mkF m 68 #[.val (.ref a1), .val (.int i2), .val (.int (0 : Int32)), .val (.int (0 : Int32)), .val (.int (i2 - (i2 - (32768 : Int32))))] [(.int (16 : Int32)), (.int (i2 - (i2 - (32768 : Int32))))])) (fun _ k_ => XS.bipush X5.here hx rfl (hb hby d3_66) k_) ?_
  refine own_k (T' := T5) (g' := (mkF m 69 #[.val (.ref a1), .val (.int i2), .val (.int (0 : Int32)), .val (.int (0 : Int32)), .val (.int (i2 - (i2 - (32768 : Int32))))] [(.int (((i2 - (i2 - (32768 : Int32))).toUInt32 >>> ((16 : Int32) &&& 31).toUInt32).toInt32))])) (fun _ k_ => XS.iushr X5.here hx rfl (hb hby d3_68) rfl k_) ?_
  refine own_k (T' := T5) (g' := (mkF m 78 #[.val (.ref a1), .val (.int i2), .val (.int (0 : Int32)), .val (.int (0 : Int32)), .val (.int (i2 - (i2 - (32768 : Int32))))] [])) (fun _ k_ => XS.ifYes X5.here hx rfl (pc0 := 69) (pc' := 78) rfl (hb hby d3_69) rfl ((if0 _ _).trans (teq h_14).1) (by decide) (by decide) k_) ?_
  refine own_k (T' := T5) (g' := (mkF m 79 #[.val (.ref a1), .val (.int i2), .val (.int (0 : Int32)), .val (.int (0 : Int32)), .val (.int (i2 - (i2 - (32768 : Int32))))] [(.ref a1)])) (fun _ k_ => XS.aloadN X5.here hx rfl (hb hby d3_78) rfl rfl  k_) ?_
  obtain ⟨T6, X6, e6, st6⟩ := getF X5 hx hZ hown (host := "") (Or.inl (hw _ (List.mem_of_getElem? (i := 11) rfl))) Via.refl e5 (h_5.keep K3 (ninS h_6 (ninS h_13 nin0))) (g := (mkF m 79 #[.val (.ref a1), .val (.int i2), .val (.int (0 : Int32)), .val (.int (0 : Int32)), .val (.int (i2 - (i2 - (32768 : Int32))))] [(.ref a1)])) rfl rfl (hb hby d3_79)
  refine own_k (T' := T6) (g' := (mkF m 82 #[.val (.ref a1), .val (.int i2), .val (.int (0 : Int32)), .val (.int (0 : Int32)), .val (.int (i2 - (i2 - (32768 : Int32))))] [(.ref a5)])) st6 ?_
  refine own_k (T' := T6) (g' := (mkF m 83 #[.val (.ref a1), .val (.int i2), .val (.int (0 : Int32)), .val (.int (0 : Int32)), .val (.int (i2 - (i2 - (32768 : Int32))))] [(.int (0 : Int32)), (.ref a5)])) (fun _ k_ => XS.iloadN X6.here hx rfl (hb hby d3_82) rfl  k_) ?_
  refine own_aaload X6 hx hZ e6 q3_1 rfl (j := (0 : Int32)) ⟨by decide, by decide⟩ (v := (.ref b3_0)) rfl (hb hby d3_83) ?_
  show own_Go p e below Φ T6 (mkF m 84 #[.val (.ref a1), .val (.int i2), .val (.int (0 : Int32)), .val (.int (0 : Int32)), .val (.int (i2 - (i2 - (32768 : Int32))))] [(.ref b3_0)])
  refine own_k (T' := T6) (g' := (mkF m 87 #[.val (.ref a1), .val (.int i2), .val (.int (0 : Int32)), .val (.int (0 : Int32)), .val (.int (i2 - (i2 - (32768 : Int32))))] [])) (fun _ k_ => XS.ifnullNo X6.here hx rfl (hb hby d3_84) rfl k_) ?_
  refine own_k (T' := T6) (g' := (mkF m 88 #[.val (.ref a1), .val (.int i2), .val (.int (0 : Int32)), .val (.int (0 : Int32)), .val (.int (i2 - (i2 - (32768 : Int32))))] [(.ref a1)])) (fun _ k_ => XS.aloadN X6.here hx rfl (hb hby d3_87) rfl rfl  k_) ?_
  obtain ⟨T7, X7, e7, st7⟩ := getF X6 hx hZ hown (host := "") (Or.inl (hw _ (List.mem_of_getElem? (i := 11) rfl))) Via.refl e6 (h_5.keep K3 (ninS h_6 (ninS h_13 nin0))) (g := (mkF m 88 #[.val (.ref a1), .val (.int i2), .val (.int (0 : Int32)), .val (.int (0 : Int32)), .val (.int (i2 - (i2 - (32768 : Int32))))] [(.ref a1)])) rfl rfl (hb hby d3_88)
  refine own_k (T' := T7) (g' := (mkF m 91 #[.val (.ref a1), .val (.int i2), .val (.int (0 : Int32)), .val (.int (0 : Int32)), .val (.int (i2 - (i2 - (32768 : Int32))))] [(.ref a5)])) st7 ?_
  refine own_k (T' := T7) (g' := (mkF m 92 #[.val (.ref a1), .val (.int i2), .val (.int (0 : Int32)), .val (.int (0 : Int32)), .val (.int (i2 - (i2 - (32768 : Int32))))] [(.int (0 : Int32)), (.ref a5)])) (fun _ k_ => XS.iloadN X7.here hx rfl (hb hby d3_91) rfl  k_) ?_
  refine own_aaload X7 hx hZ e7 q3_1 rfl (j := (0 : Int32)) ⟨by decide, by decide⟩ (v := (.ref b3_0)) rfl (hb hby d3_92) ?_
  show own_Go p e below Φ T7 (mkF m 93 #[.val (.ref a1), .val (.int i2), .val (.int (0 : Int32)), .val (.int (0 : Int32)), .val (.int (i2 - (i2 - (32768 : Int32))))] [(.ref b3_0)])
  refine own_k (T' := T7) (g' := (mkF m 94 #[.val (.ref a1), .val (.int i2), .val (.int (0 : Int32)), .val (.int (0 : Int32)), .val (.int (i2 - (i2 - (32768 : Int32))))] [(.int (0 : Int32)), (.ref b3_0)])) (fun _ k_ => XS.iloadN X7.here hx rfl (hb hby d3_93) rfl  k_) ?_
  refine own_k (T' := T7) (g' := (mkF m 96 #[.val (.ref a1), .val (.int i2), .val (.int (0 : Int32)), .val (.int (0 : Int32)), .val (.int (i2 - (i2 - (32768 : Int32))))] [(.int (i2 - (i2 - (32768 : Int32)))), (.int (0 : Int32)), (.ref b3_0)])) (fun _ k_ => XS.iload X7.here hx rfl (hb hby d3_94) rfl  k_) ?_
  refine own_k (T' := T7) (g' := (mkF m 97 #[.val (.ref a1), .val (.int i2), .val (.int (0 : Int32)), .val (.int (0 : Int32)), .val (.int (i2 - (i2 - (32768 : Int32))))] [(.int ((i2 - (i2 - (32768 : Int32))).toInt16.toInt32)), (.int (0 : Int32)), (.ref b3_0)])) (fun _ k_ => XS.i2s X7.here hx rfl (hb hby d3_96) rfl k_) ?_
  obtain ⟨T8, h8, X8, e8, W8, V8, st8⟩ := own_sastore (pc := 97) (Ls := #[.val (.ref a1), .val (.int i2), .val (.int (0 : Int32)), .val (.int (0 : Int32)), .val (.int (i2 - (i2 - (32768 : Int32))))]) (rest := []) X7 hx hZ e7 q3_2 (j := (0 : Int32)) (x := ((i2 - (i2 - (32768 : Int32))).toInt16.toInt32)) ⟨by decide, by decide⟩ 0 rfl (Nat.le_of_ble_eq_true rfl) (hb hby d3_97)
  have V8 : Arv Z h8 b3_0 k3_1 .short (16 : Int32) [(.int (nar .short ((i2 - (i2 - (32768 : Int32))).toInt16.toInt32))), (.int (0 : Int32)), (.int (0 : Int32)), (.int (0 : Int32)), (.int (0 : Int32)), (.int (0 : Int32)), (.int (0 : Int32)), (.int (0 : Int32)), (.int (0 : Int32)), (.int (0 : Int32)), (.int (0 : Int32)), (.int (0 : Int32)), (.int (0 : Int32)), (.int (0 : Int32)), (.int (0 : Int32)), (.int (0 : Int32))] (.int (0 : Int32)) := V8
  rw [show nar .short ((i2 - (i2 - (32768 : Int32))).toInt16.toInt32) = ((i2 - (i2 - (32768 : Int32))).toInt16.toInt32) from own_nar_short _] at V8
  have O8' := O3'.wr W8 (Nat.le_trans O0.2.1 ge3_0)
  have N8 := Fr.snoc X8 N3 (Nat.le_trans O0.2.1 ge3_0)
  refine own_k (T' := T8) (g' := (mkF m 98 #[.val (.ref a1), .val (.int i2), .val (.int (0 : Int32)), .val (.int (0 : Int32)), .val (.int (i2 - (i2 - (32768 : Int32))))] [])) st8 ?_
  refine own_k (T' := T8) (g' := (mkF m 110 #[.val (.ref a1), .val (.int i2), .val (.int (0 : Int32)), .val (.int (0 : Int32)), .val (.int (i2 - (i2 - (32768 : Int32))))] [])) (fun _ k_ => XS.goto X8.here hx rfl (pc0 := 98) (pc' := 110) rfl (hb hby d3_98) (by decide) (by decide) k_) ?_
  refine own_k (T' := T8) (g' := (mkF m 111 #[.val (.ref a1), .val (.int i2), .val (.int (0 : Int32)), .val (.int (0 : Int32)), .val (.int (i2 - (i2 - (32768 : Int32))))] [(.ref a1)])) (fun _ k_ => XS.aloadN X8.here hx rfl (hb hby d3_110) rfl rfl  k_) ?_
  refine own_k (T' := T8) (g' := (mkF m 112 #[.val (.ref a1), .val (.int i2), .val (.int (0 : Int32)), .val (.int (0 : Int32)), .val (.int (i2 - (i2 - (32768 : Int32))))] [(.ref a1), (.ref a1)])) (fun _ k_ => XS.dup X8.here hx rfl (hb hby d3_111) rfl rfl k_) ?_
  have f9 := ((h_1.keep K3 (ninS h_6 (ninS h_13 nin0))).other W8 (Or.inl (Nat.ne_of_lt (Nat.lt_of_lt_of_le h_1.lt ge3_0))))
  obtain ⟨T10, X10, e10, st10⟩ := getF X8 hx hZ hown (host := "") (Or.inl (hw _ (List.mem_of_getElem? (i := 25) rfl))) Via.refl e8 f9 (g := (mkF m 112 #[.val (.ref a1), .val (.int i2), .val (.int (0 : Int32)), .val (.int (0 : Int32)), .val (.int (i2 - (i2 - (32768 : Int32))))] [(.ref a1), (.ref a1)])) rfl rfl (hb hby d3_112)
  refine own_k (T' := T10) (g' := (mkF m 115 #[.val (.ref a1), .val (.int i2), .val (.int (0 : Int32)), .val (.int (0 : Int32)), .val (.int (i2 - (i2 - (32768 : Int32))))] [(.int (0 : Int32)), (.ref a1)])) st10 ?_
  refine own_k (T' := T10) (g' := (mkF m 116 #[.val (.ref a1), .val (.int i2), .val (.int (0 : Int32)), .val (.int (0 : Int32)), .val (.int (i2 - (i2 - (32768 : Int32))))] [(.int (1 : Int32)), (.int (0 : Int32)), (.ref a1)])) (fun _ k_ => XS.iconst X10.here hx rfl (hb hby d3_115) k_) ?_
  refine own_k (T' := T10) (g' := (mkF m 117 #[.val (.ref a1), .val (.int i2), .val (.int (0 : Int32)), .val (.int (0 : Int32)), .val (.int (i2 - (i2 - (32768 : Int32))))] [(.int ((0 : Int32) + (1 : Int32))), (.ref a1)])) (fun _ k_ => XS.iadd X10.here hx rfl (hb hby d3_116) rfl k_) ?_
  rw [show ((0 : Int32) + (1 : Int32)) = (1 : Int32) from by decide]
  obtain ⟨T11, h11, X11, e11, W11, st11⟩ := putF X10 hx hZ hown (host := "") (Or.inl (hw _ (List.mem_of_getElem? (i := 25) rfl))) Via.refl e10 f9 ((h_12.keep K3).wr W8) (Or.inl (hw _ (List.mem_of_getElem? (i := 26) rfl))) (hw _ (List.mem_of_getElem? (i := 1) rfl)) (ty := .int) (by decide) rfl rfl (g := (mkF m 117 #[.val (.ref a1), .val (.int i2), .val (.int (0 : Int32)), .val (.int (0 : Int32)), .val (.int (i2 - (i2 - (32768 : Int32))))] [(.int (1 : Int32)), (.ref a1)])) rfl rfl (hb hby d3_117)
  have w11 := Fld.same W11 f9
  have O11' := O8'.wr W11 h_15
  have N11 := Fr.snoc X11 N8 h_15
  refine own_k (T' := T11) (g' := (mkF m 120 #[.val (.ref a1), .val (.int i2), .val (.int (0 : Int32)), .val (.int (0 : Int32)), .val (.int (i2 - (i2 - (32768 : Int32))))] [])) st11 ?_
  have kp0 : Keep h0 h0 [a3, a5, a1] := Keep.refl h0 [a3, a5, a1]
  have kp1 : Keep h0 T3.heap [a3, a5, a1] := kp0.trans K3 (allS (Or.inl (List.mem_of_getElem? (i := 0) rfl)) (allS (Or.inl (List.mem_of_getElem? (i := 1) rfl)) all0))
  have kp2 : Keep h0 h8 [a3, a5, a1] := kp1.wr W8 (Or.inr (Nat.le_trans kp0.1 ge3_0))
  have kp3 : Keep h0 h11 [a3, a5, a1] := kp2.wr W11 (Or.inl (List.mem_of_getElem? (i := 2) rfl))
  have f12 := ((q3_0.other W8 (Nat.ne_of_lt (Nat.lt_of_lt_of_le h_3.lt ge3_0))).other W11 h_16)
  have f13 := ((q3_1.other W8 (Nat.ne_of_lt (Nat.lt_of_lt_of_le h_7.lt ge3_0))).other W11 h_18)
  have f14 := (((h_2.keep K3 (ninS h_6 (ninS h_13 nin0))).other W8 (Or.inl (Nat.ne_of_lt (Nat.lt_of_lt_of_le h_1.lt ge3_0)))).other W11 (Or.inr (slot_ne (Or.inl (hw _ (List.mem_of_getElem? (i := 19) rfl))) (Or.inl (hw _ (List.mem_of_getElem? (i := 26) rfl))) (by decide) (t := (.array .int)) (t' := .int) (by decide) (by decide))))
  have f15 := (((h_5.keep K3 (ninS h_6 (ninS h_13 nin0))).other W8 (Or.inl (Nat.ne_of_lt (Nat.lt_of_lt_of_le h_1.lt ge3_0)))).other W11 (Or.inr (slot_ne (Or.inl (hw _ (List.mem_of_getElem? (i := 12) rfl))) (Or.inl (hw _ (List.mem_of_getElem? (i := 26) rfl))) (by decide) (t := (.array (.array .short))) (t' := .int) (by decide) (by decide))))
  have f16 := (((h_20.keep K3 (ninS h_6 (ninS h_13 nin0))).other W8 (Or.inl (Nat.ne_of_lt (Nat.lt_of_lt_of_le h_1.lt ge3_0)))).other W11 (Or.inr (slot_ne (Or.inl (hw _ (List.mem_of_getElem? (i := 16) rfl))) (Or.inl (hw _ (List.mem_of_getElem? (i := 26) rfl))) (by decide) (t := (.array (.array .int))) (t' := .int) (by decide) (by decide))))
  have f17 := (V8.other W11 (Ne.symm (Nat.ne_of_lt (Nat.lt_of_lt_of_le h_1.lt ge3_0))))
  exact own_ret0 X11 hx hret hlk (hb hby d3_120) hF (by rw [e11]; exact ⟨b3_0, k3_1, rfl, N11, kp3, (Nat.le_trans kp0.1 ge3_0), f12, (((h_17.keep K3).wr W8).wr W11), f13, (((h_19.keep K3).wr W8).wr W11), w11, f14, f15, (((h_12.keep K3).wr W8).wr W11), f16, f17, ((q3_3.wr W8).wr W11)⟩) (by decide) (by decide)
theorem d3_30 : decode prog_69_method_4_code 30 = .ok (.iload_n 3, 1) := by decide +kernel
theorem d3_31 : decode prog_69_method_4_code 31 = .ok (.aload_n 0, 1) := by decide +kernel
theorem d3_32 : decode prog_69_method_4_code 32 = .ok (.iload_n 2, 1) := by decide +kernel
theorem d3_33 : decode prog_69_method_4_code 33 = .ok (.invokevirtual 33, 3) := by decide +kernel
theorem pd__28I_29I : parseMethodDescriptor "(I)I" = some ⟨[.int], some .int⟩ := by decide +kernel
theorem ef_5_RI (m : MethodId) (x0 : Addr) (x1 : Int32)  : entryFrame m #[(.ref x0), (.int x1)] 2 = mkF m 0 #[.val (.ref x0), .val (.int x1)] [] := by first | (simp [entryFrame, mkF, argsToLocals, Value.category]; done) | rfl
theorem d5_0 : decode prog_69_method_6_code 0 = .ok (.aload_n 0, 1) := by decide +kernel
theorem d5_1 : decode prog_69_method_6_code 1 = .ok (.getfield 11, 3) := by decide +kernel
theorem d5_4 : decode prog_69_method_6_code 4 = .ok (.iload_n 1, 1) := by decide +kernel
theorem d5_5 : decode prog_69_method_6_code 5 = .ok (.aaload, 1) := by decide +kernel
theorem d5_6 : decode prog_69_method_6_code 6 = .ok (.ifnull 13, 3) := by decide +kernel
theorem d5_9 : decode prog_69_method_6_code 9 = .ok (.aload_n 0, 1) := by decide +kernel
theorem d5_10 : decode prog_69_method_6_code 10 = .ok (.getfield 11, 3) := by decide +kernel
theorem d5_13 : decode prog_69_method_6_code 13 = .ok (.iload_n 1, 1) := by decide +kernel
theorem d5_14 : decode prog_69_method_6_code 14 = .ok (.aaload, 1) := by decide +kernel
theorem d5_15 : decode prog_69_method_6_code 15 = .ok (.arraylength, 1) := by decide +kernel
theorem d5_16 : decode prog_69_method_6_code 16 = .ok (.goto 10, 3) := by decide +kernel
theorem d5_26 : decode prog_69_method_6_code 26 = .ok (.ireturn, 1) := by decide +kernel
set_option maxRecDepth 65536 in
set_option maxHeartbeats 40000000 in
theorem rm_capacity_3 (l : Launch) (Z : State) (a0 : Array Value)  (hW : own_W Z a0) (a1 : Addr) (a2 : Addr) (q3 : ClassId) (a4 : Addr) (q5 : ClassId) (i6 : Int32) (h0 : Heap) (O0 : Old Z Z.heap.size h0) (h_1 : Fld Z h0 a1 "com/example/control_design_check/controldesigncheck/lts/IntBlocks" "narrow" "[[S" (.ref a2)) (h_2 : Arv Z h0 a2 q3 (.array .short) (1 : Int32) [(.ref a4)] .null) (h_3 : Arv Z h0 a4 q5 .short (16 : Int32) [(.int i6), (.int (0 : Int32)), (.int (0 : Int32)), (.int (0 : Int32)), (.int (0 : Int32)), (.int (0 : Int32)), (.int (0 : Int32)), (.int (0 : Int32)), (.int (0 : Int32)), (.int (0 : Int32)), (.int (0 : Int32)), (.int (0 : Int32)), (.int (0 : Int32)), (.int (0 : Int32)), (.int (0 : Int32)), (.int (0 : Int32))] (.int (0 : Int32))) :
    own_Met l Z (⟨"com/example/control_design_check/controldesigncheck/lts/IntBlocks", "capacity", "(I)I"⟩ : MethodName) prog_69_method_6_code 2 (some .int) ({ frames := 0, cells := 0, slots := 0, locals := 0 } : Room) #[(.ref a1), (.int (0 : Int32))] h0 (fun v h L => v = some (.int (16 : Int32)) ∧ Fr Z.heap.size L ∧ h = h0) := by
  have hw : ∀ d ∈ tables_1, d.before a0 Z = true := hW
  refine own_met (plainFor_of_name pn_com_example_control_design_check_controldesigncheck_lts_IntBlocks) ?_
  intro p e s m below meth cc_ s₁ Φ hF X0 hx hby hml hZ hown hnm hret hlk e0
  have N0 := Fr.nil Z.heap.size
  refine own_k (T' := s₁) (g' := (mkF m 0 #[.val (.ref a1), .val (.int (0 : Int32))] [])) (fun _ k_ => castTop (ef_5_RI m a1 (0 : Int32)) k_) ?_
  refine own_k (T' := s₁) (g' := (mkF m 1 #[.val (.ref a1), .val (.int (0 : Int32))] [(.ref a1)])) (fun _ k_ => XS.aloadN X0.here hx rfl (hb hby d5_0) rfl rfl  k_) ?_
  obtain ⟨T1, X1, e1, st1⟩ := getF X0 hx hZ hown (host := "") (Or.inl (hw _ (List.mem_of_getElem? (i := 11) rfl))) Via.refl e0 h_1 (g := (mkF m 1 #[.val (.ref a1), .val (.int (0 : Int32))] [(.ref a1)])) rfl rfl (hb hby d5_1)
  refine own_k (T' := T1) (g' := (mkF m 4 #[.val (.ref a1), .val (.int (0 : Int32))] [(.ref a2)])) st1 ?_
  refine own_k (T' := T1) (g' := (mkF m 5 #[.val (.ref a1), .val (.int (0 : Int32))] [(.int (0 : Int32)), (.ref a2)])) (fun _ k_ => XS.iloadN X1.here hx rfl (hb hby d5_4) rfl  k_) ?_
  refine own_aaload X1 hx hZ e1 h_2 rfl (j := (0 : Int32)) ⟨by decide, by decide⟩ (v := (.ref a4)) rfl (hb hby d5_5) ?_
  show own_Go p e below Φ T1 (mkF m 6 #[.val (.ref a1), .val (.int (0 : Int32))] [(.ref a4)])
  refine own_k (T' := T1) (g' := (mkF m 9 #[.val (.ref a1), .val (.int (0 : Int32))] [])) (fun _ k_ => XS.ifnullNo X1.here hx rfl (hb hby d5_6) rfl k_) ?_
  refine own_k (T' := T1) (g' := (mkF m 10 #[.val (.ref a1), .val (.int (0 : Int32))] [(.ref a1)])) (fun _ k_ => XS.aloadN X1.here hx rfl (hb hby d5_9) rfl rfl  k_) ?_
  obtain ⟨T2, X2, e2, st2⟩ := getF X1 hx hZ hown (host := "") (Or.inl (hw _ (List.mem_of_getElem? (i := 11) rfl))) Via.refl e1 h_1 (g := (mkF m 10 #[.val (.ref a1), .val (.int (0 : Int32))] [(.ref a1)])) rfl rfl (hb hby d5_10)
  refine own_k (T' := T2) (g' := (mkF m 13 #[.val (.ref a1), .val (.int (0 : Int32))] [(.ref a2)])) st2 ?_
  refine own_k (T' := T2) (g' := (mkF m 14 #[.val (.ref a1), .val (.int (0 : Int32))] [(.int (0 : Int32)), (.ref a2)])) (fun _ k_ => XS.iloadN X2.here hx rfl (hb hby d5_13) rfl  k_) ?_
  refine own_aaload X2 hx hZ e2 h_2 rfl (j := (0 : Int32)) ⟨by decide, by decide⟩ (v := (.ref a4)) rfl (hb hby d5_14) ?_
  show own_Go p e below Φ T2 (mkF m 15 #[.val (.ref a1), .val (.int (0 : Int32))] [(.ref a4)])
  refine own_len X2 hx hZ e2 h_3 (hb hby d5_15) ?_
  show own_Go p e below Φ T2 (mkF m 16 #[.val (.ref a1), .val (.int (0 : Int32))] [(.int (16 : Int32))])
  refine own_k (T' := T2) (g' := (mkF m 26 #[.val (.ref a1), .val (.int (0 : Int32))] [(.int (16 : Int32))])) (fun _ k_ => XS.goto X2.here hx rfl (pc0 := 16) (pc' := 26) rfl (hb hby d5_16) (by decide) (by decide) k_) ?_
  exact own_retI X2 hx hret hlk (hb hby d5_26) hF (by rw [e2]; exact ⟨rfl, N0, rfl⟩) (by decide) (by decide)
theorem d3_36 : decode prog_69_method_4_code 36 = .ok (.if_icmp .ne 9, 3) := by decide +kernel
set_option maxRecDepth 65536 in
set_option maxHeartbeats 40000000 in
theorem rm_add_4 (l : Launch) (Z : State) (a0 : Array Value)  (hW : own_W Z a0) (a1 : Addr) (i2 : Int32) (a3 : Addr) (q4 : ClassId) (a5 : Addr) (q6 : ClassId) (i7 : Int32) (a8 : Addr) (q9 : ClassId) (i10 : Int32) (a11 : Addr) (h0 : Heap) (O0 : Old Z Z.heap.size h0) (h_1 : Fld Z h0 a1 "com/example/control_design_check/controldesigncheck/lts/IntBlocks" "size" "I" (.int (1 : Int32))) (h_2 : Fld Z h0 a1 "com/example/control_design_check/controldesigncheck/lts/IntBlocks" "narrow" "[[S" (.ref a3)) (h_3 : Arv Z h0 a3 q4 (.array .short) (1 : Int32) [(.ref a5)] .null) (h_4 : Arv Z h0 a5 q6 .short (16 : Int32) [(.int i7), (.int (0 : Int32)), (.int (0 : Int32)), (.int (0 : Int32)), (.int (0 : Int32)), (.int (0 : Int32)), (.int (0 : Int32)), (.int (0 : Int32)), (.int (0 : Int32)), (.int (0 : Int32)), (.int (0 : Int32)), (.int (0 : Int32)), (.int (0 : Int32)), (.int (0 : Int32)), (.int (0 : Int32)), (.int (0 : Int32))] (.int (0 : Int32))) (h_5 : Exa Z h0 a1 "com/example/control_design_check/controldesigncheck/lts/IntBlocks") (h_6 : Fld Z h0 a1 "com/example/control_design_check/controldesigncheck/lts/IntBlocks" "bases" "[I" (.ref a8)) (h_7 : Arv Z h0 a8 q9 .int (1 : Int32) [(.int i10)] (.int (0 : Int32))) (h_8 : ((((i2 - i10).toUInt32 >>> ((16 : Int32) &&& 31).toUInt32).toInt32) = (0 : Int32))) (h_9 : Z.heap.size ≤ a5) (h_10 : a1 ≠ a5) (h_11 : Z.heap.size ≤ a1) (h_12 : a5 ≠ a1) (h_13 : Exa Z h0 a5 "[S") (h_14 : Fld Z h0 a1 "com/example/control_design_check/controldesigncheck/lts/IntBlocks" "wide" "[[I" (.ref a11)) :
    own_Met l Z (⟨"com/example/control_design_check/controldesigncheck/lts/IntBlocks", "add", "(I)V"⟩ : MethodName) prog_69_method_4_code 5 none ({ frames := 1, cells := 0, slots := 0, locals := 14 } : Room) #[(.ref a1), (.int i2)] h0 (fun v h L => v = none ∧ Fr Z.heap.size L ∧ Keep h0 h [a5, a1] ∧ Arv Z h a5 q6 .short (16 : Int32) [(.int i7), (.int ((i2 - i10).toInt16.toInt32)), (.int (0 : Int32)), (.int (0 : Int32)), (.int (0 : Int32)), (.int (0 : Int32)), (.int (0 : Int32)), (.int (0 : Int32)), (.int (0 : Int32)), (.int (0 : Int32)), (.int (0 : Int32)), (.int (0 : Int32)), (.int (0 : Int32)), (.int (0 : Int32)), (.int (0 : Int32)), (.int (0 : Int32))] (.int (0 : Int32)) ∧ Exa Z h a5 "[S" ∧ Fld Z h a1 "com/example/control_design_check/controldesigncheck/lts/IntBlocks" "size" "I" (.int (2 : Int32)) ∧ Fld Z h a1 "com/example/control_design_check/controldesigncheck/lts/IntBlocks" "narrow" "[[S" (.ref a3) ∧ Exa Z h a1 "com/example/control_design_check/controldesigncheck/lts/IntBlocks" ∧ Fld Z h a1 "com/example/control_design_check/controldesigncheck/lts/IntBlocks" "bases" "[I" (.ref a8) ∧ Fld Z h a1 "com/example/control_design_check/controldesigncheck/lts/IntBlocks" "wide" "[[I" (.ref a11)) := by
  have hw : ∀ d ∈ tables_1, d.before a0 Z = true := hW
  refine own_met (plainFor_of_name pn_com_example_control_design_check_controldesigncheck_lts_IntBlocks) ?_
  intro p e s m below meth cc_ s₁ Φ hF X0 hx hby hml hZ hown hnm hret hlk e0
  have N0 := Fr.nil Z.heap.size
  refine own_k (T' := s₁) (g' := (mkF m 0 #[.val (.ref a1), .val (.int i2), .unset, .unset, .unset] [])) (fun _ k_ => castTop (ef_3_RI m a1 i2) k_) ?_
  refine own_k (T' := s₁) (g' := (mkF m 1 #[.val (.ref a1), .val (.int i2), .unset, .unset, .unset] [(.ref a1)])) (fun _ k_ => XS.aloadN X0.here hx rfl (hb hby d3_0) rfl rfl  k_) ?_
  obtain ⟨T1, X1, e1, st1⟩ := getF X0 hx hZ hown (host := "") (Or.inl (hw _ (List.mem_of_getElem? (i := 25) rfl))) Via.refl e0 h_1 (g := (mkF m 1 #[.val (.ref a1), .val (.int i2), .unset, .unset, .unset] [(.ref a1)])) rfl rfl (hb hby d3_1)
  refine own_k (T' := T1) (g' := (mkF m 4 #[.val (.ref a1), .val (.int i2), .unset, .unset, .unset] [(.int (1 : Int32))])) st1 ?_
  refine own_k (T' := T1) (g' := (mkF m 6 #[.val (.ref a1), .val (.int i2), .unset, .unset, .unset] [(.int (14 : Int32)), (.int (1 : Int32))])) (fun _ k_ => XS.bipush X1.here hx rfl (hb hby d3_4) k_) ?_
  refine own_k (T' := T1) (g' := (mkF m 7 #[.val (.ref a1), .val (.int i2), .unset, .unset, .unset] [(.int (((1 : Int32).toUInt32 >>> ((14 : Int32) &&& 31).toUInt32).toInt32))])) (fun _ k_ => XS.iushr X1.here hx rfl (hb hby d3_6) rfl k_) ?_
  rw [show (((1 : Int32).toUInt32 >>> ((14 : Int32) &&& 31).toUInt32).toInt32) = (0 : Int32) from by decide]
  refine own_k (T' := T1) (g' := (mkF m 8 #[.val (.ref a1), .val (.int i2), .val (.int (0 : Int32)), .unset, .unset] [])) (fun _ k_ => XS.istoreN X1.here hx rfl (hb hby d3_7) rfl (l' := #[.val (.ref a1), .val (.int i2), .val (.int (0 : Int32)), .unset, .unset]) rfl k_) ?_
  refine own_k (T' := T1) (g' := (mkF m 9 #[.val (.ref a1), .val (.int i2), .val (.int (0 : Int32)), .unset, .unset] [(.ref a1)])) (fun _ k_ => XS.aloadN X1.here hx rfl (hb hby d3_8) rfl rfl  k_) ?_
  obtain ⟨T2, X2, e2, st2⟩ := getF X1 hx hZ hown (host := "") (Or.inl (hw _ (List.mem_of_getElem? (i := 25) rfl))) Via.refl e1 h_1 (g := (mkF m 9 #[.val (.ref a1), .val (.int i2), .val (.int (0 : Int32)), .unset, .unset] [(.ref a1)])) rfl rfl (hb hby d3_9)
  refine own_k (T' := T2) (g' := (mkF m 12 #[.val (.ref a1), .val (.int i2), .val (.int (0 : Int32)), .unset, .unset] [(.int (1 : Int32))])) st2 ?_
  refine own_k (T' := T2) (g' := (mkF m 15 #[.val (.ref a1), .val (.int i2), .val (.int (0 : Int32)), .unset, .unset] [(.int (16383 : Int32)), (.int (1 : Int32))])) (fun _ k_ => XS.sipush X2.here hx rfl (hb hby d3_12) k_) ?_
  refine own_k (T' := T2) (g' := (mkF m 16 #[.val (.ref a1), .val (.int i2), .val (.int (0 : Int32)), .unset, .unset] [(.int ((1 : Int32) &&& (16383 : Int32)))])) (fun _ k_ => XS.iand X2.here hx rfl (hb hby d3_15) rfl k_) ?_
  rw [show ((1 : Int32) &&& (16383 : Int32)) = (1 : Int32) from by decide]
  refine own_k (T' := T2) (g' := (mkF m 17 #[.val (.ref a1), .val (.int i2), .val (.int (0 : Int32)), .val (.int (1 : Int32)), .unset] [])) (fun _ k_ => XS.istoreN X2.here hx rfl (hb hby d3_16) rfl (l' := #[.val (.ref a1), .val (.int i2), .val (.int (0 : Int32)), .val (.int (1 : Int32)), .unset]) rfl k_) ?_
  refine own_k (T' := T2) (g' := (mkF m 18 #[.val (.ref a1), .val (.int i2), .val (.int (0 : Int32)), .val (.int (1 : Int32)), .unset] [(.int (1 : Int32))])) (fun _ k_ => XS.iloadN X2.here hx rfl (hb hby d3_17) rfl  k_) ?_
  refine own_k (T' := T2) (g' := (mkF m 30 #[.val (.ref a1), .val (.int i2), .val (.int (0 : Int32)), .val (.int (1 : Int32)), .unset] [])) (fun _ k_ => XS.ifYes X2.here hx rfl (pc0 := 18) (pc' := 30) rfl (hb hby d3_18) rfl ((if0 _ _).trans (feq (by decide : ¬ ((1 : Int32) = (0 : Int32)))).2) (by decide) (by decide) k_) ?_
  refine own_k (T' := T2) (g' := (mkF m 31 #[.val (.ref a1), .val (.int i2), .val (.int (0 : Int32)), .val (.int (1 : Int32)), .unset] [(.int (1 : Int32))])) (fun _ k_ => XS.iloadN X2.here hx rfl (hb hby d3_30) rfl  k_) ?_
  refine own_k (T' := T2) (g' := (mkF m 32 #[.val (.ref a1), .val (.int i2), .val (.int (0 : Int32)), .val (.int (1 : Int32)), .unset] [(.ref a1), (.int (1 : Int32))])) (fun _ k_ => XS.aloadN X2.here hx rfl (hb hby d3_31) rfl rfl  k_) ?_
  refine own_k (T' := T2) (g' := (mkF m 33 #[.val (.ref a1), .val (.int i2), .val (.int (0 : Int32)), .val (.int (1 : Int32)), .unset] [(.int (0 : Int32)), (.ref a1), (.int (1 : Int32))])) (fun _ k_ => XS.iloadN X2.here hx rfl (hb hby d3_32) rfl  k_) ?_
  refine own_callP X2 hx hZ (y := (⟨"com/example/control_design_check/controldesigncheck/lts/IntBlocks", "capacity", "(I)I"⟩ : MethodName)) hown (hw _ (List.mem_of_getElem? (i := 34) rfl)) (hw _ (List.mem_of_getElem? (i := 35) rfl)) (hw _ (List.mem_of_getElem? (i := 36) rfl)) (hw _ (List.mem_of_getElem? (i := 37) rfl)) (hw _ (List.mem_of_getElem? (i := 2) rfl)) (hw _ (List.mem_of_getElem? (i := 1) rfl)) (by decide) (al := [(.int (0 : Int32))]) h_5 (rm_capacity_3 l Z a0 hW a1 a3 q4 a5 q6 i7 h0 O0 h_2 h_3 h_4) 1 (by decide) (by decide) e2 (by decide) (by decide) (by rw [hml]; rfl) (lenOf pd__28I_29I rfl) rfl (rest := [(.int (1 : Int32))]) (by show 2 * 0 + _ ≤ _; exact Nat.le_of_eq rfl) (hb hby d3_33) ?_
  intro v3 T3 L3 X3 hQ3
  obtain ⟨rfl, Nq3, e3⟩ := hQ3
  have N3 := Fr.app N0 Nq3
  show own_Go p e below Φ T3 (mkF m 36 #[.val (.ref a1), .val (.int i2), .val (.int (0 : Int32)), .val (.int (1 : Int32)), .unset] [(.int (16 : Int32)), (.int (1 : Int32))])
  refine own_k (T' := T3) (g' := (mkF m 45 #[.val (.ref a1), .val (.int i2), .val (.int (0 : Int32)), .val (.int (1 : Int32)), .unset] [])) (fun _ k_ => XS.icmpYes X3.here hx rfl (pc0 := 36) (pc' := 45) rfl (hb hby d3_36) rfl ((feq (by decide : ¬ ((1 : Int32) = (16 : Int32)))).2) (by decide) (by decide) k_) ?_
  refine own_k (T' := T3) (g' := (mkF m 46 #[.val (.ref a1), .val (.int i2), .val (.int (0 : Int32)), .val (.int (1 : Int32)), .unset] [(.int i2)])) (fun _ k_ => XS.iloadN X3.here hx rfl (hb hby d3_45) rfl  k_) ?_
  refine own_k (T' := T3) (g' := (mkF m 47 #[.val (.ref a1), .val (.int i2), .val (.int (0 : Int32)), .val (.int (1 : Int32)), .unset] [(.ref a1), (.int i2)])) (fun _ k_ => XS.aloadN X3.here hx rfl (hb hby d3_46) rfl rfl  k_) ?_
  obtain ⟨T4, X4, e4, st4⟩ := getF X3 hx hZ hown (host := "") (Or.inl (hw _ (List.mem_of_getElem? (i := 18) rfl))) Via.refl e3 h_6 (g := (mkF m 47 #[.val (.ref a1), .val (.int i2), .val (.int (0 : Int32)), .val (.int (1 : Int32)), .unset] [(.ref a1), (.int i2)])) rfl rfl (hb hby d3_47)
  refine own_k (T' := T4) (g' := (mkF m 50 #[.val (.ref a1), .val (.int i2), .val (.int (0 : Int32)), .val (.int (1 : Int32)), .unset] [(.ref a8), (.int i2)])) st4 ?_
  refine own_k (T' := T4) (g' := (mkF m 51 #[.val (.ref a1), .val (.int i2), .val (.int (0 : Int32)), .val (.int (1 : Int32)), .unset] [(.int (0 : Int32)), (.ref a8), (.int i2)])) (fun _ k_ => XS.iloadN X4.here hx rfl (hb hby d3_50) rfl  k_) ?_
  refine own_iaload X4 hx hZ e4 h_7 (j := (0 : Int32)) ⟨by decide, by decide⟩ (v := (.int i10)) rfl (hb hby d3_51) ?_
  show own_Go p e below Φ T4 (mkF m 52 #[.val (.ref a1), .val (.int i2), .val (.int (0 : Int32)), .val (.int (1 : Int32)), .unset] [(.int i10), (.int i2)])
  refine own_k (T' := T4) (g' := (mkF m 53 #[.val (.ref a1), .val (.int i2), .val (.int (0 : Int32)), .val (.int (1 : Int32)), .unset] [(.int (i2 - i10))])) (fun _ k_ => XS.isub X4.here hx rfl (hb hby d3_52) rfl k_) ?_
  refine own_k (T' := T4) (g' := (mkF m 55 #[.val (.ref a1), .val (.int i2), .val (.int (0 : Int32)), .val (.int (1 : Int32)), .val (.int (i2 - i10))] [])) (fun _ k_ => XS.istore X4.here hx rfl (hb hby d3_53) rfl (l' := #[.val (.ref a1), .val (.int i2), .val (.int (0 : Int32)), .val (.int (1 : Int32)), .val (.int (i2 - i10))]) rfl k_) ?_
  refine own_k (T' := T4) (g' := (mkF m 56 #[.val (.ref a1), .val (.int i2), .val (.int (0 : Int32)), .val (.int (1 : Int32)), .val (.int (i2 - i10))] [(.ref a1)])) (fun _ k_ => XS.aloadN X4.here hx rfl (hb hby d3_55) rfl rfl  k_) ?_
  obtain ⟨T5, X5, e5, st5⟩ := getF X4 hx hZ hown (host := "") (Or.inl (hw _ (List.mem_of_getElem? (i := 11) rfl))) Via.refl e4 h_2 (g := (mkF m 56 #[.val (.ref a1), .val (.int i2), .val (.int (0 : Int32)), .val (.int (1 : Int32)), .val (.int (i2 - i10))] [(.ref a1)])) rfl rfl (hb hby d3_56)
  refine own_k (T' := T5) (g' := (mkF m 59 #[.val (.ref a1), .val (.int i2), .val (.int (0 : Int32)), .val (.int (1 : Int32)), .val (.int (i2 - i10))] [(.ref a3)])) st5 ?_
  refine own_k (T' := T5) (g' := (mkF m 60 #[.val (.ref a1), .val (.int i2), .val (.int (0 : Int32)), .val (.int (1 : Int32)), .val (.int (i2 - i10))] [(.int (0 : Int32)), (.ref a3)])) (fun _ k_ => XS.iloadN X5.here hx rfl (hb hby d3_59) rfl  k_) ?_
  refine own_aaload X5 hx hZ e5 h_3 rfl (j := (0 : Int32)) ⟨by decide, by decide⟩ (v := (.ref a5)) rfl (hb hby d3_60) ?_
  show own_Go p e below Φ T5 (mkF m 61 #[.val (.ref a1), .val (.int i2), .val (.int (0 : Int32)), .val (.int (1 : Int32)), .val (.int (i2 - i10))] [(.ref a5)])
  refine own_k (T' := T5) (g' := (mkF m 64 #[.val (.ref a1), .val (.int i2), .val (.int (0 : Int32)), .val (.int (1 : Int32)), .val (.int (i2 - i10))] [])) (fun _ k_ => XS.ifnullNo X5.here hx rfl (hb hby d3_61) rfl k_) ?_
  refine own_k (T' := T5) (g' := (mkF m 66 #[.val (.ref a1), .val (.int i2), .val (.int (0 : Int32)), .val (.int (1 : Int32)), .val (.int (i2 - i10))] [(.int (i2 - i10))])) (fun _ k_ => XS.iload X5.here hx rfl (hb hby d3_64) rfl  k_) ?_
  refine own_k (T' := T5) (g' := (mkF m 68 #[.val (.ref a1), .val (.int i2), .val (.int (0 : Int32)), .val (.int (1 : Int32)), .val (.int (i2 - i10))] [(.int (16 : Int32)), (.int (i2 - i10))])) (fun _ k_ => XS.bipush X5.here hx rfl (hb hby d3_66) k_) ?_
  refine own_k (T' := T5) (g' := (mkF m 69 #[.val (.ref a1), .val (.int i2), .val (.int (0 : Int32)), .val (.int (1 : Int32)), .val (.int (i2 - i10))] [(.int (((i2 - i10).toUInt32 >>> ((16 : Int32) &&& 31).toUInt32).toInt32))])) (fun _ k_ => XS.iushr X5.here hx rfl (hb hby d3_68) rfl k_) ?_
  refine own_k (T' := T5) (g' := (mkF m 78 #[.val (.ref a1), .val (.int i2), .val (.int (0 : Int32)), .val (.int (1 : Int32)), .val (.int (i2 - i10))] [])) (fun _ k_ => XS.ifYes X5.here hx rfl (pc0 := 69) (pc' := 78) rfl (hb hby d3_69) rfl ((if0 _ _).trans (teq h_8).1) (by decide) (by decide) k_) ?_
  refine own_k (T' := T5) (g' := (mkF m 79 #[.val (.ref a1), .val (.int i2), .val (.int (0 : Int32)), .val (.int (1 : Int32)), .val (.int (i2 - i10))] [(.ref a1)])) (fun _ k_ => XS.aloadN X5.here hx rfl (hb hby d3_78) rfl rfl  k_) ?_
  obtain ⟨T6, X6, e6, st6⟩ := getF X5 hx hZ hown (host := "") (Or.inl (hw _ (List.mem_of_getElem? (i := 11) rfl))) Via.refl e5 h_2 (g := (mkF m 79 #[.val (.ref a1), .val (.int i2), .val (.int (0 : Int32)), .val (.int (1 : Int32)), .val (.int (i2 - i10))] [(.ref a1)])) rfl rfl (hb hby d3_79)
  refine own_k (T' := T6) (g' := (mkF m 82 #[.val (.ref a1), .val (.int i2), .val (.int (0 : Int32)), .val (.int (1 : Int32)), .val (.int (i2 - i10))] [(.ref a3)])) st6 ?_
  refine own_k (T' := T6) (g' := (mkF m 83 #[.val (.ref a1), .val (.int i2), .val (.int (0 : Int32)), .val (.int (1 : Int32)), .val (.int (i2 - i10))] [(.int (0 : Int32)), (.ref a3)])) (fun _ k_ => XS.iloadN X6.here hx rfl (hb hby d3_82) rfl  k_) ?_
  refine own_aaload X6 hx hZ e6 h_3 rfl (j := (0 : Int32)) ⟨by decide, by decide⟩ (v := (.ref a5)) rfl (hb hby d3_83) ?_
  show own_Go p e below Φ T6 (mkF m 84 #[.val (.ref a1), .val (.int i2), .val (.int (0 : Int32)), .val (.int (1 : Int32)), .val (.int (i2 - i10))] [(.ref a5)])
  refine own_k (T' := T6) (g' := (mkF m 87 #[.val (.ref a1), .val (.int i2), .val (.int (0 : Int32)), .val (.int (1 : Int32)), .val (.int (i2 - i10))] [])) (fun _ k_ => XS.ifnullNo X6.here hx rfl (hb hby d3_84) rfl k_) ?_
  refine own_k (T' := T6) (g' := (mkF m 88 #[.val (.ref a1), .val (.int i2), .val (.int (0 : Int32)), .val (.int (1 : Int32)), .val (.int (i2 - i10))] [(.ref a1)])) (fun _ k_ => XS.aloadN X6.here hx rfl (hb hby d3_87) rfl rfl  k_) ?_
  obtain ⟨T7, X7, e7, st7⟩ := getF X6 hx hZ hown (host := "") (Or.inl (hw _ (List.mem_of_getElem? (i := 11) rfl))) Via.refl e6 h_2 (g := (mkF m 88 #[.val (.ref a1), .val (.int i2), .val (.int (0 : Int32)), .val (.int (1 : Int32)), .val (.int (i2 - i10))] [(.ref a1)])) rfl rfl (hb hby d3_88)
  refine own_k (T' := T7) (g' := (mkF m 91 #[.val (.ref a1), .val (.int i2), .val (.int (0 : Int32)), .val (.int (1 : Int32)), .val (.int (i2 - i10))] [(.ref a3)])) st7 ?_
  refine own_k (T' := T7) (g' := (mkF m 92 #[.val (.ref a1), .val (.int i2), .val (.int (0 : Int32)), .val (.int (1 : Int32)), .val (.int (i2 - i10))] [(.int (0 : Int32)), (.ref a3)])) (fun _ k_ => XS.iloadN X7.here hx rfl (hb hby d3_91) rfl  k_) ?_
  refine own_aaload X7 hx hZ e7 h_3 rfl (j := (0 : Int32)) ⟨by decide, by decide⟩ (v := (.ref a5)) rfl (hb hby d3_92) ?_
  show own_Go p e below Φ T7 (mkF m 93 #[.val (.ref a1), .val (.int i2), .val (.int (0 : Int32)), .val (.int (1 : Int32)), .val (.int (i2 - i10))] [(.ref a5)])
  refine own_k (T' := T7) (g' := (mkF m 94 #[.val (.ref a1), .val (.int i2), .val (.int (0 : Int32)), .val (.int (1 : Int32)), .val (.int (i2 - i10))] [(.int (1 : Int32)), (.ref a5)])) (fun _ k_ => XS.iloadN X7.here hx rfl (hb hby d3_93) rfl  k_) ?_
  refine own_k (T' := T7) (g' := (mkF m 96 #[.val (.ref a1), .val (.int i2), .val (.int (0 : Int32)), .val (.int (1 : Int32)), .val (.int (i2 - i10))] [(.int (i2 - i10)), (.int (1 : Int32)), (.ref a5)])) (fun _ k_ => XS.iload X7.here hx rfl (hb hby d3_94) rfl  k_) ?_
  refine own_k (T' := T7) (g' := (mkF m 97 #[.val (.ref a1), .val (.int i2), .val (.int (0 : Int32)), .val (.int (1 : Int32)), .val (.int (i2 - i10))] [(.int ((i2 - i10).toInt16.toInt32)), (.int (1 : Int32)), (.ref a5)])) (fun _ k_ => XS.i2s X7.here hx rfl (hb hby d3_96) rfl k_) ?_
  obtain ⟨T8, h8, X8, e8, W8, V8, st8⟩ := own_sastore (pc := 97) (Ls := #[.val (.ref a1), .val (.int i2), .val (.int (0 : Int32)), .val (.int (1 : Int32)), .val (.int (i2 - i10))]) (rest := []) X7 hx hZ e7 h_4 (j := (1 : Int32)) (x := ((i2 - i10).toInt16.toInt32)) ⟨by decide, by decide⟩ 1 rfl (Nat.le_of_ble_eq_true rfl) (hb hby d3_97)
  have V8 : Arv Z h8 a5 q6 .short (16 : Int32) [(.int i7), (.int (nar .short ((i2 - i10).toInt16.toInt32))), (.int (0 : Int32)), (.int (0 : Int32)), (.int (0 : Int32)), (.int (0 : Int32)), (.int (0 : Int32)), (.int (0 : Int32)), (.int (0 : Int32)), (.int (0 : Int32)), (.int (0 : Int32)), (.int (0 : Int32)), (.int (0 : Int32)), (.int (0 : Int32)), (.int (0 : Int32)), (.int (0 : Int32))] (.int (0 : Int32)) := V8
  rw [show nar .short ((i2 - i10).toInt16.toInt32) = ((i2 - i10).toInt16.toInt32) from own_nar_short _] at V8
  have O8' := O0.wr W8 h_9
  have N8 := Fr.snoc X8 N3 h_9
  refine own_k (T' := T8) (g' := (mkF m 98 #[.val (.ref a1), .val (.int i2), .val (.int (0 : Int32)), .val (.int (1 : Int32)), .val (.int (i2 - i10))] [])) st8 ?_
  refine own_k (T' := T8) (g' := (mkF m 110 #[.val (.ref a1), .val (.int i2), .val (.int (0 : Int32)), .val (.int (1 : Int32)), .val (.int (i2 - i10))] [])) (fun _ k_ => XS.goto X8.here hx rfl (pc0 := 98) (pc' := 110) rfl (hb hby d3_98) (by decide) (by decide) k_) ?_
  refine own_k (T' := T8) (g' := (mkF m 111 #[.val (.ref a1), .val (.int i2), .val (.int (0 : Int32)), .val (.int (1 : Int32)), .val (.int (i2 - i10))] [(.ref a1)])) (fun _ k_ => XS.aloadN X8.here hx rfl (hb hby d3_110) rfl rfl  k_) ?_
  refine own_k (T' := T8) (g' := (mkF m 112 #[.val (.ref a1), .val (.int i2), .val (.int (0 : Int32)), .val (.int (1 : Int32)), .val (.int (i2 - i10))] [(.ref a1), (.ref a1)])) (fun _ k_ => XS.dup X8.here hx rfl (hb hby d3_111) rfl rfl k_) ?_
  obtain ⟨T9, X9, e9, st9⟩ := getF X8 hx hZ hown (host := "") (Or.inl (hw _ (List.mem_of_getElem? (i := 25) rfl))) Via.refl e8 (h_1.other W8 (Or.inl h_10)) (g := (mkF m 112 #[.val (.ref a1), .val (.int i2), .val (.int (0 : Int32)), .val (.int (1 : Int32)), .val (.int (i2 - i10))] [(.ref a1), (.ref a1)])) rfl rfl (hb hby d3_112)
  refine own_k (T' := T9) (g' := (mkF m 115 #[.val (.ref a1), .val (.int i2), .val (.int (0 : Int32)), .val (.int (1 : Int32)), .val (.int (i2 - i10))] [(.int (1 : Int32)), (.ref a1)])) st9 ?_
  refine own_k (T' := T9) (g' := (mkF m 116 #[.val (.ref a1), .val (.int i2), .val (.int (0 : Int32)), .val (.int (1 : Int32)), .val (.int (i2 - i10))] [(.int (1 : Int32)), (.int (1 : Int32)), (.ref a1)])) (fun _ k_ => XS.iconst X9.here hx rfl (hb hby d3_115) k_) ?_
  refine own_k (T' := T9) (g' := (mkF m 117 #[.val (.ref a1), .val (.int i2), .val (.int (0 : Int32)), .val (.int (1 : Int32)), .val (.int (i2 - i10))] [(.int ((1 : Int32) + (1 : Int32))), (.ref a1)])) (fun _ k_ => XS.iadd X9.here hx rfl (hb hby d3_116) rfl k_) ?_
  rw [show ((1 : Int32) + (1 : Int32)) = (2 : Int32) from by decide]
  obtain ⟨T10, h10, X10, e10, W10, st10⟩ := putF X9 hx hZ hown (host := "") (Or.inl (hw _ (List.mem_of_getElem? (i := 25) rfl))) Via.refl e9 (h_1.other W8 (Or.inl h_10)) (h_5.wr W8) (Or.inl (hw _ (List.mem_of_getElem? (i := 26) rfl))) (hw _ (List.mem_of_getElem? (i := 1) rfl)) (ty := .int) (by decide) rfl rfl (g := (mkF m 117 #[.val (.ref a1), .val (.int i2), .val (.int (0 : Int32)), .val (.int (1 : Int32)), .val (.int (i2 - i10))] [(.int (2 : Int32)), (.ref a1)])) rfl rfl (hb hby d3_117)
  have w10 := Fld.same W10 (h_1.other W8 (Or.inl h_10))
  have O10' := O8'.wr W10 h_11
  have N10 := Fr.snoc X10 N8 h_11
  refine own_k (T' := T10) (g' := (mkF m 120 #[.val (.ref a1), .val (.int i2), .val (.int (0 : Int32)), .val (.int (1 : Int32)), .val (.int (i2 - i10))] [])) st10 ?_
  have kp0 : Keep h0 h0 [a5, a1] := Keep.refl h0 [a5, a1]
  have kp1 : Keep h0 h8 [a5, a1] := kp0.wr W8 (Or.inl (List.mem_of_getElem? (i := 0) rfl))
  have kp2 : Keep h0 h10 [a5, a1] := kp1.wr W10 (Or.inl (List.mem_of_getElem? (i := 1) rfl))
  have f11 := ((h_2.other W8 (Or.inl h_10)).other W10 (Or.inr (slot_ne (Or.inl (hw _ (List.mem_of_getElem? (i := 12) rfl))) (Or.inl (hw _ (List.mem_of_getElem? (i := 26) rfl))) (by decide) (t := (.array (.array .short))) (t' := .int) (by decide) (by decide))))
  have f12 := ((h_6.other W8 (Or.inl h_10)).other W10 (Or.inr (slot_ne (Or.inl (hw _ (List.mem_of_getElem? (i := 19) rfl))) (Or.inl (hw _ (List.mem_of_getElem? (i := 26) rfl))) (by decide) (t := (.array .int)) (t' := .int) (by decide) (by decide))))
  have f13 := ((h_14.other W8 (Or.inl h_10)).other W10 (Or.inr (slot_ne (Or.inl (hw _ (List.mem_of_getElem? (i := 16) rfl))) (Or.inl (hw _ (List.mem_of_getElem? (i := 26) rfl))) (by decide) (t := (.array (.array .int))) (t' := .int) (by decide) (by decide))))
  exact own_ret0 X10 hx hret hlk (hb hby d3_120) hF (by rw [e10]; exact ⟨rfl, N10, kp2, (V8.other W10 h_12), ((h_13.wr W8).wr W10), w10, f11, ((h_5.wr W8).wr W10), f12, f13⟩) (by decide) (by decide)
set_option maxRecDepth 65536 in
set_option maxHeartbeats 40000000 in
theorem rm_capacity_5 (l : Launch) (Z : State) (a0 : Array Value)  (hW : own_W Z a0) (a1 : Addr) (a2 : Addr) (q3 : ClassId) (a4 : Addr) (q5 : ClassId) (i6 : Int32) (i7 : Int32) (h0 : Heap) (O0 : Old Z Z.heap.size h0) (h_1 : Fld Z h0 a1 "com/example/control_design_check/controldesigncheck/lts/IntBlocks" "narrow" "[[S" (.ref a2)) (h_2 : Arv Z h0 a2 q3 (.array .short) (1 : Int32) [(.ref a4)] .null) (h_3 : Arv Z h0 a4 q5 .short (16 : Int32) [(.int i6), (.int i7), (.int (0 : Int32)), (.int (0 : Int32)), (.int (0 : Int32)), (.int (0 : Int32)), (.int (0 : Int32)), (.int (0 : Int32)), (.int (0 : Int32)), (.int (0 : Int32)), (.int (0 : Int32)), (.int (0 : Int32)), (.int (0 : Int32)), (.int (0 : Int32)), (.int (0 : Int32)), (.int (0 : Int32))] (.int (0 : Int32))) :
    own_Met l Z (⟨"com/example/control_design_check/controldesigncheck/lts/IntBlocks", "capacity", "(I)I"⟩ : MethodName) prog_69_method_6_code 2 (some .int) ({ frames := 0, cells := 0, slots := 0, locals := 0 } : Room) #[(.ref a1), (.int (0 : Int32))] h0 (fun v h L => v = some (.int (16 : Int32)) ∧ Fr Z.heap.size L ∧ h = h0) := by
  have hw : ∀ d ∈ tables_1, d.before a0 Z = true := hW
  refine own_met (plainFor_of_name pn_com_example_control_design_check_controldesigncheck_lts_IntBlocks) ?_
  intro p e s m below meth cc_ s₁ Φ hF X0 hx hby hml hZ hown hnm hret hlk e0
  have N0 := Fr.nil Z.heap.size
  refine own_k (T' := s₁) (g' := (mkF m 0 #[.val (.ref a1), .val (.int (0 : Int32))] [])) (fun _ k_ => castTop (ef_5_RI m a1 (0 : Int32)) k_) ?_
  refine own_k (T' := s₁) (g' := (mkF m 1 #[.val (.ref a1), .val (.int (0 : Int32))] [(.ref a1)])) (fun _ k_ => XS.aloadN X0.here hx rfl (hb hby d5_0) rfl rfl  k_) ?_
  obtain ⟨T1, X1, e1, st1⟩ := getF X0 hx hZ hown (host := "") (Or.inl (hw _ (List.mem_of_getElem? (i := 11) rfl))) Via.refl e0 h_1 (g := (mkF m 1 #[.val (.ref a1), .val (.int (0 : Int32))] [(.ref a1)])) rfl rfl (hb hby d5_1)
  refine own_k (T' := T1) (g' := (mkF m 4 #[.val (.ref a1), .val (.int (0 : Int32))] [(.ref a2)])) st1 ?_
  refine own_k (T' := T1) (g' := (mkF m 5 #[.val (.ref a1), .val (.int (0 : Int32))] [(.int (0 : Int32)), (.ref a2)])) (fun _ k_ => XS.iloadN X1.here hx rfl (hb hby d5_4) rfl  k_) ?_
  refine own_aaload X1 hx hZ e1 h_2 rfl (j := (0 : Int32)) ⟨by decide, by decide⟩ (v := (.ref a4)) rfl (hb hby d5_5) ?_
  show own_Go p e below Φ T1 (mkF m 6 #[.val (.ref a1), .val (.int (0 : Int32))] [(.ref a4)])
  refine own_k (T' := T1) (g' := (mkF m 9 #[.val (.ref a1), .val (.int (0 : Int32))] [])) (fun _ k_ => XS.ifnullNo X1.here hx rfl (hb hby d5_6) rfl k_) ?_
  refine own_k (T' := T1) (g' := (mkF m 10 #[.val (.ref a1), .val (.int (0 : Int32))] [(.ref a1)])) (fun _ k_ => XS.aloadN X1.here hx rfl (hb hby d5_9) rfl rfl  k_) ?_
  obtain ⟨T2, X2, e2, st2⟩ := getF X1 hx hZ hown (host := "") (Or.inl (hw _ (List.mem_of_getElem? (i := 11) rfl))) Via.refl e1 h_1 (g := (mkF m 10 #[.val (.ref a1), .val (.int (0 : Int32))] [(.ref a1)])) rfl rfl (hb hby d5_10)
  refine own_k (T' := T2) (g' := (mkF m 13 #[.val (.ref a1), .val (.int (0 : Int32))] [(.ref a2)])) st2 ?_
  refine own_k (T' := T2) (g' := (mkF m 14 #[.val (.ref a1), .val (.int (0 : Int32))] [(.int (0 : Int32)), (.ref a2)])) (fun _ k_ => XS.iloadN X2.here hx rfl (hb hby d5_13) rfl  k_) ?_
  refine own_aaload X2 hx hZ e2 h_2 rfl (j := (0 : Int32)) ⟨by decide, by decide⟩ (v := (.ref a4)) rfl (hb hby d5_14) ?_
  show own_Go p e below Φ T2 (mkF m 15 #[.val (.ref a1), .val (.int (0 : Int32))] [(.ref a4)])
  refine own_len X2 hx hZ e2 h_3 (hb hby d5_15) ?_
  show own_Go p e below Φ T2 (mkF m 16 #[.val (.ref a1), .val (.int (0 : Int32))] [(.int (16 : Int32))])
  refine own_k (T' := T2) (g' := (mkF m 26 #[.val (.ref a1), .val (.int (0 : Int32))] [(.int (16 : Int32))])) (fun _ k_ => XS.goto X2.here hx rfl (pc0 := 16) (pc' := 26) rfl (hb hby d5_16) (by decide) (by decide) k_) ?_
  exact own_retI X2 hx hret hlk (hb hby d5_26) hF (by rw [e2]; exact ⟨rfl, N0, rfl⟩) (by decide) (by decide)
set_option maxRecDepth 65536 in
set_option maxHeartbeats 40000000 in
theorem rm_add_6 (l : Launch) (Z : State) (a0 : Array Value)  (hW : own_W Z a0) (a1 : Addr) (i2 : Int32) (a3 : Addr) (q4 : ClassId) (a5 : Addr) (q6 : ClassId) (i7 : Int32) (i8 : Int32) (a9 : Addr) (q10 : ClassId) (i11 : Int32) (a12 : Addr) (h0 : Heap) (O0 : Old Z Z.heap.size h0) (h_1 : Fld Z h0 a1 "com/example/control_design_check/controldesigncheck/lts/IntBlocks" "size" "I" (.int (2 : Int32))) (h_2 : Fld Z h0 a1 "com/example/control_design_check/controldesigncheck/lts/IntBlocks" "narrow" "[[S" (.ref a3)) (h_3 : Arv Z h0 a3 q4 (.array .short) (1 : Int32) [(.ref a5)] .null) (h_4 : Arv Z h0 a5 q6 .short (16 : Int32) [(.int i7), (.int i8), (.int (0 : Int32)), (.int (0 : Int32)), (.int (0 : Int32)), (.int (0 : Int32)), (.int (0 : Int32)), (.int (0 : Int32)), (.int (0 : Int32)), (.int (0 : Int32)), (.int (0 : Int32)), (.int (0 : Int32)), (.int (0 : Int32)), (.int (0 : Int32)), (.int (0 : Int32)), (.int (0 : Int32))] (.int (0 : Int32))) (h_5 : Exa Z h0 a1 "com/example/control_design_check/controldesigncheck/lts/IntBlocks") (h_6 : Fld Z h0 a1 "com/example/control_design_check/controldesigncheck/lts/IntBlocks" "bases" "[I" (.ref a9)) (h_7 : Arv Z h0 a9 q10 .int (1 : Int32) [(.int i11)] (.int (0 : Int32))) (h_8 : ((((i2 - i11).toUInt32 >>> ((16 : Int32) &&& 31).toUInt32).toInt32) = (0 : Int32))) (h_9 : Z.heap.size ≤ a5) (h_10 : a1 ≠ a5) (h_11 : Z.heap.size ≤ a1) (h_12 : a5 ≠ a1) (h_13 : Exa Z h0 a5 "[S") (h_14 : Fld Z h0 a1 "com/example/control_design_check/controldesigncheck/lts/IntBlocks" "wide" "[[I" (.ref a12)) :
    own_Met l Z (⟨"com/example/control_design_check/controldesigncheck/lts/IntBlocks", "add", "(I)V"⟩ : MethodName) prog_69_method_4_code 5 none ({ frames := 1, cells := 0, slots := 0, locals := 14 } : Room) #[(.ref a1), (.int i2)] h0 (fun v h L => v = none ∧ Fr Z.heap.size L ∧ Keep h0 h [a5, a1] ∧ Arv Z h a5 q6 .short (16 : Int32) [(.int i7), (.int i8), (.int ((i2 - i11).toInt16.toInt32)), (.int (0 : Int32)), (.int (0 : Int32)), (.int (0 : Int32)), (.int (0 : Int32)), (.int (0 : Int32)), (.int (0 : Int32)), (.int (0 : Int32)), (.int (0 : Int32)), (.int (0 : Int32)), (.int (0 : Int32)), (.int (0 : Int32)), (.int (0 : Int32)), (.int (0 : Int32))] (.int (0 : Int32)) ∧ Exa Z h a5 "[S" ∧ Fld Z h a1 "com/example/control_design_check/controldesigncheck/lts/IntBlocks" "size" "I" (.int (3 : Int32)) ∧ Fld Z h a1 "com/example/control_design_check/controldesigncheck/lts/IntBlocks" "narrow" "[[S" (.ref a3) ∧ Exa Z h a1 "com/example/control_design_check/controldesigncheck/lts/IntBlocks" ∧ Fld Z h a1 "com/example/control_design_check/controldesigncheck/lts/IntBlocks" "bases" "[I" (.ref a9) ∧ Fld Z h a1 "com/example/control_design_check/controldesigncheck/lts/IntBlocks" "wide" "[[I" (.ref a12)) := by
  have hw : ∀ d ∈ tables_1, d.before a0 Z = true := hW
  refine own_met (plainFor_of_name pn_com_example_control_design_check_controldesigncheck_lts_IntBlocks) ?_
  intro p e s m below meth cc_ s₁ Φ hF X0 hx hby hml hZ hown hnm hret hlk e0
  have N0 := Fr.nil Z.heap.size
  refine own_k (T' := s₁) (g' := (mkF m 0 #[.val (.ref a1), .val (.int i2), .unset, .unset, .unset] [])) (fun _ k_ => castTop (ef_3_RI m a1 i2) k_) ?_
  refine own_k (T' := s₁) (g' := (mkF m 1 #[.val (.ref a1), .val (.int i2), .unset, .unset, .unset] [(.ref a1)])) (fun _ k_ => XS.aloadN X0.here hx rfl (hb hby d3_0) rfl rfl  k_) ?_
  obtain ⟨T1, X1, e1, st1⟩ := getF X0 hx hZ hown (host := "") (Or.inl (hw _ (List.mem_of_getElem? (i := 25) rfl))) Via.refl e0 h_1 (g := (mkF m 1 #[.val (.ref a1), .val (.int i2), .unset, .unset, .unset] [(.ref a1)])) rfl rfl (hb hby d3_1)
  refine own_k (T' := T1) (g' := (mkF m 4 #[.val (.ref a1), .val (.int i2), .unset, .unset, .unset] [(.int (2 : Int32))])) st1 ?_
  refine own_k (T' := T1) (g' := (mkF m 6 #[.val (.ref a1), .val (.int i2), .unset, .unset, .unset] [(.int (14 : Int32)), (.int (2 : Int32))])) (fun _ k_ => XS.bipush X1.here hx rfl (hb hby d3_4) k_) ?_
  refine own_k (T' := T1) (g' := (mkF m 7 #[.val (.ref a1), .val (.int i2), .unset, .unset, .unset] [(.int (((2 : Int32).toUInt32 >>> ((14 : Int32) &&& 31).toUInt32).toInt32))])) (fun _ k_ => XS.iushr X1.here hx rfl (hb hby d3_6) rfl k_) ?_
  rw [show (((2 : Int32).toUInt32 >>> ((14 : Int32) &&& 31).toUInt32).toInt32) = (0 : Int32) from by decide]
  refine own_k (T' := T1) (g' := (mkF m 8 #[.val (.ref a1), .val (.int i2), .val (.int (0 : Int32)), .unset, .unset] [])) (fun _ k_ => XS.istoreN X1.here hx rfl (hb hby d3_7) rfl (l' := #[.val (.ref a1), .val (.int i2), .val (.int (0 : Int32)), .unset, .unset]) rfl k_) ?_
  refine own_k (T' := T1) (g' := (mkF m 9 #[.val (.ref a1), .val (.int i2), .val (.int (0 : Int32)), .unset, .unset] [(.ref a1)])) (fun _ k_ => XS.aloadN X1.here hx rfl (hb hby d3_8) rfl rfl  k_) ?_
  obtain ⟨T2, X2, e2, st2⟩ := getF X1 hx hZ hown (host := "") (Or.inl (hw _ (List.mem_of_getElem? (i := 25) rfl))) Via.refl e1 h_1 (g := (mkF m 9 #[.val (.ref a1), .val (.int i2), .val (.int (0 : Int32)), .unset, .unset] [(.ref a1)])) rfl rfl (hb hby d3_9)
  refine own_k (T' := T2) (g' := (mkF m 12 #[.val (.ref a1), .val (.int i2), .val (.int (0 : Int32)), .unset, .unset] [(.int (2 : Int32))])) st2 ?_
  refine own_k (T' := T2) (g' := (mkF m 15 #[.val (.ref a1), .val (.int i2), .val (.int (0 : Int32)), .unset, .unset] [(.int (16383 : Int32)), (.int (2 : Int32))])) (fun _ k_ => XS.sipush X2.here hx rfl (hb hby d3_12) k_) ?_
  refine own_k (T' := T2) (g' := (mkF m 16 #[.val (.ref a1), .val (.int i2), .val (.int (0 : Int32)), .unset, .unset] [(.int ((2 : Int32) &&& (16383 : Int32)))])) (fun _ k_ => XS.iand X2.here hx rfl (hb hby d3_15) rfl k_) ?_
  rw [show ((2 : Int32) &&& (16383 : Int32)) = (2 : Int32) from by decide]
  refine own_k (T' := T2) (g' := (mkF m 17 #[.val (.ref a1), .val (.int i2), .val (.int (0 : Int32)), .val (.int (2 : Int32)), .unset] [])) (fun _ k_ => XS.istoreN X2.here hx rfl (hb hby d3_16) rfl (l' := #[.val (.ref a1), .val (.int i2), .val (.int (0 : Int32)), .val (.int (2 : Int32)), .unset]) rfl k_) ?_
  refine own_k (T' := T2) (g' := (mkF m 18 #[.val (.ref a1), .val (.int i2), .val (.int (0 : Int32)), .val (.int (2 : Int32)), .unset] [(.int (2 : Int32))])) (fun _ k_ => XS.iloadN X2.here hx rfl (hb hby d3_17) rfl  k_) ?_
  refine own_k (T' := T2) (g' := (mkF m 30 #[.val (.ref a1), .val (.int i2), .val (.int (0 : Int32)), .val (.int (2 : Int32)), .unset] [])) (fun _ k_ => XS.ifYes X2.here hx rfl (pc0 := 18) (pc' := 30) rfl (hb hby d3_18) rfl ((if0 _ _).trans (feq (by decide : ¬ ((2 : Int32) = (0 : Int32)))).2) (by decide) (by decide) k_) ?_
  refine own_k (T' := T2) (g' := (mkF m 31 #[.val (.ref a1), .val (.int i2), .val (.int (0 : Int32)), .val (.int (2 : Int32)), .unset] [(.int (2 : Int32))])) (fun _ k_ => XS.iloadN X2.here hx rfl (hb hby d3_30) rfl  k_) ?_
  refine own_k (T' := T2) (g' := (mkF m 32 #[.val (.ref a1), .val (.int i2), .val (.int (0 : Int32)), .val (.int (2 : Int32)), .unset] [(.ref a1), (.int (2 : Int32))])) (fun _ k_ => XS.aloadN X2.here hx rfl (hb hby d3_31) rfl rfl  k_) ?_
  refine own_k (T' := T2) (g' := (mkF m 33 #[.val (.ref a1), .val (.int i2), .val (.int (0 : Int32)), .val (.int (2 : Int32)), .unset] [(.int (0 : Int32)), (.ref a1), (.int (2 : Int32))])) (fun _ k_ => XS.iloadN X2.here hx rfl (hb hby d3_32) rfl  k_) ?_
  refine own_callP X2 hx hZ (y := (⟨"com/example/control_design_check/controldesigncheck/lts/IntBlocks", "capacity", "(I)I"⟩ : MethodName)) hown (hw _ (List.mem_of_getElem? (i := 34) rfl)) (hw _ (List.mem_of_getElem? (i := 35) rfl)) (hw _ (List.mem_of_getElem? (i := 36) rfl)) (hw _ (List.mem_of_getElem? (i := 37) rfl)) (hw _ (List.mem_of_getElem? (i := 2) rfl)) (hw _ (List.mem_of_getElem? (i := 1) rfl)) (by decide) (al := [(.int (0 : Int32))]) h_5 (rm_capacity_5 l Z a0 hW a1 a3 q4 a5 q6 i7 i8 h0 O0 h_2 h_3 h_4) 1 (by decide) (by decide) e2 (by decide) (by decide) (by rw [hml]; rfl) (lenOf pd__28I_29I rfl) rfl (rest := [(.int (2 : Int32))]) (by show 2 * 0 + _ ≤ _; exact Nat.le_of_eq rfl) (hb hby d3_33) ?_
  intro v3 T3 L3 X3 hQ3
  obtain ⟨rfl, Nq3, e3⟩ := hQ3
  have N3 := Fr.app N0 Nq3
  show own_Go p e below Φ T3 (mkF m 36 #[.val (.ref a1), .val (.int i2), .val (.int (0 : Int32)), .val (.int (2 : Int32)), .unset] [(.int (16 : Int32)), (.int (2 : Int32))])
  refine own_k (T' := T3) (g' := (mkF m 45 #[.val (.ref a1), .val (.int i2), .val (.int (0 : Int32)), .val (.int (2 : Int32)), .unset] [])) (fun _ k_ => XS.icmpYes X3.here hx rfl (pc0 := 36) (pc' := 45) rfl (hb hby d3_36) rfl ((feq (by decide : ¬ ((2 : Int32) = (16 : Int32)))).2) (by decide) (by decide) k_) ?_
  refine own_k (T' := T3) (g' := (mkF m 46 #[.val (.ref a1), .val (.int i2), .val (.int (0 : Int32)), .val (.int (2 : Int32)), .unset] [(.int i2)])) (fun _ k_ => XS.iloadN X3.here hx rfl (hb hby d3_45) rfl  k_) ?_
  refine own_k (T' := T3) (g' := (mkF m 47 #[.val (.ref a1), .val (.int i2), .val (.int (0 : Int32)), .val (.int (2 : Int32)), .unset] [(.ref a1), (.int i2)])) (fun _ k_ => XS.aloadN X3.here hx rfl (hb hby d3_46) rfl rfl  k_) ?_
  obtain ⟨T4, X4, e4, st4⟩ := getF X3 hx hZ hown (host := "") (Or.inl (hw _ (List.mem_of_getElem? (i := 18) rfl))) Via.refl e3 h_6 (g := (mkF m 47 #[.val (.ref a1), .val (.int i2), .val (.int (0 : Int32)), .val (.int (2 : Int32)), .unset] [(.ref a1), (.int i2)])) rfl rfl (hb hby d3_47)
  refine own_k (T' := T4) (g' := (mkF m 50 #[.val (.ref a1), .val (.int i2), .val (.int (0 : Int32)), .val (.int (2 : Int32)), .unset] [(.ref a9), (.int i2)])) st4 ?_
  refine own_k (T' := T4) (g' := (mkF m 51 #[.val (.ref a1), .val (.int i2), .val (.int (0 : Int32)), .val (.int (2 : Int32)), .unset] [(.int (0 : Int32)), (.ref a9), (.int i2)])) (fun _ k_ => XS.iloadN X4.here hx rfl (hb hby d3_50) rfl  k_) ?_
  refine own_iaload X4 hx hZ e4 h_7 (j := (0 : Int32)) ⟨by decide, by decide⟩ (v := (.int i11)) rfl (hb hby d3_51) ?_
  show own_Go p e below Φ T4 (mkF m 52 #[.val (.ref a1), .val (.int i2), .val (.int (0 : Int32)), .val (.int (2 : Int32)), .unset] [(.int i11), (.int i2)])
  refine own_k (T' := T4) (g' := (mkF m 53 #[.val (.ref a1), .val (.int i2), .val (.int (0 : Int32)), .val (.int (2 : Int32)), .unset] [(.int (i2 - i11))])) (fun _ k_ => XS.isub X4.here hx rfl (hb hby d3_52) rfl k_) ?_
  refine own_k (T' := T4) (g' := (mkF m 55 #[.val (.ref a1), .val (.int i2), .val (.int (0 : Int32)), .val (.int (2 : Int32)), .val (.int (i2 - i11))] [])) (fun _ k_ => XS.istore X4.here hx rfl (hb hby d3_53) rfl (l' := #[.val (.ref a1), .val (.int i2), .val (.int (0 : Int32)), .val (.int (2 : Int32)), .val (.int (i2 - i11))]) rfl k_) ?_
  refine own_k (T' := T4) (g' := (mkF m 56 #[.val (.ref a1), .val (.int i2), .val (.int (0 : Int32)), .val (.int (2 : Int32)), .val (.int (i2 - i11))] [(.ref a1)])) (fun _ k_ => XS.aloadN X4.here hx rfl (hb hby d3_55) rfl rfl  k_) ?_
  obtain ⟨T5, X5, e5, st5⟩ := getF X4 hx hZ hown (host := "") (Or.inl (hw _ (List.mem_of_getElem? (i := 11) rfl))) Via.refl e4 h_2 (g := (mkF m 56 #[.val (.ref a1), .val (.int i2), .val (.int (0 : Int32)), .val (.int (2 : Int32)), .val (.int (i2 - i11))] [(.ref a1)])) rfl rfl (hb hby d3_56)
  refine own_k (T' := T5) (g' := (mkF m 59 #[.val (.ref a1), .val (.int i2), .val (.int (0 : Int32)), .val (.int (2 : Int32)), .val (.int (i2 - i11))] [(.ref a3)])) st5 ?_
  refine own_k (T' := T5) (g' := (mkF m 60 #[.val (.ref a1), .val (.int i2), .val (.int (0 : Int32)), .val (.int (2 : Int32)), .val (.int (i2 - i11))] [(.int (0 : Int32)), (.ref a3)])) (fun _ k_ => XS.iloadN X5.here hx rfl (hb hby d3_59) rfl  k_) ?_
  refine own_aaload X5 hx hZ e5 h_3 rfl (j := (0 : Int32)) ⟨by decide, by decide⟩ (v := (.ref a5)) rfl (hb hby d3_60) ?_
  show own_Go p e below Φ T5 (mkF m 61 #[.val (.ref a1), .val (.int i2), .val (.int (0 : Int32)), .val (.int (2 : Int32)), .val (.int (i2 - i11))] [(.ref a5)])
  refine own_k (T' := T5) (g' := (mkF m 64 #[.val (.ref a1), .val (.int i2), .val (.int (0 : Int32)), .val (.int (2 : Int32)), .val (.int (i2 - i11))] [])) (fun _ k_ => XS.ifnullNo X5.here hx rfl (hb hby d3_61) rfl k_) ?_
  refine own_k (T' := T5) (g' := (mkF m 66 #[.val (.ref a1), .val (.int i2), .val (.int (0 : Int32)), .val (.int (2 : Int32)), .val (.int (i2 - i11))] [(.int (i2 - i11))])) (fun _ k_ => XS.iload X5.here hx rfl (hb hby d3_64) rfl  k_) ?_
  refine own_k (T' := T5) (g' := (mkF m 68 #[.val (.ref a1), .val (.int i2), .val (.int (0 : Int32)), .val (.int (2 : Int32)), .val (.int (i2 - i11))] [(.int (16 : Int32)), (.int (i2 - i11))])) (fun _ k_ => XS.bipush X5.here hx rfl (hb hby d3_66) k_) ?_
  refine own_k (T' := T5) (g' := (mkF m 69 #[.val (.ref a1), .val (.int i2), .val (.int (0 : Int32)), .val (.int (2 : Int32)), .val (.int (i2 - i11))] [(.int (((i2 - i11).toUInt32 >>> ((16 : Int32) &&& 31).toUInt32).toInt32))])) (fun _ k_ => XS.iushr X5.here hx rfl (hb hby d3_68) rfl k_) ?_
  refine own_k (T' := T5) (g' := (mkF m 78 #[.val (.ref a1), .val (.int i2), .val (.int (0 : Int32)), .val (.int (2 : Int32)), .val (.int (i2 - i11))] [])) (fun _ k_ => XS.ifYes X5.here hx rfl (pc0 := 69) (pc' := 78) rfl (hb hby d3_69) rfl ((if0 _ _).trans (teq h_8).1) (by decide) (by decide) k_) ?_
  refine own_k (T' := T5) (g' := (mkF m 79 #[.val (.ref a1), .val (.int i2), .val (.int (0 : Int32)), .val (.int (2 : Int32)), .val (.int (i2 - i11))] [(.ref a1)])) (fun _ k_ => XS.aloadN X5.here hx rfl (hb hby d3_78) rfl rfl  k_) ?_
  obtain ⟨T6, X6, e6, st6⟩ := getF X5 hx hZ hown (host := "") (Or.inl (hw _ (List.mem_of_getElem? (i := 11) rfl))) Via.refl e5 h_2 (g := (mkF m 79 #[.val (.ref a1), .val (.int i2), .val (.int (0 : Int32)), .val (.int (2 : Int32)), .val (.int (i2 - i11))] [(.ref a1)])) rfl rfl (hb hby d3_79)
  refine own_k (T' := T6) (g' := (mkF m 82 #[.val (.ref a1), .val (.int i2), .val (.int (0 : Int32)), .val (.int (2 : Int32)), .val (.int (i2 - i11))] [(.ref a3)])) st6 ?_
  refine own_k (T' := T6) (g' := (mkF m 83 #[.val (.ref a1), .val (.int i2), .val (.int (0 : Int32)), .val (.int (2 : Int32)), .val (.int (i2 - i11))] [(.int (0 : Int32)), (.ref a3)])) (fun _ k_ => XS.iloadN X6.here hx rfl (hb hby d3_82) rfl  k_) ?_
  refine own_aaload X6 hx hZ e6 h_3 rfl (j := (0 : Int32)) ⟨by decide, by decide⟩ (v := (.ref a5)) rfl (hb hby d3_83) ?_
  show own_Go p e below Φ T6 (mkF m 84 #[.val (.ref a1), .val (.int i2), .val (.int (0 : Int32)), .val (.int (2 : Int32)), .val (.int (i2 - i11))] [(.ref a5)])
  refine own_k (T' := T6) (g' := (mkF m 87 #[.val (.ref a1), .val (.int i2), .val (.int (0 : Int32)), .val (.int (2 : Int32)), .val (.int (i2 - i11))] [])) (fun _ k_ => XS.ifnullNo X6.here hx rfl (hb hby d3_84) rfl k_) ?_
  refine own_k (T' := T6) (g' := (mkF m 88 #[.val (.ref a1), .val (.int i2), .val (.int (0 : Int32)), .val (.int (2 : Int32)), .val (.int (i2 - i11))] [(.ref a1)])) (fun _ k_ => XS.aloadN X6.here hx rfl (hb hby d3_87) rfl rfl  k_) ?_
  obtain ⟨T7, X7, e7, st7⟩ := getF X6 hx hZ hown (host := "") (Or.inl (hw _ (List.mem_of_getElem? (i := 11) rfl))) Via.refl e6 h_2 (g := (mkF m 88 #[.val (.ref a1), .val (.int i2), .val (.int (0 : Int32)), .val (.int (2 : Int32)), .val (.int (i2 - i11))] [(.ref a1)])) rfl rfl (hb hby d3_88)
  refine own_k (T' := T7) (g' := (mkF m 91 #[.val (.ref a1), .val (.int i2), .val (.int (0 : Int32)), .val (.int (2 : Int32)), .val (.int (i2 - i11))] [(.ref a3)])) st7 ?_
  refine own_k (T' := T7) (g' := (mkF m 92 #[.val (.ref a1), .val (.int i2), .val (.int (0 : Int32)), .val (.int (2 : Int32)), .val (.int (i2 - i11))] [(.int (0 : Int32)), (.ref a3)])) (fun _ k_ => XS.iloadN X7.here hx rfl (hb hby d3_91) rfl  k_) ?_
  refine own_aaload X7 hx hZ e7 h_3 rfl (j := (0 : Int32)) ⟨by decide, by decide⟩ (v := (.ref a5)) rfl (hb hby d3_92) ?_
  show own_Go p e below Φ T7 (mkF m 93 #[.val (.ref a1), .val (.int i2), .val (.int (0 : Int32)), .val (.int (2 : Int32)), .val (.int (i2 - i11))] [(.ref a5)])
  refine own_k (T' := T7) (g' := (mkF m 94 #[.val (.ref a1), .val (.int i2), .val (.int (0 : Int32)), .val (.int (2 : Int32)), .val (.int (i2 - i11))] [(.int (2 : Int32)), (.ref a5)])) (fun _ k_ => XS.iloadN X7.here hx rfl (hb hby d3_93) rfl  k_) ?_
  refine own_k (T' := T7) (g' := (mkF m 96 #[.val (.ref a1), .val (.int i2), .val (.int (0 : Int32)), .val (.int (2 : Int32)), .val (.int (i2 - i11))] [(.int (i2 - i11)), (.int (2 : Int32)), (.ref a5)])) (fun _ k_ => XS.iload X7.here hx rfl (hb hby d3_94) rfl  k_) ?_
  refine own_k (T' := T7) (g' := (mkF m 97 #[.val (.ref a1), .val (.int i2), .val (.int (0 : Int32)), .val (.int (2 : Int32)), .val (.int (i2 - i11))] [(.int ((i2 - i11).toInt16.toInt32)), (.int (2 : Int32)), (.ref a5)])) (fun _ k_ => XS.i2s X7.here hx rfl (hb hby d3_96) rfl k_) ?_
  obtain ⟨T8, h8, X8, e8, W8, V8, st8⟩ := own_sastore (pc := 97) (Ls := #[.val (.ref a1), .val (.int i2), .val (.int (0 : Int32)), .val (.int (2 : Int32)), .val (.int (i2 - i11))]) (rest := []) X7 hx hZ e7 h_4 (j := (2 : Int32)) (x := ((i2 - i11).toInt16.toInt32)) ⟨by decide, by decide⟩ 2 rfl (Nat.le_of_ble_eq_true rfl) (hb hby d3_97)
  have V8 : Arv Z h8 a5 q6 .short (16 : Int32) [(.int i7), (.int i8), (.int (nar .short ((i2 - i11).toInt16.toInt32))), (.int (0 : Int32)), (.int (0 : Int32)), (.int (0 : Int32)), (.int (0 : Int32)), (.int (0 : Int32)), (.int (0 : Int32)), (.int (0 : Int32)), (.int (0 : Int32)), (.int (0 : Int32)), (.int (0 : Int32)), (.int (0 : Int32)), (.int (0 : Int32)), (.int (0 : Int32))] (.int (0 : Int32)) := V8
  rw [show nar .short ((i2 - i11).toInt16.toInt32) = ((i2 - i11).toInt16.toInt32) from own_nar_short _] at V8
  have O8' := O0.wr W8 h_9
  have N8 := Fr.snoc X8 N3 h_9
  refine own_k (T' := T8) (g' := (mkF m 98 #[.val (.ref a1), .val (.int i2), .val (.int (0 : Int32)), .val (.int (2 : Int32)), .val (.int (i2 - i11))] [])) st8 ?_
  refine own_k (T' := T8) (g' := (mkF m 110 #[.val (.ref a1), .val (.int i2), .val (.int (0 : Int32)), .val (.int (2 : Int32)), .val (.int (i2 - i11))] [])) (fun _ k_ => XS.goto X8.here hx rfl (pc0 := 98) (pc' := 110) rfl (hb hby d3_98) (by decide) (by decide) k_) ?_
  refine own_k (T' := T8) (g' := (mkF m 111 #[.val (.ref a1), .val (.int i2), .val (.int (0 : Int32)), .val (.int (2 : Int32)), .val (.int (i2 - i11))] [(.ref a1)])) (fun _ k_ => XS.aloadN X8.here hx rfl (hb hby d3_110) rfl rfl  k_) ?_
  refine own_k (T' := T8) (g' := (mkF m 112 #[.val (.ref a1), .val (.int i2), .val (.int (0 : Int32)), .val (.int (2 : Int32)), .val (.int (i2 - i11))] [(.ref a1), (.ref a1)])) (fun _ k_ => XS.dup X8.here hx rfl (hb hby d3_111) rfl rfl k_) ?_
  obtain ⟨T9, X9, e9, st9⟩ := getF X8 hx hZ hown (host := "") (Or.inl (hw _ (List.mem_of_getElem? (i := 25) rfl))) Via.refl e8 (h_1.other W8 (Or.inl h_10)) (g := (mkF m 112 #[.val (.ref a1), .val (.int i2), .val (.int (0 : Int32)), .val (.int (2 : Int32)), .val (.int (i2 - i11))] [(.ref a1), (.ref a1)])) rfl rfl (hb hby d3_112)
  refine own_k (T' := T9) (g' := (mkF m 115 #[.val (.ref a1), .val (.int i2), .val (.int (0 : Int32)), .val (.int (2 : Int32)), .val (.int (i2 - i11))] [(.int (2 : Int32)), (.ref a1)])) st9 ?_
  refine own_k (T' := T9) (g' := (mkF m 116 #[.val (.ref a1), .val (.int i2), .val (.int (0 : Int32)), .val (.int (2 : Int32)), .val (.int (i2 - i11))] [(.int (1 : Int32)), (.int (2 : Int32)), (.ref a1)])) (fun _ k_ => XS.iconst X9.here hx rfl (hb hby d3_115) k_) ?_
  refine own_k (T' := T9) (g' := (mkF m 117 #[.val (.ref a1), .val (.int i2), .val (.int (0 : Int32)), .val (.int (2 : Int32)), .val (.int (i2 - i11))] [(.int ((2 : Int32) + (1 : Int32))), (.ref a1)])) (fun _ k_ => XS.iadd X9.here hx rfl (hb hby d3_116) rfl k_) ?_
  rw [show ((2 : Int32) + (1 : Int32)) = (3 : Int32) from by decide]
  obtain ⟨T10, h10, X10, e10, W10, st10⟩ := putF X9 hx hZ hown (host := "") (Or.inl (hw _ (List.mem_of_getElem? (i := 25) rfl))) Via.refl e9 (h_1.other W8 (Or.inl h_10)) (h_5.wr W8) (Or.inl (hw _ (List.mem_of_getElem? (i := 26) rfl))) (hw _ (List.mem_of_getElem? (i := 1) rfl)) (ty := .int) (by decide) rfl rfl (g := (mkF m 117 #[.val (.ref a1), .val (.int i2), .val (.int (0 : Int32)), .val (.int (2 : Int32)), .val (.int (i2 - i11))] [(.int (3 : Int32)), (.ref a1)])) rfl rfl (hb hby d3_117)
  have w10 := Fld.same W10 (h_1.other W8 (Or.inl h_10))
  have O10' := O8'.wr W10 h_11
  have N10 := Fr.snoc X10 N8 h_11
  refine own_k (T' := T10) (g' := (mkF m 120 #[.val (.ref a1), .val (.int i2), .val (.int (0 : Int32)), .val (.int (2 : Int32)), .val (.int (i2 - i11))] [])) st10 ?_
  have kp0 : Keep h0 h0 [a5, a1] := Keep.refl h0 [a5, a1]
  have kp1 : Keep h0 h8 [a5, a1] := kp0.wr W8 (Or.inl (List.mem_of_getElem? (i := 0) rfl))
  have kp2 : Keep h0 h10 [a5, a1] := kp1.wr W10 (Or.inl (List.mem_of_getElem? (i := 1) rfl))
  have f11 := ((h_2.other W8 (Or.inl h_10)).other W10 (Or.inr (slot_ne (Or.inl (hw _ (List.mem_of_getElem? (i := 12) rfl))) (Or.inl (hw _ (List.mem_of_getElem? (i := 26) rfl))) (by decide) (t := (.array (.array .short))) (t' := .int) (by decide) (by decide))))
  have f12 := ((h_6.other W8 (Or.inl h_10)).other W10 (Or.inr (slot_ne (Or.inl (hw _ (List.mem_of_getElem? (i := 19) rfl))) (Or.inl (hw _ (List.mem_of_getElem? (i := 26) rfl))) (by decide) (t := (.array .int)) (t' := .int) (by decide) (by decide))))
  have f13 := ((h_14.other W8 (Or.inl h_10)).other W10 (Or.inr (slot_ne (Or.inl (hw _ (List.mem_of_getElem? (i := 16) rfl))) (Or.inl (hw _ (List.mem_of_getElem? (i := 26) rfl))) (by decide) (t := (.array (.array .int))) (t' := .int) (by decide) (by decide))))
  exact own_ret0 X10 hx hret hlk (hb hby d3_120) hF (by rw [e10]; exact ⟨rfl, N10, kp2, (V8.other W10 h_12), ((h_13.wr W8).wr W10), w10, f11, ((h_5.wr W8).wr W10), f12, f13⟩) (by decide) (by decide)
theorem pd__28_29I : parseMethodDescriptor "()I" = some ⟨[], some .int⟩ := by decide +kernel
theorem ef_6_R (m : MethodId) (x0 : Addr)  : entryFrame m #[(.ref x0)] 1 = mkF m 0 #[.val (.ref x0)] [] := by first | (simp [entryFrame, mkF, argsToLocals, Value.category]; done) | rfl
theorem d6_0 : decode prog_69_method_2_code 0 = .ok (.aload_n 0, 1) := by decide +kernel
theorem d6_1 : decode prog_69_method_2_code 1 = .ok (.getfield 24, 3) := by decide +kernel
theorem d6_4 : decode prog_69_method_2_code 4 = .ok (.ireturn, 1) := by decide +kernel
set_option maxRecDepth 65536 in
set_option maxHeartbeats 40000000 in
theorem rm_size_7 (l : Launch) (Z : State) (a0 : Array Value)  (hW : own_W Z a0) (a1 : Addr) (h0 : Heap) (O0 : Old Z Z.heap.size h0) (h_1 : Fld Z h0 a1 "com/example/control_design_check/controldesigncheck/lts/IntBlocks" "size" "I" (.int (3 : Int32))) :
    own_Met l Z (⟨"com/example/control_design_check/controldesigncheck/lts/IntBlocks", "size", "()I"⟩ : MethodName) prog_69_method_2_code 1 (some .int) ({ frames := 0, cells := 0, slots := 0, locals := 0 } : Room) #[(.ref a1)] h0 (fun v h L => v = some (.int (3 : Int32)) ∧ Fr Z.heap.size L ∧ h = h0) := by
  have hw : ∀ d ∈ tables_1, d.before a0 Z = true := hW
  refine own_met (plainFor_of_name pn_com_example_control_design_check_controldesigncheck_lts_IntBlocks) ?_
  intro p e s m below meth cc_ s₁ Φ hF X0 hx hby hml hZ hown hnm hret hlk e0
  have N0 := Fr.nil Z.heap.size
  refine own_k (T' := s₁) (g' := (mkF m 0 #[.val (.ref a1)] [])) (fun _ k_ => castTop (ef_6_R m a1) k_) ?_
  refine own_k (T' := s₁) (g' := (mkF m 1 #[.val (.ref a1)] [(.ref a1)])) (fun _ k_ => XS.aloadN X0.here hx rfl (hb hby d6_0) rfl rfl  k_) ?_
  obtain ⟨T1, X1, e1, st1⟩ := getF X0 hx hZ hown (host := "") (Or.inl (hw _ (List.mem_of_getElem? (i := 25) rfl))) Via.refl e0 h_1 (g := (mkF m 1 #[.val (.ref a1)] [(.ref a1)])) rfl rfl (hb hby d6_1)
  refine own_k (T' := T1) (g' := (mkF m 4 #[.val (.ref a1)] [(.int (3 : Int32))])) st1 ?_
  exact own_retI X1 hx hret hlk (hb hby d6_4) hF (by rw [e1]; exact ⟨rfl, N0, rfl⟩) (by decide) (by decide)
theorem ef_7_RI (m : MethodId) (x0 : Addr) (x1 : Int32)  : entryFrame m #[(.ref x0), (.int x1)] 4 = mkF m 0 #[.val (.ref x0), .val (.int x1), .unset, .unset] [] := by first | (simp [entryFrame, mkF, argsToLocals, Value.category]; done) | rfl
theorem d7_0 : decode prog_69_method_3_code 0 = .ok (.iload_n 1, 1) := by decide +kernel
theorem d7_1 : decode prog_69_method_3_code 1 = .ok (.bipush 14, 2) := by decide +kernel
theorem d7_3 : decode prog_69_method_3_code 3 = .ok (.iushr, 1) := by decide +kernel
theorem d7_4 : decode prog_69_method_3_code 4 = .ok (.istore_n 2, 1) := by decide +kernel
theorem d7_5 : decode prog_69_method_3_code 5 = .ok (.aload_n 0, 1) := by decide +kernel
theorem d7_6 : decode prog_69_method_3_code 6 = .ok (.getfield 11, 3) := by decide +kernel
theorem d7_9 : decode prog_69_method_3_code 9 = .ok (.iload_n 2, 1) := by decide +kernel
theorem d7_10 : decode prog_69_method_3_code 10 = .ok (.aaload, 1) := by decide +kernel
theorem d7_11 : decode prog_69_method_3_code 11 = .ok (.astore_n 3, 1) := by decide +kernel
theorem d7_12 : decode prog_69_method_3_code 12 = .ok (.aload_n 3, 1) := by decide +kernel
theorem d7_13 : decode prog_69_method_3_code 13 = .ok (.ifnull 23, 3) := by decide +kernel
theorem d7_16 : decode prog_69_method_3_code 16 = .ok (.aload_n 0, 1) := by decide +kernel
theorem d7_17 : decode prog_69_method_3_code 17 = .ok (.getfield 21, 3) := by decide +kernel
theorem d7_20 : decode prog_69_method_3_code 20 = .ok (.iload_n 2, 1) := by decide +kernel
theorem d7_21 : decode prog_69_method_3_code 21 = .ok (.iaload, 1) := by decide +kernel
theorem d7_22 : decode prog_69_method_3_code 22 = .ok (.aload_n 3, 1) := by decide +kernel
theorem d7_23 : decode prog_69_method_3_code 23 = .ok (.iload_n 1, 1) := by decide +kernel
theorem d7_24 : decode prog_69_method_3_code 24 = .ok (.sipush 16383, 3) := by decide +kernel
theorem d7_27 : decode prog_69_method_3_code 27 = .ok (.iand, 1) := by decide +kernel
theorem d7_28 : decode prog_69_method_3_code 28 = .ok (.saload, 1) := by decide +kernel
theorem d7_29 : decode prog_69_method_3_code 29 = .ok (.ldc 28, 2) := by decide +kernel
theorem d7_31 : decode prog_69_method_3_code 31 = .ok (.iand, 1) := by decide +kernel
theorem d7_32 : decode prog_69_method_3_code 32 = .ok (.iadd, 1) := by decide +kernel
theorem d7_33 : decode prog_69_method_3_code 33 = .ok (.goto 15, 3) := by decide +kernel
theorem d7_48 : decode prog_69_method_3_code 48 = .ok (.ireturn, 1) := by decide +kernel
set_option maxRecDepth 65536 in
set_option maxHeartbeats 40000000 in
theorem rm_get_8 (l : Launch) (Z : State) (a0 : Array Value)  (hW : own_W Z a0) (a1 : Addr) (a2 : Addr) (q3 : ClassId) (a4 : Addr) (a5 : Addr) (q6 : ClassId) (i7 : Int32) (q8 : ClassId) (i9 : Int32) (i10 : Int32) (i11 : Int32) (h0 : Heap) (O0 : Old Z Z.heap.size h0) (h_1 : Fld Z h0 a1 "com/example/control_design_check/controldesigncheck/lts/IntBlocks" "narrow" "[[S" (.ref a2)) (h_2 : Arv Z h0 a2 q3 (.array .short) (1 : Int32) [(.ref a4)] .null) (h_3 : Fld Z h0 a1 "com/example/control_design_check/controldesigncheck/lts/IntBlocks" "bases" "[I" (.ref a5)) (h_4 : Arv Z h0 a5 q6 .int (1 : Int32) [(.int i7)] (.int (0 : Int32))) (h_5 : Arv Z h0 a4 q8 .short (16 : Int32) [(.int i9), (.int i10), (.int i11), (.int (0 : Int32)), (.int (0 : Int32)), (.int (0 : Int32)), (.int (0 : Int32)), (.int (0 : Int32)), (.int (0 : Int32)), (.int (0 : Int32)), (.int (0 : Int32)), (.int (0 : Int32)), (.int (0 : Int32)), (.int (0 : Int32)), (.int (0 : Int32)), (.int (0 : Int32))] (.int (0 : Int32))) :
    own_Met l Z (⟨"com/example/control_design_check/controldesigncheck/lts/IntBlocks", "get", "(I)I"⟩ : MethodName) prog_69_method_3_code 4 (some .int) ({ frames := 0, cells := 0, slots := 0, locals := 0 } : Room) #[(.ref a1), (.int (0 : Int32))] h0 (fun v h L => v = some (.int (i7 + (i9 &&& (65535 : Int32)))) ∧ Fr Z.heap.size L ∧ h = h0) := by
  have hw : ∀ d ∈ tables_1, d.before a0 Z = true := hW
  refine own_met (plainFor_of_name pn_com_example_control_design_check_controldesigncheck_lts_IntBlocks) ?_
  intro p e s m below meth cc_ s₁ Φ hF X0 hx hby hml hZ hown hnm hret hlk e0
  have N0 := Fr.nil Z.heap.size
  refine own_k (T' := s₁) (g' := (mkF m 0 #[.val (.ref a1), .val (.int (0 : Int32)), .unset, .unset] [])) (fun _ k_ => castTop (ef_7_RI m a1 (0 : Int32)) k_) ?_
  refine own_k (T' := s₁) (g' := (mkF m 1 #[.val (.ref a1), .val (.int (0 : Int32)), .unset, .unset] [(.int (0 : Int32))])) (fun _ k_ => XS.iloadN X0.here hx rfl (hb hby d7_0) rfl  k_) ?_
  refine own_k (T' := s₁) (g' := (mkF m 3 #[.val (.ref a1), .val (.int (0 : Int32)), .unset, .unset] [(.int (14 : Int32)), (.int (0 : Int32))])) (fun _ k_ => XS.bipush X0.here hx rfl (hb hby d7_1) k_) ?_
  refine own_k (T' := s₁) (g' := (mkF m 4 #[.val (.ref a1), .val (.int (0 : Int32)), .unset, .unset] [(.int (((0 : Int32).toUInt32 >>> ((14 : Int32) &&& 31).toUInt32).toInt32))])) (fun _ k_ => XS.iushr X0.here hx rfl (hb hby d7_3) rfl k_) ?_
  rw [show (((0 : Int32).toUInt32 >>> ((14 : Int32) &&& 31).toUInt32).toInt32) = (0 : Int32) from by decide]
  refine own_k (T' := s₁) (g' := (mkF m 5 #[.val (.ref a1), .val (.int (0 : Int32)), .val (.int (0 : Int32)), .unset] [])) (fun _ k_ => XS.istoreN X0.here hx rfl (hb hby d7_4) rfl (l' := #[.val (.ref a1), .val (.int (0 : Int32)), .val (.int (0 : Int32)), .unset]) rfl k_) ?_
  refine own_k (T' := s₁) (g' := (mkF m 6 #[.val (.ref a1), .val (.int (0 : Int32)), .val (.int (0 : Int32)), .unset] [(.ref a1)])) (fun _ k_ => XS.aloadN X0.here hx rfl (hb hby d7_5) rfl rfl  k_) ?_
  obtain ⟨T1, X1, e1, st1⟩ := getF X0 hx hZ hown (host := "") (Or.inl (hw _ (List.mem_of_getElem? (i := 11) rfl))) Via.refl e0 h_1 (g := (mkF m 6 #[.val (.ref a1), .val (.int (0 : Int32)), .val (.int (0 : Int32)), .unset] [(.ref a1)])) rfl rfl (hb hby d7_6)
  refine own_k (T' := T1) (g' := (mkF m 9 #[.val (.ref a1), .val (.int (0 : Int32)), .val (.int (0 : Int32)), .unset] [(.ref a2)])) st1 ?_
  refine own_k (T' := T1) (g' := (mkF m 10 #[.val (.ref a1), .val (.int (0 : Int32)), .val (.int (0 : Int32)), .unset] [(.int (0 : Int32)), (.ref a2)])) (fun _ k_ => XS.iloadN X1.here hx rfl (hb hby d7_9) rfl  k_) ?_
  refine own_aaload X1 hx hZ e1 h_2 rfl (j := (0 : Int32)) ⟨by decide, by decide⟩ (v := (.ref a4)) rfl (hb hby d7_10) ?_
  show own_Go p e below Φ T1 (mkF m 11 #[.val (.ref a1), .val (.int (0 : Int32)), .val (.int (0 : Int32)), .unset] [(.ref a4)])
  refine own_k (T' := T1) (g' := (mkF m 12 #[.val (.ref a1), .val (.int (0 : Int32)), .val (.int (0 : Int32)), .val (.ref a4)] [])) (fun _ k_ => XS.astoreN X1.here hx rfl (hb hby d7_11) rfl rfl (l' := #[.val (.ref a1), .val (.int (0 : Int32)), .val (.int (0 : Int32)), .val (.ref a4)]) rfl k_) ?_
  refine own_k (T' := T1) (g' := (mkF m 13 #[.val (.ref a1), .val (.int (0 : Int32)), .val (.int (0 : Int32)), .val (.ref a4)] [(.ref a4)])) (fun _ k_ => XS.aloadN X1.here hx rfl (hb hby d7_12) rfl rfl  k_) ?_
  refine own_k (T' := T1) (g' := (mkF m 16 #[.val (.ref a1), .val (.int (0 : Int32)), .val (.int (0 : Int32)), .val (.ref a4)] [])) (fun _ k_ => XS.ifnullNo X1.here hx rfl (hb hby d7_13) rfl k_) ?_
  refine own_k (T' := T1) (g' := (mkF m 17 #[.val (.ref a1), .val (.int (0 : Int32)), .val (.int (0 : Int32)), .val (.ref a4)] [(.ref a1)])) (fun _ k_ => XS.aloadN X1.here hx rfl (hb hby d7_16) rfl rfl  k_) ?_
  obtain ⟨T2, X2, e2, st2⟩ := getF X1 hx hZ hown (host := "") (Or.inl (hw _ (List.mem_of_getElem? (i := 18) rfl))) Via.refl e1 h_3 (g := (mkF m 17 #[.val (.ref a1), .val (.int (0 : Int32)), .val (.int (0 : Int32)), .val (.ref a4)] [(.ref a1)])) rfl rfl (hb hby d7_17)
  refine own_k (T' := T2) (g' := (mkF m 20 #[.val (.ref a1), .val (.int (0 : Int32)), .val (.int (0 : Int32)), .val (.ref a4)] [(.ref a5)])) st2 ?_
  refine own_k (T' := T2) (g' := (mkF m 21 #[.val (.ref a1), .val (.int (0 : Int32)), .val (.int (0 : Int32)), .val (.ref a4)] [(.int (0 : Int32)), (.ref a5)])) (fun _ k_ => XS.iloadN X2.here hx rfl (hb hby d7_20) rfl  k_) ?_
  refine own_iaload X2 hx hZ e2 h_4 (j := (0 : Int32)) ⟨by decide, by decide⟩ (v := (.int i7)) rfl (hb hby d7_21) ?_
  show own_Go p e below Φ T2 (mkF m 22 #[.val (.ref a1), .val (.int (0 : Int32)), .val (.int (0 : Int32)), .val (.ref a4)] [(.int i7)])
  refine own_k (T' := T2) (g' := (mkF m 23 #[.val (.ref a1), .val (.int (0 : Int32)), .val (.int (0 : Int32)), .val (.ref a4)] [(.ref a4), (.int i7)])) (fun _ k_ => XS.aloadN X2.here hx rfl (hb hby d7_22) rfl rfl  k_) ?_
  refine own_k (T' := T2) (g' := (mkF m 24 #[.val (.ref a1), .val (.int (0 : Int32)), .val (.int (0 : Int32)), .val (.ref a4)] [(.int (0 : Int32)), (.ref a4), (.int i7)])) (fun _ k_ => XS.iloadN X2.here hx rfl (hb hby d7_23) rfl  k_) ?_
  refine own_k (T' := T2) (g' := (mkF m 27 #[.val (.ref a1), .val (.int (0 : Int32)), .val (.int (0 : Int32)), .val (.ref a4)] [(.int (16383 : Int32)), (.int (0 : Int32)), (.ref a4), (.int i7)])) (fun _ k_ => XS.sipush X2.here hx rfl (hb hby d7_24) k_) ?_
  refine own_k (T' := T2) (g' := (mkF m 28 #[.val (.ref a1), .val (.int (0 : Int32)), .val (.int (0 : Int32)), .val (.ref a4)] [(.int ((0 : Int32) &&& (16383 : Int32))), (.ref a4), (.int i7)])) (fun _ k_ => XS.iand X2.here hx rfl (hb hby d7_27) rfl k_) ?_
  rw [show ((0 : Int32) &&& (16383 : Int32)) = (0 : Int32) from by decide]
  refine own_saload X2 hx hZ e2 h_5 (j := (0 : Int32)) ⟨by decide, by decide⟩ (v := (.int i9)) rfl (hb hby d7_28) ?_
  show own_Go p e below Φ T2 (mkF m 29 #[.val (.ref a1), .val (.int (0 : Int32)), .val (.int (0 : Int32)), .val (.ref a4)] [(.int i9), (.int i7)])
  refine own_k (T' := T2) (g' := (mkF m 31 #[.val (.ref a1), .val (.int (0 : Int32)), .val (.int (0 : Int32)), .val (.ref a4)] [(.int (65535 : Int32)), (.int i9), (.int i7)])) (X2.ldcInt hx hown (mvT hZ (hw _ (List.mem_of_getElem? (i := 48) rfl))) (g := (mkF m 29 #[.val (.ref a1), .val (.int (0 : Int32)), .val (.int (0 : Int32)), .val (.ref a4)] [(.int i9), (.int i7)])) rfl (hb hby d7_29)) ?_
  refine own_k (T' := T2) (g' := (mkF m 32 #[.val (.ref a1), .val (.int (0 : Int32)), .val (.int (0 : Int32)), .val (.ref a4)] [(.int (i9 &&& (65535 : Int32))), (.int i7)])) (fun _ k_ => XS.iand X2.here hx rfl (hb hby d7_31) rfl k_) ?_
  refine own_k (T' := T2) (g' := (mkF m 33 #[.val (.ref a1), .val (.int (0 : Int32)), .val (.int (0 : Int32)), .val (.ref a4)] [(.int (i7 + (i9 &&& (65535 : Int32))))])) (fun _ k_ => XS.iadd X2.here hx rfl (hb hby d7_32) rfl k_) ?_
  refine own_k (T' := T2) (g' := (mkF m 48 #[.val (.ref a1), .val (.int (0 : Int32)), .val (.int (0 : Int32)), .val (.ref a4)] [(.int (i7 + (i9 &&& (65535 : Int32))))])) (fun _ k_ => XS.goto X2.here hx rfl (pc0 := 33) (pc' := 48) rfl (hb hby d7_33) (by decide) (by decide) k_) ?_
  exact own_retI X2 hx hret hlk (hb hby d7_48) hF (by rw [e2]; exact ⟨rfl, N0, rfl⟩) (by decide) (by decide)
set_option maxRecDepth 65536 in
set_option maxHeartbeats 40000000 in
theorem rm_get_9 (l : Launch) (Z : State) (a0 : Array Value)  (hW : own_W Z a0) (a1 : Addr) (a2 : Addr) (q3 : ClassId) (a4 : Addr) (a5 : Addr) (q6 : ClassId) (i7 : Int32) (q8 : ClassId) (i9 : Int32) (i10 : Int32) (i11 : Int32) (h0 : Heap) (O0 : Old Z Z.heap.size h0) (h_1 : Fld Z h0 a1 "com/example/control_design_check/controldesigncheck/lts/IntBlocks" "narrow" "[[S" (.ref a2)) (h_2 : Arv Z h0 a2 q3 (.array .short) (1 : Int32) [(.ref a4)] .null) (h_3 : Fld Z h0 a1 "com/example/control_design_check/controldesigncheck/lts/IntBlocks" "bases" "[I" (.ref a5)) (h_4 : Arv Z h0 a5 q6 .int (1 : Int32) [(.int i7)] (.int (0 : Int32))) (h_5 : Arv Z h0 a4 q8 .short (16 : Int32) [(.int i9), (.int i10), (.int i11), (.int (0 : Int32)), (.int (0 : Int32)), (.int (0 : Int32)), (.int (0 : Int32)), (.int (0 : Int32)), (.int (0 : Int32)), (.int (0 : Int32)), (.int (0 : Int32)), (.int (0 : Int32)), (.int (0 : Int32)), (.int (0 : Int32)), (.int (0 : Int32)), (.int (0 : Int32))] (.int (0 : Int32))) :
    own_Met l Z (⟨"com/example/control_design_check/controldesigncheck/lts/IntBlocks", "get", "(I)I"⟩ : MethodName) prog_69_method_3_code 4 (some .int) ({ frames := 0, cells := 0, slots := 0, locals := 0 } : Room) #[(.ref a1), (.int (1 : Int32))] h0 (fun v h L => v = some (.int (i7 + (i10 &&& (65535 : Int32)))) ∧ Fr Z.heap.size L ∧ h = h0) := by
  have hw : ∀ d ∈ tables_1, d.before a0 Z = true := hW
  refine own_met (plainFor_of_name pn_com_example_control_design_check_controldesigncheck_lts_IntBlocks) ?_
  intro p e s m below meth cc_ s₁ Φ hF X0 hx hby hml hZ hown hnm hret hlk e0
  have N0 := Fr.nil Z.heap.size
  refine own_k (T' := s₁) (g' := (mkF m 0 #[.val (.ref a1), .val (.int (1 : Int32)), .unset, .unset] [])) (fun _ k_ => castTop (ef_7_RI m a1 (1 : Int32)) k_) ?_
  refine own_k (T' := s₁) (g' := (mkF m 1 #[.val (.ref a1), .val (.int (1 : Int32)), .unset, .unset] [(.int (1 : Int32))])) (fun _ k_ => XS.iloadN X0.here hx rfl (hb hby d7_0) rfl  k_) ?_
  refine own_k (T' := s₁) (g' := (mkF m 3 #[.val (.ref a1), .val (.int (1 : Int32)), .unset, .unset] [(.int (14 : Int32)), (.int (1 : Int32))])) (fun _ k_ => XS.bipush X0.here hx rfl (hb hby d7_1) k_) ?_
  refine own_k (T' := s₁) (g' := (mkF m 4 #[.val (.ref a1), .val (.int (1 : Int32)), .unset, .unset] [(.int (((1 : Int32).toUInt32 >>> ((14 : Int32) &&& 31).toUInt32).toInt32))])) (fun _ k_ => XS.iushr X0.here hx rfl (hb hby d7_3) rfl k_) ?_
  rw [show (((1 : Int32).toUInt32 >>> ((14 : Int32) &&& 31).toUInt32).toInt32) = (0 : Int32) from by decide]
  refine own_k (T' := s₁) (g' := (mkF m 5 #[.val (.ref a1), .val (.int (1 : Int32)), .val (.int (0 : Int32)), .unset] [])) (fun _ k_ => XS.istoreN X0.here hx rfl (hb hby d7_4) rfl (l' := #[.val (.ref a1), .val (.int (1 : Int32)), .val (.int (0 : Int32)), .unset]) rfl k_) ?_
  refine own_k (T' := s₁) (g' := (mkF m 6 #[.val (.ref a1), .val (.int (1 : Int32)), .val (.int (0 : Int32)), .unset] [(.ref a1)])) (fun _ k_ => XS.aloadN X0.here hx rfl (hb hby d7_5) rfl rfl  k_) ?_
  obtain ⟨T1, X1, e1, st1⟩ := getF X0 hx hZ hown (host := "") (Or.inl (hw _ (List.mem_of_getElem? (i := 11) rfl))) Via.refl e0 h_1 (g := (mkF m 6 #[.val (.ref a1), .val (.int (1 : Int32)), .val (.int (0 : Int32)), .unset] [(.ref a1)])) rfl rfl (hb hby d7_6)
  refine own_k (T' := T1) (g' := (mkF m 9 #[.val (.ref a1), .val (.int (1 : Int32)), .val (.int (0 : Int32)), .unset] [(.ref a2)])) st1 ?_
  refine own_k (T' := T1) (g' := (mkF m 10 #[.val (.ref a1), .val (.int (1 : Int32)), .val (.int (0 : Int32)), .unset] [(.int (0 : Int32)), (.ref a2)])) (fun _ k_ => XS.iloadN X1.here hx rfl (hb hby d7_9) rfl  k_) ?_
  refine own_aaload X1 hx hZ e1 h_2 rfl (j := (0 : Int32)) ⟨by decide, by decide⟩ (v := (.ref a4)) rfl (hb hby d7_10) ?_
  show own_Go p e below Φ T1 (mkF m 11 #[.val (.ref a1), .val (.int (1 : Int32)), .val (.int (0 : Int32)), .unset] [(.ref a4)])
  refine own_k (T' := T1) (g' := (mkF m 12 #[.val (.ref a1), .val (.int (1 : Int32)), .val (.int (0 : Int32)), .val (.ref a4)] [])) (fun _ k_ => XS.astoreN X1.here hx rfl (hb hby d7_11) rfl rfl (l' := #[.val (.ref a1), .val (.int (1 : Int32)), .val (.int (0 : Int32)), .val (.ref a4)]) rfl k_) ?_
  refine own_k (T' := T1) (g' := (mkF m 13 #[.val (.ref a1), .val (.int (1 : Int32)), .val (.int (0 : Int32)), .val (.ref a4)] [(.ref a4)])) (fun _ k_ => XS.aloadN X1.here hx rfl (hb hby d7_12) rfl rfl  k_) ?_
  refine own_k (T' := T1) (g' := (mkF m 16 #[.val (.ref a1), .val (.int (1 : Int32)), .val (.int (0 : Int32)), .val (.ref a4)] [])) (fun _ k_ => XS.ifnullNo X1.here hx rfl (hb hby d7_13) rfl k_) ?_
  refine own_k (T' := T1) (g' := (mkF m 17 #[.val (.ref a1), .val (.int (1 : Int32)), .val (.int (0 : Int32)), .val (.ref a4)] [(.ref a1)])) (fun _ k_ => XS.aloadN X1.here hx rfl (hb hby d7_16) rfl rfl  k_) ?_
  obtain ⟨T2, X2, e2, st2⟩ := getF X1 hx hZ hown (host := "") (Or.inl (hw _ (List.mem_of_getElem? (i := 18) rfl))) Via.refl e1 h_3 (g := (mkF m 17 #[.val (.ref a1), .val (.int (1 : Int32)), .val (.int (0 : Int32)), .val (.ref a4)] [(.ref a1)])) rfl rfl (hb hby d7_17)
  refine own_k (T' := T2) (g' := (mkF m 20 #[.val (.ref a1), .val (.int (1 : Int32)), .val (.int (0 : Int32)), .val (.ref a4)] [(.ref a5)])) st2 ?_
  refine own_k (T' := T2) (g' := (mkF m 21 #[.val (.ref a1), .val (.int (1 : Int32)), .val (.int (0 : Int32)), .val (.ref a4)] [(.int (0 : Int32)), (.ref a5)])) (fun _ k_ => XS.iloadN X2.here hx rfl (hb hby d7_20) rfl  k_) ?_
  refine own_iaload X2 hx hZ e2 h_4 (j := (0 : Int32)) ⟨by decide, by decide⟩ (v := (.int i7)) rfl (hb hby d7_21) ?_
  show own_Go p e below Φ T2 (mkF m 22 #[.val (.ref a1), .val (.int (1 : Int32)), .val (.int (0 : Int32)), .val (.ref a4)] [(.int i7)])
  refine own_k (T' := T2) (g' := (mkF m 23 #[.val (.ref a1), .val (.int (1 : Int32)), .val (.int (0 : Int32)), .val (.ref a4)] [(.ref a4), (.int i7)])) (fun _ k_ => XS.aloadN X2.here hx rfl (hb hby d7_22) rfl rfl  k_) ?_
  refine own_k (T' := T2) (g' := (mkF m 24 #[.val (.ref a1), .val (.int (1 : Int32)), .val (.int (0 : Int32)), .val (.ref a4)] [(.int (1 : Int32)), (.ref a4), (.int i7)])) (fun _ k_ => XS.iloadN X2.here hx rfl (hb hby d7_23) rfl  k_) ?_
  refine own_k (T' := T2) (g' := (mkF m 27 #[.val (.ref a1), .val (.int (1 : Int32)), .val (.int (0 : Int32)), .val (.ref a4)] [(.int (16383 : Int32)), (.int (1 : Int32)), (.ref a4), (.int i7)])) (fun _ k_ => XS.sipush X2.here hx rfl (hb hby d7_24) k_) ?_
  refine own_k (T' := T2) (g' := (mkF m 28 #[.val (.ref a1), .val (.int (1 : Int32)), .val (.int (0 : Int32)), .val (.ref a4)] [(.int ((1 : Int32) &&& (16383 : Int32))), (.ref a4), (.int i7)])) (fun _ k_ => XS.iand X2.here hx rfl (hb hby d7_27) rfl k_) ?_
  rw [show ((1 : Int32) &&& (16383 : Int32)) = (1 : Int32) from by decide]
  refine own_saload X2 hx hZ e2 h_5 (j := (1 : Int32)) ⟨by decide, by decide⟩ (v := (.int i10)) rfl (hb hby d7_28) ?_
  show own_Go p e below Φ T2 (mkF m 29 #[.val (.ref a1), .val (.int (1 : Int32)), .val (.int (0 : Int32)), .val (.ref a4)] [(.int i10), (.int i7)])
  refine own_k (T' := T2) (g' := (mkF m 31 #[.val (.ref a1), .val (.int (1 : Int32)), .val (.int (0 : Int32)), .val (.ref a4)] [(.int (65535 : Int32)), (.int i10), (.int i7)])) (X2.ldcInt hx hown (mvT hZ (hw _ (List.mem_of_getElem? (i := 48) rfl))) (g := (mkF m 29 #[.val (.ref a1), .val (.int (1 : Int32)), .val (.int (0 : Int32)), .val (.ref a4)] [(.int i10), (.int i7)])) rfl (hb hby d7_29)) ?_
  refine own_k (T' := T2) (g' := (mkF m 32 #[.val (.ref a1), .val (.int (1 : Int32)), .val (.int (0 : Int32)), .val (.ref a4)] [(.int (i10 &&& (65535 : Int32))), (.int i7)])) (fun _ k_ => XS.iand X2.here hx rfl (hb hby d7_31) rfl k_) ?_
  refine own_k (T' := T2) (g' := (mkF m 33 #[.val (.ref a1), .val (.int (1 : Int32)), .val (.int (0 : Int32)), .val (.ref a4)] [(.int (i7 + (i10 &&& (65535 : Int32))))])) (fun _ k_ => XS.iadd X2.here hx rfl (hb hby d7_32) rfl k_) ?_
  refine own_k (T' := T2) (g' := (mkF m 48 #[.val (.ref a1), .val (.int (1 : Int32)), .val (.int (0 : Int32)), .val (.ref a4)] [(.int (i7 + (i10 &&& (65535 : Int32))))])) (fun _ k_ => XS.goto X2.here hx rfl (pc0 := 33) (pc' := 48) rfl (hb hby d7_33) (by decide) (by decide) k_) ?_
  exact own_retI X2 hx hret hlk (hb hby d7_48) hF (by rw [e2]; exact ⟨rfl, N0, rfl⟩) (by decide) (by decide)
set_option maxRecDepth 65536 in
set_option maxHeartbeats 40000000 in
theorem rm_get_10 (l : Launch) (Z : State) (a0 : Array Value)  (hW : own_W Z a0) (a1 : Addr) (a2 : Addr) (q3 : ClassId) (a4 : Addr) (a5 : Addr) (q6 : ClassId) (i7 : Int32) (q8 : ClassId) (i9 : Int32) (i10 : Int32) (i11 : Int32) (h0 : Heap) (O0 : Old Z Z.heap.size h0) (h_1 : Fld Z h0 a1 "com/example/control_design_check/controldesigncheck/lts/IntBlocks" "narrow" "[[S" (.ref a2)) (h_2 : Arv Z h0 a2 q3 (.array .short) (1 : Int32) [(.ref a4)] .null) (h_3 : Fld Z h0 a1 "com/example/control_design_check/controldesigncheck/lts/IntBlocks" "bases" "[I" (.ref a5)) (h_4 : Arv Z h0 a5 q6 .int (1 : Int32) [(.int i7)] (.int (0 : Int32))) (h_5 : Arv Z h0 a4 q8 .short (16 : Int32) [(.int i9), (.int i10), (.int i11), (.int (0 : Int32)), (.int (0 : Int32)), (.int (0 : Int32)), (.int (0 : Int32)), (.int (0 : Int32)), (.int (0 : Int32)), (.int (0 : Int32)), (.int (0 : Int32)), (.int (0 : Int32)), (.int (0 : Int32)), (.int (0 : Int32)), (.int (0 : Int32)), (.int (0 : Int32))] (.int (0 : Int32))) :
    own_Met l Z (⟨"com/example/control_design_check/controldesigncheck/lts/IntBlocks", "get", "(I)I"⟩ : MethodName) prog_69_method_3_code 4 (some .int) ({ frames := 0, cells := 0, slots := 0, locals := 0 } : Room) #[(.ref a1), (.int (2 : Int32))] h0 (fun v h L => v = some (.int (i7 + (i11 &&& (65535 : Int32)))) ∧ Fr Z.heap.size L ∧ h = h0) := by
  have hw : ∀ d ∈ tables_1, d.before a0 Z = true := hW
  refine own_met (plainFor_of_name pn_com_example_control_design_check_controldesigncheck_lts_IntBlocks) ?_
  intro p e s m below meth cc_ s₁ Φ hF X0 hx hby hml hZ hown hnm hret hlk e0
  have N0 := Fr.nil Z.heap.size
  refine own_k (T' := s₁) (g' := (mkF m 0 #[.val (.ref a1), .val (.int (2 : Int32)), .unset, .unset] [])) (fun _ k_ => castTop (ef_7_RI m a1 (2 : Int32)) k_) ?_
  refine own_k (T' := s₁) (g' := (mkF m 1 #[.val (.ref a1), .val (.int (2 : Int32)), .unset, .unset] [(.int (2 : Int32))])) (fun _ k_ => XS.iloadN X0.here hx rfl (hb hby d7_0) rfl  k_) ?_
  refine own_k (T' := s₁) (g' := (mkF m 3 #[.val (.ref a1), .val (.int (2 : Int32)), .unset, .unset] [(.int (14 : Int32)), (.int (2 : Int32))])) (fun _ k_ => XS.bipush X0.here hx rfl (hb hby d7_1) k_) ?_
  refine own_k (T' := s₁) (g' := (mkF m 4 #[.val (.ref a1), .val (.int (2 : Int32)), .unset, .unset] [(.int (((2 : Int32).toUInt32 >>> ((14 : Int32) &&& 31).toUInt32).toInt32))])) (fun _ k_ => XS.iushr X0.here hx rfl (hb hby d7_3) rfl k_) ?_
  rw [show (((2 : Int32).toUInt32 >>> ((14 : Int32) &&& 31).toUInt32).toInt32) = (0 : Int32) from by decide]
  refine own_k (T' := s₁) (g' := (mkF m 5 #[.val (.ref a1), .val (.int (2 : Int32)), .val (.int (0 : Int32)), .unset] [])) (fun _ k_ => XS.istoreN X0.here hx rfl (hb hby d7_4) rfl (l' := #[.val (.ref a1), .val (.int (2 : Int32)), .val (.int (0 : Int32)), .unset]) rfl k_) ?_
  refine own_k (T' := s₁) (g' := (mkF m 6 #[.val (.ref a1), .val (.int (2 : Int32)), .val (.int (0 : Int32)), .unset] [(.ref a1)])) (fun _ k_ => XS.aloadN X0.here hx rfl (hb hby d7_5) rfl rfl  k_) ?_
  obtain ⟨T1, X1, e1, st1⟩ := getF X0 hx hZ hown (host := "") (Or.inl (hw _ (List.mem_of_getElem? (i := 11) rfl))) Via.refl e0 h_1 (g := (mkF m 6 #[.val (.ref a1), .val (.int (2 : Int32)), .val (.int (0 : Int32)), .unset] [(.ref a1)])) rfl rfl (hb hby d7_6)
  refine own_k (T' := T1) (g' := (mkF m 9 #[.val (.ref a1), .val (.int (2 : Int32)), .val (.int (0 : Int32)), .unset] [(.ref a2)])) st1 ?_
  refine own_k (T' := T1) (g' := (mkF m 10 #[.val (.ref a1), .val (.int (2 : Int32)), .val (.int (0 : Int32)), .unset] [(.int (0 : Int32)), (.ref a2)])) (fun _ k_ => XS.iloadN X1.here hx rfl (hb hby d7_9) rfl  k_) ?_
  refine own_aaload X1 hx hZ e1 h_2 rfl (j := (0 : Int32)) ⟨by decide, by decide⟩ (v := (.ref a4)) rfl (hb hby d7_10) ?_
  show own_Go p e below Φ T1 (mkF m 11 #[.val (.ref a1), .val (.int (2 : Int32)), .val (.int (0 : Int32)), .unset] [(.ref a4)])
  refine own_k (T' := T1) (g' := (mkF m 12 #[.val (.ref a1), .val (.int (2 : Int32)), .val (.int (0 : Int32)), .val (.ref a4)] [])) (fun _ k_ => XS.astoreN X1.here hx rfl (hb hby d7_11) rfl rfl (l' := #[.val (.ref a1), .val (.int (2 : Int32)), .val (.int (0 : Int32)), .val (.ref a4)]) rfl k_) ?_
  refine own_k (T' := T1) (g' := (mkF m 13 #[.val (.ref a1), .val (.int (2 : Int32)), .val (.int (0 : Int32)), .val (.ref a4)] [(.ref a4)])) (fun _ k_ => XS.aloadN X1.here hx rfl (hb hby d7_12) rfl rfl  k_) ?_
  refine own_k (T' := T1) (g' := (mkF m 16 #[.val (.ref a1), .val (.int (2 : Int32)), .val (.int (0 : Int32)), .val (.ref a4)] [])) (fun _ k_ => XS.ifnullNo X1.here hx rfl (hb hby d7_13) rfl k_) ?_
  refine own_k (T' := T1) (g' := (mkF m 17 #[.val (.ref a1), .val (.int (2 : Int32)), .val (.int (0 : Int32)), .val (.ref a4)] [(.ref a1)])) (fun _ k_ => XS.aloadN X1.here hx rfl (hb hby d7_16) rfl rfl  k_) ?_
  obtain ⟨T2, X2, e2, st2⟩ := getF X1 hx hZ hown (host := "") (Or.inl (hw _ (List.mem_of_getElem? (i := 18) rfl))) Via.refl e1 h_3 (g := (mkF m 17 #[.val (.ref a1), .val (.int (2 : Int32)), .val (.int (0 : Int32)), .val (.ref a4)] [(.ref a1)])) rfl rfl (hb hby d7_17)
  refine own_k (T' := T2) (g' := (mkF m 20 #[.val (.ref a1), .val (.int (2 : Int32)), .val (.int (0 : Int32)), .val (.ref a4)] [(.ref a5)])) st2 ?_
  refine own_k (T' := T2) (g' := (mkF m 21 #[.val (.ref a1), .val (.int (2 : Int32)), .val (.int (0 : Int32)), .val (.ref a4)] [(.int (0 : Int32)), (.ref a5)])) (fun _ k_ => XS.iloadN X2.here hx rfl (hb hby d7_20) rfl  k_) ?_
  refine own_iaload X2 hx hZ e2 h_4 (j := (0 : Int32)) ⟨by decide, by decide⟩ (v := (.int i7)) rfl (hb hby d7_21) ?_
  show own_Go p e below Φ T2 (mkF m 22 #[.val (.ref a1), .val (.int (2 : Int32)), .val (.int (0 : Int32)), .val (.ref a4)] [(.int i7)])
  refine own_k (T' := T2) (g' := (mkF m 23 #[.val (.ref a1), .val (.int (2 : Int32)), .val (.int (0 : Int32)), .val (.ref a4)] [(.ref a4), (.int i7)])) (fun _ k_ => XS.aloadN X2.here hx rfl (hb hby d7_22) rfl rfl  k_) ?_
  refine own_k (T' := T2) (g' := (mkF m 24 #[.val (.ref a1), .val (.int (2 : Int32)), .val (.int (0 : Int32)), .val (.ref a4)] [(.int (2 : Int32)), (.ref a4), (.int i7)])) (fun _ k_ => XS.iloadN X2.here hx rfl (hb hby d7_23) rfl  k_) ?_
  refine own_k (T' := T2) (g' := (mkF m 27 #[.val (.ref a1), .val (.int (2 : Int32)), .val (.int (0 : Int32)), .val (.ref a4)] [(.int (16383 : Int32)), (.int (2 : Int32)), (.ref a4), (.int i7)])) (fun _ k_ => XS.sipush X2.here hx rfl (hb hby d7_24) k_) ?_
  refine own_k (T' := T2) (g' := (mkF m 28 #[.val (.ref a1), .val (.int (2 : Int32)), .val (.int (0 : Int32)), .val (.ref a4)] [(.int ((2 : Int32) &&& (16383 : Int32))), (.ref a4), (.int i7)])) (fun _ k_ => XS.iand X2.here hx rfl (hb hby d7_27) rfl k_) ?_
  rw [show ((2 : Int32) &&& (16383 : Int32)) = (2 : Int32) from by decide]
  refine own_saload X2 hx hZ e2 h_5 (j := (2 : Int32)) ⟨by decide, by decide⟩ (v := (.int i11)) rfl (hb hby d7_28) ?_
  show own_Go p e below Φ T2 (mkF m 29 #[.val (.ref a1), .val (.int (2 : Int32)), .val (.int (0 : Int32)), .val (.ref a4)] [(.int i11), (.int i7)])
  refine own_k (T' := T2) (g' := (mkF m 31 #[.val (.ref a1), .val (.int (2 : Int32)), .val (.int (0 : Int32)), .val (.ref a4)] [(.int (65535 : Int32)), (.int i11), (.int i7)])) (X2.ldcInt hx hown (mvT hZ (hw _ (List.mem_of_getElem? (i := 48) rfl))) (g := (mkF m 29 #[.val (.ref a1), .val (.int (2 : Int32)), .val (.int (0 : Int32)), .val (.ref a4)] [(.int i11), (.int i7)])) rfl (hb hby d7_29)) ?_
  refine own_k (T' := T2) (g' := (mkF m 32 #[.val (.ref a1), .val (.int (2 : Int32)), .val (.int (0 : Int32)), .val (.ref a4)] [(.int (i11 &&& (65535 : Int32))), (.int i7)])) (fun _ k_ => XS.iand X2.here hx rfl (hb hby d7_31) rfl k_) ?_
  refine own_k (T' := T2) (g' := (mkF m 33 #[.val (.ref a1), .val (.int (2 : Int32)), .val (.int (0 : Int32)), .val (.ref a4)] [(.int (i7 + (i11 &&& (65535 : Int32))))])) (fun _ k_ => XS.iadd X2.here hx rfl (hb hby d7_32) rfl k_) ?_
  refine own_k (T' := T2) (g' := (mkF m 48 #[.val (.ref a1), .val (.int (2 : Int32)), .val (.int (0 : Int32)), .val (.ref a4)] [(.int (i7 + (i11 &&& (65535 : Int32))))])) (fun _ k_ => XS.goto X2.here hx rfl (pc0 := 33) (pc' := 48) rfl (hb hby d7_33) (by decide) (by decide) k_) ?_
  exact own_retI X2 hx hret hlk (hb hby d7_48) hF (by rw [e2]; exact ⟨rfl, N0, rfl⟩) (by decide) (by decide)
theorem d3_72 : decode prog_69_method_4_code 72 = .ok (.aload_n 0, 1) := by decide +kernel
theorem d3_73 : decode prog_69_method_4_code 73 = .ok (.iload_n 2, 1) := by decide +kernel
theorem d3_74 : decode prog_69_method_4_code 74 = .ok (.iload_n 3, 1) := by decide +kernel
theorem d3_75 : decode prog_69_method_4_code 75 = .ok (.invokevirtual 40, 3) := by decide +kernel
theorem ef_8_RII (m : MethodId) (x0 : Addr) (x1 : Int32) (x2 : Int32)  : entryFrame m #[(.ref x0), (.int x1), (.int x2)] 6 = mkF m 0 #[.val (.ref x0), .val (.int x1), .val (.int x2), .unset, .unset, .unset] [] := by first | (simp [entryFrame, mkF, argsToLocals, Value.category]; done) | rfl
theorem d8_0 : decode prog_69_method_8_code 0 = .ok (.aload_n 0, 1) := by decide +kernel
theorem d8_1 : decode prog_69_method_8_code 1 = .ok (.getfield 11, 3) := by decide +kernel
theorem d8_4 : decode prog_69_method_8_code 4 = .ok (.iload_n 1, 1) := by decide +kernel
theorem d8_5 : decode prog_69_method_8_code 5 = .ok (.aaload, 1) := by decide +kernel
theorem d8_6 : decode prog_69_method_8_code 6 = .ok (.astore_n 3, 1) := by decide +kernel
theorem d8_7 : decode prog_69_method_8_code 7 = .ok (.aload_n 3, 1) := by decide +kernel
theorem d8_8 : decode prog_69_method_8_code 8 = .ok (.arraylength, 1) := by decide +kernel
theorem d8_9 : decode prog_69_method_8_code 9 = .ok (.newarray .int, 2) := by decide +kernel
theorem d8_11 : decode prog_69_method_8_code 11 = .ok (.astore 4, 2) := by decide +kernel
theorem d8_13 : decode prog_69_method_8_code 13 = .ok (.iconst 0, 1) := by decide +kernel
theorem d8_14 : decode prog_69_method_8_code 14 = .ok (.istore 5, 2) := by decide +kernel
theorem d8_16 : decode prog_69_method_8_code 16 = .ok (.iload 5, 2) := by decide +kernel
theorem d8_18 : decode prog_69_method_8_code 18 = .ok (.iload_n 2, 1) := by decide +kernel
theorem d8_19 : decode prog_69_method_8_code 19 = .ok (.if_icmp .ge 28, 3) := by decide +kernel
theorem d8_22 : decode prog_69_method_8_code 22 = .ok (.aload 4, 2) := by decide +kernel
theorem d8_24 : decode prog_69_method_8_code 24 = .ok (.iload 5, 2) := by decide +kernel
theorem d8_26 : decode prog_69_method_8_code 26 = .ok (.aload_n 0, 1) := by decide +kernel
theorem d8_27 : decode prog_69_method_8_code 27 = .ok (.getfield 21, 3) := by decide +kernel
theorem d8_30 : decode prog_69_method_8_code 30 = .ok (.iload_n 1, 1) := by decide +kernel
theorem d8_31 : decode prog_69_method_8_code 31 = .ok (.iaload, 1) := by decide +kernel
theorem d8_32 : decode prog_69_method_8_code 32 = .ok (.aload_n 3, 1) := by decide +kernel
theorem d8_33 : decode prog_69_method_8_code 33 = .ok (.iload 5, 2) := by decide +kernel
theorem d8_35 : decode prog_69_method_8_code 35 = .ok (.saload, 1) := by decide +kernel
theorem d8_36 : decode prog_69_method_8_code 36 = .ok (.ldc 28, 2) := by decide +kernel
theorem d8_38 : decode prog_69_method_8_code 38 = .ok (.iand, 1) := by decide +kernel
theorem d8_39 : decode prog_69_method_8_code 39 = .ok (.iadd, 1) := by decide +kernel
theorem d8_40 : decode prog_69_method_8_code 40 = .ok (.iastore, 1) := by decide +kernel
theorem d8_41 : decode prog_69_method_8_code 41 = .ok (.iinc 5 1, 3) := by decide +kernel
theorem d8_44 : decode prog_69_method_8_code 44 = .ok (.goto (-28), 3) := by decide +kernel
theorem d8_47 : decode prog_69_method_8_code 47 = .ok (.aload_n 0, 1) := by decide +kernel
theorem d8_48 : decode prog_69_method_8_code 48 = .ok (.getfield 17, 3) := by decide +kernel
theorem d8_51 : decode prog_69_method_8_code 51 = .ok (.iload_n 1, 1) := by decide +kernel
theorem d8_52 : decode prog_69_method_8_code 52 = .ok (.aload 4, 2) := by decide +kernel
theorem d8_54 : decode prog_69_method_8_code 54 = .ok (.aastore, 1) := by decide +kernel
theorem d8_55 : decode prog_69_method_8_code 55 = .ok (.aload_n 0, 1) := by decide +kernel
theorem d8_56 : decode prog_69_method_8_code 56 = .ok (.getfield 11, 3) := by decide +kernel
theorem d8_59 : decode prog_69_method_8_code 59 = .ok (.iload_n 1, 1) := by decide +kernel
theorem d8_60 : decode prog_69_method_8_code 60 = .ok (.aconst_null, 1) := by decide +kernel
theorem d8_61 : decode prog_69_method_8_code 61 = .ok (.aastore, 1) := by decide +kernel
theorem d8_62 : decode prog_69_method_8_code 62 = .ok (.return_, 1) := by decide +kernel
set_option maxRecDepth 65536 in
set_option maxHeartbeats 40000000 in
theorem rm_widen_11 (l : Launch) (Z : State) (a0 : Array Value)  (hW : own_W Z a0) (a1 : Addr) (a2 : Addr) (q3 : ClassId) (a4 : Addr) (q5 : ClassId) (i6 : Int32) (i7 : Int32) (a8 : Addr) (q9 : ClassId) (i10 : Int32) (a11 : Addr) (q12 : ClassId) (h0 : Heap) (O0 : Old Z Z.heap.size h0) (h_1 : Fld Z h0 a1 "com/example/control_design_check/controldesigncheck/lts/IntBlocks" "narrow" "[[S" (.ref a2)) (h_2 : Arv Z h0 a2 q3 (.array .short) (1 : Int32) [(.ref a4)] .null) (h_3 : Arv Z h0 a4 q5 .short (16 : Int32) [(.int i6), (.int i7), (.int (0 : Int32)), (.int (0 : Int32)), (.int (0 : Int32)), (.int (0 : Int32)), (.int (0 : Int32)), (.int (0 : Int32)), (.int (0 : Int32)), (.int (0 : Int32)), (.int (0 : Int32)), (.int (0 : Int32)), (.int (0 : Int32)), (.int (0 : Int32)), (.int (0 : Int32)), (.int (0 : Int32))] (.int (0 : Int32))) (h_4 : Fld Z h0 a1 "com/example/control_design_check/controldesigncheck/lts/IntBlocks" "bases" "[I" (.ref a8)) (h_5 : Arv Z h0 a8 q9 .int (1 : Int32) [(.int i10)] (.int (0 : Int32))) (h_6 : Fld Z h0 a1 "com/example/control_design_check/controldesigncheck/lts/IntBlocks" "wide" "[[I" (.ref a11)) (h_7 : Arv Z h0 a11 q12 (.array .int) (1 : Int32) [.null] .null) (h_8 : OvrA Z q12 .int "[I") (h_9 : Z.heap.size ≤ a11) (h_10 : a1 ≠ a11) (h_11 : a2 ≠ a11) (h_12 : Z.heap.size ≤ a2) (h_13 : a11 ≠ a2) :
    own_Met l Z (⟨"com/example/control_design_check/controldesigncheck/lts/IntBlocks", "widen", "(II)V"⟩ : MethodName) prog_69_method_8_code 6 none ({ frames := 0, cells := 1, slots := 16, locals := 0 } : Room) #[(.ref a1), (.int (0 : Int32)), (.int (2 : Int32))] h0 (fun v h L => ∃ (b2 : Addr) (k2 : ClassId), v = none ∧ Fr Z.heap.size L ∧ Keep h0 h [a11, a2] ∧ h0.size ≤ b2 ∧ Arv Z h a11 q12 (.array .int) (1 : Int32) [(.ref b2)] .null ∧ Arv Z h a2 q3 (.array .short) (1 : Int32) [.null] .null ∧ Arv Z h b2 k2 .int (16 : Int32) [(.int (i10 + (i6 &&& (65535 : Int32)))), (.int (i10 + (i7 &&& (65535 : Int32)))), (.int (0 : Int32)), (.int (0 : Int32)), (.int (0 : Int32)), (.int (0 : Int32)), (.int (0 : Int32)), (.int (0 : Int32)), (.int (0 : Int32)), (.int (0 : Int32)), (.int (0 : Int32)), (.int (0 : Int32)), (.int (0 : Int32)), (.int (0 : Int32)), (.int (0 : Int32)), (.int (0 : Int32))] (.int (0 : Int32)) ∧ Exa Z h b2 "[I") := by
  have hw : ∀ d ∈ tables_1, d.before a0 Z = true := hW
  refine own_met (plainFor_of_name pn_com_example_control_design_check_controldesigncheck_lts_IntBlocks) ?_
  intro p e s m below meth cc_ s₁ Φ hF X0 hx hby hml hZ hown hnm hret hlk e0
  have N0 := Fr.nil Z.heap.size
  refine own_k (T' := s₁) (g' := (mkF m 0 #[.val (.ref a1), .val (.int (0 : Int32)), .val (.int (2 : Int32)), .unset, .unset, .unset] [])) (fun _ k_ => castTop (ef_8_RII m a1 (0 : Int32) (2 : Int32)) k_) ?_
  refine own_k (T' := s₁) (g' := (mkF m 1 #[.val (.ref a1), .val (.int (0 : Int32)), .val (.int (2 : Int32)), .unset, .unset, .unset] [(.ref a1)])) (fun _ k_ => XS.aloadN X0.here hx rfl (hb hby d8_0) rfl rfl  k_) ?_
  obtain ⟨T1, X1, e1, st1⟩ := getF X0 hx hZ hown (host := "") (Or.inl (hw _ (List.mem_of_getElem? (i := 11) rfl))) Via.refl e0 h_1 (g := (mkF m 1 #[.val (.ref a1), .val (.int (0 : Int32)), .val (.int (2 : Int32)), .unset, .unset, .unset] [(.ref a1)])) rfl rfl (hb hby d8_1)
  refine own_k (T' := T1) (g' := (mkF m 4 #[.val (.ref a1), .val (.int (0 : Int32)), .val (.int (2 : Int32)), .unset, .unset, .unset] [(.ref a2)])) st1 ?_
  refine own_k (T' := T1) (g' := (mkF m 5 #[.val (.ref a1), .val (.int (0 : Int32)), .val (.int (2 : Int32)), .unset, .unset, .unset] [(.int (0 : Int32)), (.ref a2)])) (fun _ k_ => XS.iloadN X1.here hx rfl (hb hby d8_4) rfl  k_) ?_
  refine own_aaload X1 hx hZ e1 h_2 rfl (j := (0 : Int32)) ⟨by decide, by decide⟩ (v := (.ref a4)) rfl (hb hby d8_5) ?_
  show own_Go p e below Φ T1 (mkF m 6 #[.val (.ref a1), .val (.int (0 : Int32)), .val (.int (2 : Int32)), .unset, .unset, .unset] [(.ref a4)])
  refine own_k (T' := T1) (g' := (mkF m 7 #[.val (.ref a1), .val (.int (0 : Int32)), .val (.int (2 : Int32)), .val (.ref a4), .unset, .unset] [])) (fun _ k_ => XS.astoreN X1.here hx rfl (hb hby d8_6) rfl rfl (l' := #[.val (.ref a1), .val (.int (0 : Int32)), .val (.int (2 : Int32)), .val (.ref a4), .unset, .unset]) rfl k_) ?_
  refine own_k (T' := T1) (g' := (mkF m 8 #[.val (.ref a1), .val (.int (0 : Int32)), .val (.int (2 : Int32)), .val (.ref a4), .unset, .unset] [(.ref a4)])) (fun _ k_ => XS.aloadN X1.here hx rfl (hb hby d8_7) rfl rfl  k_) ?_
  refine own_len X1 hx hZ e1 h_3 (hb hby d8_8) ?_
  show own_Go p e below Φ T1 (mkF m 9 #[.val (.ref a1), .val (.int (0 : Int32)), .val (.int (2 : Int32)), .val (.ref a4), .unset, .unset] [(.int (16 : Int32))])
  obtain ⟨T2, h2, k2, X2, e2, E2, V2, A2, st2⟩ := own_newarr (pc := 9) (Ls := #[.val (.ref a1), .val (.int (0 : Int32)), .val (.int (2 : Int32)), .val (.ref a4), .unset, .unset]) (rest := []) X1 hx hZ (hw _ (List.mem_of_getElem? (i := 17) rfl)) e1 (hb hby d8_9) (n := (16 : Int32)) (by decide) (cap := 16) (by decide) (by decide) (by decide) (by decide) (ad := "[I") (by decide)
  obtain ⟨b2, g2⟩ : ∃ z, z = h0.size := ⟨_, rfl⟩
  rw [← g2] at V2 A2 st2
  have O2' := O0.ext E2
  have V2 : Arv Z h2 b2 k2 .int (16 : Int32) [(.int (0 : Int32)), (.int (0 : Int32)), (.int (0 : Int32)), (.int (0 : Int32)), (.int (0 : Int32)), (.int (0 : Int32)), (.int (0 : Int32)), (.int (0 : Int32)), (.int (0 : Int32)), (.int (0 : Int32)), (.int (0 : Int32)), (.int (0 : Int32)), (.int (0 : Int32)), (.int (0 : Int32)), (.int (0 : Int32)), (.int (0 : Int32))] (.int (0 : Int32)) := V2
  refine own_k (T' := T2) (g' := (mkF m 11 #[.val (.ref a1), .val (.int (0 : Int32)), .val (.int (2 : Int32)), .val (.ref a4), .unset, .unset] [(.ref b2)])) st2 ?_
  refine own_k (T' := T2) (g' := (mkF m 13 #[.val (.ref a1), .val (.int (0 : Int32)), .val (.int (2 : Int32)), .val (.ref a4), .val (.ref b2), .unset] [])) (fun _ k_ => XS.astore X2.here hx rfl (hb hby d8_11) rfl rfl (l' := #[.val (.ref a1), .val (.int (0 : Int32)), .val (.int (2 : Int32)), .val (.ref a4), .val (.ref b2), .unset]) rfl k_) ?_
  refine own_k (T' := T2) (g' := (mkF m 14 #[.val (.ref a1), .val (.int (0 : Int32)), .val (.int (2 : Int32)), .val (.ref a4), .val (.ref b2), .unset] [(.int (0 : Int32))])) (fun _ k_ => XS.iconst X2.here hx rfl (hb hby d8_13) k_) ?_
  refine own_k (T' := T2) (g' := (mkF m 16 #[.val (.ref a1), .val (.int (0 : Int32)), .val (.int (2 : Int32)), .val (.ref a4), .val (.ref b2), .val (.int (0 : Int32))] [])) (fun _ k_ => XS.istore X2.here hx rfl (hb hby d8_14) rfl (l' := #[.val (.ref a1), .val (.int (0 : Int32)), .val (.int (2 : Int32)), .val (.ref a4), .val (.ref b2), .val (.int (0 : Int32))]) rfl k_) ?_
  refine own_k (T' := T2) (g' := (mkF m 18 #[.val (.ref a1), .val (.int (0 : Int32)), .val (.int (2 : Int32)), .val (.ref a4), .val (.ref b2), .val (.int (0 : Int32))] [(.int (0 : Int32))])) (fun _ k_ => XS.iload X2.here hx rfl (hb hby d8_16) rfl  k_) ?_
  refine own_k (T' := T2) (g' := (mkF m 19 #[.val (.ref a1), .val (.int (0 : Int32)), .val (.int (2 : Int32)), .val (.ref a4), .val (.ref b2), .val (.int (0 : Int32))] [(.int (2 : Int32)), (.int (0 : Int32))])) (fun _ k_ => XS.iloadN X2.here hx rfl (hb hby d8_18) rfl  k_) ?_
  refine own_k (T' := T2) (g' := (mkF m 22 #[.val (.ref a1), .val (.int (0 : Int32)), .val (.int (2 : Int32)), .val (.ref a4), .val (.ref b2), .val (.int (0 : Int32))] [])) (fun _ k_ => XS.icmpNo X2.here hx rfl (hb hby d8_19) rfl ((tlt (by decide : ((0 : Int32) < (2 : Int32)))).2.1) k_) ?_
  refine own_k (T' := T2) (g' := (mkF m 24 #[.val (.ref a1), .val (.int (0 : Int32)), .val (.int (2 : Int32)), .val (.ref a4), .val (.ref b2), .val (.int (0 : Int32))] [(.ref b2)])) (fun _ k_ => XS.aload X2.here hx rfl (hb hby d8_22) rfl rfl  k_) ?_
  refine own_k (T' := T2) (g' := (mkF m 26 #[.val (.ref a1), .val (.int (0 : Int32)), .val (.int (2 : Int32)), .val (.ref a4), .val (.ref b2), .val (.int (0 : Int32))] [(.int (0 : Int32)), (.ref b2)])) (fun _ k_ => XS.iload X2.here hx rfl (hb hby d8_24) rfl  k_) ?_
  refine own_k (T' := T2) (g' := (mkF m 27 #[.val (.ref a1), .val (.int (0 : Int32)), .val (.int (2 : Int32)), .val (.ref a4), .val (.ref b2), .val (.int (0 : Int32))] [(.ref a1), (.int (0 : Int32)), (.ref b2)])) (fun _ k_ => XS.aloadN X2.here hx rfl (hb hby d8_26) rfl rfl  k_) ?_
  obtain ⟨T3, X3, e3, st3⟩ := getF X2 hx hZ hown (host := "") (Or.inl (hw _ (List.mem_of_getElem? (i := 18) rfl))) Via.refl e2 (h_4.ext E2) (g := (mkF m 27 #[.val (.ref a1), .val (.int (0 : Int32)), .val (.int (2 : Int32)), .val (.ref a4), .val (.ref b2), .val (.int (0 : Int32))] [(.ref a1), (.int (0 : Int32)), (.ref b2)])) rfl rfl (hb hby d8_27)
  refine own_k (T' := T3) (g' := (mkF m 30 #[.val (.ref a1), .val (.int (0 : Int32)), .val (.int (2 : Int32)), .val (.ref a4), .val (.ref b2), .val (.int (0 : Int32))] [(.ref a8), (.int (0 : Int32)), (.ref b2)])) st3 ?_
  refine own_k (T' := T3) (g' := (mkF m 31 #[.val (.ref a1), .val (.int (0 : Int32)), .val (.int (2 : Int32)), .val (.ref a4), .val (.ref b2), .val (.int (0 : Int32))] [(.int (0 : Int32)), (.ref a8), (.int (0 : Int32)), (.ref b2)])) (fun _ k_ => XS.iloadN X3.here hx rfl (hb hby d8_30) rfl  k_) ?_
  refine own_iaload X3 hx hZ e3 (h_5.ext E2) (j := (0 : Int32)) ⟨by decide, by decide⟩ (v := (.int i10)) rfl (hb hby d8_31) ?_
  show own_Go p e below Φ T3 (mkF m 32 #[.val (.ref a1), .val (.int (0 : Int32)), .val (.int (2 : Int32)), .val (.ref a4), .val (.ref b2), .val (.int (0 : Int32))] [(.int i10), (.int (0 : Int32)), (.ref b2)])
  refine own_k (T' := T3) (g' := (mkF m 33 #[.val (.ref a1), .val (.int (0 : Int32)), .val (.int (2 : Int32)), .val (.ref a4), .val (.ref b2), .val (.int (0 : Int32))] [(.ref a4), (.int i10), (.int (0 : Int32)), (.ref b2)])) (fun _ k_ => XS.aloadN X3.here hx rfl (hb hby d8_32) rfl rfl  k_) ?_
  refine own_k (T' := T3) (g' := (mkF m 35 #[.val (.ref a1), .val (.int (0 : Int32)), .val (.int (2 : Int32)), .val (.ref a4), .val (.ref b2), .val (.int (0 : Int32))] [(.int (0 : Int32)), (.ref a4), (.int i10), (.int (0 : Int32)), (.ref b2)])) (fun _ k_ => XS.iload X3.here hx rfl (hb hby d8_33) rfl  k_) ?_
  refine own_saload X3 hx hZ e3 (h_3.ext E2) (j := (0 : Int32)) ⟨by decide, by decide⟩ (v := (.int i6)) rfl (hb hby d8_35) ?_
  show own_Go p e below Φ T3 (mkF m 36 #[.val (.ref a1), .val (.int (0 : Int32)), .val (.int (2 : Int32)), .val (.ref a4), .val (.ref b2), .val (.int (0 : Int32))] [(.int i6), (.int i10), (.int (0 : Int32)), (.ref b2)])
  refine own_k (T' := T3) (g' := (mkF m 38 #[.val (.ref a1), .val (.int (0 : Int32)), .val (.int (2 : Int32)), .val (.ref a4), .val (.ref b2), .val (.int (0 : Int32))] [(.int (65535 : Int32)), (.int i6), (.int i10), (.int (0 : Int32)), (.ref b2)])) (X3.ldcInt hx hown (mvT hZ (hw _ (List.mem_of_getElem? (i := 48) rfl))) (g := (mkF m 36 #[.val (.ref a1), .val (.int (0 : Int32)), .val (.int (2 : Int32)), .val (.ref a4), .val (.ref b2), .val (.int (0 : Int32))] [(.int i6), (.int i10), (.int (0 : Int32)), (.ref b2)])) rfl (hb hby d8_36)) ?_
  refine own_k (T' := T3) (g' := (mkF m 39 #[.val (.ref a1), .val (.int (0 : Int32)), .val (.int (2 : Int32)), .val (.ref a4), .val (.ref b2), .val (.int (0 : Int32))] [(.int (i6 &&& (65535 : Int32))), (.int i10), (.int (0 : Int32)), (.ref b2)])) (fun _ k_ => XS.iand X3.here hx rfl (hb hby d8_38) rfl k_) ?_
  refine own_k (T' := T3) (g' := (mkF m 40 #[.val (.ref a1), .val (.int (0 : Int32)), .val (.int (2 : Int32)), .val (.ref a4), .val (.ref b2), .val (.int (0 : Int32))] [(.int (i10 + (i6 &&& (65535 : Int32)))), (.int (0 : Int32)), (.ref b2)])) (fun _ k_ => XS.iadd X3.here hx rfl (hb hby d8_39) rfl k_) ?_
  obtain ⟨T4, h4, X4, e4, W4, V4, st4⟩ := own_iastore (pc := 40) (Ls := #[.val (.ref a1), .val (.int (0 : Int32)), .val (.int (2 : Int32)), .val (.ref a4), .val (.ref b2), .val (.int (0 : Int32))]) (rest := []) X3 hx hZ e3 V2 (j := (0 : Int32)) (x := (i10 + (i6 &&& (65535 : Int32)))) ⟨by decide, by decide⟩ 0 rfl (Nat.le_of_ble_eq_true rfl) (hb hby d8_40)
  have V4 : Arv Z h4 b2 k2 .int (16 : Int32) [(.int (i10 + (i6 &&& (65535 : Int32)))), (.int (0 : Int32)), (.int (0 : Int32)), (.int (0 : Int32)), (.int (0 : Int32)), (.int (0 : Int32)), (.int (0 : Int32)), (.int (0 : Int32)), (.int (0 : Int32)), (.int (0 : Int32)), (.int (0 : Int32)), (.int (0 : Int32)), (.int (0 : Int32)), (.int (0 : Int32)), (.int (0 : Int32)), (.int (0 : Int32))] (.int (0 : Int32)) := V4
  have O4' := O2'.wr W4 (Nat.le_trans O0.2.1 (Nat.le_of_eq g2.symm))
  have N4 := Fr.snoc X4 N0 (Nat.le_trans O0.2.1 (Nat.le_of_eq g2.symm))
  refine own_k (T' := T4) (g' := (mkF m 41 #[.val (.ref a1), .val (.int (0 : Int32)), .val (.int (2 : Int32)), .val (.ref a4), .val (.ref b2), .val (.int (0 : Int32))] [])) st4 ?_
  refine own_k (T' := T4) (g' := (mkF m 44 #[.val (.ref a1), .val (.int (0 : Int32)), .val (.int (2 : Int32)), .val (.ref a4), .val (.ref b2), .val (.int ((0 : Int32) + (1 : Int32)))] [])) (fun _ k_ => XS.iinc X4.here hx rfl (hb hby d8_41) rfl (l' := #[.val (.ref a1), .val (.int (0 : Int32)), .val (.int (2 : Int32)), .val (.ref a4), .val (.ref b2), .val (.int ((0 : Int32) + (1 : Int32)))]) rfl k_) ?_
  rw [show ((0 : Int32) + (1 : Int32)) = (1 : Int32) from by decide]
  refine own_k (T' := T4) (g' := (mkF m 16 #[.val (.ref a1), .val (.int (0 : Int32)), .val (.int (2 : Int32)), .val (.ref a4), .val (.ref b2), .val (.int (1 : Int32))] [])) (fun _ k_ => XS.goto X4.here hx rfl (pc0 := 44) (pc' := 16) rfl (hb hby d8_44) (by decide) (by decide) k_) ?_
  refine own_k (T' := T4) (g' := (mkF m 18 #[.val (.ref a1), .val (.int (0 : Int32)), .val (.int (2 : Int32)), .val (.ref a4), .val (.ref b2), .val (.int (1 : Int32))] [(.int (1 : Int32))])) (fun _ k_ => XS.iload X4.here hx rfl (hb hby d8_16) rfl  k_) ?_
  refine own_k (T' := T4) (g' := (mkF m 19 #[.val (.ref a1), .val (.int (0 : Int32)), .val (.int (2 : Int32)), .val (.ref a4), .val (.ref b2), .val (.int (1 : Int32))] [(.int (2 : Int32)), (.int (1 : Int32))])) (fun _ k_ => XS.iloadN X4.here hx rfl (hb hby d8_18) rfl  k_) ?_
  refine own_k (T' := T4) (g' := (mkF m 22 #[.val (.ref a1), .val (.int (0 : Int32)), .val (.int (2 : Int32)), .val (.ref a4), .val (.ref b2), .val (.int (1 : Int32))] [])) (fun _ k_ => XS.icmpNo X4.here hx rfl (hb hby d8_19) rfl ((tlt (by decide : ((1 : Int32) < (2 : Int32)))).2.1) k_) ?_
  refine own_k (T' := T4) (g' := (mkF m 24 #[.val (.ref a1), .val (.int (0 : Int32)), .val (.int (2 : Int32)), .val (.ref a4), .val (.ref b2), .val (.int (1 : Int32))] [(.ref b2)])) (fun _ k_ => XS.aload X4.here hx rfl (hb hby d8_22) rfl rfl  k_) ?_
  refine own_k (T' := T4) (g' := (mkF m 26 #[.val (.ref a1), .val (.int (0 : Int32)), .val (.int (2 : Int32)), .val (.ref a4), .val (.ref b2), .val (.int (1 : Int32))] [(.int (1 : Int32)), (.ref b2)])) (fun _ k_ => XS.iload X4.here hx rfl (hb hby d8_24) rfl  k_) ?_
  refine own_k (T' := T4) (g' := (mkF m 27 #[.val (.ref a1), .val (.int (0 : Int32)), .val (.int (2 : Int32)), .val (.ref a4), .val (.ref b2), .val (.int (1 : Int32))] [(.ref a1), (.int (1 : Int32)), (.ref b2)])) (fun _ k_ => XS.aloadN X4.here hx rfl (hb hby d8_26) rfl rfl  k_) ?_
  have f5 := ((h_4.ext E2).other W4 (Or.inl (Nat.ne_of_lt (Nat.lt_of_lt_of_le h_1.lt (Nat.le_of_eq g2.symm)))))
  obtain ⟨T6, X6, e6, st6⟩ := getF X4 hx hZ hown (host := "") (Or.inl (hw _ (List.mem_of_getElem? (i := 18) rfl))) Via.refl e4 f5 (g := (mkF m 27 #[.val (.ref a1), .val (.int (0 : Int32)), .val (.int (2 : Int32)), .val (.ref a4), .val (.ref b2), .val (.int (1 : Int32))] [(.ref a1), (.int (1 : Int32)), (.ref b2)])) rfl rfl (hb hby d8_27)
  refine own_k (T' := T6) (g' := (mkF m 30 #[.val (.ref a1), .val (.int (0 : Int32)), .val (.int (2 : Int32)), .val (.ref a4), .val (.ref b2), .val (.int (1 : Int32))] [(.ref a8), (.int (1 : Int32)), (.ref b2)])) st6 ?_
  refine own_k (T' := T6) (g' := (mkF m 31 #[.val (.ref a1), .val (.int (0 : Int32)), .val (.int (2 : Int32)), .val (.ref a4), .val (.ref b2), .val (.int (1 : Int32))] [(.int (0 : Int32)), (.ref a8), (.int (1 : Int32)), (.ref b2)])) (fun _ k_ => XS.iloadN X6.here hx rfl (hb hby d8_30) rfl  k_) ?_
  have f7 := ((h_5.ext E2).other W4 (Nat.ne_of_lt (Nat.lt_of_lt_of_le h_5.lt (Nat.le_of_eq g2.symm))))
  refine own_iaload X6 hx hZ e6 f7 (j := (0 : Int32)) ⟨by decide, by decide⟩ (v := (.int i10)) rfl (hb hby d8_31) ?_
  show own_Go p e below Φ T6 (mkF m 32 #[.val (.ref a1), .val (.int (0 : Int32)), .val (.int (2 : Int32)), .val (.ref a4), .val (.ref b2), .val (.int (1 : Int32))] [(.int i10), (.int (1 : Int32)), (.ref b2)])
  refine own_k (T' := T6) (g' := (mkF m 33 #[.val (.ref a1), .val (.int (0 : Int32)), .val (.int (2 : Int32)), .val (.ref a4), .val (.ref b2), .val (.int (1 : Int32))] [(.ref a4), (.int i10), (.int (1 : Int32)), (.ref b2)])) (fun _ k_ => XS.aloadN X6.here hx rfl (hb hby d8_32) rfl rfl  k_) ?_
  refine own_k (T' := T6) (g' := (mkF m 35 #[.val (.ref a1), .val (.int (0 : Int32)), .val (.int (2 : Int32)), .val (.ref a4), .val (.ref b2), .val (.int (1 : Int32))] [(.int (1 : Int32)), (.ref a4), (.int i10), (.int (1 : Int32)), (.ref b2)])) (fun _ k_ => XS.iload X6.here hx rfl (hb hby d8_33) rfl  k_) ?_
  have f8 := ((h_3.ext E2).other W4 (Nat.ne_of_lt (Nat.lt_of_lt_of_le h_3.lt (Nat.le_of_eq g2.symm))))
  refine own_saload X6 hx hZ e6 f8 (j := (1 : Int32)) ⟨by decide, by decide⟩ (v := (.int i7)) rfl (hb hby d8_35) ?_
  show own_Go p e below Φ T6 (mkF m 36 #[.val (.ref a1), .val (.int (0 : Int32)), .val (.int (2 : Int32)), .val (.ref a4), .val (.ref b2), .val (.int (1 : Int32))] [(.int i7), (.int i10), (.int (1 : Int32)), (.ref b2)])
  refine own_k (T' := T6) (g' := (mkF m 38 #[.val (.ref a1), .val (.int (0 : Int32)), .val (.int (2 : Int32)), .val (.ref a4), .val (.ref b2), .val (.int (1 : Int32))] [(.int (65535 : Int32)), (.int i7), (.int i10), (.int (1 : Int32)), (.ref b2)])) (X6.ldcInt hx hown (mvT hZ (hw _ (List.mem_of_getElem? (i := 48) rfl))) (g := (mkF m 36 #[.val (.ref a1), .val (.int (0 : Int32)), .val (.int (2 : Int32)), .val (.ref a4), .val (.ref b2), .val (.int (1 : Int32))] [(.int i7), (.int i10), (.int (1 : Int32)), (.ref b2)])) rfl (hb hby d8_36)) ?_
  refine own_k (T' := T6) (g' := (mkF m 39 #[.val (.ref a1), .val (.int (0 : Int32)), .val (.int (2 : Int32)), .val (.ref a4), .val (.ref b2), .val (.int (1 : Int32))] [(.int (i7 &&& (65535 : Int32))), (.int i10), (.int (1 : Int32)), (.ref b2)])) (fun _ k_ => XS.iand X6.here hx rfl (hb hby d8_38) rfl k_) ?_
  refine own_k (T' := T6) (g' := (mkF m 40 #[.val (.ref a1), .val (.int (0 : Int32)), .val (.int (2 : Int32)), .val (.ref a4), .val (.ref b2), .val (.int (1 : Int32))] [(.int (i10 + (i7 &&& (65535 : Int32)))), (.int (1 : Int32)), (.ref b2)])) (fun _ k_ => XS.iadd X6.here hx rfl (hb hby d8_39) rfl k_) ?_
  obtain ⟨T9, h9, X9, e9, W9, V9, st9⟩ := own_iastore (pc := 40) (Ls := #[.val (.ref a1), .val (.int (0 : Int32)), .val (.int (2 : Int32)), .val (.ref a4), .val (.ref b2), .val (.int (1 : Int32))]) (rest := []) X6 hx hZ e6 V4 (j := (1 : Int32)) (x := (i10 + (i7 &&& (65535 : Int32)))) ⟨by decide, by decide⟩ 1 rfl (Nat.le_of_ble_eq_true rfl) (hb hby d8_40)
  have V9 : Arv Z h9 b2 k2 .int (16 : Int32) [(.int (i10 + (i6 &&& (65535 : Int32)))), (.int (i10 + (i7 &&& (65535 : Int32)))), (.int (0 : Int32)), (.int (0 : Int32)), (.int (0 : Int32)), (.int (0 : Int32)), (.int (0 : Int32)), (.int (0 : Int32)), (.int (0 : Int32)), (.int (0 : Int32)), (.int (0 : Int32)), (.int (0 : Int32)), (.int (0 : Int32)), (.int (0 : Int32)), (.int (0 : Int32)), (.int (0 : Int32))] (.int (0 : Int32)) := V9
  have O9' := O4'.wr W9 (Nat.le_trans O0.2.1 (Nat.le_of_eq g2.symm))
  have N9 := Fr.snoc X9 N4 (Nat.le_trans O0.2.1 (Nat.le_of_eq g2.symm))
  refine own_k (T' := T9) (g' := (mkF m 41 #[.val (.ref a1), .val (.int (0 : Int32)), .val (.int (2 : Int32)), .val (.ref a4), .val (.ref b2), .val (.int (1 : Int32))] [])) st9 ?_
  refine own_k (T' := T9) (g' := (mkF m 44 #[.val (.ref a1), .val (.int (0 : Int32)), .val (.int (2 : Int32)), .val (.ref a4), .val (.ref b2), .val (.int ((1 : Int32) + (1 : Int32)))] [])) (fun _ k_ => XS.iinc X9.here hx rfl (hb hby d8_41) rfl (l' := #[.val (.ref a1), .val (.int (0 : Int32)), .val (.int (2 : Int32)), .val (.ref a4), .val (.ref b2), .val (.int ((1 : Int32) + (1 : Int32)))]) rfl k_) ?_
  rw [show ((1 : Int32) + (1 : Int32)) = (2 : Int32) from by decide]
  refine own_k (T' := T9) (g' := (mkF m 16 #[.val (.ref a1), .val (.int (0 : Int32)), .val (.int (2 : Int32)), .val (.ref a4), .val (.ref b2), .val (.int (2 : Int32))] [])) (fun _ k_ => XS.goto X9.here hx rfl (pc0 := 44) (pc' := 16) rfl (hb hby d8_44) (by decide) (by decide) k_) ?_
  refine own_k (T' := T9) (g' := (mkF m 18 #[.val (.ref a1), .val (.int (0 : Int32)), .val (.int (2 : Int32)), .val (.ref a4), .val (.ref b2), .val (.int (2 : Int32))] [(.int (2 : Int32))])) (fun _ k_ => XS.iload X9.here hx rfl (hb hby d8_16) rfl  k_) ?_
  refine own_k (T' := T9) (g' := (mkF m 19 #[.val (.ref a1), .val (.int (0 : Int32)), .val (.int (2 : Int32)), .val (.ref a4), .val (.ref b2), .val (.int (2 : Int32))] [(.int (2 : Int32)), (.int (2 : Int32))])) (fun _ k_ => XS.iloadN X9.here hx rfl (hb hby d8_18) rfl  k_) ?_
  refine own_k (T' := T9) (g' := (mkF m 47 #[.val (.ref a1), .val (.int (0 : Int32)), .val (.int (2 : Int32)), .val (.ref a4), .val (.ref b2), .val (.int (2 : Int32))] [])) (fun _ k_ => XS.icmpYes X9.here hx rfl (pc0 := 19) (pc' := 47) rfl (hb hby d8_19) rfl ((flt (by decide : ¬ ((2 : Int32) < (2 : Int32)))).2.1) (by decide) (by decide) k_) ?_
  refine own_k (T' := T9) (g' := (mkF m 48 #[.val (.ref a1), .val (.int (0 : Int32)), .val (.int (2 : Int32)), .val (.ref a4), .val (.ref b2), .val (.int (2 : Int32))] [(.ref a1)])) (fun _ k_ => XS.aloadN X9.here hx rfl (hb hby d8_47) rfl rfl  k_) ?_
  have f10 := (((h_6.ext E2).other W4 (Or.inl (Nat.ne_of_lt (Nat.lt_of_lt_of_le h_1.lt (Nat.le_of_eq g2.symm))))).other W9 (Or.inl (Nat.ne_of_lt (Nat.lt_of_lt_of_le h_1.lt (Nat.le_of_eq g2.symm)))))
  obtain ⟨T11, X11, e11, st11⟩ := getF X9 hx hZ hown (host := "") (Or.inl (hw _ (List.mem_of_getElem? (i := 15) rfl))) Via.refl e9 f10 (g := (mkF m 48 #[.val (.ref a1), .val (.int (0 : Int32)), .val (.int (2 : Int32)), .val (.ref a4), .val (.ref b2), .val (.int (2 : Int32))] [(.ref a1)])) rfl rfl (hb hby d8_48)
  refine own_k (T' := T11) (g' := (mkF m 51 #[.val (.ref a1), .val (.int (0 : Int32)), .val (.int (2 : Int32)), .val (.ref a4), .val (.ref b2), .val (.int (2 : Int32))] [(.ref a11)])) st11 ?_
  refine own_k (T' := T11) (g' := (mkF m 52 #[.val (.ref a1), .val (.int (0 : Int32)), .val (.int (2 : Int32)), .val (.ref a4), .val (.ref b2), .val (.int (2 : Int32))] [(.int (0 : Int32)), (.ref a11)])) (fun _ k_ => XS.iloadN X11.here hx rfl (hb hby d8_51) rfl  k_) ?_
  refine own_k (T' := T11) (g' := (mkF m 54 #[.val (.ref a1), .val (.int (0 : Int32)), .val (.int (2 : Int32)), .val (.ref a4), .val (.ref b2), .val (.int (2 : Int32))] [(.ref b2), (.int (0 : Int32)), (.ref a11)])) (fun _ k_ => XS.aload X11.here hx rfl (hb hby d8_52) rfl rfl  k_) ?_
  have f13 := (((h_7.ext E2).other W4 (Nat.ne_of_lt (Nat.lt_of_lt_of_le h_7.lt (Nat.le_of_eq g2.symm)))).other W9 (Nat.ne_of_lt (Nat.lt_of_lt_of_le h_7.lt (Nat.le_of_eq g2.symm))))
  obtain ⟨T12, h12, X12, e12, W12, V12, st12⟩ := own_aastore (pc := 54) (Ls := #[.val (.ref a1), .val (.int (0 : Int32)), .val (.int (2 : Int32)), .val (.ref a4), .val (.ref b2), .val (.int (2 : Int32))]) (rest := []) X11 hx hZ e11 f13 rfl (j := (0 : Int32)) (v := (.ref b2)) ⟨by decide, by decide⟩ rfl (fun cl A q => Sto.ofVA A q h_8 (Ins.self ((A2.wr W4).wr W9))) 0 rfl (Nat.le_of_ble_eq_true rfl) (hb hby d8_54)
  have V12 : Arv Z h12 a11 q12 (.array .int) (1 : Int32) [(.ref b2)] .null := V12
  have O12' := O9'.wr W12 h_9
  have N12 := Fr.snoc X12 N9 h_9
  refine own_k (T' := T12) (g' := (mkF m 55 #[.val (.ref a1), .val (.int (0 : Int32)), .val (.int (2 : Int32)), .val (.ref a4), .val (.ref b2), .val (.int (2 : Int32))] [])) st12 ?_
  refine own_k (T' := T12) (g' := (mkF m 56 #[.val (.ref a1), .val (.int (0 : Int32)), .val (.int (2 : Int32)), .val (.ref a4), .val (.ref b2), .val (.int (2 : Int32))] [(.ref a1)])) (fun _ k_ => XS.aloadN X12.here hx rfl (hb hby d8_55) rfl rfl  k_) ?_
  have f14 := ((((h_1.ext E2).other W4 (Or.inl (Nat.ne_of_lt (Nat.lt_of_lt_of_le h_1.lt (Nat.le_of_eq g2.symm))))).other W9 (Or.inl (Nat.ne_of_lt (Nat.lt_of_lt_of_le h_1.lt (Nat.le_of_eq g2.symm))))).other W12 (Or.inl h_10))
  obtain ⟨T15, X15, e15, st15⟩ := getF X12 hx hZ hown (host := "") (Or.inl (hw _ (List.mem_of_getElem? (i := 11) rfl))) Via.refl e12 f14 (g := (mkF m 56 #[.val (.ref a1), .val (.int (0 : Int32)), .val (.int (2 : Int32)), .val (.ref a4), .val (.ref b2), .val (.int (2 : Int32))] [(.ref a1)])) rfl rfl (hb hby d8_56)
  refine own_k (T' := T15) (g' := (mkF m 59 #[.val (.ref a1), .val (.int (0 : Int32)), .val (.int (2 : Int32)), .val (.ref a4), .val (.ref b2), .val (.int (2 : Int32))] [(.ref a2)])) st15 ?_
  refine own_k (T' := T15) (g' := (mkF m 60 #[.val (.ref a1), .val (.int (0 : Int32)), .val (.int (2 : Int32)), .val (.ref a4), .val (.ref b2), .val (.int (2 : Int32))] [(.int (0 : Int32)), (.ref a2)])) (fun _ k_ => XS.iloadN X15.here hx rfl (hb hby d8_59) rfl  k_) ?_
  refine own_k (T' := T15) (g' := (mkF m 61 #[.val (.ref a1), .val (.int (0 : Int32)), .val (.int (2 : Int32)), .val (.ref a4), .val (.ref b2), .val (.int (2 : Int32))] [.null, (.int (0 : Int32)), (.ref a2)])) (fun _ k_ => XS.aconstNull X15.here hx rfl (hb hby d8_60) k_) ?_
  have f17 := ((((h_2.ext E2).other W4 (Nat.ne_of_lt (Nat.lt_of_lt_of_le h_2.lt (Nat.le_of_eq g2.symm)))).other W9 (Nat.ne_of_lt (Nat.lt_of_lt_of_le h_2.lt (Nat.le_of_eq g2.symm)))).other W12 h_11)
  obtain ⟨T16, h16, X16, e16, W16, V16, st16⟩ := own_aastore (pc := 61) (Ls := #[.val (.ref a1), .val (.int (0 : Int32)), .val (.int (2 : Int32)), .val (.ref a4), .val (.ref b2), .val (.int (2 : Int32))]) (rest := []) X15 hx hZ e15 f17 rfl (j := (0 : Int32)) (v := .null) ⟨by decide, by decide⟩ rfl (fun _ _ _ => Or.inl rfl) 0 rfl (Nat.le_of_ble_eq_true rfl) (hb hby d8_61)
  have V16 : Arv Z h16 a2 q3 (.array .short) (1 : Int32) [.null] .null := V16
  have O16' := O12'.wr W16 h_12
  have N16 := Fr.snoc X16 N12 h_12
  refine own_k (T' := T16) (g' := (mkF m 62 #[.val (.ref a1), .val (.int (0 : Int32)), .val (.int (2 : Int32)), .val (.ref a4), .val (.ref b2), .val (.int (2 : Int32))] [])) st16 ?_
  have kp0 : Keep h0 h0 [a11, a2] := Keep.refl h0 [a11, a2]
  have kp1 : Keep h0 h2 [a11, a2] := kp0.ext E2
  have kp2 : Keep h0 h4 [a11, a2] := kp1.wr W4 (Or.inr (Nat.le_trans kp0.1 (Nat.le_of_eq g2.symm)))
  have kp3 : Keep h0 h9 [a11, a2] := kp2.wr W9 (Or.inr (Nat.le_trans kp0.1 (Nat.le_of_eq g2.symm)))
  have kp4 : Keep h0 h12 [a11, a2] := kp3.wr W12 (Or.inl (List.mem_of_getElem? (i := 0) rfl))
  have kp5 : Keep h0 h16 [a11, a2] := kp4.wr W16 (Or.inl (List.mem_of_getElem? (i := 1) rfl))
  have f18 := ((V9.other W12 (Ne.symm (Nat.ne_of_lt (Nat.lt_of_lt_of_le h_7.lt (Nat.le_of_eq g2.symm))))).other W16 (Ne.symm (Nat.ne_of_lt (Nat.lt_of_lt_of_le h_2.lt (Nat.le_of_eq g2.symm)))))
  exact own_ret0 X16 hx hret hlk (hb hby d8_62) hF (by rw [e16]; exact ⟨b2, k2, rfl, N16, kp5, (Nat.le_trans kp0.1 (Nat.le_of_eq g2.symm)), (V12.other W16 h_13), V16, f18, ((((A2.wr W4).wr W9).wr W12).wr W16)⟩) (by decide) (by decide)
theorem d3_101 : decode prog_69_method_4_code 101 = .ok (.aload_n 0, 1) := by decide +kernel
theorem d3_102 : decode prog_69_method_4_code 102 = .ok (.getfield 17, 3) := by decide +kernel
theorem d3_105 : decode prog_69_method_4_code 105 = .ok (.iload_n 2, 1) := by decide +kernel
theorem d3_106 : decode prog_69_method_4_code 106 = .ok (.aaload, 1) := by decide +kernel
theorem d3_107 : decode prog_69_method_4_code 107 = .ok (.iload_n 3, 1) := by decide +kernel
theorem d3_108 : decode prog_69_method_4_code 108 = .ok (.iload_n 1, 1) := by decide +kernel
theorem d3_109 : decode prog_69_method_4_code 109 = .ok (.iastore, 1) := by decide +kernel
set_option maxRecDepth 65536 in
set_option maxHeartbeats 40000000 in
theorem rm_add_12 (l : Launch) (Z : State) (a0 : Array Value)  (hW : own_W Z a0) (a1 : Addr) (i2 : Int32) (a3 : Addr) (q4 : ClassId) (a5 : Addr) (q6 : ClassId) (i7 : Int32) (i8 : Int32) (a9 : Addr) (q10 : ClassId) (i11 : Int32) (a12 : Addr) (q13 : ClassId) (h0 : Heap) (O0 : Old Z Z.heap.size h0) (h_1 : Fld Z h0 a1 "com/example/control_design_check/controldesigncheck/lts/IntBlocks" "size" "I" (.int (2 : Int32))) (h_2 : Fld Z h0 a1 "com/example/control_design_check/controldesigncheck/lts/IntBlocks" "narrow" "[[S" (.ref a3)) (h_3 : Arv Z h0 a3 q4 (.array .short) (1 : Int32) [(.ref a5)] .null) (h_4 : Arv Z h0 a5 q6 .short (16 : Int32) [(.int i7), (.int i8), (.int (0 : Int32)), (.int (0 : Int32)), (.int (0 : Int32)), (.int (0 : Int32)), (.int (0 : Int32)), (.int (0 : Int32)), (.int (0 : Int32)), (.int (0 : Int32)), (.int (0 : Int32)), (.int (0 : Int32)), (.int (0 : Int32)), (.int (0 : Int32)), (.int (0 : Int32)), (.int (0 : Int32))] (.int (0 : Int32))) (h_5 : Exa Z h0 a1 "com/example/control_design_check/controldesigncheck/lts/IntBlocks") (h_6 : Fld Z h0 a1 "com/example/control_design_check/controldesigncheck/lts/IntBlocks" "bases" "[I" (.ref a9)) (h_7 : Arv Z h0 a9 q10 .int (1 : Int32) [(.int i11)] (.int (0 : Int32))) (h_8 : ¬ ((((i2 - i11).toUInt32 >>> ((16 : Int32) &&& 31).toUInt32).toInt32) = (0 : Int32))) (h_9 : Fld Z h0 a1 "com/example/control_design_check/controldesigncheck/lts/IntBlocks" "wide" "[[I" (.ref a12)) (h_10 : Arv Z h0 a12 q13 (.array .int) (1 : Int32) [.null] .null) (h_11 : OvrA Z q13 .int "[I") (h_12 : Z.heap.size ≤ a12) (h_13 : a1 ≠ a12) (h_14 : a3 ≠ a12) (h_15 : Z.heap.size ≤ a3) (h_16 : a12 ≠ a3) (h_17 : a1 ≠ a3) (h_18 : Z.heap.size ≤ a1) (h_19 : a12 ≠ a1) (h_20 : Exa Z h0 a12 "[[I") (h_21 : a3 ≠ a1) (h_22 : Exa Z h0 a3 "[[S") :
    own_Met l Z (⟨"com/example/control_design_check/controldesigncheck/lts/IntBlocks", "add", "(I)V"⟩ : MethodName) prog_69_method_4_code 5 none ({ frames := 1, cells := 1, slots := 16, locals := 17 } : Room) #[(.ref a1), (.int i2)] h0 (fun v h L => ∃ (b6_0 : Addr) (k6_1 : ClassId), v = none ∧ Fr Z.heap.size L ∧ Keep h0 h [a12, a3, a1] ∧ h0.size ≤ b6_0 ∧ Arv Z h a12 q13 (.array .int) (1 : Int32) [(.ref b6_0)] .null ∧ Exa Z h a12 "[[I" ∧ Arv Z h a3 q4 (.array .short) (1 : Int32) [.null] .null ∧ Exa Z h a3 "[[S" ∧ Fld Z h a1 "com/example/control_design_check/controldesigncheck/lts/IntBlocks" "size" "I" (.int (3 : Int32)) ∧ Fld Z h a1 "com/example/control_design_check/controldesigncheck/lts/IntBlocks" "narrow" "[[S" (.ref a3) ∧ Exa Z h a1 "com/example/control_design_check/controldesigncheck/lts/IntBlocks" ∧ Fld Z h a1 "com/example/control_design_check/controldesigncheck/lts/IntBlocks" "bases" "[I" (.ref a9) ∧ Fld Z h a1 "com/example/control_design_check/controldesigncheck/lts/IntBlocks" "wide" "[[I" (.ref a12) ∧ Arv Z h b6_0 k6_1 .int (16 : Int32) [(.int (i11 + (i7 &&& (65535 : Int32)))), (.int (i11 + (i8 &&& (65535 : Int32)))), (.int i2), (.int (0 : Int32)), (.int (0 : Int32)), (.int (0 : Int32)), (.int (0 : Int32)), (.int (0 : Int32)), (.int (0 : Int32)), (.int (0 : Int32)), (.int (0 : Int32)), (.int (0 : Int32)), (.int (0 : Int32)), (.int (0 : Int32)), (.int (0 : Int32)), (.int (0 : Int32))] (.int (0 : Int32)) ∧ Exa Z h b6_0 "[I") := by
  have hw : ∀ d ∈ tables_1, d.before a0 Z = true := hW
  refine own_met (plainFor_of_name pn_com_example_control_design_check_controldesigncheck_lts_IntBlocks) ?_
  intro p e s m below meth cc_ s₁ Φ hF X0 hx hby hml hZ hown hnm hret hlk e0
  have N0 := Fr.nil Z.heap.size
  refine own_k (T' := s₁) (g' := (mkF m 0 #[.val (.ref a1), .val (.int i2), .unset, .unset, .unset] [])) (fun _ k_ => castTop (ef_3_RI m a1 i2) k_) ?_
  refine own_k (T' := s₁) (g' := (mkF m 1 #[.val (.ref a1), .val (.int i2), .unset, .unset, .unset] [(.ref a1)])) (fun _ k_ => XS.aloadN X0.here hx rfl (hb hby d3_0) rfl rfl  k_) ?_
  obtain ⟨T1, X1, e1, st1⟩ := getF X0 hx hZ hown (host := "") (Or.inl (hw _ (List.mem_of_getElem? (i := 25) rfl))) Via.refl e0 h_1 (g := (mkF m 1 #[.val (.ref a1), .val (.int i2), .unset, .unset, .unset] [(.ref a1)])) rfl rfl (hb hby d3_1)
  refine own_k (T' := T1) (g' := (mkF m 4 #[.val (.ref a1), .val (.int i2), .unset, .unset, .unset] [(.int (2 : Int32))])) st1 ?_
  refine own_k (T' := T1) (g' := (mkF m 6 #[.val (.ref a1), .val (.int i2), .unset, .unset, .unset] [(.int (14 : Int32)), (.int (2 : Int32))])) (fun _ k_ => XS.bipush X1.here hx rfl (hb hby d3_4) k_) ?_
  refine own_k (T' := T1) (g' := (mkF m 7 #[.val (.ref a1), .val (.int i2), .unset, .unset, .unset] [(.int (((2 : Int32).toUInt32 >>> ((14 : Int32) &&& 31).toUInt32).toInt32))])) (fun _ k_ => XS.iushr X1.here hx rfl (hb hby d3_6) rfl k_) ?_
  rw [show (((2 : Int32).toUInt32 >>> ((14 : Int32) &&& 31).toUInt32).toInt32) = (0 : Int32) from by decide]
  refine own_k (T' := T1) (g' := (mkF m 8 #[.val (.ref a1), .val (.int i2), .val (.int (0 : Int32)), .unset, .unset] [])) (fun _ k_ => XS.istoreN X1.here hx rfl (hb hby d3_7) rfl (l' := #[.val (.ref a1), .val (.int i2), .val (.int (0 : Int32)), .unset, .unset]) rfl k_) ?_
  refine own_k (T' := T1) (g' := (mkF m 9 #[.val (.ref a1), .val (.int i2), .val (.int (0 : Int32)), .unset, .unset] [(.ref a1)])) (fun _ k_ => XS.aloadN X1.here hx rfl (hb hby d3_8) rfl rfl  k_) ?_
  obtain ⟨T2, X2, e2, st2⟩ := getF X1 hx hZ hown (host := "") (Or.inl (hw _ (List.mem_of_getElem? (i := 25) rfl))) Via.refl e1 h_1 (g := (mkF m 9 #[.val (.ref a1), .val (.int i2), .val (.int (0 : Int32)), .unset, .unset] [(.ref a1)])) rfl rfl (hb hby d3_9)
  refine own_k (T' := T2) (g' := (mkF m 12 #[.val (.ref a1), .val (.int i2), .val (.int (0 : Int32)), .unset, .unset] [(.int (2 : Int32))])) st2 ?_
  refine own_k (T' := T2) (g' := (mkF m 15 #[.val (.ref a1), .val (.int i2), .val (.int (0 : Int32)), .unset, .unset] [(.int (16383 : Int32)), (.int (2 : Int32))])) (fun _ k_ => XS.sipush X2.here hx rfl (hb hby d3_12) k_) ?_
  refine own_k (T' := T2) (g' := (mkF m 16 #[.val (.ref a1), .val (.int i2), .val (.int (0 : Int32)), .unset, .unset] [(.int ((2 : Int32) &&& (16383 : Int32)))])) (fun _ k_ => XS.iand X2.here hx rfl (hb hby d3_15) rfl k_) ?_
  rw [show ((2 : Int32) &&& (16383 : Int32)) = (2 : Int32) from by decide]
  refine own_k (T' := T2) (g' := (mkF m 17 #[.val (.ref a1), .val (.int i2), .val (.int (0 : Int32)), .val (.int (2 : Int32)), .unset] [])) (fun _ k_ => XS.istoreN X2.here hx rfl (hb hby d3_16) rfl (l' := #[.val (.ref a1), .val (.int i2), .val (.int (0 : Int32)), .val (.int (2 : Int32)), .unset]) rfl k_) ?_
  refine own_k (T' := T2) (g' := (mkF m 18 #[.val (.ref a1), .val (.int i2), .val (.int (0 : Int32)), .val (.int (2 : Int32)), .unset] [(.int (2 : Int32))])) (fun _ k_ => XS.iloadN X2.here hx rfl (hb hby d3_17) rfl  k_) ?_
  refine own_k (T' := T2) (g' := (mkF m 30 #[.val (.ref a1), .val (.int i2), .val (.int (0 : Int32)), .val (.int (2 : Int32)), .unset] [])) (fun _ k_ => XS.ifYes X2.here hx rfl (pc0 := 18) (pc' := 30) rfl (hb hby d3_18) rfl ((if0 _ _).trans (feq (by decide : ¬ ((2 : Int32) = (0 : Int32)))).2) (by decide) (by decide) k_) ?_
  refine own_k (T' := T2) (g' := (mkF m 31 #[.val (.ref a1), .val (.int i2), .val (.int (0 : Int32)), .val (.int (2 : Int32)), .unset] [(.int (2 : Int32))])) (fun _ k_ => XS.iloadN X2.here hx rfl (hb hby d3_30) rfl  k_) ?_
  refine own_k (T' := T2) (g' := (mkF m 32 #[.val (.ref a1), .val (.int i2), .val (.int (0 : Int32)), .val (.int (2 : Int32)), .unset] [(.ref a1), (.int (2 : Int32))])) (fun _ k_ => XS.aloadN X2.here hx rfl (hb hby d3_31) rfl rfl  k_) ?_
  refine own_k (T' := T2) (g' := (mkF m 33 #[.val (.ref a1), .val (.int i2), .val (.int (0 : Int32)), .val (.int (2 : Int32)), .unset] [(.int (0 : Int32)), (.ref a1), (.int (2 : Int32))])) (fun _ k_ => XS.iloadN X2.here hx rfl (hb hby d3_32) rfl  k_) ?_
  refine own_callP X2 hx hZ (y := (⟨"com/example/control_design_check/controldesigncheck/lts/IntBlocks", "capacity", "(I)I"⟩ : MethodName)) hown (hw _ (List.mem_of_getElem? (i := 34) rfl)) (hw _ (List.mem_of_getElem? (i := 35) rfl)) (hw _ (List.mem_of_getElem? (i := 36) rfl)) (hw _ (List.mem_of_getElem? (i := 37) rfl)) (hw _ (List.mem_of_getElem? (i := 2) rfl)) (hw _ (List.mem_of_getElem? (i := 1) rfl)) (by decide) (al := [(.int (0 : Int32))]) h_5 (rm_capacity_5 l Z a0 hW a1 a3 q4 a5 q6 i7 i8 h0 O0 h_2 h_3 h_4) 1 (by decide) (by decide) e2 (by decide) (by decide) (by rw [hml]; rfl) (lenOf pd__28I_29I rfl) rfl (rest := [(.int (2 : Int32))]) (by show 2 * 0 + _ ≤ _; exact Nat.le_of_eq rfl) (hb hby d3_33) ?_
  intro v3 T3 L3 X3 hQ3
  obtain ⟨rfl, Nq3, e3⟩ := hQ3
  have N3 := Fr.app N0 Nq3
  show own_Go p e below Φ T3 (mkF m 36 #[.val (.ref a1), .val (.int i2), .val (.int (0 : Int32)), .val (.int (2 : Int32)), .unset] [(.int (16 : Int32)), (.int (2 : Int32))])
  refine own_k (T' := T3) (g' := (mkF m 45 #[.val (.ref a1), .val (.int i2), .val (.int (0 : Int32)), .val (.int (2 : Int32)), .unset] [])) (fun _ k_ => XS.icmpYes X3.here hx rfl (pc0 := 36) (pc' := 45) rfl (hb hby d3_36) rfl ((feq (by decide : ¬ ((2 : Int32) = (16 : Int32)))).2) (by decide) (by decide) k_) ?_
  refine own_k (T' := T3) (g' := (mkF m 46 #[.val (.ref a1), .val (.int i2), .val (.int (0 : Int32)), .val (.int (2 : Int32)), .unset] [(.int i2)])) (fun _ k_ => XS.iloadN X3.here hx rfl (hb hby d3_45) rfl  k_) ?_
  refine own_k (T' := T3) (g' := (mkF m 47 #[.val (.ref a1), .val (.int i2), .val (.int (0 : Int32)), .val (.int (2 : Int32)), .unset] [(.ref a1), (.int i2)])) (fun _ k_ => XS.aloadN X3.here hx rfl (hb hby d3_46) rfl rfl  k_) ?_
  obtain ⟨T4, X4, e4, st4⟩ := getF X3 hx hZ hown (host := "") (Or.inl (hw _ (List.mem_of_getElem? (i := 18) rfl))) Via.refl e3 h_6 (g := (mkF m 47 #[.val (.ref a1), .val (.int i2), .val (.int (0 : Int32)), .val (.int (2 : Int32)), .unset] [(.ref a1), (.int i2)])) rfl rfl (hb hby d3_47)
  refine own_k (T' := T4) (g' := (mkF m 50 #[.val (.ref a1), .val (.int i2), .val (.int (0 : Int32)), .val (.int (2 : Int32)), .unset] [(.ref a9), (.int i2)])) st4 ?_
  refine own_k (T' := T4) (g' := (mkF m 51 #[.val (.ref a1), .val (.int i2), .val (.int (0 : Int32)), .val (.int (2 : Int32)), .unset] [(.int (0 : Int32)), (.ref a9), (.int i2)])) (fun _ k_ => XS.iloadN X4.here hx rfl (hb hby d3_50) rfl  k_) ?_
  refine own_iaload X4 hx hZ e4 h_7 (j := (0 : Int32)) ⟨by decide, by decide⟩ (v := (.int i11)) rfl (hb hby d3_51) ?_
  show own_Go p e below Φ T4 (mkF m 52 #[.val (.ref a1), .val (.int i2), .val (.int (0 : Int32)), .val (.int (2 : Int32)), .unset] [(.int i11), (.int i2)])
  refine own_k (T' := T4) (g' := (mkF m 53 #[.val (.ref a1), .val (.int i2), .val (.int (0 : Int32)), .val (.int (2 : Int32)), .unset] [(.int (i2 - i11))])) (fun _ k_ => XS.isub X4.here hx rfl (hb hby d3_52) rfl k_) ?_
  refine own_k (T' := T4) (g' := (mkF m 55 #[.val (.ref a1), .val (.int i2), .val (.int (0 : Int32)), .val (.int (2 : Int32)), .val (.int (i2 - i11))] [])) (fun _ k_ => XS.istore X4.here hx rfl (hb hby d3_53) rfl (l' := #[.val (.ref a1), .val (.int i2), .val (.int (0 : Int32)), .val (.int (2 : Int32)), .val (.int (i2 - i11))]) rfl k_) ?_
  refine own_k (T' := T4) (g' := (mkF m 56 #[.val (.ref a1), .val (.int i2), .val (.int (0 : Int32)), .val (.int (2 : Int32)), .val (.int (i2 - i11))] [(.ref a1)])) (fun _ k_ => XS.aloadN X4.here hx rfl (hb hby d3_55) rfl rfl  k_) ?_
  obtain ⟨T5, X5, e5, st5⟩ := getF X4 hx hZ hown (host := "") (Or.inl (hw _ (List.mem_of_getElem? (i := 11) rfl))) Via.refl e4 h_2 (g := (mkF m 56 #[.val (.ref a1), .val (.int i2), .val (.int (0 : Int32)), .val (.int (2 : Int32)), .val (.int (i2 - i11))] [(.ref a1)])) rfl rfl (hb hby d3_56)
  refine own_k (T' := T5) (g' := (mkF m 59 #[.val (.ref a1), .val (.int i2), .val (.int (0 : Int32)), .val (.int (2 : Int32)), .val (.int (i2 - i11))] [(.ref a3)])) st5 ?_
  refine own_k (T' := T5) (g' := (mkF m 60 #[.val (.ref a1), .val (.int i2), .val (.int (0 : Int32)), .val (.int (2 : Int32)), .val (.int (i2 - i11))] [(.int (0 : Int32)), (.ref a3)])) (fun _ k_ => XS.iloadN X5.here hx rfl (hb hby d3_59) rfl  k_) ?_
  refine own_aaload X5 hx hZ e5 h_3 rfl (j := (0 : Int32)) ⟨by decide, by decide⟩ (v := (.ref a5)) rfl (hb hby d3_60) ?_
  show own_Go p e below Φ T5 (mkF m 61 #[.val (.ref a1), .val (.int i2), .val (.int (0 : Int32)), .val (.int (2 : Int32)), .val (.int (i2 - i11))] [(.ref a5)])
  refine own_k (T' := T5) (g' := (mkF m 64 #[.val (.ref a1), .val (.int i2), .val (.int (0 : Int32)), .val (.int (2 : Int32)), .val (.int (i2 - i11))] [])) (fun _ k_ => XS.ifnullNo X5.here hx rfl (hb hby d3_61) rfl k_) ?_
  refine own_k (T' := T5) (g' := (mkF m 66 #[.val (.ref a1), .val (.int i2), .val (.int (0 : Int32)), .val (.int (2 : Int32)), .val (.int (i2 - i11))] [(.int (i2 - i11))])) (fun _ k_ => XS.iload X5.here hx rfl (hb hby d3_64) rfl  k_) ?_
  refine own_k (T' := T5) (g' := (mkF m 68 #[.val (.ref a1), .val (.int i2), .val (.int (0 : Int32)), .val (.int (2 : Int32)), .val (.int (i2 - i11))] [(.int (16 : Int32)), (.int (i2 - i11))])) (fun _ k_ => XS.bipush X5.here hx rfl (hb hby d3_66) k_) ?_
  refine own_k (T' := T5) (g' := (mkF m 69 #[.val (.ref a1), .val (.int i2), .val (.int (0 : Int32)), .val (.int (2 : Int32)), .val (.int (i2 - i11))] [(.int (((i2 - i11).toUInt32 >>> ((16 : Int32) &&& 31).toUInt32).toInt32))])) (fun _ k_ => XS.iushr X5.here hx rfl (hb hby d3_68) rfl k_) ?_
  refine own_k (T' := T5) (g' := (mkF m 72 #[.val (.ref a1), .val (.int i2), .val (.int (0 : Int32)), .val (.int (2 : Int32)), .val (.int (i2 - i11))] [])) (fun _ k_ => XS.ifNo X5.here hx rfl (hb hby d3_69) rfl ((if0 _ _).trans (feq h_8).1) k_) ?_
  refine own_k (T' := T5) (g' := (mkF m 73 #[.val (.ref a1), .val (.int i2), .val (.int (0 : Int32)), .val (.int (2 : Int32)), .val (.int (i2 - i11))] [(.ref a1)])) (fun _ k_ => XS.aloadN X5.here hx rfl (hb hby d3_72) rfl rfl  k_) ?_
  refine own_k (T' := T5) (g' := (mkF m 74 #[.val (.ref a1), .val (.int i2), .val (.int (0 : Int32)), .val (.int (2 : Int32)), .val (.int (i2 - i11))] [(.int (0 : Int32)), (.ref a1)])) (fun _ k_ => XS.iloadN X5.here hx rfl (hb hby d3_73) rfl  k_) ?_
  refine own_k (T' := T5) (g' := (mkF m 75 #[.val (.ref a1), .val (.int i2), .val (.int (0 : Int32)), .val (.int (2 : Int32)), .val (.int (i2 - i11))] [(.int (2 : Int32)), (.int (0 : Int32)), (.ref a1)])) (fun _ k_ => XS.iloadN X5.here hx rfl (hb hby d3_74) rfl  k_) ?_
  refine own_callP X5 hx hZ (y := (⟨"com/example/control_design_check/controldesigncheck/lts/IntBlocks", "widen", "(II)V"⟩ : MethodName)) hown (hw _ (List.mem_of_getElem? (i := 49) rfl)) (hw _ (List.mem_of_getElem? (i := 50) rfl)) (hw _ (List.mem_of_getElem? (i := 51) rfl)) (hw _ (List.mem_of_getElem? (i := 52) rfl)) (hw _ (List.mem_of_getElem? (i := 2) rfl)) (hw _ (List.mem_of_getElem? (i := 1) rfl)) (by decide) (al := [(.int (0 : Int32)), (.int (2 : Int32))]) h_5 (rm_widen_11 l Z a0 hW a1 a3 q4 a5 q6 i7 i8 a9 q10 i11 a12 q13 h0 O0 h_2 h_3 h_4 h_6 h_7 h_9 h_10 h_11 h_12 h_13 h_14 h_15 h_16) 0 (by decide) (by decide) e5 (by decide) (by decide) (by rw [hml]; rfl) (lenOf pd__28II_29V rfl) rfl (rest := []) (by show 2 * 0 + _ ≤ _; exact Nat.le_of_eq rfl) (hb hby d3_75) ?_
  intro v6 T6 L6 X6 hQ6
  obtain ⟨b6_0, k6_1, rfl, Nq6, K6, ge6_0, q6_0, q6_1, q6_2, q6_3⟩ := hQ6
  have N6 := Fr.app N3 Nq6
  have O6' := O0.keep K6 (allS h_12 (allS h_15 all0))
  show own_Go p e below Φ T6 (mkF m 78 #[.val (.ref a1), .val (.int i2), .val (.int (0 : Int32)), .val (.int (2 : Int32)), .val (.int (i2 - i11))] [])
  refine own_k (T' := T6) (g' := (mkF m 79 #[.val (.ref a1), .val (.int i2), .val (.int (0 : Int32)), .val (.int (2 : Int32)), .val (.int (i2 - i11))] [(.ref a1)])) (fun _ k_ => XS.aloadN X6.here hx rfl (hb hby d3_78) rfl rfl  k_) ?_
  obtain ⟨T7, X7, e7, st7⟩ := getF X6 hx hZ hown (host := "") (Or.inl (hw _ (List.mem_of_getElem? (i := 11) rfl))) Via.refl rfl (h_2.keep K6 (ninS h_13 (ninS h_17 nin0))) (g := (mkF m 79 #[.val (.ref a1), .val (.int i2), .val (.int (0 : Int32)), .val (.int (2 : Int32)), .val (.int (i2 - i11))] [(.ref a1)])) rfl rfl (hb hby d3_79)
  refine own_k (T' := T7) (g' := (mkF m 82 #[.val (.ref a1), .val (.int i2), .val (.int (0 : Int32)), .val (.int (2 : Int32)), .val (.int (i2 - i11))] [(.ref a3)])) st7 ?_
  refine own_k (T' := T7) (g' := (mkF m 83 #[.val (.ref a1), .val (.int i2), .val (.int (0 : Int32)), .val (.int (2 : Int32)), .val (.int (i2 - i11))] [(.int (0 : Int32)), (.ref a3)])) (fun _ k_ => XS.iloadN X7.here hx rfl (hb hby d3_82) rfl  k_) ?_
  refine own_aaload X7 hx hZ e7 q6_1 rfl (j := (0 : Int32)) ⟨by decide, by decide⟩ (v := .null) rfl (hb hby d3_83) ?_
  show own_Go p e below Φ T7 (mkF m 84 #[.val (.ref a1), .val (.int i2), .val (.int (0 : Int32)), .val (.int (2 : Int32)), .val (.int (i2 - i11))] [.null])
  refine own_k (T' := T7) (g' := (mkF m 101 #[.val (.ref a1), .val (.int i2), .val (.int (0 : Int32)), .val (.int (2 : Int32)), .val (.int (i2 - i11))] [])) (fun _ k_ => XS.ifnullYes X7.here hx rfl (pc0 := 84) (pc' := 101) rfl (hb hby d3_84) rfl (by decide) (by decide) k_) ?_
  refine own_k (T' := T7) (g' := (mkF m 102 #[.val (.ref a1), .val (.int i2), .val (.int (0 : Int32)), .val (.int (2 : Int32)), .val (.int (i2 - i11))] [(.ref a1)])) (fun _ k_ => XS.aloadN X7.here hx rfl (hb hby d3_101) rfl rfl  k_) ?_
  obtain ⟨T8, X8, e8, st8⟩ := getF X7 hx hZ hown (host := "") (Or.inl (hw _ (List.mem_of_getElem? (i := 15) rfl))) Via.refl e7 (h_9.keep K6 (ninS h_13 (ninS h_17 nin0))) (g := (mkF m 102 #[.val (.ref a1), .val (.int i2), .val (.int (0 : Int32)), .val (.int (2 : Int32)), .val (.int (i2 - i11))] [(.ref a1)])) rfl rfl (hb hby d3_102)
  refine own_k (T' := T8) (g' := (mkF m 105 #[.val (.ref a1), .val (.int i2), .val (.int (0 : Int32)), .val (.int (2 : Int32)), .val (.int (i2 - i11))] [(.ref a12)])) st8 ?_
  refine own_k (T' := T8) (g' := (mkF m 106 #[.val (.ref a1), .val (.int i2), .val (.int (0 : Int32)), .val (.int (2 : Int32)), .val (.int (i2 - i11))] [(.int (0 : Int32)), (.ref a12)])) (fun _ k_ => XS.iloadN X8.here hx rfl (hb hby d3_105) rfl  k_) ?_
  refine own_aaload X8 hx hZ e8 q6_0 rfl (j := (0 : Int32)) ⟨by decide, by decide⟩ (v := (.ref b6_0)) rfl (hb hby d3_106) ?_
  show own_Go p e below Φ T8 (mkF m 107 #[.val (.ref a1), .val (.int i2), .val (.int (0 : Int32)), .val (.int (2 : Int32)), .val (.int (i2 - i11))] [(.ref b6_0)])
  refine own_k (T' := T8) (g' := (mkF m 108 #[.val (.ref a1), .val (.int i2), .val (.int (0 : Int32)), .val (.int (2 : Int32)), .val (.int (i2 - i11))] [(.int (2 : Int32)), (.ref b6_0)])) (fun _ k_ => XS.iloadN X8.here hx rfl (hb hby d3_107) rfl  k_) ?_
  refine own_k (T' := T8) (g' := (mkF m 109 #[.val (.ref a1), .val (.int i2), .val (.int (0 : Int32)), .val (.int (2 : Int32)), .val (.int (i2 - i11))] [(.int i2), (.int (2 : Int32)), (.ref b6_0)])) (fun _ k_ => XS.iloadN X8.here hx rfl (hb hby d3_108) rfl  k_) ?_
  obtain ⟨T9, h9, X9, e9, W9, V9, st9⟩ := own_iastore (pc := 109) (Ls := #[.val (.ref a1), .val (.int i2), .val (.int (0 : Int32)), .val (.int (2 : Int32)), .val (.int (i2 - i11))]) (rest := []) X8 hx hZ e8 q6_2 (j := (2 : Int32)) (x := i2) ⟨by decide, by decide⟩ 2 rfl (Nat.le_of_ble_eq_true rfl) (hb hby d3_109)
  have V9 : Arv Z h9 b6_0 k6_1 .int (16 : Int32) [(.int (i11 + (i7 &&& (65535 : Int32)))), (.int (i11 + (i8 &&& (65535 : Int32)))), (.int i2), (.int (0 : Int32)), (.int (0 : Int32)), (.int (0 : Int32)), (.int (0 : Int32)), (.int (0 : Int32)), (.int (0 : Int32)), (.int (0 : Int32)), (.int (0 : Int32)), (.int (0 : Int32)), (.int (0 : Int32)), (.int (0 : Int32)), (.int (0 : Int32)), (.int (0 : Int32))] (.int (0 : Int32)) := V9
  have O9' := O6'.wr W9 (Nat.le_trans O0.2.1 ge6_0)
  have N9 := Fr.snoc X9 N6 (Nat.le_trans O0.2.1 ge6_0)
  refine own_k (T' := T9) (g' := (mkF m 110 #[.val (.ref a1), .val (.int i2), .val (.int (0 : Int32)), .val (.int (2 : Int32)), .val (.int (i2 - i11))] [])) st9 ?_
  refine own_k (T' := T9) (g' := (mkF m 111 #[.val (.ref a1), .val (.int i2), .val (.int (0 : Int32)), .val (.int (2 : Int32)), .val (.int (i2 - i11))] [(.ref a1)])) (fun _ k_ => XS.aloadN X9.here hx rfl (hb hby d3_110) rfl rfl  k_) ?_
  refine own_k (T' := T9) (g' := (mkF m 112 #[.val (.ref a1), .val (.int i2), .val (.int (0 : Int32)), .val (.int (2 : Int32)), .val (.int (i2 - i11))] [(.ref a1), (.ref a1)])) (fun _ k_ => XS.dup X9.here hx rfl (hb hby d3_111) rfl rfl k_) ?_
  have f10 := ((h_1.keep K6 (ninS h_13 (ninS h_17 nin0))).other W9 (Or.inl (Nat.ne_of_lt (Nat.lt_of_lt_of_le h_1.lt ge6_0))))
  obtain ⟨T11, X11, e11, st11⟩ := getF X9 hx hZ hown (host := "") (Or.inl (hw _ (List.mem_of_getElem? (i := 25) rfl))) Via.refl e9 f10 (g := (mkF m 112 #[.val (.ref a1), .val (.int i2), .val (.int (0 : Int32)), .val (.int (2 : Int32)), .val (.int (i2 - i11))] [(.ref a1), (.ref a1)])) rfl rfl (hb hby d3_112)
  refine own_k (T' := T11) (g' := (mkF m 115 #[.val (.ref a1), .val (.int i2), .val (.int (0 : Int32)), .val (.int (2 : Int32)), .val (.int (i2 - i11))] [(.int (2 : Int32)), (.ref a1)])) st11 ?_
  refine own_k (T' := T11) (g' := (mkF m 116 #[.val (.ref a1), .val (.int i2), .val (.int (0 : Int32)), .val (.int (2 : Int32)), .val (.int (i2 - i11))] [(.int (1 : Int32)), (.int (2 : Int32)), (.ref a1)])) (fun _ k_ => XS.iconst X11.here hx rfl (hb hby d3_115) k_) ?_
  refine own_k (T' := T11) (g' := (mkF m 117 #[.val (.ref a1), .val (.int i2), .val (.int (0 : Int32)), .val (.int (2 : Int32)), .val (.int (i2 - i11))] [(.int ((2 : Int32) + (1 : Int32))), (.ref a1)])) (fun _ k_ => XS.iadd X11.here hx rfl (hb hby d3_116) rfl k_) ?_
  rw [show ((2 : Int32) + (1 : Int32)) = (3 : Int32) from by decide]
  obtain ⟨T12, h12, X12, e12, W12, st12⟩ := putF X11 hx hZ hown (host := "") (Or.inl (hw _ (List.mem_of_getElem? (i := 25) rfl))) Via.refl e11 f10 ((h_5.keep K6).wr W9) (Or.inl (hw _ (List.mem_of_getElem? (i := 26) rfl))) (hw _ (List.mem_of_getElem? (i := 1) rfl)) (ty := .int) (by decide) rfl rfl (g := (mkF m 117 #[.val (.ref a1), .val (.int i2), .val (.int (0 : Int32)), .val (.int (2 : Int32)), .val (.int (i2 - i11))] [(.int (3 : Int32)), (.ref a1)])) rfl rfl (hb hby d3_117)
  have w12 := Fld.same W12 f10
  have O12' := O9'.wr W12 h_18
  have N12 := Fr.snoc X12 N9 h_18
  refine own_k (T' := T12) (g' := (mkF m 120 #[.val (.ref a1), .val (.int i2), .val (.int (0 : Int32)), .val (.int (2 : Int32)), .val (.int (i2 - i11))] [])) st12 ?_
  have kp0 : Keep h0 h0 [a12, a3, a1] := Keep.refl h0 [a12, a3, a1]
  have kp1 : Keep h0 T6.heap [a12, a3, a1] := kp0.trans K6 (allS (Or.inl (List.mem_of_getElem? (i := 0) rfl)) (allS (Or.inl (List.mem_of_getElem? (i := 1) rfl)) all0))
  have kp2 : Keep h0 h9 [a12, a3, a1] := kp1.wr W9 (Or.inr (Nat.le_trans kp0.1 ge6_0))
  have kp3 : Keep h0 h12 [a12, a3, a1] := kp2.wr W12 (Or.inl (List.mem_of_getElem? (i := 2) rfl))
  have f13 := ((q6_0.other W9 (Nat.ne_of_lt (Nat.lt_of_lt_of_le h_10.lt ge6_0))).other W12 h_19)
  have f14 := ((q6_1.other W9 (Nat.ne_of_lt (Nat.lt_of_lt_of_le h_3.lt ge6_0))).other W12 h_21)
  have f15 := (((h_2.keep K6 (ninS h_13 (ninS h_17 nin0))).other W9 (Or.inl (Nat.ne_of_lt (Nat.lt_of_lt_of_le h_1.lt ge6_0)))).other W12 (Or.inr (slot_ne (Or.inl (hw _ (List.mem_of_getElem? (i := 12) rfl))) (Or.inl (hw _ (List.mem_of_getElem? (i := 26) rfl))) (by decide) (t := (.array (.array .short))) (t' := .int) (by decide) (by decide))))
  have f16 := (((h_6.keep K6 (ninS h_13 (ninS h_17 nin0))).other W9 (Or.inl (Nat.ne_of_lt (Nat.lt_of_lt_of_le h_1.lt ge6_0)))).other W12 (Or.inr (slot_ne (Or.inl (hw _ (List.mem_of_getElem? (i := 19) rfl))) (Or.inl (hw _ (List.mem_of_getElem? (i := 26) rfl))) (by decide) (t := (.array .int)) (t' := .int) (by decide) (by decide))))
  have f17 := (((h_9.keep K6 (ninS h_13 (ninS h_17 nin0))).other W9 (Or.inl (Nat.ne_of_lt (Nat.lt_of_lt_of_le h_1.lt ge6_0)))).other W12 (Or.inr (slot_ne (Or.inl (hw _ (List.mem_of_getElem? (i := 16) rfl))) (Or.inl (hw _ (List.mem_of_getElem? (i := 26) rfl))) (by decide) (t := (.array (.array .int))) (t' := .int) (by decide) (by decide))))
  have f18 := (V9.other W12 (Ne.symm (Nat.ne_of_lt (Nat.lt_of_lt_of_le h_1.lt ge6_0))))
  exact own_ret0 X12 hx hret hlk (hb hby d3_120) hF (by rw [e12]; exact ⟨b6_0, k6_1, rfl, N12, kp3, (Nat.le_trans kp0.1 ge6_0), f13, (((h_20.keep K6).wr W9).wr W12), f14, (((h_22.keep K6).wr W9).wr W12), w12, f15, (((h_5.keep K6).wr W9).wr W12), f16, f17, f18, ((q6_3.wr W9).wr W12)⟩) (by decide) (by decide)
theorem d7_36 : decode prog_69_method_3_code 36 = .ok (.aload_n 0, 1) := by decide +kernel
theorem d7_37 : decode prog_69_method_3_code 37 = .ok (.getfield 17, 3) := by decide +kernel
theorem d7_40 : decode prog_69_method_3_code 40 = .ok (.iload_n 2, 1) := by decide +kernel
theorem d7_41 : decode prog_69_method_3_code 41 = .ok (.aaload, 1) := by decide +kernel
theorem d7_42 : decode prog_69_method_3_code 42 = .ok (.iload_n 1, 1) := by decide +kernel
theorem d7_43 : decode prog_69_method_3_code 43 = .ok (.sipush 16383, 3) := by decide +kernel
theorem d7_46 : decode prog_69_method_3_code 46 = .ok (.iand, 1) := by decide +kernel
theorem d7_47 : decode prog_69_method_3_code 47 = .ok (.iaload, 1) := by decide +kernel
set_option maxRecDepth 65536 in
set_option maxHeartbeats 40000000 in
theorem rm_get_13 (l : Launch) (Z : State) (a0 : Array Value)  (hW : own_W Z a0) (a1 : Addr) (a2 : Addr) (q3 : ClassId) (a4 : Addr) (q5 : ClassId) (a6 : Addr) (q7 : ClassId) (i8 : Int32) (i9 : Int32) (i10 : Int32) (h0 : Heap) (O0 : Old Z Z.heap.size h0) (h_1 : Fld Z h0 a1 "com/example/control_design_check/controldesigncheck/lts/IntBlocks" "narrow" "[[S" (.ref a2)) (h_2 : Arv Z h0 a2 q3 (.array .short) (1 : Int32) [.null] .null) (h_3 : Fld Z h0 a1 "com/example/control_design_check/controldesigncheck/lts/IntBlocks" "wide" "[[I" (.ref a4)) (h_4 : Arv Z h0 a4 q5 (.array .int) (1 : Int32) [(.ref a6)] .null) (h_5 : Arv Z h0 a6 q7 .int (16 : Int32) [(.int i8), (.int i9), (.int i10), (.int (0 : Int32)), (.int (0 : Int32)), (.int (0 : Int32)), (.int (0 : Int32)), (.int (0 : Int32)), (.int (0 : Int32)), (.int (0 : Int32)), (.int (0 : Int32)), (.int (0 : Int32)), (.int (0 : Int32)), (.int (0 : Int32)), (.int (0 : Int32)), (.int (0 : Int32))] (.int (0 : Int32))) :
    own_Met l Z (⟨"com/example/control_design_check/controldesigncheck/lts/IntBlocks", "get", "(I)I"⟩ : MethodName) prog_69_method_3_code 4 (some .int) ({ frames := 0, cells := 0, slots := 0, locals := 0 } : Room) #[(.ref a1), (.int (0 : Int32))] h0 (fun v h L => v = some (.int i8) ∧ Fr Z.heap.size L ∧ h = h0) := by
  have hw : ∀ d ∈ tables_1, d.before a0 Z = true := hW
  refine own_met (plainFor_of_name pn_com_example_control_design_check_controldesigncheck_lts_IntBlocks) ?_
  intro p e s m below meth cc_ s₁ Φ hF X0 hx hby hml hZ hown hnm hret hlk e0
  have N0 := Fr.nil Z.heap.size
  refine own_k (T' := s₁) (g' := (mkF m 0 #[.val (.ref a1), .val (.int (0 : Int32)), .unset, .unset] [])) (fun _ k_ => castTop (ef_7_RI m a1 (0 : Int32)) k_) ?_
  refine own_k (T' := s₁) (g' := (mkF m 1 #[.val (.ref a1), .val (.int (0 : Int32)), .unset, .unset] [(.int (0 : Int32))])) (fun _ k_ => XS.iloadN X0.here hx rfl (hb hby d7_0) rfl  k_) ?_
  refine own_k (T' := s₁) (g' := (mkF m 3 #[.val (.ref a1), .val (.int (0 : Int32)), .unset, .unset] [(.int (14 : Int32)), (.int (0 : Int32))])) (fun _ k_ => XS.bipush X0.here hx rfl (hb hby d7_1) k_) ?_
  refine own_k (T' := s₁) (g' := (mkF m 4 #[.val (.ref a1), .val (.int (0 : Int32)), .unset, .unset] [(.int (((0 : Int32).toUInt32 >>> ((14 : Int32) &&& 31).toUInt32).toInt32))])) (fun _ k_ => XS.iushr X0.here hx rfl (hb hby d7_3) rfl k_) ?_
  rw [show (((0 : Int32).toUInt32 >>> ((14 : Int32) &&& 31).toUInt32).toInt32) = (0 : Int32) from by decide]
  refine own_k (T' := s₁) (g' := (mkF m 5 #[.val (.ref a1), .val (.int (0 : Int32)), .val (.int (0 : Int32)), .unset] [])) (fun _ k_ => XS.istoreN X0.here hx rfl (hb hby d7_4) rfl (l' := #[.val (.ref a1), .val (.int (0 : Int32)), .val (.int (0 : Int32)), .unset]) rfl k_) ?_
  refine own_k (T' := s₁) (g' := (mkF m 6 #[.val (.ref a1), .val (.int (0 : Int32)), .val (.int (0 : Int32)), .unset] [(.ref a1)])) (fun _ k_ => XS.aloadN X0.here hx rfl (hb hby d7_5) rfl rfl  k_) ?_
  obtain ⟨T1, X1, e1, st1⟩ := getF X0 hx hZ hown (host := "") (Or.inl (hw _ (List.mem_of_getElem? (i := 11) rfl))) Via.refl e0 h_1 (g := (mkF m 6 #[.val (.ref a1), .val (.int (0 : Int32)), .val (.int (0 : Int32)), .unset] [(.ref a1)])) rfl rfl (hb hby d7_6)
  refine own_k (T' := T1) (g' := (mkF m 9 #[.val (.ref a1), .val (.int (0 : Int32)), .val (.int (0 : Int32)), .unset] [(.ref a2)])) st1 ?_
  refine own_k (T' := T1) (g' := (mkF m 10 #[.val (.ref a1), .val (.int (0 : Int32)), .val (.int (0 : Int32)), .unset] [(.int (0 : Int32)), (.ref a2)])) (fun _ k_ => XS.iloadN X1.here hx rfl (hb hby d7_9) rfl  k_) ?_
  refine own_aaload X1 hx hZ e1 h_2 rfl (j := (0 : Int32)) ⟨by decide, by decide⟩ (v := .null) rfl (hb hby d7_10) ?_
  show own_Go p e below Φ T1 (mkF m 11 #[.val (.ref a1), .val (.int (0 : Int32)), .val (.int (0 : Int32)), .unset] [.null])
  refine own_k (T' := T1) (g' := (mkF m 12 #[.val (.ref a1), .val (.int (0 : Int32)), .val (.int (0 : Int32)), .val .null] [])) (fun _ k_ => XS.astoreN X1.here hx rfl (hb hby d7_11) rfl rfl (l' := #[.val (.ref a1), .val (.int (0 : Int32)), .val (.int (0 : Int32)), .val .null]) rfl k_) ?_
  refine own_k (T' := T1) (g' := (mkF m 13 #[.val (.ref a1), .val (.int (0 : Int32)), .val (.int (0 : Int32)), .val .null] [.null])) (fun _ k_ => XS.aloadN X1.here hx rfl (hb hby d7_12) rfl rfl  k_) ?_
  refine own_k (T' := T1) (g' := (mkF m 36 #[.val (.ref a1), .val (.int (0 : Int32)), .val (.int (0 : Int32)), .val .null] [])) (fun _ k_ => XS.ifnullYes X1.here hx rfl (pc0 := 13) (pc' := 36) rfl (hb hby d7_13) rfl (by decide) (by decide) k_) ?_
  refine own_k (T' := T1) (g' := (mkF m 37 #[.val (.ref a1), .val (.int (0 : Int32)), .val (.int (0 : Int32)), .val .null] [(.ref a1)])) (fun _ k_ => XS.aloadN X1.here hx rfl (hb hby d7_36) rfl rfl  k_) ?_
  obtain ⟨T2, X2, e2, st2⟩ := getF X1 hx hZ hown (host := "") (Or.inl (hw _ (List.mem_of_getElem? (i := 15) rfl))) Via.refl e1 h_3 (g := (mkF m 37 #[.val (.ref a1), .val (.int (0 : Int32)), .val (.int (0 : Int32)), .val .null] [(.ref a1)])) rfl rfl (hb hby d7_37)
  refine own_k (T' := T2) (g' := (mkF m 40 #[.val (.ref a1), .val (.int (0 : Int32)), .val (.int (0 : Int32)), .val .null] [(.ref a4)])) st2 ?_
  refine own_k (T' := T2) (g' := (mkF m 41 #[.val (.ref a1), .val (.int (0 : Int32)), .val (.int (0 : Int32)), .val .null] [(.int (0 : Int32)), (.ref a4)])) (fun _ k_ => XS.iloadN X2.here hx rfl (hb hby d7_40) rfl  k_) ?_
  refine own_aaload X2 hx hZ e2 h_4 rfl (j := (0 : Int32)) ⟨by decide, by decide⟩ (v := (.ref a6)) rfl (hb hby d7_41) ?_
  show own_Go p e below Φ T2 (mkF m 42 #[.val (.ref a1), .val (.int (0 : Int32)), .val (.int (0 : Int32)), .val .null] [(.ref a6)])
  refine own_k (T' := T2) (g' := (mkF m 43 #[.val (.ref a1), .val (.int (0 : Int32)), .val (.int (0 : Int32)), .val .null] [(.int (0 : Int32)), (.ref a6)])) (fun _ k_ => XS.iloadN X2.here hx rfl (hb hby d7_42) rfl  k_) ?_
  refine own_k (T' := T2) (g' := (mkF m 46 #[.val (.ref a1), .val (.int (0 : Int32)), .val (.int (0 : Int32)), .val .null] [(.int (16383 : Int32)), (.int (0 : Int32)), (.ref a6)])) (fun _ k_ => XS.sipush X2.here hx rfl (hb hby d7_43) k_) ?_
  refine own_k (T' := T2) (g' := (mkF m 47 #[.val (.ref a1), .val (.int (0 : Int32)), .val (.int (0 : Int32)), .val .null] [(.int ((0 : Int32) &&& (16383 : Int32))), (.ref a6)])) (fun _ k_ => XS.iand X2.here hx rfl (hb hby d7_46) rfl k_) ?_
  rw [show ((0 : Int32) &&& (16383 : Int32)) = (0 : Int32) from by decide]
  refine own_iaload X2 hx hZ e2 h_5 (j := (0 : Int32)) ⟨by decide, by decide⟩ (v := (.int i8)) rfl (hb hby d7_47) ?_
  show own_Go p e below Φ T2 (mkF m 48 #[.val (.ref a1), .val (.int (0 : Int32)), .val (.int (0 : Int32)), .val .null] [(.int i8)])
  exact own_retI X2 hx hret hlk (hb hby d7_48) hF (by rw [e2]; exact ⟨rfl, N0, rfl⟩) (by decide) (by decide)
set_option maxRecDepth 65536 in
set_option maxHeartbeats 40000000 in
theorem rm_get_14 (l : Launch) (Z : State) (a0 : Array Value)  (hW : own_W Z a0) (a1 : Addr) (a2 : Addr) (q3 : ClassId) (a4 : Addr) (q5 : ClassId) (a6 : Addr) (q7 : ClassId) (i8 : Int32) (i9 : Int32) (i10 : Int32) (h0 : Heap) (O0 : Old Z Z.heap.size h0) (h_1 : Fld Z h0 a1 "com/example/control_design_check/controldesigncheck/lts/IntBlocks" "narrow" "[[S" (.ref a2)) (h_2 : Arv Z h0 a2 q3 (.array .short) (1 : Int32) [.null] .null) (h_3 : Fld Z h0 a1 "com/example/control_design_check/controldesigncheck/lts/IntBlocks" "wide" "[[I" (.ref a4)) (h_4 : Arv Z h0 a4 q5 (.array .int) (1 : Int32) [(.ref a6)] .null) (h_5 : Arv Z h0 a6 q7 .int (16 : Int32) [(.int i8), (.int i9), (.int i10), (.int (0 : Int32)), (.int (0 : Int32)), (.int (0 : Int32)), (.int (0 : Int32)), (.int (0 : Int32)), (.int (0 : Int32)), (.int (0 : Int32)), (.int (0 : Int32)), (.int (0 : Int32)), (.int (0 : Int32)), (.int (0 : Int32)), (.int (0 : Int32)), (.int (0 : Int32))] (.int (0 : Int32))) :
    own_Met l Z (⟨"com/example/control_design_check/controldesigncheck/lts/IntBlocks", "get", "(I)I"⟩ : MethodName) prog_69_method_3_code 4 (some .int) ({ frames := 0, cells := 0, slots := 0, locals := 0 } : Room) #[(.ref a1), (.int (1 : Int32))] h0 (fun v h L => v = some (.int i9) ∧ Fr Z.heap.size L ∧ h = h0) := by
  have hw : ∀ d ∈ tables_1, d.before a0 Z = true := hW
  refine own_met (plainFor_of_name pn_com_example_control_design_check_controldesigncheck_lts_IntBlocks) ?_
  intro p e s m below meth cc_ s₁ Φ hF X0 hx hby hml hZ hown hnm hret hlk e0
  have N0 := Fr.nil Z.heap.size
  refine own_k (T' := s₁) (g' := (mkF m 0 #[.val (.ref a1), .val (.int (1 : Int32)), .unset, .unset] [])) (fun _ k_ => castTop (ef_7_RI m a1 (1 : Int32)) k_) ?_
  refine own_k (T' := s₁) (g' := (mkF m 1 #[.val (.ref a1), .val (.int (1 : Int32)), .unset, .unset] [(.int (1 : Int32))])) (fun _ k_ => XS.iloadN X0.here hx rfl (hb hby d7_0) rfl  k_) ?_
  refine own_k (T' := s₁) (g' := (mkF m 3 #[.val (.ref a1), .val (.int (1 : Int32)), .unset, .unset] [(.int (14 : Int32)), (.int (1 : Int32))])) (fun _ k_ => XS.bipush X0.here hx rfl (hb hby d7_1) k_) ?_
  refine own_k (T' := s₁) (g' := (mkF m 4 #[.val (.ref a1), .val (.int (1 : Int32)), .unset, .unset] [(.int (((1 : Int32).toUInt32 >>> ((14 : Int32) &&& 31).toUInt32).toInt32))])) (fun _ k_ => XS.iushr X0.here hx rfl (hb hby d7_3) rfl k_) ?_
  rw [show (((1 : Int32).toUInt32 >>> ((14 : Int32) &&& 31).toUInt32).toInt32) = (0 : Int32) from by decide]
  refine own_k (T' := s₁) (g' := (mkF m 5 #[.val (.ref a1), .val (.int (1 : Int32)), .val (.int (0 : Int32)), .unset] [])) (fun _ k_ => XS.istoreN X0.here hx rfl (hb hby d7_4) rfl (l' := #[.val (.ref a1), .val (.int (1 : Int32)), .val (.int (0 : Int32)), .unset]) rfl k_) ?_
  refine own_k (T' := s₁) (g' := (mkF m 6 #[.val (.ref a1), .val (.int (1 : Int32)), .val (.int (0 : Int32)), .unset] [(.ref a1)])) (fun _ k_ => XS.aloadN X0.here hx rfl (hb hby d7_5) rfl rfl  k_) ?_
  obtain ⟨T1, X1, e1, st1⟩ := getF X0 hx hZ hown (host := "") (Or.inl (hw _ (List.mem_of_getElem? (i := 11) rfl))) Via.refl e0 h_1 (g := (mkF m 6 #[.val (.ref a1), .val (.int (1 : Int32)), .val (.int (0 : Int32)), .unset] [(.ref a1)])) rfl rfl (hb hby d7_6)
  refine own_k (T' := T1) (g' := (mkF m 9 #[.val (.ref a1), .val (.int (1 : Int32)), .val (.int (0 : Int32)), .unset] [(.ref a2)])) st1 ?_
  refine own_k (T' := T1) (g' := (mkF m 10 #[.val (.ref a1), .val (.int (1 : Int32)), .val (.int (0 : Int32)), .unset] [(.int (0 : Int32)), (.ref a2)])) (fun _ k_ => XS.iloadN X1.here hx rfl (hb hby d7_9) rfl  k_) ?_
  refine own_aaload X1 hx hZ e1 h_2 rfl (j := (0 : Int32)) ⟨by decide, by decide⟩ (v := .null) rfl (hb hby d7_10) ?_
  show own_Go p e below Φ T1 (mkF m 11 #[.val (.ref a1), .val (.int (1 : Int32)), .val (.int (0 : Int32)), .unset] [.null])
  refine own_k (T' := T1) (g' := (mkF m 12 #[.val (.ref a1), .val (.int (1 : Int32)), .val (.int (0 : Int32)), .val .null] [])) (fun _ k_ => XS.astoreN X1.here hx rfl (hb hby d7_11) rfl rfl (l' := #[.val (.ref a1), .val (.int (1 : Int32)), .val (.int (0 : Int32)), .val .null]) rfl k_) ?_
  refine own_k (T' := T1) (g' := (mkF m 13 #[.val (.ref a1), .val (.int (1 : Int32)), .val (.int (0 : Int32)), .val .null] [.null])) (fun _ k_ => XS.aloadN X1.here hx rfl (hb hby d7_12) rfl rfl  k_) ?_
  refine own_k (T' := T1) (g' := (mkF m 36 #[.val (.ref a1), .val (.int (1 : Int32)), .val (.int (0 : Int32)), .val .null] [])) (fun _ k_ => XS.ifnullYes X1.here hx rfl (pc0 := 13) (pc' := 36) rfl (hb hby d7_13) rfl (by decide) (by decide) k_) ?_
  refine own_k (T' := T1) (g' := (mkF m 37 #[.val (.ref a1), .val (.int (1 : Int32)), .val (.int (0 : Int32)), .val .null] [(.ref a1)])) (fun _ k_ => XS.aloadN X1.here hx rfl (hb hby d7_36) rfl rfl  k_) ?_
  obtain ⟨T2, X2, e2, st2⟩ := getF X1 hx hZ hown (host := "") (Or.inl (hw _ (List.mem_of_getElem? (i := 15) rfl))) Via.refl e1 h_3 (g := (mkF m 37 #[.val (.ref a1), .val (.int (1 : Int32)), .val (.int (0 : Int32)), .val .null] [(.ref a1)])) rfl rfl (hb hby d7_37)
  refine own_k (T' := T2) (g' := (mkF m 40 #[.val (.ref a1), .val (.int (1 : Int32)), .val (.int (0 : Int32)), .val .null] [(.ref a4)])) st2 ?_
  refine own_k (T' := T2) (g' := (mkF m 41 #[.val (.ref a1), .val (.int (1 : Int32)), .val (.int (0 : Int32)), .val .null] [(.int (0 : Int32)), (.ref a4)])) (fun _ k_ => XS.iloadN X2.here hx rfl (hb hby d7_40) rfl  k_) ?_
  refine own_aaload X2 hx hZ e2 h_4 rfl (j := (0 : Int32)) ⟨by decide, by decide⟩ (v := (.ref a6)) rfl (hb hby d7_41) ?_
  show own_Go p e below Φ T2 (mkF m 42 #[.val (.ref a1), .val (.int (1 : Int32)), .val (.int (0 : Int32)), .val .null] [(.ref a6)])
  refine own_k (T' := T2) (g' := (mkF m 43 #[.val (.ref a1), .val (.int (1 : Int32)), .val (.int (0 : Int32)), .val .null] [(.int (1 : Int32)), (.ref a6)])) (fun _ k_ => XS.iloadN X2.here hx rfl (hb hby d7_42) rfl  k_) ?_
  refine own_k (T' := T2) (g' := (mkF m 46 #[.val (.ref a1), .val (.int (1 : Int32)), .val (.int (0 : Int32)), .val .null] [(.int (16383 : Int32)), (.int (1 : Int32)), (.ref a6)])) (fun _ k_ => XS.sipush X2.here hx rfl (hb hby d7_43) k_) ?_
  refine own_k (T' := T2) (g' := (mkF m 47 #[.val (.ref a1), .val (.int (1 : Int32)), .val (.int (0 : Int32)), .val .null] [(.int ((1 : Int32) &&& (16383 : Int32))), (.ref a6)])) (fun _ k_ => XS.iand X2.here hx rfl (hb hby d7_46) rfl k_) ?_
  rw [show ((1 : Int32) &&& (16383 : Int32)) = (1 : Int32) from by decide]
  refine own_iaload X2 hx hZ e2 h_5 (j := (1 : Int32)) ⟨by decide, by decide⟩ (v := (.int i9)) rfl (hb hby d7_47) ?_
  show own_Go p e below Φ T2 (mkF m 48 #[.val (.ref a1), .val (.int (1 : Int32)), .val (.int (0 : Int32)), .val .null] [(.int i9)])
  exact own_retI X2 hx hret hlk (hb hby d7_48) hF (by rw [e2]; exact ⟨rfl, N0, rfl⟩) (by decide) (by decide)
set_option maxRecDepth 65536 in
set_option maxHeartbeats 40000000 in
theorem rm_get_15 (l : Launch) (Z : State) (a0 : Array Value)  (hW : own_W Z a0) (a1 : Addr) (a2 : Addr) (q3 : ClassId) (a4 : Addr) (q5 : ClassId) (a6 : Addr) (q7 : ClassId) (i8 : Int32) (i9 : Int32) (i10 : Int32) (h0 : Heap) (O0 : Old Z Z.heap.size h0) (h_1 : Fld Z h0 a1 "com/example/control_design_check/controldesigncheck/lts/IntBlocks" "narrow" "[[S" (.ref a2)) (h_2 : Arv Z h0 a2 q3 (.array .short) (1 : Int32) [.null] .null) (h_3 : Fld Z h0 a1 "com/example/control_design_check/controldesigncheck/lts/IntBlocks" "wide" "[[I" (.ref a4)) (h_4 : Arv Z h0 a4 q5 (.array .int) (1 : Int32) [(.ref a6)] .null) (h_5 : Arv Z h0 a6 q7 .int (16 : Int32) [(.int i8), (.int i9), (.int i10), (.int (0 : Int32)), (.int (0 : Int32)), (.int (0 : Int32)), (.int (0 : Int32)), (.int (0 : Int32)), (.int (0 : Int32)), (.int (0 : Int32)), (.int (0 : Int32)), (.int (0 : Int32)), (.int (0 : Int32)), (.int (0 : Int32)), (.int (0 : Int32)), (.int (0 : Int32))] (.int (0 : Int32))) :
    own_Met l Z (⟨"com/example/control_design_check/controldesigncheck/lts/IntBlocks", "get", "(I)I"⟩ : MethodName) prog_69_method_3_code 4 (some .int) ({ frames := 0, cells := 0, slots := 0, locals := 0 } : Room) #[(.ref a1), (.int (2 : Int32))] h0 (fun v h L => v = some (.int i10) ∧ Fr Z.heap.size L ∧ h = h0) := by
  have hw : ∀ d ∈ tables_1, d.before a0 Z = true := hW
  refine own_met (plainFor_of_name pn_com_example_control_design_check_controldesigncheck_lts_IntBlocks) ?_
  intro p e s m below meth cc_ s₁ Φ hF X0 hx hby hml hZ hown hnm hret hlk e0
  have N0 := Fr.nil Z.heap.size
  refine own_k (T' := s₁) (g' := (mkF m 0 #[.val (.ref a1), .val (.int (2 : Int32)), .unset, .unset] [])) (fun _ k_ => castTop (ef_7_RI m a1 (2 : Int32)) k_) ?_
  refine own_k (T' := s₁) (g' := (mkF m 1 #[.val (.ref a1), .val (.int (2 : Int32)), .unset, .unset] [(.int (2 : Int32))])) (fun _ k_ => XS.iloadN X0.here hx rfl (hb hby d7_0) rfl  k_) ?_
  refine own_k (T' := s₁) (g' := (mkF m 3 #[.val (.ref a1), .val (.int (2 : Int32)), .unset, .unset] [(.int (14 : Int32)), (.int (2 : Int32))])) (fun _ k_ => XS.bipush X0.here hx rfl (hb hby d7_1) k_) ?_
  refine own_k (T' := s₁) (g' := (mkF m 4 #[.val (.ref a1), .val (.int (2 : Int32)), .unset, .unset] [(.int (((2 : Int32).toUInt32 >>> ((14 : Int32) &&& 31).toUInt32).toInt32))])) (fun _ k_ => XS.iushr X0.here hx rfl (hb hby d7_3) rfl k_) ?_
  rw [show (((2 : Int32).toUInt32 >>> ((14 : Int32) &&& 31).toUInt32).toInt32) = (0 : Int32) from by decide]
  refine own_k (T' := s₁) (g' := (mkF m 5 #[.val (.ref a1), .val (.int (2 : Int32)), .val (.int (0 : Int32)), .unset] [])) (fun _ k_ => XS.istoreN X0.here hx rfl (hb hby d7_4) rfl (l' := #[.val (.ref a1), .val (.int (2 : Int32)), .val (.int (0 : Int32)), .unset]) rfl k_) ?_
  refine own_k (T' := s₁) (g' := (mkF m 6 #[.val (.ref a1), .val (.int (2 : Int32)), .val (.int (0 : Int32)), .unset] [(.ref a1)])) (fun _ k_ => XS.aloadN X0.here hx rfl (hb hby d7_5) rfl rfl  k_) ?_
  obtain ⟨T1, X1, e1, st1⟩ := getF X0 hx hZ hown (host := "") (Or.inl (hw _ (List.mem_of_getElem? (i := 11) rfl))) Via.refl e0 h_1 (g := (mkF m 6 #[.val (.ref a1), .val (.int (2 : Int32)), .val (.int (0 : Int32)), .unset] [(.ref a1)])) rfl rfl (hb hby d7_6)
  refine own_k (T' := T1) (g' := (mkF m 9 #[.val (.ref a1), .val (.int (2 : Int32)), .val (.int (0 : Int32)), .unset] [(.ref a2)])) st1 ?_
  refine own_k (T' := T1) (g' := (mkF m 10 #[.val (.ref a1), .val (.int (2 : Int32)), .val (.int (0 : Int32)), .unset] [(.int (0 : Int32)), (.ref a2)])) (fun _ k_ => XS.iloadN X1.here hx rfl (hb hby d7_9) rfl  k_) ?_
  refine own_aaload X1 hx hZ e1 h_2 rfl (j := (0 : Int32)) ⟨by decide, by decide⟩ (v := .null) rfl (hb hby d7_10) ?_
  show own_Go p e below Φ T1 (mkF m 11 #[.val (.ref a1), .val (.int (2 : Int32)), .val (.int (0 : Int32)), .unset] [.null])
  refine own_k (T' := T1) (g' := (mkF m 12 #[.val (.ref a1), .val (.int (2 : Int32)), .val (.int (0 : Int32)), .val .null] [])) (fun _ k_ => XS.astoreN X1.here hx rfl (hb hby d7_11) rfl rfl (l' := #[.val (.ref a1), .val (.int (2 : Int32)), .val (.int (0 : Int32)), .val .null]) rfl k_) ?_
  refine own_k (T' := T1) (g' := (mkF m 13 #[.val (.ref a1), .val (.int (2 : Int32)), .val (.int (0 : Int32)), .val .null] [.null])) (fun _ k_ => XS.aloadN X1.here hx rfl (hb hby d7_12) rfl rfl  k_) ?_
  refine own_k (T' := T1) (g' := (mkF m 36 #[.val (.ref a1), .val (.int (2 : Int32)), .val (.int (0 : Int32)), .val .null] [])) (fun _ k_ => XS.ifnullYes X1.here hx rfl (pc0 := 13) (pc' := 36) rfl (hb hby d7_13) rfl (by decide) (by decide) k_) ?_
  refine own_k (T' := T1) (g' := (mkF m 37 #[.val (.ref a1), .val (.int (2 : Int32)), .val (.int (0 : Int32)), .val .null] [(.ref a1)])) (fun _ k_ => XS.aloadN X1.here hx rfl (hb hby d7_36) rfl rfl  k_) ?_
  obtain ⟨T2, X2, e2, st2⟩ := getF X1 hx hZ hown (host := "") (Or.inl (hw _ (List.mem_of_getElem? (i := 15) rfl))) Via.refl e1 h_3 (g := (mkF m 37 #[.val (.ref a1), .val (.int (2 : Int32)), .val (.int (0 : Int32)), .val .null] [(.ref a1)])) rfl rfl (hb hby d7_37)
  refine own_k (T' := T2) (g' := (mkF m 40 #[.val (.ref a1), .val (.int (2 : Int32)), .val (.int (0 : Int32)), .val .null] [(.ref a4)])) st2 ?_
  refine own_k (T' := T2) (g' := (mkF m 41 #[.val (.ref a1), .val (.int (2 : Int32)), .val (.int (0 : Int32)), .val .null] [(.int (0 : Int32)), (.ref a4)])) (fun _ k_ => XS.iloadN X2.here hx rfl (hb hby d7_40) rfl  k_) ?_
  refine own_aaload X2 hx hZ e2 h_4 rfl (j := (0 : Int32)) ⟨by decide, by decide⟩ (v := (.ref a6)) rfl (hb hby d7_41) ?_
  show own_Go p e below Φ T2 (mkF m 42 #[.val (.ref a1), .val (.int (2 : Int32)), .val (.int (0 : Int32)), .val .null] [(.ref a6)])
  refine own_k (T' := T2) (g' := (mkF m 43 #[.val (.ref a1), .val (.int (2 : Int32)), .val (.int (0 : Int32)), .val .null] [(.int (2 : Int32)), (.ref a6)])) (fun _ k_ => XS.iloadN X2.here hx rfl (hb hby d7_42) rfl  k_) ?_
  refine own_k (T' := T2) (g' := (mkF m 46 #[.val (.ref a1), .val (.int (2 : Int32)), .val (.int (0 : Int32)), .val .null] [(.int (16383 : Int32)), (.int (2 : Int32)), (.ref a6)])) (fun _ k_ => XS.sipush X2.here hx rfl (hb hby d7_43) k_) ?_
  refine own_k (T' := T2) (g' := (mkF m 47 #[.val (.ref a1), .val (.int (2 : Int32)), .val (.int (0 : Int32)), .val .null] [(.int ((2 : Int32) &&& (16383 : Int32))), (.ref a6)])) (fun _ k_ => XS.iand X2.here hx rfl (hb hby d7_46) rfl k_) ?_
  rw [show ((2 : Int32) &&& (16383 : Int32)) = (2 : Int32) from by decide]
  refine own_iaload X2 hx hZ e2 h_5 (j := (2 : Int32)) ⟨by decide, by decide⟩ (v := (.int i10)) rfl (hb hby d7_47) ?_
  show own_Go p e below Φ T2 (mkF m 48 #[.val (.ref a1), .val (.int (2 : Int32)), .val (.int (0 : Int32)), .val .null] [(.int i10)])
  exact own_retI X2 hx hret hlk (hb hby d7_48) hF (by rw [e2]; exact ⟨rfl, N0, rfl⟩) (by decide) (by decide)
set_option maxRecDepth 65536 in
set_option maxHeartbeats 40000000 in
theorem rm_widen_16 (l : Launch) (Z : State) (a0 : Array Value)  (hW : own_W Z a0) (a1 : Addr) (a2 : Addr) (q3 : ClassId) (a4 : Addr) (q5 : ClassId) (i6 : Int32) (a7 : Addr) (q8 : ClassId) (i9 : Int32) (a10 : Addr) (q11 : ClassId) (h0 : Heap) (O0 : Old Z Z.heap.size h0) (h_1 : Fld Z h0 a1 "com/example/control_design_check/controldesigncheck/lts/IntBlocks" "narrow" "[[S" (.ref a2)) (h_2 : Arv Z h0 a2 q3 (.array .short) (1 : Int32) [(.ref a4)] .null) (h_3 : Arv Z h0 a4 q5 .short (16 : Int32) [(.int i6), (.int (0 : Int32)), (.int (0 : Int32)), (.int (0 : Int32)), (.int (0 : Int32)), (.int (0 : Int32)), (.int (0 : Int32)), (.int (0 : Int32)), (.int (0 : Int32)), (.int (0 : Int32)), (.int (0 : Int32)), (.int (0 : Int32)), (.int (0 : Int32)), (.int (0 : Int32)), (.int (0 : Int32)), (.int (0 : Int32))] (.int (0 : Int32))) (h_4 : Fld Z h0 a1 "com/example/control_design_check/controldesigncheck/lts/IntBlocks" "bases" "[I" (.ref a7)) (h_5 : Arv Z h0 a7 q8 .int (1 : Int32) [(.int i9)] (.int (0 : Int32))) (h_6 : Fld Z h0 a1 "com/example/control_design_check/controldesigncheck/lts/IntBlocks" "wide" "[[I" (.ref a10)) (h_7 : Arv Z h0 a10 q11 (.array .int) (1 : Int32) [.null] .null) (h_8 : OvrA Z q11 .int "[I") (h_9 : Z.heap.size ≤ a10) (h_10 : a1 ≠ a10) (h_11 : a2 ≠ a10) (h_12 : Z.heap.size ≤ a2) (h_13 : a10 ≠ a2) :
    own_Met l Z (⟨"com/example/control_design_check/controldesigncheck/lts/IntBlocks", "widen", "(II)V"⟩ : MethodName) prog_69_method_8_code 6 none ({ frames := 0, cells := 1, slots := 16, locals := 0 } : Room) #[(.ref a1), (.int (0 : Int32)), (.int (1 : Int32))] h0 (fun v h L => ∃ (b2 : Addr) (k2 : ClassId), v = none ∧ Fr Z.heap.size L ∧ Keep h0 h [a10, a2] ∧ h0.size ≤ b2 ∧ Arv Z h a10 q11 (.array .int) (1 : Int32) [(.ref b2)] .null ∧ Arv Z h a2 q3 (.array .short) (1 : Int32) [.null] .null ∧ Arv Z h b2 k2 .int (16 : Int32) [(.int (i9 + (i6 &&& (65535 : Int32)))), (.int (0 : Int32)), (.int (0 : Int32)), (.int (0 : Int32)), (.int (0 : Int32)), (.int (0 : Int32)), (.int (0 : Int32)), (.int (0 : Int32)), (.int (0 : Int32)), (.int (0 : Int32)), (.int (0 : Int32)), (.int (0 : Int32)), (.int (0 : Int32)), (.int (0 : Int32)), (.int (0 : Int32)), (.int (0 : Int32))] (.int (0 : Int32)) ∧ Exa Z h b2 "[I") := by
  have hw : ∀ d ∈ tables_1, d.before a0 Z = true := hW
  refine own_met (plainFor_of_name pn_com_example_control_design_check_controldesigncheck_lts_IntBlocks) ?_
  intro p e s m below meth cc_ s₁ Φ hF X0 hx hby hml hZ hown hnm hret hlk e0
  have N0 := Fr.nil Z.heap.size
  refine own_k (T' := s₁) (g' := (mkF m 0 #[.val (.ref a1), .val (.int (0 : Int32)), .val (.int (1 : Int32)), .unset, .unset, .unset] [])) (fun _ k_ => castTop (ef_8_RII m a1 (0 : Int32) (1 : Int32)) k_) ?_
  refine own_k (T' := s₁) (g' := (mkF m 1 #[.val (.ref a1), .val (.int (0 : Int32)), .val (.int (1 : Int32)), .unset, .unset, .unset] [(.ref a1)])) (fun _ k_ => XS.aloadN X0.here hx rfl (hb hby d8_0) rfl rfl  k_) ?_
  obtain ⟨T1, X1, e1, st1⟩ := getF X0 hx hZ hown (host := "") (Or.inl (hw _ (List.mem_of_getElem? (i := 11) rfl))) Via.refl e0 h_1 (g := (mkF m 1 #[.val (.ref a1), .val (.int (0 : Int32)), .val (.int (1 : Int32)), .unset, .unset, .unset] [(.ref a1)])) rfl rfl (hb hby d8_1)
  refine own_k (T' := T1) (g' := (mkF m 4 #[.val (.ref a1), .val (.int (0 : Int32)), .val (.int (1 : Int32)), .unset, .unset, .unset] [(.ref a2)])) st1 ?_
  refine own_k (T' := T1) (g' := (mkF m 5 #[.val (.ref a1), .val (.int (0 : Int32)), .val (.int (1 : Int32)), .unset, .unset, .unset] [(.int (0 : Int32)), (.ref a2)])) (fun _ k_ => XS.iloadN X1.here hx rfl (hb hby d8_4) rfl  k_) ?_
  refine own_aaload X1 hx hZ e1 h_2 rfl (j := (0 : Int32)) ⟨by decide, by decide⟩ (v := (.ref a4)) rfl (hb hby d8_5) ?_
  show own_Go p e below Φ T1 (mkF m 6 #[.val (.ref a1), .val (.int (0 : Int32)), .val (.int (1 : Int32)), .unset, .unset, .unset] [(.ref a4)])
  refine own_k (T' := T1) (g' := (mkF m 7 #[.val (.ref a1), .val (.int (0 : Int32)), .val (.int (1 : Int32)), .val (.ref a4), .unset, .unset] [])) (fun _ k_ => XS.astoreN X1.here hx rfl (hb hby d8_6) rfl rfl (l' := #[.val (.ref a1), .val (.int (0 : Int32)), .val (.int (1 : Int32)), .val (.ref a4), .unset, .unset]) rfl k_) ?_
  refine own_k (T' := T1) (g' := (mkF m 8 #[.val (.ref a1), .val (.int (0 : Int32)), .val (.int (1 : Int32)), .val (.ref a4), .unset, .unset] [(.ref a4)])) (fun _ k_ => XS.aloadN X1.here hx rfl (hb hby d8_7) rfl rfl  k_) ?_
  refine own_len X1 hx hZ e1 h_3 (hb hby d8_8) ?_
  show own_Go p e below Φ T1 (mkF m 9 #[.val (.ref a1), .val (.int (0 : Int32)), .val (.int (1 : Int32)), .val (.ref a4), .unset, .unset] [(.int (16 : Int32))])
  obtain ⟨T2, h2, k2, X2, e2, E2, V2, A2, st2⟩ := own_newarr (pc := 9) (Ls := #[.val (.ref a1), .val (.int (0 : Int32)), .val (.int (1 : Int32)), .val (.ref a4), .unset, .unset]) (rest := []) X1 hx hZ (hw _ (List.mem_of_getElem? (i := 17) rfl)) e1 (hb hby d8_9) (n := (16 : Int32)) (by decide) (cap := 16) (by decide) (by decide) (by decide) (by decide) (ad := "[I") (by decide)
  obtain ⟨b2, g2⟩ : ∃ z, z = h0.size := ⟨_, rfl⟩
  rw [← g2] at V2 A2 st2
  have O2' := O0.ext E2
  have V2 : Arv Z h2 b2 k2 .int (16 : Int32) [(.int (0 : Int32)), (.int (0 : Int32)), (.int (0 : Int32)), (.int (0 : Int32)), (.int (0 : Int32)), (.int (0 : Int32)), (.int (0 : Int32)), (.int (0 : Int32)), (.int (0 : Int32)), (.int (0 : Int32)), (.int (0 : Int32)), (.int (0 : Int32)), (.int (0 : Int32)), (.int (0 : Int32)), (.int (0 : Int32)), (.int (0 : Int32))] (.int (0 : Int32)) := V2
  refine own_k (T' := T2) (g' := (mkF m 11 #[.val (.ref a1), .val (.int (0 : Int32)), .val (.int (1 : Int32)), .val (.ref a4), .unset, .unset] [(.ref b2)])) st2 ?_
  refine own_k (T' := T2) (g' := (mkF m 13 #[.val (.ref a1), .val (.int (0 : Int32)), .val (.int (1 : Int32)), .val (.ref a4), .val (.ref b2), .unset] [])) (fun _ k_ => XS.astore X2.here hx rfl (hb hby d8_11) rfl rfl (l' := #[.val (.ref a1), .val (.int (0 : Int32)), .val (.int (1 : Int32)), .val (.ref a4), .val (.ref b2), .unset]) rfl k_) ?_
  refine own_k (T' := T2) (g' := (mkF m 14 #[.val (.ref a1), .val (.int (0 : Int32)), .val (.int (1 : Int32)), .val (.ref a4), .val (.ref b2), .unset] [(.int (0 : Int32))])) (fun _ k_ => XS.iconst X2.here hx rfl (hb hby d8_13) k_) ?_
  refine own_k (T' := T2) (g' := (mkF m 16 #[.val (.ref a1), .val (.int (0 : Int32)), .val (.int (1 : Int32)), .val (.ref a4), .val (.ref b2), .val (.int (0 : Int32))] [])) (fun _ k_ => XS.istore X2.here hx rfl (hb hby d8_14) rfl (l' := #[.val (.ref a1), .val (.int (0 : Int32)), .val (.int (1 : Int32)), .val (.ref a4), .val (.ref b2), .val (.int (0 : Int32))]) rfl k_) ?_
  refine own_k (T' := T2) (g' := (mkF m 18 #[.val (.ref a1), .val (.int (0 : Int32)), .val (.int (1 : Int32)), .val (.ref a4), .val (.ref b2), .val (.int (0 : Int32))] [(.int (0 : Int32))])) (fun _ k_ => XS.iload X2.here hx rfl (hb hby d8_16) rfl  k_) ?_
  refine own_k (T' := T2) (g' := (mkF m 19 #[.val (.ref a1), .val (.int (0 : Int32)), .val (.int (1 : Int32)), .val (.ref a4), .val (.ref b2), .val (.int (0 : Int32))] [(.int (1 : Int32)), (.int (0 : Int32))])) (fun _ k_ => XS.iloadN X2.here hx rfl (hb hby d8_18) rfl  k_) ?_
  refine own_k (T' := T2) (g' := (mkF m 22 #[.val (.ref a1), .val (.int (0 : Int32)), .val (.int (1 : Int32)), .val (.ref a4), .val (.ref b2), .val (.int (0 : Int32))] [])) (fun _ k_ => XS.icmpNo X2.here hx rfl (hb hby d8_19) rfl ((tlt (by decide : ((0 : Int32) < (1 : Int32)))).2.1) k_) ?_
  refine own_k (T' := T2) (g' := (mkF m 24 #[.val (.ref a1), .val (.int (0 : Int32)), .val (.int (1 : Int32)), .val (.ref a4), .val (.ref b2), .val (.int (0 : Int32))] [(.ref b2)])) (fun _ k_ => XS.aload X2.here hx rfl (hb hby d8_22) rfl rfl  k_) ?_
  refine own_k (T' := T2) (g' := (mkF m 26 #[.val (.ref a1), .val (.int (0 : Int32)), .val (.int (1 : Int32)), .val (.ref a4), .val (.ref b2), .val (.int (0 : Int32))] [(.int (0 : Int32)), (.ref b2)])) (fun _ k_ => XS.iload X2.here hx rfl (hb hby d8_24) rfl  k_) ?_
  refine own_k (T' := T2) (g' := (mkF m 27 #[.val (.ref a1), .val (.int (0 : Int32)), .val (.int (1 : Int32)), .val (.ref a4), .val (.ref b2), .val (.int (0 : Int32))] [(.ref a1), (.int (0 : Int32)), (.ref b2)])) (fun _ k_ => XS.aloadN X2.here hx rfl (hb hby d8_26) rfl rfl  k_) ?_
  obtain ⟨T3, X3, e3, st3⟩ := getF X2 hx hZ hown (host := "") (Or.inl (hw _ (List.mem_of_getElem? (i := 18) rfl))) Via.refl e2 (h_4.ext E2) (g := (mkF m 27 #[.val (.ref a1), .val (.int (0 : Int32)), .val (.int (1 : Int32)), .val (.ref a4), .val (.ref b2), .val (.int (0 : Int32))] [(.ref a1), (.int (0 : Int32)), (.ref b2)])) rfl rfl (hb hby d8_27)
  refine own_k (T' := T3) (g' := (mkF m 30 #[.val (.ref a1), .val (.int (0 : Int32)), .val (.int (1 : Int32)), .val (.ref a4), .val (.ref b2), .val (.int (0 : Int32))] [(.ref a7), (.int (0 : Int32)), (.ref b2)])) st3 ?_
  refine own_k (T' := T3) (g' := (mkF m 31 #[.val (.ref a1), .val (.int (0 : Int32)), .val (.int (1 : Int32)), .val (.ref a4), .val (.ref b2), .val (.int (0 : Int32))] [(.int (0 : Int32)), (.ref a7), (.int (0 : Int32)), (.ref b2)])) (fun _ k_ => XS.iloadN X3.here hx rfl (hb hby d8_30) rfl  k_) ?_
  refine own_iaload X3 hx hZ e3 (h_5.ext E2) (j := (0 : Int32)) ⟨by decide, by decide⟩ (v := (.int i9)) rfl (hb hby d8_31) ?_
  show own_Go p e below Φ T3 (mkF m 32 #[.val (.ref a1), .val (.int (0 : Int32)), .val (.int (1 : Int32)), .val (.ref a4), .val (.ref b2), .val (.int (0 : Int32))] [(.int i9), (.int (0 : Int32)), (.ref b2)])
  refine own_k (T' := T3) (g' := (mkF m 33 #[.val (.ref a1), .val (.int (0 : Int32)), .val (.int (1 : Int32)), .val (.ref a4), .val (.ref b2), .val (.int (0 : Int32))] [(.ref a4), (.int i9), (.int (0 : Int32)), (.ref b2)])) (fun _ k_ => XS.aloadN X3.here hx rfl (hb hby d8_32) rfl rfl  k_) ?_
  refine own_k (T' := T3) (g' := (mkF m 35 #[.val (.ref a1), .val (.int (0 : Int32)), .val (.int (1 : Int32)), .val (.ref a4), .val (.ref b2), .val (.int (0 : Int32))] [(.int (0 : Int32)), (.ref a4), (.int i9), (.int (0 : Int32)), (.ref b2)])) (fun _ k_ => XS.iload X3.here hx rfl (hb hby d8_33) rfl  k_) ?_
  refine own_saload X3 hx hZ e3 (h_3.ext E2) (j := (0 : Int32)) ⟨by decide, by decide⟩ (v := (.int i6)) rfl (hb hby d8_35) ?_
  show own_Go p e below Φ T3 (mkF m 36 #[.val (.ref a1), .val (.int (0 : Int32)), .val (.int (1 : Int32)), .val (.ref a4), .val (.ref b2), .val (.int (0 : Int32))] [(.int i6), (.int i9), (.int (0 : Int32)), (.ref b2)])
  refine own_k (T' := T3) (g' := (mkF m 38 #[.val (.ref a1), .val (.int (0 : Int32)), .val (.int (1 : Int32)), .val (.ref a4), .val (.ref b2), .val (.int (0 : Int32))] [(.int (65535 : Int32)), (.int i6), (.int i9), (.int (0 : Int32)), (.ref b2)])) (X3.ldcInt hx hown (mvT hZ (hw _ (List.mem_of_getElem? (i := 48) rfl))) (g := (mkF m 36 #[.val (.ref a1), .val (.int (0 : Int32)), .val (.int (1 : Int32)), .val (.ref a4), .val (.ref b2), .val (.int (0 : Int32))] [(.int i6), (.int i9), (.int (0 : Int32)), (.ref b2)])) rfl (hb hby d8_36)) ?_
  refine own_k (T' := T3) (g' := (mkF m 39 #[.val (.ref a1), .val (.int (0 : Int32)), .val (.int (1 : Int32)), .val (.ref a4), .val (.ref b2), .val (.int (0 : Int32))] [(.int (i6 &&& (65535 : Int32))), (.int i9), (.int (0 : Int32)), (.ref b2)])) (fun _ k_ => XS.iand X3.here hx rfl (hb hby d8_38) rfl k_) ?_
  refine own_k (T' := T3) (g' := (mkF m 40 #[.val (.ref a1), .val (.int (0 : Int32)), .val (.int (1 : Int32)), .val (.ref a4), .val (.ref b2), .val (.int (0 : Int32))] [(.int (i9 + (i6 &&& (65535 : Int32)))), (.int (0 : Int32)), (.ref b2)])) (fun _ k_ => XS.iadd X3.here hx rfl (hb hby d8_39) rfl k_) ?_
  obtain ⟨T4, h4, X4, e4, W4, V4, st4⟩ := own_iastore (pc := 40) (Ls := #[.val (.ref a1), .val (.int (0 : Int32)), .val (.int (1 : Int32)), .val (.ref a4), .val (.ref b2), .val (.int (0 : Int32))]) (rest := []) X3 hx hZ e3 V2 (j := (0 : Int32)) (x := (i9 + (i6 &&& (65535 : Int32)))) ⟨by decide, by decide⟩ 0 rfl (Nat.le_of_ble_eq_true rfl) (hb hby d8_40)
  have V4 : Arv Z h4 b2 k2 .int (16 : Int32) [(.int (i9 + (i6 &&& (65535 : Int32)))), (.int (0 : Int32)), (.int (0 : Int32)), (.int (0 : Int32)), (.int (0 : Int32)), (.int (0 : Int32)), (.int (0 : Int32)), (.int (0 : Int32)), (.int (0 : Int32)), (.int (0 : Int32)), (.int (0 : Int32)), (.int (0 : Int32)), (.int (0 : Int32)), (.int (0 : Int32)), (.int (0 : Int32)), (.int (0 : Int32))] (.int (0 : Int32)) := V4
  have O4' := O2'.wr W4 (Nat.le_trans O0.2.1 (Nat.le_of_eq g2.symm))
  have N4 := Fr.snoc X4 N0 (Nat.le_trans O0.2.1 (Nat.le_of_eq g2.symm))
  refine own_k (T' := T4) (g' := (mkF m 41 #[.val (.ref a1), .val (.int (0 : Int32)), .val (.int (1 : Int32)), .val (.ref a4), .val (.ref b2), .val (.int (0 : Int32))] [])) st4 ?_
  refine own_k (T' := T4) (g' := (mkF m 44 #[.val (.ref a1), .val (.int (0 : Int32)), .val (.int (1 : Int32)), .val (.ref a4), .val (.ref b2), .val (.int ((0 : Int32) + (1 : Int32)))] [])) (fun _ k_ => XS.iinc X4.here hx rfl (hb hby d8_41) rfl (l' := #[.val (.ref a1), .val (.int (0 : Int32)), .val (.int (1 : Int32)), .val (.ref a4), .val (.ref b2), .val (.int ((0 : Int32) + (1 : Int32)))]) rfl k_) ?_
  rw [show ((0 : Int32) + (1 : Int32)) = (1 : Int32) from by decide]
  refine own_k (T' := T4) (g' := (mkF m 16 #[.val (.ref a1), .val (.int (0 : Int32)), .val (.int (1 : Int32)), .val (.ref a4), .val (.ref b2), .val (.int (1 : Int32))] [])) (fun _ k_ => XS.goto X4.here hx rfl (pc0 := 44) (pc' := 16) rfl (hb hby d8_44) (by decide) (by decide) k_) ?_
  refine own_k (T' := T4) (g' := (mkF m 18 #[.val (.ref a1), .val (.int (0 : Int32)), .val (.int (1 : Int32)), .val (.ref a4), .val (.ref b2), .val (.int (1 : Int32))] [(.int (1 : Int32))])) (fun _ k_ => XS.iload X4.here hx rfl (hb hby d8_16) rfl  k_) ?_
  refine own_k (T' := T4) (g' := (mkF m 19 #[.val (.ref a1), .val (.int (0 : Int32)), .val (.int (1 : Int32)), .val (.ref a4), .val (.ref b2), .val (.int (1 : Int32))] [(.int (1 : Int32)), (.int (1 : Int32))])) (fun _ k_ => XS.iloadN X4.here hx rfl (hb hby d8_18) rfl  k_) ?_
  refine own_k (T' := T4) (g' := (mkF m 47 #[.val (.ref a1), .val (.int (0 : Int32)), .val (.int (1 : Int32)), .val (.ref a4), .val (.ref b2), .val (.int (1 : Int32))] [])) (fun _ k_ => XS.icmpYes X4.here hx rfl (pc0 := 19) (pc' := 47) rfl (hb hby d8_19) rfl ((flt (by decide : ¬ ((1 : Int32) < (1 : Int32)))).2.1) (by decide) (by decide) k_) ?_
  refine own_k (T' := T4) (g' := (mkF m 48 #[.val (.ref a1), .val (.int (0 : Int32)), .val (.int (1 : Int32)), .val (.ref a4), .val (.ref b2), .val (.int (1 : Int32))] [(.ref a1)])) (fun _ k_ => XS.aloadN X4.here hx rfl (hb hby d8_47) rfl rfl  k_) ?_
  have f5 := ((h_6.ext E2).other W4 (Or.inl (Nat.ne_of_lt (Nat.lt_of_lt_of_le h_1.lt (Nat.le_of_eq g2.symm)))))
  obtain ⟨T6, X6, e6, st6⟩ := getF X4 hx hZ hown (host := "") (Or.inl (hw _ (List.mem_of_getElem? (i := 15) rfl))) Via.refl e4 f5 (g := (mkF m 48 #[.val (.ref a1), .val (.int (0 : Int32)), .val (.int (1 : Int32)), .val (.ref a4), .val (.ref b2), .val (.int (1 : Int32))] [(.ref a1)])) rfl rfl (hb hby d8_48)
  refine own_k (T' := T6) (g' := (mkF m 51 #[.val (.ref a1), .val (.int (0 : Int32)), .val (.int (1 : Int32)), .val (.ref a4), .val (.ref b2), .val (.int (1 : Int32))] [(.ref a10)])) st6 ?_
  refine own_k (T' := T6) (g' := (mkF m 52 #[.val (.ref a1), .val (.int (0 : Int32)), .val (.int (1 : Int32)), .val (.ref a4), .val (.ref b2), .val (.int (1 : Int32))] [(.int (0 : Int32)), (.ref a10)])) (fun _ k_ => XS.iloadN X6.here hx rfl (hb hby d8_51) rfl  k_) ?_
  refine own_k (T' := T6) (g' := (mkF m 54 #[.val (.ref a1), .val (.int (0 : Int32)), .val (.int (1 : Int32)), .val (.ref a4), .val (.ref b2), .val (.int (1 : Int32))] [(.ref b2), (.int (0 : Int32)), (.ref a10)])) (fun _ k_ => XS.aload X6.here hx rfl (hb hby d8_52) rfl rfl  k_) ?_
  have f8 := ((h_7.ext E2).other W4 (Nat.ne_of_lt (Nat.lt_of_lt_of_le h_7.lt (Nat.le_of_eq g2.symm))))
  obtain ⟨T7, h7, X7, e7, W7, V7, st7⟩ := own_aastore (pc := 54) (Ls := #[.val (.ref a1), .val (.int (0 : Int32)), .val (.int (1 : Int32)), .val (.ref a4), .val (.ref b2), .val (.int (1 : Int32))]) (rest := []) X6 hx hZ e6 f8 rfl (j := (0 : Int32)) (v := (.ref b2)) ⟨by decide, by decide⟩ rfl (fun cl A q => Sto.ofVA A q h_8 (Ins.self (A2.wr W4))) 0 rfl (Nat.le_of_ble_eq_true rfl) (hb hby d8_54)
  have V7 : Arv Z h7 a10 q11 (.array .int) (1 : Int32) [(.ref b2)] .null := V7
  have O7' := O4'.wr W7 h_9
  have N7 := Fr.snoc X7 N4 h_9
  refine own_k (T' := T7) (g' := (mkF m 55 #[.val (.ref a1), .val (.int (0 : Int32)), .val (.int (1 : Int32)), .val (.ref a4), .val (.ref b2), .val (.int (1 : Int32))] [])) st7 ?_
  refine own_k (T' := T7) (g' := (mkF m 56 #[.val (.ref a1), .val (.int (0 : Int32)), .val (.int (1 : Int32)), .val (.ref a4), .val (.ref b2), .val (.int (1 : Int32))] [(.ref a1)])) (fun _ k_ => XS.aloadN X7.here hx rfl (hb hby d8_55) rfl rfl  k_) ?_
  have f9 := (((h_1.ext E2).other W4 (Or.inl (Nat.ne_of_lt (Nat.lt_of_lt_of_le h_1.lt (Nat.le_of_eq g2.symm))))).other W7 (Or.inl h_10))
  obtain ⟨T10, X10, e10, st10⟩ := getF X7 hx hZ hown (host := "") (Or.inl (hw _ (List.mem_of_getElem? (i := 11) rfl))) Via.refl e7 f9 (g := (mkF m 56 #[.val (.ref a1), .val (.int (0 : Int32)), .val (.int (1 : Int32)), .val (.ref a4), .val (.ref b2), .val (.int (1 : Int32))] [(.ref a1)])) rfl rfl (hb hby d8_56)
  refine own_k (T' := T10) (g' := (mkF m 59 #[.val (.ref a1), .val (.int (0 : Int32)), .val (.int (1 : Int32)), .val (.ref a4), .val (.ref b2), .val (.int (1 : Int32))] [(.ref a2)])) st10 ?_
  refine own_k (T' := T10) (g' := (mkF m 60 #[.val (.ref a1), .val (.int (0 : Int32)), .val (.int (1 : Int32)), .val (.ref a4), .val (.ref b2), .val (.int (1 : Int32))] [(.int (0 : Int32)), (.ref a2)])) (fun _ k_ => XS.iloadN X10.here hx rfl (hb hby d8_59) rfl  k_) ?_
  refine own_k (T' := T10) (g' := (mkF m 61 #[.val (.ref a1), .val (.int (0 : Int32)), .val (.int (1 : Int32)), .val (.ref a4), .val (.ref b2), .val (.int (1 : Int32))] [.null, (.int (0 : Int32)), (.ref a2)])) (fun _ k_ => XS.aconstNull X10.here hx rfl (hb hby d8_60) k_) ?_
  have f12 := (((h_2.ext E2).other W4 (Nat.ne_of_lt (Nat.lt_of_lt_of_le h_2.lt (Nat.le_of_eq g2.symm)))).other W7 h_11)
  obtain ⟨T11, h11, X11, e11, W11, V11, st11⟩ := own_aastore (pc := 61) (Ls := #[.val (.ref a1), .val (.int (0 : Int32)), .val (.int (1 : Int32)), .val (.ref a4), .val (.ref b2), .val (.int (1 : Int32))]) (rest := []) X10 hx hZ e10 f12 rfl (j := (0 : Int32)) (v := .null) ⟨by decide, by decide⟩ rfl (fun _ _ _ => Or.inl rfl) 0 rfl (Nat.le_of_ble_eq_true rfl) (hb hby d8_61)
  have V11 : Arv Z h11 a2 q3 (.array .short) (1 : Int32) [.null] .null := V11
  have O11' := O7'.wr W11 h_12
  have N11 := Fr.snoc X11 N7 h_12
  refine own_k (T' := T11) (g' := (mkF m 62 #[.val (.ref a1), .val (.int (0 : Int32)), .val (.int (1 : Int32)), .val (.ref a4), .val (.ref b2), .val (.int (1 : Int32))] [])) st11 ?_
  have kp0 : Keep h0 h0 [a10, a2] := Keep.refl h0 [a10, a2]
  have kp1 : Keep h0 h2 [a10, a2] := kp0.ext E2
  have kp2 : Keep h0 h4 [a10, a2] := kp1.wr W4 (Or.inr (Nat.le_trans kp0.1 (Nat.le_of_eq g2.symm)))
  have kp3 : Keep h0 h7 [a10, a2] := kp2.wr W7 (Or.inl (List.mem_of_getElem? (i := 0) rfl))
  have kp4 : Keep h0 h11 [a10, a2] := kp3.wr W11 (Or.inl (List.mem_of_getElem? (i := 1) rfl))
  have f13 := ((V4.other W7 (Ne.symm (Nat.ne_of_lt (Nat.lt_of_lt_of_le h_7.lt (Nat.le_of_eq g2.symm))))).other W11 (Ne.symm (Nat.ne_of_lt (Nat.lt_of_lt_of_le h_2.lt (Nat.le_of_eq g2.symm)))))
  exact own_ret0 X11 hx hret hlk (hb hby d8_62) hF (by rw [e11]; exact ⟨b2, k2, rfl, N11, kp4, (Nat.le_trans kp0.1 (Nat.le_of_eq g2.symm)), (V7.other W11 h_13), V11, f13, (((A2.wr W4).wr W7).wr W11)⟩) (by decide) (by decide)
set_option maxRecDepth 65536 in
set_option maxHeartbeats 40000000 in
theorem rm_add_17 (l : Launch) (Z : State) (a0 : Array Value)  (hW : own_W Z a0) (a1 : Addr) (i2 : Int32) (a3 : Addr) (q4 : ClassId) (a5 : Addr) (q6 : ClassId) (i7 : Int32) (a8 : Addr) (q9 : ClassId) (i10 : Int32) (a11 : Addr) (q12 : ClassId) (h0 : Heap) (O0 : Old Z Z.heap.size h0) (h_1 : Fld Z h0 a1 "com/example/control_design_check/controldesigncheck/lts/IntBlocks" "size" "I" (.int (1 : Int32))) (h_2 : Fld Z h0 a1 "com/example/control_design_check/controldesigncheck/lts/IntBlocks" "narrow" "[[S" (.ref a3)) (h_3 : Arv Z h0 a3 q4 (.array .short) (1 : Int32) [(.ref a5)] .null) (h_4 : Arv Z h0 a5 q6 .short (16 : Int32) [(.int i7), (.int (0 : Int32)), (.int (0 : Int32)), (.int (0 : Int32)), (.int (0 : Int32)), (.int (0 : Int32)), (.int (0 : Int32)), (.int (0 : Int32)), (.int (0 : Int32)), (.int (0 : Int32)), (.int (0 : Int32)), (.int (0 : Int32)), (.int (0 : Int32)), (.int (0 : Int32)), (.int (0 : Int32)), (.int (0 : Int32))] (.int (0 : Int32))) (h_5 : Exa Z h0 a1 "com/example/control_design_check/controldesigncheck/lts/IntBlocks") (h_6 : Fld Z h0 a1 "com/example/control_design_check/controldesigncheck/lts/IntBlocks" "bases" "[I" (.ref a8)) (h_7 : Arv Z h0 a8 q9 .int (1 : Int32) [(.int i10)] (.int (0 : Int32))) (h_8 : ¬ ((((i2 - i10).toUInt32 >>> ((16 : Int32) &&& 31).toUInt32).toInt32) = (0 : Int32))) (h_9 : Fld Z h0 a1 "com/example/control_design_check/controldesigncheck/lts/IntBlocks" "wide" "[[I" (.ref a11)) (h_10 : Arv Z h0 a11 q12 (.array .int) (1 : Int32) [.null] .null) (h_11 : OvrA Z q12 .int "[I") (h_12 : Z.heap.size ≤ a11) (h_13 : a1 ≠ a11) (h_14 : a3 ≠ a11) (h_15 : Z.heap.size ≤ a3) (h_16 : a11 ≠ a3) (h_17 : a1 ≠ a3) (h_18 : Z.heap.size ≤ a1) (h_19 : a11 ≠ a1) (h_20 : Exa Z h0 a11 "[[I") (h_21 : a3 ≠ a1) (h_22 : Exa Z h0 a3 "[[S") :
    own_Met l Z (⟨"com/example/control_design_check/controldesigncheck/lts/IntBlocks", "add", "(I)V"⟩ : MethodName) prog_69_method_4_code 5 none ({ frames := 1, cells := 1, slots := 16, locals := 17 } : Room) #[(.ref a1), (.int i2)] h0 (fun v h L => ∃ (b6_0 : Addr) (k6_1 : ClassId), v = none ∧ Fr Z.heap.size L ∧ Keep h0 h [a11, a3, a1] ∧ h0.size ≤ b6_0 ∧ Arv Z h a11 q12 (.array .int) (1 : Int32) [(.ref b6_0)] .null ∧ Exa Z h a11 "[[I" ∧ Arv Z h a3 q4 (.array .short) (1 : Int32) [.null] .null ∧ Exa Z h a3 "[[S" ∧ Fld Z h a1 "com/example/control_design_check/controldesigncheck/lts/IntBlocks" "size" "I" (.int (2 : Int32)) ∧ Fld Z h a1 "com/example/control_design_check/controldesigncheck/lts/IntBlocks" "narrow" "[[S" (.ref a3) ∧ Exa Z h a1 "com/example/control_design_check/controldesigncheck/lts/IntBlocks" ∧ Fld Z h a1 "com/example/control_design_check/controldesigncheck/lts/IntBlocks" "bases" "[I" (.ref a8) ∧ Fld Z h a1 "com/example/control_design_check/controldesigncheck/lts/IntBlocks" "wide" "[[I" (.ref a11) ∧ Arv Z h b6_0 k6_1 .int (16 : Int32) [(.int (i10 + (i7 &&& (65535 : Int32)))), (.int i2), (.int (0 : Int32)), (.int (0 : Int32)), (.int (0 : Int32)), (.int (0 : Int32)), (.int (0 : Int32)), (.int (0 : Int32)), (.int (0 : Int32)), (.int (0 : Int32)), (.int (0 : Int32)), (.int (0 : Int32)), (.int (0 : Int32)), (.int (0 : Int32)), (.int (0 : Int32)), (.int (0 : Int32))] (.int (0 : Int32)) ∧ Exa Z h b6_0 "[I") := by
  have hw : ∀ d ∈ tables_1, d.before a0 Z = true := hW
  refine own_met (plainFor_of_name pn_com_example_control_design_check_controldesigncheck_lts_IntBlocks) ?_
  intro p e s m below meth cc_ s₁ Φ hF X0 hx hby hml hZ hown hnm hret hlk e0
  have N0 := Fr.nil Z.heap.size
  refine own_k (T' := s₁) (g' := (mkF m 0 #[.val (.ref a1), .val (.int i2), .unset, .unset, .unset] [])) (fun _ k_ => castTop (ef_3_RI m a1 i2) k_) ?_
  refine own_k (T' := s₁) (g' := (mkF m 1 #[.val (.ref a1), .val (.int i2), .unset, .unset, .unset] [(.ref a1)])) (fun _ k_ => XS.aloadN X0.here hx rfl (hb hby d3_0) rfl rfl  k_) ?_
  obtain ⟨T1, X1, e1, st1⟩ := getF X0 hx hZ hown (host := "") (Or.inl (hw _ (List.mem_of_getElem? (i := 25) rfl))) Via.refl e0 h_1 (g := (mkF m 1 #[.val (.ref a1), .val (.int i2), .unset, .unset, .unset] [(.ref a1)])) rfl rfl (hb hby d3_1)
  refine own_k (T' := T1) (g' := (mkF m 4 #[.val (.ref a1), .val (.int i2), .unset, .unset, .unset] [(.int (1 : Int32))])) st1 ?_
  refine own_k (T' := T1) (g' := (mkF m 6 #[.val (.ref a1), .val (.int i2), .unset, .unset, .unset] [(.int (14 : Int32)), (.int (1 : Int32))])) (fun _ k_ => XS.bipush X1.here hx rfl (hb hby d3_4) k_) ?_
  refine own_k (T' := T1) (g' := (mkF m 7 #[.val (.ref a1), .val (.int i2), .unset, .unset, .unset] [(.int (((1 : Int32).toUInt32 >>> ((14 : Int32) &&& 31).toUInt32).toInt32))])) (fun _ k_ => XS.iushr X1.here hx rfl (hb hby d3_6) rfl k_) ?_
  rw [show (((1 : Int32).toUInt32 >>> ((14 : Int32) &&& 31).toUInt32).toInt32) = (0 : Int32) from by decide]
  refine own_k (T' := T1) (g' := (mkF m 8 #[.val (.ref a1), .val (.int i2), .val (.int (0 : Int32)), .unset, .unset] [])) (fun _ k_ => XS.istoreN X1.here hx rfl (hb hby d3_7) rfl (l' := #[.val (.ref a1), .val (.int i2), .val (.int (0 : Int32)), .unset, .unset]) rfl k_) ?_
  refine own_k (T' := T1) (g' := (mkF m 9 #[.val (.ref a1), .val (.int i2), .val (.int (0 : Int32)), .unset, .unset] [(.ref a1)])) (fun _ k_ => XS.aloadN X1.here hx rfl (hb hby d3_8) rfl rfl  k_) ?_
  obtain ⟨T2, X2, e2, st2⟩ := getF X1 hx hZ hown (host := "") (Or.inl (hw _ (List.mem_of_getElem? (i := 25) rfl))) Via.refl e1 h_1 (g := (mkF m 9 #[.val (.ref a1), .val (.int i2), .val (.int (0 : Int32)), .unset, .unset] [(.ref a1)])) rfl rfl (hb hby d3_9)
  refine own_k (T' := T2) (g' := (mkF m 12 #[.val (.ref a1), .val (.int i2), .val (.int (0 : Int32)), .unset, .unset] [(.int (1 : Int32))])) st2 ?_
  refine own_k (T' := T2) (g' := (mkF m 15 #[.val (.ref a1), .val (.int i2), .val (.int (0 : Int32)), .unset, .unset] [(.int (16383 : Int32)), (.int (1 : Int32))])) (fun _ k_ => XS.sipush X2.here hx rfl (hb hby d3_12) k_) ?_
  refine own_k (T' := T2) (g' := (mkF m 16 #[.val (.ref a1), .val (.int i2), .val (.int (0 : Int32)), .unset, .unset] [(.int ((1 : Int32) &&& (16383 : Int32)))])) (fun _ k_ => XS.iand X2.here hx rfl (hb hby d3_15) rfl k_) ?_
  rw [show ((1 : Int32) &&& (16383 : Int32)) = (1 : Int32) from by decide]
  refine own_k (T' := T2) (g' := (mkF m 17 #[.val (.ref a1), .val (.int i2), .val (.int (0 : Int32)), .val (.int (1 : Int32)), .unset] [])) (fun _ k_ => XS.istoreN X2.here hx rfl (hb hby d3_16) rfl (l' := #[.val (.ref a1), .val (.int i2), .val (.int (0 : Int32)), .val (.int (1 : Int32)), .unset]) rfl k_) ?_
  refine own_k (T' := T2) (g' := (mkF m 18 #[.val (.ref a1), .val (.int i2), .val (.int (0 : Int32)), .val (.int (1 : Int32)), .unset] [(.int (1 : Int32))])) (fun _ k_ => XS.iloadN X2.here hx rfl (hb hby d3_17) rfl  k_) ?_
  refine own_k (T' := T2) (g' := (mkF m 30 #[.val (.ref a1), .val (.int i2), .val (.int (0 : Int32)), .val (.int (1 : Int32)), .unset] [])) (fun _ k_ => XS.ifYes X2.here hx rfl (pc0 := 18) (pc' := 30) rfl (hb hby d3_18) rfl ((if0 _ _).trans (feq (by decide : ¬ ((1 : Int32) = (0 : Int32)))).2) (by decide) (by decide) k_) ?_
  refine own_k (T' := T2) (g' := (mkF m 31 #[.val (.ref a1), .val (.int i2), .val (.int (0 : Int32)), .val (.int (1 : Int32)), .unset] [(.int (1 : Int32))])) (fun _ k_ => XS.iloadN X2.here hx rfl (hb hby d3_30) rfl  k_) ?_
  refine own_k (T' := T2) (g' := (mkF m 32 #[.val (.ref a1), .val (.int i2), .val (.int (0 : Int32)), .val (.int (1 : Int32)), .unset] [(.ref a1), (.int (1 : Int32))])) (fun _ k_ => XS.aloadN X2.here hx rfl (hb hby d3_31) rfl rfl  k_) ?_
  refine own_k (T' := T2) (g' := (mkF m 33 #[.val (.ref a1), .val (.int i2), .val (.int (0 : Int32)), .val (.int (1 : Int32)), .unset] [(.int (0 : Int32)), (.ref a1), (.int (1 : Int32))])) (fun _ k_ => XS.iloadN X2.here hx rfl (hb hby d3_32) rfl  k_) ?_
  refine own_callP X2 hx hZ (y := (⟨"com/example/control_design_check/controldesigncheck/lts/IntBlocks", "capacity", "(I)I"⟩ : MethodName)) hown (hw _ (List.mem_of_getElem? (i := 34) rfl)) (hw _ (List.mem_of_getElem? (i := 35) rfl)) (hw _ (List.mem_of_getElem? (i := 36) rfl)) (hw _ (List.mem_of_getElem? (i := 37) rfl)) (hw _ (List.mem_of_getElem? (i := 2) rfl)) (hw _ (List.mem_of_getElem? (i := 1) rfl)) (by decide) (al := [(.int (0 : Int32))]) h_5 (rm_capacity_3 l Z a0 hW a1 a3 q4 a5 q6 i7 h0 O0 h_2 h_3 h_4) 1 (by decide) (by decide) e2 (by decide) (by decide) (by rw [hml]; rfl) (lenOf pd__28I_29I rfl) rfl (rest := [(.int (1 : Int32))]) (by show 2 * 0 + _ ≤ _; exact Nat.le_of_eq rfl) (hb hby d3_33) ?_
  intro v3 T3 L3 X3 hQ3
  obtain ⟨rfl, Nq3, e3⟩ := hQ3
  have N3 := Fr.app N0 Nq3
  show own_Go p e below Φ T3 (mkF m 36 #[.val (.ref a1), .val (.int i2), .val (.int (0 : Int32)), .val (.int (1 : Int32)), .unset] [(.int (16 : Int32)), (.int (1 : Int32))])
  refine own_k (T' := T3) (g' := (mkF m 45 #[.val (.ref a1), .val (.int i2), .val (.int (0 : Int32)), .val (.int (1 : Int32)), .unset] [])) (fun _ k_ => XS.icmpYes X3.here hx rfl (pc0 := 36) (pc' := 45) rfl (hb hby d3_36) rfl ((feq (by decide : ¬ ((1 : Int32) = (16 : Int32)))).2) (by decide) (by decide) k_) ?_
  refine own_k (T' := T3) (g' := (mkF m 46 #[.val (.ref a1), .val (.int i2), .val (.int (0 : Int32)), .val (.int (1 : Int32)), .unset] [(.int i2)])) (fun _ k_ => XS.iloadN X3.here hx rfl (hb hby d3_45) rfl  k_) ?_
  refine own_k (T' := T3) (g' := (mkF m 47 #[.val (.ref a1), .val (.int i2), .val (.int (0 : Int32)), .val (.int (1 : Int32)), .unset] [(.ref a1), (.int i2)])) (fun _ k_ => XS.aloadN X3.here hx rfl (hb hby d3_46) rfl rfl  k_) ?_
  obtain ⟨T4, X4, e4, st4⟩ := getF X3 hx hZ hown (host := "") (Or.inl (hw _ (List.mem_of_getElem? (i := 18) rfl))) Via.refl e3 h_6 (g := (mkF m 47 #[.val (.ref a1), .val (.int i2), .val (.int (0 : Int32)), .val (.int (1 : Int32)), .unset] [(.ref a1), (.int i2)])) rfl rfl (hb hby d3_47)
  refine own_k (T' := T4) (g' := (mkF m 50 #[.val (.ref a1), .val (.int i2), .val (.int (0 : Int32)), .val (.int (1 : Int32)), .unset] [(.ref a8), (.int i2)])) st4 ?_
  refine own_k (T' := T4) (g' := (mkF m 51 #[.val (.ref a1), .val (.int i2), .val (.int (0 : Int32)), .val (.int (1 : Int32)), .unset] [(.int (0 : Int32)), (.ref a8), (.int i2)])) (fun _ k_ => XS.iloadN X4.here hx rfl (hb hby d3_50) rfl  k_) ?_
  refine own_iaload X4 hx hZ e4 h_7 (j := (0 : Int32)) ⟨by decide, by decide⟩ (v := (.int i10)) rfl (hb hby d3_51) ?_
  show own_Go p e below Φ T4 (mkF m 52 #[.val (.ref a1), .val (.int i2), .val (.int (0 : Int32)), .val (.int (1 : Int32)), .unset] [(.int i10), (.int i2)])
  refine own_k (T' := T4) (g' := (mkF m 53 #[.val (.ref a1), .val (.int i2), .val (.int (0 : Int32)), .val (.int (1 : Int32)), .unset] [(.int (i2 - i10))])) (fun _ k_ => XS.isub X4.here hx rfl (hb hby d3_52) rfl k_) ?_
  refine own_k (T' := T4) (g' := (mkF m 55 #[.val (.ref a1), .val (.int i2), .val (.int (0 : Int32)), .val (.int (1 : Int32)), .val (.int (i2 - i10))] [])) (fun _ k_ => XS.istore X4.here hx rfl (hb hby d3_53) rfl (l' := #[.val (.ref a1), .val (.int i2), .val (.int (0 : Int32)), .val (.int (1 : Int32)), .val (.int (i2 - i10))]) rfl k_) ?_
  refine own_k (T' := T4) (g' := (mkF m 56 #[.val (.ref a1), .val (.int i2), .val (.int (0 : Int32)), .val (.int (1 : Int32)), .val (.int (i2 - i10))] [(.ref a1)])) (fun _ k_ => XS.aloadN X4.here hx rfl (hb hby d3_55) rfl rfl  k_) ?_
  obtain ⟨T5, X5, e5, st5⟩ := getF X4 hx hZ hown (host := "") (Or.inl (hw _ (List.mem_of_getElem? (i := 11) rfl))) Via.refl e4 h_2 (g := (mkF m 56 #[.val (.ref a1), .val (.int i2), .val (.int (0 : Int32)), .val (.int (1 : Int32)), .val (.int (i2 - i10))] [(.ref a1)])) rfl rfl (hb hby d3_56)
  refine own_k (T' := T5) (g' := (mkF m 59 #[.val (.ref a1), .val (.int i2), .val (.int (0 : Int32)), .val (.int (1 : Int32)), .val (.int (i2 - i10))] [(.ref a3)])) st5 ?_
  refine own_k (T' := T5) (g' := (mkF m 60 #[.val (.ref a1), .val (.int i2), .val (.int (0 : Int32)), .val (.int (1 : Int32)), .val (.int (i2 - i10))] [(.int (0 : Int32)), (.ref a3)])) (fun _ k_ => XS.iloadN X5.here hx rfl (hb hby d3_59) rfl  k_) ?_
  refine own_aaload X5 hx hZ e5 h_3 rfl (j := (0 : Int32)) ⟨by decide, by decide⟩ (v := (.ref a5)) rfl (hb hby d3_60) ?_
  show own_Go p e below Φ T5 (mkF m 61 #[.val (.ref a1), .val (.int i2), .val (.int (0 : Int32)), .val (.int (1 : Int32)), .val (.int (i2 - i10))] [(.ref a5)])
  refine own_k (T' := T5) (g' := (mkF m 64 #[.val (.ref a1), .val (.int i2), .val (.int (0 : Int32)), .val (.int (1 : Int32)), .val (.int (i2 - i10))] [])) (fun _ k_ => XS.ifnullNo X5.here hx rfl (hb hby d3_61) rfl k_) ?_
  refine own_k (T' := T5) (g' := (mkF m 66 #[.val (.ref a1), .val (.int i2), .val (.int (0 : Int32)), .val (.int (1 : Int32)), .val (.int (i2 - i10))] [(.int (i2 - i10))])) (fun _ k_ => XS.iload X5.here hx rfl (hb hby d3_64) rfl  k_) ?_
  refine own_k (T' := T5) (g' := (mkF m 68 #[.val (.ref a1), .val (.int i2), .val (.int (0 : Int32)), .val (.int (1 : Int32)), .val (.int (i2 - i10))] [(.int (16 : Int32)), (.int (i2 - i10))])) (fun _ k_ => XS.bipush X5.here hx rfl (hb hby d3_66) k_) ?_
  refine own_k (T' := T5) (g' := (mkF m 69 #[.val (.ref a1), .val (.int i2), .val (.int (0 : Int32)), .val (.int (1 : Int32)), .val (.int (i2 - i10))] [(.int (((i2 - i10).toUInt32 >>> ((16 : Int32) &&& 31).toUInt32).toInt32))])) (fun _ k_ => XS.iushr X5.here hx rfl (hb hby d3_68) rfl k_) ?_
  refine own_k (T' := T5) (g' := (mkF m 72 #[.val (.ref a1), .val (.int i2), .val (.int (0 : Int32)), .val (.int (1 : Int32)), .val (.int (i2 - i10))] [])) (fun _ k_ => XS.ifNo X5.here hx rfl (hb hby d3_69) rfl ((if0 _ _).trans (feq h_8).1) k_) ?_
  refine own_k (T' := T5) (g' := (mkF m 73 #[.val (.ref a1), .val (.int i2), .val (.int (0 : Int32)), .val (.int (1 : Int32)), .val (.int (i2 - i10))] [(.ref a1)])) (fun _ k_ => XS.aloadN X5.here hx rfl (hb hby d3_72) rfl rfl  k_) ?_
  refine own_k (T' := T5) (g' := (mkF m 74 #[.val (.ref a1), .val (.int i2), .val (.int (0 : Int32)), .val (.int (1 : Int32)), .val (.int (i2 - i10))] [(.int (0 : Int32)), (.ref a1)])) (fun _ k_ => XS.iloadN X5.here hx rfl (hb hby d3_73) rfl  k_) ?_
  refine own_k (T' := T5) (g' := (mkF m 75 #[.val (.ref a1), .val (.int i2), .val (.int (0 : Int32)), .val (.int (1 : Int32)), .val (.int (i2 - i10))] [(.int (1 : Int32)), (.int (0 : Int32)), (.ref a1)])) (fun _ k_ => XS.iloadN X5.here hx rfl (hb hby d3_74) rfl  k_) ?_
  refine own_callP X5 hx hZ (y := (⟨"com/example/control_design_check/controldesigncheck/lts/IntBlocks", "widen", "(II)V"⟩ : MethodName)) hown (hw _ (List.mem_of_getElem? (i := 49) rfl)) (hw _ (List.mem_of_getElem? (i := 50) rfl)) (hw _ (List.mem_of_getElem? (i := 51) rfl)) (hw _ (List.mem_of_getElem? (i := 52) rfl)) (hw _ (List.mem_of_getElem? (i := 2) rfl)) (hw _ (List.mem_of_getElem? (i := 1) rfl)) (by decide) (al := [(.int (0 : Int32)), (.int (1 : Int32))]) h_5 (rm_widen_16 l Z a0 hW a1 a3 q4 a5 q6 i7 a8 q9 i10 a11 q12 h0 O0 h_2 h_3 h_4 h_6 h_7 h_9 h_10 h_11 h_12 h_13 h_14 h_15 h_16) 0 (by decide) (by decide) e5 (by decide) (by decide) (by rw [hml]; rfl) (lenOf pd__28II_29V rfl) rfl (rest := []) (by show 2 * 0 + _ ≤ _; exact Nat.le_of_eq rfl) (hb hby d3_75) ?_
  intro v6 T6 L6 X6 hQ6
  obtain ⟨b6_0, k6_1, rfl, Nq6, K6, ge6_0, q6_0, q6_1, q6_2, q6_3⟩ := hQ6
  have N6 := Fr.app N3 Nq6
  have O6' := O0.keep K6 (allS h_12 (allS h_15 all0))
  show own_Go p e below Φ T6 (mkF m 78 #[.val (.ref a1), .val (.int i2), .val (.int (0 : Int32)), .val (.int (1 : Int32)), .val (.int (i2 - i10))] [])
  refine own_k (T' := T6) (g' := (mkF m 79 #[.val (.ref a1), .val (.int i2), .val (.int (0 : Int32)), .val (.int (1 : Int32)), .val (.int (i2 - i10))] [(.ref a1)])) (fun _ k_ => XS.aloadN X6.here hx rfl (hb hby d3_78) rfl rfl  k_) ?_
  obtain ⟨T7, X7, e7, st7⟩ := getF X6 hx hZ hown (host := "") (Or.inl (hw _ (List.mem_of_getElem? (i := 11) rfl))) Via.refl rfl (h_2.keep K6 (ninS h_13 (ninS h_17 nin0))) (g := (mkF m 79 #[.val (.ref a1), .val (.int i2), .val (.int (0 : Int32)), .val (.int (1 : Int32)), .val (.int (i2 - i10))] [(.ref a1)])) rfl rfl (hb hby d3_79)
  refine own_k (T' := T7) (g' := (mkF m 82 #[.val (.ref a1), .val (.int i2), .val (.int (0 : Int32)), .val (.int (1 : Int32)), .val (.int (i2 - i10))] [(.ref a3)])) st7 ?_
  refine own_k (T' := T7) (g' := (mkF m 83 #[.val (.ref a1), .val (.int i2), .val (.int (0 : Int32)), .val (.int (1 : Int32)), .val (.int (i2 - i10))] [(.int (0 : Int32)), (.ref a3)])) (fun _ k_ => XS.iloadN X7.here hx rfl (hb hby d3_82) rfl  k_) ?_
  refine own_aaload X7 hx hZ e7 q6_1 rfl (j := (0 : Int32)) ⟨by decide, by decide⟩ (v := .null) rfl (hb hby d3_83) ?_
  show own_Go p e below Φ T7 (mkF m 84 #[.val (.ref a1), .val (.int i2), .val (.int (0 : Int32)), .val (.int (1 : Int32)), .val (.int (i2 - i10))] [.null])
  refine own_k (T' := T7) (g' := (mkF m 101 #[.val (.ref a1), .val (.int i2), .val (.int (0 : Int32)), .val (.int (1 : Int32)), .val (.int (i2 - i10))] [])) (fun _ k_ => XS.ifnullYes X7.here hx rfl (pc0 := 84) (pc' := 101) rfl (hb hby d3_84) rfl (by decide) (by decide) k_) ?_
  refine own_k (T' := T7) (g' := (mkF m 102 #[.val (.ref a1), .val (.int i2), .val (.int (0 : Int32)), .val (.int (1 : Int32)), .val (.int (i2 - i10))] [(.ref a1)])) (fun _ k_ => XS.aloadN X7.here hx rfl (hb hby d3_101) rfl rfl  k_) ?_
  obtain ⟨T8, X8, e8, st8⟩ := getF X7 hx hZ hown (host := "") (Or.inl (hw _ (List.mem_of_getElem? (i := 15) rfl))) Via.refl e7 (h_9.keep K6 (ninS h_13 (ninS h_17 nin0))) (g := (mkF m 102 #[.val (.ref a1), .val (.int i2), .val (.int (0 : Int32)), .val (.int (1 : Int32)), .val (.int (i2 - i10))] [(.ref a1)])) rfl rfl (hb hby d3_102)
  refine own_k (T' := T8) (g' := (mkF m 105 #[.val (.ref a1), .val (.int i2), .val (.int (0 : Int32)), .val (.int (1 : Int32)), .val (.int (i2 - i10))] [(.ref a11)])) st8 ?_
  refine own_k (T' := T8) (g' := (mkF m 106 #[.val (.ref a1), .val (.int i2), .val (.int (0 : Int32)), .val (.int (1 : Int32)), .val (.int (i2 - i10))] [(.int (0 : Int32)), (.ref a11)])) (fun _ k_ => XS.iloadN X8.here hx rfl (hb hby d3_105) rfl  k_) ?_
  refine own_aaload X8 hx hZ e8 q6_0 rfl (j := (0 : Int32)) ⟨by decide, by decide⟩ (v := (.ref b6_0)) rfl (hb hby d3_106) ?_
  show own_Go p e below Φ T8 (mkF m 107 #[.val (.ref a1), .val (.int i2), .val (.int (0 : Int32)), .val (.int (1 : Int32)), .val (.int (i2 - i10))] [(.ref b6_0)])
  refine own_k (T' := T8) (g' := (mkF m 108 #[.val (.ref a1), .val (.int i2), .val (.int (0 : Int32)), .val (.int (1 : Int32)), .val (.int (i2 - i10))] [(.int (1 : Int32)), (.ref b6_0)])) (fun _ k_ => XS.iloadN X8.here hx rfl (hb hby d3_107) rfl  k_) ?_
  refine own_k (T' := T8) (g' := (mkF m 109 #[.val (.ref a1), .val (.int i2), .val (.int (0 : Int32)), .val (.int (1 : Int32)), .val (.int (i2 - i10))] [(.int i2), (.int (1 : Int32)), (.ref b6_0)])) (fun _ k_ => XS.iloadN X8.here hx rfl (hb hby d3_108) rfl  k_) ?_
  obtain ⟨T9, h9, X9, e9, W9, V9, st9⟩ := own_iastore (pc := 109) (Ls := #[.val (.ref a1), .val (.int i2), .val (.int (0 : Int32)), .val (.int (1 : Int32)), .val (.int (i2 - i10))]) (rest := []) X8 hx hZ e8 q6_2 (j := (1 : Int32)) (x := i2) ⟨by decide, by decide⟩ 1 rfl (Nat.le_of_ble_eq_true rfl) (hb hby d3_109)
  have V9 : Arv Z h9 b6_0 k6_1 .int (16 : Int32) [(.int (i10 + (i7 &&& (65535 : Int32)))), (.int i2), (.int (0 : Int32)), (.int (0 : Int32)), (.int (0 : Int32)), (.int (0 : Int32)), (.int (0 : Int32)), (.int (0 : Int32)), (.int (0 : Int32)), (.int (0 : Int32)), (.int (0 : Int32)), (.int (0 : Int32)), (.int (0 : Int32)), (.int (0 : Int32)), (.int (0 : Int32)), (.int (0 : Int32))] (.int (0 : Int32)) := V9
  have O9' := O6'.wr W9 (Nat.le_trans O0.2.1 ge6_0)
  have N9 := Fr.snoc X9 N6 (Nat.le_trans O0.2.1 ge6_0)
  refine own_k (T' := T9) (g' := (mkF m 110 #[.val (.ref a1), .val (.int i2), .val (.int (0 : Int32)), .val (.int (1 : Int32)), .val (.int (i2 - i10))] [])) st9 ?_
  refine own_k (T' := T9) (g' := (mkF m 111 #[.val (.ref a1), .val (.int i2), .val (.int (0 : Int32)), .val (.int (1 : Int32)), .val (.int (i2 - i10))] [(.ref a1)])) (fun _ k_ => XS.aloadN X9.here hx rfl (hb hby d3_110) rfl rfl  k_) ?_
  refine own_k (T' := T9) (g' := (mkF m 112 #[.val (.ref a1), .val (.int i2), .val (.int (0 : Int32)), .val (.int (1 : Int32)), .val (.int (i2 - i10))] [(.ref a1), (.ref a1)])) (fun _ k_ => XS.dup X9.here hx rfl (hb hby d3_111) rfl rfl k_) ?_
  have f10 := ((h_1.keep K6 (ninS h_13 (ninS h_17 nin0))).other W9 (Or.inl (Nat.ne_of_lt (Nat.lt_of_lt_of_le h_1.lt ge6_0))))
  obtain ⟨T11, X11, e11, st11⟩ := getF X9 hx hZ hown (host := "") (Or.inl (hw _ (List.mem_of_getElem? (i := 25) rfl))) Via.refl e9 f10 (g := (mkF m 112 #[.val (.ref a1), .val (.int i2), .val (.int (0 : Int32)), .val (.int (1 : Int32)), .val (.int (i2 - i10))] [(.ref a1), (.ref a1)])) rfl rfl (hb hby d3_112)
  refine own_k (T' := T11) (g' := (mkF m 115 #[.val (.ref a1), .val (.int i2), .val (.int (0 : Int32)), .val (.int (1 : Int32)), .val (.int (i2 - i10))] [(.int (1 : Int32)), (.ref a1)])) st11 ?_
  refine own_k (T' := T11) (g' := (mkF m 116 #[.val (.ref a1), .val (.int i2), .val (.int (0 : Int32)), .val (.int (1 : Int32)), .val (.int (i2 - i10))] [(.int (1 : Int32)), (.int (1 : Int32)), (.ref a1)])) (fun _ k_ => XS.iconst X11.here hx rfl (hb hby d3_115) k_) ?_
  refine own_k (T' := T11) (g' := (mkF m 117 #[.val (.ref a1), .val (.int i2), .val (.int (0 : Int32)), .val (.int (1 : Int32)), .val (.int (i2 - i10))] [(.int ((1 : Int32) + (1 : Int32))), (.ref a1)])) (fun _ k_ => XS.iadd X11.here hx rfl (hb hby d3_116) rfl k_) ?_
  rw [show ((1 : Int32) + (1 : Int32)) = (2 : Int32) from by decide]
  obtain ⟨T12, h12, X12, e12, W12, st12⟩ := putF X11 hx hZ hown (host := "") (Or.inl (hw _ (List.mem_of_getElem? (i := 25) rfl))) Via.refl e11 f10 ((h_5.keep K6).wr W9) (Or.inl (hw _ (List.mem_of_getElem? (i := 26) rfl))) (hw _ (List.mem_of_getElem? (i := 1) rfl)) (ty := .int) (by decide) rfl rfl (g := (mkF m 117 #[.val (.ref a1), .val (.int i2), .val (.int (0 : Int32)), .val (.int (1 : Int32)), .val (.int (i2 - i10))] [(.int (2 : Int32)), (.ref a1)])) rfl rfl (hb hby d3_117)
  have w12 := Fld.same W12 f10
  have O12' := O9'.wr W12 h_18
  have N12 := Fr.snoc X12 N9 h_18
  refine own_k (T' := T12) (g' := (mkF m 120 #[.val (.ref a1), .val (.int i2), .val (.int (0 : Int32)), .val (.int (1 : Int32)), .val (.int (i2 - i10))] [])) st12 ?_
  have kp0 : Keep h0 h0 [a11, a3, a1] := Keep.refl h0 [a11, a3, a1]
  have kp1 : Keep h0 T6.heap [a11, a3, a1] := kp0.trans K6 (allS (Or.inl (List.mem_of_getElem? (i := 0) rfl)) (allS (Or.inl (List.mem_of_getElem? (i := 1) rfl)) all0))
  have kp2 : Keep h0 h9 [a11, a3, a1] := kp1.wr W9 (Or.inr (Nat.le_trans kp0.1 ge6_0))
  have kp3 : Keep h0 h12 [a11, a3, a1] := kp2.wr W12 (Or.inl (List.mem_of_getElem? (i := 2) rfl))
  have f13 := ((q6_0.other W9 (Nat.ne_of_lt (Nat.lt_of_lt_of_le h_10.lt ge6_0))).other W12 h_19)
  have f14 := ((q6_1.other W9 (Nat.ne_of_lt (Nat.lt_of_lt_of_le h_3.lt ge6_0))).other W12 h_21)
  have f15 := (((h_2.keep K6 (ninS h_13 (ninS h_17 nin0))).other W9 (Or.inl (Nat.ne_of_lt (Nat.lt_of_lt_of_le h_1.lt ge6_0)))).other W12 (Or.inr (slot_ne (Or.inl (hw _ (List.mem_of_getElem? (i := 12) rfl))) (Or.inl (hw _ (List.mem_of_getElem? (i := 26) rfl))) (by decide) (t := (.array (.array .short))) (t' := .int) (by decide) (by decide))))
  have f16 := (((h_6.keep K6 (ninS h_13 (ninS h_17 nin0))).other W9 (Or.inl (Nat.ne_of_lt (Nat.lt_of_lt_of_le h_1.lt ge6_0)))).other W12 (Or.inr (slot_ne (Or.inl (hw _ (List.mem_of_getElem? (i := 19) rfl))) (Or.inl (hw _ (List.mem_of_getElem? (i := 26) rfl))) (by decide) (t := (.array .int)) (t' := .int) (by decide) (by decide))))
  have f17 := (((h_9.keep K6 (ninS h_13 (ninS h_17 nin0))).other W9 (Or.inl (Nat.ne_of_lt (Nat.lt_of_lt_of_le h_1.lt ge6_0)))).other W12 (Or.inr (slot_ne (Or.inl (hw _ (List.mem_of_getElem? (i := 16) rfl))) (Or.inl (hw _ (List.mem_of_getElem? (i := 26) rfl))) (by decide) (t := (.array (.array .int))) (t' := .int) (by decide) (by decide))))
  have f18 := (V9.other W12 (Ne.symm (Nat.ne_of_lt (Nat.lt_of_lt_of_le h_1.lt ge6_0))))
  exact own_ret0 X12 hx hret hlk (hb hby d3_120) hF (by rw [e12]; exact ⟨b6_0, k6_1, rfl, N12, kp3, (Nat.le_trans kp0.1 ge6_0), f13, (((h_20.keep K6).wr W9).wr W12), f14, (((h_22.keep K6).wr W9).wr W12), w12, f15, (((h_5.keep K6).wr W9).wr W12), f16, f17, f18, ((q6_3.wr W9).wr W12)⟩) (by decide) (by decide)
theorem d5_19 : decode prog_69_method_6_code 19 = .ok (.aload_n 0, 1) := by decide +kernel
theorem d5_20 : decode prog_69_method_6_code 20 = .ok (.getfield 17, 3) := by decide +kernel
theorem d5_23 : decode prog_69_method_6_code 23 = .ok (.iload_n 1, 1) := by decide +kernel
theorem d5_24 : decode prog_69_method_6_code 24 = .ok (.aaload, 1) := by decide +kernel
theorem d5_25 : decode prog_69_method_6_code 25 = .ok (.arraylength, 1) := by decide +kernel
set_option maxRecDepth 65536 in
set_option maxHeartbeats 40000000 in
theorem rm_capacity_18 (l : Launch) (Z : State) (a0 : Array Value)  (hW : own_W Z a0) (a1 : Addr) (a2 : Addr) (q3 : ClassId) (a4 : Addr) (q5 : ClassId) (a6 : Addr) (q7 : ClassId) (i8 : Int32) (i9 : Int32) (h0 : Heap) (O0 : Old Z Z.heap.size h0) (h_1 : Fld Z h0 a1 "com/example/control_design_check/controldesigncheck/lts/IntBlocks" "narrow" "[[S" (.ref a2)) (h_2 : Arv Z h0 a2 q3 (.array .short) (1 : Int32) [.null] .null) (h_3 : Fld Z h0 a1 "com/example/control_design_check/controldesigncheck/lts/IntBlocks" "wide" "[[I" (.ref a4)) (h_4 : Arv Z h0 a4 q5 (.array .int) (1 : Int32) [(.ref a6)] .null) (h_5 : Arv Z h0 a6 q7 .int (16 : Int32) [(.int i8), (.int i9), (.int (0 : Int32)), (.int (0 : Int32)), (.int (0 : Int32)), (.int (0 : Int32)), (.int (0 : Int32)), (.int (0 : Int32)), (.int (0 : Int32)), (.int (0 : Int32)), (.int (0 : Int32)), (.int (0 : Int32)), (.int (0 : Int32)), (.int (0 : Int32)), (.int (0 : Int32)), (.int (0 : Int32))] (.int (0 : Int32))) :
    own_Met l Z (⟨"com/example/control_design_check/controldesigncheck/lts/IntBlocks", "capacity", "(I)I"⟩ : MethodName) prog_69_method_6_code 2 (some .int) ({ frames := 0, cells := 0, slots := 0, locals := 0 } : Room) #[(.ref a1), (.int (0 : Int32))] h0 (fun v h L => v = some (.int (16 : Int32)) ∧ Fr Z.heap.size L ∧ h = h0) := by
  have hw : ∀ d ∈ tables_1, d.before a0 Z = true := hW
  refine own_met (plainFor_of_name pn_com_example_control_design_check_controldesigncheck_lts_IntBlocks) ?_
  intro p e s m below meth cc_ s₁ Φ hF X0 hx hby hml hZ hown hnm hret hlk e0
  have N0 := Fr.nil Z.heap.size
  refine own_k (T' := s₁) (g' := (mkF m 0 #[.val (.ref a1), .val (.int (0 : Int32))] [])) (fun _ k_ => castTop (ef_5_RI m a1 (0 : Int32)) k_) ?_
  refine own_k (T' := s₁) (g' := (mkF m 1 #[.val (.ref a1), .val (.int (0 : Int32))] [(.ref a1)])) (fun _ k_ => XS.aloadN X0.here hx rfl (hb hby d5_0) rfl rfl  k_) ?_
  obtain ⟨T1, X1, e1, st1⟩ := getF X0 hx hZ hown (host := "") (Or.inl (hw _ (List.mem_of_getElem? (i := 11) rfl))) Via.refl e0 h_1 (g := (mkF m 1 #[.val (.ref a1), .val (.int (0 : Int32))] [(.ref a1)])) rfl rfl (hb hby d5_1)
  refine own_k (T' := T1) (g' := (mkF m 4 #[.val (.ref a1), .val (.int (0 : Int32))] [(.ref a2)])) st1 ?_
  refine own_k (T' := T1) (g' := (mkF m 5 #[.val (.ref a1), .val (.int (0 : Int32))] [(.int (0 : Int32)), (.ref a2)])) (fun _ k_ => XS.iloadN X1.here hx rfl (hb hby d5_4) rfl  k_) ?_
  refine own_aaload X1 hx hZ e1 h_2 rfl (j := (0 : Int32)) ⟨by decide, by decide⟩ (v := .null) rfl (hb hby d5_5) ?_
  show own_Go p e below Φ T1 (mkF m 6 #[.val (.ref a1), .val (.int (0 : Int32))] [.null])
  refine own_k (T' := T1) (g' := (mkF m 19 #[.val (.ref a1), .val (.int (0 : Int32))] [])) (fun _ k_ => XS.ifnullYes X1.here hx rfl (pc0 := 6) (pc' := 19) rfl (hb hby d5_6) rfl (by decide) (by decide) k_) ?_
  refine own_k (T' := T1) (g' := (mkF m 20 #[.val (.ref a1), .val (.int (0 : Int32))] [(.ref a1)])) (fun _ k_ => XS.aloadN X1.here hx rfl (hb hby d5_19) rfl rfl  k_) ?_
  obtain ⟨T2, X2, e2, st2⟩ := getF X1 hx hZ hown (host := "") (Or.inl (hw _ (List.mem_of_getElem? (i := 15) rfl))) Via.refl e1 h_3 (g := (mkF m 20 #[.val (.ref a1), .val (.int (0 : Int32))] [(.ref a1)])) rfl rfl (hb hby d5_20)
  refine own_k (T' := T2) (g' := (mkF m 23 #[.val (.ref a1), .val (.int (0 : Int32))] [(.ref a4)])) st2 ?_
  refine own_k (T' := T2) (g' := (mkF m 24 #[.val (.ref a1), .val (.int (0 : Int32))] [(.int (0 : Int32)), (.ref a4)])) (fun _ k_ => XS.iloadN X2.here hx rfl (hb hby d5_23) rfl  k_) ?_
  refine own_aaload X2 hx hZ e2 h_4 rfl (j := (0 : Int32)) ⟨by decide, by decide⟩ (v := (.ref a6)) rfl (hb hby d5_24) ?_
  show own_Go p e below Φ T2 (mkF m 25 #[.val (.ref a1), .val (.int (0 : Int32))] [(.ref a6)])
  refine own_len X2 hx hZ e2 h_5 (hb hby d5_25) ?_
  show own_Go p e below Φ T2 (mkF m 26 #[.val (.ref a1), .val (.int (0 : Int32))] [(.int (16 : Int32))])
  exact own_retI X2 hx hret hlk (hb hby d5_26) hF (by rw [e2]; exact ⟨rfl, N0, rfl⟩) (by decide) (by decide)
set_option maxRecDepth 65536 in
set_option maxHeartbeats 40000000 in
theorem rm_add_19 (l : Launch) (Z : State) (a0 : Array Value)  (hW : own_W Z a0) (a1 : Addr) (i2 : Int32) (a3 : Addr) (q4 : ClassId) (a5 : Addr) (q6 : ClassId) (a7 : Addr) (q8 : ClassId) (i9 : Int32) (i10 : Int32) (a11 : Addr) (q12 : ClassId) (i13 : Int32) (h0 : Heap) (O0 : Old Z Z.heap.size h0) (h_1 : Fld Z h0 a1 "com/example/control_design_check/controldesigncheck/lts/IntBlocks" "size" "I" (.int (2 : Int32))) (h_2 : Fld Z h0 a1 "com/example/control_design_check/controldesigncheck/lts/IntBlocks" "narrow" "[[S" (.ref a3)) (h_3 : Arv Z h0 a3 q4 (.array .short) (1 : Int32) [.null] .null) (h_4 : Fld Z h0 a1 "com/example/control_design_check/controldesigncheck/lts/IntBlocks" "wide" "[[I" (.ref a5)) (h_5 : Arv Z h0 a5 q6 (.array .int) (1 : Int32) [(.ref a7)] .null) (h_6 : Arv Z h0 a7 q8 .int (16 : Int32) [(.int i9), (.int i10), (.int (0 : Int32)), (.int (0 : Int32)), (.int (0 : Int32)), (.int (0 : Int32)), (.int (0 : Int32)), (.int (0 : Int32)), (.int (0 : Int32)), (.int (0 : Int32)), (.int (0 : Int32)), (.int (0 : Int32)), (.int (0 : Int32)), (.int (0 : Int32)), (.int (0 : Int32)), (.int (0 : Int32))] (.int (0 : Int32))) (h_7 : Exa Z h0 a1 "com/example/control_design_check/controldesigncheck/lts/IntBlocks") (h_8 : Fld Z h0 a1 "com/example/control_design_check/controldesigncheck/lts/IntBlocks" "bases" "[I" (.ref a11)) (h_9 : Arv Z h0 a11 q12 .int (1 : Int32) [(.int i13)] (.int (0 : Int32))) (h_10 : Z.heap.size ≤ a7) (h_11 : a1 ≠ a7) (h_12 : Z.heap.size ≤ a1) (h_13 : a7 ≠ a1) (h_14 : Exa Z h0 a7 "[I") :
    own_Met l Z (⟨"com/example/control_design_check/controldesigncheck/lts/IntBlocks", "add", "(I)V"⟩ : MethodName) prog_69_method_4_code 5 none ({ frames := 1, cells := 0, slots := 0, locals := 14 } : Room) #[(.ref a1), (.int i2)] h0 (fun v h L => v = none ∧ Fr Z.heap.size L ∧ Keep h0 h [a7, a1] ∧ Arv Z h a7 q8 .int (16 : Int32) [(.int i9), (.int i10), (.int i2), (.int (0 : Int32)), (.int (0 : Int32)), (.int (0 : Int32)), (.int (0 : Int32)), (.int (0 : Int32)), (.int (0 : Int32)), (.int (0 : Int32)), (.int (0 : Int32)), (.int (0 : Int32)), (.int (0 : Int32)), (.int (0 : Int32)), (.int (0 : Int32)), (.int (0 : Int32))] (.int (0 : Int32)) ∧ Exa Z h a7 "[I" ∧ Fld Z h a1 "com/example/control_design_check/controldesigncheck/lts/IntBlocks" "size" "I" (.int (3 : Int32)) ∧ Fld Z h a1 "com/example/control_design_check/controldesigncheck/lts/IntBlocks" "narrow" "[[S" (.ref a3) ∧ Fld Z h a1 "com/example/control_design_check/controldesigncheck/lts/IntBlocks" "wide" "[[I" (.ref a5) ∧ Exa Z h a1 "com/example/control_design_check/controldesigncheck/lts/IntBlocks" ∧ Fld Z h a1 "com/example/control_design_check/controldesigncheck/lts/IntBlocks" "bases" "[I" (.ref a11)) := by
  have hw : ∀ d ∈ tables_1, d.before a0 Z = true := hW
  refine own_met (plainFor_of_name pn_com_example_control_design_check_controldesigncheck_lts_IntBlocks) ?_
  intro p e s m below meth cc_ s₁ Φ hF X0 hx hby hml hZ hown hnm hret hlk e0
  have N0 := Fr.nil Z.heap.size
  refine own_k (T' := s₁) (g' := (mkF m 0 #[.val (.ref a1), .val (.int i2), .unset, .unset, .unset] [])) (fun _ k_ => castTop (ef_3_RI m a1 i2) k_) ?_
  refine own_k (T' := s₁) (g' := (mkF m 1 #[.val (.ref a1), .val (.int i2), .unset, .unset, .unset] [(.ref a1)])) (fun _ k_ => XS.aloadN X0.here hx rfl (hb hby d3_0) rfl rfl  k_) ?_
  obtain ⟨T1, X1, e1, st1⟩ := getF X0 hx hZ hown (host := "") (Or.inl (hw _ (List.mem_of_getElem? (i := 25) rfl))) Via.refl e0 h_1 (g := (mkF m 1 #[.val (.ref a1), .val (.int i2), .unset, .unset, .unset] [(.ref a1)])) rfl rfl (hb hby d3_1)
  refine own_k (T' := T1) (g' := (mkF m 4 #[.val (.ref a1), .val (.int i2), .unset, .unset, .unset] [(.int (2 : Int32))])) st1 ?_
  refine own_k (T' := T1) (g' := (mkF m 6 #[.val (.ref a1), .val (.int i2), .unset, .unset, .unset] [(.int (14 : Int32)), (.int (2 : Int32))])) (fun _ k_ => XS.bipush X1.here hx rfl (hb hby d3_4) k_) ?_
  refine own_k (T' := T1) (g' := (mkF m 7 #[.val (.ref a1), .val (.int i2), .unset, .unset, .unset] [(.int (((2 : Int32).toUInt32 >>> ((14 : Int32) &&& 31).toUInt32).toInt32))])) (fun _ k_ => XS.iushr X1.here hx rfl (hb hby d3_6) rfl k_) ?_
  rw [show (((2 : Int32).toUInt32 >>> ((14 : Int32) &&& 31).toUInt32).toInt32) = (0 : Int32) from by decide]
  refine own_k (T' := T1) (g' := (mkF m 8 #[.val (.ref a1), .val (.int i2), .val (.int (0 : Int32)), .unset, .unset] [])) (fun _ k_ => XS.istoreN X1.here hx rfl (hb hby d3_7) rfl (l' := #[.val (.ref a1), .val (.int i2), .val (.int (0 : Int32)), .unset, .unset]) rfl k_) ?_
  refine own_k (T' := T1) (g' := (mkF m 9 #[.val (.ref a1), .val (.int i2), .val (.int (0 : Int32)), .unset, .unset] [(.ref a1)])) (fun _ k_ => XS.aloadN X1.here hx rfl (hb hby d3_8) rfl rfl  k_) ?_
  obtain ⟨T2, X2, e2, st2⟩ := getF X1 hx hZ hown (host := "") (Or.inl (hw _ (List.mem_of_getElem? (i := 25) rfl))) Via.refl e1 h_1 (g := (mkF m 9 #[.val (.ref a1), .val (.int i2), .val (.int (0 : Int32)), .unset, .unset] [(.ref a1)])) rfl rfl (hb hby d3_9)
  refine own_k (T' := T2) (g' := (mkF m 12 #[.val (.ref a1), .val (.int i2), .val (.int (0 : Int32)), .unset, .unset] [(.int (2 : Int32))])) st2 ?_
  refine own_k (T' := T2) (g' := (mkF m 15 #[.val (.ref a1), .val (.int i2), .val (.int (0 : Int32)), .unset, .unset] [(.int (16383 : Int32)), (.int (2 : Int32))])) (fun _ k_ => XS.sipush X2.here hx rfl (hb hby d3_12) k_) ?_
  refine own_k (T' := T2) (g' := (mkF m 16 #[.val (.ref a1), .val (.int i2), .val (.int (0 : Int32)), .unset, .unset] [(.int ((2 : Int32) &&& (16383 : Int32)))])) (fun _ k_ => XS.iand X2.here hx rfl (hb hby d3_15) rfl k_) ?_
  rw [show ((2 : Int32) &&& (16383 : Int32)) = (2 : Int32) from by decide]
  refine own_k (T' := T2) (g' := (mkF m 17 #[.val (.ref a1), .val (.int i2), .val (.int (0 : Int32)), .val (.int (2 : Int32)), .unset] [])) (fun _ k_ => XS.istoreN X2.here hx rfl (hb hby d3_16) rfl (l' := #[.val (.ref a1), .val (.int i2), .val (.int (0 : Int32)), .val (.int (2 : Int32)), .unset]) rfl k_) ?_
  refine own_k (T' := T2) (g' := (mkF m 18 #[.val (.ref a1), .val (.int i2), .val (.int (0 : Int32)), .val (.int (2 : Int32)), .unset] [(.int (2 : Int32))])) (fun _ k_ => XS.iloadN X2.here hx rfl (hb hby d3_17) rfl  k_) ?_
  refine own_k (T' := T2) (g' := (mkF m 30 #[.val (.ref a1), .val (.int i2), .val (.int (0 : Int32)), .val (.int (2 : Int32)), .unset] [])) (fun _ k_ => XS.ifYes X2.here hx rfl (pc0 := 18) (pc' := 30) rfl (hb hby d3_18) rfl ((if0 _ _).trans (feq (by decide : ¬ ((2 : Int32) = (0 : Int32)))).2) (by decide) (by decide) k_) ?_
  refine own_k (T' := T2) (g' := (mkF m 31 #[.val (.ref a1), .val (.int i2), .val (.int (0 : Int32)), .val (.int (2 : Int32)), .unset] [(.int (2 : Int32))])) (fun _ k_ => XS.iloadN X2.here hx rfl (hb hby d3_30) rfl  k_) ?_
  refine own_k (T' := T2) (g' := (mkF m 32 #[.val (.ref a1), .val (.int i2), .val (.int (0 : Int32)), .val (.int (2 : Int32)), .unset] [(.ref a1), (.int (2 : Int32))])) (fun _ k_ => XS.aloadN X2.here hx rfl (hb hby d3_31) rfl rfl  k_) ?_
  refine own_k (T' := T2) (g' := (mkF m 33 #[.val (.ref a1), .val (.int i2), .val (.int (0 : Int32)), .val (.int (2 : Int32)), .unset] [(.int (0 : Int32)), (.ref a1), (.int (2 : Int32))])) (fun _ k_ => XS.iloadN X2.here hx rfl (hb hby d3_32) rfl  k_) ?_
  refine own_callP X2 hx hZ (y := (⟨"com/example/control_design_check/controldesigncheck/lts/IntBlocks", "capacity", "(I)I"⟩ : MethodName)) hown (hw _ (List.mem_of_getElem? (i := 34) rfl)) (hw _ (List.mem_of_getElem? (i := 35) rfl)) (hw _ (List.mem_of_getElem? (i := 36) rfl)) (hw _ (List.mem_of_getElem? (i := 37) rfl)) (hw _ (List.mem_of_getElem? (i := 2) rfl)) (hw _ (List.mem_of_getElem? (i := 1) rfl)) (by decide) (al := [(.int (0 : Int32))]) h_7 (rm_capacity_18 l Z a0 hW a1 a3 q4 a5 q6 a7 q8 i9 i10 h0 O0 h_2 h_3 h_4 h_5 h_6) 1 (by decide) (by decide) e2 (by decide) (by decide) (by rw [hml]; rfl) (lenOf pd__28I_29I rfl) rfl (rest := [(.int (2 : Int32))]) (by show 2 * 0 + _ ≤ _; exact Nat.le_of_eq rfl) (hb hby d3_33) ?_
  intro v3 T3 L3 X3 hQ3
  obtain ⟨rfl, Nq3, e3⟩ := hQ3
  have N3 := Fr.app N0 Nq3
  show own_Go p e below Φ T3 (mkF m 36 #[.val (.ref a1), .val (.int i2), .val (.int (0 : Int32)), .val (.int (2 : Int32)), .unset] [(.int (16 : Int32)), (.int (2 : Int32))])
  refine own_k (T' := T3) (g' := (mkF m 45 #[.val (.ref a1), .val (.int i2), .val (.int (0 : Int32)), .val (.int (2 : Int32)), .unset] [])) (fun _ k_ => XS.icmpYes X3.here hx rfl (pc0 := 36) (pc' := 45) rfl (hb hby d3_36) rfl ((feq (by decide : ¬ ((2 : Int32) = (16 : Int32)))).2) (by decide) (by decide) k_) ?_
  refine own_k (T' := T3) (g' := (mkF m 46 #[.val (.ref a1), .val (.int i2), .val (.int (0 : Int32)), .val (.int (2 : Int32)), .unset] [(.int i2)])) (fun _ k_ => XS.iloadN X3.here hx rfl (hb hby d3_45) rfl  k_) ?_
  refine own_k (T' := T3) (g' := (mkF m 47 #[.val (.ref a1), .val (.int i2), .val (.int (0 : Int32)), .val (.int (2 : Int32)), .unset] [(.ref a1), (.int i2)])) (fun _ k_ => XS.aloadN X3.here hx rfl (hb hby d3_46) rfl rfl  k_) ?_
  obtain ⟨T4, X4, e4, st4⟩ := getF X3 hx hZ hown (host := "") (Or.inl (hw _ (List.mem_of_getElem? (i := 18) rfl))) Via.refl e3 h_8 (g := (mkF m 47 #[.val (.ref a1), .val (.int i2), .val (.int (0 : Int32)), .val (.int (2 : Int32)), .unset] [(.ref a1), (.int i2)])) rfl rfl (hb hby d3_47)
  refine own_k (T' := T4) (g' := (mkF m 50 #[.val (.ref a1), .val (.int i2), .val (.int (0 : Int32)), .val (.int (2 : Int32)), .unset] [(.ref a11), (.int i2)])) st4 ?_
  refine own_k (T' := T4) (g' := (mkF m 51 #[.val (.ref a1), .val (.int i2), .val (.int (0 : Int32)), .val (.int (2 : Int32)), .unset] [(.int (0 : Int32)), (.ref a11), (.int i2)])) (fun _ k_ => XS.iloadN X4.here hx rfl (hb hby d3_50) rfl  k_) ?_
  refine own_iaload X4 hx hZ e4 h_9 (j := (0 : Int32)) ⟨by decide, by decide⟩ (v := (.int i13)) rfl (hb hby d3_51) ?_
  show own_Go p e below Φ T4 (mkF m 52 #[.val (.ref a1), .val (.int i2), .val (.int (0 : Int32)), .val (.int (2 : Int32)), .unset] [(.int i13), (.int i2)])
  refine own_k (T' := T4) (g' := (mkF m 53 #[.val (.ref a1), .val (.int i2), .val (.int (0 : Int32)), .val (.int (2 : Int32)), .unset] [(.int (i2 - i13))])) (fun _ k_ => XS.isub X4.here hx rfl (hb hby d3_52) rfl k_) ?_
  refine own_k (T' := T4) (g' := (mkF m 55 #[.val (.ref a1), .val (.int i2), .val (.int (0 : Int32)), .val (.int (2 : Int32)), .val (.int (i2 - i13))] [])) (fun _ k_ => XS.istore X4.here hx rfl (hb hby d3_53) rfl (l' := #[.val (.ref a1), .val (.int i2), .val (.int (0 : Int32)), .val (.int (2 : Int32)), .val (.int (i2 - i13))]) rfl k_) ?_
  refine own_k (T' := T4) (g' := (mkF m 56 #[.val (.ref a1), .val (.int i2), .val (.int (0 : Int32)), .val (.int (2 : Int32)), .val (.int (i2 - i13))] [(.ref a1)])) (fun _ k_ => XS.aloadN X4.here hx rfl (hb hby d3_55) rfl rfl  k_) ?_
  obtain ⟨T5, X5, e5, st5⟩ := getF X4 hx hZ hown (host := "") (Or.inl (hw _ (List.mem_of_getElem? (i := 11) rfl))) Via.refl e4 h_2 (g := (mkF m 56 #[.val (.ref a1), .val (.int i2), .val (.int (0 : Int32)), .val (.int (2 : Int32)), .val (.int (i2 - i13))] [(.ref a1)])) rfl rfl (hb hby d3_56)
  refine own_k (T' := T5) (g' := (mkF m 59 #[.val (.ref a1), .val (.int i2), .val (.int (0 : Int32)), .val (.int (2 : Int32)), .val (.int (i2 - i13))] [(.ref a3)])) st5 ?_
  refine own_k (T' := T5) (g' := (mkF m 60 #[.val (.ref a1), .val (.int i2), .val (.int (0 : Int32)), .val (.int (2 : Int32)), .val (.int (i2 - i13))] [(.int (0 : Int32)), (.ref a3)])) (fun _ k_ => XS.iloadN X5.here hx rfl (hb hby d3_59) rfl  k_) ?_
  refine own_aaload X5 hx hZ e5 h_3 rfl (j := (0 : Int32)) ⟨by decide, by decide⟩ (v := .null) rfl (hb hby d3_60) ?_
  show own_Go p e below Φ T5 (mkF m 61 #[.val (.ref a1), .val (.int i2), .val (.int (0 : Int32)), .val (.int (2 : Int32)), .val (.int (i2 - i13))] [.null])
  refine own_k (T' := T5) (g' := (mkF m 78 #[.val (.ref a1), .val (.int i2), .val (.int (0 : Int32)), .val (.int (2 : Int32)), .val (.int (i2 - i13))] [])) (fun _ k_ => XS.ifnullYes X5.here hx rfl (pc0 := 61) (pc' := 78) rfl (hb hby d3_61) rfl (by decide) (by decide) k_) ?_
  refine own_k (T' := T5) (g' := (mkF m 79 #[.val (.ref a1), .val (.int i2), .val (.int (0 : Int32)), .val (.int (2 : Int32)), .val (.int (i2 - i13))] [(.ref a1)])) (fun _ k_ => XS.aloadN X5.here hx rfl (hb hby d3_78) rfl rfl  k_) ?_
  obtain ⟨T6, X6, e6, st6⟩ := getF X5 hx hZ hown (host := "") (Or.inl (hw _ (List.mem_of_getElem? (i := 11) rfl))) Via.refl e5 h_2 (g := (mkF m 79 #[.val (.ref a1), .val (.int i2), .val (.int (0 : Int32)), .val (.int (2 : Int32)), .val (.int (i2 - i13))] [(.ref a1)])) rfl rfl (hb hby d3_79)
  refine own_k (T' := T6) (g' := (mkF m 82 #[.val (.ref a1), .val (.int i2), .val (.int (0 : Int32)), .val (.int (2 : Int32)), .val (.int (i2 - i13))] [(.ref a3)])) st6 ?_
  refine own_k (T' := T6) (g' := (mkF m 83 #[.val (.ref a1), .val (.int i2), .val (.int (0 : Int32)), .val (.int (2 : Int32)), .val (.int (i2 - i13))] [(.int (0 : Int32)), (.ref a3)])) (fun _ k_ => XS.iloadN X6.here hx rfl (hb hby d3_82) rfl  k_) ?_
  refine own_aaload X6 hx hZ e6 h_3 rfl (j := (0 : Int32)) ⟨by decide, by decide⟩ (v := .null) rfl (hb hby d3_83) ?_
  show own_Go p e below Φ T6 (mkF m 84 #[.val (.ref a1), .val (.int i2), .val (.int (0 : Int32)), .val (.int (2 : Int32)), .val (.int (i2 - i13))] [.null])
  refine own_k (T' := T6) (g' := (mkF m 101 #[.val (.ref a1), .val (.int i2), .val (.int (0 : Int32)), .val (.int (2 : Int32)), .val (.int (i2 - i13))] [])) (fun _ k_ => XS.ifnullYes X6.here hx rfl (pc0 := 84) (pc' := 101) rfl (hb hby d3_84) rfl (by decide) (by decide) k_) ?_
  refine own_k (T' := T6) (g' := (mkF m 102 #[.val (.ref a1), .val (.int i2), .val (.int (0 : Int32)), .val (.int (2 : Int32)), .val (.int (i2 - i13))] [(.ref a1)])) (fun _ k_ => XS.aloadN X6.here hx rfl (hb hby d3_101) rfl rfl  k_) ?_
  obtain ⟨T7, X7, e7, st7⟩ := getF X6 hx hZ hown (host := "") (Or.inl (hw _ (List.mem_of_getElem? (i := 15) rfl))) Via.refl e6 h_4 (g := (mkF m 102 #[.val (.ref a1), .val (.int i2), .val (.int (0 : Int32)), .val (.int (2 : Int32)), .val (.int (i2 - i13))] [(.ref a1)])) rfl rfl (hb hby d3_102)
  refine own_k (T' := T7) (g' := (mkF m 105 #[.val (.ref a1), .val (.int i2), .val (.int (0 : Int32)), .val (.int (2 : Int32)), .val (.int (i2 - i13))] [(.ref a5)])) st7 ?_
  refine own_k (T' := T7) (g' := (mkF m 106 #[.val (.ref a1), .val (.int i2), .val (.int (0 : Int32)), .val (.int (2 : Int32)), .val (.int (i2 - i13))] [(.int (0 : Int32)), (.ref a5)])) (fun _ k_ => XS.iloadN X7.here hx rfl (hb hby d3_105) rfl  k_) ?_
  refine own_aaload X7 hx hZ e7 h_5 rfl (j := (0 : Int32)) ⟨by decide, by decide⟩ (v := (.ref a7)) rfl (hb hby d3_106) ?_
  show own_Go p e below Φ T7 (mkF m 107 #[.val (.ref a1), .val (.int i2), .val (.int (0 : Int32)), .val (.int (2 : Int32)), .val (.int (i2 - i13))] [(.ref a7)])
  refine own_k (T' := T7) (g' := (mkF m 108 #[.val (.ref a1), .val (.int i2), .val (.int (0 : Int32)), .val (.int (2 : Int32)), .val (.int (i2 - i13))] [(.int (2 : Int32)), (.ref a7)])) (fun _ k_ => XS.iloadN X7.here hx rfl (hb hby d3_107) rfl  k_) ?_
  refine own_k (T' := T7) (g' := (mkF m 109 #[.val (.ref a1), .val (.int i2), .val (.int (0 : Int32)), .val (.int (2 : Int32)), .val (.int (i2 - i13))] [(.int i2), (.int (2 : Int32)), (.ref a7)])) (fun _ k_ => XS.iloadN X7.here hx rfl (hb hby d3_108) rfl  k_) ?_
  obtain ⟨T8, h8, X8, e8, W8, V8, st8⟩ := own_iastore (pc := 109) (Ls := #[.val (.ref a1), .val (.int i2), .val (.int (0 : Int32)), .val (.int (2 : Int32)), .val (.int (i2 - i13))]) (rest := []) X7 hx hZ e7 h_6 (j := (2 : Int32)) (x := i2) ⟨by decide, by decide⟩ 2 rfl (Nat.le_of_ble_eq_true rfl) (hb hby d3_109)
  have V8 : Arv Z h8 a7 q8 .int (16 : Int32) [(.int i9), (.int i10), (.int i2), (.int (0 : Int32)), (.int (0 : Int32)), (.int (0 : Int32)), (.int (0 : Int32)), (.int (0 : Int32)), (.int (0 : Int32)), (.int (0 : Int32)), (.int (0 : Int32)), (.int (0 : Int32)), (.int (0 : Int32)), (.int (0 : Int32)), (.int (0 : Int32)), (.int (0 : Int32))] (.int (0 : Int32)) := V8
  have O8' := O0.wr W8 h_10
  have N8 := Fr.snoc X8 N3 h_10
  refine own_k (T' := T8) (g' := (mkF m 110 #[.val (.ref a1), .val (.int i2), .val (.int (0 : Int32)), .val (.int (2 : Int32)), .val (.int (i2 - i13))] [])) st8 ?_
  refine own_k (T' := T8) (g' := (mkF m 111 #[.val (.ref a1), .val (.int i2), .val (.int (0 : Int32)), .val (.int (2 : Int32)), .val (.int (i2 - i13))] [(.ref a1)])) (fun _ k_ => XS.aloadN X8.here hx rfl (hb hby d3_110) rfl rfl  k_) ?_
  refine own_k (T' := T8) (g' := (mkF m 112 #[.val (.ref a1), .val (.int i2), .val (.int (0 : Int32)), .val (.int (2 : Int32)), .val (.int (i2 - i13))] [(.ref a1), (.ref a1)])) (fun _ k_ => XS.dup X8.here hx rfl (hb hby d3_111) rfl rfl k_) ?_
  obtain ⟨T9, X9, e9, st9⟩ := getF X8 hx hZ hown (host := "") (Or.inl (hw _ (List.mem_of_getElem? (i := 25) rfl))) Via.refl e8 (h_1.other W8 (Or.inl h_11)) (g := (mkF m 112 #[.val (.ref a1), .val (.int i2), .val (.int (0 : Int32)), .val (.int (2 : Int32)), .val (.int (i2 - i13))] [(.ref a1), (.ref a1)])) rfl rfl (hb hby d3_112)
  refine own_k (T' := T9) (g' := (mkF m 115 #[.val (.ref a1), .val (.int i2), .val (.int (0 : Int32)), .val (.int (2 : Int32)), .val (.int (i2 - i13))] [(.int (2 : Int32)), (.ref a1)])) st9 ?_
  refine own_k (T' := T9) (g' := (mkF m 116 #[.val (.ref a1), .val (.int i2), .val (.int (0 : Int32)), .val (.int (2 : Int32)), .val (.int (i2 - i13))] [(.int (1 : Int32)), (.int (2 : Int32)), (.ref a1)])) (fun _ k_ => XS.iconst X9.here hx rfl (hb hby d3_115) k_) ?_
  refine own_k (T' := T9) (g' := (mkF m 117 #[.val (.ref a1), .val (.int i2), .val (.int (0 : Int32)), .val (.int (2 : Int32)), .val (.int (i2 - i13))] [(.int ((2 : Int32) + (1 : Int32))), (.ref a1)])) (fun _ k_ => XS.iadd X9.here hx rfl (hb hby d3_116) rfl k_) ?_
  rw [show ((2 : Int32) + (1 : Int32)) = (3 : Int32) from by decide]
  obtain ⟨T10, h10, X10, e10, W10, st10⟩ := putF X9 hx hZ hown (host := "") (Or.inl (hw _ (List.mem_of_getElem? (i := 25) rfl))) Via.refl e9 (h_1.other W8 (Or.inl h_11)) (h_7.wr W8) (Or.inl (hw _ (List.mem_of_getElem? (i := 26) rfl))) (hw _ (List.mem_of_getElem? (i := 1) rfl)) (ty := .int) (by decide) rfl rfl (g := (mkF m 117 #[.val (.ref a1), .val (.int i2), .val (.int (0 : Int32)), .val (.int (2 : Int32)), .val (.int (i2 - i13))] [(.int (3 : Int32)), (.ref a1)])) rfl rfl (hb hby d3_117)
  have w10 := Fld.same W10 (h_1.other W8 (Or.inl h_11))
  have O10' := O8'.wr W10 h_12
  have N10 := Fr.snoc X10 N8 h_12
  refine own_k (T' := T10) (g' := (mkF m 120 #[.val (.ref a1), .val (.int i2), .val (.int (0 : Int32)), .val (.int (2 : Int32)), .val (.int (i2 - i13))] [])) st10 ?_
  have kp0 : Keep h0 h0 [a7, a1] := Keep.refl h0 [a7, a1]
  have kp1 : Keep h0 h8 [a7, a1] := kp0.wr W8 (Or.inl (List.mem_of_getElem? (i := 0) rfl))
  have kp2 : Keep h0 h10 [a7, a1] := kp1.wr W10 (Or.inl (List.mem_of_getElem? (i := 1) rfl))
  have f11 := ((h_2.other W8 (Or.inl h_11)).other W10 (Or.inr (slot_ne (Or.inl (hw _ (List.mem_of_getElem? (i := 12) rfl))) (Or.inl (hw _ (List.mem_of_getElem? (i := 26) rfl))) (by decide) (t := (.array (.array .short))) (t' := .int) (by decide) (by decide))))
  have f12 := ((h_4.other W8 (Or.inl h_11)).other W10 (Or.inr (slot_ne (Or.inl (hw _ (List.mem_of_getElem? (i := 16) rfl))) (Or.inl (hw _ (List.mem_of_getElem? (i := 26) rfl))) (by decide) (t := (.array (.array .int))) (t' := .int) (by decide) (by decide))))
  have f13 := ((h_8.other W8 (Or.inl h_11)).other W10 (Or.inr (slot_ne (Or.inl (hw _ (List.mem_of_getElem? (i := 19) rfl))) (Or.inl (hw _ (List.mem_of_getElem? (i := 26) rfl))) (by decide) (t := (.array .int)) (t' := .int) (by decide) (by decide))))
  exact own_ret0 X10 hx hret hlk (hb hby d3_120) hF (by rw [e10]; exact ⟨rfl, N10, kp2, (V8.other W10 h_13), ((h_14.wr W8).wr W10), w10, f11, f12, ((h_7.wr W8).wr W10), f13⟩) (by decide) (by decide)
set_option maxRecDepth 65536 in
set_option maxHeartbeats 40000000 in
theorem own_law (l : Launch) (Z : State) (a0 : Array Value)  (hW : own_W Z a0) (p0 : Int32) (p1 : Int32) (p2 : Int32) (p3 : Int32) (h0 : Heap) (O0 : Old Z Z.heap.size h0)  :
    own_Met l Z x code maxLocals ret room_1 #[(.int p0), (.int p1), (.int p2), (.int p3)] h0 (fun v h L => v = some (.int (1 : Int32)) ∧ Fr Z.heap.size L ∧ True) := by
  have hw : ∀ d ∈ tables_1, d.before a0 Z = true := hW
  refine own_met (plainFor_of_name pn_com_example_control_design_check_controldesigncheck_lts_IntBlocksGetPinLaw) ?_
  intro p e s m below meth cc_ s₁ Φ hF X0 hx hby hml hZ hown hnm hret hlk e0
  have N0 := Fr.nil Z.heap.size
  refine own_k (T' := s₁) (g' := (mkF m 0 #[.val (.int p0), .val (.int p1), .val (.int p2), .val (.int p3), .unset, .unset, .unset] [])) (fun _ k_ => castTop (ef_0_IIII m p0 p1 p2 p3) k_) ?_
  suffices hj1 : ∀ q4 : Int32, own_Go p e below Φ s₁ (mkF m 16 #[.val (.int p0), .val (.int p1), .val (.int p2), .val (.int p3), .val (.int q4), .unset, .unset] []) by
    refine own_k (T' := s₁) (g' := (mkF m 1 #[.val (.int p0), .val (.int p1), .val (.int p2), .val (.int p3), .unset, .unset, .unset] [(.int p3)])) (fun _ k_ => XS.iloadN X0.here hx rfl (hb hby at_0) rfl  k_) ?_
    refine own_k (T' := s₁) (g' := (mkF m 2 #[.val (.int p0), .val (.int p1), .val (.int p2), .val (.int p3), .unset, .unset, .unset] [(.int (1 : Int32)), (.int p3)])) (fun _ k_ => XS.iconst X0.here hx rfl (hb hby at_1) k_) ?_
    refine own_k (T' := s₁) (g' := (mkF m 3 #[.val (.int p0), .val (.int p1), .val (.int p2), .val (.int p3), .unset, .unset, .unset] [(.int (p3 &&& (1 : Int32)))])) (fun _ k_ => XS.iand X0.here hx rfl (hb hby at_2) rfl k_) ?_
    by_cases hc2 : (p3 &&& (1 : Int32)) = (0 : Int32)
    · refine own_k (T' := s₁) (g' := (mkF m 10 #[.val (.int p0), .val (.int p1), .val (.int p2), .val (.int p3), .unset, .unset, .unset] [])) (fun _ k_ => XS.ifYes X0.here hx rfl (pc0 := 3) (pc' := 10) rfl (hb hby at_3) rfl ((if0 _ _).trans (teq hc2).1) (by decide) (by decide) k_) ?_
      refine own_k (T' := s₁) (g' := (mkF m 11 #[.val (.int p0), .val (.int p1), .val (.int p2), .val (.int p3), .unset, .unset, .unset] [(.int p0)])) (fun _ k_ => XS.iloadN X0.here hx rfl (hb hby at_10) rfl  k_) ?_
      refine own_k (T' := s₁) (g' := (mkF m 12 #[.val (.int p0), .val (.int p1), .val (.int p2), .val (.int p3), .unset, .unset, .unset] [(.int p1), (.int p0)])) (fun _ k_ => XS.iloadN X0.here hx rfl (hb hby at_11) rfl  k_) ?_
      refine own_k (T' := s₁) (g' := (mkF m 13 #[.val (.int p0), .val (.int p1), .val (.int p2), .val (.int p3), .unset, .unset, .unset] [(.int (p1.toInt16.toInt32)), (.int p0)])) (fun _ k_ => XS.i2s X0.here hx rfl (hb hby at_12) rfl k_) ?_
      refine own_k (T' := s₁) (g' := (mkF m 14 #[.val (.int p0), .val (.int p1), .val (.int p2), .val (.int p3), .unset, .unset, .unset] [(.int (p0 + (p1.toInt16.toInt32)))])) (fun _ k_ => XS.iadd X0.here hx rfl (hb hby at_13) rfl k_) ?_
      refine own_k (T' := s₁) (g' := (mkF m 16 #[.val (.int p0), .val (.int p1), .val (.int p2), .val (.int p3), .val (.int (p0 + (p1.toInt16.toInt32))), .unset, .unset] [])) (fun _ k_ => XS.istore X0.here hx rfl (hb hby at_14) rfl (l' := #[.val (.int p0), .val (.int p1), .val (.int p2), .val (.int p3), .val (.int (p0 + (p1.toInt16.toInt32))), .unset, .unset]) rfl k_) ?_
      exact hj1 _
    · refine own_k (T' := s₁) (g' := (mkF m 6 #[.val (.int p0), .val (.int p1), .val (.int p2), .val (.int p3), .unset, .unset, .unset] [])) (fun _ k_ => XS.ifNo X0.here hx rfl (hb hby at_3) rfl ((if0 _ _).trans (feq hc2).1) k_) ?_
      refine own_k (T' := s₁) (g' := (mkF m 7 #[.val (.int p0), .val (.int p1), .val (.int p2), .val (.int p3), .unset, .unset, .unset] [(.int p1)])) (fun _ k_ => XS.iloadN X0.here hx rfl (hb hby at_6) rfl  k_) ?_
      refine own_k (T' := s₁) (g' := (mkF m 14 #[.val (.int p0), .val (.int p1), .val (.int p2), .val (.int p3), .unset, .unset, .unset] [(.int p1)])) (fun _ k_ => XS.goto X0.here hx rfl (pc0 := 7) (pc' := 14) rfl (hb hby at_7) (by decide) (by decide) k_) ?_
      refine own_k (T' := s₁) (g' := (mkF m 16 #[.val (.int p0), .val (.int p1), .val (.int p2), .val (.int p3), .val (.int p1), .unset, .unset] [])) (fun _ k_ => XS.istore X0.here hx rfl (hb hby at_14) rfl (l' := #[.val (.int p0), .val (.int p1), .val (.int p2), .val (.int p3), .val (.int p1), .unset, .unset]) rfl k_) ?_
      exact hj1 _
  intro q4
  suffices hj3 : ∀ q5 : Int32, own_Go p e below Φ s₁ (mkF m 32 #[.val (.int p0), .val (.int p1), .val (.int p2), .val (.int p3), .val (.int q4), .val (.int q5), .unset] []) by
    refine own_k (T' := s₁) (g' := (mkF m 17 #[.val (.int p0), .val (.int p1), .val (.int p2), .val (.int p3), .val (.int q4), .unset, .unset] [(.int p3)])) (fun _ k_ => XS.iloadN X0.here hx rfl (hb hby at_16) rfl  k_) ?_
    refine own_k (T' := s₁) (g' := (mkF m 18 #[.val (.int p0), .val (.int p1), .val (.int p2), .val (.int p3), .val (.int q4), .unset, .unset] [(.int (2 : Int32)), (.int p3)])) (fun _ k_ => XS.iconst X0.here hx rfl (hb hby at_17) k_) ?_
    refine own_k (T' := s₁) (g' := (mkF m 19 #[.val (.int p0), .val (.int p1), .val (.int p2), .val (.int p3), .val (.int q4), .unset, .unset] [(.int (p3 &&& (2 : Int32)))])) (fun _ k_ => XS.iand X0.here hx rfl (hb hby at_18) rfl k_) ?_
    by_cases hc4 : (p3 &&& (2 : Int32)) = (0 : Int32)
    · refine own_k (T' := s₁) (g' := (mkF m 26 #[.val (.int p0), .val (.int p1), .val (.int p2), .val (.int p3), .val (.int q4), .unset, .unset] [])) (fun _ k_ => XS.ifYes X0.here hx rfl (pc0 := 19) (pc' := 26) rfl (hb hby at_19) rfl ((if0 _ _).trans (teq hc4).1) (by decide) (by decide) k_) ?_
      refine own_k (T' := s₁) (g' := (mkF m 27 #[.val (.int p0), .val (.int p1), .val (.int p2), .val (.int p3), .val (.int q4), .unset, .unset] [(.int p0)])) (fun _ k_ => XS.iloadN X0.here hx rfl (hb hby at_26) rfl  k_) ?_
      refine own_k (T' := s₁) (g' := (mkF m 28 #[.val (.int p0), .val (.int p1), .val (.int p2), .val (.int p3), .val (.int q4), .unset, .unset] [(.int p2), (.int p0)])) (fun _ k_ => XS.iloadN X0.here hx rfl (hb hby at_27) rfl  k_) ?_
      refine own_k (T' := s₁) (g' := (mkF m 29 #[.val (.int p0), .val (.int p1), .val (.int p2), .val (.int p3), .val (.int q4), .unset, .unset] [(.int (p2.toInt16.toInt32)), (.int p0)])) (fun _ k_ => XS.i2s X0.here hx rfl (hb hby at_28) rfl k_) ?_
      refine own_k (T' := s₁) (g' := (mkF m 30 #[.val (.int p0), .val (.int p1), .val (.int p2), .val (.int p3), .val (.int q4), .unset, .unset] [(.int (p0 + (p2.toInt16.toInt32)))])) (fun _ k_ => XS.iadd X0.here hx rfl (hb hby at_29) rfl k_) ?_
      refine own_k (T' := s₁) (g' := (mkF m 32 #[.val (.int p0), .val (.int p1), .val (.int p2), .val (.int p3), .val (.int q4), .val (.int (p0 + (p2.toInt16.toInt32))), .unset] [])) (fun _ k_ => XS.istore X0.here hx rfl (hb hby at_30) rfl (l' := #[.val (.int p0), .val (.int p1), .val (.int p2), .val (.int p3), .val (.int q4), .val (.int (p0 + (p2.toInt16.toInt32))), .unset]) rfl k_) ?_
      exact hj3 _
    · refine own_k (T' := s₁) (g' := (mkF m 22 #[.val (.int p0), .val (.int p1), .val (.int p2), .val (.int p3), .val (.int q4), .unset, .unset] [])) (fun _ k_ => XS.ifNo X0.here hx rfl (hb hby at_19) rfl ((if0 _ _).trans (feq hc4).1) k_) ?_
      refine own_k (T' := s₁) (g' := (mkF m 23 #[.val (.int p0), .val (.int p1), .val (.int p2), .val (.int p3), .val (.int q4), .unset, .unset] [(.int p2)])) (fun _ k_ => XS.iloadN X0.here hx rfl (hb hby at_22) rfl  k_) ?_
      refine own_k (T' := s₁) (g' := (mkF m 30 #[.val (.int p0), .val (.int p1), .val (.int p2), .val (.int p3), .val (.int q4), .unset, .unset] [(.int p2)])) (fun _ k_ => XS.goto X0.here hx rfl (pc0 := 23) (pc' := 30) rfl (hb hby at_23) (by decide) (by decide) k_) ?_
      refine own_k (T' := s₁) (g' := (mkF m 32 #[.val (.int p0), .val (.int p1), .val (.int p2), .val (.int p3), .val (.int q4), .val (.int p2), .unset] [])) (fun _ k_ => XS.istore X0.here hx rfl (hb hby at_30) rfl (l' := #[.val (.int p0), .val (.int p1), .val (.int p2), .val (.int p3), .val (.int q4), .val (.int p2), .unset]) rfl k_) ?_
      exact hj3 _
  intro q5
  obtain ⟨T5, h5, X5, e5, E5, A5, D5, -, st5⟩ := newO X0 hx hZ hown (hw _ (List.mem_of_getElem? (i := 0) rfl)) (hw _ (List.mem_of_getElem? (i := 1) rfl)) (hw _ (List.mem_of_getElem? (i := 2) rfl)) e0 (g := (mkF m 32 #[.val (.int p0), .val (.int p1), .val (.int p2), .val (.int p3), .val (.int q4), .val (.int q5), .unset] [])) rfl (hb hby at_32) (by decide) (by decide)
  obtain ⟨b5, g5⟩ : ∃ z, z = h0.size := ⟨_, rfl⟩
  rw [← g5] at A5 D5 st5
  have O5' := O0.ext E5
  have F5_narrow : Fld Z h5 b5 "com/example/control_design_check/controldesigncheck/lts/IntBlocks" "narrow" "[[S" .null := D5 (Or.inl (hw _ (List.mem_of_getElem? (i := 12) rfl))) (ty := (.array (.array .short))) (by decide)
  have F5_wide : Fld Z h5 b5 "com/example/control_design_check/controldesigncheck/lts/IntBlocks" "wide" "[[I" .null := D5 (Or.inl (hw _ (List.mem_of_getElem? (i := 16) rfl))) (ty := (.array (.array .int))) (by decide)
  have F5_bases : Fld Z h5 b5 "com/example/control_design_check/controldesigncheck/lts/IntBlocks" "bases" "[I" .null := D5 (Or.inl (hw _ (List.mem_of_getElem? (i := 19) rfl))) (ty := (.array .int)) (by decide)
  have F5_size : Fld Z h5 b5 "com/example/control_design_check/controldesigncheck/lts/IntBlocks" "size" "I" (.int (0 : Int32)) := D5 (Or.inl (hw _ (List.mem_of_getElem? (i := 26) rfl))) (ty := .int) (by decide)
  refine own_k (T' := T5) (g' := (mkF m 35 #[.val (.int p0), .val (.int p1), .val (.int p2), .val (.int p3), .val (.int q4), .val (.int q5), .unset] [(.ref b5)])) st5 ?_
  refine own_k (T' := T5) (g' := (mkF m 36 #[.val (.int p0), .val (.int p1), .val (.int p2), .val (.int p3), .val (.int q4), .val (.int q5), .unset] [(.ref b5), (.ref b5)])) (fun _ k_ => XS.dup X5.here hx rfl (hb hby at_35) rfl rfl k_) ?_
  refine own_callN X5 hx hZ (y := (⟨"com/example/control_design_check/controldesigncheck/lts/IntBlocks", "<init>", "()V"⟩ : MethodName)) rfl hown (hw _ (List.mem_of_getElem? (i := 3) rfl)) (hw _ (List.mem_of_getElem? (i := 4) rfl)) (hw _ (List.mem_of_getElem? (i := 5) rfl)) (hw _ (List.mem_of_getElem? (i := 2) rfl)) (by decide) (al := []) (b := b5) (rm_init_0 l Z a0 hW b5 h5 O5' F5_narrow A5 (Nat.le_trans O0.2.1 (Nat.le_of_eq g5.symm)) F5_wide F5_bases F5_size) 1 (by decide) (by decide) e5 (by decide) (by decide) (by rw [hml]; rfl) (lenOf pd__28_29V rfl) rfl (rest := [(.ref b5)]) (by show 2 * 0 + _ ≤ _; exact Nat.le_of_eq rfl) (hb hby at_36) ?_
  intro v6 T6 L6 X6 hQ6
  obtain ⟨b6_0, b6_1, b6_2, k6_3, k6_4, k6_5, rfl, Nq6, K6, ge6_0, ge6_1, ge6_2, nn6_0, nn6_1, nn6_2, q6_0, q6_1, q6_2, q6_3, q6_4, q6_5, q6_6, q6_7, q6_8, q6_9, q6_10, q6_11, q6_12⟩ := hQ6
  have N6 := Fr.app N0 Nq6
  have O6' := O5'.keep K6 (allS (Nat.le_trans O0.2.1 (Nat.le_of_eq g5.symm)) all0)
  show own_Go p e below Φ T6 (mkF m 39 #[.val (.int p0), .val (.int p1), .val (.int p2), .val (.int p3), .val (.int q4), .val (.int q5), .unset] [(.ref b5)])
  refine own_k (T' := T6) (g' := (mkF m 41 #[.val (.int p0), .val (.int p1), .val (.int p2), .val (.int p3), .val (.int q4), .val (.int q5), .val (.ref b5)] [])) (fun _ k_ => XS.astore X6.here hx rfl (hb hby at_39) rfl rfl (l' := #[.val (.int p0), .val (.int p1), .val (.int p2), .val (.int p3), .val (.int q4), .val (.int q5), .val (.ref b5)]) rfl k_) ?_
  refine own_k (T' := T6) (g' := (mkF m 43 #[.val (.int p0), .val (.int p1), .val (.int p2), .val (.int p3), .val (.int q4), .val (.int q5), .val (.ref b5)] [(.ref b5)])) (fun _ k_ => XS.aload X6.here hx rfl (hb hby at_41) rfl rfl  k_) ?_
  refine own_k (T' := T6) (g' := (mkF m 44 #[.val (.int p0), .val (.int p1), .val (.int p2), .val (.int p3), .val (.int q4), .val (.int q5), .val (.ref b5)] [(.int p0), (.ref b5)])) (fun _ k_ => XS.iloadN X6.here hx rfl (hb hby at_43) rfl  k_) ?_
  refine own_callV X6 hx hZ (C := "com/example/control_design_check/controldesigncheck/lts/IntBlocks") (y := (⟨"com/example/control_design_check/controldesigncheck/lts/IntBlocks", "add", "(I)V"⟩ : MethodName)) (z := (⟨"com/example/control_design_check/controldesigncheck/lts/IntBlocks", "add", "(I)V"⟩ : MethodName)) hown (hw _ (List.mem_of_getElem? (i := 20) rfl)) (hw _ (List.mem_of_getElem? (i := 21) rfl)) (notFace_of_selects (args := #[]) (mvT hZ (hw _ (List.mem_of_getElem? (i := 23) rfl)))) (hw _ (List.mem_of_getElem? (i := 23) rfl)) (hw _ (List.mem_of_getElem? (i := 22) rfl)) (hw _ (List.mem_of_getElem? (i := 24) rfl)) (hw _ (List.mem_of_getElem? (i := 2) rfl)) (by decide) (al := [(.int p0)]) q6_0 (rm_add_2 l Z a0 hW b5 p0 b6_2 k6_5 b6_0 k6_3 b6_1 T6.heap O6' q6_4 q6_3 q6_11 (Nat.le_trans O5'.2.1 ge6_2) q6_1 (Nat.ne_of_lt (Nat.lt_of_lt_of_le A5.lt ge6_2)) q6_5 nn6_1 q6_6 (Nat.le_trans O5'.2.1 ge6_0) (Ne.symm nn6_1) q6_0 (Nat.ne_of_lt (Nat.lt_of_lt_of_le A5.lt ge6_0)) (own_z p0) (Nat.le_trans O0.2.1 (Nat.le_of_eq g5.symm)) (Ne.symm (Nat.ne_of_lt (Nat.lt_of_lt_of_le A5.lt ge6_2))) q6_12 (Ne.symm (Nat.ne_of_lt (Nat.lt_of_lt_of_le A5.lt ge6_0))) q6_7 q6_2) 0 (by decide) (by decide) rfl (by decide) (by decide) (by rw [hml]; rfl) (lenOf pd__28I_29V rfl) rfl (rest := []) (by show 2 * 0 + _ ≤ _; exact Nat.le_of_eq rfl) (hb hby at_44) ?_
  intro v7 T7 L7 X7 hQ7
  obtain ⟨b7_0, k7_1, rfl, Nq7, K7, ge7_0, q7_0, q7_1, q7_2, q7_3, q7_4, q7_5, q7_6, q7_7, q7_8, q7_9, q7_10⟩ := hQ7
  have N7 := Fr.app N6 Nq7
  have O7' := O6'.keep K7 (allS (Nat.le_trans O5'.2.1 ge6_2) (allS (Nat.le_trans O5'.2.1 ge6_0) (allS (Nat.le_trans O0.2.1 (Nat.le_of_eq g5.symm)) all0)))
  show own_Go p e below Φ T7 (mkF m 47 #[.val (.int p0), .val (.int p1), .val (.int p2), .val (.int p3), .val (.int q4), .val (.int q5), .val (.ref b5)] [])
  refine own_k (T' := T7) (g' := (mkF m 49 #[.val (.int p0), .val (.int p1), .val (.int p2), .val (.int p3), .val (.int q4), .val (.int q5), .val (.ref b5)] [(.ref b5)])) (fun _ k_ => XS.aload X7.here hx rfl (hb hby at_47) rfl rfl  k_) ?_
  refine own_k (T' := T7) (g' := (mkF m 51 #[.val (.int p0), .val (.int p1), .val (.int p2), .val (.int p3), .val (.int q4), .val (.int q5), .val (.ref b5)] [(.int q4), (.ref b5)])) (fun _ k_ => XS.iload X7.here hx rfl (hb hby at_49) rfl  k_) ?_
  by_cases hc8 : (((q4 - (p0 - (32768 : Int32))).toUInt32 >>> ((16 : Int32) &&& 31).toUInt32).toInt32) = (0 : Int32)
  · refine own_callV X7 hx hZ (C := "com/example/control_design_check/controldesigncheck/lts/IntBlocks") (y := (⟨"com/example/control_design_check/controldesigncheck/lts/IntBlocks", "add", "(I)V"⟩ : MethodName)) (z := (⟨"com/example/control_design_check/controldesigncheck/lts/IntBlocks", "add", "(I)V"⟩ : MethodName)) hown (hw _ (List.mem_of_getElem? (i := 20) rfl)) (hw _ (List.mem_of_getElem? (i := 21) rfl)) (notFace_of_selects (args := #[]) (mvT hZ (hw _ (List.mem_of_getElem? (i := 23) rfl)))) (hw _ (List.mem_of_getElem? (i := 23) rfl)) (hw _ (List.mem_of_getElem? (i := 22) rfl)) (hw _ (List.mem_of_getElem? (i := 24) rfl)) (hw _ (List.mem_of_getElem? (i := 2) rfl)) (by decide) (al := [(.int q4)]) q7_7 (rm_add_4 l Z a0 hW b5 q4 b6_0 k6_3 b7_0 k7_1 ((p0 - (p0 - (32768 : Int32))).toInt16.toInt32) b6_2 k6_5 (p0 - (32768 : Int32)) b6_1 T7.heap O7' q7_4 q7_6 q7_2 q7_9 q7_7 q7_5 q7_0 hc8 (Nat.le_trans O6'.2.1 ge7_0) (Nat.ne_of_lt (Nat.lt_of_lt_of_le (Nat.lt_of_lt_of_le A5.lt K6.1) ge7_0)) (Nat.le_trans O0.2.1 (Nat.le_of_eq g5.symm)) (Ne.symm (Nat.ne_of_lt (Nat.lt_of_lt_of_le (Nat.lt_of_lt_of_le A5.lt K6.1) ge7_0))) q7_10 q7_8) 0 (by decide) (by decide) rfl (by decide) (by decide) (by rw [hml]; rfl) (lenOf pd__28I_29V rfl) rfl (rest := []) (by show 2 * 0 + _ ≤ _; exact Nat.le_of_eq rfl) (hb hby at_51) ?_
    intro v9 T9 L9 X9 hQ9
    obtain ⟨rfl, Nq9, K9, q9_0, q9_1, q9_2, q9_3, q9_4, q9_5, q9_6⟩ := hQ9
    have N9 := Fr.app N7 Nq9
    have O9' := O7'.keep K9 (allS (Nat.le_trans O6'.2.1 ge7_0) (allS (Nat.le_trans O0.2.1 (Nat.le_of_eq g5.symm)) all0))
    show own_Go p e below Φ T9 (mkF m 54 #[.val (.int p0), .val (.int p1), .val (.int p2), .val (.int p3), .val (.int q4), .val (.int q5), .val (.ref b5)] [])
    refine own_k (T' := T9) (g' := (mkF m 56 #[.val (.int p0), .val (.int p1), .val (.int p2), .val (.int p3), .val (.int q4), .val (.int q5), .val (.ref b5)] [(.ref b5)])) (fun _ k_ => XS.aload X9.here hx rfl (hb hby at_54) rfl rfl  k_) ?_
    refine own_k (T' := T9) (g' := (mkF m 58 #[.val (.int p0), .val (.int p1), .val (.int p2), .val (.int p3), .val (.int q4), .val (.int q5), .val (.ref b5)] [(.int q5), (.ref b5)])) (fun _ k_ => XS.iload X9.here hx rfl (hb hby at_56) rfl  k_) ?_
    by_cases hc10 : (((q5 - (p0 - (32768 : Int32))).toUInt32 >>> ((16 : Int32) &&& 31).toUInt32).toInt32) = (0 : Int32)
    · have f12 := (q7_2.keep K9 (ninS (Nat.ne_of_lt (Nat.lt_of_lt_of_le q6_5.lt ge7_0)) (ninS (Ne.symm (Nat.ne_of_lt (Nat.lt_of_lt_of_le A5.lt ge6_0))) nin0)))
      have f13 := (q7_0.keep K9 (ninS (Nat.ne_of_lt (Nat.lt_of_lt_of_le q6_11.lt ge7_0)) (ninS (Ne.symm (Nat.ne_of_lt (Nat.lt_of_lt_of_le A5.lt ge6_2))) nin0)))
      refine own_callV X9 hx hZ (C := "com/example/control_design_check/controldesigncheck/lts/IntBlocks") (y := (⟨"com/example/control_design_check/controldesigncheck/lts/IntBlocks", "add", "(I)V"⟩ : MethodName)) (z := (⟨"com/example/control_design_check/controldesigncheck/lts/IntBlocks", "add", "(I)V"⟩ : MethodName)) hown (hw _ (List.mem_of_getElem? (i := 20) rfl)) (hw _ (List.mem_of_getElem? (i := 21) rfl)) (notFace_of_selects (args := #[]) (mvT hZ (hw _ (List.mem_of_getElem? (i := 23) rfl)))) (hw _ (List.mem_of_getElem? (i := 23) rfl)) (hw _ (List.mem_of_getElem? (i := 22) rfl)) (hw _ (List.mem_of_getElem? (i := 24) rfl)) (hw _ (List.mem_of_getElem? (i := 2) rfl)) (by decide) (al := [(.int q5)]) q9_4 (rm_add_6 l Z a0 hW b5 q5 b6_0 k6_3 b7_0 k7_1 ((p0 - (p0 - (32768 : Int32))).toInt16.toInt32) ((q4 - (p0 - (32768 : Int32))).toInt16.toInt32) b6_2 k6_5 (p0 - (32768 : Int32)) b6_1 T9.heap O9' q9_2 q9_3 f12 q9_0 q9_4 q9_5 f13 hc10 (Nat.le_trans O6'.2.1 ge7_0) (Nat.ne_of_lt (Nat.lt_of_lt_of_le (Nat.lt_of_lt_of_le A5.lt K6.1) ge7_0)) (Nat.le_trans O0.2.1 (Nat.le_of_eq g5.symm)) (Ne.symm (Nat.ne_of_lt (Nat.lt_of_lt_of_le (Nat.lt_of_lt_of_le A5.lt K6.1) ge7_0))) q9_1 q9_6) 0 (by decide) (by decide) rfl (by decide) (by decide) (by rw [hml]; rfl) (lenOf pd__28I_29V rfl) rfl (rest := []) (by show 2 * 0 + _ ≤ _; exact Nat.le_of_eq rfl) (hb hby at_58) ?_
      intro v11 T11 L11 X11 hQ11
      obtain ⟨rfl, Nq11, K11, q11_0, q11_1, q11_2, q11_3, q11_4, q11_5, q11_6⟩ := hQ11
      have N11 := Fr.app N9 Nq11
      have O11' := O9'.keep K11 (allS (Nat.le_trans O6'.2.1 ge7_0) (allS (Nat.le_trans O0.2.1 (Nat.le_of_eq g5.symm)) all0))
      show own_Go p e below Φ T11 (mkF m 61 #[.val (.int p0), .val (.int p1), .val (.int p2), .val (.int p3), .val (.int q4), .val (.int q5), .val (.ref b5)] [])
      refine own_k (T' := T11) (g' := (mkF m 63 #[.val (.int p0), .val (.int p1), .val (.int p2), .val (.int p3), .val (.int q4), .val (.int q5), .val (.ref b5)] [(.ref b5)])) (fun _ k_ => XS.aload X11.here hx rfl (hb hby at_61) rfl rfl  k_) ?_
      refine own_callV X11 hx hZ (C := "com/example/control_design_check/controldesigncheck/lts/IntBlocks") (y := (⟨"com/example/control_design_check/controldesigncheck/lts/IntBlocks", "size", "()I"⟩ : MethodName)) (z := (⟨"com/example/control_design_check/controldesigncheck/lts/IntBlocks", "size", "()I"⟩ : MethodName)) hown (hw _ (List.mem_of_getElem? (i := 38) rfl)) (hw _ (List.mem_of_getElem? (i := 39) rfl)) (notFace_of_selects (args := #[]) (mvT hZ (hw _ (List.mem_of_getElem? (i := 41) rfl)))) (hw _ (List.mem_of_getElem? (i := 41) rfl)) (hw _ (List.mem_of_getElem? (i := 40) rfl)) (hw _ (List.mem_of_getElem? (i := 42) rfl)) (hw _ (List.mem_of_getElem? (i := 2) rfl)) (by decide) (al := []) q11_4 (rm_size_7 l Z a0 hW b5 T11.heap O11' q11_2) 0 (by decide) (by decide) rfl (by decide) (by decide) (by rw [hml]; rfl) (lenOf pd__28_29I rfl) rfl (rest := []) (by show 2 * 0 + _ ≤ _; exact Nat.le_of_eq rfl) (hb hby at_63) ?_
      intro v14 T14 L14 X14 hQ14
      obtain ⟨rfl, Nq14, e14⟩ := hQ14
      have N14 := Fr.app N11 Nq14
      show own_Go p e below Φ T14 (mkF m 66 #[.val (.int p0), .val (.int p1), .val (.int p2), .val (.int p3), .val (.int q4), .val (.int q5), .val (.ref b5)] [(.int (3 : Int32))])
      refine own_k (T' := T14) (g' := (mkF m 67 #[.val (.int p0), .val (.int p1), .val (.int p2), .val (.int p3), .val (.int q4), .val (.int q5), .val (.ref b5)] [(.int (3 : Int32)), (.int (3 : Int32))])) (fun _ k_ => XS.iconst X14.here hx rfl (hb hby at_66) k_) ?_
      refine own_k (T' := T14) (g' := (mkF m 70 #[.val (.int p0), .val (.int p1), .val (.int p2), .val (.int p3), .val (.int q4), .val (.int q5), .val (.ref b5)] [])) (fun _ k_ => XS.icmpNo X14.here hx rfl (hb hby at_67) rfl ((teq (by decide : ((3 : Int32) = (3 : Int32)))).2) k_) ?_
      refine own_k (T' := T14) (g' := (mkF m 72 #[.val (.int p0), .val (.int p1), .val (.int p2), .val (.int p3), .val (.int q4), .val (.int q5), .val (.ref b5)] [(.ref b5)])) (fun _ k_ => XS.aload X14.here hx rfl (hb hby at_70) rfl rfl  k_) ?_
      refine own_k (T' := T14) (g' := (mkF m 73 #[.val (.int p0), .val (.int p1), .val (.int p2), .val (.int p3), .val (.int q4), .val (.int q5), .val (.ref b5)] [(.int (0 : Int32)), (.ref b5)])) (fun _ k_ => XS.iconst X14.here hx rfl (hb hby at_72) k_) ?_
      have f16 := (f12.keep K11 (ninS (Nat.ne_of_lt (Nat.lt_of_lt_of_le q6_5.lt ge7_0)) (ninS (Ne.symm (Nat.ne_of_lt (Nat.lt_of_lt_of_le A5.lt ge6_0))) nin0)))
      have f17 := (f13.keep K11 (ninS (Nat.ne_of_lt (Nat.lt_of_lt_of_le q6_11.lt ge7_0)) (ninS (Ne.symm (Nat.ne_of_lt (Nat.lt_of_lt_of_le A5.lt ge6_2))) nin0)))
      refine own_callV X14 hx hZ (C := "com/example/control_design_check/controldesigncheck/lts/IntBlocks") (y := (⟨"com/example/control_design_check/controldesigncheck/lts/IntBlocks", "get", "(I)I"⟩ : MethodName)) (z := (⟨"com/example/control_design_check/controldesigncheck/lts/IntBlocks", "get", "(I)I"⟩ : MethodName)) hown (hw _ (List.mem_of_getElem? (i := 43) rfl)) (hw _ (List.mem_of_getElem? (i := 44) rfl)) (notFace_of_selects (args := #[]) (mvT hZ (hw _ (List.mem_of_getElem? (i := 46) rfl)))) (hw _ (List.mem_of_getElem? (i := 46) rfl)) (hw _ (List.mem_of_getElem? (i := 45) rfl)) (hw _ (List.mem_of_getElem? (i := 47) rfl)) (hw _ (List.mem_of_getElem? (i := 2) rfl)) (by decide) (al := [(.int (0 : Int32))]) q11_4 (rm_get_8 l Z a0 hW b5 b6_0 k6_3 b7_0 b6_2 k6_5 (p0 - (32768 : Int32)) k7_1 ((p0 - (p0 - (32768 : Int32))).toInt16.toInt32) ((q4 - (p0 - (32768 : Int32))).toInt16.toInt32) ((q5 - (p0 - (32768 : Int32))).toInt16.toInt32) T11.heap O11' q11_3 f16 q11_5 f17 q11_0) 0 (by decide) (by decide) e14 (by decide) (by decide) (by rw [hml]; rfl) (lenOf pd__28I_29I rfl) rfl (rest := []) (by show 2 * 0 + _ ≤ _; exact Nat.le_of_eq rfl) (hb hby at_73) ?_
      intro v15 T15 L15 X15 hQ15
      obtain ⟨rfl, Nq15, e15⟩ := hQ15
      have N15 := Fr.app N14 Nq15
      show own_Go p e below Φ T15 (mkF m 76 #[.val (.int p0), .val (.int p1), .val (.int p2), .val (.int p3), .val (.int q4), .val (.int q5), .val (.ref b5)] [(.int ((p0 - (32768 : Int32)) + (((p0 - (p0 - (32768 : Int32))).toInt16.toInt32) &&& (65535 : Int32))))])
      refine own_k (T' := T15) (g' := (mkF m 77 #[.val (.int p0), .val (.int p1), .val (.int p2), .val (.int p3), .val (.int q4), .val (.int q5), .val (.ref b5)] [(.int p0), (.int ((p0 - (32768 : Int32)) + (((p0 - (p0 - (32768 : Int32))).toInt16.toInt32) &&& (65535 : Int32))))])) (fun _ k_ => XS.iloadN X15.here hx rfl (hb hby at_76) rfl  k_) ?_
      refine own_k (T' := T15) (g' := (mkF m 80 #[.val (.int p0), .val (.int p1), .val (.int p2), .val (.int p3), .val (.int q4), .val (.int q5), .val (.ref b5)] [])) (fun _ k_ => XS.icmpNo X15.here hx rfl (hb hby at_77) rfl ((teq (own_rt (p0 - (32768 : Int32)) p0 (own_z p0))).2) k_) ?_
      refine own_k (T' := T15) (g' := (mkF m 82 #[.val (.int p0), .val (.int p1), .val (.int p2), .val (.int p3), .val (.int q4), .val (.int q5), .val (.ref b5)] [(.ref b5)])) (fun _ k_ => XS.aload X15.here hx rfl (hb hby at_80) rfl rfl  k_) ?_
      refine own_k (T' := T15) (g' := (mkF m 83 #[.val (.int p0), .val (.int p1), .val (.int p2), .val (.int p3), .val (.int q4), .val (.int q5), .val (.ref b5)] [(.int (1 : Int32)), (.ref b5)])) (fun _ k_ => XS.iconst X15.here hx rfl (hb hby at_82) k_) ?_
      refine own_callV X15 hx hZ (C := "com/example/control_design_check/controldesigncheck/lts/IntBlocks") (y := (⟨"com/example/control_design_check/controldesigncheck/lts/IntBlocks", "get", "(I)I"⟩ : MethodName)) (z := (⟨"com/example/control_design_check/controldesigncheck/lts/IntBlocks", "get", "(I)I"⟩ : MethodName)) hown (hw _ (List.mem_of_getElem? (i := 43) rfl)) (hw _ (List.mem_of_getElem? (i := 44) rfl)) (notFace_of_selects (args := #[]) (mvT hZ (hw _ (List.mem_of_getElem? (i := 46) rfl)))) (hw _ (List.mem_of_getElem? (i := 46) rfl)) (hw _ (List.mem_of_getElem? (i := 45) rfl)) (hw _ (List.mem_of_getElem? (i := 47) rfl)) (hw _ (List.mem_of_getElem? (i := 2) rfl)) (by decide) (al := [(.int (1 : Int32))]) q11_4 (rm_get_9 l Z a0 hW b5 b6_0 k6_3 b7_0 b6_2 k6_5 (p0 - (32768 : Int32)) k7_1 ((p0 - (p0 - (32768 : Int32))).toInt16.toInt32) ((q4 - (p0 - (32768 : Int32))).toInt16.toInt32) ((q5 - (p0 - (32768 : Int32))).toInt16.toInt32) T11.heap O11' q11_3 f16 q11_5 f17 q11_0) 0 (by decide) (by decide) e15 (by decide) (by decide) (by rw [hml]; rfl) (lenOf pd__28I_29I rfl) rfl (rest := []) (by show 2 * 0 + _ ≤ _; exact Nat.le_of_eq rfl) (hb hby at_83) ?_
      intro v18 T18 L18 X18 hQ18
      obtain ⟨rfl, Nq18, e18⟩ := hQ18
      have N18 := Fr.app N15 Nq18
      show own_Go p e below Φ T18 (mkF m 86 #[.val (.int p0), .val (.int p1), .val (.int p2), .val (.int p3), .val (.int q4), .val (.int q5), .val (.ref b5)] [(.int ((p0 - (32768 : Int32)) + (((q4 - (p0 - (32768 : Int32))).toInt16.toInt32) &&& (65535 : Int32))))])
      refine own_k (T' := T18) (g' := (mkF m 88 #[.val (.int p0), .val (.int p1), .val (.int p2), .val (.int p3), .val (.int q4), .val (.int q5), .val (.ref b5)] [(.int q4), (.int ((p0 - (32768 : Int32)) + (((q4 - (p0 - (32768 : Int32))).toInt16.toInt32) &&& (65535 : Int32))))])) (fun _ k_ => XS.iload X18.here hx rfl (hb hby at_86) rfl  k_) ?_
      refine own_k (T' := T18) (g' := (mkF m 91 #[.val (.int p0), .val (.int p1), .val (.int p2), .val (.int p3), .val (.int q4), .val (.int q5), .val (.ref b5)] [])) (fun _ k_ => XS.icmpNo X18.here hx rfl (hb hby at_88) rfl ((teq (own_rt (p0 - (32768 : Int32)) q4 hc8)).2) k_) ?_
      refine own_k (T' := T18) (g' := (mkF m 93 #[.val (.int p0), .val (.int p1), .val (.int p2), .val (.int p3), .val (.int q4), .val (.int q5), .val (.ref b5)] [(.ref b5)])) (fun _ k_ => XS.aload X18.here hx rfl (hb hby at_91) rfl rfl  k_) ?_
      refine own_k (T' := T18) (g' := (mkF m 94 #[.val (.int p0), .val (.int p1), .val (.int p2), .val (.int p3), .val (.int q4), .val (.int q5), .val (.ref b5)] [(.int (2 : Int32)), (.ref b5)])) (fun _ k_ => XS.iconst X18.here hx rfl (hb hby at_93) k_) ?_
      refine own_callV X18 hx hZ (C := "com/example/control_design_check/controldesigncheck/lts/IntBlocks") (y := (⟨"com/example/control_design_check/controldesigncheck/lts/IntBlocks", "get", "(I)I"⟩ : MethodName)) (z := (⟨"com/example/control_design_check/controldesigncheck/lts/IntBlocks", "get", "(I)I"⟩ : MethodName)) hown (hw _ (List.mem_of_getElem? (i := 43) rfl)) (hw _ (List.mem_of_getElem? (i := 44) rfl)) (notFace_of_selects (args := #[]) (mvT hZ (hw _ (List.mem_of_getElem? (i := 46) rfl)))) (hw _ (List.mem_of_getElem? (i := 46) rfl)) (hw _ (List.mem_of_getElem? (i := 45) rfl)) (hw _ (List.mem_of_getElem? (i := 47) rfl)) (hw _ (List.mem_of_getElem? (i := 2) rfl)) (by decide) (al := [(.int (2 : Int32))]) q11_4 (rm_get_10 l Z a0 hW b5 b6_0 k6_3 b7_0 b6_2 k6_5 (p0 - (32768 : Int32)) k7_1 ((p0 - (p0 - (32768 : Int32))).toInt16.toInt32) ((q4 - (p0 - (32768 : Int32))).toInt16.toInt32) ((q5 - (p0 - (32768 : Int32))).toInt16.toInt32) T11.heap O11' q11_3 f16 q11_5 f17 q11_0) 0 (by decide) (by decide) e18 (by decide) (by decide) (by rw [hml]; rfl) (lenOf pd__28I_29I rfl) rfl (rest := []) (by show 2 * 0 + _ ≤ _; exact Nat.le_of_eq rfl) (hb hby at_94) ?_
      intro v19 T19 L19 X19 hQ19
      obtain ⟨rfl, Nq19, e19⟩ := hQ19
      have N19 := Fr.app N18 Nq19
      show own_Go p e below Φ T19 (mkF m 97 #[.val (.int p0), .val (.int p1), .val (.int p2), .val (.int p3), .val (.int q4), .val (.int q5), .val (.ref b5)] [(.int ((p0 - (32768 : Int32)) + (((q5 - (p0 - (32768 : Int32))).toInt16.toInt32) &&& (65535 : Int32))))])
      refine own_k (T' := T19) (g' := (mkF m 99 #[.val (.int p0), .val (.int p1), .val (.int p2), .val (.int p3), .val (.int q4), .val (.int q5), .val (.ref b5)] [(.int q5), (.int ((p0 - (32768 : Int32)) + (((q5 - (p0 - (32768 : Int32))).toInt16.toInt32) &&& (65535 : Int32))))])) (fun _ k_ => XS.iload X19.here hx rfl (hb hby at_97) rfl  k_) ?_
      refine own_k (T' := T19) (g' := (mkF m 102 #[.val (.int p0), .val (.int p1), .val (.int p2), .val (.int p3), .val (.int q4), .val (.int q5), .val (.ref b5)] [])) (fun _ k_ => XS.icmpNo X19.here hx rfl (hb hby at_99) rfl ((teq (own_rt (p0 - (32768 : Int32)) q5 hc10)).2) k_) ?_
      refine own_k (T' := T19) (g' := (mkF m 103 #[.val (.int p0), .val (.int p1), .val (.int p2), .val (.int p3), .val (.int q4), .val (.int q5), .val (.ref b5)] [(.int (1 : Int32))])) (fun _ k_ => XS.iconst X19.here hx rfl (hb hby at_102) k_) ?_
      refine own_k (T' := T19) (g' := (mkF m 107 #[.val (.int p0), .val (.int p1), .val (.int p2), .val (.int p3), .val (.int q4), .val (.int q5), .val (.ref b5)] [(.int (1 : Int32))])) (fun _ k_ => XS.goto X19.here hx rfl (pc0 := 103) (pc' := 107) rfl (hb hby at_103) (by decide) (by decide) k_) ?_
      exact own_retN X19 hx (t := .boolean) hret (by simp) hlk (hb hby at_107) hF (⟨by rw [show nar .boolean (1 : Int32) = (1 : Int32) from by decide], N19, trivial⟩) (by decide) (by decide)
    · have f21 := (q7_2.keep K9 (ninS (Nat.ne_of_lt (Nat.lt_of_lt_of_le q6_5.lt ge7_0)) (ninS (Ne.symm (Nat.ne_of_lt (Nat.lt_of_lt_of_le A5.lt ge6_0))) nin0)))
      have f22 := (q7_0.keep K9 (ninS (Nat.ne_of_lt (Nat.lt_of_lt_of_le q6_11.lt ge7_0)) (ninS (Ne.symm (Nat.ne_of_lt (Nat.lt_of_lt_of_le A5.lt ge6_2))) nin0)))
      have f23 := ((q6_8.keep K7 (ninS nn6_2 (ninS (Ne.symm nn6_0) (ninS (Ne.symm (Nat.ne_of_lt (Nat.lt_of_lt_of_le A5.lt ge6_1))) nin0)))).keep K9 (ninS (Nat.ne_of_lt (Nat.lt_of_lt_of_le q6_8.lt ge7_0)) (ninS (Ne.symm (Nat.ne_of_lt (Nat.lt_of_lt_of_le A5.lt ge6_1))) nin0)))
      refine own_callV X9 hx hZ (C := "com/example/control_design_check/controldesigncheck/lts/IntBlocks") (y := (⟨"com/example/control_design_check/controldesigncheck/lts/IntBlocks", "add", "(I)V"⟩ : MethodName)) (z := (⟨"com/example/control_design_check/controldesigncheck/lts/IntBlocks", "add", "(I)V"⟩ : MethodName)) hown (hw _ (List.mem_of_getElem? (i := 20) rfl)) (hw _ (List.mem_of_getElem? (i := 21) rfl)) (notFace_of_selects (args := #[]) (mvT hZ (hw _ (List.mem_of_getElem? (i := 23) rfl)))) (hw _ (List.mem_of_getElem? (i := 23) rfl)) (hw _ (List.mem_of_getElem? (i := 22) rfl)) (hw _ (List.mem_of_getElem? (i := 24) rfl)) (hw _ (List.mem_of_getElem? (i := 2) rfl)) (by decide) (al := [(.int q5)]) q9_4 (rm_add_12 l Z a0 hW b5 q5 b6_0 k6_3 b7_0 k7_1 ((p0 - (p0 - (32768 : Int32))).toInt16.toInt32) ((q4 - (p0 - (32768 : Int32))).toInt16.toInt32) b6_2 k6_5 (p0 - (32768 : Int32)) b6_1 k6_4 T9.heap O9' q9_2 q9_3 f21 q9_0 q9_4 q9_5 f22 hc10 q9_6 f23 q6_9 (Nat.le_trans O5'.2.1 ge6_1) (Nat.ne_of_lt (Nat.lt_of_lt_of_le A5.lt ge6_1)) nn6_0 (Nat.le_trans O5'.2.1 ge6_0) (Ne.symm nn6_0) (Nat.ne_of_lt (Nat.lt_of_lt_of_le A5.lt ge6_0)) (Nat.le_trans O0.2.1 (Nat.le_of_eq g5.symm)) (Ne.symm (Nat.ne_of_lt (Nat.lt_of_lt_of_le A5.lt ge6_1))) ((q6_10.keep K7).keep K9) (Ne.symm (Nat.ne_of_lt (Nat.lt_of_lt_of_le A5.lt ge6_0))) (q7_3.keep K9)) 0 (by decide) (by decide) rfl (by decide) (by decide) (by rw [hml]; rfl) (lenOf pd__28I_29V rfl) rfl (rest := []) (by show 2 * 0 + _ ≤ _; exact Nat.le_of_eq rfl) (hb hby at_58) ?_
      intro v20 T20 L20 X20 hQ20
      obtain ⟨b20_0, k20_1, rfl, Nq20, K20, ge20_0, q20_0, q20_1, q20_2, q20_3, q20_4, q20_5, q20_6, q20_7, q20_8, q20_9, q20_10⟩ := hQ20
      have N20 := Fr.app N9 Nq20
      have O20' := O9'.keep K20 (allS (Nat.le_trans O5'.2.1 ge6_1) (allS (Nat.le_trans O5'.2.1 ge6_0) (allS (Nat.le_trans O0.2.1 (Nat.le_of_eq g5.symm)) all0)))
      show own_Go p e below Φ T20 (mkF m 61 #[.val (.int p0), .val (.int p1), .val (.int p2), .val (.int p3), .val (.int q4), .val (.int q5), .val (.ref b5)] [])
      refine own_k (T' := T20) (g' := (mkF m 63 #[.val (.int p0), .val (.int p1), .val (.int p2), .val (.int p3), .val (.int q4), .val (.int q5), .val (.ref b5)] [(.ref b5)])) (fun _ k_ => XS.aload X20.here hx rfl (hb hby at_61) rfl rfl  k_) ?_
      refine own_callV X20 hx hZ (C := "com/example/control_design_check/controldesigncheck/lts/IntBlocks") (y := (⟨"com/example/control_design_check/controldesigncheck/lts/IntBlocks", "size", "()I"⟩ : MethodName)) (z := (⟨"com/example/control_design_check/controldesigncheck/lts/IntBlocks", "size", "()I"⟩ : MethodName)) hown (hw _ (List.mem_of_getElem? (i := 38) rfl)) (hw _ (List.mem_of_getElem? (i := 39) rfl)) (notFace_of_selects (args := #[]) (mvT hZ (hw _ (List.mem_of_getElem? (i := 41) rfl)))) (hw _ (List.mem_of_getElem? (i := 41) rfl)) (hw _ (List.mem_of_getElem? (i := 40) rfl)) (hw _ (List.mem_of_getElem? (i := 42) rfl)) (hw _ (List.mem_of_getElem? (i := 2) rfl)) (by decide) (al := []) q20_6 (rm_size_7 l Z a0 hW b5 T20.heap O20' q20_4) 0 (by decide) (by decide) rfl (by decide) (by decide) (by rw [hml]; rfl) (lenOf pd__28_29I rfl) rfl (rest := []) (by show 2 * 0 + _ ≤ _; exact Nat.le_of_eq rfl) (hb hby at_63) ?_
      intro v24 T24 L24 X24 hQ24
      obtain ⟨rfl, Nq24, e24⟩ := hQ24
      have N24 := Fr.app N20 Nq24
      show own_Go p e below Φ T24 (mkF m 66 #[.val (.int p0), .val (.int p1), .val (.int p2), .val (.int p3), .val (.int q4), .val (.int q5), .val (.ref b5)] [(.int (3 : Int32))])
      refine own_k (T' := T24) (g' := (mkF m 67 #[.val (.int p0), .val (.int p1), .val (.int p2), .val (.int p3), .val (.int q4), .val (.int q5), .val (.ref b5)] [(.int (3 : Int32)), (.int (3 : Int32))])) (fun _ k_ => XS.iconst X24.here hx rfl (hb hby at_66) k_) ?_
      refine own_k (T' := T24) (g' := (mkF m 70 #[.val (.int p0), .val (.int p1), .val (.int p2), .val (.int p3), .val (.int q4), .val (.int q5), .val (.ref b5)] [])) (fun _ k_ => XS.icmpNo X24.here hx rfl (hb hby at_67) rfl ((teq (by decide : ((3 : Int32) = (3 : Int32)))).2) k_) ?_
      refine own_k (T' := T24) (g' := (mkF m 72 #[.val (.int p0), .val (.int p1), .val (.int p2), .val (.int p3), .val (.int q4), .val (.int q5), .val (.ref b5)] [(.ref b5)])) (fun _ k_ => XS.aload X24.here hx rfl (hb hby at_70) rfl rfl  k_) ?_
      refine own_k (T' := T24) (g' := (mkF m 73 #[.val (.int p0), .val (.int p1), .val (.int p2), .val (.int p3), .val (.int q4), .val (.int q5), .val (.ref b5)] [(.int (0 : Int32)), (.ref b5)])) (fun _ k_ => XS.iconst X24.here hx rfl (hb hby at_72) k_) ?_
      refine own_callV X24 hx hZ (C := "com/example/control_design_check/controldesigncheck/lts/IntBlocks") (y := (⟨"com/example/control_design_check/controldesigncheck/lts/IntBlocks", "get", "(I)I"⟩ : MethodName)) (z := (⟨"com/example/control_design_check/controldesigncheck/lts/IntBlocks", "get", "(I)I"⟩ : MethodName)) hown (hw _ (List.mem_of_getElem? (i := 43) rfl)) (hw _ (List.mem_of_getElem? (i := 44) rfl)) (notFace_of_selects (args := #[]) (mvT hZ (hw _ (List.mem_of_getElem? (i := 46) rfl)))) (hw _ (List.mem_of_getElem? (i := 46) rfl)) (hw _ (List.mem_of_getElem? (i := 45) rfl)) (hw _ (List.mem_of_getElem? (i := 47) rfl)) (hw _ (List.mem_of_getElem? (i := 2) rfl)) (by decide) (al := [(.int (0 : Int32))]) q20_6 (rm_get_13 l Z a0 hW b5 b6_0 k6_3 b6_1 k6_4 b20_0 k20_1 ((p0 - (32768 : Int32)) + (((p0 - (p0 - (32768 : Int32))).toInt16.toInt32) &&& (65535 : Int32))) ((p0 - (32768 : Int32)) + (((q4 - (p0 - (32768 : Int32))).toInt16.toInt32) &&& (65535 : Int32))) q5 T20.heap O20' q20_5 q20_2 q20_8 q20_0 q20_9) 0 (by decide) (by decide) e24 (by decide) (by decide) (by rw [hml]; rfl) (lenOf pd__28I_29I rfl) rfl (rest := []) (by show 2 * 0 + _ ≤ _; exact Nat.le_of_eq rfl) (hb hby at_73) ?_
      intro v25 T25 L25 X25 hQ25
      obtain ⟨rfl, Nq25, e25⟩ := hQ25
      have N25 := Fr.app N24 Nq25
      show own_Go p e below Φ T25 (mkF m 76 #[.val (.int p0), .val (.int p1), .val (.int p2), .val (.int p3), .val (.int q4), .val (.int q5), .val (.ref b5)] [(.int ((p0 - (32768 : Int32)) + (((p0 - (p0 - (32768 : Int32))).toInt16.toInt32) &&& (65535 : Int32))))])
      refine own_k (T' := T25) (g' := (mkF m 77 #[.val (.int p0), .val (.int p1), .val (.int p2), .val (.int p3), .val (.int q4), .val (.int q5), .val (.ref b5)] [(.int p0), (.int ((p0 - (32768 : Int32)) + (((p0 - (p0 - (32768 : Int32))).toInt16.toInt32) &&& (65535 : Int32))))])) (fun _ k_ => XS.iloadN X25.here hx rfl (hb hby at_76) rfl  k_) ?_
      refine own_k (T' := T25) (g' := (mkF m 80 #[.val (.int p0), .val (.int p1), .val (.int p2), .val (.int p3), .val (.int q4), .val (.int q5), .val (.ref b5)] [])) (fun _ k_ => XS.icmpNo X25.here hx rfl (hb hby at_77) rfl ((teq (own_rt (p0 - (32768 : Int32)) p0 (own_z p0))).2) k_) ?_
      refine own_k (T' := T25) (g' := (mkF m 82 #[.val (.int p0), .val (.int p1), .val (.int p2), .val (.int p3), .val (.int q4), .val (.int q5), .val (.ref b5)] [(.ref b5)])) (fun _ k_ => XS.aload X25.here hx rfl (hb hby at_80) rfl rfl  k_) ?_
      refine own_k (T' := T25) (g' := (mkF m 83 #[.val (.int p0), .val (.int p1), .val (.int p2), .val (.int p3), .val (.int q4), .val (.int q5), .val (.ref b5)] [(.int (1 : Int32)), (.ref b5)])) (fun _ k_ => XS.iconst X25.here hx rfl (hb hby at_82) k_) ?_
      refine own_callV X25 hx hZ (C := "com/example/control_design_check/controldesigncheck/lts/IntBlocks") (y := (⟨"com/example/control_design_check/controldesigncheck/lts/IntBlocks", "get", "(I)I"⟩ : MethodName)) (z := (⟨"com/example/control_design_check/controldesigncheck/lts/IntBlocks", "get", "(I)I"⟩ : MethodName)) hown (hw _ (List.mem_of_getElem? (i := 43) rfl)) (hw _ (List.mem_of_getElem? (i := 44) rfl)) (notFace_of_selects (args := #[]) (mvT hZ (hw _ (List.mem_of_getElem? (i := 46) rfl)))) (hw _ (List.mem_of_getElem? (i := 46) rfl)) (hw _ (List.mem_of_getElem? (i := 45) rfl)) (hw _ (List.mem_of_getElem? (i := 47) rfl)) (hw _ (List.mem_of_getElem? (i := 2) rfl)) (by decide) (al := [(.int (1 : Int32))]) q20_6 (rm_get_14 l Z a0 hW b5 b6_0 k6_3 b6_1 k6_4 b20_0 k20_1 ((p0 - (32768 : Int32)) + (((p0 - (p0 - (32768 : Int32))).toInt16.toInt32) &&& (65535 : Int32))) ((p0 - (32768 : Int32)) + (((q4 - (p0 - (32768 : Int32))).toInt16.toInt32) &&& (65535 : Int32))) q5 T20.heap O20' q20_5 q20_2 q20_8 q20_0 q20_9) 0 (by decide) (by decide) e25 (by decide) (by decide) (by rw [hml]; rfl) (lenOf pd__28I_29I rfl) rfl (rest := []) (by show 2 * 0 + _ ≤ _; exact Nat.le_of_eq rfl) (hb hby at_83) ?_
      intro v26 T26 L26 X26 hQ26
      obtain ⟨rfl, Nq26, e26⟩ := hQ26
      have N26 := Fr.app N25 Nq26
      show own_Go p e below Φ T26 (mkF m 86 #[.val (.int p0), .val (.int p1), .val (.int p2), .val (.int p3), .val (.int q4), .val (.int q5), .val (.ref b5)] [(.int ((p0 - (32768 : Int32)) + (((q4 - (p0 - (32768 : Int32))).toInt16.toInt32) &&& (65535 : Int32))))])
      refine own_k (T' := T26) (g' := (mkF m 88 #[.val (.int p0), .val (.int p1), .val (.int p2), .val (.int p3), .val (.int q4), .val (.int q5), .val (.ref b5)] [(.int q4), (.int ((p0 - (32768 : Int32)) + (((q4 - (p0 - (32768 : Int32))).toInt16.toInt32) &&& (65535 : Int32))))])) (fun _ k_ => XS.iload X26.here hx rfl (hb hby at_86) rfl  k_) ?_
      refine own_k (T' := T26) (g' := (mkF m 91 #[.val (.int p0), .val (.int p1), .val (.int p2), .val (.int p3), .val (.int q4), .val (.int q5), .val (.ref b5)] [])) (fun _ k_ => XS.icmpNo X26.here hx rfl (hb hby at_88) rfl ((teq (own_rt (p0 - (32768 : Int32)) q4 hc8)).2) k_) ?_
      refine own_k (T' := T26) (g' := (mkF m 93 #[.val (.int p0), .val (.int p1), .val (.int p2), .val (.int p3), .val (.int q4), .val (.int q5), .val (.ref b5)] [(.ref b5)])) (fun _ k_ => XS.aload X26.here hx rfl (hb hby at_91) rfl rfl  k_) ?_
      refine own_k (T' := T26) (g' := (mkF m 94 #[.val (.int p0), .val (.int p1), .val (.int p2), .val (.int p3), .val (.int q4), .val (.int q5), .val (.ref b5)] [(.int (2 : Int32)), (.ref b5)])) (fun _ k_ => XS.iconst X26.here hx rfl (hb hby at_93) k_) ?_
      refine own_callV X26 hx hZ (C := "com/example/control_design_check/controldesigncheck/lts/IntBlocks") (y := (⟨"com/example/control_design_check/controldesigncheck/lts/IntBlocks", "get", "(I)I"⟩ : MethodName)) (z := (⟨"com/example/control_design_check/controldesigncheck/lts/IntBlocks", "get", "(I)I"⟩ : MethodName)) hown (hw _ (List.mem_of_getElem? (i := 43) rfl)) (hw _ (List.mem_of_getElem? (i := 44) rfl)) (notFace_of_selects (args := #[]) (mvT hZ (hw _ (List.mem_of_getElem? (i := 46) rfl)))) (hw _ (List.mem_of_getElem? (i := 46) rfl)) (hw _ (List.mem_of_getElem? (i := 45) rfl)) (hw _ (List.mem_of_getElem? (i := 47) rfl)) (hw _ (List.mem_of_getElem? (i := 2) rfl)) (by decide) (al := [(.int (2 : Int32))]) q20_6 (rm_get_15 l Z a0 hW b5 b6_0 k6_3 b6_1 k6_4 b20_0 k20_1 ((p0 - (32768 : Int32)) + (((p0 - (p0 - (32768 : Int32))).toInt16.toInt32) &&& (65535 : Int32))) ((p0 - (32768 : Int32)) + (((q4 - (p0 - (32768 : Int32))).toInt16.toInt32) &&& (65535 : Int32))) q5 T20.heap O20' q20_5 q20_2 q20_8 q20_0 q20_9) 0 (by decide) (by decide) e26 (by decide) (by decide) (by rw [hml]; rfl) (lenOf pd__28I_29I rfl) rfl (rest := []) (by show 2 * 0 + _ ≤ _; exact Nat.le_of_eq rfl) (hb hby at_94) ?_
      intro v27 T27 L27 X27 hQ27
      obtain ⟨rfl, Nq27, e27⟩ := hQ27
      have N27 := Fr.app N26 Nq27
      show own_Go p e below Φ T27 (mkF m 97 #[.val (.int p0), .val (.int p1), .val (.int p2), .val (.int p3), .val (.int q4), .val (.int q5), .val (.ref b5)] [(.int q5)])
      refine own_k (T' := T27) (g' := (mkF m 99 #[.val (.int p0), .val (.int p1), .val (.int p2), .val (.int p3), .val (.int q4), .val (.int q5), .val (.ref b5)] [(.int q5), (.int q5)])) (fun _ k_ => XS.iload X27.here hx rfl (hb hby at_97) rfl  k_) ?_
      refine own_k (T' := T27) (g' := (mkF m 102 #[.val (.int p0), .val (.int p1), .val (.int p2), .val (.int p3), .val (.int q4), .val (.int q5), .val (.ref b5)] [])) (fun _ k_ => XS.icmpNo X27.here hx rfl (hb hby at_99) rfl ((teq rfl).2) k_) ?_
      refine own_k (T' := T27) (g' := (mkF m 103 #[.val (.int p0), .val (.int p1), .val (.int p2), .val (.int p3), .val (.int q4), .val (.int q5), .val (.ref b5)] [(.int (1 : Int32))])) (fun _ k_ => XS.iconst X27.here hx rfl (hb hby at_102) k_) ?_
      refine own_k (T' := T27) (g' := (mkF m 107 #[.val (.int p0), .val (.int p1), .val (.int p2), .val (.int p3), .val (.int q4), .val (.int q5), .val (.ref b5)] [(.int (1 : Int32))])) (fun _ k_ => XS.goto X27.here hx rfl (pc0 := 103) (pc' := 107) rfl (hb hby at_103) (by decide) (by decide) k_) ?_
      exact own_retN X27 hx (t := .boolean) hret (by simp) hlk (hb hby at_107) hF (⟨by rw [show nar .boolean (1 : Int32) = (1 : Int32) from by decide], N27, trivial⟩) (by decide) (by decide)
  · have f29 := (q6_8.keep K7 (ninS nn6_2 (ninS (Ne.symm nn6_0) (ninS (Ne.symm (Nat.ne_of_lt (Nat.lt_of_lt_of_le A5.lt ge6_1))) nin0))))
    refine own_callV X7 hx hZ (C := "com/example/control_design_check/controldesigncheck/lts/IntBlocks") (y := (⟨"com/example/control_design_check/controldesigncheck/lts/IntBlocks", "add", "(I)V"⟩ : MethodName)) (z := (⟨"com/example/control_design_check/controldesigncheck/lts/IntBlocks", "add", "(I)V"⟩ : MethodName)) hown (hw _ (List.mem_of_getElem? (i := 20) rfl)) (hw _ (List.mem_of_getElem? (i := 21) rfl)) (notFace_of_selects (args := #[]) (mvT hZ (hw _ (List.mem_of_getElem? (i := 23) rfl)))) (hw _ (List.mem_of_getElem? (i := 23) rfl)) (hw _ (List.mem_of_getElem? (i := 22) rfl)) (hw _ (List.mem_of_getElem? (i := 24) rfl)) (hw _ (List.mem_of_getElem? (i := 2) rfl)) (by decide) (al := [(.int q4)]) q7_7 (rm_add_17 l Z a0 hW b5 q4 b6_0 k6_3 b7_0 k7_1 ((p0 - (p0 - (32768 : Int32))).toInt16.toInt32) b6_2 k6_5 (p0 - (32768 : Int32)) b6_1 k6_4 T7.heap O7' q7_4 q7_6 q7_2 q7_9 q7_7 q7_5 q7_0 hc8 q7_8 f29 q6_9 (Nat.le_trans O5'.2.1 ge6_1) (Nat.ne_of_lt (Nat.lt_of_lt_of_le A5.lt ge6_1)) nn6_0 (Nat.le_trans O5'.2.1 ge6_0) (Ne.symm nn6_0) (Nat.ne_of_lt (Nat.lt_of_lt_of_le A5.lt ge6_0)) (Nat.le_trans O0.2.1 (Nat.le_of_eq g5.symm)) (Ne.symm (Nat.ne_of_lt (Nat.lt_of_lt_of_le A5.lt ge6_1))) (q6_10.keep K7) (Ne.symm (Nat.ne_of_lt (Nat.lt_of_lt_of_le A5.lt ge6_0))) q7_3) 0 (by decide) (by decide) rfl (by decide) (by decide) (by rw [hml]; rfl) (lenOf pd__28I_29V rfl) rfl (rest := []) (by show 2 * 0 + _ ≤ _; exact Nat.le_of_eq rfl) (hb hby at_51) ?_
    intro v28 T28 L28 X28 hQ28
    obtain ⟨b28_0, k28_1, rfl, Nq28, K28, ge28_0, q28_0, q28_1, q28_2, q28_3, q28_4, q28_5, q28_6, q28_7, q28_8, q28_9, q28_10⟩ := hQ28
    have N28 := Fr.app N7 Nq28
    have O28' := O7'.keep K28 (allS (Nat.le_trans O5'.2.1 ge6_1) (allS (Nat.le_trans O5'.2.1 ge6_0) (allS (Nat.le_trans O0.2.1 (Nat.le_of_eq g5.symm)) all0)))
    show own_Go p e below Φ T28 (mkF m 54 #[.val (.int p0), .val (.int p1), .val (.int p2), .val (.int p3), .val (.int q4), .val (.int q5), .val (.ref b5)] [])
    refine own_k (T' := T28) (g' := (mkF m 56 #[.val (.int p0), .val (.int p1), .val (.int p2), .val (.int p3), .val (.int q4), .val (.int q5), .val (.ref b5)] [(.ref b5)])) (fun _ k_ => XS.aload X28.here hx rfl (hb hby at_54) rfl rfl  k_) ?_
    refine own_k (T' := T28) (g' := (mkF m 58 #[.val (.int p0), .val (.int p1), .val (.int p2), .val (.int p3), .val (.int q4), .val (.int q5), .val (.ref b5)] [(.int q5), (.ref b5)])) (fun _ k_ => XS.iload X28.here hx rfl (hb hby at_56) rfl  k_) ?_
    have f31 := (q7_0.keep K28 (ninS (Ne.symm nn6_2) (ninS (Ne.symm nn6_1) (ninS (Ne.symm (Nat.ne_of_lt (Nat.lt_of_lt_of_le A5.lt ge6_2))) nin0))))
    refine own_callV X28 hx hZ (C := "com/example/control_design_check/controldesigncheck/lts/IntBlocks") (y := (⟨"com/example/control_design_check/controldesigncheck/lts/IntBlocks", "add", "(I)V"⟩ : MethodName)) (z := (⟨"com/example/control_design_check/controldesigncheck/lts/IntBlocks", "add", "(I)V"⟩ : MethodName)) hown (hw _ (List.mem_of_getElem? (i := 20) rfl)) (hw _ (List.mem_of_getElem? (i := 21) rfl)) (notFace_of_selects (args := #[]) (mvT hZ (hw _ (List.mem_of_getElem? (i := 23) rfl)))) (hw _ (List.mem_of_getElem? (i := 23) rfl)) (hw _ (List.mem_of_getElem? (i := 22) rfl)) (hw _ (List.mem_of_getElem? (i := 24) rfl)) (hw _ (List.mem_of_getElem? (i := 2) rfl)) (by decide) (al := [(.int q5)]) q28_6 (rm_add_19 l Z a0 hW b5 q5 b6_0 k6_3 b6_1 k6_4 b28_0 k28_1 ((p0 - (32768 : Int32)) + (((p0 - (p0 - (32768 : Int32))).toInt16.toInt32) &&& (65535 : Int32))) q4 b6_2 k6_5 (p0 - (32768 : Int32)) T28.heap O28' q28_4 q28_5 q28_2 q28_8 q28_0 q28_9 q28_6 q28_7 f31 (Nat.le_trans O7'.2.1 ge28_0) (Nat.ne_of_lt (Nat.lt_of_lt_of_le (Nat.lt_of_lt_of_le (Nat.lt_of_lt_of_le A5.lt K6.1) K7.1) ge28_0)) (Nat.le_trans O0.2.1 (Nat.le_of_eq g5.symm)) (Ne.symm (Nat.ne_of_lt (Nat.lt_of_lt_of_le (Nat.lt_of_lt_of_le (Nat.lt_of_lt_of_le A5.lt K6.1) K7.1) ge28_0))) q28_10) 0 (by decide) (by decide) rfl (by decide) (by decide) (by rw [hml]; rfl) (lenOf pd__28I_29V rfl) rfl (rest := []) (by show 2 * 0 + _ ≤ _; exact Nat.le_of_eq rfl) (hb hby at_58) ?_
    intro v30 T30 L30 X30 hQ30
    obtain ⟨rfl, Nq30, K30, q30_0, q30_1, q30_2, q30_3, q30_4, q30_5, q30_6⟩ := hQ30
    have N30 := Fr.app N28 Nq30
    have O30' := O28'.keep K30 (allS (Nat.le_trans O7'.2.1 ge28_0) (allS (Nat.le_trans O0.2.1 (Nat.le_of_eq g5.symm)) all0))
    show own_Go p e below Φ T30 (mkF m 61 #[.val (.int p0), .val (.int p1), .val (.int p2), .val (.int p3), .val (.int q4), .val (.int q5), .val (.ref b5)] [])
    refine own_k (T' := T30) (g' := (mkF m 63 #[.val (.int p0), .val (.int p1), .val (.int p2), .val (.int p3), .val (.int q4), .val (.int q5), .val (.ref b5)] [(.ref b5)])) (fun _ k_ => XS.aload X30.here hx rfl (hb hby at_61) rfl rfl  k_) ?_
    refine own_callV X30 hx hZ (C := "com/example/control_design_check/controldesigncheck/lts/IntBlocks") (y := (⟨"com/example/control_design_check/controldesigncheck/lts/IntBlocks", "size", "()I"⟩ : MethodName)) (z := (⟨"com/example/control_design_check/controldesigncheck/lts/IntBlocks", "size", "()I"⟩ : MethodName)) hown (hw _ (List.mem_of_getElem? (i := 38) rfl)) (hw _ (List.mem_of_getElem? (i := 39) rfl)) (notFace_of_selects (args := #[]) (mvT hZ (hw _ (List.mem_of_getElem? (i := 41) rfl)))) (hw _ (List.mem_of_getElem? (i := 41) rfl)) (hw _ (List.mem_of_getElem? (i := 40) rfl)) (hw _ (List.mem_of_getElem? (i := 42) rfl)) (hw _ (List.mem_of_getElem? (i := 2) rfl)) (by decide) (al := []) q30_5 (rm_size_7 l Z a0 hW b5 T30.heap O30' q30_2) 0 (by decide) (by decide) rfl (by decide) (by decide) (by rw [hml]; rfl) (lenOf pd__28_29I rfl) rfl (rest := []) (by show 2 * 0 + _ ≤ _; exact Nat.le_of_eq rfl) (hb hby at_63) ?_
    intro v32 T32 L32 X32 hQ32
    obtain ⟨rfl, Nq32, e32⟩ := hQ32
    have N32 := Fr.app N30 Nq32
    show own_Go p e below Φ T32 (mkF m 66 #[.val (.int p0), .val (.int p1), .val (.int p2), .val (.int p3), .val (.int q4), .val (.int q5), .val (.ref b5)] [(.int (3 : Int32))])
    refine own_k (T' := T32) (g' := (mkF m 67 #[.val (.int p0), .val (.int p1), .val (.int p2), .val (.int p3), .val (.int q4), .val (.int q5), .val (.ref b5)] [(.int (3 : Int32)), (.int (3 : Int32))])) (fun _ k_ => XS.iconst X32.here hx rfl (hb hby at_66) k_) ?_
    refine own_k (T' := T32) (g' := (mkF m 70 #[.val (.int p0), .val (.int p1), .val (.int p2), .val (.int p3), .val (.int q4), .val (.int q5), .val (.ref b5)] [])) (fun _ k_ => XS.icmpNo X32.here hx rfl (hb hby at_67) rfl ((teq (by decide : ((3 : Int32) = (3 : Int32)))).2) k_) ?_
    refine own_k (T' := T32) (g' := (mkF m 72 #[.val (.int p0), .val (.int p1), .val (.int p2), .val (.int p3), .val (.int q4), .val (.int q5), .val (.ref b5)] [(.ref b5)])) (fun _ k_ => XS.aload X32.here hx rfl (hb hby at_70) rfl rfl  k_) ?_
    refine own_k (T' := T32) (g' := (mkF m 73 #[.val (.int p0), .val (.int p1), .val (.int p2), .val (.int p3), .val (.int q4), .val (.int q5), .val (.ref b5)] [(.int (0 : Int32)), (.ref b5)])) (fun _ k_ => XS.iconst X32.here hx rfl (hb hby at_72) k_) ?_
    have f34 := (q28_2.keep K30 (ninS (Nat.ne_of_lt (Nat.lt_of_lt_of_le (Nat.lt_of_lt_of_le q6_5.lt K7.1) ge28_0)) (ninS (Ne.symm (Nat.ne_of_lt (Nat.lt_of_lt_of_le A5.lt ge6_0))) nin0)))
    have f35 := (q28_0.keep K30 (ninS (Nat.ne_of_lt (Nat.lt_of_lt_of_le (Nat.lt_of_lt_of_le q6_8.lt K7.1) ge28_0)) (ninS (Ne.symm (Nat.ne_of_lt (Nat.lt_of_lt_of_le A5.lt ge6_1))) nin0)))
    refine own_callV X32 hx hZ (C := "com/example/control_design_check/controldesigncheck/lts/IntBlocks") (y := (⟨"com/example/control_design_check/controldesigncheck/lts/IntBlocks", "get", "(I)I"⟩ : MethodName)) (z := (⟨"com/example/control_design_check/controldesigncheck/lts/IntBlocks", "get", "(I)I"⟩ : MethodName)) hown (hw _ (List.mem_of_getElem? (i := 43) rfl)) (hw _ (List.mem_of_getElem? (i := 44) rfl)) (notFace_of_selects (args := #[]) (mvT hZ (hw _ (List.mem_of_getElem? (i := 46) rfl)))) (hw _ (List.mem_of_getElem? (i := 46) rfl)) (hw _ (List.mem_of_getElem? (i := 45) rfl)) (hw _ (List.mem_of_getElem? (i := 47) rfl)) (hw _ (List.mem_of_getElem? (i := 2) rfl)) (by decide) (al := [(.int (0 : Int32))]) q30_5 (rm_get_13 l Z a0 hW b5 b6_0 k6_3 b6_1 k6_4 b28_0 k28_1 ((p0 - (32768 : Int32)) + (((p0 - (p0 - (32768 : Int32))).toInt16.toInt32) &&& (65535 : Int32))) q4 q5 T30.heap O30' q30_3 f34 q30_4 f35 q30_0) 0 (by decide) (by decide) e32 (by decide) (by decide) (by rw [hml]; rfl) (lenOf pd__28I_29I rfl) rfl (rest := []) (by show 2 * 0 + _ ≤ _; exact Nat.le_of_eq rfl) (hb hby at_73) ?_
    intro v33 T33 L33 X33 hQ33
    obtain ⟨rfl, Nq33, e33⟩ := hQ33
    have N33 := Fr.app N32 Nq33
    show own_Go p e below Φ T33 (mkF m 76 #[.val (.int p0), .val (.int p1), .val (.int p2), .val (.int p3), .val (.int q4), .val (.int q5), .val (.ref b5)] [(.int ((p0 - (32768 : Int32)) + (((p0 - (p0 - (32768 : Int32))).toInt16.toInt32) &&& (65535 : Int32))))])
    refine own_k (T' := T33) (g' := (mkF m 77 #[.val (.int p0), .val (.int p1), .val (.int p2), .val (.int p3), .val (.int q4), .val (.int q5), .val (.ref b5)] [(.int p0), (.int ((p0 - (32768 : Int32)) + (((p0 - (p0 - (32768 : Int32))).toInt16.toInt32) &&& (65535 : Int32))))])) (fun _ k_ => XS.iloadN X33.here hx rfl (hb hby at_76) rfl  k_) ?_
    refine own_k (T' := T33) (g' := (mkF m 80 #[.val (.int p0), .val (.int p1), .val (.int p2), .val (.int p3), .val (.int q4), .val (.int q5), .val (.ref b5)] [])) (fun _ k_ => XS.icmpNo X33.here hx rfl (hb hby at_77) rfl ((teq (own_rt (p0 - (32768 : Int32)) p0 (own_z p0))).2) k_) ?_
    refine own_k (T' := T33) (g' := (mkF m 82 #[.val (.int p0), .val (.int p1), .val (.int p2), .val (.int p3), .val (.int q4), .val (.int q5), .val (.ref b5)] [(.ref b5)])) (fun _ k_ => XS.aload X33.here hx rfl (hb hby at_80) rfl rfl  k_) ?_
    refine own_k (T' := T33) (g' := (mkF m 83 #[.val (.int p0), .val (.int p1), .val (.int p2), .val (.int p3), .val (.int q4), .val (.int q5), .val (.ref b5)] [(.int (1 : Int32)), (.ref b5)])) (fun _ k_ => XS.iconst X33.here hx rfl (hb hby at_82) k_) ?_
    refine own_callV X33 hx hZ (C := "com/example/control_design_check/controldesigncheck/lts/IntBlocks") (y := (⟨"com/example/control_design_check/controldesigncheck/lts/IntBlocks", "get", "(I)I"⟩ : MethodName)) (z := (⟨"com/example/control_design_check/controldesigncheck/lts/IntBlocks", "get", "(I)I"⟩ : MethodName)) hown (hw _ (List.mem_of_getElem? (i := 43) rfl)) (hw _ (List.mem_of_getElem? (i := 44) rfl)) (notFace_of_selects (args := #[]) (mvT hZ (hw _ (List.mem_of_getElem? (i := 46) rfl)))) (hw _ (List.mem_of_getElem? (i := 46) rfl)) (hw _ (List.mem_of_getElem? (i := 45) rfl)) (hw _ (List.mem_of_getElem? (i := 47) rfl)) (hw _ (List.mem_of_getElem? (i := 2) rfl)) (by decide) (al := [(.int (1 : Int32))]) q30_5 (rm_get_14 l Z a0 hW b5 b6_0 k6_3 b6_1 k6_4 b28_0 k28_1 ((p0 - (32768 : Int32)) + (((p0 - (p0 - (32768 : Int32))).toInt16.toInt32) &&& (65535 : Int32))) q4 q5 T30.heap O30' q30_3 f34 q30_4 f35 q30_0) 0 (by decide) (by decide) e33 (by decide) (by decide) (by rw [hml]; rfl) (lenOf pd__28I_29I rfl) rfl (rest := []) (by show 2 * 0 + _ ≤ _; exact Nat.le_of_eq rfl) (hb hby at_83) ?_
    intro v36 T36 L36 X36 hQ36
    obtain ⟨rfl, Nq36, e36⟩ := hQ36
    have N36 := Fr.app N33 Nq36
    show own_Go p e below Φ T36 (mkF m 86 #[.val (.int p0), .val (.int p1), .val (.int p2), .val (.int p3), .val (.int q4), .val (.int q5), .val (.ref b5)] [(.int q4)])
    refine own_k (T' := T36) (g' := (mkF m 88 #[.val (.int p0), .val (.int p1), .val (.int p2), .val (.int p3), .val (.int q4), .val (.int q5), .val (.ref b5)] [(.int q4), (.int q4)])) (fun _ k_ => XS.iload X36.here hx rfl (hb hby at_86) rfl  k_) ?_
    refine own_k (T' := T36) (g' := (mkF m 91 #[.val (.int p0), .val (.int p1), .val (.int p2), .val (.int p3), .val (.int q4), .val (.int q5), .val (.ref b5)] [])) (fun _ k_ => XS.icmpNo X36.here hx rfl (hb hby at_88) rfl ((teq rfl).2) k_) ?_
    refine own_k (T' := T36) (g' := (mkF m 93 #[.val (.int p0), .val (.int p1), .val (.int p2), .val (.int p3), .val (.int q4), .val (.int q5), .val (.ref b5)] [(.ref b5)])) (fun _ k_ => XS.aload X36.here hx rfl (hb hby at_91) rfl rfl  k_) ?_
    refine own_k (T' := T36) (g' := (mkF m 94 #[.val (.int p0), .val (.int p1), .val (.int p2), .val (.int p3), .val (.int q4), .val (.int q5), .val (.ref b5)] [(.int (2 : Int32)), (.ref b5)])) (fun _ k_ => XS.iconst X36.here hx rfl (hb hby at_93) k_) ?_
    refine own_callV X36 hx hZ (C := "com/example/control_design_check/controldesigncheck/lts/IntBlocks") (y := (⟨"com/example/control_design_check/controldesigncheck/lts/IntBlocks", "get", "(I)I"⟩ : MethodName)) (z := (⟨"com/example/control_design_check/controldesigncheck/lts/IntBlocks", "get", "(I)I"⟩ : MethodName)) hown (hw _ (List.mem_of_getElem? (i := 43) rfl)) (hw _ (List.mem_of_getElem? (i := 44) rfl)) (notFace_of_selects (args := #[]) (mvT hZ (hw _ (List.mem_of_getElem? (i := 46) rfl)))) (hw _ (List.mem_of_getElem? (i := 46) rfl)) (hw _ (List.mem_of_getElem? (i := 45) rfl)) (hw _ (List.mem_of_getElem? (i := 47) rfl)) (hw _ (List.mem_of_getElem? (i := 2) rfl)) (by decide) (al := [(.int (2 : Int32))]) q30_5 (rm_get_15 l Z a0 hW b5 b6_0 k6_3 b6_1 k6_4 b28_0 k28_1 ((p0 - (32768 : Int32)) + (((p0 - (p0 - (32768 : Int32))).toInt16.toInt32) &&& (65535 : Int32))) q4 q5 T30.heap O30' q30_3 f34 q30_4 f35 q30_0) 0 (by decide) (by decide) e36 (by decide) (by decide) (by rw [hml]; rfl) (lenOf pd__28I_29I rfl) rfl (rest := []) (by show 2 * 0 + _ ≤ _; exact Nat.le_of_eq rfl) (hb hby at_94) ?_
    intro v37 T37 L37 X37 hQ37
    obtain ⟨rfl, Nq37, e37⟩ := hQ37
    have N37 := Fr.app N36 Nq37
    show own_Go p e below Φ T37 (mkF m 97 #[.val (.int p0), .val (.int p1), .val (.int p2), .val (.int p3), .val (.int q4), .val (.int q5), .val (.ref b5)] [(.int q5)])
    refine own_k (T' := T37) (g' := (mkF m 99 #[.val (.int p0), .val (.int p1), .val (.int p2), .val (.int p3), .val (.int q4), .val (.int q5), .val (.ref b5)] [(.int q5), (.int q5)])) (fun _ k_ => XS.iload X37.here hx rfl (hb hby at_97) rfl  k_) ?_
    refine own_k (T' := T37) (g' := (mkF m 102 #[.val (.int p0), .val (.int p1), .val (.int p2), .val (.int p3), .val (.int q4), .val (.int q5), .val (.ref b5)] [])) (fun _ k_ => XS.icmpNo X37.here hx rfl (hb hby at_99) rfl ((teq rfl).2) k_) ?_
    refine own_k (T' := T37) (g' := (mkF m 103 #[.val (.int p0), .val (.int p1), .val (.int p2), .val (.int p3), .val (.int q4), .val (.int q5), .val (.ref b5)] [(.int (1 : Int32))])) (fun _ k_ => XS.iconst X37.here hx rfl (hb hby at_102) k_) ?_
    refine own_k (T' := T37) (g' := (mkF m 107 #[.val (.int p0), .val (.int p1), .val (.int p2), .val (.int p3), .val (.int q4), .val (.int q5), .val (.ref b5)] [(.int (1 : Int32))])) (fun _ k_ => XS.goto X37.here hx rfl (pc0 := 103) (pc' := 107) rfl (hb hby at_103) (by decide) (by decide) k_) ?_
    exact own_retN X37 hx (t := .boolean) hret (by simp) hlk (hb hby at_107) hF (⟨by rw [show nar .boolean (1 : Int32) = (1 : Int32) from by decide], N37, trivial⟩) (by decide) (by decide)
set_option maxRecDepth 65536 in
set_option maxHeartbeats 40000000 in
theorem comes_1 {Post : Tables → Env → Array Value → State → Outcome → State → Prop} (hpost : ∀ tb e args s v u, (limb_1_1.after args s (.returned v) u = true ∧ limb_1_2.after args s (.returned v) u = true ∧ True) → FrameEnd s (.returned v) u (Jvm.fieldLocs frame_1_writes args s ++ Jvm.arrayLocs frame_1_arrays args s ++ Jvm.staticLocs frame_1_statics s) 24 192 → Post tb e args s (.returned v) u) :
    ArmFor flags0 classFile x code maxLocals ret World_1 tables_1 room_1 Calls_1 rest_1 Pre_1 Post := by
  intro l hfl _ _ p e ha hc hk s m args below hf hA hF happ hP
  obtain ⟨hcalls, hrest, hpre⟩ := hP
  obtain ⟨-, -, -, hnamed, -, -, -, hat⟩ := (Spec.applies_iff hf).mp happ
  obtain ⟨hg, hn⟩ := and_e (Cond.before_iff.mp (show (Jvm.Cond.and given_1 narrow_1).before args s = true from hpre))
  obtain ⟨g1, g2⟩ := and_e hg
  obtain ⟨g3, g4⟩ := and_e g2
  obtain ⟨g5, g6⟩ := and_e g4
  obtain ⟨g7, g8⟩ := and_e g6
  obtain ⟨w0, w1, w2, w3, rfl⟩ : ∃ w0 w1 w2 w3 : Value, args = #[w0, w1, w2, w3] := by
    have hs : args.size = 4 := by simpa [Cond.value, given_1] using g1
    obtain ⟨L⟩ := args
    match L, hs with
    | [w0, w1, w2, w3], _ => exact ⟨w0, w1, w2, w3, rfl⟩
  have hw := fun d (hd : d ∈ tables_1) => atoms_spec (ws := Jvm.Cond.code x code maxLocals ret :: tables_1) hat d (List.mem_cons_of_mem _ hd)
  obtain ⟨i0, ei0⟩ := is_v g3
  obtain rfl : w0 = (.int i0) := Option.some.inj ei0
  obtain ⟨i1, ei1⟩ := is_v g5
  obtain rfl : w1 = (.int i1) := Option.some.inj ei1
  obtain ⟨i2, ei2⟩ := is_v g7
  obtain rfl : w2 = (.int i2) := Option.some.inj ei2
  obtain ⟨i3, ei3⟩ := is_v g8
  obtain rfl : w3 = (.int i3) := Option.some.inj ei3
  obtain ⟨n, o, h1, h2, h3, _, L, rfl, ⟨rfl, N, -⟩, hq⟩ := own_law l s _ hw i0 i1 i2 i3 s.heap (Old.start s)  tables_1 p e ha hc hk s m _ below hf ((Spec.applies_iff_loose hf).mp happ).1 ⟨rfl, State.Warmed39.refl s, rfl⟩ trivial
  refine ⟨n, _, h1, h2, h3, hpost _ _ _ _ _ _ ⟨Cond.after_iff.mpr rfl, Cond.after_iff.mpr (eq_i res_at (Term.int_eval (1)) rfl), trivial⟩ ⟨hq.1, hq.2.1, (hq.2.2.sift fun y hy => Or.inr (N y hy)).mono (by decide) (by decide)⟩⟩
theorem main_1_1 : Claimed_1_1 := comes_1 fun _ _ _ _ _ _ h hF => ⟨h.1, hF⟩
theorem main_1_2 : Claimed_1_2 := comes_1 fun _ _ _ _ _ _ h hF => ⟨h.2.1, hF⟩
end Jvm.Pilot.@@N@@
namespace Jvm.Pilot.@@N@@
open Jvm Jvm.ClassFile Sem Op Lib Jvm.Free Jvm.Stand Jvm.Pilot.@@N@@.Jvm.D
/-! MADE BY PROGRAM (witnessworld.py) out of the Statement's table words and the real class files: 13 classes; the members and pool entries that the words name. The judged class is class 1, her method 1. -/
namespace start1
open Jvm.ClassFile
def u (s : String) : CpInfo := .utf8 (stringToUtf16 s)
/-- a pool by its gaps: so many unusable entries, then the entry; so many at the end -/
def gap : Nat → List CpInfo → List CpInfo
  | 0, r => r
  | n + 1, r => .unusable :: gap n r
def poolList (es : List (Nat × CpInfo)) (last : Nat) : List CpInfo := es.foldr (fun e r => gap e.1 (e.2 :: r)) (gap last [])
def pool (es : List (Nat × CpInfo)) (last : Nat) : Array CpInfo := ⟨poolList es last⟩
def fileOf (pool : Array CpInfo) (this : Nat) (attrs : Array Attribute := #[]) (ms : Array MethodInfo := #[]) (fl : Nat := 33) (sup : Nat := 0) (ifs : Array Nat := #[]) (fds : Array FieldInfo := #[]) : ClassFile where
  minorVersion := 0
  majorVersion := 65
  constantPool := pool
  accessFlags := fl
  thisClass := this
  superClass := sup
  interfaces := ifs
  fields := fds
  methods := ms
  attributes := attrs
def plain (name : String) (sup : Option ClassId) : Class where
  name := name
  kind := .ordinary
  loader := none
  accessFlags := 33
  super := sup
  interfaces := #[]
  cf := none
  fields := #[]
  methods := #[]
  instanceTypes := #[]
  staticTypes := #[]
  resolved := #[]
  callSites := []
  init := .initialized
  statics := none
  mirror := none

def pool0 : Array CpInfo := pool [(5, u "<init>"), (0, u "()V"), (1, .class_ 10), (1, u "java/lang/Object")] 113

def k0c0 : Code := { maxStack := 0, maxLocals := 1, code := object_method_1_code, exceptionTable := #[], attributes := #[] }
def k0m0 : Method := { name := "<init>", desc := "()V", sig := { parameters := [], returnType := none }, accessFlags := 1, code := some k0c0 }
/-- java/lang/Object -/
def k0 : Class := { plain "java/lang/Object" none with
  accessFlags := 33
  interfaces := #[]
  cf := some (fileOf pool0 8 #[] #[{ accessFlags := 1, nameIndex := 5, descriptorIndex := 6, attributes := #[] }] 33 0 #[] #[])
  fields := #[]
  methods := #[k0m0]
  instanceTypes := #[]
  staticTypes := #[]
  resolved := Array.replicate 124 none
  statics := none }

def pool1 : Array CpInfo := pool [(2, .class_ 4), (0, .nameAndType 5 6), (0, u "java/lang/Object"), (0, u "<init>"), (0, u "()V"), (0, .class_ 8), (0, u "com/example/control_design_check/controldesigncheck/lts/IntBlocks"), (0, .methodref 7 3), (0, .methodref 7 11), (0, .nameAndType 12 13), (0, u "add"), (0, u "(I)V"), (0, .methodref 7 15), (0, .nameAndType 16 17), (0, u "size"), (0, u "()I"), (0, .methodref 7 19), (0, .nameAndType 20 21), (0, u "get"), (0, u "(I)I"), (0, .class_ 23), (0, u "com/example/control_design_check/controldesigncheck/lts/IntBlocksGetPinLaw"), (2, u "law"), (0, u "(IIII)Z")] 3

def k1m0 : Method := { name := "<init>", desc := "()V", sig := { parameters := [], returnType := none }, accessFlags := 1, code := none }
def k1c1 : Code := { maxStack := 2, maxLocals := 7, code := code, exceptionTable := #[], attributes := #[] }
def k1m1 : Method := { name := "law", desc := "(IIII)Z", sig := { parameters := [.int, .int, .int, .int], returnType := some .boolean }, accessFlags := 9, code := some k1c1 }
/-- com/example/control_design_check/controldesigncheck/lts/IntBlocksGetPinLaw -/
def k1 : Class := { plain "com/example/control_design_check/controldesigncheck/lts/IntBlocksGetPinLaw" (some 0) with
  accessFlags := 49
  interfaces := #[]
  cf := some (fileOf pool1 22 #[] #[{ accessFlags := 1, nameIndex := 5, descriptorIndex := 6, attributes := #[] }, { accessFlags := 9, nameIndex := 26, descriptorIndex := 27, attributes := #[] }] 49 2 #[] #[])
  fields := #[]
  methods := #[k1m0, k1m1]
  instanceTypes := #[]
  staticTypes := #[]
  resolved := Array.replicate 31 none
  statics := none }

def pool2 : Array CpInfo := pool [(1, .class_ 2), (0, u "com/example/control_design_check/controldesigncheck/lts/IntBlocks"), (0, .methodref 4 5), (0, .class_ 6), (0, .nameAndType 7 8), (0, u "java/lang/Object"), (0, u "<init>"), (0, u "()V"), (0, .class_ 10), (0, u "[S"), (0, .fieldref 1 12), (0, .nameAndType 13 14), (0, u "narrow"), (0, u "[[S"), (0, .class_ 16), (0, u "[I"), (0, .fieldref 1 18), (0, .nameAndType 19 20), (0, u "wide"), (0, u "[[I"), (0, .fieldref 1 22), (0, .nameAndType 23 16), (0, u "bases"), (0, .fieldref 1 25), (0, .nameAndType 26 27), (0, u "size"), (0, u "I"), (0, .integer 65535), (0, .methodref 1 30), (0, .nameAndType 31 32), (0, u "start"), (0, u "(II)V"), (0, .methodref 1 34), (0, .nameAndType 35 36), (0, u "capacity"), (0, u "(I)I"), (3, .methodref 1 41), (0, .nameAndType 42 32), (0, u "widen"), (6, .integer 32768), (0, u "BLOCK_BITS"), (2, u "BLOCK_SIZE"), (1, u "FIRST_SIZE"), (1, u "BELOW"), (2, u "()I"), (0, u "get"), (1, u "add"), (0, u "(I)V")] 3

def k2c0 : Code := { maxStack := 2, maxLocals := 1, code := prog_69_method_1_code, exceptionTable := #[], attributes := #[] }
def k2m0 : Method := { name := "<init>", desc := "()V", sig := { parameters := [], returnType := none }, accessFlags := 0, code := some k2c0 }
def k2c1 : Code := { maxStack := 1, maxLocals := 1, code := prog_69_method_2_code, exceptionTable := #[], attributes := #[] }
def k2m1 : Method := { name := "size", desc := "()I", sig := { parameters := [], returnType := some .int }, accessFlags := 0, code := some k2c1 }
def k2c2 : Code := { maxStack := 4, maxLocals := 4, code := prog_69_method_3_code, exceptionTable := #[], attributes := #[] }
def k2m2 : Method := { name := "get", desc := "(I)I", sig := { parameters := [.int], returnType := some .int }, accessFlags := 0, code := some k2c2 }
def k2c3 : Code := { maxStack := 3, maxLocals := 5, code := prog_69_method_4_code, exceptionTable := #[], attributes := #[] }
def k2m3 : Method := { name := "add", desc := "(I)V", sig := { parameters := [.int], returnType := none }, accessFlags := 0, code := some k2c3 }
def k2c4 : Code := { maxStack := 5, maxLocals := 6, code := prog_69_method_5_code, exceptionTable := #[], attributes := #[] }
def k2m4 : Method := { name := "start", desc := "(II)V", sig := { parameters := [.int, .int], returnType := none }, accessFlags := 2, code := some k2c4 }
def k2c5 : Code := { maxStack := 2, maxLocals := 2, code := prog_69_method_6_code, exceptionTable := #[], attributes := #[] }
def k2m5 : Method := { name := "capacity", desc := "(I)I", sig := { parameters := [.int], returnType := some .int }, accessFlags := 2, code := some k2c5 }
def k2c6 : Code := { maxStack := 5, maxLocals := 6, code := prog_69_method_8_code, exceptionTable := #[], attributes := #[] }
def k2m6 : Method := { name := "widen", desc := "(II)V", sig := { parameters := [.int, .int], returnType := none }, accessFlags := 2, code := some k2c6 }
/-- com/example/control_design_check/controldesigncheck/lts/IntBlocks -/
def k2 : Class := { plain "com/example/control_design_check/controldesigncheck/lts/IntBlocks" (some 0) with
  accessFlags := 48
  interfaces := #[]
  cf := some (fileOf pool2 1 #[] #[{ accessFlags := 0, nameIndex := 7, descriptorIndex := 8, attributes := #[] }, { accessFlags := 0, nameIndex := 26, descriptorIndex := 60, attributes := #[] }, { accessFlags := 0, nameIndex := 61, descriptorIndex := 36, attributes := #[] }, { accessFlags := 0, nameIndex := 63, descriptorIndex := 64, attributes := #[] }, { accessFlags := 2, nameIndex := 31, descriptorIndex := 32, attributes := #[] }, { accessFlags := 2, nameIndex := 35, descriptorIndex := 36, attributes := #[] }, { accessFlags := 2, nameIndex := 42, descriptorIndex := 32, attributes := #[] }] 48 4 #[] #[{ accessFlags := 26, nameIndex := 50, descriptorIndex := 27, attributes := #[] }, { accessFlags := 26, nameIndex := 53, descriptorIndex := 27, attributes := #[] }, { accessFlags := 26, nameIndex := 55, descriptorIndex := 27, attributes := #[] }, { accessFlags := 26, nameIndex := 57, descriptorIndex := 27, attributes := #[] }, { accessFlags := 2, nameIndex := 13, descriptorIndex := 14, attributes := #[] }, { accessFlags := 2, nameIndex := 19, descriptorIndex := 20, attributes := #[] }, { accessFlags := 2, nameIndex := 23, descriptorIndex := 16, attributes := #[] }, { accessFlags := 2, nameIndex := 26, descriptorIndex := 27, attributes := #[] }])
  fields := #[{ name := "BLOCK_BITS", type := .int, accessFlags := 26, slot := 0, constantValue := 0 }, { name := "BLOCK_SIZE", type := .int, accessFlags := 26, slot := 1, constantValue := 0 }, { name := "FIRST_SIZE", type := .int, accessFlags := 26, slot := 2, constantValue := 0 }, { name := "BELOW", type := .int, accessFlags := 26, slot := 3, constantValue := 0 }, { name := "narrow", type := (.array (.array .short)), accessFlags := 2, slot := 0, constantValue := 0 }, { name := "wide", type := (.array (.array .int)), accessFlags := 2, slot := 1, constantValue := 0 }, { name := "bases", type := (.array .int), accessFlags := 2, slot := 2, constantValue := 0 }, { name := "size", type := .int, accessFlags := 2, slot := 3, constantValue := 0 }]
  methods := #[k2m0, k2m1, k2m2, k2m3, k2m4, k2m5, k2m6]
  instanceTypes := #[(.array (.array .short)), (.array (.array .int)), (.array .int), .int]
  staticTypes := #[.int, .int, .int, .int]
  resolved := Array.replicate 68 none
  statics := none }

def pool3 : Array CpInfo := pool [(1, u "java/lang/Cloneable"), (0, .class_ 1), (0, u "java/lang/Object"), (0, .class_ 3)] 3

/-- java/lang/Cloneable -/
def k3 : Class := { plain "java/lang/Cloneable" (some 0) with
  accessFlags := 1537
  interfaces := #[]
  cf := some (fileOf pool3 2 #[] #[] 1537 4 #[] #[])
  fields := #[]
  methods := #[]
  instanceTypes := #[]
  staticTypes := #[]
  resolved := Array.replicate 8 none
  statics := none }

def pool4 : Array CpInfo := pool [(1, u "java/io/Serializable"), (0, .class_ 1), (0, u "java/lang/Object"), (0, .class_ 3)] 3

/-- java/io/Serializable -/
def k4 : Class := { plain "java/io/Serializable" (some 0) with
  accessFlags := 1537
  interfaces := #[]
  cf := some (fileOf pool4 2 #[] #[] 1537 4 #[] #[])
  fields := #[]
  methods := #[]
  instanceTypes := #[]
  staticTypes := #[]
  resolved := Array.replicate 8 none
  statics := none }

/-- the primitive byte -/
def k5 : Class := { plain "byte" none with kind := .primitive 'B', accessFlags := 0x411 }
/-- [B -/
def k6 : Class := { plain "[B" (some 0) with kind := .array 5 .byte, interfaces := #[3, 4], accessFlags := 1041 }

/-- the primitive int -/
def k7 : Class := { plain "int" none with kind := .primitive 'I', accessFlags := 0x411 }
/-- [I -/
def k8 : Class := { plain "[I" (some 0) with kind := .array 7 .int, interfaces := #[3, 4], accessFlags := 1041 }

/-- the primitive short -/
def k9 : Class := { plain "short" none with kind := .primitive 'S', accessFlags := 0x411 }
/-- [S -/
def k10 : Class := { plain "[S" (some 0) with kind := .array 9 .short, interfaces := #[3, 4], accessFlags := 1041 }

/-- [L[I; -/
def k11 : Class := { plain "[[I" (some 0) with kind := .array 8 (.array .int), interfaces := #[3, 4], accessFlags := 1041 }

/-- [L[S; -/
def k12 : Class := { plain "[[S" (some 0) with kind := .array 10 (.array .short), interfaces := #[3, 4], accessFlags := 1041 }

def heap : Heap := #[{ cls := 12, slots := #[.null], vm := .none },
  { cls := 11, slots := #[.null], vm := .none }]
def classes : Array Class := #[k0, k1, k2, k3, k4, k5, k6, k7, k8, k9, k10, k11, k12]
def interned : List (Array UInt16 × Addr) := []
def slotsUsed : Nat := 2
def theMethod : MethodId := ⟨1, 1⟩
def args0 : Array Value := #[.int 5, .int 5, .int 5, .int 5]
def aboutOver (below : List Frame) : State where
  vm := { classes := classes, interned := interned.toArray }
  heap := heap
  slotsUsed := slotsUsed
  threads := #[{ frames := .invoking theMethod args0 :: below }]
def below0 : List Frame := [.native { method := ⟨0, 0⟩, args := #[] }]
def about1 : State := aboutOver below0
def p0 : Program := .bare "" "" ""
def e0 : Env := launch0.env 0 0 0
theorem w_frames : about1.frames = Frame.invoking theMethod args0 :: below0 := rfl
set_option maxRecDepth 65536 in
theorem w_args : argsFit about1.vm theMethod args0 = true := by decide +kernel
set_option maxRecDepth 65536 in
theorem w_heap : heapFits about1 = true := by decide +kernel
set_option maxRecDepth 65536 in
theorem w_runnable : about1.curStatus? = some .runnable := by decide +kernel
set_option maxRecDepth 65536 in
theorem w_alone : about1.alone = true := by decide +kernel
set_option maxRecDepth 65536 in
theorem w_named : about1.methodNamed? x = some theMethod := by decide +kernel
set_option maxRecDepth 65536 in
theorem w_hears : about1.hears theMethod below0 = true := by decide +kernel
set_option maxRecDepth 65536 in
theorem w_ripe : about1.ripe theMethod args0 below0 = true := by decide +kernel
theorem w_running : about1.status = .running := rfl
set_option maxRecDepth 65536 in
theorem w_room : about1.hasRoom e0.platform room_1 = true :=
  launch0.hasRoom_least _ room_1 (by decide +kernel) (by decide +kernel) (by decide +kernel) (by decide +kernel) (by decide +kernel) (by decide +kernel)
theorem allAtoms_all (ts : List Jvm.Cond) (a : Array Jvm.Value) (st : Jvm.State) : (allAtoms ts).before a st = ts.all (fun c => c.before a st) := by
  induction ts with
  | nil => rfl
  | cons c t ih =>
    show (Jvm.Cond.and c (allAtoms t)).before a st = _
    rw [Jvm.Cond.before_and, ih, List.all_cons]
def words1 : List Jvm.Cond := Jvm.Cond.code x code maxLocals ret :: tables_1
/-- a 'code' word, met by the world's own term for the bytes: nothing is compared byte by byte -/
theorem code_word {y : MethodName} {bytes : ByteArray} {mx : Nat} {rt : Option FieldType} {a : Array Value} {s : State} {m : MethodId} {meth : Method} {c : Code} (h1 : s.methodNamed? y = some m) (h2 : s.vm.method? m = some meth) (h3 : meth.code = some c) (h4 : c.code = bytes)
    (h5 : (c.maxLocals == mx && c.exceptionTable.isEmpty && decide (c.maxStack ≤ mostOperands) && decide (meth.sig.returnType = rt) && !meth.locks && decide (parseMethodDescriptor y.desc = some meth.sig)) = true) : (Jvm.Cond.code y bytes mx rt).before a s = true := by
  simp only [Bool.and_eq_true, beq_iff_eq, Bool.not_eq_true', decide_eq_true_eq] at h5
  obtain ⟨⟨⟨⟨⟨g1, g2⟩, g3⟩, g4⟩, g5⟩, g6⟩ := h5
  simp [Cond.before, Cond.holds, Cond.value, h1, h2, h3, h4, g1, g2, g3, g4, g5, g6]
def isCode : Jvm.Cond → Bool
  | .code _ _ _ _ => true
  | _ => false
theorem all_split {L : List Jvm.Cond} {P : Jvm.Cond → Bool} (h1 : L.all (fun c => isCode c || P c) = true) (h2 : ∀ c ∈ L.filter isCode, P c = true) : L.all P = true := by
  refine List.all_eq_true.mpr fun c hc => ?_
  have h := List.all_eq_true.mp h1 c hc
  rcases Bool.eq_false_or_eq_true (isCode c) with hi | hi
  · exact h2 c (List.mem_filter.mpr ⟨hc, hi⟩)
  · simpa [hi] using h
set_option maxRecDepth 65536 in
theorem w_c0 : (Jvm.Cond.code x code maxLocals ret).before args0 about1 = true := code_word (m := ⟨1, 1⟩) (meth := k1m1) (c := k1c1) (by decide +kernel) rfl rfl rfl (by decide +kernel)
set_option maxRecDepth 65536 in
theorem w_c1 : (Jvm.Cond.code ({ cls := "com/example/control_design_check/controldesigncheck/lts/IntBlocks", name := "<init>", desc := "()V" } : Jvm.MethodName) prog_69_method_1_code (1 : Nat) (Option.none : Option Jvm.ClassFile.FieldType)).before args0 about1 = true := code_word (m := ⟨2, 0⟩) (meth := k2m0) (c := k2c0) (by decide +kernel) rfl rfl rfl (by decide +kernel)
set_option maxRecDepth 65536 in
theorem w_c2 : (Jvm.Cond.code ({ cls := "java/lang/Object", name := "<init>", desc := "()V" } : Jvm.MethodName) object_method_1_code (1 : Nat) (Option.none : Option Jvm.ClassFile.FieldType)).before args0 about1 = true := code_word (m := ⟨0, 0⟩) (meth := k0m0) (c := k0c0) (by decide +kernel) rfl rfl rfl (by decide +kernel)
set_option maxRecDepth 65536 in
theorem w_c3 : (Jvm.Cond.code ({ cls := "com/example/control_design_check/controldesigncheck/lts/IntBlocks", name := "add", desc := "(I)V" } : Jvm.MethodName) prog_69_method_4_code (5 : Nat) (Option.none : Option Jvm.ClassFile.FieldType)).before args0 about1 = true := code_word (m := ⟨2, 3⟩) (meth := k2m3) (c := k2c3) (by decide +kernel) rfl rfl rfl (by decide +kernel)
set_option maxRecDepth 65536 in
theorem w_c4 : (Jvm.Cond.code ({ cls := "com/example/control_design_check/controldesigncheck/lts/IntBlocks", name := "start", desc := "(II)V" } : Jvm.MethodName) prog_69_method_5_code (6 : Nat) (Option.none : Option Jvm.ClassFile.FieldType)).before args0 about1 = true := code_word (m := ⟨2, 4⟩) (meth := k2m4) (c := k2c4) (by decide +kernel) rfl rfl rfl (by decide +kernel)
set_option maxRecDepth 65536 in
theorem w_c5 : (Jvm.Cond.code ({ cls := "com/example/control_design_check/controldesigncheck/lts/IntBlocks", name := "capacity", desc := "(I)I" } : Jvm.MethodName) prog_69_method_6_code (2 : Nat) (Option.some Jvm.ClassFile.FieldType.int)).before args0 about1 = true := code_word (m := ⟨2, 5⟩) (meth := k2m5) (c := k2c5) (by decide +kernel) rfl rfl rfl (by decide +kernel)
set_option maxRecDepth 65536 in
theorem w_c6 : (Jvm.Cond.code ({ cls := "com/example/control_design_check/controldesigncheck/lts/IntBlocks", name := "size", desc := "()I" } : Jvm.MethodName) prog_69_method_2_code (1 : Nat) (Option.some Jvm.ClassFile.FieldType.int)).before args0 about1 = true := code_word (m := ⟨2, 1⟩) (meth := k2m1) (c := k2c1) (by decide +kernel) rfl rfl rfl (by decide +kernel)
set_option maxRecDepth 65536 in
theorem w_c7 : (Jvm.Cond.code ({ cls := "com/example/control_design_check/controldesigncheck/lts/IntBlocks", name := "get", desc := "(I)I" } : Jvm.MethodName) prog_69_method_3_code (4 : Nat) (Option.some Jvm.ClassFile.FieldType.int)).before args0 about1 = true := code_word (m := ⟨2, 2⟩) (meth := k2m2) (c := k2c2) (by decide +kernel) rfl rfl rfl (by decide +kernel)
set_option maxRecDepth 65536 in
theorem w_c8 : (Jvm.Cond.code ({ cls := "com/example/control_design_check/controldesigncheck/lts/IntBlocks", name := "widen", desc := "(II)V" } : Jvm.MethodName) prog_69_method_8_code (6 : Nat) (Option.none : Option Jvm.ClassFile.FieldType)).before args0 about1 = true := code_word (m := ⟨2, 6⟩) (meth := k2m6) (c := k2c6) (by decide +kernel) rfl rfl rfl (by decide +kernel)
def codes1 : List Jvm.Cond := [Jvm.Cond.code x code maxLocals ret, Jvm.Cond.code ({ cls := "com/example/control_design_check/controldesigncheck/lts/IntBlocks", name := "<init>", desc := "()V" } : Jvm.MethodName) prog_69_method_1_code (1 : Nat) (Option.none : Option Jvm.ClassFile.FieldType), Jvm.Cond.code ({ cls := "java/lang/Object", name := "<init>", desc := "()V" } : Jvm.MethodName) object_method_1_code (1 : Nat) (Option.none : Option Jvm.ClassFile.FieldType), Jvm.Cond.code ({ cls := "com/example/control_design_check/controldesigncheck/lts/IntBlocks", name := "add", desc := "(I)V" } : Jvm.MethodName) prog_69_method_4_code (5 : Nat) (Option.none : Option Jvm.ClassFile.FieldType), Jvm.Cond.code ({ cls := "com/example/control_design_check/controldesigncheck/lts/IntBlocks", name := "start", desc := "(II)V" } : Jvm.MethodName) prog_69_method_5_code (6 : Nat) (Option.none : Option Jvm.ClassFile.FieldType), Jvm.Cond.code ({ cls := "com/example/control_design_check/controldesigncheck/lts/IntBlocks", name := "capacity", desc := "(I)I" } : Jvm.MethodName) prog_69_method_6_code (2 : Nat) (Option.some Jvm.ClassFile.FieldType.int), Jvm.Cond.code ({ cls := "com/example/control_design_check/controldesigncheck/lts/IntBlocks", name := "size", desc := "()I" } : Jvm.MethodName) prog_69_method_2_code (1 : Nat) (Option.some Jvm.ClassFile.FieldType.int), Jvm.Cond.code ({ cls := "com/example/control_design_check/controldesigncheck/lts/IntBlocks", name := "get", desc := "(I)I" } : Jvm.MethodName) prog_69_method_3_code (4 : Nat) (Option.some Jvm.ClassFile.FieldType.int), Jvm.Cond.code ({ cls := "com/example/control_design_check/controldesigncheck/lts/IntBlocks", name := "widen", desc := "(II)V" } : Jvm.MethodName) prog_69_method_8_code (6 : Nat) (Option.none : Option Jvm.ClassFile.FieldType)]
set_option maxRecDepth 65536 in
theorem codes_eq : words1.filter isCode = codes1 := rfl
theorem w_codes : ∀ c ∈ words1.filter isCode, c.before args0 about1 = true := by
  rw [codes_eq]
  intro c hc
  simp only [codes1, List.mem_cons, List.not_mem_nil, or_false] at hc
  rcases hc with rfl | rfl | rfl | rfl | rfl | rfl | rfl | rfl | rfl
  · exact w_c0
  · exact w_c1
  · exact w_c2
  · exact w_c3
  · exact w_c4
  · exact w_c5
  · exact w_c6
  · exact w_c7
  · exact w_c8
set_option maxRecDepth 65536 in
theorem w_t1 : (words1.take 24).all (fun c => isCode c || c.before args0 about1) = true := by decide +kernel
set_option maxRecDepth 65536 in
theorem w_t2 : ((words1.drop 24).take 24).all (fun c => isCode c || c.before args0 about1) = true := by decide +kernel
set_option maxRecDepth 65536 in
theorem w_t3 : ((words1.drop 24).drop 24).all (fun c => isCode c || c.before args0 about1) = true := by decide +kernel
theorem w_tables : (allAtoms (Jvm.Cond.code x code maxLocals ret :: tables_1)).before args0 about1 = true := by
  rw [allAtoms_all]
  show words1.all (fun c => c.before args0 about1) = true
  refine all_split ?_ w_codes
  rw [← List.take_append_drop 24 words1, List.all_append, w_t1, ← List.take_append_drop 24 (words1.drop 24), List.all_append, w_t2, w_t3]
  rfl
set_option maxRecDepth 65536 in
theorem w_case : (Jvm.Cond.and given_1 narrow_1).before args0 about1 = true := by decide +kernel
theorem w_applies : (headSpec (Jvm.Cond.code x code maxLocals ret :: tables_1) room_1).applies x e0.platform about1 = true :=
  (Spec.applies_iff w_frames).mpr ⟨w_running, w_runnable, w_alone, w_named, w_hears, w_ripe, w_room, w_tables⟩
theorem atStart : AtStart classFile x code maxLocals ret World_1 tables_1 room_1 Calls_1 rest_1 Pre_1 launch0 p0 e0 about1 theMethod args0 below0 :=
  ⟨lists_1, trivial, launch0.admits_env _ _ _, launch0.least_env, fairChoices_fair.cas, fairChoices_fair.clock, w_frames, w_args, w_heap, w_applies, trivial, trivial, w_case⟩
end start1
theorem witness_1 : WitnessClaimed_1 := ⟨start1.p0, start1.e0, start1.about1, start1.theMethod, start1.args0, start1.below0, start1.atStart⟩
end Jvm.Pilot.@@N@@
