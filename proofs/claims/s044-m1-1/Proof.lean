import JvmDerived
import JvmDerived.Pilot.@@N@@Statement
import JvmDerived.Pilot.@@N@@Code
set_option linter.unusedVariables false
set_option linter.unusedSimpArgs false
namespace Jvm.Pilot.@@N@@
open Jvm Jvm.ClassFile Sem Op Lib Jvm.Free Jvm.Stand Jvm.LawKit Jvm.RoadKit Bundle Jvm.Pilot.@@N@@.Jvm.D
/-! OwnW: the walk as a fact: from s0 it has come to pc with locals L, stack S, heap h; kc cells and ks slots made; written only cells at or above n0. -/
section OwnKit
variable {p : Program} {l : Launch} {e : Env} {R : Room} {s : State} {m : MethodId} {args : Array Value} {below : List Frame} {meth : Method} {c : Code} {s0 : State} {n0 pc pc' : Nat} {L L' : Array Slot} {S S' : List Value} {h h' : Heap} {kc ks : Nat} {Z : State} {a0 : Array Value}
def OwnW {p : Program} {l : Launch} {e : Env} {R : Room} {s : State} {m : MethodId} {args : Array Value} {below : List Frame} {meth : Method} {c : Code} (s0 : State) (n0 pc : Nat) (L : Array Slot) (S : List Value) (h : Heap) (kc ks : Nat) : Prop :=
  ∃ (T : State) (locs : List Loc), Stand p l e R s m args below meth c T locs kc ks ∧ T.heap = h ∧ Fr n0 locs ∧ Steps p.tables e below s0 (T.setTop (mkF m pc L S))
def OwnEnd {p : Program} {l : Launch} {e : Env} {R : Room} {s : State} {m : MethodId} {args : Array Value} {below : List Frame} {meth : Method} {c : Code} (s0 : State) (n0 : Nat) (v : Option Value) (h : Heap) (kc ks : Nat) : Prop :=
  ∃ (T : State) (locs : List Loc), Stand p l e R s m args below meth c T locs kc ks ∧ T.heap = h ∧ Fr n0 locs ∧ (meth.sig.returnType = none → v = none) ∧ ∀ fs : List Frame, (∀ (f : JFrame) (acts : List Action), f.method = m → f.locked = none → f.entered = [] → (doReturn e (T.setTop f) acts v).1 = T.setFrames fs) → Steps p.tables e below s0 (T.setFrames fs)
/-- a callee's contract: with the arguments A on the heap h0 it returns v and leaves h' with Q v h' -/
def OwnCon (l : Launch) (Z : State) (y : MethodName) (bytes : ByteArray) (maxL : Nat) (ret : Option FieldType) (rm : Room) (A : Array Value) (h0 : Heap) (n0 : Nat) (Q : Option Value → Heap → Prop) : Prop :=
  ∀ ws : List Jvm.Cond, MetFree l y (head1 (Jvm.Cond.code y bytes maxL ret :: ws) rm) (fun a U => a = A ∧ Z.Warmed39 U.vm ∧ U.heap = h0) (fun _ _ _ _ _ => True) (fun _ U o U' => ∃ v L, o = .returned v ∧ (Fr n0 L ∧ Q v U'.heap) ∧ FrameEnd U o U' L rm.cells rm.slots)
theorem OwnW.go (r : OwnW (p := p) (l := l) (e := e) (R := R) (s := s) (m := m) (args := args) (below := below) (meth := meth) (c := c) s0 n0 pc L S h kc ks)
    (f : ∀ (T t : State), At T m c below → Steps p.tables e below (T.setTop (mkF m pc' L' S')) t → Steps p.tables e below (T.setTop (mkF m pc L S)) t) :
    OwnW (p := p) (l := l) (e := e) (R := R) (s := s) (m := m) (args := args) (below := below) (meth := meth) (c := c) s0 n0 pc' L' S' h kc ks := by
  obtain ⟨T, ls, X, eT, N, st⟩ := r
  exact ⟨T, ls, X, eT, N, st.trans (f T _ X.here (Steps.refl _))⟩
theorem OwnW.goX (r : OwnW (p := p) (l := l) (e := e) (R := R) (s := s) (m := m) (args := args) (below := below) (meth := meth) (c := c) s0 n0 pc L S h kc ks)
    (f : ∀ (T t : State) (ls : List Loc), Stand p l e R s m args below meth c T ls kc ks → T.heap = h → Steps p.tables e below (T.setTop (mkF m pc' L' S')) t → Steps p.tables e below (T.setTop (mkF m pc L S)) t) :
    OwnW (p := p) (l := l) (e := e) (R := R) (s := s) (m := m) (args := args) (below := below) (meth := meth) (c := c) s0 n0 pc' L' S' h kc ks := by
  obtain ⟨T, ls, X, eT, N, st⟩ := r
  exact ⟨T, ls, X, eT, N, st.trans (f T _ ls X eT (Steps.refl _))⟩
theorem OwnW.goT (r : OwnW (p := p) (l := l) (e := e) (R := R) (s := s) (m := m) (args := args) (below := below) (meth := meth) (c := c) s0 n0 pc L S h kc ks)
    (f : ∀ (T : State) (ls : List Loc), Stand p l e R s m args below meth c T ls kc ks → T.heap = h → ∃ T', Stand p l e R s m args below meth c T' ls kc ks ∧ T'.heap = h ∧ ∀ t, Steps p.tables e below (T'.setTop (mkF m pc' L' S')) t → Steps p.tables e below (T.setTop (mkF m pc L S)) t) :
    OwnW (p := p) (l := l) (e := e) (R := R) (s := s) (m := m) (args := args) (below := below) (meth := meth) (c := c) s0 n0 pc' L' S' h kc ks := by
  obtain ⟨T, ls, X, eT, N, st⟩ := r
  obtain ⟨T', X', eT', st'⟩ := f T ls X eT
  exact ⟨T', ls, X', eT', N, st.trans (st' _ (Steps.refl _))⟩
/-- the same walk, written otherwise -/
theorem OwnW.to (r : OwnW (p := p) (l := l) (e := e) (R := R) (s := s) (m := m) (args := args) (below := below) (meth := meth) (c := c) s0 n0 pc L S h kc ks) (h1 : pc = pc') (h2 : L = L') (h3 : S = S') (h4 : h = h') :
    OwnW (p := p) (l := l) (e := e) (R := R) (s := s) (m := m) (args := args) (below := below) (meth := meth) (c := c) s0 n0 pc' L' S' h' kc ks := by
  subst h1 h2 h3 h4; exact r
theorem OwnW.newO (r : OwnW (p := p) (l := l) (e := e) (R := R) (s := s) (m := m) (args := args) (below := below) (meth := meth) (c := c) s0 n0 pc L S h kc ks)
    (hx : p.tables.exec = Jvm.exec) (hZ : Z.Warmed39 s.vm) {own C : String} {index n : Nat} (hown : s.vm.findClass own = some m.cls) (w : (Jvm.Cond.classLink own index C).before a0 Z = true) (wi : (Jvm.Cond.instantiable C n).before a0 Z = true) (wz : (Jvm.Cond.initialized C).before a0 Z = true)
    (hd : decode c.code pc = .ok (.new index, 3)) (hc : kc + 1 ≤ R.cells) (hl : ks + n ≤ R.slots) :
    ∃ h', OwnW (p := p) (l := l) (e := e) (R := R) (s := s) (m := m) (args := args) (below := below) (meth := meth) (c := c) s0 n0 (pc + 3) L (.ref h.size :: S) h' (kc + 1) (ks + n) ∧ Ext h h' ∧ Exa Z h' h.size C ∧ (∀ {O nm d : String} {ty : FieldType}, Laid Z a0 C O nm d → parseFieldDescriptor d = some ty → Fld Z h' h.size O nm d (defaultValue ty)) := by
  obtain ⟨T, ls, X, eT, N, st⟩ := r
  obtain ⟨T', h', X', e', E, A, D, -, st'⟩ := Jvm.RoadKit.newO X hx hZ hown w wi wz eT (g := mkF m pc L S) rfl hd hc hl
  exact ⟨h', ⟨T', ls, X', e', N, st.trans (st' _ (Steps.refl _))⟩, E, A, D⟩
theorem OwnW.newP (r : OwnW (p := p) (l := l) (e := e) (R := R) (s := s) (m := m) (args := args) (below := below) (meth := meth) (c := c) s0 n0 pc L S h kc ks)
    (hx : p.tables.exec = Jvm.exec) (hZ : Z.Warmed39 s.vm) {aty : ArrayType} (w : (Jvm.Cond.arrayClass (newarray.typeOf aty)).before a0 Z = true) (hd : decode c.code pc = .ok (.newarray aty, 2)) {n : Int32} {rest : List Value} (hs : S = .int n :: rest)
    (hn : ¬ n < 0) {cap : Nat} (hcap : n.toNatClampNeg ≤ cap) (hb : cap * 8 ≤ 536870912) (hc : kc + 1 ≤ R.cells) (hl : ks + cap ≤ R.slots) :
    ∃ h' cA, OwnW (p := p) (l := l) (e := e) (R := R) (s := s) (m := m) (args := args) (below := below) (meth := meth) (c := c) s0 n0 (pc + 2) L (.ref h.size :: rest) h' (kc + 1) (ks + cap) ∧ Ext h h' ∧ Arr Z h' h.size (newA cA (newarray.typeOf aty) n) (newarray.typeOf aty) := by
  obtain ⟨T, ls, X, eT, N, st⟩ := r
  obtain ⟨T', h', cA, X', e', E, A, st'⟩ := Jvm.RoadKit.newP X hx hZ w eT (g := mkF m pc L S) rfl hd hs hn hcap hb hc hl
  exact ⟨h', cA, ⟨T', ls, X', e', N, st.trans (st' _ (Steps.refl _))⟩, E, A⟩
theorem OwnW.getF (r : OwnW (p := p) (l := l) (e := e) (R := R) (s := s) (m := m) (args := args) (below := below) (meth := meth) (c := c) s0 n0 pc L S h kc ks)
    (hx : p.tables.exec = Jvm.exec) (hZ : Z.Warmed39 s.vm) {own O n d : String} {index : Nat} (hown : s.vm.findClass own = some m.cls) (w : (Jvm.Cond.fieldLink own index O n d).before a0 Z = true) {a : Addr} {v : Value} (F : Fld Z h a O n d v)
    {rest : List Value} (hs : S = .ref a :: rest) (hd : decode c.code pc = .ok (.getfield index, 3)) :
    OwnW (p := p) (l := l) (e := e) (R := R) (s := s) (m := m) (args := args) (below := below) (meth := meth) (c := c) s0 n0 (pc + 3) L (v :: rest) h kc ks :=
  r.goT fun T ls X eT => Jvm.RoadKit.getF X hx hZ hown (host := "") (Or.inl w) Via.refl eT F (g := mkF m pc L S) rfl hs hd
theorem OwnW.getS (r : OwnW (p := p) (l := l) (e := e) (R := R) (s := s) (m := m) (args := args) (below := below) (meth := meth) (c := c) s0 n0 pc L S h kc ks)
    (hx : p.tables.exec = Jvm.exec) (hZ : Z.Warmed39 s.vm) {own O n d : String} {index : Nat} (hown : s.vm.findClass own = some m.cls) (w : (Jvm.Cond.fieldLink own index O n d).before a0 Z = true) {v : Value} (F : Sta Z h O n d v)
    (hd : decode c.code pc = .ok (.getstatic index, 3)) :
    OwnW (p := p) (l := l) (e := e) (R := R) (s := s) (m := m) (args := args) (below := below) (meth := meth) (c := c) s0 n0 (pc + 3) L (v :: S) h kc ks :=
  r.goT fun T ls X eT => Jvm.RoadKit.getS X hx hZ (host := "") hown w Via.refl eT F (g := mkF m pc L S) rfl hd
theorem OwnW.putF (r : OwnW (p := p) (l := l) (e := e) (R := R) (s := s) (m := m) (args := args) (below := below) (meth := meth) (c := c) s0 n0 pc L S h kc ks)
    (hx : p.tables.exec = Jvm.exec) (hZ : Z.Warmed39 s.vm) {own O n d C : String} {index kk : Nat} {ty : FieldType} (hown : s.vm.findClass own = some m.cls) (w : (Jvm.Cond.fieldLink own index O n d).before a0 Z = true) {a : Addr} {v old : Value} (F : Fld Z h a O n d old) (E : Exa Z h a C)
    (Lw : (Jvm.Cond.lays C O n d).before a0 Z = true ∨ ((Jvm.Cond.laysFinal C O n d).before a0 Z = true ∧ own = O ∧ meth.name = "<init>")) (wi : (Jvm.Cond.instantiable C kk).before a0 Z = true)
    (hty : parseFieldDescriptor d = some ty) (hn : narrow ty v = v) (hf : fits ty v = true) {rest : List Value} (hs : S = v :: .ref a :: rest) (hd : decode c.code pc = .ok (.putfield index, 3)) (g : n0 ≤ a) :
    ∃ h', OwnW (p := p) (l := l) (e := e) (R := R) (s := s) (m := m) (args := args) (below := below) (meth := meth) (c := c) s0 n0 (pc + 3) L rest h' kc ks ∧ Wr h h' a (Jvm.RoadKit.slotOf Z O n d) v := by
  obtain ⟨T, ls, X, eT, N, st⟩ := r
  obtain ⟨T', h', X', e', W', st'⟩ := Jvm.RoadKit.putF X hx hZ hown (host := "") (Or.inl w) Via.refl eT F E Lw wi hty hn hf (g := mkF m pc L S) rfl hs hd
  exact ⟨h', ⟨T', _, X', e', Fr.snoc X' N g, st.trans (st' _ (Steps.refl _))⟩, W'⟩
theorem OwnW.callS (r : OwnW (p := p) (l := l) (e := e) (R := R) (s := s) (m := m) (args := args) (below := below) (meth := meth) (c := c) s0 n0 pc L S h kc ks)
    (hx : p.tables.exec = Jvm.exec) (hZ : Z.Warmed39 s.vm) {own : String} {index : Nat} {y : MethodName} {bytes : ByteArray} {maxL : Nat} {ret : Option FieldType} {rm : Room} {Q : Option Value → Heap → Prop} (hown : s.vm.findClass own = some m.cls)
    (w1 : (Jvm.Cond.methodLink own index y).before a0 Z = true) (w2 : (Jvm.Cond.static y).before a0 Z = true) (w3 : (Jvm.Cond.initialized y.cls).before a0 Z = true) (w4 : (Jvm.Cond.code y bytes maxL ret).before a0 Z = true)
    (hy : y.cls ≠ "java/lang/invoke/MethodHandle" ∧ y.cls ≠ "java/lang/invoke/VarHandle") {argsL : List Value} (K : OwnCon l Z y bytes maxL ret rm argsL.toArray h n0 Q) (rest : List Value) (W : Nat)
    (hf : rm.frames + 1 ≤ R.frames) (hl : W + (maxL + 11) + rm.locals ≤ R.locals) (hsize : L.size = c.maxLocals) (hlen : ∀ sig, parseMethodDescriptor y.desc = some sig → argsL.length = sig.parameters.length)
    (hs : S = argsL.reverse ++ rest) (hW : (rest.map fun v => v.category).sum ≤ W) (hd : decode c.code pc = .ok (.invokestatic index, 3)) (hc : kc + rm.cells ≤ R.cells) (hsl : ks + rm.slots ≤ R.slots) :
    ∃ v h', OwnW (p := p) (l := l) (e := e) (R := R) (s := s) (m := m) (args := args) (below := below) (meth := meth) (c := c) s0 n0 (pc + 3) L (v.toList ++ rest) h' (kc + rm.cells) (ks + rm.slots) ∧ Q v h' := by
  obtain ⟨T, ls, X, eT, N, st⟩ := r
  obtain ⟨v, vm₁, ⟨T', L', k', n'⟩, -, X', ⟨Lc, hQ, l', y', z'⟩, st'⟩ := Jvm.LawKit.callS X hx (y := y) hown (mvT hZ w1) (mvT hZ w2) (mvT hZ w3) (mvT hZ w4) hy (backOf (W := W) (Q := fun v h L => Fr n0 L ∧ Q v h) (K []) hZ w4 w3 hf hl) (g := mkF m pc L S) rfl hsize (argsL := argsL) (rest := rest) hlen hs (by show 2 * 0 + _ ≤ _; omega) hd (fun _ _ => ⟨rfl, eT, hc, hsl⟩)
  dsimp only [Pt.U, Pt.locs, Pt.cells, Pt.slots] at X' l' y' z' st' hQ
  subst l' y' z'
  exact ⟨v, _, ⟨T', _, X', rfl, N.app hQ.1, st.trans (st' _ (Steps.refl _))⟩, hQ.2⟩
theorem OwnW.callN (r : OwnW (p := p) (l := l) (e := e) (R := R) (s := s) (m := m) (args := args) (below := below) (meth := meth) (c := c) s0 n0 pc L S h kc ks)
    (hx : p.tables.exec = Jvm.exec) (hZ : Z.Warmed39 s.vm) {own : String} {index : Nat} {y : MethodName} {bytes : ByteArray} {maxL : Nat} {rm : Room} {Q : Option Value → Heap → Prop} (hy1 : y.name = "<init>") (hown : s.vm.findClass own = some m.cls)
    (w1 : (Jvm.Cond.methodLink own index y).before a0 Z = true) (w2 : (Jvm.Cond.instanceMethod y).before a0 Z = true) (w3 : (Jvm.Cond.initialized y.cls).before a0 Z = true) (w4 : (Jvm.Cond.code y bytes maxL none).before a0 Z = true)
    (hy : y.cls ≠ "java/lang/invoke/MethodHandle" ∧ y.cls ≠ "java/lang/invoke/VarHandle") {a : Addr} {argsL : List Value} (K : OwnCon l Z y bytes maxL none rm (.ref a :: argsL).toArray h n0 Q) (rest : List Value) (W : Nat)
    (hf : rm.frames + 1 ≤ R.frames) (hl : W + (maxL + 11) + rm.locals ≤ R.locals) (hsize : L.size = c.maxLocals) (hlen : ∀ sig, parseMethodDescriptor y.desc = some sig → argsL.length = sig.parameters.length)
    (hs : S = argsL.reverse ++ .ref a :: rest) (hW : (rest.map fun v => v.category).sum ≤ W) (hd : decode c.code pc = .ok (.invokespecial index, 3)) (hc : kc + rm.cells ≤ R.cells) (hsl : ks + rm.slots ≤ R.slots) :
    ∃ v h', OwnW (p := p) (l := l) (e := e) (R := R) (s := s) (m := m) (args := args) (below := below) (meth := meth) (c := c) s0 n0 (pc + 3) L (v.toList ++ rest) h' (kc + rm.cells) (ks + rm.slots) ∧ Q v h' := by
  obtain ⟨T, ls, X, eT, N, st⟩ := r
  obtain ⟨v, vm₁, ⟨T', L', k', n'⟩, -, X', ⟨Lc, hQ, l', y', z'⟩, st'⟩ := X.specialBack hx (y := y) hy1 hown (mvT hZ w1) (mvT hZ w2) (mvT hZ w4) hy (backOf (W := W) (Q := fun v h L => Fr n0 L ∧ Q v h) (K []) hZ w4 w3 hf hl) (g := mkF m pc L S) rfl hsize st (a := a) (argsL := argsL) (rest := rest) hlen hs (by show 2 * 0 + _ ≤ _; omega) hd (fun _ _ => ⟨rfl, eT, hc, hsl⟩)
  dsimp only [Pt.U, Pt.locs, Pt.cells, Pt.slots] at X' l' y' z' st' hQ
  subst l' y' z'
  exact ⟨v, _, ⟨T', _, X', rfl, N.app hQ.1, st'⟩, hQ.2⟩
theorem OwnW.callV (r : OwnW (p := p) (l := l) (e := e) (R := R) (s := s) (m := m) (args := args) (below := below) (meth := meth) (c := c) s0 n0 pc L S h kc ks)
    (hx : p.tables.exec = Jvm.exec) (hZ : Z.Warmed39 s.vm) {own C : String} {index : Nat} {y z : MethodName} {bytes : ByteArray} {maxL : Nat} {ret : Option FieldType} {rm : Room} {Q : Option Value → Heap → Prop} (hown : s.vm.findClass own = some m.cls)
    (w1 : (Jvm.Cond.methodLink own index y).before a0 Z = true) (w2 : (Jvm.Cond.declares y).before a0 Z = true) (w3 : (Jvm.Cond.selects C y z).before a0 Z = true) (w3' : NotFace s y) (w5 : (Jvm.Cond.instanceMethod z).before a0 Z = true) (w6 : (Jvm.Cond.initialized z.cls).before a0 Z = true) (w4 : (Jvm.Cond.code z bytes maxL ret).before a0 Z = true)
    (hy : y.cls ≠ "java/lang/invoke/MethodHandle" ∧ y.cls ≠ "java/lang/invoke/VarHandle") {a : Addr} {argsL : List Value} (E : Exa Z h a C) (K : OwnCon l Z z bytes maxL ret rm (.ref a :: argsL).toArray h n0 Q) (rest : List Value) (W : Nat)
    (hf : rm.frames + 1 ≤ R.frames) (hl : W + (maxL + 11) + rm.locals ≤ R.locals) (hsize : L.size = c.maxLocals) (hlen : ∀ sig, parseMethodDescriptor y.desc = some sig → argsL.length = sig.parameters.length)
    (hs : S = argsL.reverse ++ .ref a :: rest) (hW : (rest.map fun v => v.category).sum ≤ W) (hd : decode c.code pc = .ok (.invokevirtual index, 3)) (hc : kc + rm.cells ≤ R.cells) (hsl : ks + rm.slots ≤ R.slots) :
    ∃ v h', OwnW (p := p) (l := l) (e := e) (R := R) (s := s) (m := m) (args := args) (below := below) (meth := meth) (c := c) s0 n0 (pc + 3) L (v.toList ++ rest) h' (kc + rm.cells) (ks + rm.slots) ∧ Q v h' := by
  obtain ⟨T, ls, X, eT, N, st⟩ := r
  obtain ⟨cq, kq, qa, qb, qc⟩ := isOf hZ eT E
  obtain ⟨v, vm₁, ⟨T', L', k', n'⟩, -, X', ⟨Lc, hQ, l', y', z'⟩, st'⟩ := X.virtualBack hx (y := y) (z := z) hown (mvT hZ w1) (mvT hZ w2) w3' (mvT hZ w3) (mvT hZ w5) hy (backOf (W := W) (Q := fun v h L => Fr n0 L ∧ Q v h) (K []) hZ w4 w6 hf hl) qa qc (g := mkF m pc L S) rfl hsize st (argsL := argsL) (rest := rest) hlen hs (by show 2 * 0 + _ ≤ _; omega) hd (fun _ _ => ⟨rfl, eT, hc, hsl⟩)
  dsimp only [Pt.U, Pt.locs, Pt.cells, Pt.slots] at X' l' y' z' st' hQ
  subst l' y' z'
  exact ⟨v, _, ⟨T', _, X', rfl, N.app hQ.1, st'⟩, hQ.2⟩
theorem OwnW.retN (r : OwnW (p := p) (l := l) (e := e) (R := R) (s := s) (m := m) (args := args) (below := below) (meth := meth) (c := c) s0 n0 pc L S h kc ks)
    (hx : p.tables.exec = Jvm.exec) {t : FieldType} (hret : meth.sig.returnType = some t) (ht : t = .boolean ∨ t = .byte ∨ t = .char ∨ t = .short) {z : Int32} {rest : List Value} (hs : S = .int z :: rest) (hd : decode c.code pc = .ok (.ireturn, 1)) :
    OwnEnd (p := p) (l := l) (e := e) (R := R) (s := s) (m := m) (args := args) (below := below) (meth := meth) (c := c) s0 n0 (some (.int (nar t z))) h kc ks := by
  subst hs
  obtain ⟨T, ls, X, eT, N, st⟩ := r
  exact ⟨T, ls, X, eT, N, (fun q => by rw [hret] at q; cases q), fun fs hl => st.trans (Jvm.RoadKit.retN X hx hret ht hd hl)⟩
theorem OwnW.retW (r : OwnW (p := p) (l := l) (e := e) (R := R) (s := s) (m := m) (args := args) (below := below) (meth := meth) (c := c) s0 n0 pc L S h kc ks)
    (hx : p.tables.exec = Jvm.exec) {t : FieldType} {w : Value} {i : Instr} (hret : meth.sig.returnType = some t) (hn : narrow t w = w) {rest : List Value} (hs : S = w :: rest)
    (hi : (i = .ireturn ∧ (t = .int ∨ t = .boolean ∨ t = .byte ∨ t = .char ∨ t = .short) ∧ ∃ z, w = .int z) ∨ (i = .lreturn ∧ t = .long ∧ ∃ z, w = .long z) ∨ (i = .dreturn ∧ t = .double ∧ ∃ z, w = .double z) ∨ (i = .freturn ∧ t = .float ∧ ∃ z, w = .float z) ∨ (i = .areturn ∧ t.isReference = true ∧ w.isRef = true))
    (hd : decode c.code pc = .ok (i, 1)) :
    OwnEnd (p := p) (l := l) (e := e) (R := R) (s := s) (m := m) (args := args) (below := below) (meth := meth) (c := c) s0 n0 (some w) h kc ks := by
  subst hs
  obtain ⟨T, ls, X, eT, N, st⟩ := r
  exact ⟨T, ls, X, eT, N, (fun q => by rw [hret] at q; cases q), fun fs hl => st.trans (Jvm.RoadKit.retOut X hx hret hn hi hd hl)⟩
theorem OwnW.retV (r : OwnW (p := p) (l := l) (e := e) (R := R) (s := s) (m := m) (args := args) (below := below) (meth := meth) (c := c) s0 n0 pc L [] h kc ks)
    (hx : p.tables.exec = Jvm.exec) (hret : meth.sig.returnType = none) (hd : decode c.code pc = .ok (.return_, 1)) :
    OwnEnd (p := p) (l := l) (e := e) (R := R) (s := s) (m := m) (args := args) (below := below) (meth := meth) (c := c) s0 n0 none h kc ks := by
  obtain ⟨T, ls, X, eT, N, st⟩ := r
  exact ⟨T, ls, X, eT, N, fun _ => rfl, fun fs hl => st.trans (X.returnOut hx hret hd hl)⟩
theorem OwnCon.of {y : MethodName} {bytes : ByteArray} {maxL : Nat} {ret : Option FieldType} {rm : Room} {A : Array Value} {h0 : Heap} {Q : Option Value → Heap → Prop} {L0 : Array Slot} (pn : plainName y.cls = true) (ef : ∀ m : MethodId, entryFrame m A maxL = mkF m 0 L0 [])
    (H : ∀ (p : Program) (e : Env) (s : State) (m : MethodId) (below : List Frame) (meth : Method) (c : Code) (s0 : State), p.tables.exec = Jvm.exec → c.code = bytes → c.maxLocals = maxL → s.vm.findClass y.cls = some m.cls → meth.name = y.name → meth.sig.returnType = ret → Z.Warmed39 s.vm →
      OwnW (p := p) (l := l) (e := e) (R := rm) (s := s) (m := m) (args := A) (below := below) (meth := meth) (c := c) s0 n0 0 L0 [] h0 0 0 →
      ∃ v h' k n, Q v h' ∧ k ≤ rm.cells ∧ n ≤ rm.slots ∧ OwnEnd (p := p) (l := l) (e := e) (R := rm) (s := s) (m := m) (args := A) (below := below) (meth := meth) (c := c) s0 n0 v h' k n) :
    OwnCon l Z y bytes maxL ret rm A h0 n0 Q := by
  intro ws
  refine MetFree.of_bodySF (plainFor_of_name pn) hisR ?_
  intro p e s m args below meth c s₁ Bd hml hP hK
  obtain ⟨rfl, hZ, hh⟩ := hP
  have X0 : Stand p l e rm s m args below meth c s₁ [] 0 0 := Stand.of_body Bd
  have e0 : s₁.heap = h0 := by rw [← hh, Bd.state]; rfl
  obtain ⟨v, h', k, n, hQ, hk, hn, T, ls, X, eT, N, hv, st⟩ := H p e s m below meth c (s₁.setTop (entryFrame m args maxL)) Bd.exec Bd.bytes hml (findClass_of_methodNamed Bd.named) (name_of_methodNamed Bd.named Bd.method).1 Bd.returns hZ
    ⟨s₁, [], X0, e0, Fr.nil n0, by rw [ef m]; exact Steps.refl _⟩
  obtain ⟨fs, hr, hrun, hended, hW, hsame⟩ := X.leave (v := v) hv
  exact ⟨_, _, st fs hr, hrun, hended, v, ls, rfl, ⟨N, by show Q v T.heap; rw [eT]; exact hQ⟩, ⟨_, rfl⟩, hW, hsame.mono hk hn⟩
end OwnKit
/-! arrays of a known list of values -/
section OwnArr
variable {p : Program} {l : Launch} {e : Env} {R : Room} {s : State} {m : MethodId} {args : Array Value} {below : List Frame} {meth : Method} {c : Code} {s0 : State} {n0 pc pc' : Nat} {L L' : Array Slot} {S S' : List Value} {h h' h0 : Heap} {kc ks : Nat} {Z : State} {a0 : Array Value} {a b : Addr} {ty : FieldType} {vs : List Value}
def OwnAr (Z : State) (h : Heap) (a : Addr) (ty : FieldType) (vs : List Value) : Prop := ∃ cl : Cell, Arr Z h a cl ty ∧ cl.slots.toList = vs
theorem OwnAr.ext (E : Ext h h') (F : OwnAr Z h a ty vs) : OwnAr Z h' a ty vs := by obtain ⟨cl, A, q⟩ := F; exact ⟨cl, A.ext E, q⟩
theorem OwnAr.other {sl : Nat} {v : Value} (W : Wr h h' b sl v) (F : OwnAr Z h a ty vs) (ne : a ≠ b) : OwnAr Z h' a ty vs := by obtain ⟨cl, A, q⟩ := F; exact ⟨cl, A.other W ne, q⟩
theorem OwnAr.lt (F : OwnAr Z h a ty vs) : a < h.size := by obtain ⟨cl, A, q⟩ := F; exact A.lt
theorem OwnAr.wr {k : Nat} {v : Value} (W : Wr h h' a k v) (F : OwnAr Z h a ty vs) : OwnAr Z h' a ty (vs.set k v) := by
  obtain ⟨cl, A, q⟩ := F
  exact ⟨_, A.same W, by simp [Cell.setSlot, q]⟩
theorem OwnAr.new {cA : ClassId} {n : Int32} (A : Arr Z h a (newA cA ty n) ty) : OwnAr Z h a ty (List.replicate n.toNatClampNeg (defaultValue ty)) := ⟨_, A, by simp [newA]⟩
theorem OwnAr.inb (F : OwnAr Z h a ty vs) {j : Int32} (hj : ¬ j < 0) (hl : j.toNatClampNeg < vs.length) {cl : Cell} (hc : h[a]? = some cl) : ¬ (j < 0 ∨ cl.slots.size ≤ j.toNatClampNeg) := by
  obtain ⟨cl', A, q⟩ := F
  cases A.1.symm.trans hc
  have : cl.slots.size = vs.length := by rw [← q, Array.length_toList]
  rintro (u | u)
  · exact hj u
  · omega
theorem own_ext_refl (h : Heap) : Ext h h := ⟨Nat.le_refl _, fun _ _ q => q⟩
theorem own_ext_trans {h1 h2 h3 : Heap} (E : Ext h1 h2) (E' : Ext h2 h3) : Ext h1 h3 := ⟨Nat.le_trans E.1 E'.1, fun x cl q => E'.2 x cl (E.2 x cl q)⟩
theorem own_ext_wr {sl : Nat} {v : Value} (E : Ext h0 h) (W : Wr h h' a sl v) (q : h0.size ≤ a) : Ext h0 h' :=
  ⟨by rw [W.size]; exact E.1, fun x cl hx => (Keep.of_wr W).2.1 x cl (E.2 x cl hx) (by
    intro z
    cases List.mem_singleton.mp z
    exact absurd (Array.getElem?_eq_some_iff.mp hx).1 (Nat.not_lt.mpr q))⟩
theorem own_fld_inj {C n d : String} {v w : Value} (F : Fld Z h a C n d v) (G : Fld Z h a C n d w) : v = w := by
  obtain ⟨c1, f1, k1, i1, g1, h1, h2, -, -, -, -, h7⟩ := F
  obtain ⟨c2, f2, k2, i2, g2, j1, j2, -, -, -, -, j7⟩ := G
  cases h1.symm.trans j1
  cases h2.symm.trans j2
  exact Option.some.inj (h7.symm.trans j7)
theorem own_ne {C n d : String} {v w : Value} (F : Fld Z h a C n d v) (G : Fld Z h b C n d w) (hn : v ≠ w) : a ≠ b := fun q => by subst q; exact hn (own_fld_inj F G)
theorem own_rne (q : a ≠ b) : decide ((Value.ref a) = (Value.ref b)) = false := decide_eq_false fun u => q (Value.ref.inj u)
theorem OwnW.aaload (r : OwnW (p := p) (l := l) (e := e) (R := R) (s := s) (m := m) (args := args) (below := below) (meth := meth) (c := c) s0 n0 pc L S h kc ks)
    (hx : p.tables.exec = Jvm.exec) (hZ : Z.Warmed39 s.vm) (F : OwnAr Z h a ty vs) (hty : ty.isReference = true) {j : Int32} {v : Value} (hj : ¬ j < 0) (hv : vs[j.toNatClampNeg]? = some v) {rest : List Value} (hs : S = .int j :: .ref a :: rest) (hd : decode c.code pc = .ok (.aaload, 1)) :
    OwnW (p := p) (l := l) (e := e) (R := R) (s := s) (m := m) (args := args) (below := below) (meth := meth) (c := c) s0 n0 (pc + 1) L (v :: rest) h kc ks := by
  obtain ⟨cl, A, q⟩ := F
  have hl : j.toNatClampNeg < vs.length := (List.getElem?_eq_some_iff.mp hv).1
  exact r.goX fun T t ls X eT k => X.aaload hx (j := j) (v := v) (by rw [eT]; exact A.1) (State.isArrayOf_alike hZ.alike A.2.1) hty A.2.2 (OwnAr.inb ⟨cl, A, q⟩ hj hl A.1) (by rw [← Array.getElem?_toList, q]; exact hv) (g := mkF m pc L S) rfl hs hd t k
theorem OwnW.baloadZ (r : OwnW (p := p) (l := l) (e := e) (R := R) (s := s) (m := m) (args := args) (below := below) (meth := meth) (c := c) s0 n0 pc L S h kc ks)
    (hx : p.tables.exec = Jvm.exec) (hZ : Z.Warmed39 s.vm) (F : OwnAr Z h a .boolean vs) {j : Int32} {v : Value} (hj : ¬ j < 0) (hv : vs[j.toNatClampNeg]? = some v) {rest : List Value} (hs : S = .int j :: .ref a :: rest) (hd : decode c.code pc = .ok (.baload, 1)) :
    OwnW (p := p) (l := l) (e := e) (R := R) (s := s) (m := m) (args := args) (below := below) (meth := meth) (c := c) s0 n0 (pc + 1) L (v :: rest) h kc ks := by
  obtain ⟨cl, A, q⟩ := F
  have hl : j.toNatClampNeg < vs.length := (List.getElem?_eq_some_iff.mp hv).1
  exact r.goX fun T t ls X eT k => X.baloadBooleans hx (j := j) (v := v) (by rw [eT]; exact A.1) (State.isArrayOf_alike hZ.alike A.2.1) A.2.2 (OwnAr.inb ⟨cl, A, q⟩ hj hl A.1) (by rw [← Array.getElem?_toList, q]; exact hv) (g := mkF m pc L S) rfl hs hd t k
theorem OwnW.alen (r : OwnW (p := p) (l := l) (e := e) (R := R) (s := s) (m := m) (args := args) (below := below) (meth := meth) (c := c) s0 n0 pc L S h kc ks)
    (hx : p.tables.exec = Jvm.exec) (hZ : Z.Warmed39 s.vm) (F : OwnAr Z h a ty vs) {n : Int32} (hn : vs.length.toInt32 = n) {rest : List Value} (hs : S = .ref a :: rest) (hd : decode c.code pc = .ok (.arraylength, 1)) :
    OwnW (p := p) (l := l) (e := e) (R := R) (s := s) (m := m) (args := args) (below := below) (meth := meth) (c := c) s0 n0 (pc + 1) L (.int n :: rest) h kc ks := by
  obtain ⟨cl, A, q⟩ := F
  have e1 : cl.slots.size.toInt32 = n := by rw [← hn, ← q, Array.length_toList]
  exact r.goX fun T t ls X eT k => X.arraylength hx (by rw [eT]; exact A.1) (State.isArrayOf_alike hZ.alike A.2.1) (g := mkF m pc L S) rfl hs hd t (by rw [e1]; exact k)
theorem OwnW.newR (r : OwnW (p := p) (l := l) (e := e) (R := R) (s := s) (m := m) (args := args) (below := below) (meth := meth) (c := c) s0 n0 pc L S h kc ks)
    (hx : p.tables.exec = Jvm.exec) (hZ : Z.Warmed39 s.vm) {own C : String} {index : Nat} (hown : s.vm.findClass own = some m.cls) (w1 : (Jvm.Cond.classLink own index C).before a0 Z = true) (w2 : (Jvm.Cond.arrayOver (.object C)).before a0 Z = true) (hd : decode c.code pc = .ok (.anewarray index, 3)) {n : Int32} {rest : List Value} (hs : S = .int n :: rest)
    (hn : ¬ n < 0) {cap : Nat} (hcap : n.toNatClampNeg ≤ cap) (hb : cap * 8 ≤ 536870912) (hc : kc + 1 ≤ R.cells) (hl : ks + cap ≤ R.slots) :
    ∃ h' cA, OwnW (p := p) (l := l) (e := e) (R := R) (s := s) (m := m) (args := args) (below := below) (meth := meth) (c := c) s0 n0 (pc + 3) L (.ref h.size :: rest) h' (kc + 1) (ks + cap) ∧ Ext h h' ∧ Arr Z h' h.size (newA cA (.object C) n) (.object C) ∧ Ovr Z cA C := by
  obtain ⟨T, ls, X, eT, N, st⟩ := r
  obtain ⟨T', h', cA, X', e', E, A, O, st'⟩ := Jvm.RoadKit.newR X hx hZ hown w1 w2 eT (g := mkF m pc L S) rfl hd hs hn hcap hb hc hl
  exact ⟨h', cA, ⟨T', ls, X', e', N, st.trans (st' _ (Steps.refl _))⟩, E, A, O⟩
/-- an array of C's own kind of cells takes an object of C -/
theorem own_sto {C : String} {cA : ClassId} (F : ∃ cl : Cell, Arr Z h a cl ty ∧ cl.slots.toList = vs ∧ cl.cls = cA) (O : Ovr Z cA C) (I : Exa Z h b C) : Sto Z h a (.ref b) := by
  obtain ⟨cl, A, -, q⟩ := F
  exact Sto.ofV A q O (Ins.self I)
def OwnArK (Z : State) (h : Heap) (a : Addr) (ty : FieldType) (vs : List Value) (cA : ClassId) : Prop := ∃ cl : Cell, Arr Z h a cl ty ∧ cl.slots.toList = vs ∧ cl.cls = cA
theorem OwnArK.plain {cA : ClassId} (F : OwnArK Z h a ty vs cA) : OwnAr Z h a ty vs := by obtain ⟨cl, A, q, -⟩ := F; exact ⟨cl, A, q⟩
theorem OwnArK.wr {cA : ClassId} {k : Nat} {v : Value} (W : Wr h h' a k v) (F : OwnArK Z h a ty vs cA) : OwnArK Z h' a ty (vs.set k v) cA := by
  obtain ⟨cl, A, q, u⟩ := F
  exact ⟨_, A.same W, by simp [Cell.setSlot, q], u⟩
theorem OwnW.stR (r : OwnW (p := p) (l := l) (e := e) (R := R) (s := s) (m := m) (args := args) (below := below) (meth := meth) (c := c) s0 n0 pc L S h kc ks)
    (hx : p.tables.exec = Jvm.exec) (hZ : Z.Warmed39 s.vm) {C : String} {cA : ClassId} (F : OwnArK Z h a ty vs cA) (O : Ovr Z cA C) (hty : ty.isReference = true) (I : Exa Z h b C) {j : Int32} (hj : ¬ j < 0) (hl : j.toNatClampNeg < vs.length) (g : n0 ≤ a) {rest : List Value} (hs : S = .ref b :: .int j :: .ref a :: rest) (hd : decode c.code pc = .ok (.aastore, 1)) :
    ∃ h', OwnW (p := p) (l := l) (e := e) (R := R) (s := s) (m := m) (args := args) (below := below) (meth := meth) (c := c) s0 n0 (pc + 1) L rest h' kc ks ∧ Wr h h' a j.toNatClampNeg (.ref b) := by
  obtain ⟨T, ls, X, eT, N, st⟩ := r
  have Fs := own_sto F O I
  obtain ⟨cl, A, q, u⟩ := F
  obtain ⟨T', h', X', e', W', st'⟩ := Jvm.RoadKit.stR X hx hZ eT A (j := j) (OwnAr.inb ⟨cl, A, q⟩ hj hl A.1) hty Fs (g := mkF m pc L S) rfl hs hd
  exact ⟨h', ⟨T', _, X', e', Fr.snoc X' N g, st.trans (st' _ (Steps.refl _))⟩, W'⟩
theorem OwnW.stZ (r : OwnW (p := p) (l := l) (e := e) (R := R) (s := s) (m := m) (args := args) (below := below) (meth := meth) (c := c) s0 n0 pc L S h kc ks)
    (hx : p.tables.exec = Jvm.exec) (hZ : Z.Warmed39 s.vm) (F : OwnAr Z h a .boolean vs) {j x : Int32} (hj : ¬ j < 0) (hl : j.toNatClampNeg < vs.length) (g : n0 ≤ a) {rest : List Value} (hs : S = .int x :: .int j :: .ref a :: rest) (hd : decode c.code pc = .ok (.bastore, 1)) :
    ∃ h', OwnW (p := p) (l := l) (e := e) (R := R) (s := s) (m := m) (args := args) (below := below) (meth := meth) (c := c) s0 n0 (pc + 1) L rest h' kc ks ∧ Wr h h' a j.toNatClampNeg (.int (nar .boolean x)) := by
  obtain ⟨T, ls, X, eT, N, st⟩ := r
  obtain ⟨cl, A, q⟩ := F
  obtain ⟨T', h', X', e', W', st'⟩ := Jvm.RoadKit.stZ X hx hZ eT A (j := j) (x := x) (OwnAr.inb ⟨cl, A, q⟩ hj hl A.1) (g := mkF m pc L S) rfl hs hd
  exact ⟨h', ⟨T', _, X', e', Fr.snoc X' N g, st.trans (st' _ (Steps.refl _))⟩, W'⟩
theorem OwnW.stB (r : OwnW (p := p) (l := l) (e := e) (R := R) (s := s) (m := m) (args := args) (below := below) (meth := meth) (c := c) s0 n0 pc L S h kc ks)
    (hx : p.tables.exec = Jvm.exec) (hZ : Z.Warmed39 s.vm) (F : OwnAr Z h a .byte vs) {j x : Int32} (hj : ¬ j < 0) (hl : j.toNatClampNeg < vs.length) (g : n0 ≤ a) {rest : List Value} (hs : S = .int x :: .int j :: .ref a :: rest) (hd : decode c.code pc = .ok (.bastore, 1)) :
    ∃ h', OwnW (p := p) (l := l) (e := e) (R := R) (s := s) (m := m) (args := args) (below := below) (meth := meth) (c := c) s0 n0 (pc + 1) L rest h' kc ks ∧ Wr h h' a j.toNatClampNeg (.int (nar .byte x)) := by
  obtain ⟨T, ls, X, eT, N, st⟩ := r
  obtain ⟨cl, A, q⟩ := F
  obtain ⟨T', h', X', e', W', st'⟩ := Jvm.RoadKit.stB X hx hZ eT A (j := j) (x := x) (OwnAr.inb ⟨cl, A, q⟩ hj hl A.1) (g := mkF m pc L S) rfl hs hd
  exact ⟨h', ⟨T', _, X', e', Fr.snoc X' N g, st.trans (st' _ (Steps.refl _))⟩, W'⟩
theorem OwnW.cast (r : OwnW (p := p) (l := l) (e := e) (R := R) (s := s) (m := m) (args := args) (below := below) (meth := meth) (c := c) s0 n0 pc L S h kc ks)
    (hx : p.tables.exec = Jvm.exec) (hZ : Z.Warmed39 s.vm) {own K : String} {index : Nat} (hown : s.vm.findClass own = some m.cls) (w : (Jvm.Cond.classLink own index K).before a0 Z = true) (F : Ins Z h a K true) {rest : List Value} (hs : S = .ref a :: rest) (hd : decode c.code pc = .ok (.checkcast index, 3)) :
    OwnW (p := p) (l := l) (e := e) (R := R) (s := s) (m := m) (args := args) (below := below) (meth := meth) (c := c) s0 n0 (pc + 3) L S h kc ks :=
  r.goT fun T ls X eT => Jvm.RoadKit.castY X hx hZ hown w eT F (g := mkF m pc L S) rfl hs hd
theorem OwnW.castN (r : OwnW (p := p) (l := l) (e := e) (R := R) (s := s) (m := m) (args := args) (below := below) (meth := meth) (c := c) s0 n0 pc L S h kc ks)
    (hx : p.tables.exec = Jvm.exec) {index : Nat} {rest : List Value} (hs : S = .null :: rest) (hd : decode c.code pc = .ok (.checkcast index, 3)) :
    OwnW (p := p) (l := l) (e := e) (R := R) (s := s) (m := m) (args := args) (below := below) (meth := meth) (c := c) s0 n0 (pc + 3) L S h kc ks :=
  r.goX fun T t ls X eT k => X.checkcastNull hx (g := mkF m pc L S) rfl hs hd t k
theorem OwnW.inst (r : OwnW (p := p) (l := l) (e := e) (R := R) (s := s) (m := m) (args := args) (below := below) (meth := meth) (c := c) s0 n0 pc L S h kc ks)
    (hx : p.tables.exec = Jvm.exec) (hZ : Z.Warmed39 s.vm) {own K : String} {index : Nat} (hown : s.vm.findClass own = some m.cls) (w : (Jvm.Cond.classLink own index K).before a0 Z = true) (F : Ins Z h a K true) {rest : List Value} (hs : S = .ref a :: rest) (hd : decode c.code pc = .ok (.instanceof index, 3)) :
    OwnW (p := p) (l := l) (e := e) (R := R) (s := s) (m := m) (args := args) (below := below) (meth := meth) (c := c) s0 n0 (pc + 3) L (.int 1 :: rest) h kc ks :=
  r.goT fun T ls X eT => Jvm.RoadKit.instY X hx hZ hown w eT F (g := mkF m pc L S) rfl hs hd
theorem OwnW.clone (r : OwnW (p := p) (l := l) (e := e) (R := R) (s := s) (m := m) (args := args) (below := below) (meth := meth) (c := c) s0 n0 pc L S h kc ks)
    (hx : p.tables.exec = Jvm.exec) (hZ : Z.Warmed39 s.vm) {own ad : String} {index : Nat} (hown : s.vm.findClass own = some m.cls)
    (w1 : (Jvm.Cond.methodLink own index ⟨ad, "clone", "()Ljava/lang/Object;"⟩).before a0 Z = true) (w2 : (Jvm.Cond.sameMethod ad "java/lang/Object" "clone" "()Ljava/lang/Object;").before a0 Z = true) (w3 : (Jvm.Cond.native ⟨"java/lang/Object", "clone", "()Ljava/lang/Object;"⟩).before a0 Z = true)
    (w4 : (Jvm.Cond.instanceMethod ⟨"java/lang/Object", "clone", "()Ljava/lang/Object;"⟩).before a0 Z = true) (w5 : (Jvm.Cond.selects ad ⟨ad, "clone", "()Ljava/lang/Object;"⟩ ⟨"java/lang/Object", "clone", "()Ljava/lang/Object;"⟩).before a0 Z = true) (w6 : (Jvm.Cond.castable ad "java/lang/Cloneable").before a0 Z = true)
    (F : OwnAr Z h a ty vs) (E : Exa Z h a ad) (hfit : ∀ v ∈ vs, fits ty v = true) (hsize : L.size = c.maxLocals) {rest : List Value} (hs : S = .ref a :: rest) (hd : decode c.code pc = .ok (.invokevirtual index, 3))
    (hf : 1 ≤ R.frames) (W cap : Nat) (hW : (rest.map fun v => v.category).sum ≤ W) (hl : W + 14 ≤ R.locals) (hcap : vs.length ≤ cap) (hc : kc + 1 ≤ R.cells) (hsl : ks + cap ≤ R.slots) :
    ∃ h', OwnW (p := p) (l := l) (e := e) (R := R) (s := s) (m := m) (args := args) (below := below) (meth := meth) (c := c) s0 n0 (pc + 3) L (.ref h.size :: rest) h' (kc + 1) (ks + cap) ∧ Ext h h' ∧ OwnAr Z h' h.size ty vs ∧ Exa Z h' h.size ad := by
  obtain ⟨T, ls, X, eT, N, st⟩ := r
  obtain ⟨cl, A, q⟩ := F
  have FC : FitC Z cl := fitC_of A fun i hi v hv => hfit v (by rw [← q]; exact Array.mem_toList_iff.mpr (Array.mem_of_getElem? hv))
  obtain ⟨T', h', X', e', ex, A', E', st'⟩ := cloneA X hx hZ hown w1 w2 w3 w4 w5 w6 eT A E FC (g := mkF m pc L S) rfl hsize hs hd hf (W := W) (cap := cap) (by show 2 * 0 + _ ≤ _; omega) hl (by rw [← Array.length_toList, q]; exact hcap) hc hsl
  exact ⟨h', ⟨T', ls, X', e', N, st.trans (st' _ (Steps.refl _))⟩, ex, ⟨_, A', q⟩, E'⟩
/-! the case's words on the start -/
theorem own_eqv {args : Array Value} {s : State} {t u : Term} {v : Value} (hv : v = .null ∨ (∃ x, v = .ref x) ∨ ∃ x, v = .int x) (hu : u.eval args s none [] s = some v) (q : (Jvm.Cond.eq t u).value args s none s [] = some true) : t.eval args s none [] s = some v := by
  cases ht : t.eval args s none [] s with
  | none => simp [Cond.value, ht] at q
  | some y => rcases hv with rfl | ⟨x, rfl⟩ | ⟨x, rfl⟩ <;> cases y <;> simp [Cond.value, ht, hu] at q ⊢ <;> exact q
theorem own_len {args : Array Value} {s : State} {t : Term} {n : Int32} {cl : Cell} (ht : t.eval args s none [] s = some (.ref a)) (hc : s.arrayAt? a = some cl) (q : (Term.length t).eval args s none [] s = some (.int n)) : cl.slots.size = n.toNatClampNeg := by
  by_cases hl : cl.slots.size < 2 ^ 31
  · rw [len_f ht hc hl] at q
    have e1 : cl.slots.size.toInt32 = n := by simpa using q
    rw [← e1]
    simp only [Int32.toNatClampNeg, len_toInt hl]
    rfl
  · simp [Term.eval, ht, hc, hl] at q
theorem own_list {cl : Cell} {vs : List Value} (hs : cl.slots.size = vs.length) (H : ∀ i, i < vs.length → cl.slots[i]? = vs[i]?) : cl.slots.toList = vs := by
  refine List.ext_getElem? fun i => ?_
  rw [Array.getElem?_toList]
  by_cases q : i < vs.length
  · exact H i q
  · rw [List.getElem?_eq_none (Nat.not_lt.mp q), Array.getElem?_eq_none (by rw [hs]; exact Nat.not_lt.mp q)]
end OwnArr
section OwnArr2
variable {h h' h0 : Heap} {Z : State} {a b : Addr} {ty : FieldType} {vs vs' : List Value}
theorem OwnArK.set {cA : ClassId} {j k : Nat} {v : Value} (F : OwnArK Z h a ty vs cA) (W : Wr h h' a j v) (hk : j = k) (hv : vs.set k v = vs') : OwnArK Z h' a ty vs' cA := by subst hk hv; exact F.wr W
theorem OwnAr.set {j k : Nat} {v : Value} (F : OwnAr Z h a ty vs) (W : Wr h h' a j v) (hk : j = k) (hv : vs.set k v = vs') : OwnAr Z h' a ty vs' := by subst hk hv; exact F.wr W
theorem OwnArK.new {cA : ClassId} {n : Int32} (A : Arr Z h a (newA cA ty n) ty) (hv : List.replicate n.toNatClampNeg (defaultValue ty) = vs) : OwnArK Z h a ty vs cA := ⟨_, A, by rw [← hv]; simp [newA], rfl⟩
theorem OwnAr.new' {cA : ClassId} {n : Int32} (A : Arr Z h a (newA cA ty n) ty) (hv : List.replicate n.toNatClampNeg (defaultValue ty) = vs) : OwnAr Z h a ty vs := ⟨_, A, by rw [← hv]; simp [newA]⟩
end OwnArr2
theorem own_ext_keep {h0 h h' : Heap} {a : Addr} (E : Ext h0 h) (K : Keep h h' [a]) (q : h0.size ≤ a) : Ext h0 h' :=
  ⟨Nat.le_trans E.1 K.1, fun x cl hx => K.2.1 x cl (E.2 x cl hx) (by
    intro z
    cases List.mem_singleton.mp z
    exact absurd (Array.getElem?_eq_some_iff.mp hx).1 (Nat.not_lt.mpr q))⟩
theorem own_pn0 : plainName "com/example/songchuan/songchuan/rulebook/TestCondition" = true := by first | (simp [plainName, overriddenIn]; done) | decide +kernel
theorem own_pn1 : plainName "com/example/songchuan/songchuan/rulebook/TestConditionOfPinLaw" = true := by first | (simp [plainName, overriddenIn]; done) | decide +kernel
theorem own_pd0 : parseMethodDescriptor "(Z)Lcom/example/songchuan/songchuan/rulebook/TestCondition;" = some ⟨[.boolean], some (.object "com/example/songchuan/songchuan/rulebook/TestCondition")⟩ := by decide +kernel
theorem own_d1_0 : decode prog_27_method_4_code 0 = .ok (.iload_n 0, 1) := by decide +kernel
theorem own_d1_1 : decode prog_27_method_4_code 1 = .ok (.ifCond .eq 9, 3) := by decide +kernel
theorem own_d1_4 : decode prog_27_method_4_code 4 = .ok (.getstatic 7, 3) := by decide +kernel
theorem own_d1_7 : decode prog_27_method_4_code 7 = .ok (.goto 6, 3) := by decide +kernel
theorem own_d1_10 : decode prog_27_method_4_code 10 = .ok (.getstatic 3, 3) := by decide +kernel
theorem own_d1_13 : decode prog_27_method_4_code 13 = .ok (.areturn, 1) := by decide +kernel
def OwnEn (Z : State) (h : Heap) (k0 k1 : Addr) : Prop :=
  Exa Z h k0 "com/example/songchuan/songchuan/rulebook/TestCondition" ∧
  Sta Z h "com/example/songchuan/songchuan/rulebook/TestCondition" "NORMAL" "Lcom/example/songchuan/songchuan/rulebook/TestCondition;" (.ref k0) ∧
  Exa Z h k1 "com/example/songchuan/songchuan/rulebook/TestCondition" ∧
  Sta Z h "com/example/songchuan/songchuan/rulebook/TestCondition" "EXTREME" "Lcom/example/songchuan/songchuan/rulebook/TestCondition;" (.ref k1) ∧
  Fld Z h k0 "java/lang/Enum" "ordinal" "I" (.int (0 : Int32)) ∧
  Fld Z h k1 "java/lang/Enum" "ordinal" "I" (.int (1 : Int32))
theorem OwnEn.ext {Z : State} {h h' : Heap} {k0 k1 : Addr} (E : Ext h h') (H : OwnEn Z h k0 k1) : OwnEn Z h' k0 k1 :=
  ⟨H.1.ext E, H.2.1.ext E, H.2.2.1.ext E, H.2.2.2.1.ext E, H.2.2.2.2.1.ext E, H.2.2.2.2.2.ext E⟩
theorem own_ef_of0 (m : MethodId)  : entryFrame m #[(.int (0 : Int32))] 1 = mkF m 0 #[.val (.int (0 : Int32))] [] := by first | (simp [entryFrame, mkF, argsToLocals, Value.category]; done) | rfl
set_option maxRecDepth 65536 in
set_option maxHeartbeats 40000000 in
theorem own_of0 (l : Launch) (Z : State) (a0 : Array Value) (hw : ∀ d ∈ tables_1, d.before a0 Z = true)  (k0 k1 : Addr) (h0 : Heap) (n0 : Nat) (En : OwnEn Z h0 k0 k1) :
    OwnCon l Z (⟨"com/example/songchuan/songchuan/rulebook/TestCondition", "of", "(Z)Lcom/example/songchuan/songchuan/rulebook/TestCondition;"⟩ : MethodName) prog_27_method_4_code 1 (some (.object "com/example/songchuan/songchuan/rulebook/TestCondition")) ({ frames := 0, cells := 0, slots := 0, locals := 0 } : Room) #[(.int (0 : Int32))] h0 n0 (fun v h => v = some (.ref k0) ∧ h0 = h) := by
  refine OwnCon.of own_pn0 (fun m => own_ef_of0 m ) ?_
  intro p e s m below meth c s0 hx hby hml hown hnm hret hZ r
  have r1 : OwnW s0 n0 1 #[.val (.int (0 : Int32))] [(.int (0 : Int32))] h0 0 0 := r.go fun T t X k => XS.iloadN X hx rfl (hb hby own_d1_0) rfl k
  have r2 : OwnW s0 n0 10 #[.val (.int (0 : Int32))] [] h0 0 0 := r1.go fun T t X k => XS.ifYes X hx rfl (pc0 := 1) (pc' := 10) rfl (hb hby own_d1_1) rfl ((if0 _ _).trans (teq rfl).1) (by decide) (by decide) k
  have r3 : OwnW s0 n0 13 #[.val (.int (0 : Int32))] [(.ref k0)] h0 0 0 := r2.getS hx hZ hown (hw _ (List.mem_of_getElem? (i := 4) rfl)) En.2.1 (hb hby own_d1_10)
  have r4 := r3.retW hx hret rfl rfl (Or.inr (Or.inr (Or.inr (Or.inr ⟨rfl, rfl, rfl⟩)))) (hb hby own_d1_13)
  exact ⟨_, _, 0, 0, ⟨rfl, rfl⟩, Nat.le_refl _, Nat.le_refl _, r4⟩
theorem own_ef_of1 (m : MethodId)  : entryFrame m #[(.int (1 : Int32))] 1 = mkF m 0 #[.val (.int (1 : Int32))] [] := by first | (simp [entryFrame, mkF, argsToLocals, Value.category]; done) | rfl
set_option maxRecDepth 65536 in
set_option maxHeartbeats 40000000 in
theorem own_of1 (l : Launch) (Z : State) (a0 : Array Value) (hw : ∀ d ∈ tables_1, d.before a0 Z = true)  (k0 k1 : Addr) (h0 : Heap) (n0 : Nat) (En : OwnEn Z h0 k0 k1) :
    OwnCon l Z (⟨"com/example/songchuan/songchuan/rulebook/TestCondition", "of", "(Z)Lcom/example/songchuan/songchuan/rulebook/TestCondition;"⟩ : MethodName) prog_27_method_4_code 1 (some (.object "com/example/songchuan/songchuan/rulebook/TestCondition")) ({ frames := 0, cells := 0, slots := 0, locals := 0 } : Room) #[(.int (1 : Int32))] h0 n0 (fun v h => v = some (.ref k1) ∧ h0 = h) := by
  refine OwnCon.of own_pn0 (fun m => own_ef_of1 m ) ?_
  intro p e s m below meth c s0 hx hby hml hown hnm hret hZ r
  have r1 : OwnW s0 n0 1 #[.val (.int (1 : Int32))] [(.int (1 : Int32))] h0 0 0 := r.go fun T t X k => XS.iloadN X hx rfl (hb hby own_d1_0) rfl k
  have r2 : OwnW s0 n0 4 #[.val (.int (1 : Int32))] [] h0 0 0 := r1.go fun T t X k => XS.ifNo X hx rfl (hb hby own_d1_1) rfl ((if0 _ _).trans (feq (by decide)).1) k
  have r3 : OwnW s0 n0 7 #[.val (.int (1 : Int32))] [(.ref k1)] h0 0 0 := r2.getS hx hZ hown (hw _ (List.mem_of_getElem? (i := 9) rfl)) En.2.2.2.1 (hb hby own_d1_4)
  have r4 : OwnW s0 n0 13 #[.val (.int (1 : Int32))] [(.ref k1)] h0 0 0 := r3.go fun T t X k => XS.goto X hx rfl (pc0 := 7) (pc' := 13) rfl (hb hby own_d1_7) (by decide) (by decide) k
  have r5 := r4.retW hx hret rfl rfl (Or.inr (Or.inr (Or.inr (Or.inr ⟨rfl, rfl, rfl⟩)))) (hb hby own_d1_13)
  exact ⟨_, _, 0, 0, ⟨rfl, rfl⟩, Nat.le_refl _, Nat.le_refl _, r5⟩
theorem own_ef_law (m : MethodId) (x0 : Int32) : entryFrame m #[(.int x0)] maxLocals = mkF m 0 #[.val (.int x0), .unset, .unset, .unset, .unset] [] := by first | (simp [entryFrame, mkF, argsToLocals, Value.category, maxLocals]; done) | rfl
set_option maxRecDepth 65536 in
set_option maxHeartbeats 40000000 in
theorem own_law (l : Launch) (Z : State) (a0 : Array Value) (hw : ∀ d ∈ tables_1, d.before a0 Z = true) (x0 : Int32) (k0 k1 : Addr) (h0 : Heap) (n0 : Nat) (En : OwnEn Z h0 k0 k1) :
    OwnCon l Z x code maxLocals ret room_1 #[(.int x0)] h0 n0 (fun v h => v = some (.int 1)) := by
  refine OwnCon.of own_pn1 (fun m => own_ef_law m x0) ?_
  intro p e s m below meth c s0 hx hby hml hown hnm hret hZ r
  have hown : s.vm.findClass "com/example/songchuan/songchuan/rulebook/TestConditionOfPinLaw" = some m.cls := hown
  have r1 : OwnW s0 n0 1 #[.val (.int x0), .unset, .unset, .unset, .unset] [(.int x0)] h0 0 0 := r.go fun T t X k => XS.iloadN X hx rfl (hb hby at_0) rfl k
  have r2 : OwnW s0 n0 2 #[.val (.int x0), .unset, .unset, .unset, .unset] [(.int (1 : Int32)), (.int x0)] h0 0 0 := r1.go fun T t X k => XS.iconst X hx rfl (hb hby at_1) k
  have r3 : OwnW s0 n0 3 #[.val (.int x0), .unset, .unset, .unset, .unset] [(.int (x0 &&& (1 : Int32)))] h0 0 0 := r2.go fun T t X k => XS.iand X hx rfl (hb hby at_2) rfl k
  obtain ⟨ex, hex, r⟩ : ∃ ex : Int32, (ex = (0 : Int32) ∨ ex = (1 : Int32)) ∧ OwnW (p := p) (l := l) (e := e) (R := room_1) (s := s) (m := m) (args := #[(.int x0)]) (below := below) (meth := meth) (c := c) s0 n0 11 #[.val (.int x0), .unset, .unset, .unset, .unset] [(.int ex)] h0 0 0 := by
    by_cases hc : (x0 &&& (1 : Int32)) = (0 : Int32)
    · have ra := r3
      have ra4 : OwnW s0 n0 10 #[.val (.int x0), .unset, .unset, .unset, .unset] [] h0 0 0 := ra.go fun T t X k => XS.ifYes X hx rfl (pc0 := 3) (pc' := 10) rfl (hb hby at_3) rfl ((if0 _ _).trans (teq hc).1) (by decide) (by decide) k
      have ra5 : OwnW s0 n0 11 #[.val (.int x0), .unset, .unset, .unset, .unset] [(.int (0 : Int32))] h0 0 0 := ra4.go fun T t X k => XS.iconst X hx rfl (hb hby at_10) k
      exact ⟨_, Or.inl rfl, ra5⟩
    · have rb := r3
      have rb4 : OwnW s0 n0 6 #[.val (.int x0), .unset, .unset, .unset, .unset] [] h0 0 0 := rb.go fun T t X k => XS.ifNo X hx rfl (hb hby at_3) rfl ((if0 _ _).trans (feq hc).1) k
      have rb5 : OwnW s0 n0 7 #[.val (.int x0), .unset, .unset, .unset, .unset] [(.int (1 : Int32))] h0 0 0 := rb4.go fun T t X k => XS.iconst X hx rfl (hb hby at_6) k
      have rb6 : OwnW s0 n0 11 #[.val (.int x0), .unset, .unset, .unset, .unset] [(.int (1 : Int32))] h0 0 0 := rb5.go fun T t X k => XS.goto X hx rfl (pc0 := 7) (pc' := 11) rfl (hb hby at_7) (by decide) (by decide) k
      exact ⟨_, Or.inr rfl, rb6⟩
  rcases hex with rfl | rfl
  · have ra := r
    have ra24 : OwnW s0 n0 12 #[.val (.int x0), .val (.int (0 : Int32)), .unset, .unset, .unset] [] h0 0 0 := ra.go fun T t X k => XS.istoreN X hx rfl (hb hby at_11) rfl (l' := #[.val (.int x0), .val (.int (0 : Int32)), .unset, .unset, .unset]) rfl k
    have ra25 : OwnW s0 n0 13 #[.val (.int x0), .val (.int (0 : Int32)), .unset, .unset, .unset] [(.int (0 : Int32))] h0 0 0 := ra24.go fun T t X k => XS.iloadN X hx rfl (hb hby at_12) rfl k
    obtain ⟨vra26, hra26, ra26, qra26⟩ := ra25.callS hx hZ hown (hw _ (List.mem_of_getElem? (i := 0) rfl)) (hw _ (List.mem_of_getElem? (i := 1) rfl)) (hw _ (List.mem_of_getElem? (i := 2) rfl)) (hw _ (List.mem_of_getElem? (i := 3) rfl)) (by decide) (argsL := [(.int (0 : Int32))]) (own_of0 l Z a0 hw k0 k1 h0 n0 En) [] 0 (by decide) (by decide) (by rw [hml]; rfl) (lenOf own_pd0 rfl) rfl (Nat.le_of_eq rfl) (hb hby at_13) (by decide) (by decide)
    obtain ⟨rfl, rfl⟩ := qra26
    have ra26 : OwnW s0 n0 16 #[.val (.int x0), .val (.int (0 : Int32)), .unset, .unset, .unset] [(.ref k0)] h0 0 0 := ra26
    have ra27 : OwnW s0 n0 17 #[.val (.int x0), .val (.int (0 : Int32)), .val (.ref k0), .unset, .unset] [] h0 0 0 := ra26.go fun T t X k => XS.astoreN X hx rfl (hb hby at_16) rfl rfl (l' := #[.val (.int x0), .val (.int (0 : Int32)), .val (.ref k0), .unset, .unset]) rfl k
    have ra28 : OwnW s0 n0 18 #[.val (.int x0), .val (.int (0 : Int32)), .val (.ref k0), .unset, .unset] [(.ref k0)] h0 0 0 := ra27.go fun T t X k => XS.aloadN X hx rfl (hb hby at_17) rfl rfl k
    have ra29 : OwnW s0 n0 23 #[.val (.int x0), .val (.int (0 : Int32)), .val (.ref k0), .unset, .unset] [] h0 0 0 := ra28.go fun T t X k => XS.ifnonnullYes X hx rfl (pc0 := 18) (pc' := 23) rfl (hb hby at_18) rfl (by decide) (by decide) k
    have ra30 : OwnW s0 n0 24 #[.val (.int x0), .val (.int (0 : Int32)), .val (.ref k0), .unset, .unset] [(.ref k0)] h0 0 0 := ra29.go fun T t X k => XS.aloadN X hx rfl (hb hby at_23) rfl rfl k
    have ra31 : OwnW s0 n0 27 #[.val (.int x0), .val (.int (0 : Int32)), .val (.ref k0), .unset, .unset] [(.ref k1), (.ref k0)] h0 0 0 := ra30.getS hx hZ hown (hw _ (List.mem_of_getElem? (i := 6) rfl)) En.2.2.2.1 (hb hby at_24)
    have ra32 : OwnW s0 n0 34 #[.val (.int x0), .val (.int (0 : Int32)), .val (.ref k0), .unset, .unset] [] h0 0 0 := ra31.goX fun T t ls X eT k => Jvm.RoadKit.acmp X hx rfl rfl rfl (pc0 := 27) (pc' := 34) (same := false) rfl (hb hby at_27) rfl (own_rne (own_ne En.2.2.2.2.1 En.2.2.2.2.2 (by decide))) (by decide) (by decide) k
    have ra33 : OwnW s0 n0 35 #[.val (.int x0), .val (.int (0 : Int32)), .val (.ref k0), .unset, .unset] [(.int (0 : Int32))] h0 0 0 := ra32.go fun T t X k => XS.iconst X hx rfl (hb hby at_34) k
    have ra34 : OwnW s0 n0 36 #[.val (.int x0), .val (.int (0 : Int32)), .val (.ref k0), .val (.int (0 : Int32)), .unset] [] h0 0 0 := ra33.go fun T t X k => XS.istoreN X hx rfl (hb hby at_35) rfl (l' := #[.val (.int x0), .val (.int (0 : Int32)), .val (.ref k0), .val (.int (0 : Int32)), .unset]) rfl k
    have ra35 : OwnW s0 n0 37 #[.val (.int x0), .val (.int (0 : Int32)), .val (.ref k0), .val (.int (0 : Int32)), .unset] [(.ref k0)] h0 0 0 := ra34.go fun T t X k => XS.aloadN X hx rfl (hb hby at_36) rfl rfl k
    have ra36 : OwnW s0 n0 40 #[.val (.int x0), .val (.int (0 : Int32)), .val (.ref k0), .val (.int (0 : Int32)), .unset] [(.ref k0), (.ref k0)] h0 0 0 := ra35.getS hx hZ hown (hw _ (List.mem_of_getElem? (i := 8) rfl)) En.2.1 (hb hby at_37)
    have ra37 : OwnW s0 n0 43 #[.val (.int x0), .val (.int (0 : Int32)), .val (.ref k0), .val (.int (0 : Int32)), .unset] [] h0 0 0 := ra36.goX fun T t ls X eT k => Jvm.RoadKit.acmp X hx rfl rfl rfl (pc0 := 40) (pc' := 43) (same := true) rfl (hb hby at_40) rfl (decide_eq_true rfl) (by decide) (by decide) k
    have ra38 : OwnW s0 n0 44 #[.val (.int x0), .val (.int (0 : Int32)), .val (.ref k0), .val (.int (0 : Int32)), .unset] [(.int (1 : Int32))] h0 0 0 := ra37.go fun T t X k => XS.iconst X hx rfl (hb hby at_43) k
    have ra39 : OwnW s0 n0 48 #[.val (.int x0), .val (.int (0 : Int32)), .val (.ref k0), .val (.int (0 : Int32)), .unset] [(.int (1 : Int32))] h0 0 0 := ra38.go fun T t X k => XS.goto X hx rfl (pc0 := 44) (pc' := 48) rfl (hb hby at_44) (by decide) (by decide) k
    have ra40 : OwnW s0 n0 50 #[.val (.int x0), .val (.int (0 : Int32)), .val (.ref k0), .val (.int (0 : Int32)), .val (.int (1 : Int32))] [] h0 0 0 := ra39.go fun T t X k => XS.istore X hx rfl (hb hby at_48) rfl (l' := #[.val (.int x0), .val (.int (0 : Int32)), .val (.ref k0), .val (.int (0 : Int32)), .val (.int (1 : Int32))]) rfl k
    have ra41 : OwnW s0 n0 51 #[.val (.int x0), .val (.int (0 : Int32)), .val (.ref k0), .val (.int (0 : Int32)), .val (.int (1 : Int32))] [(.int (0 : Int32))] h0 0 0 := ra40.go fun T t X k => XS.iloadN X hx rfl (hb hby at_50) rfl k
    have ra42 : OwnW s0 n0 52 #[.val (.int x0), .val (.int (0 : Int32)), .val (.ref k0), .val (.int (0 : Int32)), .val (.int (1 : Int32))] [(.int (0 : Int32)), (.int (0 : Int32))] h0 0 0 := ra41.go fun T t X k => XS.iloadN X hx rfl (hb hby at_51) rfl k
    have ra43 : OwnW s0 n0 55 #[.val (.int x0), .val (.int (0 : Int32)), .val (.ref k0), .val (.int (0 : Int32)), .val (.int (1 : Int32))] [] h0 0 0 := ra42.go fun T t X k => XS.icmpNo X hx rfl (hb hby at_52) rfl (teq rfl).2 k
    have ra44 : OwnW s0 n0 57 #[.val (.int x0), .val (.int (0 : Int32)), .val (.ref k0), .val (.int (0 : Int32)), .val (.int (1 : Int32))] [(.int (1 : Int32))] h0 0 0 := ra43.go fun T t X k => XS.iload X hx rfl (hb hby at_55) rfl k
    have ra45 : OwnW s0 n0 58 #[.val (.int x0), .val (.int (0 : Int32)), .val (.ref k0), .val (.int (0 : Int32)), .val (.int (1 : Int32))] [(.int (0 : Int32)), (.int (1 : Int32))] h0 0 0 := ra44.go fun T t X k => XS.iloadN X hx rfl (hb hby at_57) rfl k
    have ra46 : OwnW s0 n0 61 #[.val (.int x0), .val (.int (0 : Int32)), .val (.ref k0), .val (.int (0 : Int32)), .val (.int (1 : Int32))] [(.int (1 : Int32))] h0 0 0 := ra45.go fun T t X k => XS.ifNo X hx rfl (hb hby at_58) rfl ((if0 _ _).trans (teq rfl).2) k
    have ra47 : OwnW s0 n0 62 #[.val (.int x0), .val (.int (0 : Int32)), .val (.ref k0), .val (.int (0 : Int32)), .val (.int (1 : Int32))] [(.int (1 : Int32)), (.int (1 : Int32))] h0 0 0 := ra46.go fun T t X k => XS.iconst X hx rfl (hb hby at_61) k
    have ra48 : OwnW s0 n0 66 #[.val (.int x0), .val (.int (0 : Int32)), .val (.ref k0), .val (.int (0 : Int32)), .val (.int (1 : Int32))] [(.int (1 : Int32)), (.int (1 : Int32))] h0 0 0 := ra47.go fun T t X k => XS.goto X hx rfl (pc0 := 62) (pc' := 66) rfl (hb hby at_62) (by decide) (by decide) k
    have ra49 : OwnW s0 n0 69 #[.val (.int x0), .val (.int (0 : Int32)), .val (.ref k0), .val (.int (0 : Int32)), .val (.int (1 : Int32))] [] h0 0 0 := ra48.go fun T t X k => XS.icmpNo X hx rfl (hb hby at_66) rfl (teq rfl).2 k
    have ra50 : OwnW s0 n0 70 #[.val (.int x0), .val (.int (0 : Int32)), .val (.ref k0), .val (.int (0 : Int32)), .val (.int (1 : Int32))] [(.int (1 : Int32))] h0 0 0 := ra49.go fun T t X k => XS.iconst X hx rfl (hb hby at_69) k
    have ra51 : OwnW s0 n0 74 #[.val (.int x0), .val (.int (0 : Int32)), .val (.ref k0), .val (.int (0 : Int32)), .val (.int (1 : Int32))] [(.int (1 : Int32))] h0 0 0 := ra50.go fun T t X k => XS.goto X hx rfl (pc0 := 70) (pc' := 74) rfl (hb hby at_70) (by decide) (by decide) k
    have ra52 := ra51.retN hx hret (by simp) rfl (hb hby at_74)
    exact ⟨_, _, 0, 0, rfl, by decide, by decide, ra52⟩
  · have rb := r
    have rb24 : OwnW s0 n0 12 #[.val (.int x0), .val (.int (1 : Int32)), .unset, .unset, .unset] [] h0 0 0 := rb.go fun T t X k => XS.istoreN X hx rfl (hb hby at_11) rfl (l' := #[.val (.int x0), .val (.int (1 : Int32)), .unset, .unset, .unset]) rfl k
    have rb25 : OwnW s0 n0 13 #[.val (.int x0), .val (.int (1 : Int32)), .unset, .unset, .unset] [(.int (1 : Int32))] h0 0 0 := rb24.go fun T t X k => XS.iloadN X hx rfl (hb hby at_12) rfl k
    obtain ⟨vrb26, hrb26, rb26, qrb26⟩ := rb25.callS hx hZ hown (hw _ (List.mem_of_getElem? (i := 0) rfl)) (hw _ (List.mem_of_getElem? (i := 1) rfl)) (hw _ (List.mem_of_getElem? (i := 2) rfl)) (hw _ (List.mem_of_getElem? (i := 3) rfl)) (by decide) (argsL := [(.int (1 : Int32))]) (own_of1 l Z a0 hw k0 k1 h0 n0 En) [] 0 (by decide) (by decide) (by rw [hml]; rfl) (lenOf own_pd0 rfl) rfl (Nat.le_of_eq rfl) (hb hby at_13) (by decide) (by decide)
    obtain ⟨rfl, rfl⟩ := qrb26
    have rb26 : OwnW s0 n0 16 #[.val (.int x0), .val (.int (1 : Int32)), .unset, .unset, .unset] [(.ref k1)] h0 0 0 := rb26
    have rb27 : OwnW s0 n0 17 #[.val (.int x0), .val (.int (1 : Int32)), .val (.ref k1), .unset, .unset] [] h0 0 0 := rb26.go fun T t X k => XS.astoreN X hx rfl (hb hby at_16) rfl rfl (l' := #[.val (.int x0), .val (.int (1 : Int32)), .val (.ref k1), .unset, .unset]) rfl k
    have rb28 : OwnW s0 n0 18 #[.val (.int x0), .val (.int (1 : Int32)), .val (.ref k1), .unset, .unset] [(.ref k1)] h0 0 0 := rb27.go fun T t X k => XS.aloadN X hx rfl (hb hby at_17) rfl rfl k
    have rb29 : OwnW s0 n0 23 #[.val (.int x0), .val (.int (1 : Int32)), .val (.ref k1), .unset, .unset] [] h0 0 0 := rb28.go fun T t X k => XS.ifnonnullYes X hx rfl (pc0 := 18) (pc' := 23) rfl (hb hby at_18) rfl (by decide) (by decide) k
    have rb30 : OwnW s0 n0 24 #[.val (.int x0), .val (.int (1 : Int32)), .val (.ref k1), .unset, .unset] [(.ref k1)] h0 0 0 := rb29.go fun T t X k => XS.aloadN X hx rfl (hb hby at_23) rfl rfl k
    have rb31 : OwnW s0 n0 27 #[.val (.int x0), .val (.int (1 : Int32)), .val (.ref k1), .unset, .unset] [(.ref k1), (.ref k1)] h0 0 0 := rb30.getS hx hZ hown (hw _ (List.mem_of_getElem? (i := 6) rfl)) En.2.2.2.1 (hb hby at_24)
    have rb32 : OwnW s0 n0 30 #[.val (.int x0), .val (.int (1 : Int32)), .val (.ref k1), .unset, .unset] [] h0 0 0 := rb31.goX fun T t ls X eT k => Jvm.RoadKit.acmp X hx rfl rfl rfl (pc0 := 27) (pc' := 30) (same := true) rfl (hb hby at_27) rfl (decide_eq_true rfl) (by decide) (by decide) k
    have rb33 : OwnW s0 n0 31 #[.val (.int x0), .val (.int (1 : Int32)), .val (.ref k1), .unset, .unset] [(.int (1 : Int32))] h0 0 0 := rb32.go fun T t X k => XS.iconst X hx rfl (hb hby at_30) k
    have rb34 : OwnW s0 n0 35 #[.val (.int x0), .val (.int (1 : Int32)), .val (.ref k1), .unset, .unset] [(.int (1 : Int32))] h0 0 0 := rb33.go fun T t X k => XS.goto X hx rfl (pc0 := 31) (pc' := 35) rfl (hb hby at_31) (by decide) (by decide) k
    have rb35 : OwnW s0 n0 36 #[.val (.int x0), .val (.int (1 : Int32)), .val (.ref k1), .val (.int (1 : Int32)), .unset] [] h0 0 0 := rb34.go fun T t X k => XS.istoreN X hx rfl (hb hby at_35) rfl (l' := #[.val (.int x0), .val (.int (1 : Int32)), .val (.ref k1), .val (.int (1 : Int32)), .unset]) rfl k
    have rb36 : OwnW s0 n0 37 #[.val (.int x0), .val (.int (1 : Int32)), .val (.ref k1), .val (.int (1 : Int32)), .unset] [(.ref k1)] h0 0 0 := rb35.go fun T t X k => XS.aloadN X hx rfl (hb hby at_36) rfl rfl k
    have rb37 : OwnW s0 n0 40 #[.val (.int x0), .val (.int (1 : Int32)), .val (.ref k1), .val (.int (1 : Int32)), .unset] [(.ref k0), (.ref k1)] h0 0 0 := rb36.getS hx hZ hown (hw _ (List.mem_of_getElem? (i := 8) rfl)) En.2.1 (hb hby at_37)
    have rb38 : OwnW s0 n0 47 #[.val (.int x0), .val (.int (1 : Int32)), .val (.ref k1), .val (.int (1 : Int32)), .unset] [] h0 0 0 := rb37.goX fun T t ls X eT k => Jvm.RoadKit.acmp X hx rfl rfl rfl (pc0 := 40) (pc' := 47) (same := false) rfl (hb hby at_40) rfl (own_rne (own_ne En.2.2.2.2.2 En.2.2.2.2.1 (by decide))) (by decide) (by decide) k
    have rb39 : OwnW s0 n0 48 #[.val (.int x0), .val (.int (1 : Int32)), .val (.ref k1), .val (.int (1 : Int32)), .unset] [(.int (0 : Int32))] h0 0 0 := rb38.go fun T t X k => XS.iconst X hx rfl (hb hby at_47) k
    have rb40 : OwnW s0 n0 50 #[.val (.int x0), .val (.int (1 : Int32)), .val (.ref k1), .val (.int (1 : Int32)), .val (.int (0 : Int32))] [] h0 0 0 := rb39.go fun T t X k => XS.istore X hx rfl (hb hby at_48) rfl (l' := #[.val (.int x0), .val (.int (1 : Int32)), .val (.ref k1), .val (.int (1 : Int32)), .val (.int (0 : Int32))]) rfl k
    have rb41 : OwnW s0 n0 51 #[.val (.int x0), .val (.int (1 : Int32)), .val (.ref k1), .val (.int (1 : Int32)), .val (.int (0 : Int32))] [(.int (1 : Int32))] h0 0 0 := rb40.go fun T t X k => XS.iloadN X hx rfl (hb hby at_50) rfl k
    have rb42 : OwnW s0 n0 52 #[.val (.int x0), .val (.int (1 : Int32)), .val (.ref k1), .val (.int (1 : Int32)), .val (.int (0 : Int32))] [(.int (1 : Int32)), (.int (1 : Int32))] h0 0 0 := rb41.go fun T t X k => XS.iloadN X hx rfl (hb hby at_51) rfl k
    have rb43 : OwnW s0 n0 55 #[.val (.int x0), .val (.int (1 : Int32)), .val (.ref k1), .val (.int (1 : Int32)), .val (.int (0 : Int32))] [] h0 0 0 := rb42.go fun T t X k => XS.icmpNo X hx rfl (hb hby at_52) rfl (teq rfl).2 k
    have rb44 : OwnW s0 n0 57 #[.val (.int x0), .val (.int (1 : Int32)), .val (.ref k1), .val (.int (1 : Int32)), .val (.int (0 : Int32))] [(.int (0 : Int32))] h0 0 0 := rb43.go fun T t X k => XS.iload X hx rfl (hb hby at_55) rfl k
    have rb45 : OwnW s0 n0 58 #[.val (.int x0), .val (.int (1 : Int32)), .val (.ref k1), .val (.int (1 : Int32)), .val (.int (0 : Int32))] [(.int (1 : Int32)), (.int (0 : Int32))] h0 0 0 := rb44.go fun T t X k => XS.iloadN X hx rfl (hb hby at_57) rfl k
    have rb46 : OwnW s0 n0 65 #[.val (.int x0), .val (.int (1 : Int32)), .val (.ref k1), .val (.int (1 : Int32)), .val (.int (0 : Int32))] [(.int (0 : Int32))] h0 0 0 := rb45.go fun T t X k => XS.ifYes X hx rfl (pc0 := 58) (pc' := 65) rfl (hb hby at_58) rfl ((if0 _ _).trans (feq (by decide)).2) (by decide) (by decide) k
    have rb47 : OwnW s0 n0 66 #[.val (.int x0), .val (.int (1 : Int32)), .val (.ref k1), .val (.int (1 : Int32)), .val (.int (0 : Int32))] [(.int (0 : Int32)), (.int (0 : Int32))] h0 0 0 := rb46.go fun T t X k => XS.iconst X hx rfl (hb hby at_65) k
    have rb48 : OwnW s0 n0 69 #[.val (.int x0), .val (.int (1 : Int32)), .val (.ref k1), .val (.int (1 : Int32)), .val (.int (0 : Int32))] [] h0 0 0 := rb47.go fun T t X k => XS.icmpNo X hx rfl (hb hby at_66) rfl (teq rfl).2 k
    have rb49 : OwnW s0 n0 70 #[.val (.int x0), .val (.int (1 : Int32)), .val (.ref k1), .val (.int (1 : Int32)), .val (.int (0 : Int32))] [(.int (1 : Int32))] h0 0 0 := rb48.go fun T t X k => XS.iconst X hx rfl (hb hby at_69) k
    have rb50 : OwnW s0 n0 74 #[.val (.int x0), .val (.int (1 : Int32)), .val (.ref k1), .val (.int (1 : Int32)), .val (.int (0 : Int32))] [(.int (1 : Int32))] h0 0 0 := rb49.go fun T t X k => XS.goto X hx rfl (pc0 := 70) (pc' := 74) rfl (hb hby at_70) (by decide) (by decide) k
    have rb51 := rb50.retN hx hret (by simp) rfl (hb hby at_74)
    exact ⟨_, _, 0, 0, rfl, by decide, by decide, rb51⟩
set_option maxRecDepth 65536 in
set_option maxHeartbeats 40000000 in
theorem comes_1 {Post : Tables → Env → Array Value → State → Outcome → State → Prop} (hpost : ∀ tb e args s v u, (limb_1_1.after args s (.returned v) u = true ∧ limb_1_2.after args s (.returned v) u = true ∧ True) → FrameEnd s (.returned v) u (Jvm.fieldLocs frame_1_writes args s ++ Jvm.arrayLocs frame_1_arrays args s ++ Jvm.staticLocs frame_1_statics s) 0 0 → Post tb e args s (.returned v) u) :
    ArmFor flags0 classFile x code maxLocals ret World_1 tables_1 room_1 Calls_1 rest_1 Pre_1 Post := by
  intro l hfl _ _ p e ha hc hk s m args below hf hA hF happ hP
  obtain ⟨hcalls, hrest, hpre⟩ := hP
  obtain ⟨-, -, -, hnamed, -, -, -, hat⟩ := (Spec.applies_iff hf).mp happ
  obtain ⟨hg, hn⟩ := and_e (Cond.before_iff.mp (show (Jvm.Cond.and given_1 narrow_1).before args s = true from hpre))
  obtain ⟨g0, t0⟩ := and_e hg
  obtain ⟨w0, rfl⟩ : ∃ w0 : Value, args = #[w0] := by
    have hs : args.size = 1 := by simpa [Cond.value, given_1] using g0
    obtain ⟨L⟩ := args
    match L, hs with
    | [w0], _ => exact ⟨w0, rfl⟩
  have hw := fun d (hd : d ∈ tables_1) => atoms_spec (ws := Jvm.Cond.code x code maxLocals ret :: tables_1) hat d (List.mem_cons_of_mem _ hd)
  have hfit : Fit s := fun {y c} hc i hi => by
    obtain ⟨ha, rfl⟩ := Array.getElem?_eq_some_iff.mp hc
    have q := List.all_eq_true.mp ((Array.all_eq_true_iff_forall_mem.mp hF) _ (Array.getElem_mem ha)) i (List.mem_range.mpr hi)
    simpa [Array.getElem?_eq_getElem hi] using q
  obtain ⟨i0, e0⟩ := is_v t0
  obtain rfl : w0 = (.int i0) := Option.some.inj e0
  obtain ⟨n0, hn0⟩ := and_e hn
  obtain ⟨n1, hn1⟩ := and_e hn0
  obtain ⟨n2, hn2⟩ := and_e hn1
  have n3 := hn2
  obtain ⟨k0, ek0⟩ := exa_v n0
  have Xk0 : Exa s s.heap k0 "com/example/songchuan/songchuan/rulebook/TestCondition" := Exa.start ek0 n0
  have Sk0 : Sta s s.heap "com/example/songchuan/songchuan/rulebook/TestCondition" "NORMAL" "Lcom/example/songchuan/songchuan/rulebook/TestCondition;" (.ref k0) := Sta.start ek0 (Or.inr ⟨(hw _ (List.mem_of_getElem? (i := 2) rfl)), (hw _ (List.mem_of_getElem? (i := 5) rfl))⟩)
  obtain ⟨k1, ek1⟩ := exa_v n1
  have Xk1 : Exa s s.heap k1 "com/example/songchuan/songchuan/rulebook/TestCondition" := Exa.start ek1 n1
  have Sk1 : Sta s s.heap "com/example/songchuan/songchuan/rulebook/TestCondition" "EXTREME" "Lcom/example/songchuan/songchuan/rulebook/TestCondition;" (.ref k1) := Sta.start ek1 (Or.inr ⟨(hw _ (List.mem_of_getElem? (i := 2) rfl)), (hw _ (List.mem_of_getElem? (i := 7) rfl))⟩)
  have Fk0_ordinal : Fld s s.heap k0 "java/lang/Enum" "ordinal" "I" (.int (0 : Int32)) := Fld.start ((fld_at ek0).symm.trans (own_eqv (Or.inr (Or.inr ⟨_, rfl⟩)) (Term.int_eval _) n2))
  have Fk1_ordinal : Fld s s.heap k1 "java/lang/Enum" "ordinal" "I" (.int (1 : Int32)) := Fld.start ((fld_at ek1).symm.trans (own_eqv (Or.inr (Or.inr ⟨_, rfl⟩)) (Term.int_eval _) n3))
  have En : OwnEn s s.heap k0 k1 := ⟨Xk0, Sk0, Xk1, Sk1, Fk0_ordinal, Fk1_ordinal⟩
  obtain ⟨n, o, h1, h2, h3, _, L, rfl, ⟨N, rfl⟩, hq⟩ := own_law l s _ hw i0 k0 k1 s.heap s.heap.size En tables_1 p e ha hc hk s m _ below hf ((Spec.applies_iff_loose hf).mp happ).1 ⟨rfl, State.Warmed39.refl s, rfl⟩ trivial
  refine ⟨n, _, h1, h2, h3, hpost _ _ _ _ _ _ ⟨Cond.after_iff.mpr rfl, Cond.after_iff.mpr (eq_i res_at (Term.int_eval (1)) rfl), trivial⟩ ⟨hq.1, hq.2.1, (hq.2.2.sift fun y hy => Or.inr (N y hy)).mono (by decide) (by decide)⟩⟩
theorem main_1_1 : Claimed_1_1 := comes_1 fun _ _ _ _ _ _ h hF => ⟨h.1, hF⟩
theorem main_1_2 : Claimed_1_2 := comes_1 fun _ _ _ _ _ _ h hF => ⟨h.2.1, hF⟩
end Jvm.Pilot.@@N@@
namespace Jvm.Pilot.@@N@@
open Jvm Jvm.ClassFile Sem Op Lib Jvm.Free Jvm.Stand Jvm.Pilot.@@N@@.Jvm.D
/-! MADE BY PROGRAM (witnessworld.py) out of the Statement's table words and the real class files: 12 classes; the members and pool entries that the words name. The judged class is class 1, her method 1. -/
namespace start1
open Jvm.ClassFile
def u (s : String) : CpInfo := .utf8 (stringToUtf16 s)
/-- a pool by its gaps: so many unusable entries, then the entry; so many at the end -/
def gap : Nat → List CpInfo → List CpInfo
  | 0, r => r
  | n + 1, r => .unusable :: gap n r
def poolList (es : List (Nat × CpInfo)) (last : Nat) : List CpInfo := es.foldr (fun e r => gap e.1 (e.2 :: r)) (gap last [])
def pool (es : List (Nat × CpInfo)) (last : Nat) : Array CpInfo := ⟨poolList es last⟩
def fileOf (pool : Array CpInfo) (this : Nat) (attrs : Array Attribute := #[]) (ms : Array MethodInfo := #[]) (fl : Nat := 33) (sup : Nat := 0) (ifs : Array Nat := #[]) (fds : Array FieldInfo := #[]) : ClassFile where
  minorVersion := 0
  majorVersion := 65
  constantPool := pool
  accessFlags := fl
  thisClass := this
  superClass := sup
  interfaces := ifs
  fields := fds
  methods := ms
  attributes := attrs
def plain (name : String) (sup : Option ClassId) : Class where
  name := name
  kind := .ordinary
  loader := none
  accessFlags := 33
  super := sup
  interfaces := #[]
  cf := none
  fields := #[]
  methods := #[]
  instanceTypes := #[]
  staticTypes := #[]
  resolved := #[]
  callSites := []
  init := .initialized
  statics := none
  mirror := none

def pool0 : Array CpInfo := pool [(5, u "<init>"), (0, u "()V"), (1, .class_ 10), (1, u "java/lang/Object")] 113

def k0m0 : Method := { name := "<init>", desc := "()V", sig := { parameters := [], returnType := none }, accessFlags := 1, code := none }
/-- java/lang/Object -/
def k0 : Class := { plain "java/lang/Object" none with
  accessFlags := 33
  interfaces := #[]
  cf := some (fileOf pool0 8 #[] #[{ accessFlags := 1, nameIndex := 5, descriptorIndex := 6, attributes := #[] }] 33 0 #[] #[])
  fields := #[]
  methods := #[k0m0]
  instanceTypes := #[]
  staticTypes := #[]
  resolved := Array.replicate 124 none
  statics := none }

def pool1 : Array CpInfo := pool [(2, .class_ 4), (1, u "java/lang/Object"), (0, u "<init>"), (0, u "()V"), (0, .methodref 8 9), (0, .class_ 10), (0, .nameAndType 11 12), (0, u "com/example/songchuan/songchuan/rulebook/TestCondition"), (0, u "of"), (0, u "(Z)Lcom/example/songchuan/songchuan/rulebook/TestCondition;"), (0, .fieldref 8 14), (0, .nameAndType 15 16), (0, u "EXTREME"), (0, u "Lcom/example/songchuan/songchuan/rulebook/TestCondition;"), (0, .fieldref 8 18), (0, .nameAndType 19 16), (0, u "NORMAL"), (0, .class_ 21), (0, u "com/example/songchuan/songchuan/rulebook/TestConditionOfPinLaw"), (2, u "law"), (0, u "(I)Z")] 3

def k1m0 : Method := { name := "<init>", desc := "()V", sig := { parameters := [], returnType := none }, accessFlags := 2, code := none }
def k1c1 : Code := { maxStack := 2, maxLocals := 5, code := code, exceptionTable := #[], attributes := #[] }
def k1m1 : Method := { name := "law", desc := "(I)Z", sig := { parameters := [.int], returnType := some .boolean }, accessFlags := 9, code := some k1c1 }
/-- com/example/songchuan/songchuan/rulebook/TestConditionOfPinLaw -/
def k1 : Class := { plain "com/example/songchuan/songchuan/rulebook/TestConditionOfPinLaw" (some 0) with
  accessFlags := 49
  interfaces := #[]
  cf := some (fileOf pool1 20 #[] #[{ accessFlags := 2, nameIndex := 5, descriptorIndex := 6, attributes := #[] }, { accessFlags := 9, nameIndex := 24, descriptorIndex := 25, attributes := #[] }] 49 2 #[] #[])
  fields := #[]
  methods := #[k1m0, k1m1]
  instanceTypes := #[]
  staticTypes := #[]
  resolved := Array.replicate 29 none
  statics := none }

def pool2 : Array CpInfo := pool [(1, .class_ 2), (0, u "java/lang/constant/Constable"), (0, .class_ 4), (0, u "java/lang/Object")] 6

/-- java/lang/constant/Constable -/
def k2 : Class := { plain "java/lang/constant/Constable" (some 0) with
  accessFlags := 1537
  interfaces := #[]
  cf := some (fileOf pool2 1 #[] #[] 1537 3 #[] #[])
  fields := #[]
  methods := #[]
  instanceTypes := #[]
  staticTypes := #[]
  resolved := Array.replicate 11 none
  statics := none }

def pool3 : Array CpInfo := pool [(1, .class_ 2), (0, u "java/lang/Comparable"), (0, .class_ 4), (0, u "java/lang/Object")] 7

/-- java/lang/Comparable -/
def k3 : Class := { plain "java/lang/Comparable" (some 0) with
  accessFlags := 1537
  interfaces := #[]
  cf := some (fileOf pool3 1 #[] #[] 1537 3 #[] #[])
  fields := #[]
  methods := #[]
  instanceTypes := #[]
  staticTypes := #[]
  resolved := Array.replicate 12 none
  statics := none }

def pool4 : Array CpInfo := pool [(1, .class_ 2), (0, u "java/io/Serializable"), (0, .class_ 4), (0, u "java/lang/Object")] 2

/-- java/io/Serializable -/
def k4 : Class := { plain "java/io/Serializable" (some 0) with
  accessFlags := 1537
  interfaces := #[]
  cf := some (fileOf pool4 1 #[] #[] 1537 3 #[] #[])
  fields := #[]
  methods := #[]
  instanceTypes := #[]
  staticTypes := #[]
  resolved := Array.replicate 7 none
  statics := none }

def pool5 : Array CpInfo := pool [(2, .class_ 4), (1, u "java/lang/Enum"), (0, u "name"), (0, u "Ljava/lang/String;"), (2, u "ordinal"), (0, u "I"), (1, .class_ 14), (1, u "java/lang/Object"), (4, u "hash"), (86, .class_ 108), (1, u "java/lang/Enum$EnumDesc"), (2, .class_ 112), (0, u "java/lang/constant/Constable"), (0, .class_ 114), (0, u "java/lang/Comparable"), (0, .class_ 116), (0, u "java/io/Serializable")] 87

/-- java/lang/Enum -/
def k5 : Class := { plain "java/lang/Enum" (some 0) with
  accessFlags := 1057
  interfaces := #[2, 3, 4]
  cf := some (fileOf pool5 2 #[.nestMembers #[106]] #[] 1057 12 #[111, 113, 115] #[{ accessFlags := 18, nameIndex := 5, descriptorIndex := 6, attributes := #[] }, { accessFlags := 18, nameIndex := 9, descriptorIndex := 10, attributes := #[] }, { accessFlags := 2, nameIndex := 19, descriptorIndex := 10, attributes := #[] }])
  fields := #[{ name := "name", type := (.object "java/lang/String"), accessFlags := 18, slot := 0, constantValue := 0 }, { name := "ordinal", type := .int, accessFlags := 18, slot := 1, constantValue := 0 }, { name := "hash", type := .int, accessFlags := 2, slot := 2, constantValue := 0 }]
  methods := #[]
  instanceTypes := #[(.object "java/lang/String"), .int, .int]
  staticTypes := #[]
  resolved := Array.replicate 204 none
  statics := none }

def pool6 : Array CpInfo := pool [(1, .class_ 2), (0, u "com/example/songchuan/songchuan/rulebook/TestCondition"), (0, .fieldref 1 4), (0, .nameAndType 5 6), (0, u "NORMAL"), (0, u "Lcom/example/songchuan/songchuan/rulebook/TestCondition;"), (0, .fieldref 1 8), (0, .nameAndType 9 6), (0, u "EXTREME"), (2, u "$VALUES"), (0, u "[Lcom/example/songchuan/songchuan/rulebook/TestCondition;"), (6, .class_ 22), (1, u "java/lang/Enum"), (10, u "of"), (15, u "(Z)Lcom/example/songchuan/songchuan/rulebook/TestCondition;")] 7

def k6c0 : Code := { maxStack := 1, maxLocals := 1, code := prog_27_method_4_code, exceptionTable := #[], attributes := #[] }
def k6m0 : Method := { name := "of", desc := "(Z)Lcom/example/songchuan/songchuan/rulebook/TestCondition;", sig := { parameters := [.boolean], returnType := some (.object "com/example/songchuan/songchuan/rulebook/TestCondition") }, accessFlags := 8, code := some k6c0 }
/-- com/example/songchuan/songchuan/rulebook/TestCondition -/
def k6 : Class := { plain "com/example/songchuan/songchuan/rulebook/TestCondition" (some 5) with
  accessFlags := 16432
  interfaces := #[]
  cf := some (fileOf pool6 1 #[] #[{ accessFlags := 8, nameIndex := 33, descriptorIndex := 49, attributes := #[] }] 16432 20 #[] #[{ accessFlags := 16409, nameIndex := 5, descriptorIndex := 6, attributes := #[] }, { accessFlags := 16409, nameIndex := 9, descriptorIndex := 6, attributes := #[] }, { accessFlags := 4122, nameIndex := 12, descriptorIndex := 13, attributes := #[] }])
  fields := #[{ name := "NORMAL", type := (.object "com/example/songchuan/songchuan/rulebook/TestCondition"), accessFlags := 16409, slot := 0, constantValue := 0 }, { name := "EXTREME", type := (.object "com/example/songchuan/songchuan/rulebook/TestCondition"), accessFlags := 16409, slot := 1, constantValue := 0 }, { name := "$VALUES", type := (.array (.object "com/example/songchuan/songchuan/rulebook/TestCondition")), accessFlags := 4122, slot := 2, constantValue := 0 }]
  methods := #[k6m0]
  instanceTypes := #[(.object "java/lang/String"), .int, .int]
  staticTypes := #[(.object "com/example/songchuan/songchuan/rulebook/TestCondition"), (.object "com/example/songchuan/songchuan/rulebook/TestCondition"), (.array (.object "com/example/songchuan/songchuan/rulebook/TestCondition"))]
  resolved := Array.replicate 57 none
  statics := some 0 }

def pool7 : Array CpInfo := pool [(1, u "java/lang/Cloneable"), (0, .class_ 1), (0, u "java/lang/Object"), (0, .class_ 3)] 3

/-- java/lang/Cloneable -/
def k7 : Class := { plain "java/lang/Cloneable" (some 0) with
  accessFlags := 1537
  interfaces := #[]
  cf := some (fileOf pool7 2 #[] #[] 1537 4 #[] #[])
  fields := #[]
  methods := #[]
  instanceTypes := #[]
  staticTypes := #[]
  resolved := Array.replicate 8 none
  statics := none }

/-- the primitive byte -/
def k8 : Class := { plain "byte" none with kind := .primitive 'B', accessFlags := 0x411 }
/-- [B -/
def k9 : Class := { plain "[B" (some 0) with kind := .array 8 .byte, interfaces := #[7, 4], accessFlags := 1041 }

/-- the primitive int -/
def k10 : Class := { plain "int" none with kind := .primitive 'I', accessFlags := 0x411 }
/-- [I -/
def k11 : Class := { plain "[I" (some 0) with kind := .array 10 .int, interfaces := #[7, 4], accessFlags := 1041 }

def heap : Heap := #[{ cls := 6, slots := #[.ref 1, .ref 2, .null], vm := .statics 6 },
  { cls := 6, slots := #[.null, .int 0, .int 0], vm := .none },
  { cls := 6, slots := #[.null, .int 1, .int 0], vm := .none }]
def classes : Array Class := #[k0, k1, k2, k3, k4, k5, k6, k7, k8, k9, k10, k11]
def interned : List (Array UInt16 × Addr) := []
def slotsUsed : Nat := 9
def theMethod : MethodId := ⟨1, 1⟩
def args0 : Array Value := #[.int 5]
def aboutOver (below : List Frame) : State where
  vm := { classes := classes, interned := interned.toArray }
  heap := heap
  slotsUsed := slotsUsed
  threads := #[{ frames := .invoking theMethod args0 :: below }]
def below0 : List Frame := [.native { method := ⟨0, 0⟩, args := #[] }]
def about1 : State := aboutOver below0
def p0 : Program := .bare "" "" ""
def e0 : Env := launch0.env 0 0 0
theorem w_frames : about1.frames = Frame.invoking theMethod args0 :: below0 := rfl
set_option maxRecDepth 65536 in
theorem w_args : argsFit about1.vm theMethod args0 = true := by decide +kernel
set_option maxRecDepth 65536 in
theorem w_heap : heapFits about1 = true := by decide +kernel
set_option maxRecDepth 65536 in
theorem w_runnable : about1.curStatus? = some .runnable := by decide +kernel
set_option maxRecDepth 65536 in
theorem w_alone : about1.alone = true := by decide +kernel
set_option maxRecDepth 65536 in
theorem w_named : about1.methodNamed? x = some theMethod := by decide +kernel
set_option maxRecDepth 65536 in
theorem w_hears : about1.hears theMethod below0 = true := by decide +kernel
set_option maxRecDepth 65536 in
theorem w_ripe : about1.ripe theMethod args0 below0 = true := by decide +kernel
theorem w_running : about1.status = .running := rfl
set_option maxRecDepth 65536 in
theorem w_room : about1.hasRoom e0.platform room_1 = true :=
  launch0.hasRoom_least _ room_1 (by decide +kernel) (by decide +kernel) (by decide +kernel) (by decide +kernel) (by decide +kernel) (by decide +kernel)
theorem allAtoms_all (ts : List Jvm.Cond) (a : Array Jvm.Value) (st : Jvm.State) : (allAtoms ts).before a st = ts.all (fun c => c.before a st) := by
  induction ts with
  | nil => rfl
  | cons c t ih =>
    show (Jvm.Cond.and c (allAtoms t)).before a st = _
    rw [Jvm.Cond.before_and, ih, List.all_cons]
def words1 : List Jvm.Cond := Jvm.Cond.code x code maxLocals ret :: tables_1
/-- a 'code' word, met by the world's own term for the bytes: nothing is compared byte by byte -/
theorem code_word {y : MethodName} {bytes : ByteArray} {mx : Nat} {rt : Option FieldType} {a : Array Value} {s : State} {m : MethodId} {meth : Method} {c : Code} (h1 : s.methodNamed? y = some m) (h2 : s.vm.method? m = some meth) (h3 : meth.code = some c) (h4 : c.code = bytes)
    (h5 : (c.maxLocals == mx && c.exceptionTable.isEmpty && decide (c.maxStack ≤ mostOperands) && decide (meth.sig.returnType = rt) && !meth.locks && decide (parseMethodDescriptor y.desc = some meth.sig)) = true) : (Jvm.Cond.code y bytes mx rt).before a s = true := by
  simp only [Bool.and_eq_true, beq_iff_eq, Bool.not_eq_true', decide_eq_true_eq] at h5
  obtain ⟨⟨⟨⟨⟨g1, g2⟩, g3⟩, g4⟩, g5⟩, g6⟩ := h5
  simp [Cond.before, Cond.holds, Cond.value, h1, h2, h3, h4, g1, g2, g3, g4, g5, g6]
def isCode : Jvm.Cond → Bool
  | .code _ _ _ _ => true
  | _ => false
theorem all_split {L : List Jvm.Cond} {P : Jvm.Cond → Bool} (h1 : L.all (fun c => isCode c || P c) = true) (h2 : ∀ c ∈ L.filter isCode, P c = true) : L.all P = true := by
  refine List.all_eq_true.mpr fun c hc => ?_
  have h := List.all_eq_true.mp h1 c hc
  rcases Bool.eq_false_or_eq_true (isCode c) with hi | hi
  · exact h2 c (List.mem_filter.mpr ⟨hc, hi⟩)
  · simpa [hi] using h
set_option maxRecDepth 65536 in
theorem w_c0 : (Jvm.Cond.code x code maxLocals ret).before args0 about1 = true := code_word (m := ⟨1, 1⟩) (meth := k1m1) (c := k1c1) (by decide +kernel) rfl rfl rfl (by decide +kernel)
set_option maxRecDepth 65536 in
theorem w_c1 : (Jvm.Cond.code ({ cls := "com/example/songchuan/songchuan/rulebook/TestCondition", name := "of", desc := "(Z)Lcom/example/songchuan/songchuan/rulebook/TestCondition;" } : Jvm.MethodName) prog_27_method_4_code (1 : Nat) (Option.some (Jvm.ClassFile.FieldType.object "com/example/songchuan/songchuan/rulebook/TestCondition"))).before args0 about1 = true := code_word (m := ⟨6, 0⟩) (meth := k6m0) (c := k6c0) (by decide +kernel) rfl rfl rfl (by decide +kernel)
def codes1 : List Jvm.Cond := [Jvm.Cond.code x code maxLocals ret, Jvm.Cond.code ({ cls := "com/example/songchuan/songchuan/rulebook/TestCondition", name := "of", desc := "(Z)Lcom/example/songchuan/songchuan/rulebook/TestCondition;" } : Jvm.MethodName) prog_27_method_4_code (1 : Nat) (Option.some (Jvm.ClassFile.FieldType.object "com/example/songchuan/songchuan/rulebook/TestCondition"))]
set_option maxRecDepth 65536 in
theorem codes_eq : words1.filter isCode = codes1 := rfl
theorem w_codes : ∀ c ∈ words1.filter isCode, c.before args0 about1 = true := by
  rw [codes_eq]
  intro c hc
  simp only [codes1, List.mem_cons, List.not_mem_nil, or_false] at hc
  rcases hc with rfl | rfl
  · exact w_c0
  · exact w_c1
set_option maxRecDepth 65536 in
theorem w_t1 : words1.all (fun c => isCode c || c.before args0 about1) = true := by decide +kernel
theorem w_tables : (allAtoms (Jvm.Cond.code x code maxLocals ret :: tables_1)).before args0 about1 = true := by
  rw [allAtoms_all]
  show words1.all (fun c => c.before args0 about1) = true
  refine all_split ?_ w_codes
  rw [w_t1]
set_option maxRecDepth 65536 in
theorem w_case : (Jvm.Cond.and given_1 narrow_1).before args0 about1 = true := by decide +kernel
theorem w_applies : (headSpec (Jvm.Cond.code x code maxLocals ret :: tables_1) room_1).applies x e0.platform about1 = true :=
  (Spec.applies_iff w_frames).mpr ⟨w_running, w_runnable, w_alone, w_named, w_hears, w_ripe, w_room, w_tables⟩
theorem atStart : AtStart classFile x code maxLocals ret World_1 tables_1 room_1 Calls_1 rest_1 Pre_1 launch0 p0 e0 about1 theMethod args0 below0 :=
  ⟨lists_1, trivial, launch0.admits_env _ _ _, launch0.least_env, fairChoices_fair.cas, fairChoices_fair.clock, w_frames, w_args, w_heap, w_applies, trivial, trivial, w_case⟩
end start1
theorem witness_1 : WitnessClaimed_1 := ⟨start1.p0, start1.e0, start1.about1, start1.theMethod, start1.args0, start1.below0, start1.atStart⟩
end Jvm.Pilot.@@N@@
