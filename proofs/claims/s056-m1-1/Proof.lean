import JvmDerived
import JvmDerived.Pilot.@@N@@Statement
import JvmDerived.Pilot.@@N@@Code
set_option linter.unusedVariables false
set_option linter.unusedSimpArgs false
namespace Jvm.Pilot.@@N@@
open Jvm Jvm.ClassFile Sem Op Lib Jvm.Free Jvm.Stand Jvm.LawKit Jvm.RoadKit Bundle Jvm.Pilot.@@N@@.Jvm.D
/-! OwnW: the walk as a fact: from s0 it has come to pc with locals L, stack S, heap h; kc cells and ks slots made; written only cells at or above n0. -/
section OwnKit
variable {p : Program} {l : Launch} {e : Env} {R : Room} {s : State} {m : MethodId} {args : Array Value} {below : List Frame} {meth : Method} {c : Code} {s0 : State} {n0 pc pc' : Nat} {L L' : Array Slot} {S S' : List Value} {h h' : Heap} {kc ks : Nat} {Z : State} {a0 : Array Value}
def OwnW {p : Program} {l : Launch} {e : Env} {R : Room} {s : State} {m : MethodId} {args : Array Value} {below : List Frame} {meth : Method} {c : Code} (s0 : State) (n0 pc : Nat) (L : Array Slot) (S : List Value) (h : Heap) (kc ks : Nat) : Prop :=
  ∃ (T : State) (locs : List Loc), Stand p l e R s m args below meth c T locs kc ks ∧ T.heap = h ∧ Fr n0 locs ∧ Steps p.tables e below s0 (T.setTop (mkF m pc L S))
def OwnEnd {p : Program} {l : Launch} {e : Env} {R : Room} {s : State} {m : MethodId} {args : Array Value} {below : List Frame} {meth : Method} {c : Code} (s0 : State) (n0 : Nat) (v : Option Value) (h : Heap) (kc ks : Nat) : Prop :=
  ∃ (T : State) (locs : List Loc), Stand p l e R s m args below meth c T locs kc ks ∧ T.heap = h ∧ Fr n0 locs ∧ (meth.sig.returnType = none → v = none) ∧ ∀ fs : List Frame, (∀ (f : JFrame) (acts : List Action), f.method = m → f.locked = none → f.entered = [] → (doReturn e (T.setTop f) acts v).1 = T.setFrames fs) → Steps p.tables e below s0 (T.setFrames fs)
/-- a callee's contract: with the arguments A on the heap h0 it returns v and leaves h' with Q v h' -/
def OwnCon (l : Launch) (Z : State) (y : MethodName) (bytes : ByteArray) (maxL : Nat) (ret : Option FieldType) (rm : Room) (A : Array Value) (h0 : Heap) (n0 : Nat) (Q : Option Value → Heap → Prop) : Prop :=
  ∀ ws : List Jvm.Cond, MetFree l y (head1 (Jvm.Cond.code y bytes maxL ret :: ws) rm) (fun a U => a = A ∧ Z.Warmed39 U.vm ∧ U.heap = h0) (fun _ _ _ _ _ => True) (fun _ U o U' => ∃ v L, o = .returned v ∧ (Fr n0 L ∧ Q v U'.heap) ∧ FrameEnd U o U' L rm.cells rm.slots)
theorem OwnW.go (r : OwnW (p := p) (l := l) (e := e) (R := R) (s := s) (m := m) (args := args) (below := below) (meth := meth) (c := c) s0 n0 pc L S h kc ks)
    (f : ∀ (T t : State), At T m c below → Steps p.tables e below (T.setTop (mkF m pc' L' S')) t → Steps p.tables e below (T.setTop (mkF m pc L S)) t) :
    OwnW (p := p) (l := l) (e := e) (R := R) (s := s) (m := m) (args := args) (below := below) (meth := meth) (c := c) s0 n0 pc' L' S' h kc ks := by
  obtain ⟨T, ls, X, eT, N, st⟩ := r
  exact ⟨T, ls, X, eT, N, st.trans (f T _ X.here (Steps.refl _))⟩
theorem OwnW.goX (r : OwnW (p := p) (l := l) (e := e) (R := R) (s := s) (m := m) (args := args) (below := below) (meth := meth) (c := c) s0 n0 pc L S h kc ks)
    (f : ∀ (T t : State) (ls : List Loc), Stand p l e R s m args below meth c T ls kc ks → T.heap = h → Steps p.tables e below (T.setTop (mkF m pc' L' S')) t → Steps p.tables e below (T.setTop (mkF m pc L S)) t) :
    OwnW (p := p) (l := l) (e := e) (R := R) (s := s) (m := m) (args := args) (below := below) (meth := meth) (c := c) s0 n0 pc' L' S' h kc ks := by
  obtain ⟨T, ls, X, eT, N, st⟩ := r
  exact ⟨T, ls, X, eT, N, st.trans (f T _ ls X eT (Steps.refl _))⟩
theorem OwnW.goT (r : OwnW (p := p) (l := l) (e := e) (R := R) (s := s) (m := m) (args := args) (below := below) (meth := meth) (c := c) s0 n0 pc L S h kc ks)
    (f : ∀ (T : State) (ls : List Loc), Stand p l e R s m args below meth c T ls kc ks → T.heap = h → ∃ T', Stand p l e R s m args below meth c T' ls kc ks ∧ T'.heap = h ∧ ∀ t, Steps p.tables e below (T'.setTop (mkF m pc' L' S')) t → Steps p.tables e below (T.setTop (mkF m pc L S)) t) :
    OwnW (p := p) (l := l) (e := e) (R := R) (s := s) (m := m) (args := args) (below := below) (meth := meth) (c := c) s0 n0 pc' L' S' h kc ks := by
  obtain ⟨T, ls, X, eT, N, st⟩ := r
  obtain ⟨T', X', eT', st'⟩ := f T ls X eT
  exact ⟨T', ls, X', eT', N, st.trans (st' _ (Steps.refl _))⟩
/-- the same walk, written otherwise -/
theorem OwnW.to (r : OwnW (p := p) (l := l) (e := e) (R := R) (s := s) (m := m) (args := args) (below := below) (meth := meth) (c := c) s0 n0 pc L S h kc ks) (h1 : pc = pc') (h2 : L = L') (h3 : S = S') (h4 : h = h') :
    OwnW (p := p) (l := l) (e := e) (R := R) (s := s) (m := m) (args := args) (below := below) (meth := meth) (c := c) s0 n0 pc' L' S' h' kc ks := by
  subst h1 h2 h3 h4; exact r
theorem OwnW.newO (r : OwnW (p := p) (l := l) (e := e) (R := R) (s := s) (m := m) (args := args) (below := below) (meth := meth) (c := c) s0 n0 pc L S h kc ks)
    (hx : p.tables.exec = Jvm.exec) (hZ : Z.Warmed39 s.vm) {own C : String} {index n : Nat} (hown : s.vm.findClass own = some m.cls) (w : (Jvm.Cond.classLink own index C).before a0 Z = true) (wi : (Jvm.Cond.instantiable C n).before a0 Z = true) (wz : (Jvm.Cond.initialized C).before a0 Z = true)
    (hd : decode c.code pc = .ok (.new index, 3)) (hc : kc + 1 ≤ R.cells) (hl : ks + n ≤ R.slots) :
    ∃ h', OwnW (p := p) (l := l) (e := e) (R := R) (s := s) (m := m) (args := args) (below := below) (meth := meth) (c := c) s0 n0 (pc + 3) L (.ref h.size :: S) h' (kc + 1) (ks + n) ∧ Ext h h' ∧ Exa Z h' h.size C ∧ (∀ {O nm d : String} {ty : FieldType}, Laid Z a0 C O nm d → parseFieldDescriptor d = some ty → Fld Z h' h.size O nm d (defaultValue ty)) := by
  obtain ⟨T, ls, X, eT, N, st⟩ := r
  obtain ⟨T', h', X', e', E, A, D, -, st'⟩ := Jvm.RoadKit.newO X hx hZ hown w wi wz eT (g := mkF m pc L S) rfl hd hc hl
  exact ⟨h', ⟨T', ls, X', e', N, st.trans (st' _ (Steps.refl _))⟩, E, A, D⟩
theorem OwnW.newP (r : OwnW (p := p) (l := l) (e := e) (R := R) (s := s) (m := m) (args := args) (below := below) (meth := meth) (c := c) s0 n0 pc L S h kc ks)
    (hx : p.tables.exec = Jvm.exec) (hZ : Z.Warmed39 s.vm) {aty : ArrayType} (w : (Jvm.Cond.arrayClass (newarray.typeOf aty)).before a0 Z = true) (hd : decode c.code pc = .ok (.newarray aty, 2)) {n : Int32} {rest : List Value} (hs : S = .int n :: rest)
    (hn : ¬ n < 0) {cap : Nat} (hcap : n.toNatClampNeg ≤ cap) (hb : cap * 8 ≤ 536870912) (hc : kc + 1 ≤ R.cells) (hl : ks + cap ≤ R.slots) :
    ∃ h' cA, OwnW (p := p) (l := l) (e := e) (R := R) (s := s) (m := m) (args := args) (below := below) (meth := meth) (c := c) s0 n0 (pc + 2) L (.ref h.size :: rest) h' (kc + 1) (ks + cap) ∧ Ext h h' ∧ Arr Z h' h.size (newA cA (newarray.typeOf aty) n) (newarray.typeOf aty) := by
  obtain ⟨T, ls, X, eT, N, st⟩ := r
  obtain ⟨T', h', cA, X', e', E, A, st'⟩ := Jvm.RoadKit.newP X hx hZ w eT (g := mkF m pc L S) rfl hd hs hn hcap hb hc hl
  exact ⟨h', cA, ⟨T', ls, X', e', N, st.trans (st' _ (Steps.refl _))⟩, E, A⟩
theorem OwnW.getF (r : OwnW (p := p) (l := l) (e := e) (R := R) (s := s) (m := m) (args := args) (below := below) (meth := meth) (c := c) s0 n0 pc L S h kc ks)
    (hx : p.tables.exec = Jvm.exec) (hZ : Z.Warmed39 s.vm) {own O n d : String} {index : Nat} (hown : s.vm.findClass own = some m.cls) (w : (Jvm.Cond.fieldLink own index O n d).before a0 Z = true) {a : Addr} {v : Value} (F : Fld Z h a O n d v)
    {rest : List Value} (hs : S = .ref a :: rest) (hd : decode c.code pc = .ok (.getfield index, 3)) :
    OwnW (p := p) (l := l) (e := e) (R := R) (s := s) (m := m) (args := args) (below := below) (meth := meth) (c := c) s0 n0 (pc + 3) L (v :: rest) h kc ks :=
  r.goT fun T ls X eT => Jvm.RoadKit.getF X hx hZ hown (host := "") (Or.inl w) Via.refl eT F (g := mkF m pc L S) rfl hs hd
theorem OwnW.getS (r : OwnW (p := p) (l := l) (e := e) (R := R) (s := s) (m := m) (args := args) (below := below) (meth := meth) (c := c) s0 n0 pc L S h kc ks)
    (hx : p.tables.exec = Jvm.exec) (hZ : Z.Warmed39 s.vm) {own O n d : String} {index : Nat} (hown : s.vm.findClass own = some m.cls) (w : (Jvm.Cond.fieldLink own index O n d).before a0 Z = true) {v : Value} (F : Sta Z h O n d v)
    (hd : decode c.code pc = .ok (.getstatic index, 3)) :
    OwnW (p := p) (l := l) (e := e) (R := R) (s := s) (m := m) (args := args) (below := below) (meth := meth) (c := c) s0 n0 (pc + 3) L (v :: S) h kc ks :=
  r.goT fun T ls X eT => Jvm.RoadKit.getS X hx hZ (host := "") hown w Via.refl eT F (g := mkF m pc L S) rfl hd
theorem OwnW.putF (r : OwnW (p := p) (l := l) (e := e) (R := R) (s := s) (m := m) (args := args) (below := below) (meth := meth) (c := c) s0 n0 pc L S h kc ks)
    (hx : p.tables.exec = Jvm.exec) (hZ : Z.Warmed39 s.vm) {own O n d C : String} {index kk : Nat} {ty : FieldType} (hown : s.vm.findClass own = some m.cls) (w : (Jvm.Cond.fieldLink own index O n d).before a0 Z = true) {a : Addr} {v old : Value} (F : Fld Z h a O n d old) (E : Exa Z h a C)
    (Lw : (Jvm.Cond.lays C O n d).before a0 Z = true ∨ ((Jvm.Cond.laysFinal C O n d).before a0 Z = true ∧ own = O ∧ meth.name = "<init>")) (wi : (Jvm.Cond.instantiable C kk).before a0 Z = true)
    (hty : parseFieldDescriptor d = some ty) (hn : narrow ty v = v) (hf : fits ty v = true) {rest : List Value} (hs : S = v :: .ref a :: rest) (hd : decode c.code pc = .ok (.putfield index, 3)) (g : n0 ≤ a) :
    ∃ h', OwnW (p := p) (l := l) (e := e) (R := R) (s := s) (m := m) (args := args) (below := below) (meth := meth) (c := c) s0 n0 (pc + 3) L rest h' kc ks ∧ Wr h h' a (Jvm.RoadKit.slotOf Z O n d) v := by
  obtain ⟨T, ls, X, eT, N, st⟩ := r
  obtain ⟨T', h', X', e', W', st'⟩ := Jvm.RoadKit.putF X hx hZ hown (host := "") (Or.inl w) Via.refl eT F E Lw wi hty hn hf (g := mkF m pc L S) rfl hs hd
  exact ⟨h', ⟨T', _, X', e', Fr.snoc X' N g, st.trans (st' _ (Steps.refl _))⟩, W'⟩
theorem OwnW.callS (r : OwnW (p := p) (l := l) (e := e) (R := R) (s := s) (m := m) (args := args) (below := below) (meth := meth) (c := c) s0 n0 pc L S h kc ks)
    (hx : p.tables.exec = Jvm.exec) (hZ : Z.Warmed39 s.vm) {own : String} {index : Nat} {y : MethodName} {bytes : ByteArray} {maxL : Nat} {ret : Option FieldType} {rm : Room} {Q : Option Value → Heap → Prop} (hown : s.vm.findClass own = some m.cls)
    (w1 : (Jvm.Cond.methodLink own index y).before a0 Z = true) (w2 : (Jvm.Cond.static y).before a0 Z = true) (w3 : (Jvm.Cond.initialized y.cls).before a0 Z = true) (w4 : (Jvm.Cond.code y bytes maxL ret).before a0 Z = true)
    (hy : y.cls ≠ "java/lang/invoke/MethodHandle" ∧ y.cls ≠ "java/lang/invoke/VarHandle") {argsL : List Value} (K : OwnCon l Z y bytes maxL ret rm argsL.toArray h n0 Q) (rest : List Value) (W : Nat)
    (hf : rm.frames + 1 ≤ R.frames) (hl : W + (maxL + 11) + rm.locals ≤ R.locals) (hsize : L.size = c.maxLocals) (hlen : ∀ sig, parseMethodDescriptor y.desc = some sig → argsL.length = sig.parameters.length)
    (hs : S = argsL.reverse ++ rest) (hW : (rest.map fun v => v.category).sum ≤ W) (hd : decode c.code pc = .ok (.invokestatic index, 3)) (hc : kc + rm.cells ≤ R.cells) (hsl : ks + rm.slots ≤ R.slots) :
    ∃ v h', OwnW (p := p) (l := l) (e := e) (R := R) (s := s) (m := m) (args := args) (below := below) (meth := meth) (c := c) s0 n0 (pc + 3) L (v.toList ++ rest) h' (kc + rm.cells) (ks + rm.slots) ∧ Q v h' := by
  obtain ⟨T, ls, X, eT, N, st⟩ := r
  obtain ⟨v, vm₁, ⟨T', L', k', n'⟩, -, X', ⟨Lc, hQ, l', y', z'⟩, st'⟩ := Jvm.LawKit.callS X hx (y := y) hown (mvT hZ w1) (mvT hZ w2) (mvT hZ w3) (mvT hZ w4) hy (backOf (W := W) (Q := fun v h L => Fr n0 L ∧ Q v h) (K []) hZ w4 w3 hf hl) (g := mkF m pc L S) rfl hsize (argsL := argsL) (rest := rest) hlen hs (by show 2 * 0 + _ ≤ _; omega) hd (fun _ _ => ⟨rfl, eT, hc, hsl⟩)
  dsimp only [Pt.U, Pt.locs, Pt.cells, Pt.slots] at X' l' y' z' st' hQ
  subst l' y' z'
  exact ⟨v, _, ⟨T', _, X', rfl, N.app hQ.1, st.trans (st' _ (Steps.refl _))⟩, hQ.2⟩
theorem OwnW.callN (r : OwnW (p := p) (l := l) (e := e) (R := R) (s := s) (m := m) (args := args) (below := below) (meth := meth) (c := c) s0 n0 pc L S h kc ks)
    (hx : p.tables.exec = Jvm.exec) (hZ : Z.Warmed39 s.vm) {own : String} {index : Nat} {y : MethodName} {bytes : ByteArray} {maxL : Nat} {rm : Room} {Q : Option Value → Heap → Prop} (hy1 : y.name = "<init>") (hown : s.vm.findClass own = some m.cls)
    (w1 : (Jvm.Cond.methodLink own index y).before a0 Z = true) (w2 : (Jvm.Cond.instanceMethod y).before a0 Z = true) (w3 : (Jvm.Cond.initialized y.cls).before a0 Z = true) (w4 : (Jvm.Cond.code y bytes maxL none).before a0 Z = true)
    (hy : y.cls ≠ "java/lang/invoke/MethodHandle" ∧ y.cls ≠ "java/lang/invoke/VarHandle") {a : Addr} {argsL : List Value} (K : OwnCon l Z y bytes maxL none rm (.ref a :: argsL).toArray h n0 Q) (rest : List Value) (W : Nat)
    (hf : rm.frames + 1 ≤ R.frames) (hl : W + (maxL + 11) + rm.locals ≤ R.locals) (hsize : L.size = c.maxLocals) (hlen : ∀ sig, parseMethodDescriptor y.desc = some sig → argsL.length = sig.parameters.length)
    (hs : S = argsL.reverse ++ .ref a :: rest) (hW : (rest.map fun v => v.category).sum ≤ W) (hd : decode c.code pc = .ok (.invokespecial index, 3)) (hc : kc + rm.cells ≤ R.cells) (hsl : ks + rm.slots ≤ R.slots) :
    ∃ v h', OwnW (p := p) (l := l) (e := e) (R := R) (s := s) (m := m) (args := args) (below := below) (meth := meth) (c := c) s0 n0 (pc + 3) L (v.toList ++ rest) h' (kc + rm.cells) (ks + rm.slots) ∧ Q v h' := by
  obtain ⟨T, ls, X, eT, N, st⟩ := r
  obtain ⟨v, vm₁, ⟨T', L', k', n'⟩, -, X', ⟨Lc, hQ, l', y', z'⟩, st'⟩ := X.specialBack hx (y := y) hy1 hown (mvT hZ w1) (mvT hZ w2) (mvT hZ w4) hy (backOf (W := W) (Q := fun v h L => Fr n0 L ∧ Q v h) (K []) hZ w4 w3 hf hl) (g := mkF m pc L S) rfl hsize st (a := a) (argsL := argsL) (rest := rest) hlen hs (by show 2 * 0 + _ ≤ _; omega) hd (fun _ _ => ⟨rfl, eT, hc, hsl⟩)
  dsimp only [Pt.U, Pt.locs, Pt.cells, Pt.slots] at X' l' y' z' st' hQ
  subst l' y' z'
  exact ⟨v, _, ⟨T', _, X', rfl, N.app hQ.1, st'⟩, hQ.2⟩
theorem OwnW.callV (r : OwnW (p := p) (l := l) (e := e) (R := R) (s := s) (m := m) (args := args) (below := below) (meth := meth) (c := c) s0 n0 pc L S h kc ks)
    (hx : p.tables.exec = Jvm.exec) (hZ : Z.Warmed39 s.vm) {own C : String} {index : Nat} {y z : MethodName} {bytes : ByteArray} {maxL : Nat} {ret : Option FieldType} {rm : Room} {Q : Option Value → Heap → Prop} (hown : s.vm.findClass own = some m.cls)
    (w1 : (Jvm.Cond.methodLink own index y).before a0 Z = true) (w2 : (Jvm.Cond.declares y).before a0 Z = true) (w3 : (Jvm.Cond.selects C y z).before a0 Z = true) (w3' : NotFace s y) (w5 : (Jvm.Cond.instanceMethod z).before a0 Z = true) (w6 : (Jvm.Cond.initialized z.cls).before a0 Z = true) (w4 : (Jvm.Cond.code z bytes maxL ret).before a0 Z = true)
    (hy : y.cls ≠ "java/lang/invoke/MethodHandle" ∧ y.cls ≠ "java/lang/invoke/VarHandle") {a : Addr} {argsL : List Value} (E : Exa Z h a C) (K : OwnCon l Z z bytes maxL ret rm (.ref a :: argsL).toArray h n0 Q) (rest : List Value) (W : Nat)
    (hf : rm.frames + 1 ≤ R.frames) (hl : W + (maxL + 11) + rm.locals ≤ R.locals) (hsize : L.size = c.maxLocals) (hlen : ∀ sig, parseMethodDescriptor y.desc = some sig → argsL.length = sig.parameters.length)
    (hs : S = argsL.reverse ++ .ref a :: rest) (hW : (rest.map fun v => v.category).sum ≤ W) (hd : decode c.code pc = .ok (.invokevirtual index, 3)) (hc : kc + rm.cells ≤ R.cells) (hsl : ks + rm.slots ≤ R.slots) :
    ∃ v h', OwnW (p := p) (l := l) (e := e) (R := R) (s := s) (m := m) (args := args) (below := below) (meth := meth) (c := c) s0 n0 (pc + 3) L (v.toList ++ rest) h' (kc + rm.cells) (ks + rm.slots) ∧ Q v h' := by
  obtain ⟨T, ls, X, eT, N, st⟩ := r
  obtain ⟨cq, kq, qa, qb, qc⟩ := isOf hZ eT E
  obtain ⟨v, vm₁, ⟨T', L', k', n'⟩, -, X', ⟨Lc, hQ, l', y', z'⟩, st'⟩ := X.virtualBack hx (y := y) (z := z) hown (mvT hZ w1) (mvT hZ w2) w3' (mvT hZ w3) (mvT hZ w5) hy (backOf (W := W) (Q := fun v h L => Fr n0 L ∧ Q v h) (K []) hZ w4 w6 hf hl) qa qc (g := mkF m pc L S) rfl hsize st (argsL := argsL) (rest := rest) hlen hs (by show 2 * 0 + _ ≤ _; omega) hd (fun _ _ => ⟨rfl, eT, hc, hsl⟩)
  dsimp only [Pt.U, Pt.locs, Pt.cells, Pt.slots] at X' l' y' z' st' hQ
  subst l' y' z'
  exact ⟨v, _, ⟨T', _, X', rfl, N.app hQ.1, st'⟩, hQ.2⟩
theorem OwnW.retN (r : OwnW (p := p) (l := l) (e := e) (R := R) (s := s) (m := m) (args := args) (below := below) (meth := meth) (c := c) s0 n0 pc L S h kc ks)
    (hx : p.tables.exec = Jvm.exec) {t : FieldType} (hret : meth.sig.returnType = some t) (ht : t = .boolean ∨ t = .byte ∨ t = .char ∨ t = .short) {z : Int32} {rest : List Value} (hs : S = .int z :: rest) (hd : decode c.code pc = .ok (.ireturn, 1)) :
    OwnEnd (p := p) (l := l) (e := e) (R := R) (s := s) (m := m) (args := args) (below := below) (meth := meth) (c := c) s0 n0 (some (.int (nar t z))) h kc ks := by
  subst hs
  obtain ⟨T, ls, X, eT, N, st⟩ := r
  exact ⟨T, ls, X, eT, N, (fun q => by rw [hret] at q; cases q), fun fs hl => st.trans (Jvm.RoadKit.retN X hx hret ht hd hl)⟩
theorem OwnW.retW (r : OwnW (p := p) (l := l) (e := e) (R := R) (s := s) (m := m) (args := args) (below := below) (meth := meth) (c := c) s0 n0 pc L S h kc ks)
    (hx : p.tables.exec = Jvm.exec) {t : FieldType} {w : Value} {i : Instr} (hret : meth.sig.returnType = some t) (hn : narrow t w = w) {rest : List Value} (hs : S = w :: rest)
    (hi : (i = .ireturn ∧ (t = .int ∨ t = .boolean ∨ t = .byte ∨ t = .char ∨ t = .short) ∧ ∃ z, w = .int z) ∨ (i = .lreturn ∧ t = .long ∧ ∃ z, w = .long z) ∨ (i = .dreturn ∧ t = .double ∧ ∃ z, w = .double z) ∨ (i = .freturn ∧ t = .float ∧ ∃ z, w = .float z) ∨ (i = .areturn ∧ t.isReference = true ∧ w.isRef = true))
    (hd : decode c.code pc = .ok (i, 1)) :
    OwnEnd (p := p) (l := l) (e := e) (R := R) (s := s) (m := m) (args := args) (below := below) (meth := meth) (c := c) s0 n0 (some w) h kc ks := by
  subst hs
  obtain ⟨T, ls, X, eT, N, st⟩ := r
  exact ⟨T, ls, X, eT, N, (fun q => by rw [hret] at q; cases q), fun fs hl => st.trans (Jvm.RoadKit.retOut X hx hret hn hi hd hl)⟩
theorem OwnW.retV (r : OwnW (p := p) (l := l) (e := e) (R := R) (s := s) (m := m) (args := args) (below := below) (meth := meth) (c := c) s0 n0 pc L [] h kc ks)
    (hx : p.tables.exec = Jvm.exec) (hret : meth.sig.returnType = none) (hd : decode c.code pc = .ok (.return_, 1)) :
    OwnEnd (p := p) (l := l) (e := e) (R := R) (s := s) (m := m) (args := args) (below := below) (meth := meth) (c := c) s0 n0 none h kc ks := by
  obtain ⟨T, ls, X, eT, N, st⟩ := r
  exact ⟨T, ls, X, eT, N, fun _ => rfl, fun fs hl => st.trans (X.returnOut hx hret hd hl)⟩
theorem OwnCon.of {y : MethodName} {bytes : ByteArray} {maxL : Nat} {ret : Option FieldType} {rm : Room} {A : Array Value} {h0 : Heap} {Q : Option Value → Heap → Prop} {L0 : Array Slot} (pn : plainName y.cls = true) (ef : ∀ m : MethodId, entryFrame m A maxL = mkF m 0 L0 [])
    (H : ∀ (p : Program) (e : Env) (s : State) (m : MethodId) (below : List Frame) (meth : Method) (c : Code) (s0 : State), p.tables.exec = Jvm.exec → c.code = bytes → c.maxLocals = maxL → s.vm.findClass y.cls = some m.cls → meth.name = y.name → meth.sig.returnType = ret → Z.Warmed39 s.vm →
      OwnW (p := p) (l := l) (e := e) (R := rm) (s := s) (m := m) (args := A) (below := below) (meth := meth) (c := c) s0 n0 0 L0 [] h0 0 0 →
      ∃ v h' k n, Q v h' ∧ k ≤ rm.cells ∧ n ≤ rm.slots ∧ OwnEnd (p := p) (l := l) (e := e) (R := rm) (s := s) (m := m) (args := A) (below := below) (meth := meth) (c := c) s0 n0 v h' k n) :
    OwnCon l Z y bytes maxL ret rm A h0 n0 Q := by
  intro ws
  refine MetFree.of_bodySF (plainFor_of_name pn) hisR ?_
  intro p e s m args below meth c s₁ Bd hml hP hK
  obtain ⟨rfl, hZ, hh⟩ := hP
  have X0 : Stand p l e rm s m args below meth c s₁ [] 0 0 := Stand.of_body Bd
  have e0 : s₁.heap = h0 := by rw [← hh, Bd.state]; rfl
  obtain ⟨v, h', k, n, hQ, hk, hn, T, ls, X, eT, N, hv, st⟩ := H p e s m below meth c (s₁.setTop (entryFrame m args maxL)) Bd.exec Bd.bytes hml (findClass_of_methodNamed Bd.named) (name_of_methodNamed Bd.named Bd.method).1 Bd.returns hZ
    ⟨s₁, [], X0, e0, Fr.nil n0, by rw [ef m]; exact Steps.refl _⟩
  obtain ⟨fs, hr, hrun, hended, hW, hsame⟩ := X.leave (v := v) hv
  exact ⟨_, _, st fs hr, hrun, hended, v, ls, rfl, ⟨N, by show Q v T.heap; rw [eT]; exact hQ⟩, ⟨_, rfl⟩, hW, hsame.mono hk hn⟩
end OwnKit
/-! arrays of a known list of values -/
section OwnArr
variable {p : Program} {l : Launch} {e : Env} {R : Room} {s : State} {m : MethodId} {args : Array Value} {below : List Frame} {meth : Method} {c : Code} {s0 : State} {n0 pc pc' : Nat} {L L' : Array Slot} {S S' : List Value} {h h' h0 : Heap} {kc ks : Nat} {Z : State} {a0 : Array Value} {a b : Addr} {ty : FieldType} {vs : List Value}
def OwnAr (Z : State) (h : Heap) (a : Addr) (ty : FieldType) (vs : List Value) : Prop := ∃ cl : Cell, Arr Z h a cl ty ∧ cl.slots.toList = vs
theorem OwnAr.ext (E : Ext h h') (F : OwnAr Z h a ty vs) : OwnAr Z h' a ty vs := by obtain ⟨cl, A, q⟩ := F; exact ⟨cl, A.ext E, q⟩
theorem OwnAr.other {sl : Nat} {v : Value} (W : Wr h h' b sl v) (F : OwnAr Z h a ty vs) (ne : a ≠ b) : OwnAr Z h' a ty vs := by obtain ⟨cl, A, q⟩ := F; exact ⟨cl, A.other W ne, q⟩
theorem OwnAr.lt (F : OwnAr Z h a ty vs) : a < h.size := by obtain ⟨cl, A, q⟩ := F; exact A.lt
theorem OwnAr.wr {k : Nat} {v : Value} (W : Wr h h' a k v) (F : OwnAr Z h a ty vs) : OwnAr Z h' a ty (vs.set k v) := by
  obtain ⟨cl, A, q⟩ := F
  exact ⟨_, A.same W, by simp [Cell.setSlot, q]⟩
theorem OwnAr.new {cA : ClassId} {n : Int32} (A : Arr Z h a (newA cA ty n) ty) : OwnAr Z h a ty (List.replicate n.toNatClampNeg (defaultValue ty)) := ⟨_, A, by simp [newA]⟩
theorem OwnAr.inb (F : OwnAr Z h a ty vs) {j : Int32} (hj : ¬ j < 0) (hl : j.toNatClampNeg < vs.length) {cl : Cell} (hc : h[a]? = some cl) : ¬ (j < 0 ∨ cl.slots.size ≤ j.toNatClampNeg) := by
  obtain ⟨cl', A, q⟩ := F
  cases A.1.symm.trans hc
  have : cl.slots.size = vs.length := by rw [← q, Array.length_toList]
  rintro (u | u)
  · exact hj u
  · omega
theorem own_ext_refl (h : Heap) : Ext h h := ⟨Nat.le_refl _, fun _ _ q => q⟩
theorem own_ext_trans {h1 h2 h3 : Heap} (E : Ext h1 h2) (E' : Ext h2 h3) : Ext h1 h3 := ⟨Nat.le_trans E.1 E'.1, fun x cl q => E'.2 x cl (E.2 x cl q)⟩
theorem own_ext_wr {sl : Nat} {v : Value} (E : Ext h0 h) (W : Wr h h' a sl v) (q : h0.size ≤ a) : Ext h0 h' :=
  ⟨by rw [W.size]; exact E.1, fun x cl hx => (Keep.of_wr W).2.1 x cl (E.2 x cl hx) (by
    intro z
    cases List.mem_singleton.mp z
    exact absurd (Array.getElem?_eq_some_iff.mp hx).1 (Nat.not_lt.mpr q))⟩
theorem own_fld_inj {C n d : String} {v w : Value} (F : Fld Z h a C n d v) (G : Fld Z h a C n d w) : v = w := by
  obtain ⟨c1, f1, k1, i1, g1, h1, h2, -, -, -, -, h7⟩ := F
  obtain ⟨c2, f2, k2, i2, g2, j1, j2, -, -, -, -, j7⟩ := G
  cases h1.symm.trans j1
  cases h2.symm.trans j2
  exact Option.some.inj (h7.symm.trans j7)
theorem own_ne {C n d : String} {v w : Value} (F : Fld Z h a C n d v) (G : Fld Z h b C n d w) (hn : v ≠ w) : a ≠ b := fun q => by subst q; exact hn (own_fld_inj F G)
theorem own_rne (q : a ≠ b) : decide ((Value.ref a) = (Value.ref b)) = false := decide_eq_false fun u => q (Value.ref.inj u)
theorem OwnW.aaload (r : OwnW (p := p) (l := l) (e := e) (R := R) (s := s) (m := m) (args := args) (below := below) (meth := meth) (c := c) s0 n0 pc L S h kc ks)
    (hx : p.tables.exec = Jvm.exec) (hZ : Z.Warmed39 s.vm) (F : OwnAr Z h a ty vs) (hty : ty.isReference = true) {j : Int32} {v : Value} (hj : ¬ j < 0) (hv : vs[j.toNatClampNeg]? = some v) {rest : List Value} (hs : S = .int j :: .ref a :: rest) (hd : decode c.code pc = .ok (.aaload, 1)) :
    OwnW (p := p) (l := l) (e := e) (R := R) (s := s) (m := m) (args := args) (below := below) (meth := meth) (c := c) s0 n0 (pc + 1) L (v :: rest) h kc ks := by
  obtain ⟨cl, A, q⟩ := F
  have hl : j.toNatClampNeg < vs.length := (List.getElem?_eq_some_iff.mp hv).1
  exact r.goX fun T t ls X eT k => X.aaload hx (j := j) (v := v) (by rw [eT]; exact A.1) (State.isArrayOf_alike hZ.alike A.2.1) hty A.2.2 (OwnAr.inb ⟨cl, A, q⟩ hj hl A.1) (by rw [← Array.getElem?_toList, q]; exact hv) (g := mkF m pc L S) rfl hs hd t k
theorem OwnW.baloadZ (r : OwnW (p := p) (l := l) (e := e) (R := R) (s := s) (m := m) (args := args) (below := below) (meth := meth) (c := c) s0 n0 pc L S h kc ks)
    (hx : p.tables.exec = Jvm.exec) (hZ : Z.Warmed39 s.vm) (F : OwnAr Z h a .boolean vs) {j : Int32} {v : Value} (hj : ¬ j < 0) (hv : vs[j.toNatClampNeg]? = some v) {rest : List Value} (hs : S = .int j :: .ref a :: rest) (hd : decode c.code pc = .ok (.baload, 1)) :
    OwnW (p := p) (l := l) (e := e) (R := R) (s := s) (m := m) (args := args) (below := below) (meth := meth) (c := c) s0 n0 (pc + 1) L (v :: rest) h kc ks := by
  obtain ⟨cl, A, q⟩ := F
  have hl : j.toNatClampNeg < vs.length := (List.getElem?_eq_some_iff.mp hv).1
  exact r.goX fun T t ls X eT k => X.baloadBooleans hx (j := j) (v := v) (by rw [eT]; exact A.1) (State.isArrayOf_alike hZ.alike A.2.1) A.2.2 (OwnAr.inb ⟨cl, A, q⟩ hj hl A.1) (by rw [← Array.getElem?_toList, q]; exact hv) (g := mkF m pc L S) rfl hs hd t k
theorem OwnW.alen (r : OwnW (p := p) (l := l) (e := e) (R := R) (s := s) (m := m) (args := args) (below := below) (meth := meth) (c := c) s0 n0 pc L S h kc ks)
    (hx : p.tables.exec = Jvm.exec) (hZ : Z.Warmed39 s.vm) (F : OwnAr Z h a ty vs) {n : Int32} (hn : vs.length.toInt32 = n) {rest : List Value} (hs : S = .ref a :: rest) (hd : decode c.code pc = .ok (.arraylength, 1)) :
    OwnW (p := p) (l := l) (e := e) (R := R) (s := s) (m := m) (args := args) (below := below) (meth := meth) (c := c) s0 n0 (pc + 1) L (.int n :: rest) h kc ks := by
  obtain ⟨cl, A, q⟩ := F
  have e1 : cl.slots.size.toInt32 = n := by rw [← hn, ← q, Array.length_toList]
  exact r.goX fun T t ls X eT k => X.arraylength hx (by rw [eT]; exact A.1) (State.isArrayOf_alike hZ.alike A.2.1) (g := mkF m pc L S) rfl hs hd t (by rw [e1]; exact k)
theorem OwnW.newR (r : OwnW (p := p) (l := l) (e := e) (R := R) (s := s) (m := m) (args := args) (below := below) (meth := meth) (c := c) s0 n0 pc L S h kc ks)
    (hx : p.tables.exec = Jvm.exec) (hZ : Z.Warmed39 s.vm) {own C : String} {index : Nat} (hown : s.vm.findClass own = some m.cls) (w1 : (Jvm.Cond.classLink own index C).before a0 Z = true) (w2 : (Jvm.Cond.arrayOver (.object C)).before a0 Z = true) (hd : decode c.code pc = .ok (.anewarray index, 3)) {n : Int32} {rest : List Value} (hs : S = .int n :: rest)
    (hn : ¬ n < 0) {cap : Nat} (hcap : n.toNatClampNeg ≤ cap) (hb : cap * 8 ≤ 536870912) (hc : kc + 1 ≤ R.cells) (hl : ks + cap ≤ R.slots) :
    ∃ h' cA, OwnW (p := p) (l := l) (e := e) (R := R) (s := s) (m := m) (args := args) (below := below) (meth := meth) (c := c) s0 n0 (pc + 3) L (.ref h.size :: rest) h' (kc + 1) (ks + cap) ∧ Ext h h' ∧ Arr Z h' h.size (newA cA (.object C) n) (.object C) ∧ Ovr Z cA C := by
  obtain ⟨T, ls, X, eT, N, st⟩ := r
  obtain ⟨T', h', cA, X', e', E, A, O, st'⟩ := Jvm.RoadKit.newR X hx hZ hown w1 w2 eT (g := mkF m pc L S) rfl hd hs hn hcap hb hc hl
  exact ⟨h', cA, ⟨T', ls, X', e', N, st.trans (st' _ (Steps.refl _))⟩, E, A, O⟩
/-- an array of C's own kind of cells takes an object of C -/
theorem own_sto {C : String} {cA : ClassId} (F : ∃ cl : Cell, Arr Z h a cl ty ∧ cl.slots.toList = vs ∧ cl.cls = cA) (O : Ovr Z cA C) (I : Exa Z h b C) : Sto Z h a (.ref b) := by
  obtain ⟨cl, A, -, q⟩ := F
  exact Sto.ofV A q O (Ins.self I)
def OwnArK (Z : State) (h : Heap) (a : Addr) (ty : FieldType) (vs : List Value) (cA : ClassId) : Prop := ∃ cl : Cell, Arr Z h a cl ty ∧ cl.slots.toList = vs ∧ cl.cls = cA
theorem OwnArK.plain {cA : ClassId} (F : OwnArK Z h a ty vs cA) : OwnAr Z h a ty vs := by obtain ⟨cl, A, q, -⟩ := F; exact ⟨cl, A, q⟩
theorem OwnArK.wr {cA : ClassId} {k : Nat} {v : Value} (W : Wr h h' a k v) (F : OwnArK Z h a ty vs cA) : OwnArK Z h' a ty (vs.set k v) cA := by
  obtain ⟨cl, A, q, u⟩ := F
  exact ⟨_, A.same W, by simp [Cell.setSlot, q], u⟩
theorem OwnW.stR (r : OwnW (p := p) (l := l) (e := e) (R := R) (s := s) (m := m) (args := args) (below := below) (meth := meth) (c := c) s0 n0 pc L S h kc ks)
    (hx : p.tables.exec = Jvm.exec) (hZ : Z.Warmed39 s.vm) {C : String} {cA : ClassId} (F : OwnArK Z h a ty vs cA) (O : Ovr Z cA C) (hty : ty.isReference = true) (I : Exa Z h b C) {j : Int32} (hj : ¬ j < 0) (hl : j.toNatClampNeg < vs.length) (g : n0 ≤ a) {rest : List Value} (hs : S = .ref b :: .int j :: .ref a :: rest) (hd : decode c.code pc = .ok (.aastore, 1)) :
    ∃ h', OwnW (p := p) (l := l) (e := e) (R := R) (s := s) (m := m) (args := args) (below := below) (meth := meth) (c := c) s0 n0 (pc + 1) L rest h' kc ks ∧ Wr h h' a j.toNatClampNeg (.ref b) := by
  obtain ⟨T, ls, X, eT, N, st⟩ := r
  have Fs := own_sto F O I
  obtain ⟨cl, A, q, u⟩ := F
  obtain ⟨T', h', X', e', W', st'⟩ := Jvm.RoadKit.stR X hx hZ eT A (j := j) (OwnAr.inb ⟨cl, A, q⟩ hj hl A.1) hty Fs (g := mkF m pc L S) rfl hs hd
  exact ⟨h', ⟨T', _, X', e', Fr.snoc X' N g, st.trans (st' _ (Steps.refl _))⟩, W'⟩
theorem OwnW.stZ (r : OwnW (p := p) (l := l) (e := e) (R := R) (s := s) (m := m) (args := args) (below := below) (meth := meth) (c := c) s0 n0 pc L S h kc ks)
    (hx : p.tables.exec = Jvm.exec) (hZ : Z.Warmed39 s.vm) (F : OwnAr Z h a .boolean vs) {j x : Int32} (hj : ¬ j < 0) (hl : j.toNatClampNeg < vs.length) (g : n0 ≤ a) {rest : List Value} (hs : S = .int x :: .int j :: .ref a :: rest) (hd : decode c.code pc = .ok (.bastore, 1)) :
    ∃ h', OwnW (p := p) (l := l) (e := e) (R := R) (s := s) (m := m) (args := args) (below := below) (meth := meth) (c := c) s0 n0 (pc + 1) L rest h' kc ks ∧ Wr h h' a j.toNatClampNeg (.int (nar .boolean x)) := by
  obtain ⟨T, ls, X, eT, N, st⟩ := r
  obtain ⟨cl, A, q⟩ := F
  obtain ⟨T', h', X', e', W', st'⟩ := Jvm.RoadKit.stZ X hx hZ eT A (j := j) (x := x) (OwnAr.inb ⟨cl, A, q⟩ hj hl A.1) (g := mkF m pc L S) rfl hs hd
  exact ⟨h', ⟨T', _, X', e', Fr.snoc X' N g, st.trans (st' _ (Steps.refl _))⟩, W'⟩
theorem OwnW.stB (r : OwnW (p := p) (l := l) (e := e) (R := R) (s := s) (m := m) (args := args) (below := below) (meth := meth) (c := c) s0 n0 pc L S h kc ks)
    (hx : p.tables.exec = Jvm.exec) (hZ : Z.Warmed39 s.vm) (F : OwnAr Z h a .byte vs) {j x : Int32} (hj : ¬ j < 0) (hl : j.toNatClampNeg < vs.length) (g : n0 ≤ a) {rest : List Value} (hs : S = .int x :: .int j :: .ref a :: rest) (hd : decode c.code pc = .ok (.bastore, 1)) :
    ∃ h', OwnW (p := p) (l := l) (e := e) (R := R) (s := s) (m := m) (args := args) (below := below) (meth := meth) (c := c) s0 n0 (pc + 1) L rest h' kc ks ∧ Wr h h' a j.toNatClampNeg (.int (nar .byte x)) := by
  obtain ⟨T, ls, X, eT, N, st⟩ := r
  obtain ⟨cl, A, q⟩ := F
  obtain ⟨T', h', X', e', W', st'⟩ := Jvm.RoadKit.stB X hx hZ eT A (j := j) (x := x) (OwnAr.inb ⟨cl, A, q⟩ hj hl A.1) (g := mkF m pc L S) rfl hs hd
  exact ⟨h', ⟨T', _, X', e', Fr.snoc X' N g, st.trans (st' _ (Steps.refl _))⟩, W'⟩
theorem OwnW.cast (r : OwnW (p := p) (l := l) (e := e) (R := R) (s := s) (m := m) (args := args) (below := below) (meth := meth) (c := c) s0 n0 pc L S h kc ks)
    (hx : p.tables.exec = Jvm.exec) (hZ : Z.Warmed39 s.vm) {own K : String} {index : Nat} (hown : s.vm.findClass own = some m.cls) (w : (Jvm.Cond.classLink own index K).before a0 Z = true) (F : Ins Z h a K true) {rest : List Value} (hs : S = .ref a :: rest) (hd : decode c.code pc = .ok (.checkcast index, 3)) :
    OwnW (p := p) (l := l) (e := e) (R := R) (s := s) (m := m) (args := args) (below := below) (meth := meth) (c := c) s0 n0 (pc + 3) L S h kc ks :=
  r.goT fun T ls X eT => Jvm.RoadKit.castY X hx hZ hown w eT F (g := mkF m pc L S) rfl hs hd
theorem OwnW.castN (r : OwnW (p := p) (l := l) (e := e) (R := R) (s := s) (m := m) (args := args) (below := below) (meth := meth) (c := c) s0 n0 pc L S h kc ks)
    (hx : p.tables.exec = Jvm.exec) {index : Nat} {rest : List Value} (hs : S = .null :: rest) (hd : decode c.code pc = .ok (.checkcast index, 3)) :
    OwnW (p := p) (l := l) (e := e) (R := R) (s := s) (m := m) (args := args) (below := below) (meth := meth) (c := c) s0 n0 (pc + 3) L S h kc ks :=
  r.goX fun T t ls X eT k => X.checkcastNull hx (g := mkF m pc L S) rfl hs hd t k
theorem OwnW.inst (r : OwnW (p := p) (l := l) (e := e) (R := R) (s := s) (m := m) (args := args) (below := below) (meth := meth) (c := c) s0 n0 pc L S h kc ks)
    (hx : p.tables.exec = Jvm.exec) (hZ : Z.Warmed39 s.vm) {own K : String} {index : Nat} (hown : s.vm.findClass own = some m.cls) (w : (Jvm.Cond.classLink own index K).before a0 Z = true) (F : Ins Z h a K true) {rest : List Value} (hs : S = .ref a :: rest) (hd : decode c.code pc = .ok (.instanceof index, 3)) :
    OwnW (p := p) (l := l) (e := e) (R := R) (s := s) (m := m) (args := args) (below := below) (meth := meth) (c := c) s0 n0 (pc + 3) L (.int 1 :: rest) h kc ks :=
  r.goT fun T ls X eT => Jvm.RoadKit.instY X hx hZ hown w eT F (g := mkF m pc L S) rfl hs hd
theorem OwnW.clone (r : OwnW (p := p) (l := l) (e := e) (R := R) (s := s) (m := m) (args := args) (below := below) (meth := meth) (c := c) s0 n0 pc L S h kc ks)
    (hx : p.tables.exec = Jvm.exec) (hZ : Z.Warmed39 s.vm) {own ad : String} {index : Nat} (hown : s.vm.findClass own = some m.cls)
    (w1 : (Jvm.Cond.methodLink own index ⟨ad, "clone", "()Ljava/lang/Object;"⟩).before a0 Z = true) (w2 : (Jvm.Cond.sameMethod ad "java/lang/Object" "clone" "()Ljava/lang/Object;").before a0 Z = true) (w3 : (Jvm.Cond.native ⟨"java/lang/Object", "clone", "()Ljava/lang/Object;"⟩).before a0 Z = true)
    (w4 : (Jvm.Cond.instanceMethod ⟨"java/lang/Object", "clone", "()Ljava/lang/Object;"⟩).before a0 Z = true) (w5 : (Jvm.Cond.selects ad ⟨ad, "clone", "()Ljava/lang/Object;"⟩ ⟨"java/lang/Object", "clone", "()Ljava/lang/Object;"⟩).before a0 Z = true) (w6 : (Jvm.Cond.castable ad "java/lang/Cloneable").before a0 Z = true)
    (F : OwnAr Z h a ty vs) (E : Exa Z h a ad) (hfit : ∀ v ∈ vs, fits ty v = true) (hsize : L.size = c.maxLocals) {rest : List Value} (hs : S = .ref a :: rest) (hd : decode c.code pc = .ok (.invokevirtual index, 3))
    (hf : 1 ≤ R.frames) (W cap : Nat) (hW : (rest.map fun v => v.category).sum ≤ W) (hl : W + 14 ≤ R.locals) (hcap : vs.length ≤ cap) (hc : kc + 1 ≤ R.cells) (hsl : ks + cap ≤ R.slots) :
    ∃ h', OwnW (p := p) (l := l) (e := e) (R := R) (s := s) (m := m) (args := args) (below := below) (meth := meth) (c := c) s0 n0 (pc + 3) L (.ref h.size :: rest) h' (kc + 1) (ks + cap) ∧ Ext h h' ∧ OwnAr Z h' h.size ty vs ∧ Exa Z h' h.size ad := by
  obtain ⟨T, ls, X, eT, N, st⟩ := r
  obtain ⟨cl, A, q⟩ := F
  have FC : FitC Z cl := fitC_of A fun i hi v hv => hfit v (by rw [← q]; exact Array.mem_toList_iff.mpr (Array.mem_of_getElem? hv))
  obtain ⟨T', h', X', e', ex, A', E', st'⟩ := cloneA X hx hZ hown w1 w2 w3 w4 w5 w6 eT A E FC (g := mkF m pc L S) rfl hsize hs hd hf (W := W) (cap := cap) (by show 2 * 0 + _ ≤ _; omega) hl (by rw [← Array.length_toList, q]; exact hcap) hc hsl
  exact ⟨h', ⟨T', ls, X', e', N, st.trans (st' _ (Steps.refl _))⟩, ex, ⟨_, A', q⟩, E'⟩
/-! the case's words on the start -/
theorem own_eqv {args : Array Value} {s : State} {t u : Term} {v : Value} (hv : v = .null ∨ (∃ x, v = .ref x) ∨ ∃ x, v = .int x) (hu : u.eval args s none [] s = some v) (q : (Jvm.Cond.eq t u).value args s none s [] = some true) : t.eval args s none [] s = some v := by
  cases ht : t.eval args s none [] s with
  | none => simp [Cond.value, ht] at q
  | some y => rcases hv with rfl | ⟨x, rfl⟩ | ⟨x, rfl⟩ <;> cases y <;> simp [Cond.value, ht, hu] at q ⊢ <;> exact q
theorem own_len {args : Array Value} {s : State} {t : Term} {n : Int32} {cl : Cell} (ht : t.eval args s none [] s = some (.ref a)) (hc : s.arrayAt? a = some cl) (q : (Term.length t).eval args s none [] s = some (.int n)) : cl.slots.size = n.toNatClampNeg := by
  by_cases hl : cl.slots.size < 2 ^ 31
  · rw [len_f ht hc hl] at q
    have e1 : cl.slots.size.toInt32 = n := by simpa using q
    rw [← e1]
    simp only [Int32.toNatClampNeg, len_toInt hl]
    rfl
  · simp [Term.eval, ht, hc, hl] at q
theorem own_list {cl : Cell} {vs : List Value} (hs : cl.slots.size = vs.length) (H : ∀ i, i < vs.length → cl.slots[i]? = vs[i]?) : cl.slots.toList = vs := by
  refine List.ext_getElem? fun i => ?_
  rw [Array.getElem?_toList]
  by_cases q : i < vs.length
  · exact H i q
  · rw [List.getElem?_eq_none (Nat.not_lt.mp q), Array.getElem?_eq_none (by rw [hs]; exact Nat.not_lt.mp q)]
end OwnArr
section OwnArr2
variable {h h' h0 : Heap} {Z : State} {a b : Addr} {ty : FieldType} {vs vs' : List Value}
theorem OwnArK.set {cA : ClassId} {j k : Nat} {v : Value} (F : OwnArK Z h a ty vs cA) (W : Wr h h' a j v) (hk : j = k) (hv : vs.set k v = vs') : OwnArK Z h' a ty vs' cA := by subst hk hv; exact F.wr W
theorem OwnAr.set {j k : Nat} {v : Value} (F : OwnAr Z h a ty vs) (W : Wr h h' a j v) (hk : j = k) (hv : vs.set k v = vs') : OwnAr Z h' a ty vs' := by subst hk hv; exact F.wr W
theorem OwnArK.new {cA : ClassId} {n : Int32} (A : Arr Z h a (newA cA ty n) ty) (hv : List.replicate n.toNatClampNeg (defaultValue ty) = vs) : OwnArK Z h a ty vs cA := ⟨_, A, by rw [← hv]; simp [newA], rfl⟩
theorem OwnAr.new' {cA : ClassId} {n : Int32} (A : Arr Z h a (newA cA ty n) ty) (hv : List.replicate n.toNatClampNeg (defaultValue ty) = vs) : OwnAr Z h a ty vs := ⟨_, A, by rw [← hv]; simp [newA]⟩
end OwnArr2
theorem own_ext_keep {h0 h h' : Heap} {a : Addr} (E : Ext h0 h) (K : Keep h h' [a]) (q : h0.size ≤ a) : Ext h0 h' :=
  ⟨Nat.le_trans E.1 K.1, fun x cl hx => K.2.1 x cl (E.2 x cl hx) (by
    intro z
    cases List.mem_singleton.mp z
    exact absurd (Array.getElem?_eq_some_iff.mp hx).1 (Nat.not_lt.mpr q))⟩
theorem own_pn0 : plainName "com/example/ample_proof/ampleproof/disputes/DisputeStatus" = true := by first | (simp [plainName, overriddenIn]; done) | decide +kernel
theorem own_pn1 : plainName "com/example/ample_proof/ampleproof/disputes/DisputeStatusEscalatedFromPinLaw" = true := by first | (simp [plainName, overriddenIn]; done) | decide +kernel
theorem own_pd0 : parseMethodDescriptor "()[Lcom/example/ample_proof/ampleproof/disputes/DisputeStatus;" = some ⟨[], some (.array (.object "com/example/ample_proof/ampleproof/disputes/DisputeStatus"))⟩ := by decide +kernel
theorem own_pd1 : parseMethodDescriptor "(I)Lcom/example/ample_proof/ampleproof/disputes/DisputeStatus;" = some ⟨[.int], some (.object "com/example/ample_proof/ampleproof/disputes/DisputeStatus")⟩ := by decide +kernel
theorem own_pd2 : parseMethodDescriptor "()Lcom/example/ample_proof/ampleproof/disputes/DisputeStatus;" = some ⟨[], some (.object "com/example/ample_proof/ampleproof/disputes/DisputeStatus")⟩ := by decide +kernel
theorem own_pd3 : parseMethodDescriptor "()Lcom/example/ample_proof/ampleproof/keys/Scope;" = some ⟨[], some (.object "com/example/ample_proof/ampleproof/keys/Scope")⟩ := by decide +kernel
theorem own_d1_0 : decode method_2_code 0 = .ok (.iload_n 0, 1) := by decide +kernel
theorem own_d1_1 : decode method_2_code 1 = .ok (.ifCond .ne 7, 3) := by decide +kernel
theorem own_d1_4 : decode method_2_code 4 = .ok (.getstatic 7, 3) := by decide +kernel
theorem own_d1_7 : decode method_2_code 7 = .ok (.areturn, 1) := by decide +kernel
theorem own_d1_8 : decode method_2_code 8 = .ok (.iload_n 0, 1) := by decide +kernel
theorem own_d1_9 : decode method_2_code 9 = .ok (.iconst 1, 1) := by decide +kernel
theorem own_d1_10 : decode method_2_code 10 = .ok (.if_icmp .ne 7, 3) := by decide +kernel
theorem own_d1_13 : decode method_2_code 13 = .ok (.getstatic 13, 3) := by decide +kernel
theorem own_d1_16 : decode method_2_code 16 = .ok (.areturn, 1) := by decide +kernel
theorem own_d1_17 : decode method_2_code 17 = .ok (.iload_n 0, 1) := by decide +kernel
theorem own_d1_18 : decode method_2_code 18 = .ok (.iconst 2, 1) := by decide +kernel
theorem own_d1_19 : decode method_2_code 19 = .ok (.if_icmp .ne 7, 3) := by decide +kernel
theorem own_d1_22 : decode method_2_code 22 = .ok (.getstatic 16, 3) := by decide +kernel
theorem own_d1_25 : decode method_2_code 25 = .ok (.areturn, 1) := by decide +kernel
theorem own_d1_26 : decode method_2_code 26 = .ok (.iload_n 0, 1) := by decide +kernel
theorem own_d1_27 : decode method_2_code 27 = .ok (.iconst 3, 1) := by decide +kernel
theorem own_d1_28 : decode method_2_code 28 = .ok (.if_icmp .ne 7, 3) := by decide +kernel
theorem own_d1_31 : decode method_2_code 31 = .ok (.getstatic 19, 3) := by decide +kernel
theorem own_d1_34 : decode method_2_code 34 = .ok (.areturn, 1) := by decide +kernel
theorem own_d1_35 : decode method_2_code 35 = .ok (.getstatic 22, 3) := by decide +kernel
theorem own_d1_38 : decode method_2_code 38 = .ok (.areturn, 1) := by decide +kernel
theorem own_d2_0 : decode prog_9_method_9_code 0 = .ok (.invokestatic 58, 3) := by decide +kernel
theorem own_d2_3 : decode prog_9_method_9_code 3 = .ok (.astore_n 0, 1) := by decide +kernel
theorem own_d2_4 : decode prog_9_method_9_code 4 = .ok (.aload_n 0, 1) := by decide +kernel
theorem own_d2_5 : decode prog_9_method_9_code 5 = .ok (.arraylength, 1) := by decide +kernel
theorem own_d2_6 : decode prog_9_method_9_code 6 = .ok (.istore_n 1, 1) := by decide +kernel
theorem own_d2_7 : decode prog_9_method_9_code 7 = .ok (.iconst 0, 1) := by decide +kernel
theorem own_d2_8 : decode prog_9_method_9_code 8 = .ok (.istore_n 2, 1) := by decide +kernel
theorem own_d2_9 : decode prog_9_method_9_code 9 = .ok (.iload_n 2, 1) := by decide +kernel
theorem own_d2_10 : decode prog_9_method_9_code 10 = .ok (.iload_n 1, 1) := by decide +kernel
theorem own_d2_11 : decode prog_9_method_9_code 11 = .ok (.if_icmp .ge 22, 3) := by decide +kernel
theorem own_d2_14 : decode prog_9_method_9_code 14 = .ok (.aload_n 0, 1) := by decide +kernel
theorem own_d2_15 : decode prog_9_method_9_code 15 = .ok (.iload_n 2, 1) := by decide +kernel
theorem own_d2_16 : decode prog_9_method_9_code 16 = .ok (.aaload, 1) := by decide +kernel
theorem own_d2_17 : decode prog_9_method_9_code 17 = .ok (.astore_n 3, 1) := by decide +kernel
theorem own_d2_18 : decode prog_9_method_9_code 18 = .ok (.aload_n 3, 1) := by decide +kernel
theorem own_d2_19 : decode prog_9_method_9_code 19 = .ok (.getfield 45, 3) := by decide +kernel
theorem own_d2_22 : decode prog_9_method_9_code 22 = .ok (.ifnull 5, 3) := by decide +kernel
theorem own_d2_25 : decode prog_9_method_9_code 25 = .ok (.aload_n 3, 1) := by decide +kernel
theorem own_d2_26 : decode prog_9_method_9_code 26 = .ok (.areturn, 1) := by decide +kernel
theorem own_d2_27 : decode prog_9_method_9_code 27 = .ok (.iinc 2 1, 3) := by decide +kernel
theorem own_d2_30 : decode prog_9_method_9_code 30 = .ok (.goto (-21), 3) := by decide +kernel
theorem own_d2_33 : decode prog_9_method_9_code 33 = .ok (.new 74, 3) := by decide +kernel
theorem own_d2_36 : decode prog_9_method_9_code 36 = .ok (.dup, 1) := by decide +kernel
theorem own_d2_37 : decode prog_9_method_9_code 37 = .ok (.ldc 76, 2) := by decide +kernel
theorem own_d2_39 : decode prog_9_method_9_code 39 = .ok (.invokespecial 78, 3) := by decide +kernel
theorem own_d2_42 : decode prog_9_method_9_code 42 = .ok (.athrow, 1) := by decide +kernel
theorem own_d3_0 : decode prog_9_method_1_code 0 = .ok (.getstatic 19, 3) := by decide +kernel
theorem own_d3_3 : decode prog_9_method_1_code 3 = .ok (.invokevirtual 23, 3) := by decide +kernel
theorem own_d3_6 : decode prog_9_method_1_code 6 = .ok (.checkcast 24, 3) := by decide +kernel
theorem own_d3_9 : decode prog_9_method_1_code 9 = .ok (.areturn, 1) := by decide +kernel
theorem own_d4_0 : decode prog_9_method_6_code 0 = .ok (.aload_n 0, 1) := by decide +kernel
theorem own_d4_1 : decode prog_9_method_6_code 1 = .ok (.getfield 45, 3) := by decide +kernel
theorem own_d4_4 : decode prog_9_method_6_code 4 = .ok (.areturn, 1) := by decide +kernel
theorem own_d5_0 : decode prog_9_method_5_code 0 = .ok (.aload_n 0, 1) := by decide +kernel
theorem own_d5_1 : decode prog_9_method_5_code 1 = .ok (.getfield 41, 3) := by decide +kernel
theorem own_d5_4 : decode prog_9_method_5_code 4 = .ok (.areturn, 1) := by decide +kernel
def OwnEn (Z : State) (h : Heap) (k0 k1 k2 k3 k4 k5 k6 k7 : Addr) : Prop :=
  Exa Z h k0 "com/example/ample_proof/ampleproof/disputes/DisputeStatus" ∧
  Sta Z h "com/example/ample_proof/ampleproof/disputes/DisputeStatus" "OPEN" "Lcom/example/ample_proof/ampleproof/disputes/DisputeStatus;" (.ref k0) ∧
  Exa Z h k1 "[Lcom/example/ample_proof/ampleproof/disputes/DisputeStatus;" ∧
  Sta Z h "com/example/ample_proof/ampleproof/disputes/DisputeStatus" "$VALUES" "[Lcom/example/ample_proof/ampleproof/disputes/DisputeStatus;" (.ref k1) ∧
  Exa Z h k2 "com/example/ample_proof/ampleproof/disputes/DisputeStatus" ∧
  Sta Z h "com/example/ample_proof/ampleproof/disputes/DisputeStatus" "UNDER_REVIEW" "Lcom/example/ample_proof/ampleproof/disputes/DisputeStatus;" (.ref k2) ∧
  Exa Z h k3 "com/example/ample_proof/ampleproof/disputes/DisputeStatus" ∧
  Sta Z h "com/example/ample_proof/ampleproof/disputes/DisputeStatus" "WON" "Lcom/example/ample_proof/ampleproof/disputes/DisputeStatus;" (.ref k3) ∧
  Exa Z h k4 "com/example/ample_proof/ampleproof/disputes/DisputeStatus" ∧
  Sta Z h "com/example/ample_proof/ampleproof/disputes/DisputeStatus" "LOST" "Lcom/example/ample_proof/ampleproof/disputes/DisputeStatus;" (.ref k4) ∧
  Exa Z h k5 "com/example/ample_proof/ampleproof/disputes/DisputeStatus" ∧
  Sta Z h "com/example/ample_proof/ampleproof/disputes/DisputeStatus" "CLOSED" "Lcom/example/ample_proof/ampleproof/disputes/DisputeStatus;" (.ref k5) ∧
  Exa Z h k6 "com/example/ample_proof/ampleproof/keys/Scope" ∧
  Sta Z h "com/example/ample_proof/ampleproof/keys/Scope" "DISPUTES_OUTCOME" "Lcom/example/ample_proof/ampleproof/keys/Scope;" (.ref k6) ∧
  Exa Z h k7 "com/example/ample_proof/ampleproof/keys/Scope" ∧
  Sta Z h "com/example/ample_proof/ampleproof/keys/Scope" "DISPUTES_WRITE" "Lcom/example/ample_proof/ampleproof/keys/Scope;" (.ref k7) ∧
  Fld Z h k0 "com/example/ample_proof/ampleproof/disputes/DisputeStatus" "reopensIn" "Lcom/example/ample_proof/ampleproof/disputes/DisputeStatus;" .null ∧
  Fld Z h k2 "com/example/ample_proof/ampleproof/disputes/DisputeStatus" "reopensIn" "Lcom/example/ample_proof/ampleproof/disputes/DisputeStatus;" .null ∧
  Fld Z h k3 "com/example/ample_proof/ampleproof/disputes/DisputeStatus" "reopensIn" "Lcom/example/ample_proof/ampleproof/disputes/DisputeStatus;" (.ref k0) ∧
  Fld Z h k3 "com/example/ample_proof/ampleproof/disputes/DisputeStatus" "endedWith" "Lcom/example/ample_proof/ampleproof/keys/Scope;" (.ref k6) ∧
  Fld Z h k0 "java/lang/Enum" "ordinal" "I" (.int (0 : Int32)) ∧
  Fld Z h k3 "java/lang/Enum" "ordinal" "I" (.int (2 : Int32)) ∧
  Fld Z h k4 "com/example/ample_proof/ampleproof/disputes/DisputeStatus" "reopensIn" "Lcom/example/ample_proof/ampleproof/disputes/DisputeStatus;" .null ∧
  Fld Z h k4 "java/lang/Enum" "ordinal" "I" (.int (3 : Int32)) ∧
  Fld Z h k2 "java/lang/Enum" "ordinal" "I" (.int (1 : Int32)) ∧
  Fld Z h k5 "com/example/ample_proof/ampleproof/disputes/DisputeStatus" "reopensIn" "Lcom/example/ample_proof/ampleproof/disputes/DisputeStatus;" .null ∧
  Fld Z h k5 "java/lang/Enum" "ordinal" "I" (.int (4 : Int32)) ∧
  Fld Z h k0 "com/example/ample_proof/ampleproof/disputes/DisputeStatus" "endedWith" "Lcom/example/ample_proof/ampleproof/keys/Scope;" .null ∧
  Fld Z h k2 "com/example/ample_proof/ampleproof/disputes/DisputeStatus" "endedWith" "Lcom/example/ample_proof/ampleproof/keys/Scope;" .null ∧
  Fld Z h k4 "com/example/ample_proof/ampleproof/disputes/DisputeStatus" "endedWith" "Lcom/example/ample_proof/ampleproof/keys/Scope;" (.ref k6) ∧
  Fld Z h k5 "com/example/ample_proof/ampleproof/disputes/DisputeStatus" "endedWith" "Lcom/example/ample_proof/ampleproof/keys/Scope;" (.ref k7) ∧
  OwnAr Z h k1 (Jvm.ClassFile.FieldType.object "com/example/ample_proof/ampleproof/disputes/DisputeStatus") [(.ref k0), (.ref k2), (.ref k3), (.ref k4), (.ref k5)]
theorem OwnEn.ext {Z : State} {h h' : Heap} {k0 k1 k2 k3 k4 k5 k6 k7 : Addr} (E : Ext h h') (H : OwnEn Z h k0 k1 k2 k3 k4 k5 k6 k7) : OwnEn Z h' k0 k1 k2 k3 k4 k5 k6 k7 :=
  ⟨H.1.ext E, H.2.1.ext E, H.2.2.1.ext E, H.2.2.2.1.ext E, H.2.2.2.2.1.ext E, H.2.2.2.2.2.1.ext E, H.2.2.2.2.2.2.1.ext E, H.2.2.2.2.2.2.2.1.ext E, H.2.2.2.2.2.2.2.2.1.ext E, H.2.2.2.2.2.2.2.2.2.1.ext E, H.2.2.2.2.2.2.2.2.2.2.1.ext E, H.2.2.2.2.2.2.2.2.2.2.2.1.ext E, H.2.2.2.2.2.2.2.2.2.2.2.2.1.ext E, H.2.2.2.2.2.2.2.2.2.2.2.2.2.1.ext E, H.2.2.2.2.2.2.2.2.2.2.2.2.2.2.1.ext E, H.2.2.2.2.2.2.2.2.2.2.2.2.2.2.2.1.ext E, H.2.2.2.2.2.2.2.2.2.2.2.2.2.2.2.2.1.ext E, H.2.2.2.2.2.2.2.2.2.2.2.2.2.2.2.2.2.1.ext E, H.2.2.2.2.2.2.2.2.2.2.2.2.2.2.2.2.2.2.1.ext E, H.2.2.2.2.2.2.2.2.2.2.2.2.2.2.2.2.2.2.2.1.ext E, H.2.2.2.2.2.2.2.2.2.2.2.2.2.2.2.2.2.2.2.2.1.ext E, H.2.2.2.2.2.2.2.2.2.2.2.2.2.2.2.2.2.2.2.2.2.1.ext E, H.2.2.2.2.2.2.2.2.2.2.2.2.2.2.2.2.2.2.2.2.2.2.1.ext E, H.2.2.2.2.2.2.2.2.2.2.2.2.2.2.2.2.2.2.2.2.2.2.2.1.ext E, H.2.2.2.2.2.2.2.2.2.2.2.2.2.2.2.2.2.2.2.2.2.2.2.2.1.ext E, H.2.2.2.2.2.2.2.2.2.2.2.2.2.2.2.2.2.2.2.2.2.2.2.2.2.1.ext E, H.2.2.2.2.2.2.2.2.2.2.2.2.2.2.2.2.2.2.2.2.2.2.2.2.2.2.1.ext E, H.2.2.2.2.2.2.2.2.2.2.2.2.2.2.2.2.2.2.2.2.2.2.2.2.2.2.2.1.ext E, H.2.2.2.2.2.2.2.2.2.2.2.2.2.2.2.2.2.2.2.2.2.2.2.2.2.2.2.2.1.ext E, H.2.2.2.2.2.2.2.2.2.2.2.2.2.2.2.2.2.2.2.2.2.2.2.2.2.2.2.2.2.1.ext E, H.2.2.2.2.2.2.2.2.2.2.2.2.2.2.2.2.2.2.2.2.2.2.2.2.2.2.2.2.2.2.1.ext E, H.2.2.2.2.2.2.2.2.2.2.2.2.2.2.2.2.2.2.2.2.2.2.2.2.2.2.2.2.2.2.2.ext E⟩
theorem own_rem5 (x : Int32) : ((x &&& (2147483647 : Int32)) % (5 : Int32)) = (0 : Int32) ∨ ((x &&& (2147483647 : Int32)) % (5 : Int32)) = (1 : Int32) ∨ ((x &&& (2147483647 : Int32)) % (5 : Int32)) = (2 : Int32) ∨ ((x &&& (2147483647 : Int32)) % (5 : Int32)) = (3 : Int32) ∨ ((x &&& (2147483647 : Int32)) % (5 : Int32)) = (4 : Int32) := by
  have k := c_mask x (2147483647 : Int32) 31 (by decide) (by decide)
  have k1 : (0 : Int) ≤ x.toInt % ((2 ^ 31 : Nat) : Int) := Int.emod_nonneg _ (by decide)
  have q := (c_irem (x &&& (2147483647 : Int32)) (5 : Int32) 5 (by decide)).1 (by omega)
  have h : ((x &&& (2147483647 : Int32)) % (5 : Int32)).toInt = 0 ∨ ((x &&& (2147483647 : Int32)) % (5 : Int32)).toInt = 1 ∨ ((x &&& (2147483647 : Int32)) % (5 : Int32)).toInt = 2 ∨ ((x &&& (2147483647 : Int32)) % (5 : Int32)).toInt = 3 ∨ ((x &&& (2147483647 : Int32)) % (5 : Int32)).toInt = 4 := by omega
  rcases h with h | h | h | h | h
  · exact Or.inl (Int32.toInt_inj.mp (h.trans (by decide)))
  · exact Or.inr (Or.inl (Int32.toInt_inj.mp (h.trans (by decide))))
  · exact Or.inr (Or.inr (Or.inl (Int32.toInt_inj.mp (h.trans (by decide)))))
  · exact Or.inr (Or.inr (Or.inr (Or.inl (Int32.toInt_inj.mp (h.trans (by decide))))))
  · exact Or.inr (Or.inr (Or.inr (Or.inr ((Int32.toInt_inj.mp (h.trans (by decide)))))))
theorem own_ef_vals (m : MethodId)  : entryFrame m #[] 0 = mkF m 0 #[] [] := by first | (simp [entryFrame, mkF, argsToLocals, Value.category]; done) | rfl
set_option maxRecDepth 65536 in
set_option maxHeartbeats 40000000 in
theorem own_vals (l : Launch) (Z : State) (a0 : Array Value) (hw : ∀ d ∈ tables_1, d.before a0 Z = true)  (k0 k1 k2 k3 k4 k5 k6 k7 : Addr) (h0 : Heap) (n0 : Nat) (En : OwnEn Z h0 k0 k1 k2 k3 k4 k5 k6 k7) :
    OwnCon l Z (⟨"com/example/ample_proof/ampleproof/disputes/DisputeStatus", "values", "()[Lcom/example/ample_proof/ampleproof/disputes/DisputeStatus;"⟩ : MethodName) prog_9_method_1_code 0 (some (.array (.object "com/example/ample_proof/ampleproof/disputes/DisputeStatus"))) ({ frames := 1, cells := 1, slots := 5, locals := 14 } : Room) #[] h0 n0 (fun v h => ∃ b, v = some (.ref b) ∧ Ext h0 h ∧ OwnAr Z h b (Jvm.ClassFile.FieldType.object "com/example/ample_proof/ampleproof/disputes/DisputeStatus") [(.ref k0), (.ref k2), (.ref k3), (.ref k4), (.ref k5)]) := by
  refine OwnCon.of own_pn0 (fun m => own_ef_vals m ) ?_
  intro p e s m below meth c s0 hx hby hml hown hnm hret hZ r
  have r1 : OwnW s0 n0 3 #[] [(.ref k1)] h0 0 0 := r.getS hx hZ hown (hw _ (List.mem_of_getElem? (i := 14) rfl)) En.2.2.2.1 (hb hby own_d3_0)
  obtain ⟨hr2, r2, Er2, Vb, Xb⟩ := r1.clone hx hZ hown (hw _ (List.mem_of_getElem? (i := 16) rfl)) (hw _ (List.mem_of_getElem? (i := 17) rfl)) (hw _ (List.mem_of_getElem? (i := 21) rfl)) (hw _ (List.mem_of_getElem? (i := 19) rfl)) (hw _ (List.mem_of_getElem? (i := 20) rfl)) (hw _ (List.mem_of_getElem? (i := 22) rfl)) En.2.2.2.2.2.2.2.2.2.2.2.2.2.2.2.2.2.2.2.2.2.2.2.2.2.2.2.2.2.2.2 En.2.2.1 (fun v hv => List.all_eq_true.mp (show ([(.ref k0), (.ref k2), (.ref k3), (.ref k4), (.ref k5)].all fun v => fits (Jvm.ClassFile.FieldType.object "com/example/ample_proof/ampleproof/disputes/DisputeStatus") v) = true from rfl) v hv) (by rw [hml]; rfl) rfl (hb hby own_d3_3) (by decide) 0 5 (Nat.le_of_eq rfl) (by decide) (Nat.le_of_ble_eq_true rfl) (by decide) (by decide)
  obtain ⟨b, qb⟩ : ∃ z, z = h0.size := ⟨_, rfl⟩
  rw [← qb] at r2 Vb Xb
  have r2 : OwnW s0 n0 6 #[] [(.ref b)] hr2 1 5 := r2
  have r3 : OwnW s0 n0 9 #[] [(.ref b)] hr2 1 5 := r2.cast hx hZ hown (hw _ (List.mem_of_getElem? (i := 28) rfl)) (Ins.self Xb) rfl (hb hby own_d3_6)
  have r4 := r3.retW hx hret rfl rfl (Or.inr (Or.inr (Or.inr (Or.inr ⟨rfl, rfl, rfl⟩)))) (hb hby own_d3_9)
  exact ⟨_, _, 1, 5, ⟨b, rfl, Er2, Vb⟩, by decide, by decide, r4⟩
theorem own_ef_ron (m : MethodId) (o : Addr) : entryFrame m #[(.ref o)] 1 = mkF m 0 #[.val (.ref o)] [] := by first | (simp [entryFrame, mkF, argsToLocals, Value.category]; done) | rfl
set_option maxRecDepth 65536 in
set_option maxHeartbeats 40000000 in
theorem own_ron (l : Launch) (Z : State) (a0 : Array Value) (hw : ∀ d ∈ tables_1, d.before a0 Z = true) (o : Addr)  (h0 : Heap) (n0 : Nat) (F : Fld Z h0 o "com/example/ample_proof/ampleproof/disputes/DisputeStatus" "reopensIn" "Lcom/example/ample_proof/ampleproof/disputes/DisputeStatus;" .null) :
    OwnCon l Z (⟨"com/example/ample_proof/ampleproof/disputes/DisputeStatus", "reopensIn", "()Lcom/example/ample_proof/ampleproof/disputes/DisputeStatus;"⟩ : MethodName) prog_9_method_6_code 1 (some (.object "com/example/ample_proof/ampleproof/disputes/DisputeStatus")) ({ frames := 0, cells := 0, slots := 0, locals := 0 } : Room) #[(.ref o)] h0 n0 (fun v h => v = some .null ∧ h0 = h) := by
  refine OwnCon.of own_pn0 (fun m => own_ef_ron m o) ?_
  intro p e s m below meth c s0 hx hby hml hown hnm hret hZ r
  have r1 : OwnW s0 n0 1 #[.val (.ref o)] [(.ref o)] h0 0 0 := r.go fun T t X k => XS.aloadN X hx rfl (hb hby own_d4_0) rfl rfl k
  have r2 : OwnW s0 n0 4 #[.val (.ref o)] [.null] h0 0 0 := r1.getF hx hZ hown (hw _ (List.mem_of_getElem? (i := 30) rfl)) F rfl (hb hby own_d4_1)
  have r3 := r2.retW hx hret rfl rfl (Or.inr (Or.inr (Or.inr (Or.inr ⟨rfl, rfl, rfl⟩)))) (hb hby own_d4_4)
  exact ⟨_, _, 0, 0, ⟨rfl, rfl⟩, Nat.le_refl _, Nat.le_refl _, r3⟩
theorem own_ef_ror (m : MethodId) (o : Addr) : entryFrame m #[(.ref o)] 1 = mkF m 0 #[.val (.ref o)] [] := by first | (simp [entryFrame, mkF, argsToLocals, Value.category]; done) | rfl
set_option maxRecDepth 65536 in
set_option maxHeartbeats 40000000 in
theorem own_ror (l : Launch) (Z : State) (a0 : Array Value) (hw : ∀ d ∈ tables_1, d.before a0 Z = true) (o : Addr) (u : Addr) (h0 : Heap) (n0 : Nat) (F : Fld Z h0 o "com/example/ample_proof/ampleproof/disputes/DisputeStatus" "reopensIn" "Lcom/example/ample_proof/ampleproof/disputes/DisputeStatus;" (.ref u)) :
    OwnCon l Z (⟨"com/example/ample_proof/ampleproof/disputes/DisputeStatus", "reopensIn", "()Lcom/example/ample_proof/ampleproof/disputes/DisputeStatus;"⟩ : MethodName) prog_9_method_6_code 1 (some (.object "com/example/ample_proof/ampleproof/disputes/DisputeStatus")) ({ frames := 0, cells := 0, slots := 0, locals := 0 } : Room) #[(.ref o)] h0 n0 (fun v h => v = some (.ref u) ∧ h0 = h) := by
  refine OwnCon.of own_pn0 (fun m => own_ef_ror m o) ?_
  intro p e s m below meth c s0 hx hby hml hown hnm hret hZ r
  have r1 : OwnW s0 n0 1 #[.val (.ref o)] [(.ref o)] h0 0 0 := r.go fun T t X k => XS.aloadN X hx rfl (hb hby own_d4_0) rfl rfl k
  have r2 : OwnW s0 n0 4 #[.val (.ref o)] [(.ref u)] h0 0 0 := r1.getF hx hZ hown (hw _ (List.mem_of_getElem? (i := 30) rfl)) F rfl (hb hby own_d4_1)
  have r3 := r2.retW hx hret rfl rfl (Or.inr (Or.inr (Or.inr (Or.inr ⟨rfl, rfl, rfl⟩)))) (hb hby own_d4_4)
  exact ⟨_, _, 0, 0, ⟨rfl, rfl⟩, Nat.le_refl _, Nat.le_refl _, r3⟩
theorem own_ef_enr (m : MethodId) (o : Addr) : entryFrame m #[(.ref o)] 1 = mkF m 0 #[.val (.ref o)] [] := by first | (simp [entryFrame, mkF, argsToLocals, Value.category]; done) | rfl
set_option maxRecDepth 65536 in
set_option maxHeartbeats 40000000 in
theorem own_enr (l : Launch) (Z : State) (a0 : Array Value) (hw : ∀ d ∈ tables_1, d.before a0 Z = true) (o : Addr) (u : Addr) (h0 : Heap) (n0 : Nat) (F : Fld Z h0 o "com/example/ample_proof/ampleproof/disputes/DisputeStatus" "endedWith" "Lcom/example/ample_proof/ampleproof/keys/Scope;" (.ref u)) :
    OwnCon l Z (⟨"com/example/ample_proof/ampleproof/disputes/DisputeStatus", "endedWith", "()Lcom/example/ample_proof/ampleproof/keys/Scope;"⟩ : MethodName) prog_9_method_5_code 1 (some (.object "com/example/ample_proof/ampleproof/keys/Scope")) ({ frames := 0, cells := 0, slots := 0, locals := 0 } : Room) #[(.ref o)] h0 n0 (fun v h => v = some (.ref u) ∧ h0 = h) := by
  refine OwnCon.of own_pn0 (fun m => own_ef_enr m o) ?_
  intro p e s m below meth c s0 hx hby hml hown hnm hret hZ r
  have r1 : OwnW s0 n0 1 #[.val (.ref o)] [(.ref o)] h0 0 0 := r.go fun T t X k => XS.aloadN X hx rfl (hb hby own_d5_0) rfl rfl k
  have r2 : OwnW s0 n0 4 #[.val (.ref o)] [(.ref u)] h0 0 0 := r1.getF hx hZ hown (hw _ (List.mem_of_getElem? (i := 43) rfl)) F rfl (hb hby own_d5_1)
  have r3 := r2.retW hx hret rfl rfl (Or.inr (Or.inr (Or.inr (Or.inr ⟨rfl, rfl, rfl⟩)))) (hb hby own_d5_4)
  exact ⟨_, _, 0, 0, ⟨rfl, rfl⟩, Nat.le_refl _, Nat.le_refl _, r3⟩
theorem own_ef_pick0 (m : MethodId)  : entryFrame m #[(.int (0 : Int32))] 1 = mkF m 0 #[.val (.int (0 : Int32))] [] := by first | (simp [entryFrame, mkF, argsToLocals, Value.category]; done) | rfl
set_option maxRecDepth 65536 in
set_option maxHeartbeats 40000000 in
theorem own_pick0 (l : Launch) (Z : State) (a0 : Array Value) (hw : ∀ d ∈ tables_1, d.before a0 Z = true)  (k0 k1 k2 k3 k4 k5 k6 k7 : Addr) (h0 : Heap) (n0 : Nat) (En : OwnEn Z h0 k0 k1 k2 k3 k4 k5 k6 k7) :
    OwnCon l Z (⟨"com/example/ample_proof/ampleproof/disputes/DisputeStatusEscalatedFromPinLaw", "pick", "(I)Lcom/example/ample_proof/ampleproof/disputes/DisputeStatus;"⟩ : MethodName) method_2_code 1 (some (.object "com/example/ample_proof/ampleproof/disputes/DisputeStatus")) ({ frames := 0, cells := 0, slots := 0, locals := 0 } : Room) #[(.int (0 : Int32))] h0 n0 (fun v h => v = some (.ref k0) ∧ h0 = h) := by
  refine OwnCon.of own_pn1 (fun m => own_ef_pick0 m ) ?_
  intro p e s m below meth c s0 hx hby hml hown hnm hret hZ r
  have r1 : OwnW s0 n0 1 #[.val (.int (0 : Int32))] [(.int (0 : Int32))] h0 0 0 := r.go fun T t X k => XS.iloadN X hx rfl (hb hby own_d1_0) rfl k
  have r2 : OwnW s0 n0 4 #[.val (.int (0 : Int32))] [] h0 0 0 := r1.go fun T t X k => XS.ifNo X hx rfl (hb hby own_d1_1) rfl ((if0 _ _).trans (teq rfl).2) k
  have r3 : OwnW s0 n0 7 #[.val (.int (0 : Int32))] [(.ref k0)] h0 0 0 := r2.getS hx hZ hown (hw _ (List.mem_of_getElem? (i := 5) rfl)) En.2.1 (hb hby own_d1_4)
  have r4 := r3.retW hx hret rfl rfl (Or.inr (Or.inr (Or.inr (Or.inr ⟨rfl, rfl, rfl⟩)))) (hb hby own_d1_7)
  exact ⟨_, _, 0, 0, ⟨rfl, rfl⟩, Nat.le_refl _, Nat.le_refl _, r4⟩
theorem own_ef_pick1 (m : MethodId)  : entryFrame m #[(.int (1 : Int32))] 1 = mkF m 0 #[.val (.int (1 : Int32))] [] := by first | (simp [entryFrame, mkF, argsToLocals, Value.category]; done) | rfl
set_option maxRecDepth 65536 in
set_option maxHeartbeats 40000000 in
theorem own_pick1 (l : Launch) (Z : State) (a0 : Array Value) (hw : ∀ d ∈ tables_1, d.before a0 Z = true)  (k0 k1 k2 k3 k4 k5 k6 k7 : Addr) (h0 : Heap) (n0 : Nat) (En : OwnEn Z h0 k0 k1 k2 k3 k4 k5 k6 k7) :
    OwnCon l Z (⟨"com/example/ample_proof/ampleproof/disputes/DisputeStatusEscalatedFromPinLaw", "pick", "(I)Lcom/example/ample_proof/ampleproof/disputes/DisputeStatus;"⟩ : MethodName) method_2_code 1 (some (.object "com/example/ample_proof/ampleproof/disputes/DisputeStatus")) ({ frames := 0, cells := 0, slots := 0, locals := 0 } : Room) #[(.int (1 : Int32))] h0 n0 (fun v h => v = some (.ref k2) ∧ h0 = h) := by
  refine OwnCon.of own_pn1 (fun m => own_ef_pick1 m ) ?_
  intro p e s m below meth c s0 hx hby hml hown hnm hret hZ r
  have r1 : OwnW s0 n0 1 #[.val (.int (1 : Int32))] [(.int (1 : Int32))] h0 0 0 := r.go fun T t X k => XS.iloadN X hx rfl (hb hby own_d1_0) rfl k
  have r2 : OwnW s0 n0 8 #[.val (.int (1 : Int32))] [] h0 0 0 := r1.go fun T t X k => XS.ifYes X hx rfl (pc0 := 1) (pc' := 8) rfl (hb hby own_d1_1) rfl ((if0 _ _).trans (feq (by decide)).2) (by decide) (by decide) k
  have r3 : OwnW s0 n0 9 #[.val (.int (1 : Int32))] [(.int (1 : Int32))] h0 0 0 := r2.go fun T t X k => XS.iloadN X hx rfl (hb hby own_d1_8) rfl k
  have r4 : OwnW s0 n0 10 #[.val (.int (1 : Int32))] [(.int (1 : Int32)), (.int (1 : Int32))] h0 0 0 := r3.go fun T t X k => XS.iconst X hx rfl (hb hby own_d1_9) k
  have r5 : OwnW s0 n0 13 #[.val (.int (1 : Int32))] [] h0 0 0 := r4.go fun T t X k => XS.icmpNo X hx rfl (hb hby own_d1_10) rfl (teq rfl).2 k
  have r6 : OwnW s0 n0 16 #[.val (.int (1 : Int32))] [(.ref k2)] h0 0 0 := r5.getS hx hZ hown (hw _ (List.mem_of_getElem? (i := 48) rfl)) En.2.2.2.2.2.1 (hb hby own_d1_13)
  have r7 := r6.retW hx hret rfl rfl (Or.inr (Or.inr (Or.inr (Or.inr ⟨rfl, rfl, rfl⟩)))) (hb hby own_d1_16)
  exact ⟨_, _, 0, 0, ⟨rfl, rfl⟩, Nat.le_refl _, Nat.le_refl _, r7⟩
theorem own_ef_pick2 (m : MethodId)  : entryFrame m #[(.int (2 : Int32))] 1 = mkF m 0 #[.val (.int (2 : Int32))] [] := by first | (simp [entryFrame, mkF, argsToLocals, Value.category]; done) | rfl
set_option maxRecDepth 65536 in
set_option maxHeartbeats 40000000 in
theorem own_pick2 (l : Launch) (Z : State) (a0 : Array Value) (hw : ∀ d ∈ tables_1, d.before a0 Z = true)  (k0 k1 k2 k3 k4 k5 k6 k7 : Addr) (h0 : Heap) (n0 : Nat) (En : OwnEn Z h0 k0 k1 k2 k3 k4 k5 k6 k7) :
    OwnCon l Z (⟨"com/example/ample_proof/ampleproof/disputes/DisputeStatusEscalatedFromPinLaw", "pick", "(I)Lcom/example/ample_proof/ampleproof/disputes/DisputeStatus;"⟩ : MethodName) method_2_code 1 (some (.object "com/example/ample_proof/ampleproof/disputes/DisputeStatus")) ({ frames := 0, cells := 0, slots := 0, locals := 0 } : Room) #[(.int (2 : Int32))] h0 n0 (fun v h => v = some (.ref k3) ∧ h0 = h) := by
  refine OwnCon.of own_pn1 (fun m => own_ef_pick2 m ) ?_
  intro p e s m below meth c s0 hx hby hml hown hnm hret hZ r
  have r1 : OwnW s0 n0 1 #[.val (.int (2 : Int32))] [(.int (2 : Int32))] h0 0 0 := r.go fun T t X k => XS.iloadN X hx rfl (hb hby own_d1_0) rfl k
  have r2 : OwnW s0 n0 8 #[.val (.int (2 : Int32))] [] h0 0 0 := r1.go fun T t X k => XS.ifYes X hx rfl (pc0 := 1) (pc' := 8) rfl (hb hby own_d1_1) rfl ((if0 _ _).trans (feq (by decide)).2) (by decide) (by decide) k
  have r3 : OwnW s0 n0 9 #[.val (.int (2 : Int32))] [(.int (2 : Int32))] h0 0 0 := r2.go fun T t X k => XS.iloadN X hx rfl (hb hby own_d1_8) rfl k
  have r4 : OwnW s0 n0 10 #[.val (.int (2 : Int32))] [(.int (1 : Int32)), (.int (2 : Int32))] h0 0 0 := r3.go fun T t X k => XS.iconst X hx rfl (hb hby own_d1_9) k
  have r5 : OwnW s0 n0 17 #[.val (.int (2 : Int32))] [] h0 0 0 := r4.go fun T t X k => XS.icmpYes X hx rfl (pc0 := 10) (pc' := 17) rfl (hb hby own_d1_10) rfl (feq (by decide)).2 (by decide) (by decide) k
  have r6 : OwnW s0 n0 18 #[.val (.int (2 : Int32))] [(.int (2 : Int32))] h0 0 0 := r5.go fun T t X k => XS.iloadN X hx rfl (hb hby own_d1_17) rfl k
  have r7 : OwnW s0 n0 19 #[.val (.int (2 : Int32))] [(.int (2 : Int32)), (.int (2 : Int32))] h0 0 0 := r6.go fun T t X k => XS.iconst X hx rfl (hb hby own_d1_18) k
  have r8 : OwnW s0 n0 22 #[.val (.int (2 : Int32))] [] h0 0 0 := r7.go fun T t X k => XS.icmpNo X hx rfl (hb hby own_d1_19) rfl (teq rfl).2 k
  have r9 : OwnW s0 n0 25 #[.val (.int (2 : Int32))] [(.ref k3)] h0 0 0 := r8.getS hx hZ hown (hw _ (List.mem_of_getElem? (i := 32) rfl)) En.2.2.2.2.2.2.2.1 (hb hby own_d1_22)
  have r10 := r9.retW hx hret rfl rfl (Or.inr (Or.inr (Or.inr (Or.inr ⟨rfl, rfl, rfl⟩)))) (hb hby own_d1_25)
  exact ⟨_, _, 0, 0, ⟨rfl, rfl⟩, Nat.le_refl _, Nat.le_refl _, r10⟩
theorem own_ef_pick3 (m : MethodId)  : entryFrame m #[(.int (3 : Int32))] 1 = mkF m 0 #[.val (.int (3 : Int32))] [] := by first | (simp [entryFrame, mkF, argsToLocals, Value.category]; done) | rfl
set_option maxRecDepth 65536 in
set_option maxHeartbeats 40000000 in
theorem own_pick3 (l : Launch) (Z : State) (a0 : Array Value) (hw : ∀ d ∈ tables_1, d.before a0 Z = true)  (k0 k1 k2 k3 k4 k5 k6 k7 : Addr) (h0 : Heap) (n0 : Nat) (En : OwnEn Z h0 k0 k1 k2 k3 k4 k5 k6 k7) :
    OwnCon l Z (⟨"com/example/ample_proof/ampleproof/disputes/DisputeStatusEscalatedFromPinLaw", "pick", "(I)Lcom/example/ample_proof/ampleproof/disputes/DisputeStatus;"⟩ : MethodName) method_2_code 1 (some (.object "com/example/ample_proof/ampleproof/disputes/DisputeStatus")) ({ frames := 0, cells := 0, slots := 0, locals := 0 } : Room) #[(.int (3 : Int32))] h0 n0 (fun v h => v = some (.ref k4) ∧ h0 = h) := by
  refine OwnCon.of own_pn1 (fun m => own_ef_pick3 m ) ?_
  intro p e s m below meth c s0 hx hby hml hown hnm hret hZ r
  have r1 : OwnW s0 n0 1 #[.val (.int (3 : Int32))] [(.int (3 : Int32))] h0 0 0 := r.go fun T t X k => XS.iloadN X hx rfl (hb hby own_d1_0) rfl k
  have r2 : OwnW s0 n0 8 #[.val (.int (3 : Int32))] [] h0 0 0 := r1.go fun T t X k => XS.ifYes X hx rfl (pc0 := 1) (pc' := 8) rfl (hb hby own_d1_1) rfl ((if0 _ _).trans (feq (by decide)).2) (by decide) (by decide) k
  have r3 : OwnW s0 n0 9 #[.val (.int (3 : Int32))] [(.int (3 : Int32))] h0 0 0 := r2.go fun T t X k => XS.iloadN X hx rfl (hb hby own_d1_8) rfl k
  have r4 : OwnW s0 n0 10 #[.val (.int (3 : Int32))] [(.int (1 : Int32)), (.int (3 : Int32))] h0 0 0 := r3.go fun T t X k => XS.iconst X hx rfl (hb hby own_d1_9) k
  have r5 : OwnW s0 n0 17 #[.val (.int (3 : Int32))] [] h0 0 0 := r4.go fun T t X k => XS.icmpYes X hx rfl (pc0 := 10) (pc' := 17) rfl (hb hby own_d1_10) rfl (feq (by decide)).2 (by decide) (by decide) k
  have r6 : OwnW s0 n0 18 #[.val (.int (3 : Int32))] [(.int (3 : Int32))] h0 0 0 := r5.go fun T t X k => XS.iloadN X hx rfl (hb hby own_d1_17) rfl k
  have r7 : OwnW s0 n0 19 #[.val (.int (3 : Int32))] [(.int (2 : Int32)), (.int (3 : Int32))] h0 0 0 := r6.go fun T t X k => XS.iconst X hx rfl (hb hby own_d1_18) k
  have r8 : OwnW s0 n0 26 #[.val (.int (3 : Int32))] [] h0 0 0 := r7.go fun T t X k => XS.icmpYes X hx rfl (pc0 := 19) (pc' := 26) rfl (hb hby own_d1_19) rfl (feq (by decide)).2 (by decide) (by decide) k
  have r9 : OwnW s0 n0 27 #[.val (.int (3 : Int32))] [(.int (3 : Int32))] h0 0 0 := r8.go fun T t X k => XS.iloadN X hx rfl (hb hby own_d1_26) rfl k
  have r10 : OwnW s0 n0 28 #[.val (.int (3 : Int32))] [(.int (3 : Int32)), (.int (3 : Int32))] h0 0 0 := r9.go fun T t X k => XS.iconst X hx rfl (hb hby own_d1_27) k
  have r11 : OwnW s0 n0 31 #[.val (.int (3 : Int32))] [] h0 0 0 := r10.go fun T t X k => XS.icmpNo X hx rfl (hb hby own_d1_28) rfl (teq rfl).2 k
  have r12 : OwnW s0 n0 34 #[.val (.int (3 : Int32))] [(.ref k4)] h0 0 0 := r11.getS hx hZ hown (hw _ (List.mem_of_getElem? (i := 47) rfl)) En.2.2.2.2.2.2.2.2.2.1 (hb hby own_d1_31)
  have r13 := r12.retW hx hret rfl rfl (Or.inr (Or.inr (Or.inr (Or.inr ⟨rfl, rfl, rfl⟩)))) (hb hby own_d1_34)
  exact ⟨_, _, 0, 0, ⟨rfl, rfl⟩, Nat.le_refl _, Nat.le_refl _, r13⟩
theorem own_ef_pick4 (m : MethodId)  : entryFrame m #[(.int (4 : Int32))] 1 = mkF m 0 #[.val (.int (4 : Int32))] [] := by first | (simp [entryFrame, mkF, argsToLocals, Value.category]; done) | rfl
set_option maxRecDepth 65536 in
set_option maxHeartbeats 40000000 in
theorem own_pick4 (l : Launch) (Z : State) (a0 : Array Value) (hw : ∀ d ∈ tables_1, d.before a0 Z = true)  (k0 k1 k2 k3 k4 k5 k6 k7 : Addr) (h0 : Heap) (n0 : Nat) (En : OwnEn Z h0 k0 k1 k2 k3 k4 k5 k6 k7) :
    OwnCon l Z (⟨"com/example/ample_proof/ampleproof/disputes/DisputeStatusEscalatedFromPinLaw", "pick", "(I)Lcom/example/ample_proof/ampleproof/disputes/DisputeStatus;"⟩ : MethodName) method_2_code 1 (some (.object "com/example/ample_proof/ampleproof/disputes/DisputeStatus")) ({ frames := 0, cells := 0, slots := 0, locals := 0 } : Room) #[(.int (4 : Int32))] h0 n0 (fun v h => v = some (.ref k5) ∧ h0 = h) := by
  refine OwnCon.of own_pn1 (fun m => own_ef_pick4 m ) ?_
  intro p e s m below meth c s0 hx hby hml hown hnm hret hZ r
  have r1 : OwnW s0 n0 1 #[.val (.int (4 : Int32))] [(.int (4 : Int32))] h0 0 0 := r.go fun T t X k => XS.iloadN X hx rfl (hb hby own_d1_0) rfl k
  have r2 : OwnW s0 n0 8 #[.val (.int (4 : Int32))] [] h0 0 0 := r1.go fun T t X k => XS.ifYes X hx rfl (pc0 := 1) (pc' := 8) rfl (hb hby own_d1_1) rfl ((if0 _ _).trans (feq (by decide)).2) (by decide) (by decide) k
  have r3 : OwnW s0 n0 9 #[.val (.int (4 : Int32))] [(.int (4 : Int32))] h0 0 0 := r2.go fun T t X k => XS.iloadN X hx rfl (hb hby own_d1_8) rfl k
  have r4 : OwnW s0 n0 10 #[.val (.int (4 : Int32))] [(.int (1 : Int32)), (.int (4 : Int32))] h0 0 0 := r3.go fun T t X k => XS.iconst X hx rfl (hb hby own_d1_9) k
  have r5 : OwnW s0 n0 17 #[.val (.int (4 : Int32))] [] h0 0 0 := r4.go fun T t X k => XS.icmpYes X hx rfl (pc0 := 10) (pc' := 17) rfl (hb hby own_d1_10) rfl (feq (by decide)).2 (by decide) (by decide) k
  have r6 : OwnW s0 n0 18 #[.val (.int (4 : Int32))] [(.int (4 : Int32))] h0 0 0 := r5.go fun T t X k => XS.iloadN X hx rfl (hb hby own_d1_17) rfl k
  have r7 : OwnW s0 n0 19 #[.val (.int (4 : Int32))] [(.int (2 : Int32)), (.int (4 : Int32))] h0 0 0 := r6.go fun T t X k => XS.iconst X hx rfl (hb hby own_d1_18) k
  have r8 : OwnW s0 n0 26 #[.val (.int (4 : Int32))] [] h0 0 0 := r7.go fun T t X k => XS.icmpYes X hx rfl (pc0 := 19) (pc' := 26) rfl (hb hby own_d1_19) rfl (feq (by decide)).2 (by decide) (by decide) k
  have r9 : OwnW s0 n0 27 #[.val (.int (4 : Int32))] [(.int (4 : Int32))] h0 0 0 := r8.go fun T t X k => XS.iloadN X hx rfl (hb hby own_d1_26) rfl k
  have r10 : OwnW s0 n0 28 #[.val (.int (4 : Int32))] [(.int (3 : Int32)), (.int (4 : Int32))] h0 0 0 := r9.go fun T t X k => XS.iconst X hx rfl (hb hby own_d1_27) k
  have r11 : OwnW s0 n0 35 #[.val (.int (4 : Int32))] [] h0 0 0 := r10.go fun T t X k => XS.icmpYes X hx rfl (pc0 := 28) (pc' := 35) rfl (hb hby own_d1_28) rfl (feq (by decide)).2 (by decide) (by decide) k
  have r12 : OwnW s0 n0 38 #[.val (.int (4 : Int32))] [(.ref k5)] h0 0 0 := r11.getS hx hZ hown (hw _ (List.mem_of_getElem? (i := 49) rfl)) En.2.2.2.2.2.2.2.2.2.2.2.1 (hb hby own_d1_35)
  have r13 := r12.retW hx hret rfl rfl (Or.inr (Or.inr (Or.inr (Or.inr ⟨rfl, rfl, rfl⟩)))) (hb hby own_d1_38)
  exact ⟨_, _, 0, 0, ⟨rfl, rfl⟩, Nat.le_refl _, Nat.le_refl _, r13⟩
theorem own_ef_esc (m : MethodId)  : entryFrame m #[] 4 = mkF m 0 #[.unset, .unset, .unset, .unset] [] := by first | (simp [entryFrame, mkF, argsToLocals, Value.category]; done) | rfl
set_option maxRecDepth 65536 in
set_option maxHeartbeats 40000000 in
theorem own_esc (l : Launch) (Z : State) (a0 : Array Value) (hw : ∀ d ∈ tables_1, d.before a0 Z = true)  (k0 k1 k2 k3 k4 k5 k6 k7 : Addr) (h0 : Heap) (n0 : Nat) (En : OwnEn Z h0 k0 k1 k2 k3 k4 k5 k6 k7) :
    OwnCon l Z (⟨"com/example/ample_proof/ampleproof/disputes/DisputeStatus", "escalatedFrom", "()Lcom/example/ample_proof/ampleproof/disputes/DisputeStatus;"⟩ : MethodName) prog_9_method_9_code 4 (some (.object "com/example/ample_proof/ampleproof/disputes/DisputeStatus")) ({ frames := 2, cells := 1, slots := 5, locals := 25 } : Room) #[] h0 n0 (fun v h => v = some (.ref k3) ∧ Ext h0 h) := by
  refine OwnCon.of own_pn0 (fun m => own_ef_esc m ) ?_
  intro p e s m below meth c s0 hx hby hml hown hnm hret hZ r
  obtain ⟨vr1, hr1, r1, qr1⟩ := r.callS hx hZ hown (hw _ (List.mem_of_getElem? (i := 11) rfl)) (hw _ (List.mem_of_getElem? (i := 12) rfl)) (hw _ (List.mem_of_getElem? (i := 6) rfl)) (hw _ (List.mem_of_getElem? (i := 13) rfl)) (by decide) (argsL := []) (own_vals l Z a0 hw k0 k1 k2 k3 k4 k5 k6 k7 h0 n0 En) [] 0 (by decide) (by decide) (by rw [hml]; rfl) (lenOf own_pd0 rfl) rfl (Nat.le_of_eq rfl) (hb hby own_d2_0) (by decide) (by decide)
  obtain ⟨b, rfl, Ex, Vb⟩ := qr1
  have r1 : OwnW s0 n0 3 #[.unset, .unset, .unset, .unset] [(.ref b)] hr1 1 5 := r1
  have En1 := En.ext Ex
  have r2 : OwnW s0 n0 4 #[.val (.ref b), .unset, .unset, .unset] [] hr1 1 5 := r1.go fun T t X k => XS.astoreN X hx rfl (hb hby own_d2_3) rfl rfl (l' := #[.val (.ref b), .unset, .unset, .unset]) rfl k
  have r3 : OwnW s0 n0 5 #[.val (.ref b), .unset, .unset, .unset] [(.ref b)] hr1 1 5 := r2.go fun T t X k => XS.aloadN X hx rfl (hb hby own_d2_4) rfl rfl k
  have r4 : OwnW s0 n0 6 #[.val (.ref b), .unset, .unset, .unset] [(.int (5 : Int32))] hr1 1 5 := r3.alen hx hZ Vb rfl rfl (hb hby own_d2_5)
  have r5 : OwnW s0 n0 7 #[.val (.ref b), .val (.int (5 : Int32)), .unset, .unset] [] hr1 1 5 := r4.go fun T t X k => XS.istoreN X hx rfl (hb hby own_d2_6) rfl (l' := #[.val (.ref b), .val (.int (5 : Int32)), .unset, .unset]) rfl k
  have r6 : OwnW s0 n0 8 #[.val (.ref b), .val (.int (5 : Int32)), .unset, .unset] [(.int (0 : Int32))] hr1 1 5 := r5.go fun T t X k => XS.iconst X hx rfl (hb hby own_d2_7) k
  have r7 : OwnW s0 n0 9 #[.val (.ref b), .val (.int (5 : Int32)), .val (.int (0 : Int32)), .unset] [] hr1 1 5 := r6.go fun T t X k => XS.istoreN X hx rfl (hb hby own_d2_8) rfl (l' := #[.val (.ref b), .val (.int (5 : Int32)), .val (.int (0 : Int32)), .unset]) rfl k
  have r8 : OwnW s0 n0 10 #[.val (.ref b), .val (.int (5 : Int32)), .val (.int (0 : Int32)), .unset] [(.int (0 : Int32))] hr1 1 5 := r7.go fun T t X k => XS.iloadN X hx rfl (hb hby own_d2_9) rfl k
  have r9 : OwnW s0 n0 11 #[.val (.ref b), .val (.int (5 : Int32)), .val (.int (0 : Int32)), .unset] [(.int (5 : Int32)), (.int (0 : Int32))] hr1 1 5 := r8.go fun T t X k => XS.iloadN X hx rfl (hb hby own_d2_10) rfl k
  have r9 : OwnW s0 n0 11 #[.val (.ref b), .val (.int (5 : Int32)), .val (.int (0 : Int32)), .unset] [(.int (5 : Int32)), (.int (0 : Int32))] hr1 1 5 := r9
  have r10 : OwnW s0 n0 14 #[.val (.ref b), .val (.int (5 : Int32)), .val (.int (0 : Int32)), .unset] [] hr1 1 5 := r9.go fun T t X k => XS.icmpNo X hx rfl (hb hby own_d2_11) rfl (tlt (by decide)).2.1 k
  have r11 : OwnW s0 n0 15 #[.val (.ref b), .val (.int (5 : Int32)), .val (.int (0 : Int32)), .unset] [(.ref b)] hr1 1 5 := r10.go fun T t X k => XS.aloadN X hx rfl (hb hby own_d2_14) rfl rfl k
  have r12 : OwnW s0 n0 16 #[.val (.ref b), .val (.int (5 : Int32)), .val (.int (0 : Int32)), .unset] [(.int (0 : Int32)), (.ref b)] hr1 1 5 := r11.go fun T t X k => XS.iloadN X hx rfl (hb hby own_d2_15) rfl k
  have r13 : OwnW s0 n0 17 #[.val (.ref b), .val (.int (5 : Int32)), .val (.int (0 : Int32)), .unset] [(.ref k0)] hr1 1 5 := r12.aaload hx hZ Vb rfl (by decide) rfl rfl (hb hby own_d2_16)
  have r14 : OwnW s0 n0 18 #[.val (.ref b), .val (.int (5 : Int32)), .val (.int (0 : Int32)), .val (.ref k0)] [] hr1 1 5 := r13.go fun T t X k => XS.astoreN X hx rfl (hb hby own_d2_17) rfl rfl (l' := #[.val (.ref b), .val (.int (5 : Int32)), .val (.int (0 : Int32)), .val (.ref k0)]) rfl k
  have r15 : OwnW s0 n0 19 #[.val (.ref b), .val (.int (5 : Int32)), .val (.int (0 : Int32)), .val (.ref k0)] [(.ref k0)] hr1 1 5 := r14.go fun T t X k => XS.aloadN X hx rfl (hb hby own_d2_18) rfl rfl k
  have r16 : OwnW s0 n0 22 #[.val (.ref b), .val (.int (5 : Int32)), .val (.int (0 : Int32)), .val (.ref k0)] [.null] hr1 1 5 := r15.getF hx hZ hown (hw _ (List.mem_of_getElem? (i := 30) rfl)) En1.2.2.2.2.2.2.2.2.2.2.2.2.2.2.2.2.1 rfl (hb hby own_d2_19)
  have r17 : OwnW s0 n0 27 #[.val (.ref b), .val (.int (5 : Int32)), .val (.int (0 : Int32)), .val (.ref k0)] [] hr1 1 5 := r16.go fun T t X k => XS.ifnullYes X hx rfl (pc0 := 22) (pc' := 27) rfl (hb hby own_d2_22) rfl (by decide) (by decide) k
  have r18 : OwnW s0 n0 30 #[.val (.ref b), .val (.int (5 : Int32)), .val (.int ((0 : Int32) + (1 : Int32))), .val (.ref k0)] [] hr1 1 5 := r17.go fun T t X k => XS.iinc X hx rfl (hb hby own_d2_27) rfl (l' := #[.val (.ref b), .val (.int (5 : Int32)), .val (.int ((0 : Int32) + (1 : Int32))), .val (.ref k0)]) rfl k
  have r18 : OwnW s0 n0 30 #[.val (.ref b), .val (.int (5 : Int32)), .val (.int (1 : Int32)), .val (.ref k0)] [] hr1 1 5 := r18
  have r19 : OwnW s0 n0 9 #[.val (.ref b), .val (.int (5 : Int32)), .val (.int (1 : Int32)), .val (.ref k0)] [] hr1 1 5 := r18.go fun T t X k => XS.goto X hx rfl (pc0 := 30) (pc' := 9) rfl (hb hby own_d2_30) (by decide) (by decide) k
  have r20 : OwnW s0 n0 10 #[.val (.ref b), .val (.int (5 : Int32)), .val (.int (1 : Int32)), .val (.ref k0)] [(.int (1 : Int32))] hr1 1 5 := r19.go fun T t X k => XS.iloadN X hx rfl (hb hby own_d2_9) rfl k
  have r21 : OwnW s0 n0 11 #[.val (.ref b), .val (.int (5 : Int32)), .val (.int (1 : Int32)), .val (.ref k0)] [(.int (5 : Int32)), (.int (1 : Int32))] hr1 1 5 := r20.go fun T t X k => XS.iloadN X hx rfl (hb hby own_d2_10) rfl k
  have r22 : OwnW s0 n0 14 #[.val (.ref b), .val (.int (5 : Int32)), .val (.int (1 : Int32)), .val (.ref k0)] [] hr1 1 5 := r21.go fun T t X k => XS.icmpNo X hx rfl (hb hby own_d2_11) rfl (tlt (by decide)).2.1 k
  have r23 : OwnW s0 n0 15 #[.val (.ref b), .val (.int (5 : Int32)), .val (.int (1 : Int32)), .val (.ref k0)] [(.ref b)] hr1 1 5 := r22.go fun T t X k => XS.aloadN X hx rfl (hb hby own_d2_14) rfl rfl k
  have r24 : OwnW s0 n0 16 #[.val (.ref b), .val (.int (5 : Int32)), .val (.int (1 : Int32)), .val (.ref k0)] [(.int (1 : Int32)), (.ref b)] hr1 1 5 := r23.go fun T t X k => XS.iloadN X hx rfl (hb hby own_d2_15) rfl k
  have r25 : OwnW s0 n0 17 #[.val (.ref b), .val (.int (5 : Int32)), .val (.int (1 : Int32)), .val (.ref k0)] [(.ref k2)] hr1 1 5 := r24.aaload hx hZ Vb rfl (by decide) rfl rfl (hb hby own_d2_16)
  have r26 : OwnW s0 n0 18 #[.val (.ref b), .val (.int (5 : Int32)), .val (.int (1 : Int32)), .val (.ref k2)] [] hr1 1 5 := r25.go fun T t X k => XS.astoreN X hx rfl (hb hby own_d2_17) rfl rfl (l' := #[.val (.ref b), .val (.int (5 : Int32)), .val (.int (1 : Int32)), .val (.ref k2)]) rfl k
  have r27 : OwnW s0 n0 19 #[.val (.ref b), .val (.int (5 : Int32)), .val (.int (1 : Int32)), .val (.ref k2)] [(.ref k2)] hr1 1 5 := r26.go fun T t X k => XS.aloadN X hx rfl (hb hby own_d2_18) rfl rfl k
  have r28 : OwnW s0 n0 22 #[.val (.ref b), .val (.int (5 : Int32)), .val (.int (1 : Int32)), .val (.ref k2)] [.null] hr1 1 5 := r27.getF hx hZ hown (hw _ (List.mem_of_getElem? (i := 30) rfl)) En1.2.2.2.2.2.2.2.2.2.2.2.2.2.2.2.2.2.1 rfl (hb hby own_d2_19)
  have r29 : OwnW s0 n0 27 #[.val (.ref b), .val (.int (5 : Int32)), .val (.int (1 : Int32)), .val (.ref k2)] [] hr1 1 5 := r28.go fun T t X k => XS.ifnullYes X hx rfl (pc0 := 22) (pc' := 27) rfl (hb hby own_d2_22) rfl (by decide) (by decide) k
  have r30 : OwnW s0 n0 30 #[.val (.ref b), .val (.int (5 : Int32)), .val (.int ((1 : Int32) + (1 : Int32))), .val (.ref k2)] [] hr1 1 5 := r29.go fun T t X k => XS.iinc X hx rfl (hb hby own_d2_27) rfl (l' := #[.val (.ref b), .val (.int (5 : Int32)), .val (.int ((1 : Int32) + (1 : Int32))), .val (.ref k2)]) rfl k
  have r30 : OwnW s0 n0 30 #[.val (.ref b), .val (.int (5 : Int32)), .val (.int (2 : Int32)), .val (.ref k2)] [] hr1 1 5 := r30
  have r31 : OwnW s0 n0 9 #[.val (.ref b), .val (.int (5 : Int32)), .val (.int (2 : Int32)), .val (.ref k2)] [] hr1 1 5 := r30.go fun T t X k => XS.goto X hx rfl (pc0 := 30) (pc' := 9) rfl (hb hby own_d2_30) (by decide) (by decide) k
  have r32 : OwnW s0 n0 10 #[.val (.ref b), .val (.int (5 : Int32)), .val (.int (2 : Int32)), .val (.ref k2)] [(.int (2 : Int32))] hr1 1 5 := r31.go fun T t X k => XS.iloadN X hx rfl (hb hby own_d2_9) rfl k
  have r33 : OwnW s0 n0 11 #[.val (.ref b), .val (.int (5 : Int32)), .val (.int (2 : Int32)), .val (.ref k2)] [(.int (5 : Int32)), (.int (2 : Int32))] hr1 1 5 := r32.go fun T t X k => XS.iloadN X hx rfl (hb hby own_d2_10) rfl k
  have r34 : OwnW s0 n0 14 #[.val (.ref b), .val (.int (5 : Int32)), .val (.int (2 : Int32)), .val (.ref k2)] [] hr1 1 5 := r33.go fun T t X k => XS.icmpNo X hx rfl (hb hby own_d2_11) rfl (tlt (by decide)).2.1 k
  have r35 : OwnW s0 n0 15 #[.val (.ref b), .val (.int (5 : Int32)), .val (.int (2 : Int32)), .val (.ref k2)] [(.ref b)] hr1 1 5 := r34.go fun T t X k => XS.aloadN X hx rfl (hb hby own_d2_14) rfl rfl k
  have r36 : OwnW s0 n0 16 #[.val (.ref b), .val (.int (5 : Int32)), .val (.int (2 : Int32)), .val (.ref k2)] [(.int (2 : Int32)), (.ref b)] hr1 1 5 := r35.go fun T t X k => XS.iloadN X hx rfl (hb hby own_d2_15) rfl k
  have r37 : OwnW s0 n0 17 #[.val (.ref b), .val (.int (5 : Int32)), .val (.int (2 : Int32)), .val (.ref k2)] [(.ref k3)] hr1 1 5 := r36.aaload hx hZ Vb rfl (by decide) rfl rfl (hb hby own_d2_16)
  have r38 : OwnW s0 n0 18 #[.val (.ref b), .val (.int (5 : Int32)), .val (.int (2 : Int32)), .val (.ref k3)] [] hr1 1 5 := r37.go fun T t X k => XS.astoreN X hx rfl (hb hby own_d2_17) rfl rfl (l' := #[.val (.ref b), .val (.int (5 : Int32)), .val (.int (2 : Int32)), .val (.ref k3)]) rfl k
  have r39 : OwnW s0 n0 19 #[.val (.ref b), .val (.int (5 : Int32)), .val (.int (2 : Int32)), .val (.ref k3)] [(.ref k3)] hr1 1 5 := r38.go fun T t X k => XS.aloadN X hx rfl (hb hby own_d2_18) rfl rfl k
  have r40 : OwnW s0 n0 22 #[.val (.ref b), .val (.int (5 : Int32)), .val (.int (2 : Int32)), .val (.ref k3)] [(.ref k0)] hr1 1 5 := r39.getF hx hZ hown (hw _ (List.mem_of_getElem? (i := 30) rfl)) En1.2.2.2.2.2.2.2.2.2.2.2.2.2.2.2.2.2.2.1 rfl (hb hby own_d2_19)
  have r41 : OwnW s0 n0 25 #[.val (.ref b), .val (.int (5 : Int32)), .val (.int (2 : Int32)), .val (.ref k3)] [] hr1 1 5 := r40.go fun T t X k => XS.ifnullNo X hx rfl (hb hby own_d2_22) rfl k
  have r42 : OwnW s0 n0 26 #[.val (.ref b), .val (.int (5 : Int32)), .val (.int (2 : Int32)), .val (.ref k3)] [(.ref k3)] hr1 1 5 := r41.go fun T t X k => XS.aloadN X hx rfl (hb hby own_d2_25) rfl rfl k
  have r43 := r42.retW hx hret rfl rfl (Or.inr (Or.inr (Or.inr (Or.inr ⟨rfl, rfl, rfl⟩)))) (hb hby own_d2_26)
  exact ⟨_, _, 1, 5, ⟨rfl, Ex⟩, by decide, by decide, r43⟩
theorem own_ef_law (m : MethodId) (x0 : Int32) : entryFrame m #[(.int x0)] maxLocals = mkF m 0 #[.val (.int x0), .unset, .unset, .unset, .unset] [] := by first | (simp [entryFrame, mkF, argsToLocals, Value.category, maxLocals]; done) | rfl
set_option maxRecDepth 65536 in
set_option maxHeartbeats 40000000 in
theorem own_law (l : Launch) (Z : State) (a0 : Array Value) (hw : ∀ d ∈ tables_1, d.before a0 Z = true) (x0 : Int32) (k0 k1 k2 k3 k4 k5 k6 k7 : Addr) (h0 : Heap) (n0 : Nat) (En : OwnEn Z h0 k0 k1 k2 k3 k4 k5 k6 k7) :
    OwnCon l Z x code maxLocals ret room_1 #[(.int x0)] h0 n0 (fun v h => v = some (.int 1)) := by
  refine OwnCon.of own_pn1 (fun m => own_ef_law m x0) ?_
  intro p e s m below meth c s0 hx hby hml hown hnm hret hZ r
  have hown : s.vm.findClass "com/example/ample_proof/ampleproof/disputes/DisputeStatusEscalatedFromPinLaw" = some m.cls := hown
  have r1 : OwnW s0 n0 1 #[.val (.int x0), .unset, .unset, .unset, .unset] [(.int x0)] h0 0 0 := r.go fun T t X k => XS.iloadN X hx rfl (hb hby at_0) rfl k
  have r2 : OwnW s0 n0 3 #[.val (.int x0), .unset, .unset, .unset, .unset] [(.int (2147483647 : Int32)), (.int x0)] h0 0 0 := r1.goX fun T t ls X eT k => X.ldcI hx hown (mvT hZ (hw _ (List.mem_of_getElem? (i := 0) rfl))) rfl (hb hby at_1) k
  have r3 : OwnW s0 n0 4 #[.val (.int x0), .unset, .unset, .unset, .unset] [(.int (x0 &&& (2147483647 : Int32)))] h0 0 0 := r2.go fun T t X k => XS.iand X hx rfl (hb hby at_3) rfl k
  have r4 : OwnW s0 n0 5 #[.val (.int x0), .unset, .unset, .unset, .unset] [(.int (5 : Int32)), (.int (x0 &&& (2147483647 : Int32)))] h0 0 0 := r3.go fun T t X k => XS.iconst X hx rfl (hb hby at_4) k
  have r5 : OwnW s0 n0 6 #[.val (.int x0), .unset, .unset, .unset, .unset] [(.int ((x0 &&& (2147483647 : Int32)) % (5 : Int32)))] h0 0 0 := r4.goX fun T t ls X eT k => Jvm.RoadKit.iremM X hx rfl (hb hby at_5) rfl (by decide) k
  have hi := own_rem5 x0
  generalize ((x0 &&& (2147483647 : Int32)) % (5 : Int32)) = i at hi r5
  rcases hi with rfl | rfl | rfl | rfl | rfl
  · have ra := r5
    have ra6 : OwnW s0 n0 7 #[.val (.int x0), .val (.int (0 : Int32)), .unset, .unset, .unset] [] h0 0 0 := ra.go fun T t X k => XS.istoreN X hx rfl (hb hby at_6) rfl (l' := #[.val (.int x0), .val (.int (0 : Int32)), .unset, .unset, .unset]) rfl k
    have ra7 : OwnW s0 n0 8 #[.val (.int x0), .val (.int (0 : Int32)), .unset, .unset, .unset] [(.int (0 : Int32))] h0 0 0 := ra6.go fun T t X k => XS.iloadN X hx rfl (hb hby at_7) rfl k
    obtain ⟨vra8, hra8, ra8, qra8⟩ := ra7.callS hx hZ hown (hw _ (List.mem_of_getElem? (i := 1) rfl)) (hw _ (List.mem_of_getElem? (i := 2) rfl)) (hw _ (List.mem_of_getElem? (i := 3) rfl)) (hw _ (List.mem_of_getElem? (i := 4) rfl)) (by decide) (argsL := [(.int (0 : Int32))]) (own_pick0 l Z a0 hw k0 k1 k2 k3 k4 k5 k6 k7 h0 n0 En) [] 0 (by decide) (by decide) (by rw [hml]; rfl) (lenOf own_pd1 rfl) rfl (Nat.le_of_eq rfl) (hb hby at_8) (by decide) (by decide)
    obtain ⟨rfl, rfl⟩ := qra8
    have ra8 : OwnW s0 n0 11 #[.val (.int x0), .val (.int (0 : Int32)), .unset, .unset, .unset] [(.ref k0)] h0 0 0 := ra8
    have ra9 : OwnW s0 n0 12 #[.val (.int x0), .val (.int (0 : Int32)), .val (.ref k0), .unset, .unset] [] h0 0 0 := ra8.go fun T t X k => XS.astoreN X hx rfl (hb hby at_11) rfl rfl (l' := #[.val (.int x0), .val (.int (0 : Int32)), .val (.ref k0), .unset, .unset]) rfl k
    obtain ⟨vra10, hra10, ra10, qra10⟩ := ra9.callS hx hZ hown (hw _ (List.mem_of_getElem? (i := 8) rfl)) (hw _ (List.mem_of_getElem? (i := 9) rfl)) (hw _ (List.mem_of_getElem? (i := 6) rfl)) (hw _ (List.mem_of_getElem? (i := 10) rfl)) (by decide) (argsL := []) (own_esc l Z a0 hw k0 k1 k2 k3 k4 k5 k6 k7 h0 n0 En) [] 0 (by decide) (by decide) (by rw [hml]; rfl) (lenOf own_pd2 rfl) rfl (Nat.le_of_eq rfl) (hb hby at_12) (by decide) (by decide)
    obtain ⟨rfl, Ex⟩ := qra10
    have ra10 : OwnW s0 n0 15 #[.val (.int x0), .val (.int (0 : Int32)), .val (.ref k0), .unset, .unset] [(.ref k3)] hra10 1 5 := ra10
    have En1 := En.ext Ex
    have ra11 : OwnW s0 n0 16 #[.val (.int x0), .val (.int (0 : Int32)), .val (.ref k0), .val (.ref k3), .unset] [] hra10 1 5 := ra10.go fun T t X k => XS.astoreN X hx rfl (hb hby at_15) rfl rfl (l' := #[.val (.int x0), .val (.int (0 : Int32)), .val (.ref k0), .val (.ref k3), .unset]) rfl k
    have ra12 : OwnW s0 n0 17 #[.val (.int x0), .val (.int (0 : Int32)), .val (.ref k0), .val (.ref k3), .unset] [(.ref k3)] hra10 1 5 := ra11.go fun T t X k => XS.aloadN X hx rfl (hb hby at_16) rfl rfl k
    have ra13 : OwnW s0 n0 20 #[.val (.int x0), .val (.int (0 : Int32)), .val (.ref k0), .val (.ref k3), .unset] [(.ref k3), (.ref k3)] hra10 1 5 := ra12.getS hx hZ hown (hw _ (List.mem_of_getElem? (i := 32) rfl)) En1.2.2.2.2.2.2.2.1 (hb hby at_17)
    have ra14 : OwnW s0 n0 25 #[.val (.int x0), .val (.int (0 : Int32)), .val (.ref k0), .val (.ref k3), .unset] [] hra10 1 5 := ra13.goX fun T t ls X eT k => Jvm.RoadKit.acmp X hx rfl rfl rfl (pc0 := 20) (pc' := 25) (same := true) rfl (hb hby at_20) rfl (decide_eq_true rfl) (by decide) (by decide) k
    have ra15 : OwnW s0 n0 26 #[.val (.int x0), .val (.int (0 : Int32)), .val (.ref k0), .val (.ref k3), .unset] [(.ref k3)] hra10 1 5 := ra14.go fun T t X k => XS.aloadN X hx rfl (hb hby at_25) rfl rfl k
    obtain ⟨vra16, hra16, ra16, qra16⟩ := ra15.callV hx hZ hown (hw _ (List.mem_of_getElem? (i := 33) rfl)) (hw _ (List.mem_of_getElem? (i := 34) rfl)) (hw _ (List.mem_of_getElem? (i := 36) rfl)) (notFace_of_selects (args := #[]) (mvT hZ (hw _ (List.mem_of_getElem? (i := 36) rfl)))) (hw _ (List.mem_of_getElem? (i := 35) rfl)) (hw _ (List.mem_of_getElem? (i := 6) rfl)) (hw _ (List.mem_of_getElem? (i := 37) rfl)) (by decide) (a := k3) (argsL := []) En1.2.2.2.2.2.2.1 (own_ror l Z a0 hw k3 k0 hra10 n0 En1.2.2.2.2.2.2.2.2.2.2.2.2.2.2.2.2.2.2.1) [] 0 (by decide) (by decide) (by rw [hml]; rfl) (lenOf own_pd2 rfl) rfl (Nat.le_of_eq rfl) (hb hby at_26) (by decide) (by decide)
    obtain ⟨rfl, rfl⟩ := qra16
    have ra16 : OwnW s0 n0 29 #[.val (.int x0), .val (.int (0 : Int32)), .val (.ref k0), .val (.ref k3), .unset] [(.ref k0)] hra10 1 5 := ra16
    have ra17 : OwnW s0 n0 32 #[.val (.int x0), .val (.int (0 : Int32)), .val (.ref k0), .val (.ref k3), .unset] [(.ref k0), (.ref k0)] hra10 1 5 := ra16.getS hx hZ hown (hw _ (List.mem_of_getElem? (i := 5) rfl)) En1.2.1 (hb hby at_29)
    have ra18 : OwnW s0 n0 37 #[.val (.int x0), .val (.int (0 : Int32)), .val (.ref k0), .val (.ref k3), .unset] [] hra10 1 5 := ra17.goX fun T t ls X eT k => Jvm.RoadKit.acmp X hx rfl rfl rfl (pc0 := 32) (pc' := 37) (same := true) rfl (hb hby at_32) rfl (decide_eq_true rfl) (by decide) (by decide) k
    have ra19 : OwnW s0 n0 38 #[.val (.int x0), .val (.int (0 : Int32)), .val (.ref k0), .val (.ref k3), .unset] [(.ref k3)] hra10 1 5 := ra18.go fun T t X k => XS.aloadN X hx rfl (hb hby at_37) rfl rfl k
    obtain ⟨vra20, hra20, ra20, qra20⟩ := ra19.callV hx hZ hown (hw _ (List.mem_of_getElem? (i := 38) rfl)) (hw _ (List.mem_of_getElem? (i := 39) rfl)) (hw _ (List.mem_of_getElem? (i := 41) rfl)) (notFace_of_selects (args := #[]) (mvT hZ (hw _ (List.mem_of_getElem? (i := 41) rfl)))) (hw _ (List.mem_of_getElem? (i := 40) rfl)) (hw _ (List.mem_of_getElem? (i := 6) rfl)) (hw _ (List.mem_of_getElem? (i := 42) rfl)) (by decide) (a := k3) (argsL := []) En1.2.2.2.2.2.2.1 (own_enr l Z a0 hw k3 k6 hra10 n0 En1.2.2.2.2.2.2.2.2.2.2.2.2.2.2.2.2.2.2.2.1) [] 0 (by decide) (by decide) (by rw [hml]; rfl) (lenOf own_pd3 rfl) rfl (Nat.le_of_eq rfl) (hb hby at_38) (by decide) (by decide)
    obtain ⟨rfl, rfl⟩ := qra20
    have ra20 : OwnW s0 n0 41 #[.val (.int x0), .val (.int (0 : Int32)), .val (.ref k0), .val (.ref k3), .unset] [(.ref k6)] hra10 1 5 := ra20
    have ra21 : OwnW s0 n0 46 #[.val (.int x0), .val (.int (0 : Int32)), .val (.ref k0), .val (.ref k3), .unset] [] hra10 1 5 := ra20.go fun T t X k => XS.ifnonnullYes X hx rfl (pc0 := 41) (pc' := 46) rfl (hb hby at_41) rfl (by decide) (by decide) k
    have ra22 : OwnW s0 n0 47 #[.val (.int x0), .val (.int (0 : Int32)), .val (.ref k0), .val (.ref k3), .unset] [(.ref k0)] hra10 1 5 := ra21.go fun T t X k => XS.aloadN X hx rfl (hb hby at_46) rfl rfl k
    obtain ⟨vra23, hra23, ra23, qra23⟩ := ra22.callV hx hZ hown (hw _ (List.mem_of_getElem? (i := 33) rfl)) (hw _ (List.mem_of_getElem? (i := 34) rfl)) (hw _ (List.mem_of_getElem? (i := 36) rfl)) (notFace_of_selects (args := #[]) (mvT hZ (hw _ (List.mem_of_getElem? (i := 36) rfl)))) (hw _ (List.mem_of_getElem? (i := 35) rfl)) (hw _ (List.mem_of_getElem? (i := 6) rfl)) (hw _ (List.mem_of_getElem? (i := 37) rfl)) (by decide) (a := k0) (argsL := []) En1.1 (own_ron l Z a0 hw k0 hra10 n0 En1.2.2.2.2.2.2.2.2.2.2.2.2.2.2.2.2.1) [] 0 (by decide) (by decide) (by rw [hml]; rfl) (lenOf own_pd2 rfl) rfl (Nat.le_of_eq rfl) (hb hby at_47) (by decide) (by decide)
    obtain ⟨rfl, rfl⟩ := qra23
    have ra23 : OwnW s0 n0 50 #[.val (.int x0), .val (.int (0 : Int32)), .val (.ref k0), .val (.ref k3), .unset] [.null] hra10 1 5 := ra23
    have ra24 : OwnW s0 n0 57 #[.val (.int x0), .val (.int (0 : Int32)), .val (.ref k0), .val (.ref k3), .unset] [] hra10 1 5 := ra23.go fun T t X k => XS.ifnullYes X hx rfl (pc0 := 50) (pc' := 57) rfl (hb hby at_50) rfl (by decide) (by decide) k
    have ra25 : OwnW s0 n0 58 #[.val (.int x0), .val (.int (0 : Int32)), .val (.ref k0), .val (.ref k3), .unset] [(.int (0 : Int32))] hra10 1 5 := ra24.go fun T t X k => XS.iconst X hx rfl (hb hby at_57) k
    have ra26 : OwnW s0 n0 60 #[.val (.int x0), .val (.int (0 : Int32)), .val (.ref k0), .val (.ref k3), .val (.int (0 : Int32))] [] hra10 1 5 := ra25.go fun T t X k => XS.istore X hx rfl (hb hby at_58) rfl (l' := #[.val (.int x0), .val (.int (0 : Int32)), .val (.ref k0), .val (.ref k3), .val (.int (0 : Int32))]) rfl k
    have ra27 : OwnW s0 n0 62 #[.val (.int x0), .val (.int (0 : Int32)), .val (.ref k0), .val (.ref k3), .val (.int (0 : Int32))] [(.int (0 : Int32))] hra10 1 5 := ra26.go fun T t X k => XS.iload X hx rfl (hb hby at_60) rfl k
    have ra28 : OwnW s0 n0 63 #[.val (.int x0), .val (.int (0 : Int32)), .val (.ref k0), .val (.ref k3), .val (.int (0 : Int32))] [(.ref k0), (.int (0 : Int32))] hra10 1 5 := ra27.go fun T t X k => XS.aloadN X hx rfl (hb hby at_62) rfl rfl k
    have ra29 : OwnW s0 n0 64 #[.val (.int x0), .val (.int (0 : Int32)), .val (.ref k0), .val (.ref k3), .val (.int (0 : Int32))] [(.ref k3), (.ref k0), (.int (0 : Int32))] hra10 1 5 := ra28.go fun T t X k => XS.aloadN X hx rfl (hb hby at_63) rfl rfl k
    have ra30 : OwnW s0 n0 71 #[.val (.int x0), .val (.int (0 : Int32)), .val (.ref k0), .val (.ref k3), .val (.int (0 : Int32))] [(.int (0 : Int32))] hra10 1 5 := ra29.goX fun T t ls X eT k => Jvm.RoadKit.acmp X hx rfl rfl rfl (pc0 := 64) (pc' := 71) (same := false) rfl (hb hby at_64) rfl (own_rne (own_ne En1.2.2.2.2.2.2.2.2.2.2.2.2.2.2.2.2.2.2.2.2.1 En1.2.2.2.2.2.2.2.2.2.2.2.2.2.2.2.2.2.2.2.2.2.1 (by decide))) (by decide) (by decide) k
    have ra31 : OwnW s0 n0 72 #[.val (.int x0), .val (.int (0 : Int32)), .val (.ref k0), .val (.ref k3), .val (.int (0 : Int32))] [(.int (0 : Int32)), (.int (0 : Int32))] hra10 1 5 := ra30.go fun T t X k => XS.iconst X hx rfl (hb hby at_71) k
    have ra32 : OwnW s0 n0 75 #[.val (.int x0), .val (.int (0 : Int32)), .val (.ref k0), .val (.ref k3), .val (.int (0 : Int32))] [] hra10 1 5 := ra31.go fun T t X k => XS.icmpNo X hx rfl (hb hby at_72) rfl (teq rfl).2 k
    have ra33 : OwnW s0 n0 76 #[.val (.int x0), .val (.int (0 : Int32)), .val (.ref k0), .val (.ref k3), .val (.int (0 : Int32))] [(.int (1 : Int32))] hra10 1 5 := ra32.go fun T t X k => XS.iconst X hx rfl (hb hby at_75) k
    have ra34 : OwnW s0 n0 80 #[.val (.int x0), .val (.int (0 : Int32)), .val (.ref k0), .val (.ref k3), .val (.int (0 : Int32))] [(.int (1 : Int32))] hra10 1 5 := ra33.go fun T t X k => XS.goto X hx rfl (pc0 := 76) (pc' := 80) rfl (hb hby at_76) (by decide) (by decide) k
    have ra35 := ra34.retN hx hret (by simp) rfl (hb hby at_80)
    exact ⟨_, _, 1, 5, rfl, by decide, by decide, ra35⟩
  · have rb := r5
    have rb6 : OwnW s0 n0 7 #[.val (.int x0), .val (.int (1 : Int32)), .unset, .unset, .unset] [] h0 0 0 := rb.go fun T t X k => XS.istoreN X hx rfl (hb hby at_6) rfl (l' := #[.val (.int x0), .val (.int (1 : Int32)), .unset, .unset, .unset]) rfl k
    have rb7 : OwnW s0 n0 8 #[.val (.int x0), .val (.int (1 : Int32)), .unset, .unset, .unset] [(.int (1 : Int32))] h0 0 0 := rb6.go fun T t X k => XS.iloadN X hx rfl (hb hby at_7) rfl k
    obtain ⟨vrb8, hrb8, rb8, qrb8⟩ := rb7.callS hx hZ hown (hw _ (List.mem_of_getElem? (i := 1) rfl)) (hw _ (List.mem_of_getElem? (i := 2) rfl)) (hw _ (List.mem_of_getElem? (i := 3) rfl)) (hw _ (List.mem_of_getElem? (i := 4) rfl)) (by decide) (argsL := [(.int (1 : Int32))]) (own_pick1 l Z a0 hw k0 k1 k2 k3 k4 k5 k6 k7 h0 n0 En) [] 0 (by decide) (by decide) (by rw [hml]; rfl) (lenOf own_pd1 rfl) rfl (Nat.le_of_eq rfl) (hb hby at_8) (by decide) (by decide)
    obtain ⟨rfl, rfl⟩ := qrb8
    have rb8 : OwnW s0 n0 11 #[.val (.int x0), .val (.int (1 : Int32)), .unset, .unset, .unset] [(.ref k2)] h0 0 0 := rb8
    have rb9 : OwnW s0 n0 12 #[.val (.int x0), .val (.int (1 : Int32)), .val (.ref k2), .unset, .unset] [] h0 0 0 := rb8.go fun T t X k => XS.astoreN X hx rfl (hb hby at_11) rfl rfl (l' := #[.val (.int x0), .val (.int (1 : Int32)), .val (.ref k2), .unset, .unset]) rfl k
    obtain ⟨vrb10, hrb10, rb10, qrb10⟩ := rb9.callS hx hZ hown (hw _ (List.mem_of_getElem? (i := 8) rfl)) (hw _ (List.mem_of_getElem? (i := 9) rfl)) (hw _ (List.mem_of_getElem? (i := 6) rfl)) (hw _ (List.mem_of_getElem? (i := 10) rfl)) (by decide) (argsL := []) (own_esc l Z a0 hw k0 k1 k2 k3 k4 k5 k6 k7 h0 n0 En) [] 0 (by decide) (by decide) (by rw [hml]; rfl) (lenOf own_pd2 rfl) rfl (Nat.le_of_eq rfl) (hb hby at_12) (by decide) (by decide)
    obtain ⟨rfl, Ex⟩ := qrb10
    have rb10 : OwnW s0 n0 15 #[.val (.int x0), .val (.int (1 : Int32)), .val (.ref k2), .unset, .unset] [(.ref k3)] hrb10 1 5 := rb10
    have En1 := En.ext Ex
    have rb11 : OwnW s0 n0 16 #[.val (.int x0), .val (.int (1 : Int32)), .val (.ref k2), .val (.ref k3), .unset] [] hrb10 1 5 := rb10.go fun T t X k => XS.astoreN X hx rfl (hb hby at_15) rfl rfl (l' := #[.val (.int x0), .val (.int (1 : Int32)), .val (.ref k2), .val (.ref k3), .unset]) rfl k
    have rb12 : OwnW s0 n0 17 #[.val (.int x0), .val (.int (1 : Int32)), .val (.ref k2), .val (.ref k3), .unset] [(.ref k3)] hrb10 1 5 := rb11.go fun T t X k => XS.aloadN X hx rfl (hb hby at_16) rfl rfl k
    have rb13 : OwnW s0 n0 20 #[.val (.int x0), .val (.int (1 : Int32)), .val (.ref k2), .val (.ref k3), .unset] [(.ref k3), (.ref k3)] hrb10 1 5 := rb12.getS hx hZ hown (hw _ (List.mem_of_getElem? (i := 32) rfl)) En1.2.2.2.2.2.2.2.1 (hb hby at_17)
    have rb14 : OwnW s0 n0 25 #[.val (.int x0), .val (.int (1 : Int32)), .val (.ref k2), .val (.ref k3), .unset] [] hrb10 1 5 := rb13.goX fun T t ls X eT k => Jvm.RoadKit.acmp X hx rfl rfl rfl (pc0 := 20) (pc' := 25) (same := true) rfl (hb hby at_20) rfl (decide_eq_true rfl) (by decide) (by decide) k
    have rb15 : OwnW s0 n0 26 #[.val (.int x0), .val (.int (1 : Int32)), .val (.ref k2), .val (.ref k3), .unset] [(.ref k3)] hrb10 1 5 := rb14.go fun T t X k => XS.aloadN X hx rfl (hb hby at_25) rfl rfl k
    obtain ⟨vrb16, hrb16, rb16, qrb16⟩ := rb15.callV hx hZ hown (hw _ (List.mem_of_getElem? (i := 33) rfl)) (hw _ (List.mem_of_getElem? (i := 34) rfl)) (hw _ (List.mem_of_getElem? (i := 36) rfl)) (notFace_of_selects (args := #[]) (mvT hZ (hw _ (List.mem_of_getElem? (i := 36) rfl)))) (hw _ (List.mem_of_getElem? (i := 35) rfl)) (hw _ (List.mem_of_getElem? (i := 6) rfl)) (hw _ (List.mem_of_getElem? (i := 37) rfl)) (by decide) (a := k3) (argsL := []) En1.2.2.2.2.2.2.1 (own_ror l Z a0 hw k3 k0 hrb10 n0 En1.2.2.2.2.2.2.2.2.2.2.2.2.2.2.2.2.2.2.1) [] 0 (by decide) (by decide) (by rw [hml]; rfl) (lenOf own_pd2 rfl) rfl (Nat.le_of_eq rfl) (hb hby at_26) (by decide) (by decide)
    obtain ⟨rfl, rfl⟩ := qrb16
    have rb16 : OwnW s0 n0 29 #[.val (.int x0), .val (.int (1 : Int32)), .val (.ref k2), .val (.ref k3), .unset] [(.ref k0)] hrb10 1 5 := rb16
    have rb17 : OwnW s0 n0 32 #[.val (.int x0), .val (.int (1 : Int32)), .val (.ref k2), .val (.ref k3), .unset] [(.ref k0), (.ref k0)] hrb10 1 5 := rb16.getS hx hZ hown (hw _ (List.mem_of_getElem? (i := 5) rfl)) En1.2.1 (hb hby at_29)
    have rb18 : OwnW s0 n0 37 #[.val (.int x0), .val (.int (1 : Int32)), .val (.ref k2), .val (.ref k3), .unset] [] hrb10 1 5 := rb17.goX fun T t ls X eT k => Jvm.RoadKit.acmp X hx rfl rfl rfl (pc0 := 32) (pc' := 37) (same := true) rfl (hb hby at_32) rfl (decide_eq_true rfl) (by decide) (by decide) k
    have rb19 : OwnW s0 n0 38 #[.val (.int x0), .val (.int (1 : Int32)), .val (.ref k2), .val (.ref k3), .unset] [(.ref k3)] hrb10 1 5 := rb18.go fun T t X k => XS.aloadN X hx rfl (hb hby at_37) rfl rfl k
    obtain ⟨vrb20, hrb20, rb20, qrb20⟩ := rb19.callV hx hZ hown (hw _ (List.mem_of_getElem? (i := 38) rfl)) (hw _ (List.mem_of_getElem? (i := 39) rfl)) (hw _ (List.mem_of_getElem? (i := 41) rfl)) (notFace_of_selects (args := #[]) (mvT hZ (hw _ (List.mem_of_getElem? (i := 41) rfl)))) (hw _ (List.mem_of_getElem? (i := 40) rfl)) (hw _ (List.mem_of_getElem? (i := 6) rfl)) (hw _ (List.mem_of_getElem? (i := 42) rfl)) (by decide) (a := k3) (argsL := []) En1.2.2.2.2.2.2.1 (own_enr l Z a0 hw k3 k6 hrb10 n0 En1.2.2.2.2.2.2.2.2.2.2.2.2.2.2.2.2.2.2.2.1) [] 0 (by decide) (by decide) (by rw [hml]; rfl) (lenOf own_pd3 rfl) rfl (Nat.le_of_eq rfl) (hb hby at_38) (by decide) (by decide)
    obtain ⟨rfl, rfl⟩ := qrb20
    have rb20 : OwnW s0 n0 41 #[.val (.int x0), .val (.int (1 : Int32)), .val (.ref k2), .val (.ref k3), .unset] [(.ref k6)] hrb10 1 5 := rb20
    have rb21 : OwnW s0 n0 46 #[.val (.int x0), .val (.int (1 : Int32)), .val (.ref k2), .val (.ref k3), .unset] [] hrb10 1 5 := rb20.go fun T t X k => XS.ifnonnullYes X hx rfl (pc0 := 41) (pc' := 46) rfl (hb hby at_41) rfl (by decide) (by decide) k
    have rb22 : OwnW s0 n0 47 #[.val (.int x0), .val (.int (1 : Int32)), .val (.ref k2), .val (.ref k3), .unset] [(.ref k2)] hrb10 1 5 := rb21.go fun T t X k => XS.aloadN X hx rfl (hb hby at_46) rfl rfl k
    obtain ⟨vrb23, hrb23, rb23, qrb23⟩ := rb22.callV hx hZ hown (hw _ (List.mem_of_getElem? (i := 33) rfl)) (hw _ (List.mem_of_getElem? (i := 34) rfl)) (hw _ (List.mem_of_getElem? (i := 36) rfl)) (notFace_of_selects (args := #[]) (mvT hZ (hw _ (List.mem_of_getElem? (i := 36) rfl)))) (hw _ (List.mem_of_getElem? (i := 35) rfl)) (hw _ (List.mem_of_getElem? (i := 6) rfl)) (hw _ (List.mem_of_getElem? (i := 37) rfl)) (by decide) (a := k2) (argsL := []) En1.2.2.2.2.1 (own_ron l Z a0 hw k2 hrb10 n0 En1.2.2.2.2.2.2.2.2.2.2.2.2.2.2.2.2.2.1) [] 0 (by decide) (by decide) (by rw [hml]; rfl) (lenOf own_pd2 rfl) rfl (Nat.le_of_eq rfl) (hb hby at_47) (by decide) (by decide)
    obtain ⟨rfl, rfl⟩ := qrb23
    have rb23 : OwnW s0 n0 50 #[.val (.int x0), .val (.int (1 : Int32)), .val (.ref k2), .val (.ref k3), .unset] [.null] hrb10 1 5 := rb23
    have rb24 : OwnW s0 n0 57 #[.val (.int x0), .val (.int (1 : Int32)), .val (.ref k2), .val (.ref k3), .unset] [] hrb10 1 5 := rb23.go fun T t X k => XS.ifnullYes X hx rfl (pc0 := 50) (pc' := 57) rfl (hb hby at_50) rfl (by decide) (by decide) k
    have rb25 : OwnW s0 n0 58 #[.val (.int x0), .val (.int (1 : Int32)), .val (.ref k2), .val (.ref k3), .unset] [(.int (0 : Int32))] hrb10 1 5 := rb24.go fun T t X k => XS.iconst X hx rfl (hb hby at_57) k
    have rb26 : OwnW s0 n0 60 #[.val (.int x0), .val (.int (1 : Int32)), .val (.ref k2), .val (.ref k3), .val (.int (0 : Int32))] [] hrb10 1 5 := rb25.go fun T t X k => XS.istore X hx rfl (hb hby at_58) rfl (l' := #[.val (.int x0), .val (.int (1 : Int32)), .val (.ref k2), .val (.ref k3), .val (.int (0 : Int32))]) rfl k
    have rb27 : OwnW s0 n0 62 #[.val (.int x0), .val (.int (1 : Int32)), .val (.ref k2), .val (.ref k3), .val (.int (0 : Int32))] [(.int (0 : Int32))] hrb10 1 5 := rb26.go fun T t X k => XS.iload X hx rfl (hb hby at_60) rfl k
    have rb28 : OwnW s0 n0 63 #[.val (.int x0), .val (.int (1 : Int32)), .val (.ref k2), .val (.ref k3), .val (.int (0 : Int32))] [(.ref k2), (.int (0 : Int32))] hrb10 1 5 := rb27.go fun T t X k => XS.aloadN X hx rfl (hb hby at_62) rfl rfl k
    have rb29 : OwnW s0 n0 64 #[.val (.int x0), .val (.int (1 : Int32)), .val (.ref k2), .val (.ref k3), .val (.int (0 : Int32))] [(.ref k3), (.ref k2), (.int (0 : Int32))] hrb10 1 5 := rb28.go fun T t X k => XS.aloadN X hx rfl (hb hby at_63) rfl rfl k
    have rb30 : OwnW s0 n0 71 #[.val (.int x0), .val (.int (1 : Int32)), .val (.ref k2), .val (.ref k3), .val (.int (0 : Int32))] [(.int (0 : Int32))] hrb10 1 5 := rb29.goX fun T t ls X eT k => Jvm.RoadKit.acmp X hx rfl rfl rfl (pc0 := 64) (pc' := 71) (same := false) rfl (hb hby at_64) rfl (own_rne (own_ne En1.2.2.2.2.2.2.2.2.2.2.2.2.2.2.2.2.2.2.2.2.2.2.2.2.1 En1.2.2.2.2.2.2.2.2.2.2.2.2.2.2.2.2.2.2.2.2.2.1 (by decide))) (by decide) (by decide) k
    have rb31 : OwnW s0 n0 72 #[.val (.int x0), .val (.int (1 : Int32)), .val (.ref k2), .val (.ref k3), .val (.int (0 : Int32))] [(.int (0 : Int32)), (.int (0 : Int32))] hrb10 1 5 := rb30.go fun T t X k => XS.iconst X hx rfl (hb hby at_71) k
    have rb32 : OwnW s0 n0 75 #[.val (.int x0), .val (.int (1 : Int32)), .val (.ref k2), .val (.ref k3), .val (.int (0 : Int32))] [] hrb10 1 5 := rb31.go fun T t X k => XS.icmpNo X hx rfl (hb hby at_72) rfl (teq rfl).2 k
    have rb33 : OwnW s0 n0 76 #[.val (.int x0), .val (.int (1 : Int32)), .val (.ref k2), .val (.ref k3), .val (.int (0 : Int32))] [(.int (1 : Int32))] hrb10 1 5 := rb32.go fun T t X k => XS.iconst X hx rfl (hb hby at_75) k
    have rb34 : OwnW s0 n0 80 #[.val (.int x0), .val (.int (1 : Int32)), .val (.ref k2), .val (.ref k3), .val (.int (0 : Int32))] [(.int (1 : Int32))] hrb10 1 5 := rb33.go fun T t X k => XS.goto X hx rfl (pc0 := 76) (pc' := 80) rfl (hb hby at_76) (by decide) (by decide) k
    have rb35 := rb34.retN hx hret (by simp) rfl (hb hby at_80)
    exact ⟨_, _, 1, 5, rfl, by decide, by decide, rb35⟩
  · have rc := r5
    have rc6 : OwnW s0 n0 7 #[.val (.int x0), .val (.int (2 : Int32)), .unset, .unset, .unset] [] h0 0 0 := rc.go fun T t X k => XS.istoreN X hx rfl (hb hby at_6) rfl (l' := #[.val (.int x0), .val (.int (2 : Int32)), .unset, .unset, .unset]) rfl k
    have rc7 : OwnW s0 n0 8 #[.val (.int x0), .val (.int (2 : Int32)), .unset, .unset, .unset] [(.int (2 : Int32))] h0 0 0 := rc6.go fun T t X k => XS.iloadN X hx rfl (hb hby at_7) rfl k
    obtain ⟨vrc8, hrc8, rc8, qrc8⟩ := rc7.callS hx hZ hown (hw _ (List.mem_of_getElem? (i := 1) rfl)) (hw _ (List.mem_of_getElem? (i := 2) rfl)) (hw _ (List.mem_of_getElem? (i := 3) rfl)) (hw _ (List.mem_of_getElem? (i := 4) rfl)) (by decide) (argsL := [(.int (2 : Int32))]) (own_pick2 l Z a0 hw k0 k1 k2 k3 k4 k5 k6 k7 h0 n0 En) [] 0 (by decide) (by decide) (by rw [hml]; rfl) (lenOf own_pd1 rfl) rfl (Nat.le_of_eq rfl) (hb hby at_8) (by decide) (by decide)
    obtain ⟨rfl, rfl⟩ := qrc8
    have rc8 : OwnW s0 n0 11 #[.val (.int x0), .val (.int (2 : Int32)), .unset, .unset, .unset] [(.ref k3)] h0 0 0 := rc8
    have rc9 : OwnW s0 n0 12 #[.val (.int x0), .val (.int (2 : Int32)), .val (.ref k3), .unset, .unset] [] h0 0 0 := rc8.go fun T t X k => XS.astoreN X hx rfl (hb hby at_11) rfl rfl (l' := #[.val (.int x0), .val (.int (2 : Int32)), .val (.ref k3), .unset, .unset]) rfl k
    obtain ⟨vrc10, hrc10, rc10, qrc10⟩ := rc9.callS hx hZ hown (hw _ (List.mem_of_getElem? (i := 8) rfl)) (hw _ (List.mem_of_getElem? (i := 9) rfl)) (hw _ (List.mem_of_getElem? (i := 6) rfl)) (hw _ (List.mem_of_getElem? (i := 10) rfl)) (by decide) (argsL := []) (own_esc l Z a0 hw k0 k1 k2 k3 k4 k5 k6 k7 h0 n0 En) [] 0 (by decide) (by decide) (by rw [hml]; rfl) (lenOf own_pd2 rfl) rfl (Nat.le_of_eq rfl) (hb hby at_12) (by decide) (by decide)
    obtain ⟨rfl, Ex⟩ := qrc10
    have rc10 : OwnW s0 n0 15 #[.val (.int x0), .val (.int (2 : Int32)), .val (.ref k3), .unset, .unset] [(.ref k3)] hrc10 1 5 := rc10
    have En1 := En.ext Ex
    have rc11 : OwnW s0 n0 16 #[.val (.int x0), .val (.int (2 : Int32)), .val (.ref k3), .val (.ref k3), .unset] [] hrc10 1 5 := rc10.go fun T t X k => XS.astoreN X hx rfl (hb hby at_15) rfl rfl (l' := #[.val (.int x0), .val (.int (2 : Int32)), .val (.ref k3), .val (.ref k3), .unset]) rfl k
    have rc12 : OwnW s0 n0 17 #[.val (.int x0), .val (.int (2 : Int32)), .val (.ref k3), .val (.ref k3), .unset] [(.ref k3)] hrc10 1 5 := rc11.go fun T t X k => XS.aloadN X hx rfl (hb hby at_16) rfl rfl k
    have rc13 : OwnW s0 n0 20 #[.val (.int x0), .val (.int (2 : Int32)), .val (.ref k3), .val (.ref k3), .unset] [(.ref k3), (.ref k3)] hrc10 1 5 := rc12.getS hx hZ hown (hw _ (List.mem_of_getElem? (i := 32) rfl)) En1.2.2.2.2.2.2.2.1 (hb hby at_17)
    have rc14 : OwnW s0 n0 25 #[.val (.int x0), .val (.int (2 : Int32)), .val (.ref k3), .val (.ref k3), .unset] [] hrc10 1 5 := rc13.goX fun T t ls X eT k => Jvm.RoadKit.acmp X hx rfl rfl rfl (pc0 := 20) (pc' := 25) (same := true) rfl (hb hby at_20) rfl (decide_eq_true rfl) (by decide) (by decide) k
    have rc15 : OwnW s0 n0 26 #[.val (.int x0), .val (.int (2 : Int32)), .val (.ref k3), .val (.ref k3), .unset] [(.ref k3)] hrc10 1 5 := rc14.go fun T t X k => XS.aloadN X hx rfl (hb hby at_25) rfl rfl k
    obtain ⟨vrc16, hrc16, rc16, qrc16⟩ := rc15.callV hx hZ hown (hw _ (List.mem_of_getElem? (i := 33) rfl)) (hw _ (List.mem_of_getElem? (i := 34) rfl)) (hw _ (List.mem_of_getElem? (i := 36) rfl)) (notFace_of_selects (args := #[]) (mvT hZ (hw _ (List.mem_of_getElem? (i := 36) rfl)))) (hw _ (List.mem_of_getElem? (i := 35) rfl)) (hw _ (List.mem_of_getElem? (i := 6) rfl)) (hw _ (List.mem_of_getElem? (i := 37) rfl)) (by decide) (a := k3) (argsL := []) En1.2.2.2.2.2.2.1 (own_ror l Z a0 hw k3 k0 hrc10 n0 En1.2.2.2.2.2.2.2.2.2.2.2.2.2.2.2.2.2.2.1) [] 0 (by decide) (by decide) (by rw [hml]; rfl) (lenOf own_pd2 rfl) rfl (Nat.le_of_eq rfl) (hb hby at_26) (by decide) (by decide)
    obtain ⟨rfl, rfl⟩ := qrc16
    have rc16 : OwnW s0 n0 29 #[.val (.int x0), .val (.int (2 : Int32)), .val (.ref k3), .val (.ref k3), .unset] [(.ref k0)] hrc10 1 5 := rc16
    have rc17 : OwnW s0 n0 32 #[.val (.int x0), .val (.int (2 : Int32)), .val (.ref k3), .val (.ref k3), .unset] [(.ref k0), (.ref k0)] hrc10 1 5 := rc16.getS hx hZ hown (hw _ (List.mem_of_getElem? (i := 5) rfl)) En1.2.1 (hb hby at_29)
    have rc18 : OwnW s0 n0 37 #[.val (.int x0), .val (.int (2 : Int32)), .val (.ref k3), .val (.ref k3), .unset] [] hrc10 1 5 := rc17.goX fun T t ls X eT k => Jvm.RoadKit.acmp X hx rfl rfl rfl (pc0 := 32) (pc' := 37) (same := true) rfl (hb hby at_32) rfl (decide_eq_true rfl) (by decide) (by decide) k
    have rc19 : OwnW s0 n0 38 #[.val (.int x0), .val (.int (2 : Int32)), .val (.ref k3), .val (.ref k3), .unset] [(.ref k3)] hrc10 1 5 := rc18.go fun T t X k => XS.aloadN X hx rfl (hb hby at_37) rfl rfl k
    obtain ⟨vrc20, hrc20, rc20, qrc20⟩ := rc19.callV hx hZ hown (hw _ (List.mem_of_getElem? (i := 38) rfl)) (hw _ (List.mem_of_getElem? (i := 39) rfl)) (hw _ (List.mem_of_getElem? (i := 41) rfl)) (notFace_of_selects (args := #[]) (mvT hZ (hw _ (List.mem_of_getElem? (i := 41) rfl)))) (hw _ (List.mem_of_getElem? (i := 40) rfl)) (hw _ (List.mem_of_getElem? (i := 6) rfl)) (hw _ (List.mem_of_getElem? (i := 42) rfl)) (by decide) (a := k3) (argsL := []) En1.2.2.2.2.2.2.1 (own_enr l Z a0 hw k3 k6 hrc10 n0 En1.2.2.2.2.2.2.2.2.2.2.2.2.2.2.2.2.2.2.2.1) [] 0 (by decide) (by decide) (by rw [hml]; rfl) (lenOf own_pd3 rfl) rfl (Nat.le_of_eq rfl) (hb hby at_38) (by decide) (by decide)
    obtain ⟨rfl, rfl⟩ := qrc20
    have rc20 : OwnW s0 n0 41 #[.val (.int x0), .val (.int (2 : Int32)), .val (.ref k3), .val (.ref k3), .unset] [(.ref k6)] hrc10 1 5 := rc20
    have rc21 : OwnW s0 n0 46 #[.val (.int x0), .val (.int (2 : Int32)), .val (.ref k3), .val (.ref k3), .unset] [] hrc10 1 5 := rc20.go fun T t X k => XS.ifnonnullYes X hx rfl (pc0 := 41) (pc' := 46) rfl (hb hby at_41) rfl (by decide) (by decide) k
    have rc22 : OwnW s0 n0 47 #[.val (.int x0), .val (.int (2 : Int32)), .val (.ref k3), .val (.ref k3), .unset] [(.ref k3)] hrc10 1 5 := rc21.go fun T t X k => XS.aloadN X hx rfl (hb hby at_46) rfl rfl k
    obtain ⟨vrc23, hrc23, rc23, qrc23⟩ := rc22.callV hx hZ hown (hw _ (List.mem_of_getElem? (i := 33) rfl)) (hw _ (List.mem_of_getElem? (i := 34) rfl)) (hw _ (List.mem_of_getElem? (i := 36) rfl)) (notFace_of_selects (args := #[]) (mvT hZ (hw _ (List.mem_of_getElem? (i := 36) rfl)))) (hw _ (List.mem_of_getElem? (i := 35) rfl)) (hw _ (List.mem_of_getElem? (i := 6) rfl)) (hw _ (List.mem_of_getElem? (i := 37) rfl)) (by decide) (a := k3) (argsL := []) En1.2.2.2.2.2.2.1 (own_ror l Z a0 hw k3 k0 hrc10 n0 En1.2.2.2.2.2.2.2.2.2.2.2.2.2.2.2.2.2.2.1) [] 0 (by decide) (by decide) (by rw [hml]; rfl) (lenOf own_pd2 rfl) rfl (Nat.le_of_eq rfl) (hb hby at_47) (by decide) (by decide)
    obtain ⟨rfl, rfl⟩ := qrc23
    have rc23 : OwnW s0 n0 50 #[.val (.int x0), .val (.int (2 : Int32)), .val (.ref k3), .val (.ref k3), .unset] [(.ref k0)] hrc10 1 5 := rc23
    have rc24 : OwnW s0 n0 53 #[.val (.int x0), .val (.int (2 : Int32)), .val (.ref k3), .val (.ref k3), .unset] [] hrc10 1 5 := rc23.go fun T t X k => XS.ifnullNo X hx rfl (hb hby at_50) rfl k
    have rc25 : OwnW s0 n0 54 #[.val (.int x0), .val (.int (2 : Int32)), .val (.ref k3), .val (.ref k3), .unset] [(.int (1 : Int32))] hrc10 1 5 := rc24.go fun T t X k => XS.iconst X hx rfl (hb hby at_53) k
    have rc26 : OwnW s0 n0 58 #[.val (.int x0), .val (.int (2 : Int32)), .val (.ref k3), .val (.ref k3), .unset] [(.int (1 : Int32))] hrc10 1 5 := rc25.go fun T t X k => XS.goto X hx rfl (pc0 := 54) (pc' := 58) rfl (hb hby at_54) (by decide) (by decide) k
    have rc27 : OwnW s0 n0 60 #[.val (.int x0), .val (.int (2 : Int32)), .val (.ref k3), .val (.ref k3), .val (.int (1 : Int32))] [] hrc10 1 5 := rc26.go fun T t X k => XS.istore X hx rfl (hb hby at_58) rfl (l' := #[.val (.int x0), .val (.int (2 : Int32)), .val (.ref k3), .val (.ref k3), .val (.int (1 : Int32))]) rfl k
    have rc28 : OwnW s0 n0 62 #[.val (.int x0), .val (.int (2 : Int32)), .val (.ref k3), .val (.ref k3), .val (.int (1 : Int32))] [(.int (1 : Int32))] hrc10 1 5 := rc27.go fun T t X k => XS.iload X hx rfl (hb hby at_60) rfl k
    have rc29 : OwnW s0 n0 63 #[.val (.int x0), .val (.int (2 : Int32)), .val (.ref k3), .val (.ref k3), .val (.int (1 : Int32))] [(.ref k3), (.int (1 : Int32))] hrc10 1 5 := rc28.go fun T t X k => XS.aloadN X hx rfl (hb hby at_62) rfl rfl k
    have rc30 : OwnW s0 n0 64 #[.val (.int x0), .val (.int (2 : Int32)), .val (.ref k3), .val (.ref k3), .val (.int (1 : Int32))] [(.ref k3), (.ref k3), (.int (1 : Int32))] hrc10 1 5 := rc29.go fun T t X k => XS.aloadN X hx rfl (hb hby at_63) rfl rfl k
    have rc31 : OwnW s0 n0 67 #[.val (.int x0), .val (.int (2 : Int32)), .val (.ref k3), .val (.ref k3), .val (.int (1 : Int32))] [(.int (1 : Int32))] hrc10 1 5 := rc30.goX fun T t ls X eT k => Jvm.RoadKit.acmp X hx rfl rfl rfl (pc0 := 64) (pc' := 67) (same := true) rfl (hb hby at_64) rfl (decide_eq_true rfl) (by decide) (by decide) k
    have rc32 : OwnW s0 n0 68 #[.val (.int x0), .val (.int (2 : Int32)), .val (.ref k3), .val (.ref k3), .val (.int (1 : Int32))] [(.int (1 : Int32)), (.int (1 : Int32))] hrc10 1 5 := rc31.go fun T t X k => XS.iconst X hx rfl (hb hby at_67) k
    have rc33 : OwnW s0 n0 72 #[.val (.int x0), .val (.int (2 : Int32)), .val (.ref k3), .val (.ref k3), .val (.int (1 : Int32))] [(.int (1 : Int32)), (.int (1 : Int32))] hrc10 1 5 := rc32.go fun T t X k => XS.goto X hx rfl (pc0 := 68) (pc' := 72) rfl (hb hby at_68) (by decide) (by decide) k
    have rc34 : OwnW s0 n0 75 #[.val (.int x0), .val (.int (2 : Int32)), .val (.ref k3), .val (.ref k3), .val (.int (1 : Int32))] [] hrc10 1 5 := rc33.go fun T t X k => XS.icmpNo X hx rfl (hb hby at_72) rfl (teq rfl).2 k
    have rc35 : OwnW s0 n0 76 #[.val (.int x0), .val (.int (2 : Int32)), .val (.ref k3), .val (.ref k3), .val (.int (1 : Int32))] [(.int (1 : Int32))] hrc10 1 5 := rc34.go fun T t X k => XS.iconst X hx rfl (hb hby at_75) k
    have rc36 : OwnW s0 n0 80 #[.val (.int x0), .val (.int (2 : Int32)), .val (.ref k3), .val (.ref k3), .val (.int (1 : Int32))] [(.int (1 : Int32))] hrc10 1 5 := rc35.go fun T t X k => XS.goto X hx rfl (pc0 := 76) (pc' := 80) rfl (hb hby at_76) (by decide) (by decide) k
    have rc37 := rc36.retN hx hret (by simp) rfl (hb hby at_80)
    exact ⟨_, _, 1, 5, rfl, by decide, by decide, rc37⟩
  · have rd := r5
    have rd6 : OwnW s0 n0 7 #[.val (.int x0), .val (.int (3 : Int32)), .unset, .unset, .unset] [] h0 0 0 := rd.go fun T t X k => XS.istoreN X hx rfl (hb hby at_6) rfl (l' := #[.val (.int x0), .val (.int (3 : Int32)), .unset, .unset, .unset]) rfl k
    have rd7 : OwnW s0 n0 8 #[.val (.int x0), .val (.int (3 : Int32)), .unset, .unset, .unset] [(.int (3 : Int32))] h0 0 0 := rd6.go fun T t X k => XS.iloadN X hx rfl (hb hby at_7) rfl k
    obtain ⟨vrd8, hrd8, rd8, qrd8⟩ := rd7.callS hx hZ hown (hw _ (List.mem_of_getElem? (i := 1) rfl)) (hw _ (List.mem_of_getElem? (i := 2) rfl)) (hw _ (List.mem_of_getElem? (i := 3) rfl)) (hw _ (List.mem_of_getElem? (i := 4) rfl)) (by decide) (argsL := [(.int (3 : Int32))]) (own_pick3 l Z a0 hw k0 k1 k2 k3 k4 k5 k6 k7 h0 n0 En) [] 0 (by decide) (by decide) (by rw [hml]; rfl) (lenOf own_pd1 rfl) rfl (Nat.le_of_eq rfl) (hb hby at_8) (by decide) (by decide)
    obtain ⟨rfl, rfl⟩ := qrd8
    have rd8 : OwnW s0 n0 11 #[.val (.int x0), .val (.int (3 : Int32)), .unset, .unset, .unset] [(.ref k4)] h0 0 0 := rd8
    have rd9 : OwnW s0 n0 12 #[.val (.int x0), .val (.int (3 : Int32)), .val (.ref k4), .unset, .unset] [] h0 0 0 := rd8.go fun T t X k => XS.astoreN X hx rfl (hb hby at_11) rfl rfl (l' := #[.val (.int x0), .val (.int (3 : Int32)), .val (.ref k4), .unset, .unset]) rfl k
    obtain ⟨vrd10, hrd10, rd10, qrd10⟩ := rd9.callS hx hZ hown (hw _ (List.mem_of_getElem? (i := 8) rfl)) (hw _ (List.mem_of_getElem? (i := 9) rfl)) (hw _ (List.mem_of_getElem? (i := 6) rfl)) (hw _ (List.mem_of_getElem? (i := 10) rfl)) (by decide) (argsL := []) (own_esc l Z a0 hw k0 k1 k2 k3 k4 k5 k6 k7 h0 n0 En) [] 0 (by decide) (by decide) (by rw [hml]; rfl) (lenOf own_pd2 rfl) rfl (Nat.le_of_eq rfl) (hb hby at_12) (by decide) (by decide)
    obtain ⟨rfl, Ex⟩ := qrd10
    have rd10 : OwnW s0 n0 15 #[.val (.int x0), .val (.int (3 : Int32)), .val (.ref k4), .unset, .unset] [(.ref k3)] hrd10 1 5 := rd10
    have En1 := En.ext Ex
    have rd11 : OwnW s0 n0 16 #[.val (.int x0), .val (.int (3 : Int32)), .val (.ref k4), .val (.ref k3), .unset] [] hrd10 1 5 := rd10.go fun T t X k => XS.astoreN X hx rfl (hb hby at_15) rfl rfl (l' := #[.val (.int x0), .val (.int (3 : Int32)), .val (.ref k4), .val (.ref k3), .unset]) rfl k
    have rd12 : OwnW s0 n0 17 #[.val (.int x0), .val (.int (3 : Int32)), .val (.ref k4), .val (.ref k3), .unset] [(.ref k3)] hrd10 1 5 := rd11.go fun T t X k => XS.aloadN X hx rfl (hb hby at_16) rfl rfl k
    have rd13 : OwnW s0 n0 20 #[.val (.int x0), .val (.int (3 : Int32)), .val (.ref k4), .val (.ref k3), .unset] [(.ref k3), (.ref k3)] hrd10 1 5 := rd12.getS hx hZ hown (hw _ (List.mem_of_getElem? (i := 32) rfl)) En1.2.2.2.2.2.2.2.1 (hb hby at_17)
    have rd14 : OwnW s0 n0 25 #[.val (.int x0), .val (.int (3 : Int32)), .val (.ref k4), .val (.ref k3), .unset] [] hrd10 1 5 := rd13.goX fun T t ls X eT k => Jvm.RoadKit.acmp X hx rfl rfl rfl (pc0 := 20) (pc' := 25) (same := true) rfl (hb hby at_20) rfl (decide_eq_true rfl) (by decide) (by decide) k
    have rd15 : OwnW s0 n0 26 #[.val (.int x0), .val (.int (3 : Int32)), .val (.ref k4), .val (.ref k3), .unset] [(.ref k3)] hrd10 1 5 := rd14.go fun T t X k => XS.aloadN X hx rfl (hb hby at_25) rfl rfl k
    obtain ⟨vrd16, hrd16, rd16, qrd16⟩ := rd15.callV hx hZ hown (hw _ (List.mem_of_getElem? (i := 33) rfl)) (hw _ (List.mem_of_getElem? (i := 34) rfl)) (hw _ (List.mem_of_getElem? (i := 36) rfl)) (notFace_of_selects (args := #[]) (mvT hZ (hw _ (List.mem_of_getElem? (i := 36) rfl)))) (hw _ (List.mem_of_getElem? (i := 35) rfl)) (hw _ (List.mem_of_getElem? (i := 6) rfl)) (hw _ (List.mem_of_getElem? (i := 37) rfl)) (by decide) (a := k3) (argsL := []) En1.2.2.2.2.2.2.1 (own_ror l Z a0 hw k3 k0 hrd10 n0 En1.2.2.2.2.2.2.2.2.2.2.2.2.2.2.2.2.2.2.1) [] 0 (by decide) (by decide) (by rw [hml]; rfl) (lenOf own_pd2 rfl) rfl (Nat.le_of_eq rfl) (hb hby at_26) (by decide) (by decide)
    obtain ⟨rfl, rfl⟩ := qrd16
    have rd16 : OwnW s0 n0 29 #[.val (.int x0), .val (.int (3 : Int32)), .val (.ref k4), .val (.ref k3), .unset] [(.ref k0)] hrd10 1 5 := rd16
    have rd17 : OwnW s0 n0 32 #[.val (.int x0), .val (.int (3 : Int32)), .val (.ref k4), .val (.ref k3), .unset] [(.ref k0), (.ref k0)] hrd10 1 5 := rd16.getS hx hZ hown (hw _ (List.mem_of_getElem? (i := 5) rfl)) En1.2.1 (hb hby at_29)
    have rd18 : OwnW s0 n0 37 #[.val (.int x0), .val (.int (3 : Int32)), .val (.ref k4), .val (.ref k3), .unset] [] hrd10 1 5 := rd17.goX fun T t ls X eT k => Jvm.RoadKit.acmp X hx rfl rfl rfl (pc0 := 32) (pc' := 37) (same := true) rfl (hb hby at_32) rfl (decide_eq_true rfl) (by decide) (by decide) k
    have rd19 : OwnW s0 n0 38 #[.val (.int x0), .val (.int (3 : Int32)), .val (.ref k4), .val (.ref k3), .unset] [(.ref k3)] hrd10 1 5 := rd18.go fun T t X k => XS.aloadN X hx rfl (hb hby at_37) rfl rfl k
    obtain ⟨vrd20, hrd20, rd20, qrd20⟩ := rd19.callV hx hZ hown (hw _ (List.mem_of_getElem? (i := 38) rfl)) (hw _ (List.mem_of_getElem? (i := 39) rfl)) (hw _ (List.mem_of_getElem? (i := 41) rfl)) (notFace_of_selects (args := #[]) (mvT hZ (hw _ (List.mem_of_getElem? (i := 41) rfl)))) (hw _ (List.mem_of_getElem? (i := 40) rfl)) (hw _ (List.mem_of_getElem? (i := 6) rfl)) (hw _ (List.mem_of_getElem? (i := 42) rfl)) (by decide) (a := k3) (argsL := []) En1.2.2.2.2.2.2.1 (own_enr l Z a0 hw k3 k6 hrd10 n0 En1.2.2.2.2.2.2.2.2.2.2.2.2.2.2.2.2.2.2.2.1) [] 0 (by decide) (by decide) (by rw [hml]; rfl) (lenOf own_pd3 rfl) rfl (Nat.le_of_eq rfl) (hb hby at_38) (by decide) (by decide)
    obtain ⟨rfl, rfl⟩ := qrd20
    have rd20 : OwnW s0 n0 41 #[.val (.int x0), .val (.int (3 : Int32)), .val (.ref k4), .val (.ref k3), .unset] [(.ref k6)] hrd10 1 5 := rd20
    have rd21 : OwnW s0 n0 46 #[.val (.int x0), .val (.int (3 : Int32)), .val (.ref k4), .val (.ref k3), .unset] [] hrd10 1 5 := rd20.go fun T t X k => XS.ifnonnullYes X hx rfl (pc0 := 41) (pc' := 46) rfl (hb hby at_41) rfl (by decide) (by decide) k
    have rd22 : OwnW s0 n0 47 #[.val (.int x0), .val (.int (3 : Int32)), .val (.ref k4), .val (.ref k3), .unset] [(.ref k4)] hrd10 1 5 := rd21.go fun T t X k => XS.aloadN X hx rfl (hb hby at_46) rfl rfl k
    obtain ⟨vrd23, hrd23, rd23, qrd23⟩ := rd22.callV hx hZ hown (hw _ (List.mem_of_getElem? (i := 33) rfl)) (hw _ (List.mem_of_getElem? (i := 34) rfl)) (hw _ (List.mem_of_getElem? (i := 36) rfl)) (notFace_of_selects (args := #[]) (mvT hZ (hw _ (List.mem_of_getElem? (i := 36) rfl)))) (hw _ (List.mem_of_getElem? (i := 35) rfl)) (hw _ (List.mem_of_getElem? (i := 6) rfl)) (hw _ (List.mem_of_getElem? (i := 37) rfl)) (by decide) (a := k4) (argsL := []) En1.2.2.2.2.2.2.2.2.1 (own_ron l Z a0 hw k4 hrd10 n0 En1.2.2.2.2.2.2.2.2.2.2.2.2.2.2.2.2.2.2.2.2.2.2.1) [] 0 (by decide) (by decide) (by rw [hml]; rfl) (lenOf own_pd2 rfl) rfl (Nat.le_of_eq rfl) (hb hby at_47) (by decide) (by decide)
    obtain ⟨rfl, rfl⟩ := qrd23
    have rd23 : OwnW s0 n0 50 #[.val (.int x0), .val (.int (3 : Int32)), .val (.ref k4), .val (.ref k3), .unset] [.null] hrd10 1 5 := rd23
    have rd24 : OwnW s0 n0 57 #[.val (.int x0), .val (.int (3 : Int32)), .val (.ref k4), .val (.ref k3), .unset] [] hrd10 1 5 := rd23.go fun T t X k => XS.ifnullYes X hx rfl (pc0 := 50) (pc' := 57) rfl (hb hby at_50) rfl (by decide) (by decide) k
    have rd25 : OwnW s0 n0 58 #[.val (.int x0), .val (.int (3 : Int32)), .val (.ref k4), .val (.ref k3), .unset] [(.int (0 : Int32))] hrd10 1 5 := rd24.go fun T t X k => XS.iconst X hx rfl (hb hby at_57) k
    have rd26 : OwnW s0 n0 60 #[.val (.int x0), .val (.int (3 : Int32)), .val (.ref k4), .val (.ref k3), .val (.int (0 : Int32))] [] hrd10 1 5 := rd25.go fun T t X k => XS.istore X hx rfl (hb hby at_58) rfl (l' := #[.val (.int x0), .val (.int (3 : Int32)), .val (.ref k4), .val (.ref k3), .val (.int (0 : Int32))]) rfl k
    have rd27 : OwnW s0 n0 62 #[.val (.int x0), .val (.int (3 : Int32)), .val (.ref k4), .val (.ref k3), .val (.int (0 : Int32))] [(.int (0 : Int32))] hrd10 1 5 := rd26.go fun T t X k => XS.iload X hx rfl (hb hby at_60) rfl k
    have rd28 : OwnW s0 n0 63 #[.val (.int x0), .val (.int (3 : Int32)), .val (.ref k4), .val (.ref k3), .val (.int (0 : Int32))] [(.ref k4), (.int (0 : Int32))] hrd10 1 5 := rd27.go fun T t X k => XS.aloadN X hx rfl (hb hby at_62) rfl rfl k
    have rd29 : OwnW s0 n0 64 #[.val (.int x0), .val (.int (3 : Int32)), .val (.ref k4), .val (.ref k3), .val (.int (0 : Int32))] [(.ref k3), (.ref k4), (.int (0 : Int32))] hrd10 1 5 := rd28.go fun T t X k => XS.aloadN X hx rfl (hb hby at_63) rfl rfl k
    have rd30 : OwnW s0 n0 71 #[.val (.int x0), .val (.int (3 : Int32)), .val (.ref k4), .val (.ref k3), .val (.int (0 : Int32))] [(.int (0 : Int32))] hrd10 1 5 := rd29.goX fun T t ls X eT k => Jvm.RoadKit.acmp X hx rfl rfl rfl (pc0 := 64) (pc' := 71) (same := false) rfl (hb hby at_64) rfl (own_rne (own_ne En1.2.2.2.2.2.2.2.2.2.2.2.2.2.2.2.2.2.2.2.2.2.2.2.1 En1.2.2.2.2.2.2.2.2.2.2.2.2.2.2.2.2.2.2.2.2.2.1 (by decide))) (by decide) (by decide) k
    have rd31 : OwnW s0 n0 72 #[.val (.int x0), .val (.int (3 : Int32)), .val (.ref k4), .val (.ref k3), .val (.int (0 : Int32))] [(.int (0 : Int32)), (.int (0 : Int32))] hrd10 1 5 := rd30.go fun T t X k => XS.iconst X hx rfl (hb hby at_71) k
    have rd32 : OwnW s0 n0 75 #[.val (.int x0), .val (.int (3 : Int32)), .val (.ref k4), .val (.ref k3), .val (.int (0 : Int32))] [] hrd10 1 5 := rd31.go fun T t X k => XS.icmpNo X hx rfl (hb hby at_72) rfl (teq rfl).2 k
    have rd33 : OwnW s0 n0 76 #[.val (.int x0), .val (.int (3 : Int32)), .val (.ref k4), .val (.ref k3), .val (.int (0 : Int32))] [(.int (1 : Int32))] hrd10 1 5 := rd32.go fun T t X k => XS.iconst X hx rfl (hb hby at_75) k
    have rd34 : OwnW s0 n0 80 #[.val (.int x0), .val (.int (3 : Int32)), .val (.ref k4), .val (.ref k3), .val (.int (0 : Int32))] [(.int (1 : Int32))] hrd10 1 5 := rd33.go fun T t X k => XS.goto X hx rfl (pc0 := 76) (pc' := 80) rfl (hb hby at_76) (by decide) (by decide) k
    have rd35 := rd34.retN hx hret (by simp) rfl (hb hby at_80)
    exact ⟨_, _, 1, 5, rfl, by decide, by decide, rd35⟩
  · have re := r5
    have re6 : OwnW s0 n0 7 #[.val (.int x0), .val (.int (4 : Int32)), .unset, .unset, .unset] [] h0 0 0 := re.go fun T t X k => XS.istoreN X hx rfl (hb hby at_6) rfl (l' := #[.val (.int x0), .val (.int (4 : Int32)), .unset, .unset, .unset]) rfl k
    have re7 : OwnW s0 n0 8 #[.val (.int x0), .val (.int (4 : Int32)), .unset, .unset, .unset] [(.int (4 : Int32))] h0 0 0 := re6.go fun T t X k => XS.iloadN X hx rfl (hb hby at_7) rfl k
    obtain ⟨vre8, hre8, re8, qre8⟩ := re7.callS hx hZ hown (hw _ (List.mem_of_getElem? (i := 1) rfl)) (hw _ (List.mem_of_getElem? (i := 2) rfl)) (hw _ (List.mem_of_getElem? (i := 3) rfl)) (hw _ (List.mem_of_getElem? (i := 4) rfl)) (by decide) (argsL := [(.int (4 : Int32))]) (own_pick4 l Z a0 hw k0 k1 k2 k3 k4 k5 k6 k7 h0 n0 En) [] 0 (by decide) (by decide) (by rw [hml]; rfl) (lenOf own_pd1 rfl) rfl (Nat.le_of_eq rfl) (hb hby at_8) (by decide) (by decide)
    obtain ⟨rfl, rfl⟩ := qre8
    have re8 : OwnW s0 n0 11 #[.val (.int x0), .val (.int (4 : Int32)), .unset, .unset, .unset] [(.ref k5)] h0 0 0 := re8
    have re9 : OwnW s0 n0 12 #[.val (.int x0), .val (.int (4 : Int32)), .val (.ref k5), .unset, .unset] [] h0 0 0 := re8.go fun T t X k => XS.astoreN X hx rfl (hb hby at_11) rfl rfl (l' := #[.val (.int x0), .val (.int (4 : Int32)), .val (.ref k5), .unset, .unset]) rfl k
    obtain ⟨vre10, hre10, re10, qre10⟩ := re9.callS hx hZ hown (hw _ (List.mem_of_getElem? (i := 8) rfl)) (hw _ (List.mem_of_getElem? (i := 9) rfl)) (hw _ (List.mem_of_getElem? (i := 6) rfl)) (hw _ (List.mem_of_getElem? (i := 10) rfl)) (by decide) (argsL := []) (own_esc l Z a0 hw k0 k1 k2 k3 k4 k5 k6 k7 h0 n0 En) [] 0 (by decide) (by decide) (by rw [hml]; rfl) (lenOf own_pd2 rfl) rfl (Nat.le_of_eq rfl) (hb hby at_12) (by decide) (by decide)
    obtain ⟨rfl, Ex⟩ := qre10
    have re10 : OwnW s0 n0 15 #[.val (.int x0), .val (.int (4 : Int32)), .val (.ref k5), .unset, .unset] [(.ref k3)] hre10 1 5 := re10
    have En1 := En.ext Ex
    have re11 : OwnW s0 n0 16 #[.val (.int x0), .val (.int (4 : Int32)), .val (.ref k5), .val (.ref k3), .unset] [] hre10 1 5 := re10.go fun T t X k => XS.astoreN X hx rfl (hb hby at_15) rfl rfl (l' := #[.val (.int x0), .val (.int (4 : Int32)), .val (.ref k5), .val (.ref k3), .unset]) rfl k
    have re12 : OwnW s0 n0 17 #[.val (.int x0), .val (.int (4 : Int32)), .val (.ref k5), .val (.ref k3), .unset] [(.ref k3)] hre10 1 5 := re11.go fun T t X k => XS.aloadN X hx rfl (hb hby at_16) rfl rfl k
    have re13 : OwnW s0 n0 20 #[.val (.int x0), .val (.int (4 : Int32)), .val (.ref k5), .val (.ref k3), .unset] [(.ref k3), (.ref k3)] hre10 1 5 := re12.getS hx hZ hown (hw _ (List.mem_of_getElem? (i := 32) rfl)) En1.2.2.2.2.2.2.2.1 (hb hby at_17)
    have re14 : OwnW s0 n0 25 #[.val (.int x0), .val (.int (4 : Int32)), .val (.ref k5), .val (.ref k3), .unset] [] hre10 1 5 := re13.goX fun T t ls X eT k => Jvm.RoadKit.acmp X hx rfl rfl rfl (pc0 := 20) (pc' := 25) (same := true) rfl (hb hby at_20) rfl (decide_eq_true rfl) (by decide) (by decide) k
    have re15 : OwnW s0 n0 26 #[.val (.int x0), .val (.int (4 : Int32)), .val (.ref k5), .val (.ref k3), .unset] [(.ref k3)] hre10 1 5 := re14.go fun T t X k => XS.aloadN X hx rfl (hb hby at_25) rfl rfl k
    obtain ⟨vre16, hre16, re16, qre16⟩ := re15.callV hx hZ hown (hw _ (List.mem_of_getElem? (i := 33) rfl)) (hw _ (List.mem_of_getElem? (i := 34) rfl)) (hw _ (List.mem_of_getElem? (i := 36) rfl)) (notFace_of_selects (args := #[]) (mvT hZ (hw _ (List.mem_of_getElem? (i := 36) rfl)))) (hw _ (List.mem_of_getElem? (i := 35) rfl)) (hw _ (List.mem_of_getElem? (i := 6) rfl)) (hw _ (List.mem_of_getElem? (i := 37) rfl)) (by decide) (a := k3) (argsL := []) En1.2.2.2.2.2.2.1 (own_ror l Z a0 hw k3 k0 hre10 n0 En1.2.2.2.2.2.2.2.2.2.2.2.2.2.2.2.2.2.2.1) [] 0 (by decide) (by decide) (by rw [hml]; rfl) (lenOf own_pd2 rfl) rfl (Nat.le_of_eq rfl) (hb hby at_26) (by decide) (by decide)
    obtain ⟨rfl, rfl⟩ := qre16
    have re16 : OwnW s0 n0 29 #[.val (.int x0), .val (.int (4 : Int32)), .val (.ref k5), .val (.ref k3), .unset] [(.ref k0)] hre10 1 5 := re16
    have re17 : OwnW s0 n0 32 #[.val (.int x0), .val (.int (4 : Int32)), .val (.ref k5), .val (.ref k3), .unset] [(.ref k0), (.ref k0)] hre10 1 5 := re16.getS hx hZ hown (hw _ (List.mem_of_getElem? (i := 5) rfl)) En1.2.1 (hb hby at_29)
    have re18 : OwnW s0 n0 37 #[.val (.int x0), .val (.int (4 : Int32)), .val (.ref k5), .val (.ref k3), .unset] [] hre10 1 5 := re17.goX fun T t ls X eT k => Jvm.RoadKit.acmp X hx rfl rfl rfl (pc0 := 32) (pc' := 37) (same := true) rfl (hb hby at_32) rfl (decide_eq_true rfl) (by decide) (by decide) k
    have re19 : OwnW s0 n0 38 #[.val (.int x0), .val (.int (4 : Int32)), .val (.ref k5), .val (.ref k3), .unset] [(.ref k3)] hre10 1 5 := re18.go fun T t X k => XS.aloadN X hx rfl (hb hby at_37) rfl rfl k
    obtain ⟨vre20, hre20, re20, qre20⟩ := re19.callV hx hZ hown (hw _ (List.mem_of_getElem? (i := 38) rfl)) (hw _ (List.mem_of_getElem? (i := 39) rfl)) (hw _ (List.mem_of_getElem? (i := 41) rfl)) (notFace_of_selects (args := #[]) (mvT hZ (hw _ (List.mem_of_getElem? (i := 41) rfl)))) (hw _ (List.mem_of_getElem? (i := 40) rfl)) (hw _ (List.mem_of_getElem? (i := 6) rfl)) (hw _ (List.mem_of_getElem? (i := 42) rfl)) (by decide) (a := k3) (argsL := []) En1.2.2.2.2.2.2.1 (own_enr l Z a0 hw k3 k6 hre10 n0 En1.2.2.2.2.2.2.2.2.2.2.2.2.2.2.2.2.2.2.2.1) [] 0 (by decide) (by decide) (by rw [hml]; rfl) (lenOf own_pd3 rfl) rfl (Nat.le_of_eq rfl) (hb hby at_38) (by decide) (by decide)
    obtain ⟨rfl, rfl⟩ := qre20
    have re20 : OwnW s0 n0 41 #[.val (.int x0), .val (.int (4 : Int32)), .val (.ref k5), .val (.ref k3), .unset] [(.ref k6)] hre10 1 5 := re20
    have re21 : OwnW s0 n0 46 #[.val (.int x0), .val (.int (4 : Int32)), .val (.ref k5), .val (.ref k3), .unset] [] hre10 1 5 := re20.go fun T t X k => XS.ifnonnullYes X hx rfl (pc0 := 41) (pc' := 46) rfl (hb hby at_41) rfl (by decide) (by decide) k
    have re22 : OwnW s0 n0 47 #[.val (.int x0), .val (.int (4 : Int32)), .val (.ref k5), .val (.ref k3), .unset] [(.ref k5)] hre10 1 5 := re21.go fun T t X k => XS.aloadN X hx rfl (hb hby at_46) rfl rfl k
    obtain ⟨vre23, hre23, re23, qre23⟩ := re22.callV hx hZ hown (hw _ (List.mem_of_getElem? (i := 33) rfl)) (hw _ (List.mem_of_getElem? (i := 34) rfl)) (hw _ (List.mem_of_getElem? (i := 36) rfl)) (notFace_of_selects (args := #[]) (mvT hZ (hw _ (List.mem_of_getElem? (i := 36) rfl)))) (hw _ (List.mem_of_getElem? (i := 35) rfl)) (hw _ (List.mem_of_getElem? (i := 6) rfl)) (hw _ (List.mem_of_getElem? (i := 37) rfl)) (by decide) (a := k5) (argsL := []) En1.2.2.2.2.2.2.2.2.2.2.1 (own_ron l Z a0 hw k5 hre10 n0 En1.2.2.2.2.2.2.2.2.2.2.2.2.2.2.2.2.2.2.2.2.2.2.2.2.2.1) [] 0 (by decide) (by decide) (by rw [hml]; rfl) (lenOf own_pd2 rfl) rfl (Nat.le_of_eq rfl) (hb hby at_47) (by decide) (by decide)
    obtain ⟨rfl, rfl⟩ := qre23
    have re23 : OwnW s0 n0 50 #[.val (.int x0), .val (.int (4 : Int32)), .val (.ref k5), .val (.ref k3), .unset] [.null] hre10 1 5 := re23
    have re24 : OwnW s0 n0 57 #[.val (.int x0), .val (.int (4 : Int32)), .val (.ref k5), .val (.ref k3), .unset] [] hre10 1 5 := re23.go fun T t X k => XS.ifnullYes X hx rfl (pc0 := 50) (pc' := 57) rfl (hb hby at_50) rfl (by decide) (by decide) k
    have re25 : OwnW s0 n0 58 #[.val (.int x0), .val (.int (4 : Int32)), .val (.ref k5), .val (.ref k3), .unset] [(.int (0 : Int32))] hre10 1 5 := re24.go fun T t X k => XS.iconst X hx rfl (hb hby at_57) k
    have re26 : OwnW s0 n0 60 #[.val (.int x0), .val (.int (4 : Int32)), .val (.ref k5), .val (.ref k3), .val (.int (0 : Int32))] [] hre10 1 5 := re25.go fun T t X k => XS.istore X hx rfl (hb hby at_58) rfl (l' := #[.val (.int x0), .val (.int (4 : Int32)), .val (.ref k5), .val (.ref k3), .val (.int (0 : Int32))]) rfl k
    have re27 : OwnW s0 n0 62 #[.val (.int x0), .val (.int (4 : Int32)), .val (.ref k5), .val (.ref k3), .val (.int (0 : Int32))] [(.int (0 : Int32))] hre10 1 5 := re26.go fun T t X k => XS.iload X hx rfl (hb hby at_60) rfl k
    have re28 : OwnW s0 n0 63 #[.val (.int x0), .val (.int (4 : Int32)), .val (.ref k5), .val (.ref k3), .val (.int (0 : Int32))] [(.ref k5), (.int (0 : Int32))] hre10 1 5 := re27.go fun T t X k => XS.aloadN X hx rfl (hb hby at_62) rfl rfl k
    have re29 : OwnW s0 n0 64 #[.val (.int x0), .val (.int (4 : Int32)), .val (.ref k5), .val (.ref k3), .val (.int (0 : Int32))] [(.ref k3), (.ref k5), (.int (0 : Int32))] hre10 1 5 := re28.go fun T t X k => XS.aloadN X hx rfl (hb hby at_63) rfl rfl k
    have re30 : OwnW s0 n0 71 #[.val (.int x0), .val (.int (4 : Int32)), .val (.ref k5), .val (.ref k3), .val (.int (0 : Int32))] [(.int (0 : Int32))] hre10 1 5 := re29.goX fun T t ls X eT k => Jvm.RoadKit.acmp X hx rfl rfl rfl (pc0 := 64) (pc' := 71) (same := false) rfl (hb hby at_64) rfl (own_rne (own_ne En1.2.2.2.2.2.2.2.2.2.2.2.2.2.2.2.2.2.2.2.2.2.2.2.2.2.2.1 En1.2.2.2.2.2.2.2.2.2.2.2.2.2.2.2.2.2.2.2.2.2.1 (by decide))) (by decide) (by decide) k
    have re31 : OwnW s0 n0 72 #[.val (.int x0), .val (.int (4 : Int32)), .val (.ref k5), .val (.ref k3), .val (.int (0 : Int32))] [(.int (0 : Int32)), (.int (0 : Int32))] hre10 1 5 := re30.go fun T t X k => XS.iconst X hx rfl (hb hby at_71) k
    have re32 : OwnW s0 n0 75 #[.val (.int x0), .val (.int (4 : Int32)), .val (.ref k5), .val (.ref k3), .val (.int (0 : Int32))] [] hre10 1 5 := re31.go fun T t X k => XS.icmpNo X hx rfl (hb hby at_72) rfl (teq rfl).2 k
    have re33 : OwnW s0 n0 76 #[.val (.int x0), .val (.int (4 : Int32)), .val (.ref k5), .val (.ref k3), .val (.int (0 : Int32))] [(.int (1 : Int32))] hre10 1 5 := re32.go fun T t X k => XS.iconst X hx rfl (hb hby at_75) k
    have re34 : OwnW s0 n0 80 #[.val (.int x0), .val (.int (4 : Int32)), .val (.ref k5), .val (.ref k3), .val (.int (0 : Int32))] [(.int (1 : Int32))] hre10 1 5 := re33.go fun T t X k => XS.goto X hx rfl (pc0 := 76) (pc' := 80) rfl (hb hby at_76) (by decide) (by decide) k
    have re35 := re34.retN hx hret (by simp) rfl (hb hby at_80)
    exact ⟨_, _, 1, 5, rfl, by decide, by decide, re35⟩
set_option maxRecDepth 65536 in
set_option maxHeartbeats 40000000 in
theorem comes_1 {Post : Tables → Env → Array Value → State → Outcome → State → Prop} (hpost : ∀ tb e args s v u, (limb_1_1.after args s (.returned v) u = true ∧ limb_1_2.after args s (.returned v) u = true ∧ True) → FrameEnd s (.returned v) u (Jvm.fieldLocs frame_1_writes args s ++ Jvm.arrayLocs frame_1_arrays args s ++ Jvm.staticLocs frame_1_statics s) 16 128 → Post tb e args s (.returned v) u) :
    ArmFor flags0 classFile x code maxLocals ret World_1 tables_1 room_1 Calls_1 rest_1 Pre_1 Post := by
  intro l hfl _ _ p e ha hc hk s m args below hf hA hF happ hP
  obtain ⟨hcalls, hrest, hpre⟩ := hP
  obtain ⟨-, -, -, hnamed, -, -, -, hat⟩ := (Spec.applies_iff hf).mp happ
  obtain ⟨hg, hn⟩ := and_e (Cond.before_iff.mp (show (Jvm.Cond.and given_1 narrow_1).before args s = true from hpre))
  obtain ⟨g0, t0⟩ := and_e hg
  obtain ⟨w0, rfl⟩ : ∃ w0 : Value, args = #[w0] := by
    have hs : args.size = 1 := by simpa [Cond.value, given_1] using g0
    obtain ⟨L⟩ := args
    match L, hs with
    | [w0], _ => exact ⟨w0, rfl⟩
  have hw := fun d (hd : d ∈ tables_1) => atoms_spec (ws := Jvm.Cond.code x code maxLocals ret :: tables_1) hat d (List.mem_cons_of_mem _ hd)
  have hfit : Fit s := fun {y c} hc i hi => by
    obtain ⟨ha, rfl⟩ := Array.getElem?_eq_some_iff.mp hc
    have q := List.all_eq_true.mp ((Array.all_eq_true_iff_forall_mem.mp hF) _ (Array.getElem_mem ha)) i (List.mem_range.mpr hi)
    simpa [Array.getElem?_eq_getElem hi] using q
  obtain ⟨i0, e0⟩ := is_v t0
  obtain rfl : w0 = (.int i0) := Option.some.inj e0
  obtain ⟨n0, hn0⟩ := and_e hn
  obtain ⟨n1, hn1⟩ := and_e hn0
  obtain ⟨n2, hn2⟩ := and_e hn1
  obtain ⟨n3, hn3⟩ := and_e hn2
  obtain ⟨n4, hn4⟩ := and_e hn3
  obtain ⟨n5, hn5⟩ := and_e hn4
  obtain ⟨n6, hn6⟩ := and_e hn5
  obtain ⟨n7, hn7⟩ := and_e hn6
  obtain ⟨n8, hn8⟩ := and_e hn7
  obtain ⟨n9, hn9⟩ := and_e hn8
  obtain ⟨n10, hn10⟩ := and_e hn9
  obtain ⟨n11, hn11⟩ := and_e hn10
  obtain ⟨n12, hn12⟩ := and_e hn11
  obtain ⟨n13, hn13⟩ := and_e hn12
  obtain ⟨n14, hn14⟩ := and_e hn13
  obtain ⟨n15, hn15⟩ := and_e hn14
  obtain ⟨n16, hn16⟩ := and_e hn15
  obtain ⟨n17, hn17⟩ := and_e hn16
  obtain ⟨n18, hn18⟩ := and_e hn17
  obtain ⟨n19, hn19⟩ := and_e hn18
  obtain ⟨n20, hn20⟩ := and_e hn19
  obtain ⟨n21, hn21⟩ := and_e hn20
  obtain ⟨n22, hn22⟩ := and_e hn21
  obtain ⟨n23, hn23⟩ := and_e hn22
  obtain ⟨n24, hn24⟩ := and_e hn23
  obtain ⟨n25, hn25⟩ := and_e hn24
  obtain ⟨n26, hn26⟩ := and_e hn25
  obtain ⟨n27, hn27⟩ := and_e hn26
  obtain ⟨n28, hn28⟩ := and_e hn27
  have n29 := hn28
  obtain ⟨k0, ek0⟩ := exa_v n0
  have Xk0 : Exa s s.heap k0 "com/example/ample_proof/ampleproof/disputes/DisputeStatus" := Exa.start ek0 n0
  have Sk0 : Sta s s.heap "com/example/ample_proof/ampleproof/disputes/DisputeStatus" "OPEN" "Lcom/example/ample_proof/ampleproof/disputes/DisputeStatus;" (.ref k0) := Sta.start ek0 (Or.inr ⟨(hw _ (List.mem_of_getElem? (i := 6) rfl)), (hw _ (List.mem_of_getElem? (i := 7) rfl))⟩)
  obtain ⟨k1, ek1⟩ := exa_v n2
  have Xk1 : Exa s s.heap k1 "[Lcom/example/ample_proof/ampleproof/disputes/DisputeStatus;" := Exa.start ek1 n2
  have Sk1 : Sta s s.heap "com/example/ample_proof/ampleproof/disputes/DisputeStatus" "$VALUES" "[Lcom/example/ample_proof/ampleproof/disputes/DisputeStatus;" (.ref k1) := Sta.start ek1 (Or.inl (hw _ (List.mem_of_getElem? (i := 27) rfl)))
  obtain ⟨k2, ek2⟩ := exa_v n5
  have Xk2 : Exa s s.heap k2 "com/example/ample_proof/ampleproof/disputes/DisputeStatus" := Exa.start ek2 n5
  have Sk2 : Sta s s.heap "com/example/ample_proof/ampleproof/disputes/DisputeStatus" "UNDER_REVIEW" "Lcom/example/ample_proof/ampleproof/disputes/DisputeStatus;" (.ref k2) := Sta.start ek2 (Or.inr ⟨(hw _ (List.mem_of_getElem? (i := 6) rfl)), (hw _ (List.mem_of_getElem? (i := 23) rfl))⟩)
  obtain ⟨k3, ek3⟩ := exa_v n7
  have Xk3 : Exa s s.heap k3 "com/example/ample_proof/ampleproof/disputes/DisputeStatus" := Exa.start ek3 n7
  have Sk3 : Sta s s.heap "com/example/ample_proof/ampleproof/disputes/DisputeStatus" "WON" "Lcom/example/ample_proof/ampleproof/disputes/DisputeStatus;" (.ref k3) := Sta.start ek3 (Or.inr ⟨(hw _ (List.mem_of_getElem? (i := 6) rfl)), (hw _ (List.mem_of_getElem? (i := 24) rfl))⟩)
  obtain ⟨k4, ek4⟩ := exa_v n9
  have Xk4 : Exa s s.heap k4 "com/example/ample_proof/ampleproof/disputes/DisputeStatus" := Exa.start ek4 n9
  have Sk4 : Sta s s.heap "com/example/ample_proof/ampleproof/disputes/DisputeStatus" "LOST" "Lcom/example/ample_proof/ampleproof/disputes/DisputeStatus;" (.ref k4) := Sta.start ek4 (Or.inr ⟨(hw _ (List.mem_of_getElem? (i := 6) rfl)), (hw _ (List.mem_of_getElem? (i := 25) rfl))⟩)
  obtain ⟨k5, ek5⟩ := exa_v n11
  have Xk5 : Exa s s.heap k5 "com/example/ample_proof/ampleproof/disputes/DisputeStatus" := Exa.start ek5 n11
  have Sk5 : Sta s s.heap "com/example/ample_proof/ampleproof/disputes/DisputeStatus" "CLOSED" "Lcom/example/ample_proof/ampleproof/disputes/DisputeStatus;" (.ref k5) := Sta.start ek5 (Or.inr ⟨(hw _ (List.mem_of_getElem? (i := 6) rfl)), (hw _ (List.mem_of_getElem? (i := 26) rfl))⟩)
  obtain ⟨k6, ek6⟩ := exa_v n16
  have Xk6 : Exa s s.heap k6 "com/example/ample_proof/ampleproof/keys/Scope" := Exa.start ek6 n16
  have Sk6 : Sta s s.heap "com/example/ample_proof/ampleproof/keys/Scope" "DISPUTES_OUTCOME" "Lcom/example/ample_proof/ampleproof/keys/Scope;" (.ref k6) := Sta.start ek6 (Or.inr ⟨(hw _ (List.mem_of_getElem? (i := 45) rfl)), (hw _ (List.mem_of_getElem? (i := 46) rfl))⟩)
  obtain ⟨k7, ek7⟩ := exa_v n28
  have Xk7 : Exa s s.heap k7 "com/example/ample_proof/ampleproof/keys/Scope" := Exa.start ek7 n28
  have Sk7 : Sta s s.heap "com/example/ample_proof/ampleproof/keys/Scope" "DISPUTES_WRITE" "Lcom/example/ample_proof/ampleproof/keys/Scope;" (.ref k7) := Sta.start ek7 (Or.inr ⟨(hw _ (List.mem_of_getElem? (i := 45) rfl)), (hw _ (List.mem_of_getElem? (i := 50) rfl))⟩)
  obtain ⟨clk1, Ak1⟩ := Arr.start ek1 n1
  have zk1 := own_len ek1 (Ak1.fin (Vm.Alike.refl _)) (own_eqv (Or.inr (Or.inr ⟨_, rfl⟩)) (Term.int_eval _) n3)
  have vk1_0 : clk1.slots[0]? = some (.ref k0) := (elem_in (own_eqv (Or.inr (Or.inl ⟨_, rfl⟩)) ek0 n4) ek1 (Term.int_eval _) Ak1.1).2
  have vk1_1 : clk1.slots[1]? = some (.ref k2) := (elem_in (own_eqv (Or.inr (Or.inl ⟨_, rfl⟩)) ek2 n6) ek1 (Term.int_eval _) Ak1.1).2
  have vk1_2 : clk1.slots[2]? = some (.ref k3) := (elem_in (own_eqv (Or.inr (Or.inl ⟨_, rfl⟩)) ek3 n8) ek1 (Term.int_eval _) Ak1.1).2
  have vk1_3 : clk1.slots[3]? = some (.ref k4) := (elem_in (own_eqv (Or.inr (Or.inl ⟨_, rfl⟩)) ek4 n10) ek1 (Term.int_eval _) Ak1.1).2
  have vk1_4 : clk1.slots[4]? = some (.ref k5) := (elem_in (own_eqv (Or.inr (Or.inl ⟨_, rfl⟩)) ek5 n12) ek1 (Term.int_eval _) Ak1.1).2
  have Fk0_reopensIn : Fld s s.heap k0 "com/example/ample_proof/ampleproof/disputes/DisputeStatus" "reopensIn" "Lcom/example/ample_proof/ampleproof/disputes/DisputeStatus;" .null := Fld.start ((fld_at ek0).symm.trans (own_eqv (Or.inl rfl) null_at n13))
  have Fk2_reopensIn : Fld s s.heap k2 "com/example/ample_proof/ampleproof/disputes/DisputeStatus" "reopensIn" "Lcom/example/ample_proof/ampleproof/disputes/DisputeStatus;" .null := Fld.start ((fld_at ek2).symm.trans (own_eqv (Or.inl rfl) null_at n14))
  have Fk3_reopensIn : Fld s s.heap k3 "com/example/ample_proof/ampleproof/disputes/DisputeStatus" "reopensIn" "Lcom/example/ample_proof/ampleproof/disputes/DisputeStatus;" (.ref k0) := Fld.start ((fld_at ek3).symm.trans (own_eqv (Or.inr (Or.inl ⟨_, rfl⟩)) ek0 n15))
  have Fk3_endedWith : Fld s s.heap k3 "com/example/ample_proof/ampleproof/disputes/DisputeStatus" "endedWith" "Lcom/example/ample_proof/ampleproof/keys/Scope;" (.ref k6) := Fld.start ((fld_at ek3).symm.trans (own_eqv (Or.inr (Or.inl ⟨_, rfl⟩)) ek6 n17))
  have Fk0_ordinal : Fld s s.heap k0 "java/lang/Enum" "ordinal" "I" (.int (0 : Int32)) := Fld.start ((fld_at ek0).symm.trans (own_eqv (Or.inr (Or.inr ⟨_, rfl⟩)) (Term.int_eval _) n18))
  have Fk3_ordinal : Fld s s.heap k3 "java/lang/Enum" "ordinal" "I" (.int (2 : Int32)) := Fld.start ((fld_at ek3).symm.trans (own_eqv (Or.inr (Or.inr ⟨_, rfl⟩)) (Term.int_eval _) n19))
  have Fk4_reopensIn : Fld s s.heap k4 "com/example/ample_proof/ampleproof/disputes/DisputeStatus" "reopensIn" "Lcom/example/ample_proof/ampleproof/disputes/DisputeStatus;" .null := Fld.start ((fld_at ek4).symm.trans (own_eqv (Or.inl rfl) null_at n20))
  have Fk4_ordinal : Fld s s.heap k4 "java/lang/Enum" "ordinal" "I" (.int (3 : Int32)) := Fld.start ((fld_at ek4).symm.trans (own_eqv (Or.inr (Or.inr ⟨_, rfl⟩)) (Term.int_eval _) n21))
  have Fk2_ordinal : Fld s s.heap k2 "java/lang/Enum" "ordinal" "I" (.int (1 : Int32)) := Fld.start ((fld_at ek2).symm.trans (own_eqv (Or.inr (Or.inr ⟨_, rfl⟩)) (Term.int_eval _) n22))
  have Fk5_reopensIn : Fld s s.heap k5 "com/example/ample_proof/ampleproof/disputes/DisputeStatus" "reopensIn" "Lcom/example/ample_proof/ampleproof/disputes/DisputeStatus;" .null := Fld.start ((fld_at ek5).symm.trans (own_eqv (Or.inl rfl) null_at n23))
  have Fk5_ordinal : Fld s s.heap k5 "java/lang/Enum" "ordinal" "I" (.int (4 : Int32)) := Fld.start ((fld_at ek5).symm.trans (own_eqv (Or.inr (Or.inr ⟨_, rfl⟩)) (Term.int_eval _) n24))
  have Fk0_endedWith : Fld s s.heap k0 "com/example/ample_proof/ampleproof/disputes/DisputeStatus" "endedWith" "Lcom/example/ample_proof/ampleproof/keys/Scope;" .null := Fld.start ((fld_at ek0).symm.trans (own_eqv (Or.inl rfl) null_at n25))
  have Fk2_endedWith : Fld s s.heap k2 "com/example/ample_proof/ampleproof/disputes/DisputeStatus" "endedWith" "Lcom/example/ample_proof/ampleproof/keys/Scope;" .null := Fld.start ((fld_at ek2).symm.trans (own_eqv (Or.inl rfl) null_at n26))
  have Fk4_endedWith : Fld s s.heap k4 "com/example/ample_proof/ampleproof/disputes/DisputeStatus" "endedWith" "Lcom/example/ample_proof/ampleproof/keys/Scope;" (.ref k6) := Fld.start ((fld_at ek4).symm.trans (own_eqv (Or.inr (Or.inl ⟨_, rfl⟩)) ek6 n27))
  have Fk5_endedWith : Fld s s.heap k5 "com/example/ample_proof/ampleproof/disputes/DisputeStatus" "endedWith" "Lcom/example/ample_proof/ampleproof/keys/Scope;" (.ref k7) := Fld.start ((fld_at ek5).symm.trans (own_eqv (Or.inr (Or.inl ⟨_, rfl⟩)) ek7 n29))
  have Vk1 : OwnAr s s.heap k1 (Jvm.ClassFile.FieldType.object "com/example/ample_proof/ampleproof/disputes/DisputeStatus") [(.ref k0), (.ref k2), (.ref k3), (.ref k4), (.ref k5)] := ⟨clk1, Ak1, own_list zk1 (fun i hi => match i, hi with | 0, _ => vk1_0 | 1, _ => vk1_1 | 2, _ => vk1_2 | 3, _ => vk1_3 | 4, _ => vk1_4 | i + 5, hi => absurd hi (by simp))⟩
  have En : OwnEn s s.heap k0 k1 k2 k3 k4 k5 k6 k7 := ⟨Xk0, Sk0, Xk1, Sk1, Xk2, Sk2, Xk3, Sk3, Xk4, Sk4, Xk5, Sk5, Xk6, Sk6, Xk7, Sk7, Fk0_reopensIn, Fk2_reopensIn, Fk3_reopensIn, Fk3_endedWith, Fk0_ordinal, Fk3_ordinal, Fk4_reopensIn, Fk4_ordinal, Fk2_ordinal, Fk5_reopensIn, Fk5_ordinal, Fk0_endedWith, Fk2_endedWith, Fk4_endedWith, Fk5_endedWith, Vk1⟩
  obtain ⟨n, o, h1, h2, h3, _, L, rfl, ⟨N, rfl⟩, hq⟩ := own_law l s _ hw i0 k0 k1 k2 k3 k4 k5 k6 k7 s.heap s.heap.size En tables_1 p e ha hc hk s m _ below hf ((Spec.applies_iff_loose hf).mp happ).1 ⟨rfl, State.Warmed39.refl s, rfl⟩ trivial
  refine ⟨n, _, h1, h2, h3, hpost _ _ _ _ _ _ ⟨Cond.after_iff.mpr rfl, Cond.after_iff.mpr (eq_i res_at (Term.int_eval (1)) rfl), trivial⟩ ⟨hq.1, hq.2.1, (hq.2.2.sift fun y hy => Or.inr (N y hy)).mono (by decide) (by decide)⟩⟩
theorem main_1_1 : Claimed_1_1 := comes_1 fun _ _ _ _ _ _ h hF => ⟨h.1, hF⟩
theorem main_1_2 : Claimed_1_2 := comes_1 fun _ _ _ _ _ _ h hF => ⟨h.2.1, hF⟩
end Jvm.Pilot.@@N@@
namespace Jvm.Pilot.@@N@@
open Jvm Jvm.ClassFile Sem Op Lib Jvm.Free Jvm.Stand Jvm.Pilot.@@N@@.Jvm.D
/-! MADE BY PROGRAM (witnessworld.py) out of the Statement's table words and the real class files: 14 classes; the members and pool entries that the words name. The judged class is class 1, her method 2. -/
namespace start1
open Jvm.ClassFile
def u (s : String) : CpInfo := .utf8 (stringToUtf16 s)
/-- a pool by its gaps: so many unusable entries, then the entry; so many at the end -/
def gap : Nat → List CpInfo → List CpInfo
  | 0, r => r
  | n + 1, r => .unusable :: gap n r
def poolList (es : List (Nat × CpInfo)) (last : Nat) : List CpInfo := es.foldr (fun e r => gap e.1 (e.2 :: r)) (gap last [])
def pool (es : List (Nat × CpInfo)) (last : Nat) : Array CpInfo := ⟨poolList es last⟩
def fileOf (pool : Array CpInfo) (this : Nat) (attrs : Array Attribute := #[]) (ms : Array MethodInfo := #[]) (fl : Nat := 33) (sup : Nat := 0) (ifs : Array Nat := #[]) (fds : Array FieldInfo := #[]) : ClassFile where
  minorVersion := 0
  majorVersion := 65
  constantPool := pool
  accessFlags := fl
  thisClass := this
  superClass := sup
  interfaces := ifs
  fields := fds
  methods := ms
  attributes := attrs
def plain (name : String) (sup : Option ClassId) : Class where
  name := name
  kind := .ordinary
  loader := none
  accessFlags := 33
  super := sup
  interfaces := #[]
  cf := none
  fields := #[]
  methods := #[]
  instanceTypes := #[]
  staticTypes := #[]
  resolved := #[]
  callSites := []
  init := .initialized
  statics := none
  mirror := none

def pool0 : Array CpInfo := pool [(5, u "<init>"), (0, u "()V"), (1, .class_ 10), (1, u "java/lang/Object"), (85, u "clone"), (0, u "()Ljava/lang/Object;")] 26

def k0m0 : Method := { name := "<init>", desc := "()V", sig := { parameters := [], returnType := none }, accessFlags := 1, code := none }
def k0m1 : Method := { name := "clone", desc := "()Ljava/lang/Object;", sig := { parameters := [], returnType := some (.object "java/lang/Object") }, accessFlags := 260, code := none }
/-- java/lang/Object -/
def k0 : Class := { plain "java/lang/Object" none with
  accessFlags := 33
  interfaces := #[]
  cf := some (fileOf pool0 8 #[] #[{ accessFlags := 1, nameIndex := 5, descriptorIndex := 6, attributes := #[] }, { accessFlags := 260, nameIndex := 96, descriptorIndex := 97, attributes := #[] }] 33 0 #[] #[])
  fields := #[]
  methods := #[k0m0, k0m1]
  instanceTypes := #[]
  staticTypes := #[]
  resolved := Array.replicate 124 none
  statics := none }

def pool1 : Array CpInfo := pool [(2, .class_ 4), (1, u "java/lang/Object"), (0, u "<init>"), (0, u "()V"), (0, .fieldref 8 9), (0, .class_ 10), (0, .nameAndType 11 12), (0, u "com/example/ample_proof/ampleproof/disputes/DisputeStatus"), (0, u "OPEN"), (0, u "Lcom/example/ample_proof/ampleproof/disputes/DisputeStatus;"), (0, .fieldref 8 14), (0, .nameAndType 15 12), (0, u "UNDER_REVIEW"), (0, .fieldref 8 17), (0, .nameAndType 18 12), (0, u "WON"), (0, .fieldref 8 20), (0, .nameAndType 21 12), (0, u "LOST"), (0, .fieldref 8 23), (0, .nameAndType 24 12), (0, u "CLOSED"), (0, .integer 2147483647), (0, .methodref 27 28), (0, .class_ 29), (0, .nameAndType 30 31), (0, u "com/example/ample_proof/ampleproof/disputes/DisputeStatusEscalatedFromPinLaw"), (0, u "pick"), (0, u "(I)Lcom/example/ample_proof/ampleproof/disputes/DisputeStatus;"), (0, .methodref 8 33), (0, .nameAndType 34 35), (0, u "escalatedFrom"), (0, u "()Lcom/example/ample_proof/ampleproof/disputes/DisputeStatus;"), (0, .methodref 8 37), (0, .nameAndType 38 35), (0, u "reopensIn"), (0, .methodref 8 40), (0, .nameAndType 41 42), (0, u "endedWith"), (0, u "()Lcom/example/ample_proof/ampleproof/keys/Scope;"), (3, u "law"), (0, u "(I)Z")] 2

def k1m0 : Method := { name := "<init>", desc := "()V", sig := { parameters := [], returnType := none }, accessFlags := 1, code := none }
def k1c1 : Code := { maxStack := 2, maxLocals := 1, code := method_2_code, exceptionTable := #[], attributes := #[] }
def k1m1 : Method := { name := "pick", desc := "(I)Lcom/example/ample_proof/ampleproof/disputes/DisputeStatus;", sig := { parameters := [.int], returnType := some (.object "com/example/ample_proof/ampleproof/disputes/DisputeStatus") }, accessFlags := 10, code := some k1c1 }
def k1c2 : Code := { maxStack := 3, maxLocals := 5, code := code, exceptionTable := #[], attributes := #[] }
def k1m2 : Method := { name := "law", desc := "(I)Z", sig := { parameters := [.int], returnType := some .boolean }, accessFlags := 9, code := some k1c2 }
/-- com/example/ample_proof/ampleproof/disputes/DisputeStatusEscalatedFromPinLaw -/
def k1 : Class := { plain "com/example/ample_proof/ampleproof/disputes/DisputeStatusEscalatedFromPinLaw" (some 0) with
  accessFlags := 49
  interfaces := #[]
  cf := some (fileOf pool1 27 #[] #[{ accessFlags := 1, nameIndex := 5, descriptorIndex := 6, attributes := #[] }, { accessFlags := 10, nameIndex := 30, descriptorIndex := 31, attributes := #[] }, { accessFlags := 9, nameIndex := 46, descriptorIndex := 47, attributes := #[] }] 49 2 #[] #[])
  fields := #[]
  methods := #[k1m0, k1m1, k1m2]
  instanceTypes := #[]
  staticTypes := #[]
  resolved := Array.replicate 50 none
  statics := none }

def pool2 : Array CpInfo := pool [(1, .class_ 2), (0, u "java/lang/constant/Constable"), (0, .class_ 4), (0, u "java/lang/Object")] 6

/-- java/lang/constant/Constable -/
def k2 : Class := { plain "java/lang/constant/Constable" (some 0) with
  accessFlags := 1537
  interfaces := #[]
  cf := some (fileOf pool2 1 #[] #[] 1537 3 #[] #[])
  fields := #[]
  methods := #[]
  instanceTypes := #[]
  staticTypes := #[]
  resolved := Array.replicate 11 none
  statics := none }

def pool3 : Array CpInfo := pool [(1, .class_ 2), (0, u "java/lang/Comparable"), (0, .class_ 4), (0, u "java/lang/Object")] 7

/-- java/lang/Comparable -/
def k3 : Class := { plain "java/lang/Comparable" (some 0) with
  accessFlags := 1537
  interfaces := #[]
  cf := some (fileOf pool3 1 #[] #[] 1537 3 #[] #[])
  fields := #[]
  methods := #[]
  instanceTypes := #[]
  staticTypes := #[]
  resolved := Array.replicate 12 none
  statics := none }

def pool4 : Array CpInfo := pool [(1, .class_ 2), (0, u "java/io/Serializable"), (0, .class_ 4), (0, u "java/lang/Object")] 2

/-- java/io/Serializable -/
def k4 : Class := { plain "java/io/Serializable" (some 0) with
  accessFlags := 1537
  interfaces := #[]
  cf := some (fileOf pool4 1 #[] #[] 1537 3 #[] #[])
  fields := #[]
  methods := #[]
  instanceTypes := #[]
  staticTypes := #[]
  resolved := Array.replicate 7 none
  statics := none }

def pool5 : Array CpInfo := pool [(2, .class_ 4), (1, u "java/lang/Enum"), (0, u "name"), (0, u "Ljava/lang/String;"), (2, u "ordinal"), (0, u "I"), (1, .class_ 14), (1, u "java/lang/Object"), (4, u "hash"), (86, .class_ 108), (1, u "java/lang/Enum$EnumDesc"), (2, .class_ 112), (0, u "java/lang/constant/Constable"), (0, .class_ 114), (0, u "java/lang/Comparable"), (0, .class_ 116), (0, u "java/io/Serializable")] 87

/-- java/lang/Enum -/
def k5 : Class := { plain "java/lang/Enum" (some 0) with
  accessFlags := 1057
  interfaces := #[2, 3, 4]
  cf := some (fileOf pool5 2 #[.nestMembers #[106]] #[] 1057 12 #[111, 113, 115] #[{ accessFlags := 18, nameIndex := 5, descriptorIndex := 6, attributes := #[] }, { accessFlags := 18, nameIndex := 9, descriptorIndex := 10, attributes := #[] }, { accessFlags := 2, nameIndex := 19, descriptorIndex := 10, attributes := #[] }])
  fields := #[{ name := "name", type := (.object "java/lang/String"), accessFlags := 18, slot := 0, constantValue := 0 }, { name := "ordinal", type := .int, accessFlags := 18, slot := 1, constantValue := 0 }, { name := "hash", type := .int, accessFlags := 2, slot := 2, constantValue := 0 }]
  methods := #[]
  instanceTypes := #[(.object "java/lang/String"), .int, .int]
  staticTypes := #[]
  resolved := Array.replicate 204 none
  statics := none }

def pool6 : Array CpInfo := pool [(1, .class_ 2), (0, u "com/example/ample_proof/ampleproof/disputes/DisputeStatus"), (2, u "OPEN"), (0, u "Lcom/example/ample_proof/ampleproof/disputes/DisputeStatus;"), (2, u "UNDER_REVIEW"), (2, u "WON"), (2, u "LOST"), (2, u "CLOSED"), (0, .fieldref 1 20), (0, .nameAndType 21 22), (0, u "$VALUES"), (0, u "[Lcom/example/ample_proof/ampleproof/disputes/DisputeStatus;"), (0, .methodref 24 25), (0, .class_ 22), (0, .nameAndType 26 27), (0, u "clone"), (0, u "()Ljava/lang/Object;"), (1, .class_ 31), (1, u "java/lang/Enum"), (8, u "reachedFrom"), (0, .fieldref 1 42), (0, .nameAndType 43 44), (0, u "endedWith"), (0, u "Lcom/example/ample_proof/ampleproof/keys/Scope;"), (0, .fieldref 1 46), (0, .nameAndType 47 6), (0, u "reopensIn"), (2, u "letsPaymentBeRefunded"), (0, u "Z"), (6, .methodref 1 59), (0, .nameAndType 60 61), (0, u "values"), (0, u "()[Lcom/example/ample_proof/ampleproof/disputes/DisputeStatus;"), (44, u "()Lcom/example/ample_proof/ampleproof/disputes/DisputeStatus;"), (0, u "()Lcom/example/ample_proof/ampleproof/keys/Scope;"), (5, u "escalatedFrom")] 5

def k6c0 : Code := { maxStack := 1, maxLocals := 0, code := prog_9_method_1_code, exceptionTable := #[], attributes := #[] }
def k6m0 : Method := { name := "values", desc := "()[Lcom/example/ample_proof/ampleproof/disputes/DisputeStatus;", sig := { parameters := [], returnType := some (.array (.object "com/example/ample_proof/ampleproof/disputes/DisputeStatus")) }, accessFlags := 9, code := some k6c0 }
def k6c1 : Code := { maxStack := 1, maxLocals := 1, code := prog_9_method_5_code, exceptionTable := #[], attributes := #[] }
def k6m1 : Method := { name := "endedWith", desc := "()Lcom/example/ample_proof/ampleproof/keys/Scope;", sig := { parameters := [], returnType := some (.object "com/example/ample_proof/ampleproof/keys/Scope") }, accessFlags := 0, code := some k6c1 }
def k6c2 : Code := { maxStack := 1, maxLocals := 1, code := prog_9_method_6_code, exceptionTable := #[], attributes := #[] }
def k6m2 : Method := { name := "reopensIn", desc := "()Lcom/example/ample_proof/ampleproof/disputes/DisputeStatus;", sig := { parameters := [], returnType := some (.object "com/example/ample_proof/ampleproof/disputes/DisputeStatus") }, accessFlags := 0, code := some k6c2 }
def k6c3 : Code := { maxStack := 3, maxLocals := 4, code := prog_9_method_9_code, exceptionTable := #[], attributes := #[] }
def k6m3 : Method := { name := "escalatedFrom", desc := "()Lcom/example/ample_proof/ampleproof/disputes/DisputeStatus;", sig := { parameters := [], returnType := some (.object "com/example/ample_proof/ampleproof/disputes/DisputeStatus") }, accessFlags := 8, code := some k6c3 }
/-- com/example/ample_proof/ampleproof/disputes/DisputeStatus -/
def k6 : Class := { plain "com/example/ample_proof/ampleproof/disputes/DisputeStatus" (some 5) with
  accessFlags := 16433
  interfaces := #[]
  cf := some (fileOf pool6 1 #[] #[{ accessFlags := 9, nameIndex := 60, descriptorIndex := 61, attributes := #[] }, { accessFlags := 0, nameIndex := 43, descriptorIndex := 107, attributes := #[] }, { accessFlags := 0, nameIndex := 47, descriptorIndex := 106, attributes := #[] }, { accessFlags := 8, nameIndex := 113, descriptorIndex := 106, attributes := #[] }] 16433 29 #[] #[{ accessFlags := 16409, nameIndex := 5, descriptorIndex := 6, attributes := #[] }, { accessFlags := 16409, nameIndex := 9, descriptorIndex := 6, attributes := #[] }, { accessFlags := 16409, nameIndex := 12, descriptorIndex := 6, attributes := #[] }, { accessFlags := 16409, nameIndex := 15, descriptorIndex := 6, attributes := #[] }, { accessFlags := 16409, nameIndex := 18, descriptorIndex := 6, attributes := #[] }, { accessFlags := 18, nameIndex := 40, descriptorIndex := 6, attributes := #[] }, { accessFlags := 18, nameIndex := 43, descriptorIndex := 44, attributes := #[] }, { accessFlags := 18, nameIndex := 47, descriptorIndex := 6, attributes := #[] }, { accessFlags := 18, nameIndex := 50, descriptorIndex := 51, attributes := #[] }, { accessFlags := 4122, nameIndex := 21, descriptorIndex := 22, attributes := #[] }])
  fields := #[{ name := "OPEN", type := (.object "com/example/ample_proof/ampleproof/disputes/DisputeStatus"), accessFlags := 16409, slot := 0, constantValue := 0 }, { name := "UNDER_REVIEW", type := (.object "com/example/ample_proof/ampleproof/disputes/DisputeStatus"), accessFlags := 16409, slot := 1, constantValue := 0 }, { name := "WON", type := (.object "com/example/ample_proof/ampleproof/disputes/DisputeStatus"), accessFlags := 16409, slot := 2, constantValue := 0 }, { name := "LOST", type := (.object "com/example/ample_proof/ampleproof/disputes/DisputeStatus"), accessFlags := 16409, slot := 3, constantValue := 0 }, { name := "CLOSED", type := (.object "com/example/ample_proof/ampleproof/disputes/DisputeStatus"), accessFlags := 16409, slot := 4, constantValue := 0 }, { name := "reachedFrom", type := (.object "com/example/ample_proof/ampleproof/disputes/DisputeStatus"), accessFlags := 18, slot := 3, constantValue := 0 }, { name := "endedWith", type := (.object "com/example/ample_proof/ampleproof/keys/Scope"), accessFlags := 18, slot := 4, constantValue := 0 }, { name := "reopensIn", type := (.object "com/example/ample_proof/ampleproof/disputes/DisputeStatus"), accessFlags := 18, slot := 5, constantValue := 0 }, { name := "letsPaymentBeRefunded", type := .boolean, accessFlags := 18, slot := 6, constantValue := 0 }, { name := "$VALUES", type := (.array (.object "com/example/ample_proof/ampleproof/disputes/DisputeStatus")), accessFlags := 4122, slot := 5, constantValue := 0 }]
  methods := #[k6m0, k6m1, k6m2, k6m3]
  instanceTypes := #[(.object "java/lang/String"), .int, .int, (.object "com/example/ample_proof/ampleproof/disputes/DisputeStatus"), (.object "com/example/ample_proof/ampleproof/keys/Scope"), (.object "com/example/ample_proof/ampleproof/disputes/DisputeStatus"), .boolean]
  staticTypes := #[(.object "com/example/ample_proof/ampleproof/disputes/DisputeStatus"), (.object "com/example/ample_proof/ampleproof/disputes/DisputeStatus"), (.object "com/example/ample_proof/ampleproof/disputes/DisputeStatus"), (.object "com/example/ample_proof/ampleproof/disputes/DisputeStatus"), (.object "com/example/ample_proof/ampleproof/disputes/DisputeStatus"), (.array (.object "com/example/ample_proof/ampleproof/disputes/DisputeStatus"))]
  resolved := Array.replicate 119 none
  statics := some 0 }

def pool7 : Array CpInfo := pool [(1, .class_ 2), (0, u "java/lang/Cloneable"), (0, .class_ 4), (0, u "java/lang/Object")] 2

/-- java/lang/Cloneable -/
def k7 : Class := { plain "java/lang/Cloneable" (some 0) with
  accessFlags := 1537
  interfaces := #[]
  cf := some (fileOf pool7 1 #[] #[] 1537 3 #[] #[])
  fields := #[]
  methods := #[]
  instanceTypes := #[]
  staticTypes := #[]
  resolved := Array.replicate 7 none
  statics := none }

def pool8 : Array CpInfo := pool [(1, .class_ 2), (0, u "com/example/ample_proof/ampleproof/keys/Scope"), (2, u "DISPUTES_READ"), (0, u "Lcom/example/ample_proof/ampleproof/keys/Scope;"), (2, u "DISPUTES_WRITE"), (2, u "PAYMENTS_WRITE"), (2, u "DISPUTES_OUTCOME"), (2, u "$VALUES"), (0, u "[Lcom/example/ample_proof/ampleproof/keys/Scope;"), (6, .class_ 28), (1, u "java/lang/Enum"), (8, u "word"), (0, u "Ljava/lang/String;"), (79, u "MERCHANT_KEYS"), (0, u "Ljava/util/Set;"), (5, u "PLATFORM_KEYS")] 41

/-- com/example/ample_proof/ampleproof/keys/Scope -/
def k8 : Class := { plain "com/example/ample_proof/ampleproof/keys/Scope" (some 5) with
  accessFlags := 16433
  interfaces := #[]
  cf := some (fileOf pool8 1 #[] #[] 16433 26 #[] #[{ accessFlags := 16409, nameIndex := 5, descriptorIndex := 6, attributes := #[] }, { accessFlags := 16409, nameIndex := 9, descriptorIndex := 6, attributes := #[] }, { accessFlags := 16409, nameIndex := 12, descriptorIndex := 6, attributes := #[] }, { accessFlags := 16409, nameIndex := 15, descriptorIndex := 6, attributes := #[] }, { accessFlags := 25, nameIndex := 118, descriptorIndex := 119, attributes := #[] }, { accessFlags := 25, nameIndex := 125, descriptorIndex := 119, attributes := #[] }, { accessFlags := 18, nameIndex := 37, descriptorIndex := 38, attributes := #[] }, { accessFlags := 4122, nameIndex := 18, descriptorIndex := 19, attributes := #[] }])
  fields := #[{ name := "DISPUTES_READ", type := (.object "com/example/ample_proof/ampleproof/keys/Scope"), accessFlags := 16409, slot := 0, constantValue := 0 }, { name := "DISPUTES_WRITE", type := (.object "com/example/ample_proof/ampleproof/keys/Scope"), accessFlags := 16409, slot := 1, constantValue := 0 }, { name := "PAYMENTS_WRITE", type := (.object "com/example/ample_proof/ampleproof/keys/Scope"), accessFlags := 16409, slot := 2, constantValue := 0 }, { name := "DISPUTES_OUTCOME", type := (.object "com/example/ample_proof/ampleproof/keys/Scope"), accessFlags := 16409, slot := 3, constantValue := 0 }, { name := "MERCHANT_KEYS", type := (.object "java/util/Set"), accessFlags := 25, slot := 4, constantValue := 0 }, { name := "PLATFORM_KEYS", type := (.object "java/util/Set"), accessFlags := 25, slot := 5, constantValue := 0 }, { name := "word", type := (.object "java/lang/String"), accessFlags := 18, slot := 3, constantValue := 0 }, { name := "$VALUES", type := (.array (.object "com/example/ample_proof/ampleproof/keys/Scope")), accessFlags := 4122, slot := 6, constantValue := 0 }]
  methods := #[]
  instanceTypes := #[(.object "java/lang/String"), .int, .int, (.object "java/lang/String")]
  staticTypes := #[(.object "com/example/ample_proof/ampleproof/keys/Scope"), (.object "com/example/ample_proof/ampleproof/keys/Scope"), (.object "com/example/ample_proof/ampleproof/keys/Scope"), (.object "com/example/ample_proof/ampleproof/keys/Scope"), (.object "java/util/Set"), (.object "java/util/Set"), (.array (.object "com/example/ample_proof/ampleproof/keys/Scope"))]
  resolved := Array.replicate 167 none
  statics := some 1 }

/-- the primitive byte -/
def k9 : Class := { plain "byte" none with kind := .primitive 'B', accessFlags := 0x411 }
/-- [B -/
def k10 : Class := { plain "[B" (some 0) with kind := .array 9 .byte, interfaces := #[7, 4], accessFlags := 1041 }

/-- the primitive int -/
def k11 : Class := { plain "int" none with kind := .primitive 'I', accessFlags := 0x411 }
/-- [I -/
def k12 : Class := { plain "[I" (some 0) with kind := .array 11 .int, interfaces := #[7, 4], accessFlags := 1041 }

/-- [Lcom/example/ample_proof/ampleproof/disputes/DisputeStatus; -/
def k13 : Class := { plain "[Lcom/example/ample_proof/ampleproof/disputes/DisputeStatus;" (some 0) with kind := .array 6 (.object "com/example/ample_proof/ampleproof/disputes/DisputeStatus"), interfaces := #[7, 4], accessFlags := 1041 }

def heap : Heap := #[{ cls := 6, slots := #[.ref 3, .ref 4, .ref 5, .ref 6, .ref 7, .ref 2], vm := .statics 6 },
  { cls := 8, slots := #[.null, .ref 9, .null, .ref 8, .null, .null, .null], vm := .statics 8 },
  { cls := 13, slots := #[.ref 3, .ref 4, .ref 5, .ref 6, .ref 7], vm := .none },
  { cls := 6, slots := #[.null, .int 0, .int 0, .null, .null, .null, .int 0], vm := .none },
  { cls := 6, slots := #[.null, .int 1, .int 0, .null, .null, .null, .int 0], vm := .none },
  { cls := 6, slots := #[.null, .int 2, .int 0, .null, .ref 8, .ref 3, .int 0], vm := .none },
  { cls := 6, slots := #[.null, .int 3, .int 0, .null, .ref 8, .null, .int 0], vm := .none },
  { cls := 6, slots := #[.null, .int 4, .int 0, .null, .ref 9, .null, .int 0], vm := .none },
  { cls := 8, slots := #[.null, .int 0, .int 0, .null], vm := .none },
  { cls := 8, slots := #[.null, .int 1, .int 0, .null], vm := .none }]
def classes : Array Class := #[k0, k1, k2, k3, k4, k5, k6, k7, k8, k9, k10, k11, k12, k13]
def interned : List (Array UInt16 × Addr) := []
def slotsUsed : Nat := 61
def theMethod : MethodId := ⟨1, 2⟩
def args0 : Array Value := #[.int 5]
def aboutOver (below : List Frame) : State where
  vm := { classes := classes, interned := interned.toArray }
  heap := heap
  slotsUsed := slotsUsed
  threads := #[{ frames := .invoking theMethod args0 :: below }]
def below0 : List Frame := [.native { method := ⟨0, 0⟩, args := #[] }]
def about1 : State := aboutOver below0
def p0 : Program := .bare "" "" ""
def e0 : Env := launch0.env 0 0 0
theorem w_frames : about1.frames = Frame.invoking theMethod args0 :: below0 := rfl
set_option maxRecDepth 65536 in
theorem w_args : argsFit about1.vm theMethod args0 = true := by decide +kernel
set_option maxRecDepth 65536 in
theorem w_heap : heapFits about1 = true := by decide +kernel
set_option maxRecDepth 65536 in
theorem w_runnable : about1.curStatus? = some .runnable := by decide +kernel
set_option maxRecDepth 65536 in
theorem w_alone : about1.alone = true := by decide +kernel
set_option maxRecDepth 65536 in
theorem w_named : about1.methodNamed? x = some theMethod := by decide +kernel
set_option maxRecDepth 65536 in
theorem w_hears : about1.hears theMethod below0 = true := by decide +kernel
set_option maxRecDepth 65536 in
theorem w_ripe : about1.ripe theMethod args0 below0 = true := by decide +kernel
theorem w_running : about1.status = .running := rfl
set_option maxRecDepth 65536 in
theorem w_room : about1.hasRoom e0.platform room_1 = true :=
  launch0.hasRoom_least _ room_1 (by decide +kernel) (by decide +kernel) (by decide +kernel) (by decide +kernel) (by decide +kernel) (by decide +kernel)
theorem allAtoms_all (ts : List Jvm.Cond) (a : Array Jvm.Value) (st : Jvm.State) : (allAtoms ts).before a st = ts.all (fun c => c.before a st) := by
  induction ts with
  | nil => rfl
  | cons c t ih =>
    show (Jvm.Cond.and c (allAtoms t)).before a st = _
    rw [Jvm.Cond.before_and, ih, List.all_cons]
def words1 : List Jvm.Cond := Jvm.Cond.code x code maxLocals ret :: tables_1
/-- a 'code' word, met by the world's own term for the bytes: nothing is compared byte by byte -/
theorem code_word {y : MethodName} {bytes : ByteArray} {mx : Nat} {rt : Option FieldType} {a : Array Value} {s : State} {m : MethodId} {meth : Method} {c : Code} (h1 : s.methodNamed? y = some m) (h2 : s.vm.method? m = some meth) (h3 : meth.code = some c) (h4 : c.code = bytes)
    (h5 : (c.maxLocals == mx && c.exceptionTable.isEmpty && decide (c.maxStack ≤ mostOperands) && decide (meth.sig.returnType = rt) && !meth.locks && decide (parseMethodDescriptor y.desc = some meth.sig)) = true) : (Jvm.Cond.code y bytes mx rt).before a s = true := by
  simp only [Bool.and_eq_true, beq_iff_eq, Bool.not_eq_true', decide_eq_true_eq] at h5
  obtain ⟨⟨⟨⟨⟨g1, g2⟩, g3⟩, g4⟩, g5⟩, g6⟩ := h5
  simp [Cond.before, Cond.holds, Cond.value, h1, h2, h3, h4, g1, g2, g3, g4, g5, g6]
def isCode : Jvm.Cond → Bool
  | .code _ _ _ _ => true
  | _ => false
theorem all_split {L : List Jvm.Cond} {P : Jvm.Cond → Bool} (h1 : L.all (fun c => isCode c || P c) = true) (h2 : ∀ c ∈ L.filter isCode, P c = true) : L.all P = true := by
  refine List.all_eq_true.mpr fun c hc => ?_
  have h := List.all_eq_true.mp h1 c hc
  rcases Bool.eq_false_or_eq_true (isCode c) with hi | hi
  · exact h2 c (List.mem_filter.mpr ⟨hc, hi⟩)
  · simpa [hi] using h
set_option maxRecDepth 65536 in
theorem w_c0 : (Jvm.Cond.code x code maxLocals ret).before args0 about1 = true := code_word (m := ⟨1, 2⟩) (meth := k1m2) (c := k1c2) (by decide +kernel) rfl rfl rfl (by decide +kernel)
set_option maxRecDepth 65536 in
theorem w_c1 : (Jvm.Cond.code ({ cls := "com/example/ample_proof/ampleproof/disputes/DisputeStatusEscalatedFromPinLaw", name := "pick", desc := "(I)Lcom/example/ample_proof/ampleproof/disputes/DisputeStatus;" } : Jvm.MethodName) method_2_code (1 : Nat) (Option.some (Jvm.ClassFile.FieldType.object "com/example/ample_proof/ampleproof/disputes/DisputeStatus"))).before args0 about1 = true := code_word (m := ⟨1, 1⟩) (meth := k1m1) (c := k1c1) (by decide +kernel) rfl rfl rfl (by decide +kernel)
set_option maxRecDepth 65536 in
theorem w_c2 : (Jvm.Cond.code ({ cls := "com/example/ample_proof/ampleproof/disputes/DisputeStatus", name := "escalatedFrom", desc := "()Lcom/example/ample_proof/ampleproof/disputes/DisputeStatus;" } : Jvm.MethodName) prog_9_method_9_code (4 : Nat) (Option.some (Jvm.ClassFile.FieldType.object "com/example/ample_proof/ampleproof/disputes/DisputeStatus"))).before args0 about1 = true := code_word (m := ⟨6, 3⟩) (meth := k6m3) (c := k6c3) (by decide +kernel) rfl rfl rfl (by decide +kernel)
set_option maxRecDepth 65536 in
theorem w_c3 : (Jvm.Cond.code ({ cls := "com/example/ample_proof/ampleproof/disputes/DisputeStatus", name := "values", desc := "()[Lcom/example/ample_proof/ampleproof/disputes/DisputeStatus;" } : Jvm.MethodName) prog_9_method_1_code (0 : Nat) (Option.some (Jvm.ClassFile.FieldType.array (Jvm.ClassFile.FieldType.object "com/example/ample_proof/ampleproof/disputes/DisputeStatus")))).before args0 about1 = true := code_word (m := ⟨6, 0⟩) (meth := k6m0) (c := k6c0) (by decide +kernel) rfl rfl rfl (by decide +kernel)
set_option maxRecDepth 65536 in
theorem w_c4 : (Jvm.Cond.code ({ cls := "com/example/ample_proof/ampleproof/disputes/DisputeStatus", name := "reopensIn", desc := "()Lcom/example/ample_proof/ampleproof/disputes/DisputeStatus;" } : Jvm.MethodName) prog_9_method_6_code (1 : Nat) (Option.some (Jvm.ClassFile.FieldType.object "com/example/ample_proof/ampleproof/disputes/DisputeStatus"))).before args0 about1 = true := code_word (m := ⟨6, 2⟩) (meth := k6m2) (c := k6c2) (by decide +kernel) rfl rfl rfl (by decide +kernel)
set_option maxRecDepth 65536 in
theorem w_c5 : (Jvm.Cond.code ({ cls := "com/example/ample_proof/ampleproof/disputes/DisputeStatus", name := "endedWith", desc := "()Lcom/example/ample_proof/ampleproof/keys/Scope;" } : Jvm.MethodName) prog_9_method_5_code (1 : Nat) (Option.some (Jvm.ClassFile.FieldType.object "com/example/ample_proof/ampleproof/keys/Scope"))).before args0 about1 = true := code_word (m := ⟨6, 1⟩) (meth := k6m1) (c := k6c1) (by decide +kernel) rfl rfl rfl (by decide +kernel)
def codes1 : List Jvm.Cond := [Jvm.Cond.code x code maxLocals ret, Jvm.Cond.code ({ cls := "com/example/ample_proof/ampleproof/disputes/DisputeStatusEscalatedFromPinLaw", name := "pick", desc := "(I)Lcom/example/ample_proof/ampleproof/disputes/DisputeStatus;" } : Jvm.MethodName) method_2_code (1 : Nat) (Option.some (Jvm.ClassFile.FieldType.object "com/example/ample_proof/ampleproof/disputes/DisputeStatus")), Jvm.Cond.code ({ cls := "com/example/ample_proof/ampleproof/disputes/DisputeStatus", name := "escalatedFrom", desc := "()Lcom/example/ample_proof/ampleproof/disputes/DisputeStatus;" } : Jvm.MethodName) prog_9_method_9_code (4 : Nat) (Option.some (Jvm.ClassFile.FieldType.object "com/example/ample_proof/ampleproof/disputes/DisputeStatus")), Jvm.Cond.code ({ cls := "com/example/ample_proof/ampleproof/disputes/DisputeStatus", name := "values", desc := "()[Lcom/example/ample_proof/ampleproof/disputes/DisputeStatus;" } : Jvm.MethodName) prog_9_method_1_code (0 : Nat) (Option.some (Jvm.ClassFile.FieldType.array (Jvm.ClassFile.FieldType.object "com/example/ample_proof/ampleproof/disputes/DisputeStatus"))), Jvm.Cond.code ({ cls := "com/example/ample_proof/ampleproof/disputes/DisputeStatus", name := "reopensIn", desc := "()Lcom/example/ample_proof/ampleproof/disputes/DisputeStatus;" } : Jvm.MethodName) prog_9_method_6_code (1 : Nat) (Option.some (Jvm.ClassFile.FieldType.object "com/example/ample_proof/ampleproof/disputes/DisputeStatus")), Jvm.Cond.code ({ cls := "com/example/ample_proof/ampleproof/disputes/DisputeStatus", name := "endedWith", desc := "()Lcom/example/ample_proof/ampleproof/keys/Scope;" } : Jvm.MethodName) prog_9_method_5_code (1 : Nat) (Option.some (Jvm.ClassFile.FieldType.object "com/example/ample_proof/ampleproof/keys/Scope"))]
set_option maxRecDepth 65536 in
theorem codes_eq : words1.filter isCode = codes1 := rfl
theorem w_codes : ∀ c ∈ words1.filter isCode, c.before args0 about1 = true := by
  rw [codes_eq]
  intro c hc
  simp only [codes1, List.mem_cons, List.not_mem_nil, or_false] at hc
  rcases hc with rfl | rfl | rfl | rfl | rfl | rfl
  · exact w_c0
  · exact w_c1
  · exact w_c2
  · exact w_c3
  · exact w_c4
  · exact w_c5
set_option maxRecDepth 65536 in
theorem w_t1 : (words1.take 24).all (fun c => isCode c || c.before args0 about1) = true := by decide +kernel
set_option maxRecDepth 65536 in
theorem w_t2 : ((words1.drop 24).take 24).all (fun c => isCode c || c.before args0 about1) = true := by decide +kernel
set_option maxRecDepth 65536 in
theorem w_t3 : ((words1.drop 24).drop 24).all (fun c => isCode c || c.before args0 about1) = true := by decide +kernel
theorem w_tables : (allAtoms (Jvm.Cond.code x code maxLocals ret :: tables_1)).before args0 about1 = true := by
  rw [allAtoms_all]
  show words1.all (fun c => c.before args0 about1) = true
  refine all_split ?_ w_codes
  rw [← List.take_append_drop 24 words1, List.all_append, w_t1, ← List.take_append_drop 24 (words1.drop 24), List.all_append, w_t2, w_t3]
  rfl
set_option maxRecDepth 65536 in
theorem w_case : (Jvm.Cond.and given_1 narrow_1).before args0 about1 = true := by decide +kernel
theorem w_applies : (headSpec (Jvm.Cond.code x code maxLocals ret :: tables_1) room_1).applies x e0.platform about1 = true :=
  (Spec.applies_iff w_frames).mpr ⟨w_running, w_runnable, w_alone, w_named, w_hears, w_ripe, w_room, w_tables⟩
theorem atStart : AtStart classFile x code maxLocals ret World_1 tables_1 room_1 Calls_1 rest_1 Pre_1 launch0 p0 e0 about1 theMethod args0 below0 :=
  ⟨lists_1, trivial, launch0.admits_env _ _ _, launch0.least_env, fairChoices_fair.cas, fairChoices_fair.clock, w_frames, w_args, w_heap, w_applies, trivial, trivial, w_case⟩
end start1
theorem witness_1 : WitnessClaimed_1 := ⟨start1.p0, start1.e0, start1.about1, start1.theMethod, start1.args0, start1.below0, start1.atStart⟩
end Jvm.Pilot.@@N@@
