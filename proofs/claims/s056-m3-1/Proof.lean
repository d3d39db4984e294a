import JvmDerived
import JvmDerived.Pilot.@@N@@Statement
import JvmDerived.Pilot.@@N@@Code
set_option linter.unusedVariables false
set_option linter.unusedSimpArgs false
namespace Jvm.Pilot.@@N@@
open Jvm Jvm.ClassFile Sem Op Lib Jvm.Free Jvm.Stand Jvm.LawKit Jvm.RoadKit Bundle Jvm.Pilot.@@N@@.Jvm.D
/-! OwnW: the walk as a fact: from s0 it has come to pc with locals L, stack S, heap h; kc cells and ks slots made; written only cells at or above n0. -/
section OwnKit
variable {p : Program} {l : Launch} {e : Env} {R : Room} {s : State} {m : MethodId} {args : Array Value} {below : List Frame} {meth : Method} {c : Code} {s0 : State} {n0 pc pc' : Nat} {L L' : Array Slot} {S S' : List Value} {h h' : Heap} {kc ks : Nat} {Z : State} {a0 : Array Value}
def OwnW {p : Program} {l : Launch} {e : Env} {R : Room} {s : State} {m : MethodId} {args : Array Value} {below : List Frame} {meth : Method} {c : Code} (s0 : State) (n0 pc : Nat) (L : Array Slot) (S : List Value) (h : Heap) (kc ks : Nat) : Prop :=
  ∃ (T : State) (locs : List Loc), Stand p l e R s m args below meth c T locs kc ks ∧ T.heap = h ∧ Fr n0 locs ∧ Steps p.tables e below s0 (T.setTop (mkF m pc L S))
def OwnEnd {p : Program} {l : Launch} {e : Env} {R : Room} {s : State} {m : MethodId} {args : Array Value} {below : List Frame} {meth : Method} {c : Code} (s0 : State) (n0 : Nat) (v : Option Value) (h : Heap) (kc ks : Nat) : Prop :=
  ∃ (T : State) (locs : List Loc), Stand p l e R s m args below meth c T locs kc ks ∧ T.heap = h ∧ Fr n0 locs ∧ (meth.sig.returnType = none → v = none) ∧ ∀ fs : List Frame, (∀ (f : JFrame) (acts : List Action), f.method = m → f.locked = none → f.entered = [] → (doReturn e (T.setTop f) acts v).1 = T.setFrames fs) → Steps p.tables e below s0 (T.setFrames fs)
/-- a callee's contract: with the arguments A on the heap h0 it returns v and leaves h' with Q v h' -/
def OwnCon (l : Launch) (Z : State) (y : MethodName) (bytes : ByteArray) (maxL : Nat) (ret : Option FieldType) (rm : Room) (A : Array Value) (h0 : Heap) (n0 : Nat) (Q : Option Value → Heap → Prop) : Prop :=
  ∀ ws : List Jvm.Cond, MetFree l y (head1 (Jvm.Cond.code y bytes maxL ret :: ws) rm) (fun a U => a = A ∧ Z.Warmed39 U.vm ∧ U.heap = h0) (fun _ _ _ _ _ => True) (fun _ U o U' => ∃ v L, o = .returned v ∧ (Fr n0 L ∧ Q v U'.heap) ∧ FrameEnd U o U' L rm.cells rm.slots)
theorem OwnW.go (r : OwnW (p := p) (l := l) (e := e) (R := R) (s := s) (m := m) (args := args) (below := below) (meth := meth) (c := c) s0 n0 pc L S h kc ks)
    (f : ∀ (T t : State), At T m c below → Steps p.tables e below (T.setTop (mkF m pc' L' S')) t → Steps p.tables e below (T.setTop (mkF m pc L S)) t) :
    OwnW (p := p) (l := l) (e := e) (R := R) (s := s) (m := m) (args := args) (below := below) (meth := meth) (c := c) s0 n0 pc' L' S' h kc ks := by
  obtain ⟨T, ls, X, eT, N, st⟩ := r
  exact ⟨T, ls, X, eT, N, st.trans (f T _ X.here (Steps.refl _))⟩
theorem OwnW.goX (r : OwnW (p := p) (l := l) (e := e) (R := R) (s := s) (m := m) (args := args) (below := below) (meth := meth) (c := c) s0 n0 pc L S h kc ks)
    (f : ∀ (T t : State) (ls : List Loc), Stand p l e R s m args below meth c T ls kc ks → T.heap = h → Steps p.tables e below (T.setTop (mkF m pc' L' S')) t → Steps p.tables e below (T.setTop (mkF m pc L S)) t) :
    OwnW (p := p) (l := l) (e := e) (R := R) (s := s) (m := m) (args := args) (below := below) (meth := meth) (c := c) s0 n0 pc' L' S' h kc ks := by
  obtain ⟨T, ls, X, eT, N, st⟩ := r
  exact ⟨T, ls, X, eT, N, st.trans (f T _ ls X eT (Steps.refl _))⟩
theorem OwnW.goT (r : OwnW (p := p) (l := l) (e := e) (R := R) (s := s) (m := m) (args := args) (below := below) (meth := meth) (c := c) s0 n0 pc L S h kc ks)
    (f : ∀ (T : State) (ls : List Loc), Stand p l e R s m args below meth c T ls kc ks → T.heap = h → ∃ T', Stand p l e R s m args below meth c T' ls kc ks ∧ T'.heap = h ∧ ∀ t, Steps p.tables e below (T'.setTop (mkF m pc' L' S')) t → Steps p.tables e below (T.setTop (mkF m pc L S)) t) :
    OwnW (p := p) (l := l) (e := e) (R := R) (s := s) (m := m) (args := args) (below := below) (meth := meth) (c := c) s0 n0 pc' L' S' h kc ks := by
  obtain ⟨T, ls, X, eT, N, st⟩ := r
  obtain ⟨T', X', eT', st'⟩ := f T ls X eT
  exact ⟨T', ls, X', eT', N, st.trans (st' _ (Steps.refl _))⟩
/-- the same walk, written otherwise -/
theorem OwnW.to (r : OwnW (p := p) (l := l) (e := e) (R := R) (s := s) (m := m) (args := args) (below := below) (meth := meth) (c := c) s0 n0 pc L S h kc ks) (h1 : pc = pc') (h2 : L = L') (h3 : S = S') (h4 : h = h') :
    OwnW (p := p) (l := l) (e := e) (R := R) (s := s) (m := m) (args := args) (below := below) (meth := meth) (c := c) s0 n0 pc' L' S' h' kc ks := by
  subst h1 h2 h3 h4; exact r
theorem OwnW.newO (r : OwnW (p := p) (l := l) (e := e) (R := R) (s := s) (m := m) (args := args) (below := below) (meth := meth) (c := c) s0 n0 pc L S h kc ks)
    (hx : p.tables.exec = Jvm.exec) (hZ : Z.Warmed39 s.vm) {own C : String} {index n : Nat} (hown : s.vm.findClass own = some m.cls) (w : (Jvm.Cond.classLink own index C).before a0 Z = true) (wi : (Jvm.Cond.instantiable C n).before a0 Z = true) (wz : (Jvm.Cond.initialized C).before a0 Z = true)
    (hd : decode c.code pc = .ok (.new index, 3)) (hc : kc + 1 ≤ R.cells) (hl : ks + n ≤ R.slots) :
    ∃ h', OwnW (p := p) (l := l) (e := e) (R := R) (s := s) (m := m) (args := args) (below := below) (meth := meth) (c := c) s0 n0 (pc + 3) L (.ref h.size :: S) h' (kc + 1) (ks + n) ∧ Ext h h' ∧ Exa Z h' h.size C ∧ (∀ {O nm d : String} {ty : FieldType}, Laid Z a0 C O nm d → parseFieldDescriptor d = some ty → Fld Z h' h.size O nm d (defaultValue ty)) := by
  obtain ⟨T, ls, X, eT, N, st⟩ := r
  obtain ⟨T', h', X', e', E, A, D, -, st'⟩ := Jvm.RoadKit.newO X hx hZ hown w wi wz eT (g := mkF m pc L S) rfl hd hc hl
  exact ⟨h', ⟨T', ls, X', e', N, st.trans (st' _ (Steps.refl _))⟩, E, A, D⟩
theorem OwnW.newP (r : OwnW (p := p) (l := l) (e := e) (R := R) (s := s) (m := m) (args := args) (below := below) (meth := meth) (c := c) s0 n0 pc L S h kc ks)
    (hx : p.tables.exec = Jvm.exec) (hZ : Z.Warmed39 s.vm) {aty : ArrayType} (w : (Jvm.Cond.arrayClass (newarray.typeOf aty)).before a0 Z = true) (hd : decode c.code pc = .ok (.newarray aty, 2)) {n : Int32} {rest : List Value} (hs : S = .int n :: rest)
    (hn : ¬ n < 0) {cap : Nat} (hcap : n.toNatClampNeg ≤ cap) (hb : cap * 8 ≤ 536870912) (hc : kc + 1 ≤ R.cells) (hl : ks + cap ≤ R.slots) :
    ∃ h' cA, OwnW (p := p) (l := l) (e := e) (R := R) (s := s) (m := m) (args := args) (below := below) (meth := meth) (c := c) s0 n0 (pc + 2) L (.ref h.size :: rest) h' (kc + 1) (ks + cap) ∧ Ext h h' ∧ Arr Z h' h.size (newA cA (newarray.typeOf aty) n) (newarray.typeOf aty) := by
  obtain ⟨T, ls, X, eT, N, st⟩ := r
  obtain ⟨T', h', cA, X', e', E, A, st'⟩ := Jvm.RoadKit.newP X hx hZ w eT (g := mkF m pc L S) rfl hd hs hn hcap hb hc hl
  exact ⟨h', cA, ⟨T', ls, X', e', N, st.trans (st' _ (Steps.refl _))⟩, E, A⟩
theorem OwnW.getF (r : OwnW (p := p) (l := l) (e := e) (R := R) (s := s) (m := m) (args := args) (below := below) (meth := meth) (c := c) s0 n0 pc L S h kc ks)
    (hx : p.tables.exec = Jvm.exec) (hZ : Z.Warmed39 s.vm) {own O n d : String} {index : Nat} (hown : s.vm.findClass own = some m.cls) (w : (Jvm.Cond.fieldLink own index O n d).before a0 Z = true) {a : Addr} {v : Value} (F : Fld Z h a O n d v)
    {rest : List Value} (hs : S = .ref a :: rest) (hd : decode c.code pc = .ok (.getfield index, 3)) :
    OwnW (p := p) (l := l) (e := e) (R := R) (s := s) (m := m) (args := args) (below := below) (meth := meth) (c := c) s0 n0 (pc + 3) L (v :: rest) h kc ks :=
  r.goT fun T ls X eT => Jvm.RoadKit.getF X hx hZ hown (host := "") (Or.inl w) Via.refl eT F (g := mkF m pc L S) rfl hs hd
theorem OwnW.getS (r : OwnW (p := p) (l := l) (e := e) (R := R) (s := s) (m := m) (args := args) (below := below) (meth := meth) (c := c) s0 n0 pc L S h kc ks)
    (hx : p.tables.exec = Jvm.exec) (hZ : Z.Warmed39 s.vm) {own O n d : String} {index : Nat} (hown : s.vm.findClass own = some m.cls) (w : (Jvm.Cond.fieldLink own index O n d).before a0 Z = true) {v : Value} (F : Sta Z h O n d v)
    (hd : decode c.code pc = .ok (.getstatic index, 3)) :
    OwnW (p := p) (l := l) (e := e) (R := R) (s := s) (m := m) (args := args) (below := below) (meth := meth) (c := c) s0 n0 (pc + 3) L (v :: S) h kc ks :=
  r.goT fun T ls X eT => Jvm.RoadKit.getS X hx hZ (host := "") hown w Via.refl eT F (g := mkF m pc L S) rfl hd
theorem OwnW.putF (r : OwnW (p := p) (l := l) (e := e) (R := R) (s := s) (m := m) (args := args) (below := below) (meth := meth) (c := c) s0 n0 pc L S h kc ks)
    (hx : p.tables.exec = Jvm.exec) (hZ : Z.Warmed39 s.vm) {own O n d C : String} {index kk : Nat} {ty : FieldType} (hown : s.vm.findClass own = some m.cls) (w : (Jvm.Cond.fieldLink own index O n d).before a0 Z = true) {a : Addr} {v old : Value} (F : Fld Z h a O n d old) (E : Exa Z h a C)
    (Lw : (Jvm.Cond.lays C O n d).before a0 Z = true ∨ ((Jvm.Cond.laysFinal C O n d).before a0 Z = true ∧ own = O ∧ meth.name = "<init>")) (wi : (Jvm.Cond.instantiable C kk).before a0 Z = true)
    (hty : parseFieldDescriptor d = some ty) (hn : narrow ty v = v) (hf : fits ty v = true) {rest : List Value} (hs : S = v :: .ref a :: rest) (hd : decode c.code pc = .ok (.putfield index, 3)) (g : n0 ≤ a) :
    ∃ h', OwnW (p := p) (l := l) (e := e) (R := R) (s := s) (m := m) (args := args) (below := below) (meth := meth) (c := c) s0 n0 (pc + 3) L rest h' kc ks ∧ Wr h h' a (Jvm.RoadKit.slotOf Z O n d) v := by
  obtain ⟨T, ls, X, eT, N, st⟩ := r
  obtain ⟨T', h', X', e', W', st'⟩ := Jvm.RoadKit.putF X hx hZ hown (host := "") (Or.inl w) Via.refl eT F E Lw wi hty hn hf (g := mkF m pc L S) rfl hs hd
  exact ⟨h', ⟨T', _, X', e', Fr.snoc X' N g, st.trans (st' _ (Steps.refl _))⟩, W'⟩
theorem OwnW.callS (r : OwnW (p := p) (l := l) (e := e) (R := R) (s := s) (m := m) (args := args) (below := below) (meth := meth) (c := c) s0 n0 pc L S h kc ks)
    (hx : p.tables.exec = Jvm.exec) (hZ : Z.Warmed39 s.vm) {own : String} {index : Nat} {y : MethodName} {bytes : ByteArray} {maxL : Nat} {ret : Option FieldType} {rm : Room} {Q : Option Value → Heap → Prop} (hown : s.vm.findClass own = some m.cls)
    (w1 : (Jvm.Cond.methodLink own index y).before a0 Z = true) (w2 : (Jvm.Cond.static y).before a0 Z = true) (w3 : (Jvm.Cond.initialized y.cls).before a0 Z = true) (w4 : (Jvm.Cond.code y bytes maxL ret).before a0 Z = true)
    (hy : y.cls ≠ "java/lang/invoke/MethodHandle" ∧ y.cls ≠ "java/lang/invoke/VarHandle") {argsL : List Value} (K : OwnCon l Z y bytes maxL ret rm argsL.toArray h n0 Q) (rest : List Value) (W : Nat)
    (hf : rm.frames + 1 ≤ R.frames) (hl : W + (maxL + 11) + rm.locals ≤ R.locals) (hsize : L.size = c.maxLocals) (hlen : ∀ sig, parseMethodDescriptor y.desc = some sig → argsL.length = sig.parameters.length)
    (hs : S = argsL.reverse ++ rest) (hW : (rest.map fun v => v.category).sum ≤ W) (hd : decode c.code pc = .ok (.invokestatic index, 3)) (hc : kc + rm.cells ≤ R.cells) (hsl : ks + rm.slots ≤ R.slots) :
    ∃ v h', OwnW (p := p) (l := l) (e := e) (R := R) (s := s) (m := m) (args := args) (below := below) (meth := meth) (c := c) s0 n0 (pc + 3) L (v.toList ++ rest) h' (kc + rm.cells) (ks + rm.slots) ∧ Q v h' := by
  obtain ⟨T, ls, X, eT, N, st⟩ := r
  obtain ⟨v, vm₁, ⟨T', L', k', n'⟩, -, X', ⟨Lc, hQ, l', y', z'⟩, st'⟩ := Jvm.LawKit.callS X hx (y := y) hown (mvT hZ w1) (mvT hZ w2) (mvT hZ w3) (mvT hZ w4) hy (backOf (W := W) (Q := fun v h L => Fr n0 L ∧ Q v h) (K []) hZ w4 w3 hf hl) (g := mkF m pc L S) rfl hsize (argsL := argsL) (rest := rest) hlen hs (by show 2 * 0 + _ ≤ _; omega) hd (fun _ _ => ⟨rfl, eT, hc, hsl⟩)
  dsimp only [Pt.U, Pt.locs, Pt.cells, Pt.slots] at X' l' y' z' st' hQ
  subst l' y' z'
  exact ⟨v, _, ⟨T', _, X', rfl, N.app hQ.1, st.trans (st' _ (Steps.refl _))⟩, hQ.2⟩
theorem OwnW.callN (r : OwnW (p := p) (l := l) (e := e) (R := R) (s := s) (m := m) (args := args) (below := below) (meth := meth) (c := c) s0 n0 pc L S h kc ks)
    (hx : p.tables.exec = Jvm.exec) (hZ : Z.Warmed39 s.vm) {own : String} {index : Nat} {y : MethodName} {bytes : ByteArray} {maxL : Nat} {rm : Room} {Q : Option Value → Heap → Prop} (hy1 : y.name = "<init>") (hown : s.vm.findClass own = some m.cls)
    (w1 : (Jvm.Cond.methodLink own index y).before a0 Z = true) (w2 : (Jvm.Cond.instanceMethod y).before a0 Z = true) (w3 : (Jvm.Cond.initialized y.cls).before a0 Z = true) (w4 : (Jvm.Cond.code y bytes maxL none).before a0 Z = true)
    (hy : y.cls ≠ "java/lang/invoke/MethodHandle" ∧ y.cls ≠ "java/lang/invoke/VarHandle") {a : Addr} {argsL : List Value} (K : OwnCon l Z y bytes maxL none rm (.ref a :: argsL).toArray h n0 Q) (rest : List Value) (W : Nat)
    (hf : rm.frames + 1 ≤ R.frames) (hl : W + (maxL + 11) + rm.locals ≤ R.locals) (hsize : L.size = c.maxLocals) (hlen : ∀ sig, parseMethodDescriptor y.desc = some sig → argsL.length = sig.parameters.length)
    (hs : S = argsL.reverse ++ .ref a :: rest) (hW : (rest.map fun v => v.category).sum ≤ W) (hd : decode c.code pc = .ok (.invokespecial index, 3)) (hc : kc + rm.cells ≤ R.cells) (hsl : ks + rm.slots ≤ R.slots) :
    ∃ v h', OwnW (p := p) (l := l) (e := e) (R := R) (s := s) (m := m) (args := args) (below := below) (meth := meth) (c := c) s0 n0 (pc + 3) L (v.toList ++ rest) h' (kc + rm.cells) (ks + rm.slots) ∧ Q v h' := by
  obtain ⟨T, ls, X, eT, N, st⟩ := r
  obtain ⟨v, vm₁, ⟨T', L', k', n'⟩, -, X', ⟨Lc, hQ, l', y', z'⟩, st'⟩ := X.specialBack hx (y := y) hy1 hown (mvT hZ w1) (mvT hZ w2) (mvT hZ w4) hy (backOf (W := W) (Q := fun v h L => Fr n0 L ∧ Q v h) (K []) hZ w4 w3 hf hl) (g := mkF m pc L S) rfl hsize st (a := a) (argsL := argsL) (rest := rest) hlen hs (by show 2 * 0 + _ ≤ _; omega) hd (fun _ _ => ⟨rfl, eT, hc, hsl⟩)
  dsimp only [Pt.U, Pt.locs, Pt.cells, Pt.slots] at X' l' y' z' st' hQ
  subst l' y' z'
  exact ⟨v, _, ⟨T', _, X', rfl, N.app hQ.1, st'⟩, hQ.2⟩
theorem OwnW.callV (r : OwnW (p := p) (l := l) (e := e) (R := R) (s := s) (m := m) (args := args) (below := below) (meth := meth) (c := c) s0 n0 pc L S h kc ks)
    (hx : p.tables.exec = Jvm.exec) (hZ : Z.Warmed39 s.vm) {own C : String} {index : Nat} {y z : MethodName} {bytes : ByteArray} {maxL : Nat} {ret : Option FieldType} {rm : Room} {Q : Option Value → Heap → Prop} (hown : s.vm.findClass own = some m.cls)
    (w1 : (Jvm.Cond.methodLink own index y).before a0 Z = true) (w2 : (Jvm.Cond.declares y).before a0 Z = true) (w3 : (Jvm.Cond.selects C y z).before a0 Z = true) (w3' : NotFace s y) (w5 : (Jvm.Cond.instanceMethod z).before a0 Z = true) (w6 : (Jvm.Cond.initialized z.cls).before a0 Z = true) (w4 : (Jvm.Cond.code z bytes maxL ret).before a0 Z = true)
    (hy : y.cls ≠ "java/lang/invoke/MethodHandle" ∧ y.cls ≠ "java/lang/invoke/VarHandle") {a : Addr} {argsL : List Value} (E : Exa Z h a C) (K : OwnCon l Z z bytes maxL ret rm (.ref a :: argsL).toArray h n0 Q) (rest : List Value) (W : Nat)
    (hf : rm.frames + 1 ≤ R.frames) (hl : W + (maxL + 11) + rm.locals ≤ R.locals) (hsize : L.size = c.maxLocals) (hlen : ∀ sig, parseMethodDescriptor y.desc = some sig → argsL.length = sig.parameters.length)
    (hs : S = argsL.reverse ++ .ref a :: rest) (hW : (rest.map fun v => v.category).sum ≤ W) (hd : decode c.code pc = .ok (.invokevirtual index, 3)) (hc : kc + rm.cells ≤ R.cells) (hsl : ks + rm.slots ≤ R.slots) :
    ∃ v h', OwnW (p := p) (l := l) (e := e) (R := R) (s := s) (m := m) (args := args) (below := below) (meth := meth) (c := c) s0 n0 (pc + 3) L (v.toList ++ rest) h' (kc + rm.cells) (ks + rm.slots) ∧ Q v h' := by
  obtain ⟨T, ls, X, eT, N, st⟩ := r
  obtain ⟨cq, kq, qa, qb, qc⟩ := isOf hZ eT E
  obtain ⟨v, vm₁, ⟨T', L', k', n'⟩, -, X', ⟨Lc, hQ, l', y', z'⟩, st'⟩ := X.virtualBack hx (y := y) (z := z) hown (mvT hZ w1) (mvT hZ w2) w3' (mvT hZ w3) (mvT hZ w5) hy (backOf (W := W) (Q := fun v h L => Fr n0 L ∧ Q v h) (K []) hZ w4 w6 hf hl) qa qc (g := mkF m pc L S) rfl hsize st (argsL := argsL) (rest := rest) hlen hs (by show 2 * 0 + _ ≤ _; omega) hd (fun _ _ => ⟨rfl, eT, hc, hsl⟩)
  dsimp only [Pt.U, Pt.locs, Pt.cells, Pt.slots] at X' l' y' z' st' hQ
  subst l' y' z'
  exact ⟨v, _, ⟨T', _, X', rfl, N.app hQ.1, st'⟩, hQ.2⟩
theorem OwnW.retN (r : OwnW (p := p) (l := l) (e := e) (R := R) (s := s) (m := m) (args := args) (below := below) (meth := meth) (c := c) s0 n0 pc L S h kc ks)
    (hx : p.tables.exec = Jvm.exec) {t : FieldType} (hret : meth.sig.returnType = some t) (ht : t = .boolean ∨ t = .byte ∨ t = .char ∨ t = .short) {z : Int32} {rest : List Value} (hs : S = .int z :: rest) (hd : decode c.code pc = .ok (.ireturn, 1)) :
    OwnEnd (p := p) (l := l) (e := e) (R := R) (s := s) (m := m) (args := args) (below := below) (meth := meth) (c := c) s0 n0 (some (.int (nar t z))) h kc ks := by
  subst hs
  obtain ⟨T, ls, X, eT, N, st⟩ := r
  exact ⟨T, ls, X, eT, N, (fun q => by rw [hret] at q; cases q), fun fs hl => st.trans (Jvm.RoadKit.retN X hx hret ht hd hl)⟩
theorem OwnW.retW (r : OwnW (p := p) (l := l) (e := e) (R := R) (s := s) (m := m) (args := args) (below := below) (meth := meth) (c := c) s0 n0 pc L S h kc ks)
    (hx : p.tables.exec = Jvm.exec) {t : FieldType} {w : Value} {i : Instr} (hret : meth.sig.returnType = some t) (hn : narrow t w = w) {rest : List Value} (hs : S = w :: rest)
    (hi : (i = .ireturn ∧ (t = .int ∨ t = .boolean ∨ t = .byte ∨ t = .char ∨ t = .short) ∧ ∃ z, w = .int z) ∨ (i = .lreturn ∧ t = .long ∧ ∃ z, w = .long z) ∨ (i = .dreturn ∧ t = .double ∧ ∃ z, w = .double z) ∨ (i = .freturn ∧ t = .float ∧ ∃ z, w = .float z) ∨ (i = .areturn ∧ t.isReference = true ∧ w.isRef = true))
    (hd : decode c.code pc = .ok (i, 1)) :
    OwnEnd (p := p) (l := l) (e := e) (R := R) (s := s) (m := m) (args := args) (below := below) (meth := meth) (c := c) s0 n0 (some w) h kc ks := by
  subst hs
  obtain ⟨T, ls, X, eT, N, st⟩ := r
  exact ⟨T, ls, X, eT, N, (fun q => by rw [hret] at q; cases q), fun fs hl => st.trans (Jvm.RoadKit.retOut X hx hret hn hi hd hl)⟩
theorem OwnW.retV (r : OwnW (p := p) (l := l) (e := e) (R := R) (s := s) (m := m) (args := args) (below := below) (meth := meth) (c := c) s0 n0 pc L [] h kc ks)
    (hx : p.tables.exec = Jvm.exec) (hret : meth.sig.returnType = none) (hd : decode c.code pc = .ok (.return_, 1)) :
    OwnEnd (p := p) (l := l) (e := e) (R := R) (s := s) (m := m) (args := args) (below := below) (meth := meth) (c := c) s0 n0 none h kc ks := by
  obtain ⟨T, ls, X, eT, N, st⟩ := r
  exact ⟨T, ls, X, eT, N, fun _ => rfl, fun fs hl => st.trans (X.returnOut hx hret hd hl)⟩
theorem OwnCon.of {y : MethodName} {bytes : ByteArray} {maxL : Nat} {ret : Option FieldType} {rm : Room} {A : Array Value} {h0 : Heap} {Q : Option Value → Heap → Prop} {L0 : Array Slot} (pn : plainName y.cls = true) (ef : ∀ m : MethodId, entryFrame m A maxL = mkF m 0 L0 [])
    (H : ∀ (p : Program) (e : Env) (s : State) (m : MethodId) (below : List Frame) (meth : Method) (c : Code) (s0 : State), p.tables.exec = Jvm.exec → c.code = bytes → c.maxLocals = maxL → s.vm.findClass y.cls = some m.cls → meth.name = y.name → meth.sig.returnType = ret → Z.Warmed39 s.vm →
      OwnW (p := p) (l := l) (e := e) (R := rm) (s := s) (m := m) (args := A) (below := below) (meth := meth) (c := c) s0 n0 0 L0 [] h0 0 0 →
      ∃ v h' k n, Q v h' ∧ k ≤ rm.cells ∧ n ≤ rm.slots ∧ OwnEnd (p := p) (l := l) (e := e) (R := rm) (s := s) (m := m) (args := A) (below := below) (meth := meth) (c := c) s0 n0 v h' k n) :
    OwnCon l Z y bytes maxL ret rm A h0 n0 Q := by
  intro ws
  refine MetFree.of_bodySF (plainFor_of_name pn) hisR ?_
  intro p e s m args below meth c s₁ Bd hml hP hK
  obtain ⟨rfl, hZ, hh⟩ := hP
  have X0 : Stand p l e rm s m args below meth c s₁ [] 0 0 := Stand.of_body Bd
  have e0 : s₁.heap = h0 := by rw [← hh, Bd.state]; rfl
  obtain ⟨v, h', k, n, hQ, hk, hn, T, ls, X, eT, N, hv, st⟩ := H p e s m below meth c (s₁.setTop (entryFrame m args maxL)) Bd.exec Bd.bytes hml (findClass_of_methodNamed Bd.named) (name_of_methodNamed Bd.named Bd.method).1 Bd.returns hZ
    ⟨s₁, [], X0, e0, Fr.nil n0, by rw [ef m]; exact Steps.refl _⟩
  obtain ⟨fs, hr, hrun, hended, hW, hsame⟩ := X.leave (v := v) hv
  exact ⟨_, _, st fs hr, hrun, hended, v, ls, rfl, ⟨N, by show Q v T.heap; rw [eT]; exact hQ⟩, ⟨_, rfl⟩, hW, hsame.mono hk hn⟩
end OwnKit
/-! arrays of a known list of values -/
section OwnArr
variable {p : Program} {l : Launch} {e : Env} {R : Room} {s : State} {m : MethodId} {args : Array Value} {below : List Frame} {meth : Method} {c : Code} {s0 : State} {n0 pc pc' : Nat} {L L' : Array Slot} {S S' : List Value} {h h' h0 : Heap} {kc ks : Nat} {Z : State} {a0 : Array Value} {a b : Addr} {ty : FieldType} {vs : List Value}
def OwnAr (Z : State) (h : Heap) (a : Addr) (ty : FieldType) (vs : List Value) : Prop := ∃ cl : Cell, Arr Z h a cl ty ∧ cl.slots.toList = vs
theorem OwnAr.ext (E : Ext h h') (F : OwnAr Z h a ty vs) : OwnAr Z h' a ty vs := by obtain ⟨cl, A, q⟩ := F; exact ⟨cl, A.ext E, q⟩
theorem OwnAr.other {sl : Nat} {v : Value} (W : Wr h h' b sl v) (F : OwnAr Z h a ty vs) (ne : a ≠ b) : OwnAr Z h' a ty vs := by obtain ⟨cl, A, q⟩ := F; exact ⟨cl, A.other W ne, q⟩
theorem OwnAr.lt (F : OwnAr Z h a ty vs) : a < h.size := by obtain ⟨cl, A, q⟩ := F; exact A.lt
theorem OwnAr.wr {k : Nat} {v : Value} (W : Wr h h' a k v) (F : OwnAr Z h a ty vs) : OwnAr Z h' a ty (vs.set k v) := by
  obtain ⟨cl, A, q⟩ := F
  exact ⟨_, A.same W, by simp [Cell.setSlot, q]⟩
theorem OwnAr.new {cA : ClassId} {n : Int32} (A : Arr Z h a (newA cA ty n) ty) : OwnAr Z h a ty (List.replicate n.toNatClampNeg (defaultValue ty)) := ⟨_, A, by simp [newA]⟩
theorem OwnAr.inb (F : OwnAr Z h a ty vs) {j : Int32} (hj : ¬ j < 0) (hl : j.toNatClampNeg < vs.length) {cl : Cell} (hc : h[a]? = some cl) : ¬ (j < 0 ∨ cl.slots.size ≤ j.toNatClampNeg) := by
  obtain ⟨cl', A, q⟩ := F
  cases A.1.symm.trans hc
  have : cl.slots.size = vs.length := by rw [← q, Array.length_toList]
  rintro (u | u)
  · exact hj u
  · omega
theorem own_ext_refl (h : Heap) : Ext h h := ⟨Nat.le_refl _, fun _ _ q => q⟩
theorem own_ext_trans {h1 h2 h3 : Heap} (E : Ext h1 h2) (E' : Ext h2 h3) : Ext h1 h3 := ⟨Nat.le_trans E.1 E'.1, fun x cl q => E'.2 x cl (E.2 x cl q)⟩
theorem own_ext_wr {sl : Nat} {v : Value} (E : Ext h0 h) (W : Wr h h' a sl v) (q : h0.size ≤ a) : Ext h0 h' :=
  ⟨by rw [W.size]; exact E.1, fun x cl hx => (Keep.of_wr W).2.1 x cl (E.2 x cl hx) (by
    intro z
    cases List.mem_singleton.mp z
    exact absurd (Array.getElem?_eq_some_iff.mp hx).1 (Nat.not_lt.mpr q))⟩
theorem own_fld_inj {C n d : String} {v w : Value} (F : Fld Z h a C n d v) (G : Fld Z h a C n d w) : v = w := by
  obtain ⟨c1, f1, k1, i1, g1, h1, h2, -, -, -, -, h7⟩ := F
  obtain ⟨c2, f2, k2, i2, g2, j1, j2, -, -, -, -, j7⟩ := G
  cases h1.symm.trans j1
  cases h2.symm.trans j2
  exact Option.some.inj (h7.symm.trans j7)
theorem own_ne {C n d : String} {v w : Value} (F : Fld Z h a C n d v) (G : Fld Z h b C n d w) (hn : v ≠ w) : a ≠ b := fun q => by subst q; exact hn (own_fld_inj F G)
theorem own_rne (q : a ≠ b) : decide ((Value.ref a) = (Value.ref b)) = false := decide_eq_false fun u => q (Value.ref.inj u)
theorem OwnW.aaload (r : OwnW (p := p) (l := l) (e := e) (R := R) (s := s) (m := m) (args := args) (below := below) (meth := meth) (c := c) s0 n0 pc L S h kc ks)
    (hx : p.tables.exec = Jvm.exec) (hZ : Z.Warmed39 s.vm) (F : OwnAr Z h a ty vs) (hty : ty.isReference = true) {j : Int32} {v : Value} (hj : ¬ j < 0) (hv : vs[j.toNatClampNeg]? = some v) {rest : List Value} (hs : S = .int j :: .ref a :: rest) (hd : decode c.code pc = .ok (.aaload, 1)) :
    OwnW (p := p) (l := l) (e := e) (R := R) (s := s) (m := m) (args := args) (below := below) (meth := meth) (c := c) s0 n0 (pc + 1) L (v :: rest) h kc ks := by
  obtain ⟨cl, A, q⟩ := F
  have hl : j.toNatClampNeg < vs.length := (List.getElem?_eq_some_iff.mp hv).1
  exact r.goX fun T t ls X eT k => X.aaload hx (j := j) (v := v) (by rw [eT]; exact A.1) (State.isArrayOf_alike hZ.alike A.2.1) hty A.2.2 (OwnAr.inb ⟨cl, A, q⟩ hj hl A.1) (by rw [← Array.getElem?_toList, q]; exact hv) (g := mkF m pc L S) rfl hs hd t k
theorem OwnW.baloadZ (r : OwnW (p := p) (l := l) (e := e) (R := R) (s := s) (m := m) (args := args) (below := below) (meth := meth) (c := c) s0 n0 pc L S h kc ks)
    (hx : p.tables.exec = Jvm.exec) (hZ : Z.Warmed39 s.vm) (F : OwnAr Z h a .boolean vs) {j : Int32} {v : Value} (hj : ¬ j < 0) (hv : vs[j.toNatClampNeg]? = some v) {rest : List Value} (hs : S = .int j :: .ref a :: rest) (hd : decode c.code pc = .ok (.baload, 1)) :
    OwnW (p := p) (l := l) (e := e) (R := R) (s := s) (m := m) (args := args) (below := below) (meth := meth) (c := c) s0 n0 (pc + 1) L (v :: rest) h kc ks := by
  obtain ⟨cl, A, q⟩ := F
  have hl : j.toNatClampNeg < vs.length := (List.getElem?_eq_some_iff.mp hv).1
  exact r.goX fun T t ls X eT k => X.baloadBooleans hx (j := j) (v := v) (by rw [eT]; exact A.1) (State.isArrayOf_alike hZ.alike A.2.1) A.2.2 (OwnAr.inb ⟨cl, A, q⟩ hj hl A.1) (by rw [← Array.getElem?_toList, q]; exact hv) (g := mkF m pc L S) rfl hs hd t k
theorem OwnW.alen (r : OwnW (p := p) (l := l) (e := e) (R := R) (s := s) (m := m) (args := args) (below := below) (meth := meth) (c := c) s0 n0 pc L S h kc ks)
    (hx : p.tables.exec = Jvm.exec) (hZ : Z.Warmed39 s.vm) (F : OwnAr Z h a ty vs) {n : Int32} (hn : vs.length.toInt32 = n) {rest : List Value} (hs : S = .ref a :: rest) (hd : decode c.code pc = .ok (.arraylength, 1)) :
    OwnW (p := p) (l := l) (e := e) (R := R) (s := s) (m := m) (args := args) (below := below) (meth := meth) (c := c) s0 n0 (pc + 1) L (.int n :: rest) h kc ks := by
  obtain ⟨cl, A, q⟩ := F
  have e1 : cl.slots.size.toInt32 = n := by rw [← hn, ← q, Array.length_toList]
  exact r.goX fun T t ls X eT k => X.arraylength hx (by rw [eT]; exact A.1) (State.isArrayOf_alike hZ.alike A.2.1) (g := mkF m pc L S) rfl hs hd t (by rw [e1]; exact k)
theorem OwnW.newR (r : OwnW (p := p) (l := l) (e := e) (R := R) (s := s) (m := m) (args := args) (below := below) (meth := meth) (c := c) s0 n0 pc L S h kc ks)
    (hx : p.tables.exec = Jvm.exec) (hZ : Z.Warmed39 s.vm) {own C : String} {index : Nat} (hown : s.vm.findClass own = some m.cls) (w1 : (Jvm.Cond.classLink own index C).before a0 Z = true) (w2 : (Jvm.Cond.arrayOver (.object C)).before a0 Z = true) (hd : decode c.code pc = .ok (.anewarray index, 3)) {n : Int32} {rest : List Value} (hs : S = .int n :: rest)
    (hn : ¬ n < 0) {cap : Nat} (hcap : n.toNatClampNeg ≤ cap) (hb : cap * 8 ≤ 536870912) (hc : kc + 1 ≤ R.cells) (hl : ks + cap ≤ R.slots) :
    ∃ h' cA, OwnW (p := p) (l := l) (e := e) (R := R) (s := s) (m := m) (args := args) (below := below) (meth := meth) (c := c) s0 n0 (pc + 3) L (.ref h.size :: rest) h' (kc + 1) (ks + cap) ∧ Ext h h' ∧ Arr Z h' h.size (newA cA (.object C) n) (.object C) ∧ Ovr Z cA C := by
  obtain ⟨T, ls, X, eT, N, st⟩ := r
  obtain ⟨T', h', cA, X', e', E, A, O, st'⟩ := Jvm.RoadKit.newR X hx hZ hown w1 w2 eT (g := mkF m pc L S) rfl hd hs hn hcap hb hc hl
  exact ⟨h', cA, ⟨T', ls, X', e', N, st.trans (st' _ (Steps.refl _))⟩, E, A, O⟩
/-- an array of C's own kind of cells takes an object of C -/
theorem own_sto {C : String} {cA : ClassId} (F : ∃ cl : Cell, Arr Z h a cl ty ∧ cl.slots.toList = vs ∧ cl.cls = cA) (O : Ovr Z cA C) (I : Exa Z h b C) : Sto Z h a (.ref b) := by
  obtain ⟨cl, A, -, q⟩ := F
  exact Sto.ofV A q O (Ins.self I)
def OwnArK (Z : State) (h : Heap) (a : Addr) (ty : FieldType) (vs : List Value) (cA : ClassId) : Prop := ∃ cl : Cell, Arr Z h a cl ty ∧ cl.slots.toList = vs ∧ cl.cls = cA
theorem OwnArK.plain {cA : ClassId} (F : OwnArK Z h a ty vs cA) : OwnAr Z h a ty vs := by obtain ⟨cl, A, q, -⟩ := F; exact ⟨cl, A, q⟩
theorem OwnArK.wr {cA : ClassId} {k : Nat} {v : Value} (W : Wr h h' a k v) (F : OwnArK Z h a ty vs cA) : OwnArK Z h' a ty (vs.set k v) cA := by
  obtain ⟨cl, A, q, u⟩ := F
  exact ⟨_, A.same W, by simp [Cell.setSlot, q], u⟩
theorem OwnW.stR (r : OwnW (p := p) (l := l) (e := e) (R := R) (s := s) (m := m) (args := args) (below := below) (meth := meth) (c := c) s0 n0 pc L S h kc ks)
    (hx : p.tables.exec = Jvm.exec) (hZ : Z.Warmed39 s.vm) {C : String} {cA : ClassId} (F : OwnArK Z h a ty vs cA) (O : Ovr Z cA C) (hty : ty.isReference = true) (I : Exa Z h b C) {j : Int32} (hj : ¬ j < 0) (hl : j.toNatClampNeg < vs.length) (g : n0 ≤ a) {rest : List Value} (hs : S = .ref b :: .int j :: .ref a :: rest) (hd : decode c.code pc = .ok (.aastore, 1)) :
    ∃ h', OwnW (p := p) (l := l) (e := e) (R := R) (s := s) (m := m) (args := args) (below := below) (meth := meth) (c := c) s0 n0 (pc + 1) L rest h' kc ks ∧ Wr h h' a j.toNatClampNeg (.ref b) := by
  obtain ⟨T, ls, X, eT, N, st⟩ := r
  have Fs := own_sto F O I
  obtain ⟨cl, A, q, u⟩ := F
  obtain ⟨T', h', X', e', W', st'⟩ := Jvm.RoadKit.stR X hx hZ eT A (j := j) (OwnAr.inb ⟨cl, A, q⟩ hj hl A.1) hty Fs (g := mkF m pc L S) rfl hs hd
  exact ⟨h', ⟨T', _, X', e', Fr.snoc X' N g, st.trans (st' _ (Steps.refl _))⟩, W'⟩
theorem OwnW.stZ (r : OwnW (p := p) (l := l) (e := e) (R := R) (s := s) (m := m) (args := args) (below := below) (meth := meth) (c := c) s0 n0 pc L S h kc ks)
    (hx : p.tables.exec = Jvm.exec) (hZ : Z.Warmed39 s.vm) (F : OwnAr Z h a .boolean vs) {j x : Int32} (hj : ¬ j < 0) (hl : j.toNatClampNeg < vs.length) (g : n0 ≤ a) {rest : List Value} (hs : S = .int x :: .int j :: .ref a :: rest) (hd : decode c.code pc = .ok (.bastore, 1)) :
    ∃ h', OwnW (p := p) (l := l) (e := e) (R := R) (s := s) (m := m) (args := args) (below := below) (meth := meth) (c := c) s0 n0 (pc + 1) L rest h' kc ks ∧ Wr h h' a j.toNatClampNeg (.int (nar .boolean x)) := by
  obtain ⟨T, ls, X, eT, N, st⟩ := r
  obtain ⟨cl, A, q⟩ := F
  obtain ⟨T', h', X', e', W', st'⟩ := Jvm.RoadKit.stZ X hx hZ eT A (j := j) (x := x) (OwnAr.inb ⟨cl, A, q⟩ hj hl A.1) (g := mkF m pc L S) rfl hs hd
  exact ⟨h', ⟨T', _, X', e', Fr.snoc X' N g, st.trans (st' _ (Steps.refl _))⟩, W'⟩
theorem OwnW.stB (r : OwnW (p := p) (l := l) (e := e) (R := R) (s := s) (m := m) (args := args) (below := below) (meth := meth) (c := c) s0 n0 pc L S h kc ks)
    (hx : p.tables.exec = Jvm.exec) (hZ : Z.Warmed39 s.vm) (F : OwnAr Z h a .byte vs) {j x : Int32} (hj : ¬ j < 0) (hl : j.toNatClampNeg < vs.length) (g : n0 ≤ a) {rest : List Value} (hs : S = .int x :: .int j :: .ref a :: rest) (hd : decode c.code pc = .ok (.bastore, 1)) :
    ∃ h', OwnW (p := p) (l := l) (e := e) (R := R) (s := s) (m := m) (args := args) (below := below) (meth := meth) (c := c) s0 n0 (pc + 1) L rest h' kc ks ∧ Wr h h' a j.toNatClampNeg (.int (nar .byte x)) := by
  obtain ⟨T, ls, X, eT, N, st⟩ := r
  obtain ⟨cl, A, q⟩ := F
  obtain ⟨T', h', X', e', W', st'⟩ := Jvm.RoadKit.stB X hx hZ eT A (j := j) (x := x) (OwnAr.inb ⟨cl, A, q⟩ hj hl A.1) (g := mkF m pc L S) rfl hs hd
  exact ⟨h', ⟨T', _, X', e', Fr.snoc X' N g, st.trans (st' _ (Steps.refl _))⟩, W'⟩
theorem OwnW.cast (r : OwnW (p := p) (l := l) (e := e) (R := R) (s := s) (m := m) (args := args) (below := below) (meth := meth) (c := c) s0 n0 pc L S h kc ks)
    (hx : p.tables.exec = Jvm.exec) (hZ : Z.Warmed39 s.vm) {own K : String} {index : Nat} (hown : s.vm.findClass own = some m.cls) (w : (Jvm.Cond.classLink own index K).before a0 Z = true) (F : Ins Z h a K true) {rest : List Value} (hs : S = .ref a :: rest) (hd : decode c.code pc = .ok (.checkcast index, 3)) :
    OwnW (p := p) (l := l) (e := e) (R := R) (s := s) (m := m) (args := args) (below := below) (meth := meth) (c := c) s0 n0 (pc + 3) L S h kc ks :=
  r.goT fun T ls X eT => Jvm.RoadKit.castY X hx hZ hown w eT F (g := mkF m pc L S) rfl hs hd
theorem OwnW.castN (r : OwnW (p := p) (l := l) (e := e) (R := R) (s := s) (m := m) (args := args) (below := below) (meth := meth) (c := c) s0 n0 pc L S h kc ks)
    (hx : p.tables.exec = Jvm.exec) {index : Nat} {rest : List Value} (hs : S = .null :: rest) (hd : decode c.code pc = .ok (.checkcast index, 3)) :
    OwnW (p := p) (l := l) (e := e) (R := R) (s := s) (m := m) (args := args) (below := below) (meth := meth) (c := c) s0 n0 (pc + 3) L S h kc ks :=
  r.goX fun T t ls X eT k => X.checkcastNull hx (g := mkF m pc L S) rfl hs hd t k
theorem OwnW.inst (r : OwnW (p := p) (l := l) (e := e) (R := R) (s := s) (m := m) (args := args) (below := below) (meth := meth) (c := c) s0 n0 pc L S h kc ks)
    (hx : p.tables.exec = Jvm.exec) (hZ : Z.Warmed39 s.vm) {own K : String} {index : Nat} (hown : s.vm.findClass own = some m.cls) (w : (Jvm.Cond.classLink own index K).before a0 Z = true) (F : Ins Z h a K true) {rest : List Value} (hs : S = .ref a :: rest) (hd : decode c.code pc = .ok (.instanceof index, 3)) :
    OwnW (p := p) (l := l) (e := e) (R := R) (s := s) (m := m) (args := args) (below := below) (meth := meth) (c := c) s0 n0 (pc + 3) L (.int 1 :: rest) h kc ks :=
  r.goT fun T ls X eT => Jvm.RoadKit.instY X hx hZ hown w eT F (g := mkF m pc L S) rfl hs hd
theorem OwnW.clone (r : OwnW (p := p) (l := l) (e := e) (R := R) (s := s) (m := m) (args := args) (below := below) (meth := meth) (c := c) s0 n0 pc L S h kc ks)
    (hx : p.tables.exec = Jvm.exec) (hZ : Z.Warmed39 s.vm) {own ad : String} {index : Nat} (hown : s.vm.findClass own = some m.cls)
    (w1 : (Jvm.Cond.methodLink own index ⟨ad, "clone", "()Ljava/lang/Object;"⟩).before a0 Z = true) (w2 : (Jvm.Cond.sameMethod ad "java/lang/Object" "clone" "()Ljava/lang/Object;").before a0 Z = true) (w3 : (Jvm.Cond.native ⟨"java/lang/Object", "clone", "()Ljava/lang/Object;"⟩).before a0 Z = true)
    (w4 : (Jvm.Cond.instanceMethod ⟨"java/lang/Object", "clone", "()Ljava/lang/Object;"⟩).before a0 Z = true) (w5 : (Jvm.Cond.selects ad ⟨ad, "clone", "()Ljava/lang/Object;"⟩ ⟨"java/lang/Object", "clone", "()Ljava/lang/Object;"⟩).before a0 Z = true) (w6 : (Jvm.Cond.castable ad "java/lang/Cloneable").before a0 Z = true)
    (F : OwnAr Z h a ty vs) (E : Exa Z h a ad) (hfit : ∀ v ∈ vs, fits ty v = true) (hsize : L.size = c.maxLocals) {rest : List Value} (hs : S = .ref a :: rest) (hd : decode c.code pc = .ok (.invokevirtual index, 3))
    (hf : 1 ≤ R.frames) (W cap : Nat) (hW : (rest.map fun v => v.category).sum ≤ W) (hl : W + 14 ≤ R.locals) (hcap : vs.length ≤ cap) (hc : kc + 1 ≤ R.cells) (hsl : ks + cap ≤ R.slots) :
    ∃ h', OwnW (p := p) (l := l) (e := e) (R := R) (s := s) (m := m) (args := args) (below := below) (meth := meth) (c := c) s0 n0 (pc + 3) L (.ref h.size :: rest) h' (kc + 1) (ks + cap) ∧ Ext h h' ∧ OwnAr Z h' h.size ty vs ∧ Exa Z h' h.size ad := by
  obtain ⟨T, ls, X, eT, N, st⟩ := r
  obtain ⟨cl, A, q⟩ := F
  have FC : FitC Z cl := fitC_of A fun i hi v hv => hfit v (by rw [← q]; exact Array.mem_toList_iff.mpr (Array.mem_of_getElem? hv))
  obtain ⟨T', h', X', e', ex, A', E', st'⟩ := cloneA X hx hZ hown w1 w2 w3 w4 w5 w6 eT A E FC (g := mkF m pc L S) rfl hsize hs hd hf (W := W) (cap := cap) (by show 2 * 0 + _ ≤ _; omega) hl (by rw [← Array.length_toList, q]; exact hcap) hc hsl
  exact ⟨h', ⟨T', ls, X', e', N, st.trans (st' _ (Steps.refl _))⟩, ex, ⟨_, A', q⟩, E'⟩
/-! the case's words on the start -/
theorem own_eqv {args : Array Value} {s : State} {t u : Term} {v : Value} (hv : v = .null ∨ (∃ x, v = .ref x) ∨ ∃ x, v = .int x) (hu : u.eval args s none [] s = some v) (q : (Jvm.Cond.eq t u).value args s none s [] = some true) : t.eval args s none [] s = some v := by
  cases ht : t.eval args s none [] s with
  | none => simp [Cond.value, ht] at q
  | some y => rcases hv with rfl | ⟨x, rfl⟩ | ⟨x, rfl⟩ <;> cases y <;> simp [Cond.value, ht, hu] at q ⊢ <;> exact q
theorem own_len {args : Array Value} {s : State} {t : Term} {n : Int32} {cl : Cell} (ht : t.eval args s none [] s = some (.ref a)) (hc : s.arrayAt? a = some cl) (q : (Term.length t).eval args s none [] s = some (.int n)) : cl.slots.size = n.toNatClampNeg := by
  by_cases hl : cl.slots.size < 2 ^ 31
  · rw [len_f ht hc hl] at q
    have e1 : cl.slots.size.toInt32 = n := by simpa using q
    rw [← e1]
    simp only [Int32.toNatClampNeg, len_toInt hl]
    rfl
  · simp [Term.eval, ht, hc, hl] at q
theorem own_list {cl : Cell} {vs : List Value} (hs : cl.slots.size = vs.length) (H : ∀ i, i < vs.length → cl.slots[i]? = vs[i]?) : cl.slots.toList = vs := by
  refine List.ext_getElem? fun i => ?_
  rw [Array.getElem?_toList]
  by_cases q : i < vs.length
  · exact H i q
  · rw [List.getElem?_eq_none (Nat.not_lt.mp q), Array.getElem?_eq_none (by rw [hs]; exact Nat.not_lt.mp q)]
end OwnArr
section OwnArr2
variable {h h' h0 : Heap} {Z : State} {a b : Addr} {ty : FieldType} {vs vs' : List Value}
theorem OwnArK.set {cA : ClassId} {j k : Nat} {v : Value} (F : OwnArK Z h a ty vs cA) (W : Wr h h' a j v) (hk : j = k) (hv : vs.set k v = vs') : OwnArK Z h' a ty vs' cA := by subst hk hv; exact F.wr W
theorem OwnAr.set {j k : Nat} {v : Value} (F : OwnAr Z h a ty vs) (W : Wr h h' a j v) (hk : j = k) (hv : vs.set k v = vs') : OwnAr Z h' a ty vs' := by subst hk hv; exact F.wr W
theorem OwnArK.new {cA : ClassId} {n : Int32} (A : Arr Z h a (newA cA ty n) ty) (hv : List.replicate n.toNatClampNeg (defaultValue ty) = vs) : OwnArK Z h a ty vs cA := ⟨_, A, by rw [← hv]; simp [newA], rfl⟩
theorem OwnAr.new' {cA : ClassId} {n : Int32} (A : Arr Z h a (newA cA ty n) ty) (hv : List.replicate n.toNatClampNeg (defaultValue ty) = vs) : OwnAr Z h a ty vs := ⟨_, A, by rw [← hv]; simp [newA]⟩
end OwnArr2
theorem own_ext_keep {h0 h h' : Heap} {a : Addr} (E : Ext h0 h) (K : Keep h h' [a]) (q : h0.size ≤ a) : Ext h0 h' :=
  ⟨Nat.le_trans E.1 K.1, fun x cl hx => K.2.1 x cl (E.2 x cl hx) (by
    intro z
    cases List.mem_singleton.mp z
    exact absurd (Array.getElem?_eq_some_iff.mp hx).1 (Nat.not_lt.mpr q))⟩
/-! the call of Object's own constructor -/
section OwnInit
variable {p : Program} {l : Launch} {e : Env} {R : Room} {s : State} {m : MethodId} {args : Array Value} {below : List Frame} {meth : Method} {c : Code} {s0 : State} {n0 pc pc' : Nat} {L L' : Array Slot} {S S' : List Value} {h h' : Heap} {kc ks : Nat} {Z : State} {a0 : Array Value}
theorem OwnW.initO (r : OwnW (p := p) (l := l) (e := e) (R := R) (s := s) (m := m) (args := args) (below := below) (meth := meth) (c := c) s0 n0 pc L S h kc ks)
    (hx : p.tables.exec = Jvm.exec) (hZ : Z.Warmed39 s.vm) {own : String} {idx : Nat} (hown : s.vm.findClass own = some m.cls) (w1 : (Jvm.Cond.methodLink own idx Lib.objectInit).before a0 Z = true) (w2 : (Jvm.Cond.instanceMethod Lib.objectInit).before a0 Z = true)
    (w3 : (Jvm.Cond.code Lib.objectInit object_method_1_code 1 none).before a0 Z = true) (hsize : L.size = c.maxLocals) {a : Addr} {rest : List Value} (hs : S = .ref a :: rest) (hd : decode c.code pc = .ok (.invokespecial idx, 3))
    (hf : 1 ≤ R.frames) (W : Nat) (hW : (rest.map fun v => v.category).sum ≤ W) (hl : W + 12 ≤ R.locals) :
    OwnW (p := p) (l := l) (e := e) (R := R) (s := s) (m := m) (args := args) (below := below) (meth := meth) (c := c) s0 n0 (pc + 3) L rest h kc ks := by
  obtain ⟨T, ls, X, eT, N, st⟩ := r
  obtain ⟨T', X', e', st'⟩ := Jvm.RoadKit.initO X hx hZ hown w1 w2 w3 eT (g := mkF m pc L S) rfl hsize hs hd hf (W := W) (by show 2 * 0 + _ ≤ _; omega) hl
  exact ⟨T', ls, X', e', N, st.trans (st' _ (Steps.refl _))⟩
end OwnInit
theorem own_pn0 : plainName "com/example/ample_proof/ampleproof/disputes/DisputePhase" = true := by first | (simp [plainName, overriddenIn]; done) | decide +kernel
theorem own_pn1 : plainName "java/util/Optional" = true := by first | (simp [plainName, overriddenIn]; done) | decide +kernel
theorem own_pn2 : plainName "java/util/Objects" = true := by first | (simp [plainName, overriddenIn]; done) | decide +kernel
theorem own_pn3 : plainName "com/example/ample_proof/ampleproof/disputes/DisputePhaseNextPinLaw" = true := by first | (simp [plainName, overriddenIn]; done) | decide +kernel
theorem own_pd0 : parseMethodDescriptor "(Ljava/lang/Object;)Ljava/lang/Object;" = some ⟨[(.object "java/lang/Object")], some (.object "java/lang/Object")⟩ := by decide +kernel
theorem own_pd1 : parseMethodDescriptor "(Ljava/lang/Object;)V" = some ⟨[(.object "java/lang/Object")], none⟩ := by decide +kernel
theorem own_pd2 : parseMethodDescriptor "()[Lcom/example/ample_proof/ampleproof/disputes/DisputePhase;" = some ⟨[], some (.array (.object "com/example/ample_proof/ampleproof/disputes/DisputePhase"))⟩ := by decide +kernel
theorem own_pd3 : parseMethodDescriptor "()Ljava/util/Optional;" = some ⟨[], some (.object "java/util/Optional")⟩ := by decide +kernel
theorem own_pd4 : parseMethodDescriptor "(Ljava/lang/Object;)Ljava/util/Optional;" = some ⟨[(.object "java/lang/Object")], some (.object "java/util/Optional")⟩ := by decide +kernel
theorem own_d1_0 : decode prog_8_method_4_code 0 = .ok (.invokestatic 41, 3) := by decide +kernel
theorem own_d1_3 : decode prog_8_method_4_code 3 = .ok (.astore_n 1, 1) := by decide +kernel
theorem own_d1_4 : decode prog_8_method_4_code 4 = .ok (.aload_n 1, 1) := by decide +kernel
theorem own_d1_5 : decode prog_8_method_4_code 5 = .ok (.arraylength, 1) := by decide +kernel
theorem own_d1_6 : decode prog_8_method_4_code 6 = .ok (.istore_n 2, 1) := by decide +kernel
theorem own_d1_7 : decode prog_8_method_4_code 7 = .ok (.iconst 0, 1) := by decide +kernel
theorem own_d1_8 : decode prog_8_method_4_code 8 = .ok (.istore_n 3, 1) := by decide +kernel
theorem own_d1_9 : decode prog_8_method_4_code 9 = .ok (.iload_n 3, 1) := by decide +kernel
theorem own_d1_10 : decode prog_8_method_4_code 10 = .ok (.iload_n 2, 1) := by decide +kernel
theorem own_d1_11 : decode prog_8_method_4_code 11 = .ok (.if_icmp .ge 29, 3) := by decide +kernel
theorem own_d1_14 : decode prog_8_method_4_code 14 = .ok (.aload_n 1, 1) := by decide +kernel
theorem own_d1_15 : decode prog_8_method_4_code 15 = .ok (.iload_n 3, 1) := by decide +kernel
theorem own_d1_16 : decode prog_8_method_4_code 16 = .ok (.aaload, 1) := by decide +kernel
theorem own_d1_17 : decode prog_8_method_4_code 17 = .ok (.astore 4, 2) := by decide +kernel
theorem own_d1_19 : decode prog_8_method_4_code 19 = .ok (.aload 4, 2) := by decide +kernel
theorem own_d1_21 : decode prog_8_method_4_code 21 = .ok (.getfield 38, 3) := by decide +kernel
theorem own_d1_24 : decode prog_8_method_4_code 24 = .ok (.aload_n 0, 1) := by decide +kernel
theorem own_d1_25 : decode prog_8_method_4_code 25 = .ok (.if_acmp .ne 9, 3) := by decide +kernel
theorem own_d1_28 : decode prog_8_method_4_code 28 = .ok (.aload 4, 2) := by decide +kernel
theorem own_d1_30 : decode prog_8_method_4_code 30 = .ok (.invokestatic 45, 3) := by decide +kernel
theorem own_d1_33 : decode prog_8_method_4_code 33 = .ok (.areturn, 1) := by decide +kernel
theorem own_d1_34 : decode prog_8_method_4_code 34 = .ok (.iinc 3 1, 3) := by decide +kernel
theorem own_d1_37 : decode prog_8_method_4_code 37 = .ok (.goto (-28), 3) := by decide +kernel
theorem own_d1_40 : decode prog_8_method_4_code 40 = .ok (.invokestatic 51, 3) := by decide +kernel
theorem own_d1_43 : decode prog_8_method_4_code 43 = .ok (.areturn, 1) := by decide +kernel
theorem own_d2_0 : decode prog_8_method_1_code 0 = .ok (.getstatic 19, 3) := by decide +kernel
theorem own_d2_3 : decode prog_8_method_1_code 3 = .ok (.invokevirtual 23, 3) := by decide +kernel
theorem own_d2_6 : decode prog_8_method_1_code 6 = .ok (.checkcast 24, 3) := by decide +kernel
theorem own_d2_9 : decode prog_8_method_1_code 9 = .ok (.areturn, 1) := by decide +kernel
theorem own_d3_0 : decode jdk_32_method_1_code 0 = .ok (.getstatic 1, 3) := by decide +kernel
theorem own_d3_3 : decode jdk_32_method_1_code 3 = .ok (.astore_n 0, 1) := by decide +kernel
theorem own_d3_4 : decode jdk_32_method_1_code 4 = .ok (.aload_n 0, 1) := by decide +kernel
theorem own_d3_5 : decode jdk_32_method_1_code 5 = .ok (.areturn, 1) := by decide +kernel
theorem own_d4_0 : decode jdk_32_method_15_code 0 = .ok (.aload_n 0, 1) := by decide +kernel
theorem own_d4_1 : decode jdk_32_method_15_code 1 = .ok (.getfield 13, 3) := by decide +kernel
theorem own_d4_4 : decode jdk_32_method_15_code 4 = .ok (.ifnull 10, 3) := by decide +kernel
theorem own_d4_7 : decode jdk_32_method_15_code 7 = .ok (.aload_n 0, 1) := by decide +kernel
theorem own_d4_8 : decode jdk_32_method_15_code 8 = .ok (.getfield 13, 3) := by decide +kernel
theorem own_d4_11 : decode jdk_32_method_15_code 11 = .ok (.goto 4, 3) := by decide +kernel
theorem own_d4_14 : decode jdk_32_method_15_code 14 = .ok (.aload_n 1, 1) := by decide +kernel
theorem own_d4_15 : decode jdk_32_method_15_code 15 = .ok (.areturn, 1) := by decide +kernel
theorem own_d5_0 : decode jdk_32_method_3_code 0 = .ok (.new 2, 3) := by decide +kernel
theorem own_d5_3 : decode jdk_32_method_3_code 3 = .ok (.dup, 1) := by decide +kernel
theorem own_d5_4 : decode jdk_32_method_3_code 4 = .ok (.aload_n 0, 1) := by decide +kernel
theorem own_d5_5 : decode jdk_32_method_3_code 5 = .ok (.invokestatic 17, 3) := by decide +kernel
theorem own_d5_8 : decode jdk_32_method_3_code 8 = .ok (.invokespecial 23, 3) := by decide +kernel
theorem own_d5_11 : decode jdk_32_method_3_code 11 = .ok (.areturn, 1) := by decide +kernel
theorem own_d6_0 : decode jdk_31_method_10_code 0 = .ok (.aload_n 0, 1) := by decide +kernel
theorem own_d6_1 : decode jdk_31_method_10_code 1 = .ok (.ifnonnull 11, 3) := by decide +kernel
theorem own_d6_4 : decode jdk_31_method_10_code 4 = .ok (.new 84, 3) := by decide +kernel
theorem own_d6_7 : decode jdk_31_method_10_code 7 = .ok (.dup, 1) := by decide +kernel
theorem own_d6_8 : decode jdk_31_method_10_code 8 = .ok (.invokespecial 86, 3) := by decide +kernel
theorem own_d6_11 : decode jdk_31_method_10_code 11 = .ok (.athrow, 1) := by decide +kernel
theorem own_d6_12 : decode jdk_31_method_10_code 12 = .ok (.aload_n 0, 1) := by decide +kernel
theorem own_d6_13 : decode jdk_31_method_10_code 13 = .ok (.areturn, 1) := by decide +kernel
theorem own_d7_0 : decode jdk_32_method_2_code 0 = .ok (.aload_n 0, 1) := by decide +kernel
theorem own_d7_1 : decode jdk_32_method_2_code 1 = .ok (.invokespecial 7, 3) := by decide +kernel
theorem own_d7_4 : decode jdk_32_method_2_code 4 = .ok (.aload_n 0, 1) := by decide +kernel
theorem own_d7_5 : decode jdk_32_method_2_code 5 = .ok (.aload_n 1, 1) := by decide +kernel
theorem own_d7_6 : decode jdk_32_method_2_code 6 = .ok (.putfield 13, 3) := by decide +kernel
theorem own_d7_9 : decode jdk_32_method_2_code 9 = .ok (.return_, 1) := by decide +kernel
def OwnEn (Z : State) (h : Heap) (k0 k1 k2 k3 k4 k5 : Addr) : Prop :=
  Exa Z h k0 "com/example/ample_proof/ampleproof/disputes/DisputePhase" ∧
  Sta Z h "com/example/ample_proof/ampleproof/disputes/DisputePhase" "FRAUD" "Lcom/example/ample_proof/ampleproof/disputes/DisputePhase;" (.ref k0) ∧
  Exa Z h k1 "[Lcom/example/ample_proof/ampleproof/disputes/DisputePhase;" ∧
  Sta Z h "com/example/ample_proof/ampleproof/disputes/DisputePhase" "$VALUES" "[Lcom/example/ample_proof/ampleproof/disputes/DisputePhase;" (.ref k1) ∧
  Exa Z h k2 "com/example/ample_proof/ampleproof/disputes/DisputePhase" ∧
  Sta Z h "com/example/ample_proof/ampleproof/disputes/DisputePhase" "RETRIEVAL" "Lcom/example/ample_proof/ampleproof/disputes/DisputePhase;" (.ref k2) ∧
  Exa Z h k3 "com/example/ample_proof/ampleproof/disputes/DisputePhase" ∧
  Sta Z h "com/example/ample_proof/ampleproof/disputes/DisputePhase" "CHARGEBACK" "Lcom/example/ample_proof/ampleproof/disputes/DisputePhase;" (.ref k3) ∧
  Exa Z h k4 "com/example/ample_proof/ampleproof/disputes/DisputePhase" ∧
  Sta Z h "com/example/ample_proof/ampleproof/disputes/DisputePhase" "PRE_ARBITRATION" "Lcom/example/ample_proof/ampleproof/disputes/DisputePhase;" (.ref k4) ∧
  Exa Z h k5 "com/example/ample_proof/ampleproof/disputes/DisputePhase" ∧
  Sta Z h "com/example/ample_proof/ampleproof/disputes/DisputePhase" "ARBITRATION" "Lcom/example/ample_proof/ampleproof/disputes/DisputePhase;" (.ref k5) ∧
  Fld Z h k0 "com/example/ample_proof/ampleproof/disputes/DisputePhase" "escalatedFrom" "Lcom/example/ample_proof/ampleproof/disputes/DisputePhase;" .null ∧
  Fld Z h k2 "com/example/ample_proof/ampleproof/disputes/DisputePhase" "escalatedFrom" "Lcom/example/ample_proof/ampleproof/disputes/DisputePhase;" .null ∧
  Fld Z h k3 "com/example/ample_proof/ampleproof/disputes/DisputePhase" "escalatedFrom" "Lcom/example/ample_proof/ampleproof/disputes/DisputePhase;" .null ∧
  Fld Z h k4 "com/example/ample_proof/ampleproof/disputes/DisputePhase" "escalatedFrom" "Lcom/example/ample_proof/ampleproof/disputes/DisputePhase;" (.ref k3) ∧
  Fld Z h k3 "java/lang/Enum" "ordinal" "I" (.int (2 : Int32)) ∧
  Fld Z h k0 "java/lang/Enum" "ordinal" "I" (.int (0 : Int32)) ∧
  Fld Z h k5 "com/example/ample_proof/ampleproof/disputes/DisputePhase" "escalatedFrom" "Lcom/example/ample_proof/ampleproof/disputes/DisputePhase;" (.ref k4) ∧
  Fld Z h k4 "java/lang/Enum" "ordinal" "I" (.int (3 : Int32)) ∧
  Fld Z h k2 "java/lang/Enum" "ordinal" "I" (.int (1 : Int32)) ∧
  Fld Z h k5 "java/lang/Enum" "ordinal" "I" (.int (4 : Int32)) ∧
  OwnAr Z h k1 (Jvm.ClassFile.FieldType.object "com/example/ample_proof/ampleproof/disputes/DisputePhase") [(.ref k0), (.ref k2), (.ref k3), (.ref k4), (.ref k5)]
theorem OwnEn.ext {Z : State} {h h' : Heap} {k0 k1 k2 k3 k4 k5 : Addr} (E : Ext h h') (H : OwnEn Z h k0 k1 k2 k3 k4 k5) : OwnEn Z h' k0 k1 k2 k3 k4 k5 :=
  ⟨H.1.ext E, H.2.1.ext E, H.2.2.1.ext E, H.2.2.2.1.ext E, H.2.2.2.2.1.ext E, H.2.2.2.2.2.1.ext E, H.2.2.2.2.2.2.1.ext E, H.2.2.2.2.2.2.2.1.ext E, H.2.2.2.2.2.2.2.2.1.ext E, H.2.2.2.2.2.2.2.2.2.1.ext E, H.2.2.2.2.2.2.2.2.2.2.1.ext E, H.2.2.2.2.2.2.2.2.2.2.2.1.ext E, H.2.2.2.2.2.2.2.2.2.2.2.2.1.ext E, H.2.2.2.2.2.2.2.2.2.2.2.2.2.1.ext E, H.2.2.2.2.2.2.2.2.2.2.2.2.2.2.1.ext E, H.2.2.2.2.2.2.2.2.2.2.2.2.2.2.2.1.ext E, H.2.2.2.2.2.2.2.2.2.2.2.2.2.2.2.2.1.ext E, H.2.2.2.2.2.2.2.2.2.2.2.2.2.2.2.2.2.1.ext E, H.2.2.2.2.2.2.2.2.2.2.2.2.2.2.2.2.2.2.1.ext E, H.2.2.2.2.2.2.2.2.2.2.2.2.2.2.2.2.2.2.2.1.ext E, H.2.2.2.2.2.2.2.2.2.2.2.2.2.2.2.2.2.2.2.2.1.ext E, H.2.2.2.2.2.2.2.2.2.2.2.2.2.2.2.2.2.2.2.2.2.1.ext E, H.2.2.2.2.2.2.2.2.2.2.2.2.2.2.2.2.2.2.2.2.2.2.ext E⟩
theorem own_rem5 (x : Int32) : ((x &&& (2147483647 : Int32)) % (5 : Int32)) = (0 : Int32) ∨ ((x &&& (2147483647 : Int32)) % (5 : Int32)) = (1 : Int32) ∨ ((x &&& (2147483647 : Int32)) % (5 : Int32)) = (2 : Int32) ∨ ((x &&& (2147483647 : Int32)) % (5 : Int32)) = (3 : Int32) ∨ ((x &&& (2147483647 : Int32)) % (5 : Int32)) = (4 : Int32) := by
  have k := c_mask x (2147483647 : Int32) 31 (by decide) (by decide)
  have k1 : (0 : Int) ≤ x.toInt % ((2 ^ 31 : Nat) : Int) := Int.emod_nonneg _ (by decide)
  have q := (c_irem (x &&& (2147483647 : Int32)) (5 : Int32) 5 (by decide)).1 (by omega)
  have h : ((x &&& (2147483647 : Int32)) % (5 : Int32)).toInt = 0 ∨ ((x &&& (2147483647 : Int32)) % (5 : Int32)).toInt = 1 ∨ ((x &&& (2147483647 : Int32)) % (5 : Int32)).toInt = 2 ∨ ((x &&& (2147483647 : Int32)) % (5 : Int32)).toInt = 3 ∨ ((x &&& (2147483647 : Int32)) % (5 : Int32)).toInt = 4 := by omega
  rcases h with h | h | h | h | h
  · exact Or.inl (Int32.toInt_inj.mp (h.trans (by decide)))
  · exact Or.inr (Or.inl (Int32.toInt_inj.mp (h.trans (by decide))))
  · exact Or.inr (Or.inr (Or.inl (Int32.toInt_inj.mp (h.trans (by decide)))))
  · exact Or.inr (Or.inr (Or.inr (Or.inl (Int32.toInt_inj.mp (h.trans (by decide))))))
  · exact Or.inr (Or.inr (Or.inr (Or.inr ((Int32.toInt_inj.mp (h.trans (by decide)))))))
theorem own_ef_vals (m : MethodId)  : entryFrame m #[] 0 = mkF m 0 #[] [] := by first | (simp [entryFrame, mkF, argsToLocals, Value.category]; done) | rfl
set_option maxRecDepth 65536 in
set_option maxHeartbeats 40000000 in
theorem own_vals (l : Launch) (Z : State) (a0 : Array Value) (hw : ∀ d ∈ tables_1, d.before a0 Z = true)  (k0 k1 k2 k3 k4 k5 : Addr) (h0 : Heap) (n0 : Nat) (En : OwnEn Z h0 k0 k1 k2 k3 k4 k5) :
    OwnCon l Z (⟨"com/example/ample_proof/ampleproof/disputes/DisputePhase", "values", "()[Lcom/example/ample_proof/ampleproof/disputes/DisputePhase;"⟩ : MethodName) prog_8_method_1_code 0 (some (.array (.object "com/example/ample_proof/ampleproof/disputes/DisputePhase"))) ({ frames := 1, cells := 1, slots := 5, locals := 14 } : Room) #[] h0 n0 (fun v h => ∃ b, v = some (.ref b) ∧ Ext h0 h ∧ OwnAr Z h b (Jvm.ClassFile.FieldType.object "com/example/ample_proof/ampleproof/disputes/DisputePhase") [(.ref k0), (.ref k2), (.ref k3), (.ref k4), (.ref k5)]) := by
  refine OwnCon.of own_pn0 (fun m => own_ef_vals m ) ?_
  intro p e s m below meth c s0 hx hby hml hown hnm hret hZ r
  have r1 : OwnW s0 n0 3 #[] [(.ref k1)] h0 0 0 := r.getS hx hZ hown (hw _ (List.mem_of_getElem? (i := 12) rfl)) En.2.2.2.1 (hb hby own_d2_0)
  obtain ⟨hr2, r2, Er2, Vb, Xb⟩ := r1.clone hx hZ hown (hw _ (List.mem_of_getElem? (i := 14) rfl)) (hw _ (List.mem_of_getElem? (i := 15) rfl)) (hw _ (List.mem_of_getElem? (i := 19) rfl)) (hw _ (List.mem_of_getElem? (i := 17) rfl)) (hw _ (List.mem_of_getElem? (i := 18) rfl)) (hw _ (List.mem_of_getElem? (i := 20) rfl)) En.2.2.2.2.2.2.2.2.2.2.2.2.2.2.2.2.2.2.2.2.2.2 En.2.2.1 (fun v hv => List.all_eq_true.mp (show ([(.ref k0), (.ref k2), (.ref k3), (.ref k4), (.ref k5)].all fun v => fits (Jvm.ClassFile.FieldType.object "com/example/ample_proof/ampleproof/disputes/DisputePhase") v) = true from rfl) v hv) (by rw [hml]; rfl) rfl (hb hby own_d2_3) (by decide) 0 5 (Nat.le_of_eq rfl) (by decide) (Nat.le_of_ble_eq_true rfl) (by decide) (by decide)
  obtain ⟨b, qb⟩ : ∃ z, z = h0.size := ⟨_, rfl⟩
  rw [← qb] at r2 Vb Xb
  have r2 : OwnW s0 n0 6 #[] [(.ref b)] hr2 1 5 := r2
  have r3 : OwnW s0 n0 9 #[] [(.ref b)] hr2 1 5 := r2.cast hx hZ hown (hw _ (List.mem_of_getElem? (i := 26) rfl)) (Ins.self Xb) rfl (hb hby own_d2_6)
  have r4 := r3.retW hx hret rfl rfl (Or.inr (Or.inr (Or.inr (Or.inr ⟨rfl, rfl, rfl⟩)))) (hb hby own_d2_9)
  exact ⟨_, _, 1, 5, ⟨b, rfl, Er2, Vb⟩, by decide, by decide, r4⟩
theorem own_ef_emp (m : MethodId)  : entryFrame m #[] 1 = mkF m 0 #[.unset] [] := by first | (simp [entryFrame, mkF, argsToLocals, Value.category]; done) | rfl
set_option maxRecDepth 65536 in
set_option maxHeartbeats 40000000 in
theorem own_emp (l : Launch) (Z : State) (a0 : Array Value) (hw : ∀ d ∈ tables_1, d.before a0 Z = true)  (ke : Addr) (h0 : Heap) (n0 : Nat) (SE : Sta Z h0 "java/util/Optional" "EMPTY" "Ljava/util/Optional;" (.ref ke)) :
    OwnCon l Z (⟨"java/util/Optional", "empty", "()Ljava/util/Optional;"⟩ : MethodName) jdk_32_method_1_code 1 (some (.object "java/util/Optional")) ({ frames := 0, cells := 0, slots := 0, locals := 0 } : Room) #[] h0 n0 (fun v h => v = some (.ref ke) ∧ h0 = h) := by
  refine OwnCon.of own_pn1 (fun m => own_ef_emp m ) ?_
  intro p e s m below meth c s0 hx hby hml hown hnm hret hZ r
  have r1 : OwnW s0 n0 3 #[.unset] [(.ref ke)] h0 0 0 := r.getS hx hZ hown (hw _ (List.mem_of_getElem? (i := 34) rfl)) SE (hb hby own_d3_0)
  have r2 : OwnW s0 n0 4 #[.val (.ref ke)] [] h0 0 0 := r1.go fun T t X k => XS.astoreN X hx rfl (hb hby own_d3_3) rfl rfl (l' := #[.val (.ref ke)]) rfl k
  have r3 : OwnW s0 n0 5 #[.val (.ref ke)] [(.ref ke)] h0 0 0 := r2.go fun T t X k => XS.aloadN X hx rfl (hb hby own_d3_4) rfl rfl k
  have r4 := r3.retW hx hret rfl rfl (Or.inr (Or.inr (Or.inr (Or.inr ⟨rfl, rfl, rfl⟩)))) (hb hby own_d3_5)
  exact ⟨_, _, 0, 0, ⟨rfl, rfl⟩, Nat.le_refl _, Nat.le_refl _, r4⟩
theorem own_ef_oen (m : MethodId) (o : Addr) : entryFrame m #[(.ref o), .null] 2 = mkF m 0 #[.val (.ref o), .val .null] [] := by first | (simp [entryFrame, mkF, argsToLocals, Value.category]; done) | rfl
set_option maxRecDepth 65536 in
set_option maxHeartbeats 40000000 in
theorem own_oen (l : Launch) (Z : State) (a0 : Array Value) (hw : ∀ d ∈ tables_1, d.before a0 Z = true) (o : Addr)  (h0 : Heap) (n0 : Nat) (F : Fld Z h0 o "java/util/Optional" "value" "Ljava/lang/Object;" .null) :
    OwnCon l Z (⟨"java/util/Optional", "orElse", "(Ljava/lang/Object;)Ljava/lang/Object;"⟩ : MethodName) jdk_32_method_15_code 2 (some (.object "java/lang/Object")) ({ frames := 0, cells := 0, slots := 0, locals := 0 } : Room) #[(.ref o), .null] h0 n0 (fun v h => v = some .null ∧ h0 = h) := by
  refine OwnCon.of own_pn1 (fun m => own_ef_oen m o) ?_
  intro p e s m below meth c s0 hx hby hml hown hnm hret hZ r
  have r1 : OwnW s0 n0 1 #[.val (.ref o), .val .null] [(.ref o)] h0 0 0 := r.go fun T t X k => XS.aloadN X hx rfl (hb hby own_d4_0) rfl rfl k
  have r2 : OwnW s0 n0 4 #[.val (.ref o), .val .null] [.null] h0 0 0 := r1.getF hx hZ hown (hw _ (List.mem_of_getElem? (i := 40) rfl)) F rfl (hb hby own_d4_1)
  have r3 : OwnW s0 n0 14 #[.val (.ref o), .val .null] [] h0 0 0 := r2.go fun T t X k => XS.ifnullYes X hx rfl (pc0 := 4) (pc' := 14) rfl (hb hby own_d4_4) rfl (by decide) (by decide) k
  have r4 : OwnW s0 n0 15 #[.val (.ref o), .val .null] [.null] h0 0 0 := r3.go fun T t X k => XS.aloadN X hx rfl (hb hby own_d4_14) rfl rfl k
  have r5 := r4.retW hx hret rfl rfl (Or.inr (Or.inr (Or.inr (Or.inr ⟨rfl, rfl, rfl⟩)))) (hb hby own_d4_15)
  exact ⟨_, _, 0, 0, ⟨rfl, rfl⟩, Nat.le_refl _, Nat.le_refl _, r5⟩
theorem own_ef_oer (m : MethodId) (o : Addr) : entryFrame m #[(.ref o), .null] 2 = mkF m 0 #[.val (.ref o), .val .null] [] := by first | (simp [entryFrame, mkF, argsToLocals, Value.category]; done) | rfl
set_option maxRecDepth 65536 in
set_option maxHeartbeats 40000000 in
theorem own_oer (l : Launch) (Z : State) (a0 : Array Value) (hw : ∀ d ∈ tables_1, d.before a0 Z = true) (o : Addr) (u : Addr) (h0 : Heap) (n0 : Nat) (F : Fld Z h0 o "java/util/Optional" "value" "Ljava/lang/Object;" (.ref u)) :
    OwnCon l Z (⟨"java/util/Optional", "orElse", "(Ljava/lang/Object;)Ljava/lang/Object;"⟩ : MethodName) jdk_32_method_15_code 2 (some (.object "java/lang/Object")) ({ frames := 0, cells := 0, slots := 0, locals := 0 } : Room) #[(.ref o), .null] h0 n0 (fun v h => v = some (.ref u) ∧ h0 = h) := by
  refine OwnCon.of own_pn1 (fun m => own_ef_oer m o) ?_
  intro p e s m below meth c s0 hx hby hml hown hnm hret hZ r
  have r1 : OwnW s0 n0 1 #[.val (.ref o), .val .null] [(.ref o)] h0 0 0 := r.go fun T t X k => XS.aloadN X hx rfl (hb hby own_d4_0) rfl rfl k
  have r2 : OwnW s0 n0 4 #[.val (.ref o), .val .null] [(.ref u)] h0 0 0 := r1.getF hx hZ hown (hw _ (List.mem_of_getElem? (i := 40) rfl)) F rfl (hb hby own_d4_1)
  have r3 : OwnW s0 n0 7 #[.val (.ref o), .val .null] [] h0 0 0 := r2.go fun T t X k => XS.ifnullNo X hx rfl (hb hby own_d4_4) rfl k
  have r4 : OwnW s0 n0 8 #[.val (.ref o), .val .null] [(.ref o)] h0 0 0 := r3.go fun T t X k => XS.aloadN X hx rfl (hb hby own_d4_7) rfl rfl k
  have r5 : OwnW s0 n0 11 #[.val (.ref o), .val .null] [(.ref u)] h0 0 0 := r4.getF hx hZ hown (hw _ (List.mem_of_getElem? (i := 40) rfl)) F rfl (hb hby own_d4_8)
  have r6 : OwnW s0 n0 15 #[.val (.ref o), .val .null] [(.ref u)] h0 0 0 := r5.go fun T t X k => XS.goto X hx rfl (pc0 := 11) (pc' := 15) rfl (hb hby own_d4_11) (by decide) (by decide) k
  have r7 := r6.retW hx hret rfl rfl (Or.inr (Or.inr (Or.inr (Or.inr ⟨rfl, rfl, rfl⟩)))) (hb hby own_d4_15)
  exact ⟨_, _, 0, 0, ⟨rfl, rfl⟩, Nat.le_refl _, Nat.le_refl _, r7⟩
theorem own_ef_rnn (m : MethodId) (u : Addr) : entryFrame m #[(.ref u)] 1 = mkF m 0 #[.val (.ref u)] [] := by first | (simp [entryFrame, mkF, argsToLocals, Value.category]; done) | rfl
set_option maxRecDepth 65536 in
set_option maxHeartbeats 40000000 in
theorem own_rnn (l : Launch) (Z : State) (a0 : Array Value) (hw : ∀ d ∈ tables_1, d.before a0 Z = true) (u : Addr)  (h0 : Heap) (n0 : Nat)  :
    OwnCon l Z (⟨"java/util/Objects", "requireNonNull", "(Ljava/lang/Object;)Ljava/lang/Object;"⟩ : MethodName) jdk_31_method_10_code 1 (some (.object "java/lang/Object")) ({ frames := 0, cells := 0, slots := 0, locals := 0 } : Room) #[(.ref u)] h0 n0 (fun v h => v = some (.ref u) ∧ h0 = h) := by
  refine OwnCon.of own_pn2 (fun m => own_ef_rnn m u) ?_
  intro p e s m below meth c s0 hx hby hml hown hnm hret hZ r
  have r1 : OwnW s0 n0 1 #[.val (.ref u)] [(.ref u)] h0 0 0 := r.go fun T t X k => XS.aloadN X hx rfl (hb hby own_d6_0) rfl rfl k
  have r2 : OwnW s0 n0 12 #[.val (.ref u)] [] h0 0 0 := r1.go fun T t X k => XS.ifnonnullYes X hx rfl (pc0 := 1) (pc' := 12) rfl (hb hby own_d6_1) rfl (by decide) (by decide) k
  have r3 : OwnW s0 n0 13 #[.val (.ref u)] [(.ref u)] h0 0 0 := r2.go fun T t X k => XS.aloadN X hx rfl (hb hby own_d6_12) rfl rfl k
  have r4 := r3.retW hx hret rfl rfl (Or.inr (Or.inr (Or.inr (Or.inr ⟨rfl, rfl, rfl⟩)))) (hb hby own_d6_13)
  exact ⟨_, _, 0, 0, ⟨rfl, rfl⟩, Nat.le_refl _, Nat.le_refl _, r4⟩
theorem own_ef_oin (m : MethodId) (o : Addr) (u : Addr) : entryFrame m #[(.ref o), (.ref u)] 2 = mkF m 0 #[.val (.ref o), .val (.ref u)] [] := by first | (simp [entryFrame, mkF, argsToLocals, Value.category]; done) | rfl
set_option maxRecDepth 65536 in
set_option maxHeartbeats 40000000 in
theorem own_oin (l : Launch) (Z : State) (a0 : Array Value) (hw : ∀ d ∈ tables_1, d.before a0 Z = true) (o : Addr) (u : Addr)  (h0 : Heap) (n0 : Nat) (E : Exa Z h0 o "java/util/Optional") (F_value : Fld Z h0 o "java/util/Optional" "value" "Ljava/lang/Object;" .null) (g : n0 ≤ o)  :
    OwnCon l Z (⟨"java/util/Optional", "<init>", "(Ljava/lang/Object;)V"⟩ : MethodName) jdk_32_method_2_code 2 none ({ frames := 1, cells := 0, slots := 0, locals := 12 } : Room) #[(.ref o), (.ref u)] h0 n0 (fun v h => v = none ∧ Keep h0 h [o] ∧ Exa Z h o "java/util/Optional" ∧ Fld Z h o "java/util/Optional" "value" "Ljava/lang/Object;" (.ref u)) := by
  refine OwnCon.of own_pn1 (fun m => own_ef_oin m o u) ?_
  intro p e s m below meth c s0 hx hby hml hown hnm hret hZ r
  have K : Keep h0 h0 [o] := Keep.refl _ _
  have r1 : OwnW s0 n0 1 #[.val (.ref o), .val (.ref u)] [(.ref o)] h0 0 0 := r.go fun T t X k => XS.aloadN X hx rfl (hb hby own_d7_0) rfl rfl k
  have r2 : OwnW s0 n0 4 #[.val (.ref o), .val (.ref u)] [] h0 0 0 := r1.initO hx hZ hown (hw _ (List.mem_of_getElem? (i := 57) rfl)) (hw _ (List.mem_of_getElem? (i := 58) rfl)) (hw _ (List.mem_of_getElem? (i := 59) rfl)) (by rw [hml]; rfl) rfl (hb hby own_d7_1) (by decide) 0 (Nat.le_of_eq rfl) (by decide)
  have r3 : OwnW s0 n0 5 #[.val (.ref o), .val (.ref u)] [(.ref o)] h0 0 0 := r2.go fun T t X k => XS.aloadN X hx rfl (hb hby own_d7_4) rfl rfl k
  have r4 : OwnW s0 n0 6 #[.val (.ref o), .val (.ref u)] [(.ref u), (.ref o)] h0 0 0 := r3.go fun T t X k => XS.aloadN X hx rfl (hb hby own_d7_5) rfl rfl k
  obtain ⟨hr5, r5, Wr5⟩ := r4.putF hx hZ hown (hw _ (List.mem_of_getElem? (i := 40) rfl)) F_value E (Or.inr ⟨(hw _ (List.mem_of_getElem? (i := 41) rfl)), rfl, hnm⟩) (hw _ (List.mem_of_getElem? (i := 48) rfl)) (ty := (.object "java/lang/Object")) (by decide) rfl rfl rfl (hb hby own_d7_6) g
  have r5 : OwnW s0 n0 9 #[.val (.ref o), .val (.ref u)] [] hr5 0 0 := r5
  have F_value := F_value.same Wr5
  have E := E.wr Wr5
  have K := K.wr Wr5 (Or.inl (List.mem_of_getElem? (i := 0) rfl))
  have r6 := r5.retV hx hret (hb hby own_d7_9)
  exact ⟨_, _, 0, 0, ⟨rfl, K, E, F_value⟩, by decide, by decide, r6⟩
theorem own_ef_opt (m : MethodId) (u : Addr) : entryFrame m #[(.ref u)] 1 = mkF m 0 #[.val (.ref u)] [] := by first | (simp [entryFrame, mkF, argsToLocals, Value.category]; done) | rfl
set_option maxRecDepth 65536 in
set_option maxHeartbeats 40000000 in
theorem own_opt (l : Launch) (Z : State) (a0 : Array Value) (hw : ∀ d ∈ tables_1, d.before a0 Z = true) (u : Addr)  (h0 : Heap) (n0 : Nat) (Z0 : n0 ≤ h0.size) :
    OwnCon l Z (⟨"java/util/Optional", "of", "(Ljava/lang/Object;)Ljava/util/Optional;"⟩ : MethodName) jdk_32_method_3_code 1 (some (.object "java/util/Optional")) ({ frames := 2, cells := 1, slots := 1, locals := 40 } : Room) #[(.ref u)] h0 n0 (fun v h => ∃ o, v = some (.ref o) ∧ Ext h0 h ∧ Exa Z h o "java/util/Optional" ∧ Fld Z h o "java/util/Optional" "value" "Ljava/lang/Object;" (.ref u)) := by
  refine OwnCon.of own_pn1 (fun m => own_ef_opt m u) ?_
  intro p e s m below meth c s0 hx hby hml hown hnm hret hZ r
  obtain ⟨hr1, r1, Er1, Xo, Dr1⟩ := r.newO hx hZ hown (hw _ (List.mem_of_getElem? (i := 47) rfl)) (hw _ (List.mem_of_getElem? (i := 48) rfl)) (hw _ (List.mem_of_getElem? (i := 32) rfl)) (hb hby own_d5_0) (by decide) (by decide)
  obtain ⟨o, qo⟩ : ∃ z, z = h0.size := ⟨_, rfl⟩
  rw [← qo] at r1 Xo Dr1
  have F_value_o : Fld Z hr1 o "java/util/Optional" "value" "Ljava/lang/Object;" .null := Dr1 (Or.inr (hw _ (List.mem_of_getElem? (i := 41) rfl))) (ty := (.object "java/lang/Object")) (by decide)
  have r1 : OwnW s0 n0 3 #[.val (.ref u)] [(.ref o)] hr1 1 1 := r1
  have zo : h0.size ≤ o := Nat.le_of_eq qo.symm
  have r2 : OwnW s0 n0 4 #[.val (.ref u)] [(.ref o), (.ref o)] hr1 1 1 := r1.go fun T t X k => XS.dup X hx rfl (hb hby own_d5_3) rfl rfl k
  have r3 : OwnW s0 n0 5 #[.val (.ref u)] [(.ref u), (.ref o), (.ref o)] hr1 1 1 := r2.go fun T t X k => XS.aloadN X hx rfl (hb hby own_d5_4) rfl rfl k
  obtain ⟨vr4, hr4, r4, qr4⟩ := r3.callS hx hZ hown (hw _ (List.mem_of_getElem? (i := 49) rfl)) (hw _ (List.mem_of_getElem? (i := 50) rfl)) (hw _ (List.mem_of_getElem? (i := 51) rfl)) (hw _ (List.mem_of_getElem? (i := 52) rfl)) (by decide) (argsL := [(.ref u)]) (own_rnn l Z a0 hw u hr1 n0) [(.ref o), (.ref o)] 2 (by decide) (by decide) (by rw [hml]; rfl) (lenOf own_pd0 rfl) rfl (Nat.le_of_eq rfl) (hb hby own_d5_5) (by decide) (by decide)
  obtain ⟨rfl, rfl⟩ := qr4
  have r4 : OwnW s0 n0 8 #[.val (.ref u)] [(.ref u), (.ref o), (.ref o)] hr1 1 1 := r4
  obtain ⟨vr5, hr5, r5, qr5⟩ := r4.callN hx hZ rfl hown (hw _ (List.mem_of_getElem? (i := 53) rfl)) (hw _ (List.mem_of_getElem? (i := 54) rfl)) (hw _ (List.mem_of_getElem? (i := 32) rfl)) (hw _ (List.mem_of_getElem? (i := 56) rfl)) (by decide) (a := o) (argsL := [(.ref u)]) (own_oin l Z a0 hw o u hr1 n0 Xo F_value_o (Nat.le_trans Z0 zo)) [(.ref o)] 1 (by decide) (by decide) (by rw [hml]; rfl) (lenOf own_pd1 rfl) rfl (Nat.le_of_eq rfl) (hb hby own_d5_8) (by decide) (by decide)
  obtain ⟨rfl, K1, E1, F1⟩ := qr5
  have r5 : OwnW s0 n0 11 #[.val (.ref u)] [(.ref o)] hr5 1 1 := r5
  have Ex : Ext h0 hr5 := own_ext_keep Er1 K1 zo
  have r6 := r5.retW hx hret rfl rfl (Or.inr (Or.inr (Or.inr (Or.inr ⟨rfl, rfl, rfl⟩)))) (hb hby own_d5_11)
  exact ⟨_, _, 1, 1, ⟨o, rfl, Ex, E1, F1⟩, by decide, by decide, r6⟩
theorem own_ef_nxt0 (m : MethodId) (k0 : Addr) : entryFrame m #[(.ref k0)] 5 = mkF m 0 #[.val (.ref k0), .unset, .unset, .unset, .unset] [] := by first | (simp [entryFrame, mkF, argsToLocals, Value.category]; done) | rfl
set_option maxRecDepth 65536 in
set_option maxHeartbeats 40000000 in
theorem own_nxt0 (l : Launch) (Z : State) (a0 : Array Value) (hw : ∀ d ∈ tables_1, d.before a0 Z = true) (k0 : Addr) (k1 k2 k3 k4 k5 : Addr) (ke : Addr) (h0 : Heap) (n0 : Nat) (Z0 : n0 ≤ h0.size) (En : OwnEn Z h0 k0 k1 k2 k3 k4 k5) (SE : Sta Z h0 "java/util/Optional" "EMPTY" "Ljava/util/Optional;" (.ref ke)) (XE : Exa Z h0 ke "java/util/Optional") (FE : Fld Z h0 ke "java/util/Optional" "value" "Ljava/lang/Object;" .null) :
    OwnCon l Z (⟨"com/example/ample_proof/ampleproof/disputes/DisputePhase", "next", "()Ljava/util/Optional;"⟩ : MethodName) prog_8_method_4_code 5 (some (.object "java/util/Optional")) ({ frames := 3, cells := 2, slots := 6, locals := 64 } : Room) #[(.ref k0)] h0 n0 (fun v h => ∃ o, v = some (.ref o) ∧ Ext h0 h ∧ Exa Z h o "java/util/Optional" ∧ Fld Z h o "java/util/Optional" "value" "Ljava/lang/Object;" .null) := by
  refine OwnCon.of own_pn0 (fun m => own_ef_nxt0 m k0) ?_
  intro p e s m below meth c s0 hx hby hml hown hnm hret hZ r
  obtain ⟨vr1, hr1, r1, qr1⟩ := r.callS hx hZ hown (hw _ (List.mem_of_getElem? (i := 9) rfl)) (hw _ (List.mem_of_getElem? (i := 10) rfl)) (hw _ (List.mem_of_getElem? (i := 2) rfl)) (hw _ (List.mem_of_getElem? (i := 11) rfl)) (by decide) (argsL := []) (own_vals l Z a0 hw k0 k1 k2 k3 k4 k5 h0 n0 En) [] 0 (by decide) (by decide) (by rw [hml]; rfl) (lenOf own_pd2 rfl) rfl (Nat.le_of_eq rfl) (hb hby own_d1_0) (by decide) (by decide)
  obtain ⟨b, rfl, Ex, Vb⟩ := qr1
  have r1 : OwnW s0 n0 3 #[.val (.ref k0), .unset, .unset, .unset, .unset] [(.ref b)] hr1 1 5 := r1
  have En1 := En.ext Ex
  have r2 : OwnW s0 n0 4 #[.val (.ref k0), .val (.ref b), .unset, .unset, .unset] [] hr1 1 5 := r1.go fun T t X k => XS.astoreN X hx rfl (hb hby own_d1_3) rfl rfl (l' := #[.val (.ref k0), .val (.ref b), .unset, .unset, .unset]) rfl k
  have r3 : OwnW s0 n0 5 #[.val (.ref k0), .val (.ref b), .unset, .unset, .unset] [(.ref b)] hr1 1 5 := r2.go fun T t X k => XS.aloadN X hx rfl (hb hby own_d1_4) rfl rfl k
  have r4 : OwnW s0 n0 6 #[.val (.ref k0), .val (.ref b), .unset, .unset, .unset] [(.int (5 : Int32))] hr1 1 5 := r3.alen hx hZ Vb rfl rfl (hb hby own_d1_5)
  have r5 : OwnW s0 n0 7 #[.val (.ref k0), .val (.ref b), .val (.int (5 : Int32)), .unset, .unset] [] hr1 1 5 := r4.go fun T t X k => XS.istoreN X hx rfl (hb hby own_d1_6) rfl (l' := #[.val (.ref k0), .val (.ref b), .val (.int (5 : Int32)), .unset, .unset]) rfl k
  have r6 : OwnW s0 n0 8 #[.val (.ref k0), .val (.ref b), .val (.int (5 : Int32)), .unset, .unset] [(.int (0 : Int32))] hr1 1 5 := r5.go fun T t X k => XS.iconst X hx rfl (hb hby own_d1_7) k
  have r7 : OwnW s0 n0 9 #[.val (.ref k0), .val (.ref b), .val (.int (5 : Int32)), .val (.int (0 : Int32)), .unset] [] hr1 1 5 := r6.go fun T t X k => XS.istoreN X hx rfl (hb hby own_d1_8) rfl (l' := #[.val (.ref k0), .val (.ref b), .val (.int (5 : Int32)), .val (.int (0 : Int32)), .unset]) rfl k
  have r8 : OwnW s0 n0 10 #[.val (.ref k0), .val (.ref b), .val (.int (5 : Int32)), .val (.int (0 : Int32)), .unset] [(.int (0 : Int32))] hr1 1 5 := r7.go fun T t X k => XS.iloadN X hx rfl (hb hby own_d1_9) rfl k
  have r9 : OwnW s0 n0 11 #[.val (.ref k0), .val (.ref b), .val (.int (5 : Int32)), .val (.int (0 : Int32)), .unset] [(.int (5 : Int32)), (.int (0 : Int32))] hr1 1 5 := r8.go fun T t X k => XS.iloadN X hx rfl (hb hby own_d1_10) rfl k
  have r10 : OwnW s0 n0 14 #[.val (.ref k0), .val (.ref b), .val (.int (5 : Int32)), .val (.int (0 : Int32)), .unset] [] hr1 1 5 := r9.go fun T t X k => XS.icmpNo X hx rfl (hb hby own_d1_11) rfl (tlt (by decide)).2.1 k
  have r11 : OwnW s0 n0 15 #[.val (.ref k0), .val (.ref b), .val (.int (5 : Int32)), .val (.int (0 : Int32)), .unset] [(.ref b)] hr1 1 5 := r10.go fun T t X k => XS.aloadN X hx rfl (hb hby own_d1_14) rfl rfl k
  have r12 : OwnW s0 n0 16 #[.val (.ref k0), .val (.ref b), .val (.int (5 : Int32)), .val (.int (0 : Int32)), .unset] [(.int (0 : Int32)), (.ref b)] hr1 1 5 := r11.go fun T t X k => XS.iloadN X hx rfl (hb hby own_d1_15) rfl k
  have r13 : OwnW s0 n0 17 #[.val (.ref k0), .val (.ref b), .val (.int (5 : Int32)), .val (.int (0 : Int32)), .unset] [(.ref k0)] hr1 1 5 := r12.aaload hx hZ Vb rfl (by decide) rfl rfl (hb hby own_d1_16)
  have r14 : OwnW s0 n0 19 #[.val (.ref k0), .val (.ref b), .val (.int (5 : Int32)), .val (.int (0 : Int32)), .val (.ref k0)] [] hr1 1 5 := r13.go fun T t X k => XS.astore X hx rfl (hb hby own_d1_17) rfl rfl (l' := #[.val (.ref k0), .val (.ref b), .val (.int (5 : Int32)), .val (.int (0 : Int32)), .val (.ref k0)]) rfl k
  have r15 : OwnW s0 n0 21 #[.val (.ref k0), .val (.ref b), .val (.int (5 : Int32)), .val (.int (0 : Int32)), .val (.ref k0)] [(.ref k0)] hr1 1 5 := r14.go fun T t X k => XS.aload X hx rfl (hb hby own_d1_19) rfl rfl k
  have r16 : OwnW s0 n0 24 #[.val (.ref k0), .val (.ref b), .val (.int (5 : Int32)), .val (.int (0 : Int32)), .val (.ref k0)] [.null] hr1 1 5 := r15.getF hx hZ hown (hw _ (List.mem_of_getElem? (i := 28) rfl)) En1.2.2.2.2.2.2.2.2.2.2.2.2.1 rfl (hb hby own_d1_21)
  have r17 : OwnW s0 n0 25 #[.val (.ref k0), .val (.ref b), .val (.int (5 : Int32)), .val (.int (0 : Int32)), .val (.ref k0)] [(.ref k0), .null] hr1 1 5 := r16.go fun T t X k => XS.aloadN X hx rfl (hb hby own_d1_24) rfl rfl k
  have r18 : OwnW s0 n0 34 #[.val (.ref k0), .val (.ref b), .val (.int (5 : Int32)), .val (.int (0 : Int32)), .val (.ref k0)] [] hr1 1 5 := r17.goX fun T t ls X eT k => Jvm.RoadKit.acmp X hx rfl rfl rfl (pc0 := 25) (pc' := 34) (same := false) rfl (hb hby own_d1_25) rfl (decide_eq_false nofun) (by decide) (by decide) k
  have r19 : OwnW s0 n0 37 #[.val (.ref k0), .val (.ref b), .val (.int (5 : Int32)), .val (.int ((0 : Int32) + (1 : Int32))), .val (.ref k0)] [] hr1 1 5 := r18.go fun T t X k => XS.iinc X hx rfl (hb hby own_d1_34) rfl (l' := #[.val (.ref k0), .val (.ref b), .val (.int (5 : Int32)), .val (.int ((0 : Int32) + (1 : Int32))), .val (.ref k0)]) rfl k
  have r19 : OwnW s0 n0 37 #[.val (.ref k0), .val (.ref b), .val (.int (5 : Int32)), .val (.int (1 : Int32)), .val (.ref k0)] [] hr1 1 5 := r19
  have r20 : OwnW s0 n0 9 #[.val (.ref k0), .val (.ref b), .val (.int (5 : Int32)), .val (.int (1 : Int32)), .val (.ref k0)] [] hr1 1 5 := r19.go fun T t X k => XS.goto X hx rfl (pc0 := 37) (pc' := 9) rfl (hb hby own_d1_37) (by decide) (by decide) k
  have r21 : OwnW s0 n0 10 #[.val (.ref k0), .val (.ref b), .val (.int (5 : Int32)), .val (.int (1 : Int32)), .val (.ref k0)] [(.int (1 : Int32))] hr1 1 5 := r20.go fun T t X k => XS.iloadN X hx rfl (hb hby own_d1_9) rfl k
  have r22 : OwnW s0 n0 11 #[.val (.ref k0), .val (.ref b), .val (.int (5 : Int32)), .val (.int (1 : Int32)), .val (.ref k0)] [(.int (5 : Int32)), (.int (1 : Int32))] hr1 1 5 := r21.go fun T t X k => XS.iloadN X hx rfl (hb hby own_d1_10) rfl k
  have r23 : OwnW s0 n0 14 #[.val (.ref k0), .val (.ref b), .val (.int (5 : Int32)), .val (.int (1 : Int32)), .val (.ref k0)] [] hr1 1 5 := r22.go fun T t X k => XS.icmpNo X hx rfl (hb hby own_d1_11) rfl (tlt (by decide)).2.1 k
  have r24 : OwnW s0 n0 15 #[.val (.ref k0), .val (.ref b), .val (.int (5 : Int32)), .val (.int (1 : Int32)), .val (.ref k0)] [(.ref b)] hr1 1 5 := r23.go fun T t X k => XS.aloadN X hx rfl (hb hby own_d1_14) rfl rfl k
  have r25 : OwnW s0 n0 16 #[.val (.ref k0), .val (.ref b), .val (.int (5 : Int32)), .val (.int (1 : Int32)), .val (.ref k0)] [(.int (1 : Int32)), (.ref b)] hr1 1 5 := r24.go fun T t X k => XS.iloadN X hx rfl (hb hby own_d1_15) rfl k
  have r26 : OwnW s0 n0 17 #[.val (.ref k0), .val (.ref b), .val (.int (5 : Int32)), .val (.int (1 : Int32)), .val (.ref k0)] [(.ref k2)] hr1 1 5 := r25.aaload hx hZ Vb rfl (by decide) rfl rfl (hb hby own_d1_16)
  have r27 : OwnW s0 n0 19 #[.val (.ref k0), .val (.ref b), .val (.int (5 : Int32)), .val (.int (1 : Int32)), .val (.ref k2)] [] hr1 1 5 := r26.go fun T t X k => XS.astore X hx rfl (hb hby own_d1_17) rfl rfl (l' := #[.val (.ref k0), .val (.ref b), .val (.int (5 : Int32)), .val (.int (1 : Int32)), .val (.ref k2)]) rfl k
  have r28 : OwnW s0 n0 21 #[.val (.ref k0), .val (.ref b), .val (.int (5 : Int32)), .val (.int (1 : Int32)), .val (.ref k2)] [(.ref k2)] hr1 1 5 := r27.go fun T t X k => XS.aload X hx rfl (hb hby own_d1_19) rfl rfl k
  have r29 : OwnW s0 n0 24 #[.val (.ref k0), .val (.ref b), .val (.int (5 : Int32)), .val (.int (1 : Int32)), .val (.ref k2)] [.null] hr1 1 5 := r28.getF hx hZ hown (hw _ (List.mem_of_getElem? (i := 28) rfl)) En1.2.2.2.2.2.2.2.2.2.2.2.2.2.1 rfl (hb hby own_d1_21)
  have r30 : OwnW s0 n0 25 #[.val (.ref k0), .val (.ref b), .val (.int (5 : Int32)), .val (.int (1 : Int32)), .val (.ref k2)] [(.ref k0), .null] hr1 1 5 := r29.go fun T t X k => XS.aloadN X hx rfl (hb hby own_d1_24) rfl rfl k
  have r31 : OwnW s0 n0 34 #[.val (.ref k0), .val (.ref b), .val (.int (5 : Int32)), .val (.int (1 : Int32)), .val (.ref k2)] [] hr1 1 5 := r30.goX fun T t ls X eT k => Jvm.RoadKit.acmp X hx rfl rfl rfl (pc0 := 25) (pc' := 34) (same := false) rfl (hb hby own_d1_25) rfl (decide_eq_false nofun) (by decide) (by decide) k
  have r32 : OwnW s0 n0 37 #[.val (.ref k0), .val (.ref b), .val (.int (5 : Int32)), .val (.int ((1 : Int32) + (1 : Int32))), .val (.ref k2)] [] hr1 1 5 := r31.go fun T t X k => XS.iinc X hx rfl (hb hby own_d1_34) rfl (l' := #[.val (.ref k0), .val (.ref b), .val (.int (5 : Int32)), .val (.int ((1 : Int32) + (1 : Int32))), .val (.ref k2)]) rfl k
  have r32 : OwnW s0 n0 37 #[.val (.ref k0), .val (.ref b), .val (.int (5 : Int32)), .val (.int (2 : Int32)), .val (.ref k2)] [] hr1 1 5 := r32
  have r33 : OwnW s0 n0 9 #[.val (.ref k0), .val (.ref b), .val (.int (5 : Int32)), .val (.int (2 : Int32)), .val (.ref k2)] [] hr1 1 5 := r32.go fun T t X k => XS.goto X hx rfl (pc0 := 37) (pc' := 9) rfl (hb hby own_d1_37) (by decide) (by decide) k
  have r34 : OwnW s0 n0 10 #[.val (.ref k0), .val (.ref b), .val (.int (5 : Int32)), .val (.int (2 : Int32)), .val (.ref k2)] [(.int (2 : Int32))] hr1 1 5 := r33.go fun T t X k => XS.iloadN X hx rfl (hb hby own_d1_9) rfl k
  have r35 : OwnW s0 n0 11 #[.val (.ref k0), .val (.ref b), .val (.int (5 : Int32)), .val (.int (2 : Int32)), .val (.ref k2)] [(.int (5 : Int32)), (.int (2 : Int32))] hr1 1 5 := r34.go fun T t X k => XS.iloadN X hx rfl (hb hby own_d1_10) rfl k
  have r36 : OwnW s0 n0 14 #[.val (.ref k0), .val (.ref b), .val (.int (5 : Int32)), .val (.int (2 : Int32)), .val (.ref k2)] [] hr1 1 5 := r35.go fun T t X k => XS.icmpNo X hx rfl (hb hby own_d1_11) rfl (tlt (by decide)).2.1 k
  have r37 : OwnW s0 n0 15 #[.val (.ref k0), .val (.ref b), .val (.int (5 : Int32)), .val (.int (2 : Int32)), .val (.ref k2)] [(.ref b)] hr1 1 5 := r36.go fun T t X k => XS.aloadN X hx rfl (hb hby own_d1_14) rfl rfl k
  have r38 : OwnW s0 n0 16 #[.val (.ref k0), .val (.ref b), .val (.int (5 : Int32)), .val (.int (2 : Int32)), .val (.ref k2)] [(.int (2 : Int32)), (.ref b)] hr1 1 5 := r37.go fun T t X k => XS.iloadN X hx rfl (hb hby own_d1_15) rfl k
  have r39 : OwnW s0 n0 17 #[.val (.ref k0), .val (.ref b), .val (.int (5 : Int32)), .val (.int (2 : Int32)), .val (.ref k2)] [(.ref k3)] hr1 1 5 := r38.aaload hx hZ Vb rfl (by decide) rfl rfl (hb hby own_d1_16)
  have r40 : OwnW s0 n0 19 #[.val (.ref k0), .val (.ref b), .val (.int (5 : Int32)), .val (.int (2 : Int32)), .val (.ref k3)] [] hr1 1 5 := r39.go fun T t X k => XS.astore X hx rfl (hb hby own_d1_17) rfl rfl (l' := #[.val (.ref k0), .val (.ref b), .val (.int (5 : Int32)), .val (.int (2 : Int32)), .val (.ref k3)]) rfl k
  have r41 : OwnW s0 n0 21 #[.val (.ref k0), .val (.ref b), .val (.int (5 : Int32)), .val (.int (2 : Int32)), .val (.ref k3)] [(.ref k3)] hr1 1 5 := r40.go fun T t X k => XS.aload X hx rfl (hb hby own_d1_19) rfl rfl k
  have r42 : OwnW s0 n0 24 #[.val (.ref k0), .val (.ref b), .val (.int (5 : Int32)), .val (.int (2 : Int32)), .val (.ref k3)] [.null] hr1 1 5 := r41.getF hx hZ hown (hw _ (List.mem_of_getElem? (i := 28) rfl)) En1.2.2.2.2.2.2.2.2.2.2.2.2.2.2.1 rfl (hb hby own_d1_21)
  have r43 : OwnW s0 n0 25 #[.val (.ref k0), .val (.ref b), .val (.int (5 : Int32)), .val (.int (2 : Int32)), .val (.ref k3)] [(.ref k0), .null] hr1 1 5 := r42.go fun T t X k => XS.aloadN X hx rfl (hb hby own_d1_24) rfl rfl k
  have r44 : OwnW s0 n0 34 #[.val (.ref k0), .val (.ref b), .val (.int (5 : Int32)), .val (.int (2 : Int32)), .val (.ref k3)] [] hr1 1 5 := r43.goX fun T t ls X eT k => Jvm.RoadKit.acmp X hx rfl rfl rfl (pc0 := 25) (pc' := 34) (same := false) rfl (hb hby own_d1_25) rfl (decide_eq_false nofun) (by decide) (by decide) k
  have r45 : OwnW s0 n0 37 #[.val (.ref k0), .val (.ref b), .val (.int (5 : Int32)), .val (.int ((2 : Int32) + (1 : Int32))), .val (.ref k3)] [] hr1 1 5 := r44.go fun T t X k => XS.iinc X hx rfl (hb hby own_d1_34) rfl (l' := #[.val (.ref k0), .val (.ref b), .val (.int (5 : Int32)), .val (.int ((2 : Int32) + (1 : Int32))), .val (.ref k3)]) rfl k
  have r45 : OwnW s0 n0 37 #[.val (.ref k0), .val (.ref b), .val (.int (5 : Int32)), .val (.int (3 : Int32)), .val (.ref k3)] [] hr1 1 5 := r45
  have r46 : OwnW s0 n0 9 #[.val (.ref k0), .val (.ref b), .val (.int (5 : Int32)), .val (.int (3 : Int32)), .val (.ref k3)] [] hr1 1 5 := r45.go fun T t X k => XS.goto X hx rfl (pc0 := 37) (pc' := 9) rfl (hb hby own_d1_37) (by decide) (by decide) k
  have r47 : OwnW s0 n0 10 #[.val (.ref k0), .val (.ref b), .val (.int (5 : Int32)), .val (.int (3 : Int32)), .val (.ref k3)] [(.int (3 : Int32))] hr1 1 5 := r46.go fun T t X k => XS.iloadN X hx rfl (hb hby own_d1_9) rfl k
  have r48 : OwnW s0 n0 11 #[.val (.ref k0), .val (.ref b), .val (.int (5 : Int32)), .val (.int (3 : Int32)), .val (.ref k3)] [(.int (5 : Int32)), (.int (3 : Int32))] hr1 1 5 := r47.go fun T t X k => XS.iloadN X hx rfl (hb hby own_d1_10) rfl k
  have r49 : OwnW s0 n0 14 #[.val (.ref k0), .val (.ref b), .val (.int (5 : Int32)), .val (.int (3 : Int32)), .val (.ref k3)] [] hr1 1 5 := r48.go fun T t X k => XS.icmpNo X hx rfl (hb hby own_d1_11) rfl (tlt (by decide)).2.1 k
  have r50 : OwnW s0 n0 15 #[.val (.ref k0), .val (.ref b), .val (.int (5 : Int32)), .val (.int (3 : Int32)), .val (.ref k3)] [(.ref b)] hr1 1 5 := r49.go fun T t X k => XS.aloadN X hx rfl (hb hby own_d1_14) rfl rfl k
  have r51 : OwnW s0 n0 16 #[.val (.ref k0), .val (.ref b), .val (.int (5 : Int32)), .val (.int (3 : Int32)), .val (.ref k3)] [(.int (3 : Int32)), (.ref b)] hr1 1 5 := r50.go fun T t X k => XS.iloadN X hx rfl (hb hby own_d1_15) rfl k
  have r52 : OwnW s0 n0 17 #[.val (.ref k0), .val (.ref b), .val (.int (5 : Int32)), .val (.int (3 : Int32)), .val (.ref k3)] [(.ref k4)] hr1 1 5 := r51.aaload hx hZ Vb rfl (by decide) rfl rfl (hb hby own_d1_16)
  have r53 : OwnW s0 n0 19 #[.val (.ref k0), .val (.ref b), .val (.int (5 : Int32)), .val (.int (3 : Int32)), .val (.ref k4)] [] hr1 1 5 := r52.go fun T t X k => XS.astore X hx rfl (hb hby own_d1_17) rfl rfl (l' := #[.val (.ref k0), .val (.ref b), .val (.int (5 : Int32)), .val (.int (3 : Int32)), .val (.ref k4)]) rfl k
  have r54 : OwnW s0 n0 21 #[.val (.ref k0), .val (.ref b), .val (.int (5 : Int32)), .val (.int (3 : Int32)), .val (.ref k4)] [(.ref k4)] hr1 1 5 := r53.go fun T t X k => XS.aload X hx rfl (hb hby own_d1_19) rfl rfl k
  have r55 : OwnW s0 n0 24 #[.val (.ref k0), .val (.ref b), .val (.int (5 : Int32)), .val (.int (3 : Int32)), .val (.ref k4)] [(.ref k3)] hr1 1 5 := r54.getF hx hZ hown (hw _ (List.mem_of_getElem? (i := 28) rfl)) En1.2.2.2.2.2.2.2.2.2.2.2.2.2.2.2.1 rfl (hb hby own_d1_21)
  have r56 : OwnW s0 n0 25 #[.val (.ref k0), .val (.ref b), .val (.int (5 : Int32)), .val (.int (3 : Int32)), .val (.ref k4)] [(.ref k0), (.ref k3)] hr1 1 5 := r55.go fun T t X k => XS.aloadN X hx rfl (hb hby own_d1_24) rfl rfl k
  have r57 : OwnW s0 n0 34 #[.val (.ref k0), .val (.ref b), .val (.int (5 : Int32)), .val (.int (3 : Int32)), .val (.ref k4)] [] hr1 1 5 := r56.goX fun T t ls X eT k => Jvm.RoadKit.acmp X hx rfl rfl rfl (pc0 := 25) (pc' := 34) (same := false) rfl (hb hby own_d1_25) rfl (own_rne (own_ne En1.2.2.2.2.2.2.2.2.2.2.2.2.2.2.2.2.1 En1.2.2.2.2.2.2.2.2.2.2.2.2.2.2.2.2.2.1 (by decide))) (by decide) (by decide) k
  have r58 : OwnW s0 n0 37 #[.val (.ref k0), .val (.ref b), .val (.int (5 : Int32)), .val (.int ((3 : Int32) + (1 : Int32))), .val (.ref k4)] [] hr1 1 5 := r57.go fun T t X k => XS.iinc X hx rfl (hb hby own_d1_34) rfl (l' := #[.val (.ref k0), .val (.ref b), .val (.int (5 : Int32)), .val (.int ((3 : Int32) + (1 : Int32))), .val (.ref k4)]) rfl k
  have r58 : OwnW s0 n0 37 #[.val (.ref k0), .val (.ref b), .val (.int (5 : Int32)), .val (.int (4 : Int32)), .val (.ref k4)] [] hr1 1 5 := r58
  have r59 : OwnW s0 n0 9 #[.val (.ref k0), .val (.ref b), .val (.int (5 : Int32)), .val (.int (4 : Int32)), .val (.ref k4)] [] hr1 1 5 := r58.go fun T t X k => XS.goto X hx rfl (pc0 := 37) (pc' := 9) rfl (hb hby own_d1_37) (by decide) (by decide) k
  have r60 : OwnW s0 n0 10 #[.val (.ref k0), .val (.ref b), .val (.int (5 : Int32)), .val (.int (4 : Int32)), .val (.ref k4)] [(.int (4 : Int32))] hr1 1 5 := r59.go fun T t X k => XS.iloadN X hx rfl (hb hby own_d1_9) rfl k
  have r61 : OwnW s0 n0 11 #[.val (.ref k0), .val (.ref b), .val (.int (5 : Int32)), .val (.int (4 : Int32)), .val (.ref k4)] [(.int (5 : Int32)), (.int (4 : Int32))] hr1 1 5 := r60.go fun T t X k => XS.iloadN X hx rfl (hb hby own_d1_10) rfl k
  have r62 : OwnW s0 n0 14 #[.val (.ref k0), .val (.ref b), .val (.int (5 : Int32)), .val (.int (4 : Int32)), .val (.ref k4)] [] hr1 1 5 := r61.go fun T t X k => XS.icmpNo X hx rfl (hb hby own_d1_11) rfl (tlt (by decide)).2.1 k
  have r63 : OwnW s0 n0 15 #[.val (.ref k0), .val (.ref b), .val (.int (5 : Int32)), .val (.int (4 : Int32)), .val (.ref k4)] [(.ref b)] hr1 1 5 := r62.go fun T t X k => XS.aloadN X hx rfl (hb hby own_d1_14) rfl rfl k
  have r64 : OwnW s0 n0 16 #[.val (.ref k0), .val (.ref b), .val (.int (5 : Int32)), .val (.int (4 : Int32)), .val (.ref k4)] [(.int (4 : Int32)), (.ref b)] hr1 1 5 := r63.go fun T t X k => XS.iloadN X hx rfl (hb hby own_d1_15) rfl k
  have r65 : OwnW s0 n0 17 #[.val (.ref k0), .val (.ref b), .val (.int (5 : Int32)), .val (.int (4 : Int32)), .val (.ref k4)] [(.ref k5)] hr1 1 5 := r64.aaload hx hZ Vb rfl (by decide) rfl rfl (hb hby own_d1_16)
  have r66 : OwnW s0 n0 19 #[.val (.ref k0), .val (.ref b), .val (.int (5 : Int32)), .val (.int (4 : Int32)), .val (.ref k5)] [] hr1 1 5 := r65.go fun T t X k => XS.astore X hx rfl (hb hby own_d1_17) rfl rfl (l' := #[.val (.ref k0), .val (.ref b), .val (.int (5 : Int32)), .val (.int (4 : Int32)), .val (.ref k5)]) rfl k
  have r67 : OwnW s0 n0 21 #[.val (.ref k0), .val (.ref b), .val (.int (5 : Int32)), .val (.int (4 : Int32)), .val (.ref k5)] [(.ref k5)] hr1 1 5 := r66.go fun T t X k => XS.aload X hx rfl (hb hby own_d1_19) rfl rfl k
  have r68 : OwnW s0 n0 24 #[.val (.ref k0), .val (.ref b), .val (.int (5 : Int32)), .val (.int (4 : Int32)), .val (.ref k5)] [(.ref k4)] hr1 1 5 := r67.getF hx hZ hown (hw _ (List.mem_of_getElem? (i := 28) rfl)) En1.2.2.2.2.2.2.2.2.2.2.2.2.2.2.2.2.2.2.1 rfl (hb hby own_d1_21)
  have r69 : OwnW s0 n0 25 #[.val (.ref k0), .val (.ref b), .val (.int (5 : Int32)), .val (.int (4 : Int32)), .val (.ref k5)] [(.ref k0), (.ref k4)] hr1 1 5 := r68.go fun T t X k => XS.aloadN X hx rfl (hb hby own_d1_24) rfl rfl k
  have r70 : OwnW s0 n0 34 #[.val (.ref k0), .val (.ref b), .val (.int (5 : Int32)), .val (.int (4 : Int32)), .val (.ref k5)] [] hr1 1 5 := r69.goX fun T t ls X eT k => Jvm.RoadKit.acmp X hx rfl rfl rfl (pc0 := 25) (pc' := 34) (same := false) rfl (hb hby own_d1_25) rfl (own_rne (own_ne En1.2.2.2.2.2.2.2.2.2.2.2.2.2.2.2.2.2.2.2.1 En1.2.2.2.2.2.2.2.2.2.2.2.2.2.2.2.2.2.1 (by decide))) (by decide) (by decide) k
  have r71 : OwnW s0 n0 37 #[.val (.ref k0), .val (.ref b), .val (.int (5 : Int32)), .val (.int ((4 : Int32) + (1 : Int32))), .val (.ref k5)] [] hr1 1 5 := r70.go fun T t X k => XS.iinc X hx rfl (hb hby own_d1_34) rfl (l' := #[.val (.ref k0), .val (.ref b), .val (.int (5 : Int32)), .val (.int ((4 : Int32) + (1 : Int32))), .val (.ref k5)]) rfl k
  have r71 : OwnW s0 n0 37 #[.val (.ref k0), .val (.ref b), .val (.int (5 : Int32)), .val (.int (5 : Int32)), .val (.ref k5)] [] hr1 1 5 := r71
  have r72 : OwnW s0 n0 9 #[.val (.ref k0), .val (.ref b), .val (.int (5 : Int32)), .val (.int (5 : Int32)), .val (.ref k5)] [] hr1 1 5 := r71.go fun T t X k => XS.goto X hx rfl (pc0 := 37) (pc' := 9) rfl (hb hby own_d1_37) (by decide) (by decide) k
  have r73 : OwnW s0 n0 10 #[.val (.ref k0), .val (.ref b), .val (.int (5 : Int32)), .val (.int (5 : Int32)), .val (.ref k5)] [(.int (5 : Int32))] hr1 1 5 := r72.go fun T t X k => XS.iloadN X hx rfl (hb hby own_d1_9) rfl k
  have r74 : OwnW s0 n0 11 #[.val (.ref k0), .val (.ref b), .val (.int (5 : Int32)), .val (.int (5 : Int32)), .val (.ref k5)] [(.int (5 : Int32)), (.int (5 : Int32))] hr1 1 5 := r73.go fun T t X k => XS.iloadN X hx rfl (hb hby own_d1_10) rfl k
  have r75 : OwnW s0 n0 40 #[.val (.ref k0), .val (.ref b), .val (.int (5 : Int32)), .val (.int (5 : Int32)), .val (.ref k5)] [] hr1 1 5 := r74.go fun T t X k => XS.icmpYes X hx rfl (pc0 := 11) (pc' := 40) rfl (hb hby own_d1_11) rfl (flt (by decide)).2.1 (by decide) (by decide) k
  obtain ⟨vr76, hr76, r76, qr76⟩ := r75.callS hx hZ hown (hw _ (List.mem_of_getElem? (i := 30) rfl)) (hw _ (List.mem_of_getElem? (i := 31) rfl)) (hw _ (List.mem_of_getElem? (i := 32) rfl)) (hw _ (List.mem_of_getElem? (i := 33) rfl)) (by decide) (argsL := []) (own_emp l Z a0 hw ke hr1 n0 (SE.ext Ex)) [] 0 (by decide) (by decide) (by rw [hml]; rfl) (lenOf own_pd3 rfl) rfl (Nat.le_of_eq rfl) (hb hby own_d1_40) (by decide) (by decide)
  obtain ⟨rfl, rfl⟩ := qr76
  have r76 : OwnW s0 n0 43 #[.val (.ref k0), .val (.ref b), .val (.int (5 : Int32)), .val (.int (5 : Int32)), .val (.ref k5)] [(.ref ke)] hr1 1 5 := r76
  have r77 := r76.retW hx hret rfl rfl (Or.inr (Or.inr (Or.inr (Or.inr ⟨rfl, rfl, rfl⟩)))) (hb hby own_d1_43)
  exact ⟨_, _, 1, 5, ⟨ke, rfl, Ex, XE.ext Ex, FE.ext Ex⟩, by decide, by decide, r77⟩
theorem own_ef_nxt1 (m : MethodId) (k2 : Addr) : entryFrame m #[(.ref k2)] 5 = mkF m 0 #[.val (.ref k2), .unset, .unset, .unset, .unset] [] := by first | (simp [entryFrame, mkF, argsToLocals, Value.category]; done) | rfl
set_option maxRecDepth 65536 in
set_option maxHeartbeats 40000000 in
theorem own_nxt1 (l : Launch) (Z : State) (a0 : Array Value) (hw : ∀ d ∈ tables_1, d.before a0 Z = true) (k2 : Addr) (k0 k1 k3 k4 k5 : Addr) (ke : Addr) (h0 : Heap) (n0 : Nat) (Z0 : n0 ≤ h0.size) (En : OwnEn Z h0 k0 k1 k2 k3 k4 k5) (SE : Sta Z h0 "java/util/Optional" "EMPTY" "Ljava/util/Optional;" (.ref ke)) (XE : Exa Z h0 ke "java/util/Optional") (FE : Fld Z h0 ke "java/util/Optional" "value" "Ljava/lang/Object;" .null) :
    OwnCon l Z (⟨"com/example/ample_proof/ampleproof/disputes/DisputePhase", "next", "()Ljava/util/Optional;"⟩ : MethodName) prog_8_method_4_code 5 (some (.object "java/util/Optional")) ({ frames := 3, cells := 2, slots := 6, locals := 64 } : Room) #[(.ref k2)] h0 n0 (fun v h => ∃ o, v = some (.ref o) ∧ Ext h0 h ∧ Exa Z h o "java/util/Optional" ∧ Fld Z h o "java/util/Optional" "value" "Ljava/lang/Object;" .null) := by
  refine OwnCon.of own_pn0 (fun m => own_ef_nxt1 m k2) ?_
  intro p e s m below meth c s0 hx hby hml hown hnm hret hZ r
  obtain ⟨vr1, hr1, r1, qr1⟩ := r.callS hx hZ hown (hw _ (List.mem_of_getElem? (i := 9) rfl)) (hw _ (List.mem_of_getElem? (i := 10) rfl)) (hw _ (List.mem_of_getElem? (i := 2) rfl)) (hw _ (List.mem_of_getElem? (i := 11) rfl)) (by decide) (argsL := []) (own_vals l Z a0 hw k0 k1 k2 k3 k4 k5 h0 n0 En) [] 0 (by decide) (by decide) (by rw [hml]; rfl) (lenOf own_pd2 rfl) rfl (Nat.le_of_eq rfl) (hb hby own_d1_0) (by decide) (by decide)
  obtain ⟨b, rfl, Ex, Vb⟩ := qr1
  have r1 : OwnW s0 n0 3 #[.val (.ref k2), .unset, .unset, .unset, .unset] [(.ref b)] hr1 1 5 := r1
  have En1 := En.ext Ex
  have r2 : OwnW s0 n0 4 #[.val (.ref k2), .val (.ref b), .unset, .unset, .unset] [] hr1 1 5 := r1.go fun T t X k => XS.astoreN X hx rfl (hb hby own_d1_3) rfl rfl (l' := #[.val (.ref k2), .val (.ref b), .unset, .unset, .unset]) rfl k
  have r3 : OwnW s0 n0 5 #[.val (.ref k2), .val (.ref b), .unset, .unset, .unset] [(.ref b)] hr1 1 5 := r2.go fun T t X k => XS.aloadN X hx rfl (hb hby own_d1_4) rfl rfl k
  have r4 : OwnW s0 n0 6 #[.val (.ref k2), .val (.ref b), .unset, .unset, .unset] [(.int (5 : Int32))] hr1 1 5 := r3.alen hx hZ Vb rfl rfl (hb hby own_d1_5)
  have r5 : OwnW s0 n0 7 #[.val (.ref k2), .val (.ref b), .val (.int (5 : Int32)), .unset, .unset] [] hr1 1 5 := r4.go fun T t X k => XS.istoreN X hx rfl (hb hby own_d1_6) rfl (l' := #[.val (.ref k2), .val (.ref b), .val (.int (5 : Int32)), .unset, .unset]) rfl k
  have r6 : OwnW s0 n0 8 #[.val (.ref k2), .val (.ref b), .val (.int (5 : Int32)), .unset, .unset] [(.int (0 : Int32))] hr1 1 5 := r5.go fun T t X k => XS.iconst X hx rfl (hb hby own_d1_7) k
  have r7 : OwnW s0 n0 9 #[.val (.ref k2), .val (.ref b), .val (.int (5 : Int32)), .val (.int (0 : Int32)), .unset] [] hr1 1 5 := r6.go fun T t X k => XS.istoreN X hx rfl (hb hby own_d1_8) rfl (l' := #[.val (.ref k2), .val (.ref b), .val (.int (5 : Int32)), .val (.int (0 : Int32)), .unset]) rfl k
  have r8 : OwnW s0 n0 10 #[.val (.ref k2), .val (.ref b), .val (.int (5 : Int32)), .val (.int (0 : Int32)), .unset] [(.int (0 : Int32))] hr1 1 5 := r7.go fun T t X k => XS.iloadN X hx rfl (hb hby own_d1_9) rfl k
  have r9 : OwnW s0 n0 11 #[.val (.ref k2), .val (.ref b), .val (.int (5 : Int32)), .val (.int (0 : Int32)), .unset] [(.int (5 : Int32)), (.int (0 : Int32))] hr1 1 5 := r8.go fun T t X k => XS.iloadN X hx rfl (hb hby own_d1_10) rfl k
  have r10 : OwnW s0 n0 14 #[.val (.ref k2), .val (.ref b), .val (.int (5 : Int32)), .val (.int (0 : Int32)), .unset] [] hr1 1 5 := r9.go fun T t X k => XS.icmpNo X hx rfl (hb hby own_d1_11) rfl (tlt (by decide)).2.1 k
  have r11 : OwnW s0 n0 15 #[.val (.ref k2), .val (.ref b), .val (.int (5 : Int32)), .val (.int (0 : Int32)), .unset] [(.ref b)] hr1 1 5 := r10.go fun T t X k => XS.aloadN X hx rfl (hb hby own_d1_14) rfl rfl k
  have r12 : OwnW s0 n0 16 #[.val (.ref k2), .val (.ref b), .val (.int (5 : Int32)), .val (.int (0 : Int32)), .unset] [(.int (0 : Int32)), (.ref b)] hr1 1 5 := r11.go fun T t X k => XS.iloadN X hx rfl (hb hby own_d1_15) rfl k
  have r13 : OwnW s0 n0 17 #[.val (.ref k2), .val (.ref b), .val (.int (5 : Int32)), .val (.int (0 : Int32)), .unset] [(.ref k0)] hr1 1 5 := r12.aaload hx hZ Vb rfl (by decide) rfl rfl (hb hby own_d1_16)
  have r14 : OwnW s0 n0 19 #[.val (.ref k2), .val (.ref b), .val (.int (5 : Int32)), .val (.int (0 : Int32)), .val (.ref k0)] [] hr1 1 5 := r13.go fun T t X k => XS.astore X hx rfl (hb hby own_d1_17) rfl rfl (l' := #[.val (.ref k2), .val (.ref b), .val (.int (5 : Int32)), .val (.int (0 : Int32)), .val (.ref k0)]) rfl k
  have r15 : OwnW s0 n0 21 #[.val (.ref k2), .val (.ref b), .val (.int (5 : Int32)), .val (.int (0 : Int32)), .val (.ref k0)] [(.ref k0)] hr1 1 5 := r14.go fun T t X k => XS.aload X hx rfl (hb hby own_d1_19) rfl rfl k
  have r16 : OwnW s0 n0 24 #[.val (.ref k2), .val (.ref b), .val (.int (5 : Int32)), .val (.int (0 : Int32)), .val (.ref k0)] [.null] hr1 1 5 := r15.getF hx hZ hown (hw _ (List.mem_of_getElem? (i := 28) rfl)) En1.2.2.2.2.2.2.2.2.2.2.2.2.1 rfl (hb hby own_d1_21)
  have r17 : OwnW s0 n0 25 #[.val (.ref k2), .val (.ref b), .val (.int (5 : Int32)), .val (.int (0 : Int32)), .val (.ref k0)] [(.ref k2), .null] hr1 1 5 := r16.go fun T t X k => XS.aloadN X hx rfl (hb hby own_d1_24) rfl rfl k
  have r18 : OwnW s0 n0 34 #[.val (.ref k2), .val (.ref b), .val (.int (5 : Int32)), .val (.int (0 : Int32)), .val (.ref k0)] [] hr1 1 5 := r17.goX fun T t ls X eT k => Jvm.RoadKit.acmp X hx rfl rfl rfl (pc0 := 25) (pc' := 34) (same := false) rfl (hb hby own_d1_25) rfl (decide_eq_false nofun) (by decide) (by decide) k
  have r19 : OwnW s0 n0 37 #[.val (.ref k2), .val (.ref b), .val (.int (5 : Int32)), .val (.int ((0 : Int32) + (1 : Int32))), .val (.ref k0)] [] hr1 1 5 := r18.go fun T t X k => XS.iinc X hx rfl (hb hby own_d1_34) rfl (l' := #[.val (.ref k2), .val (.ref b), .val (.int (5 : Int32)), .val (.int ((0 : Int32) + (1 : Int32))), .val (.ref k0)]) rfl k
  have r19 : OwnW s0 n0 37 #[.val (.ref k2), .val (.ref b), .val (.int (5 : Int32)), .val (.int (1 : Int32)), .val (.ref k0)] [] hr1 1 5 := r19
  have r20 : OwnW s0 n0 9 #[.val (.ref k2), .val (.ref b), .val (.int (5 : Int32)), .val (.int (1 : Int32)), .val (.ref k0)] [] hr1 1 5 := r19.go fun T t X k => XS.goto X hx rfl (pc0 := 37) (pc' := 9) rfl (hb hby own_d1_37) (by decide) (by decide) k
  have r21 : OwnW s0 n0 10 #[.val (.ref k2), .val (.ref b), .val (.int (5 : Int32)), .val (.int (1 : Int32)), .val (.ref k0)] [(.int (1 : Int32))] hr1 1 5 := r20.go fun T t X k => XS.iloadN X hx rfl (hb hby own_d1_9) rfl k
  have r22 : OwnW s0 n0 11 #[.val (.ref k2), .val (.ref b), .val (.int (5 : Int32)), .val (.int (1 : Int32)), .val (.ref k0)] [(.int (5 : Int32)), (.int (1 : Int32))] hr1 1 5 := r21.go fun T t X k => XS.iloadN X hx rfl (hb hby own_d1_10) rfl k
  have r23 : OwnW s0 n0 14 #[.val (.ref k2), .val (.ref b), .val (.int (5 : Int32)), .val (.int (1 : Int32)), .val (.ref k0)] [] hr1 1 5 := r22.go fun T t X k => XS.icmpNo X hx rfl (hb hby own_d1_11) rfl (tlt (by decide)).2.1 k
  have r24 : OwnW s0 n0 15 #[.val (.ref k2), .val (.ref b), .val (.int (5 : Int32)), .val (.int (1 : Int32)), .val (.ref k0)] [(.ref b)] hr1 1 5 := r23.go fun T t X k => XS.aloadN X hx rfl (hb hby own_d1_14) rfl rfl k
  have r25 : OwnW s0 n0 16 #[.val (.ref k2), .val (.ref b), .val (.int (5 : Int32)), .val (.int (1 : Int32)), .val (.ref k0)] [(.int (1 : Int32)), (.ref b)] hr1 1 5 := r24.go fun T t X k => XS.iloadN X hx rfl (hb hby own_d1_15) rfl k
  have r26 : OwnW s0 n0 17 #[.val (.ref k2), .val (.ref b), .val (.int (5 : Int32)), .val (.int (1 : Int32)), .val (.ref k0)] [(.ref k2)] hr1 1 5 := r25.aaload hx hZ Vb rfl (by decide) rfl rfl (hb hby own_d1_16)
  have r27 : OwnW s0 n0 19 #[.val (.ref k2), .val (.ref b), .val (.int (5 : Int32)), .val (.int (1 : Int32)), .val (.ref k2)] [] hr1 1 5 := r26.go fun T t X k => XS.astore X hx rfl (hb hby own_d1_17) rfl rfl (l' := #[.val (.ref k2), .val (.ref b), .val (.int (5 : Int32)), .val (.int (1 : Int32)), .val (.ref k2)]) rfl k
  have r28 : OwnW s0 n0 21 #[.val (.ref k2), .val (.ref b), .val (.int (5 : Int32)), .val (.int (1 : Int32)), .val (.ref k2)] [(.ref k2)] hr1 1 5 := r27.go fun T t X k => XS.aload X hx rfl (hb hby own_d1_19) rfl rfl k
  have r29 : OwnW s0 n0 24 #[.val (.ref k2), .val (.ref b), .val (.int (5 : Int32)), .val (.int (1 : Int32)), .val (.ref k2)] [.null] hr1 1 5 := r28.getF hx hZ hown (hw _ (List.mem_of_getElem? (i := 28) rfl)) En1.2.2.2.2.2.2.2.2.2.2.2.2.2.1 rfl (hb hby own_d1_21)
  have r30 : OwnW s0 n0 25 #[.val (.ref k2), .val (.ref b), .val (.int (5 : Int32)), .val (.int (1 : Int32)), .val (.ref k2)] [(.ref k2), .null] hr1 1 5 := r29.go fun T t X k => XS.aloadN X hx rfl (hb hby own_d1_24) rfl rfl k
  have r31 : OwnW s0 n0 34 #[.val (.ref k2), .val (.ref b), .val (.int (5 : Int32)), .val (.int (1 : Int32)), .val (.ref k2)] [] hr1 1 5 := r30.goX fun T t ls X eT k => Jvm.RoadKit.acmp X hx rfl rfl rfl (pc0 := 25) (pc' := 34) (same := false) rfl (hb hby own_d1_25) rfl (decide_eq_false nofun) (by decide) (by decide) k
  have r32 : OwnW s0 n0 37 #[.val (.ref k2), .val (.ref b), .val (.int (5 : Int32)), .val (.int ((1 : Int32) + (1 : Int32))), .val (.ref k2)] [] hr1 1 5 := r31.go fun T t X k => XS.iinc X hx rfl (hb hby own_d1_34) rfl (l' := #[.val (.ref k2), .val (.ref b), .val (.int (5 : Int32)), .val (.int ((1 : Int32) + (1 : Int32))), .val (.ref k2)]) rfl k
  have r32 : OwnW s0 n0 37 #[.val (.ref k2), .val (.ref b), .val (.int (5 : Int32)), .val (.int (2 : Int32)), .val (.ref k2)] [] hr1 1 5 := r32
  have r33 : OwnW s0 n0 9 #[.val (.ref k2), .val (.ref b), .val (.int (5 : Int32)), .val (.int (2 : Int32)), .val (.ref k2)] [] hr1 1 5 := r32.go fun T t X k => XS.goto X hx rfl (pc0 := 37) (pc' := 9) rfl (hb hby own_d1_37) (by decide) (by decide) k
  have r34 : OwnW s0 n0 10 #[.val (.ref k2), .val (.ref b), .val (.int (5 : Int32)), .val (.int (2 : Int32)), .val (.ref k2)] [(.int (2 : Int32))] hr1 1 5 := r33.go fun T t X k => XS.iloadN X hx rfl (hb hby own_d1_9) rfl k
  have r35 : OwnW s0 n0 11 #[.val (.ref k2), .val (.ref b), .val (.int (5 : Int32)), .val (.int (2 : Int32)), .val (.ref k2)] [(.int (5 : Int32)), (.int (2 : Int32))] hr1 1 5 := r34.go fun T t X k => XS.iloadN X hx rfl (hb hby own_d1_10) rfl k
  have r36 : OwnW s0 n0 14 #[.val (.ref k2), .val (.ref b), .val (.int (5 : Int32)), .val (.int (2 : Int32)), .val (.ref k2)] [] hr1 1 5 := r35.go fun T t X k => XS.icmpNo X hx rfl (hb hby own_d1_11) rfl (tlt (by decide)).2.1 k
  have r37 : OwnW s0 n0 15 #[.val (.ref k2), .val (.ref b), .val (.int (5 : Int32)), .val (.int (2 : Int32)), .val (.ref k2)] [(.ref b)] hr1 1 5 := r36.go fun T t X k => XS.aloadN X hx rfl (hb hby own_d1_14) rfl rfl k
  have r38 : OwnW s0 n0 16 #[.val (.ref k2), .val (.ref b), .val (.int (5 : Int32)), .val (.int (2 : Int32)), .val (.ref k2)] [(.int (2 : Int32)), (.ref b)] hr1 1 5 := r37.go fun T t X k => XS.iloadN X hx rfl (hb hby own_d1_15) rfl k
  have r39 : OwnW s0 n0 17 #[.val (.ref k2), .val (.ref b), .val (.int (5 : Int32)), .val (.int (2 : Int32)), .val (.ref k2)] [(.ref k3)] hr1 1 5 := r38.aaload hx hZ Vb rfl (by decide) rfl rfl (hb hby own_d1_16)
  have r40 : OwnW s0 n0 19 #[.val (.ref k2), .val (.ref b), .val (.int (5 : Int32)), .val (.int (2 : Int32)), .val (.ref k3)] [] hr1 1 5 := r39.go fun T t X k => XS.astore X hx rfl (hb hby own_d1_17) rfl rfl (l' := #[.val (.ref k2), .val (.ref b), .val (.int (5 : Int32)), .val (.int (2 : Int32)), .val (.ref k3)]) rfl k
  have r41 : OwnW s0 n0 21 #[.val (.ref k2), .val (.ref b), .val (.int (5 : Int32)), .val (.int (2 : Int32)), .val (.ref k3)] [(.ref k3)] hr1 1 5 := r40.go fun T t X k => XS.aload X hx rfl (hb hby own_d1_19) rfl rfl k
  have r42 : OwnW s0 n0 24 #[.val (.ref k2), .val (.ref b), .val (.int (5 : Int32)), .val (.int (2 : Int32)), .val (.ref k3)] [.null] hr1 1 5 := r41.getF hx hZ hown (hw _ (List.mem_of_getElem? (i := 28) rfl)) En1.2.2.2.2.2.2.2.2.2.2.2.2.2.2.1 rfl (hb hby own_d1_21)
  have r43 : OwnW s0 n0 25 #[.val (.ref k2), .val (.ref b), .val (.int (5 : Int32)), .val (.int (2 : Int32)), .val (.ref k3)] [(.ref k2), .null] hr1 1 5 := r42.go fun T t X k => XS.aloadN X hx rfl (hb hby own_d1_24) rfl rfl k
  have r44 : OwnW s0 n0 34 #[.val (.ref k2), .val (.ref b), .val (.int (5 : Int32)), .val (.int (2 : Int32)), .val (.ref k3)] [] hr1 1 5 := r43.goX fun T t ls X eT k => Jvm.RoadKit.acmp X hx rfl rfl rfl (pc0 := 25) (pc' := 34) (same := false) rfl (hb hby own_d1_25) rfl (decide_eq_false nofun) (by decide) (by decide) k
  have r45 : OwnW s0 n0 37 #[.val (.ref k2), .val (.ref b), .val (.int (5 : Int32)), .val (.int ((2 : Int32) + (1 : Int32))), .val (.ref k3)] [] hr1 1 5 := r44.go fun T t X k => XS.iinc X hx rfl (hb hby own_d1_34) rfl (l' := #[.val (.ref k2), .val (.ref b), .val (.int (5 : Int32)), .val (.int ((2 : Int32) + (1 : Int32))), .val (.ref k3)]) rfl k
  have r45 : OwnW s0 n0 37 #[.val (.ref k2), .val (.ref b), .val (.int (5 : Int32)), .val (.int (3 : Int32)), .val (.ref k3)] [] hr1 1 5 := r45
  have r46 : OwnW s0 n0 9 #[.val (.ref k2), .val (.ref b), .val (.int (5 : Int32)), .val (.int (3 : Int32)), .val (.ref k3)] [] hr1 1 5 := r45.go fun T t X k => XS.goto X hx rfl (pc0 := 37) (pc' := 9) rfl (hb hby own_d1_37) (by decide) (by decide) k
  have r47 : OwnW s0 n0 10 #[.val (.ref k2), .val (.ref b), .val (.int (5 : Int32)), .val (.int (3 : Int32)), .val (.ref k3)] [(.int (3 : Int32))] hr1 1 5 := r46.go fun T t X k => XS.iloadN X hx rfl (hb hby own_d1_9) rfl k
  have r48 : OwnW s0 n0 11 #[.val (.ref k2), .val (.ref b), .val (.int (5 : Int32)), .val (.int (3 : Int32)), .val (.ref k3)] [(.int (5 : Int32)), (.int (3 : Int32))] hr1 1 5 := r47.go fun T t X k => XS.iloadN X hx rfl (hb hby own_d1_10) rfl k
  have r49 : OwnW s0 n0 14 #[.val (.ref k2), .val (.ref b), .val (.int (5 : Int32)), .val (.int (3 : Int32)), .val (.ref k3)] [] hr1 1 5 := r48.go fun T t X k => XS.icmpNo X hx rfl (hb hby own_d1_11) rfl (tlt (by decide)).2.1 k
  have r50 : OwnW s0 n0 15 #[.val (.ref k2), .val (.ref b), .val (.int (5 : Int32)), .val (.int (3 : Int32)), .val (.ref k3)] [(.ref b)] hr1 1 5 := r49.go fun T t X k => XS.aloadN X hx rfl (hb hby own_d1_14) rfl rfl k
  have r51 : OwnW s0 n0 16 #[.val (.ref k2), .val (.ref b), .val (.int (5 : Int32)), .val (.int (3 : Int32)), .val (.ref k3)] [(.int (3 : Int32)), (.ref b)] hr1 1 5 := r50.go fun T t X k => XS.iloadN X hx rfl (hb hby own_d1_15) rfl k
  have r52 : OwnW s0 n0 17 #[.val (.ref k2), .val (.ref b), .val (.int (5 : Int32)), .val (.int (3 : Int32)), .val (.ref k3)] [(.ref k4)] hr1 1 5 := r51.aaload hx hZ Vb rfl (by decide) rfl rfl (hb hby own_d1_16)
  have r53 : OwnW s0 n0 19 #[.val (.ref k2), .val (.ref b), .val (.int (5 : Int32)), .val (.int (3 : Int32)), .val (.ref k4)] [] hr1 1 5 := r52.go fun T t X k => XS.astore X hx rfl (hb hby own_d1_17) rfl rfl (l' := #[.val (.ref k2), .val (.ref b), .val (.int (5 : Int32)), .val (.int (3 : Int32)), .val (.ref k4)]) rfl k
  have r54 : OwnW s0 n0 21 #[.val (.ref k2), .val (.ref b), .val (.int (5 : Int32)), .val (.int (3 : Int32)), .val (.ref k4)] [(.ref k4)] hr1 1 5 := r53.go fun T t X k => XS.aload X hx rfl (hb hby own_d1_19) rfl rfl k
  have r55 : OwnW s0 n0 24 #[.val (.ref k2), .val (.ref b), .val (.int (5 : Int32)), .val (.int (3 : Int32)), .val (.ref k4)] [(.ref k3)] hr1 1 5 := r54.getF hx hZ hown (hw _ (List.mem_of_getElem? (i := 28) rfl)) En1.2.2.2.2.2.2.2.2.2.2.2.2.2.2.2.1 rfl (hb hby own_d1_21)
  have r56 : OwnW s0 n0 25 #[.val (.ref k2), .val (.ref b), .val (.int (5 : Int32)), .val (.int (3 : Int32)), .val (.ref k4)] [(.ref k2), (.ref k3)] hr1 1 5 := r55.go fun T t X k => XS.aloadN X hx rfl (hb hby own_d1_24) rfl rfl k
  have r57 : OwnW s0 n0 34 #[.val (.ref k2), .val (.ref b), .val (.int (5 : Int32)), .val (.int (3 : Int32)), .val (.ref k4)] [] hr1 1 5 := r56.goX fun T t ls X eT k => Jvm.RoadKit.acmp X hx rfl rfl rfl (pc0 := 25) (pc' := 34) (same := false) rfl (hb hby own_d1_25) rfl (own_rne (own_ne En1.2.2.2.2.2.2.2.2.2.2.2.2.2.2.2.2.1 En1.2.2.2.2.2.2.2.2.2.2.2.2.2.2.2.2.2.2.2.2.1 (by decide))) (by decide) (by decide) k
  have r58 : OwnW s0 n0 37 #[.val (.ref k2), .val (.ref b), .val (.int (5 : Int32)), .val (.int ((3 : Int32) + (1 : Int32))), .val (.ref k4)] [] hr1 1 5 := r57.go fun T t X k => XS.iinc X hx rfl (hb hby own_d1_34) rfl (l' := #[.val (.ref k2), .val (.ref b), .val (.int (5 : Int32)), .val (.int ((3 : Int32) + (1 : Int32))), .val (.ref k4)]) rfl k
  have r58 : OwnW s0 n0 37 #[.val (.ref k2), .val (.ref b), .val (.int (5 : Int32)), .val (.int (4 : Int32)), .val (.ref k4)] [] hr1 1 5 := r58
  have r59 : OwnW s0 n0 9 #[.val (.ref k2), .val (.ref b), .val (.int (5 : Int32)), .val (.int (4 : Int32)), .val (.ref k4)] [] hr1 1 5 := r58.go fun T t X k => XS.goto X hx rfl (pc0 := 37) (pc' := 9) rfl (hb hby own_d1_37) (by decide) (by decide) k
  have r60 : OwnW s0 n0 10 #[.val (.ref k2), .val (.ref b), .val (.int (5 : Int32)), .val (.int (4 : Int32)), .val (.ref k4)] [(.int (4 : Int32))] hr1 1 5 := r59.go fun T t X k => XS.iloadN X hx rfl (hb hby own_d1_9) rfl k
  have r61 : OwnW s0 n0 11 #[.val (.ref k2), .val (.ref b), .val (.int (5 : Int32)), .val (.int (4 : Int32)), .val (.ref k4)] [(.int (5 : Int32)), (.int (4 : Int32))] hr1 1 5 := r60.go fun T t X k => XS.iloadN X hx rfl (hb hby own_d1_10) rfl k
  have r62 : OwnW s0 n0 14 #[.val (.ref k2), .val (.ref b), .val (.int (5 : Int32)), .val (.int (4 : Int32)), .val (.ref k4)] [] hr1 1 5 := r61.go fun T t X k => XS.icmpNo X hx rfl (hb hby own_d1_11) rfl (tlt (by decide)).2.1 k
  have r63 : OwnW s0 n0 15 #[.val (.ref k2), .val (.ref b), .val (.int (5 : Int32)), .val (.int (4 : Int32)), .val (.ref k4)] [(.ref b)] hr1 1 5 := r62.go fun T t X k => XS.aloadN X hx rfl (hb hby own_d1_14) rfl rfl k
  have r64 : OwnW s0 n0 16 #[.val (.ref k2), .val (.ref b), .val (.int (5 : Int32)), .val (.int (4 : Int32)), .val (.ref k4)] [(.int (4 : Int32)), (.ref b)] hr1 1 5 := r63.go fun T t X k => XS.iloadN X hx rfl (hb hby own_d1_15) rfl k
  have r65 : OwnW s0 n0 17 #[.val (.ref k2), .val (.ref b), .val (.int (5 : Int32)), .val (.int (4 : Int32)), .val (.ref k4)] [(.ref k5)] hr1 1 5 := r64.aaload hx hZ Vb rfl (by decide) rfl rfl (hb hby own_d1_16)
  have r66 : OwnW s0 n0 19 #[.val (.ref k2), .val (.ref b), .val (.int (5 : Int32)), .val (.int (4 : Int32)), .val (.ref k5)] [] hr1 1 5 := r65.go fun T t X k => XS.astore X hx rfl (hb hby own_d1_17) rfl rfl (l' := #[.val (.ref k2), .val (.ref b), .val (.int (5 : Int32)), .val (.int (4 : Int32)), .val (.ref k5)]) rfl k
  have r67 : OwnW s0 n0 21 #[.val (.ref k2), .val (.ref b), .val (.int (5 : Int32)), .val (.int (4 : Int32)), .val (.ref k5)] [(.ref k5)] hr1 1 5 := r66.go fun T t X k => XS.aload X hx rfl (hb hby own_d1_19) rfl rfl k
  have r68 : OwnW s0 n0 24 #[.val (.ref k2), .val (.ref b), .val (.int (5 : Int32)), .val (.int (4 : Int32)), .val (.ref k5)] [(.ref k4)] hr1 1 5 := r67.getF hx hZ hown (hw _ (List.mem_of_getElem? (i := 28) rfl)) En1.2.2.2.2.2.2.2.2.2.2.2.2.2.2.2.2.2.2.1 rfl (hb hby own_d1_21)
  have r69 : OwnW s0 n0 25 #[.val (.ref k2), .val (.ref b), .val (.int (5 : Int32)), .val (.int (4 : Int32)), .val (.ref k5)] [(.ref k2), (.ref k4)] hr1 1 5 := r68.go fun T t X k => XS.aloadN X hx rfl (hb hby own_d1_24) rfl rfl k
  have r70 : OwnW s0 n0 34 #[.val (.ref k2), .val (.ref b), .val (.int (5 : Int32)), .val (.int (4 : Int32)), .val (.ref k5)] [] hr1 1 5 := r69.goX fun T t ls X eT k => Jvm.RoadKit.acmp X hx rfl rfl rfl (pc0 := 25) (pc' := 34) (same := false) rfl (hb hby own_d1_25) rfl (own_rne (own_ne En1.2.2.2.2.2.2.2.2.2.2.2.2.2.2.2.2.2.2.2.1 En1.2.2.2.2.2.2.2.2.2.2.2.2.2.2.2.2.2.2.2.2.1 (by decide))) (by decide) (by decide) k
  have r71 : OwnW s0 n0 37 #[.val (.ref k2), .val (.ref b), .val (.int (5 : Int32)), .val (.int ((4 : Int32) + (1 : Int32))), .val (.ref k5)] [] hr1 1 5 := r70.go fun T t X k => XS.iinc X hx rfl (hb hby own_d1_34) rfl (l' := #[.val (.ref k2), .val (.ref b), .val (.int (5 : Int32)), .val (.int ((4 : Int32) + (1 : Int32))), .val (.ref k5)]) rfl k
  have r71 : OwnW s0 n0 37 #[.val (.ref k2), .val (.ref b), .val (.int (5 : Int32)), .val (.int (5 : Int32)), .val (.ref k5)] [] hr1 1 5 := r71
  have r72 : OwnW s0 n0 9 #[.val (.ref k2), .val (.ref b), .val (.int (5 : Int32)), .val (.int (5 : Int32)), .val (.ref k5)] [] hr1 1 5 := r71.go fun T t X k => XS.goto X hx rfl (pc0 := 37) (pc' := 9) rfl (hb hby own_d1_37) (by decide) (by decide) k
  have r73 : OwnW s0 n0 10 #[.val (.ref k2), .val (.ref b), .val (.int (5 : Int32)), .val (.int (5 : Int32)), .val (.ref k5)] [(.int (5 : Int32))] hr1 1 5 := r72.go fun T t X k => XS.iloadN X hx rfl (hb hby own_d1_9) rfl k
  have r74 : OwnW s0 n0 11 #[.val (.ref k2), .val (.ref b), .val (.int (5 : Int32)), .val (.int (5 : Int32)), .val (.ref k5)] [(.int (5 : Int32)), (.int (5 : Int32))] hr1 1 5 := r73.go fun T t X k => XS.iloadN X hx rfl (hb hby own_d1_10) rfl k
  have r75 : OwnW s0 n0 40 #[.val (.ref k2), .val (.ref b), .val (.int (5 : Int32)), .val (.int (5 : Int32)), .val (.ref k5)] [] hr1 1 5 := r74.go fun T t X k => XS.icmpYes X hx rfl (pc0 := 11) (pc' := 40) rfl (hb hby own_d1_11) rfl (flt (by decide)).2.1 (by decide) (by decide) k
  obtain ⟨vr76, hr76, r76, qr76⟩ := r75.callS hx hZ hown (hw _ (List.mem_of_getElem? (i := 30) rfl)) (hw _ (List.mem_of_getElem? (i := 31) rfl)) (hw _ (List.mem_of_getElem? (i := 32) rfl)) (hw _ (List.mem_of_getElem? (i := 33) rfl)) (by decide) (argsL := []) (own_emp l Z a0 hw ke hr1 n0 (SE.ext Ex)) [] 0 (by decide) (by decide) (by rw [hml]; rfl) (lenOf own_pd3 rfl) rfl (Nat.le_of_eq rfl) (hb hby own_d1_40) (by decide) (by decide)
  obtain ⟨rfl, rfl⟩ := qr76
  have r76 : OwnW s0 n0 43 #[.val (.ref k2), .val (.ref b), .val (.int (5 : Int32)), .val (.int (5 : Int32)), .val (.ref k5)] [(.ref ke)] hr1 1 5 := r76
  have r77 := r76.retW hx hret rfl rfl (Or.inr (Or.inr (Or.inr (Or.inr ⟨rfl, rfl, rfl⟩)))) (hb hby own_d1_43)
  exact ⟨_, _, 1, 5, ⟨ke, rfl, Ex, XE.ext Ex, FE.ext Ex⟩, by decide, by decide, r77⟩
theorem own_ef_nxt2 (m : MethodId) (k3 : Addr) : entryFrame m #[(.ref k3)] 5 = mkF m 0 #[.val (.ref k3), .unset, .unset, .unset, .unset] [] := by first | (simp [entryFrame, mkF, argsToLocals, Value.category]; done) | rfl
set_option maxRecDepth 65536 in
set_option maxHeartbeats 40000000 in
theorem own_nxt2 (l : Launch) (Z : State) (a0 : Array Value) (hw : ∀ d ∈ tables_1, d.before a0 Z = true) (k3 : Addr) (k0 k1 k2 k4 k5 : Addr) (ke : Addr) (h0 : Heap) (n0 : Nat) (Z0 : n0 ≤ h0.size) (En : OwnEn Z h0 k0 k1 k2 k3 k4 k5) (SE : Sta Z h0 "java/util/Optional" "EMPTY" "Ljava/util/Optional;" (.ref ke)) (XE : Exa Z h0 ke "java/util/Optional") (FE : Fld Z h0 ke "java/util/Optional" "value" "Ljava/lang/Object;" .null) :
    OwnCon l Z (⟨"com/example/ample_proof/ampleproof/disputes/DisputePhase", "next", "()Ljava/util/Optional;"⟩ : MethodName) prog_8_method_4_code 5 (some (.object "java/util/Optional")) ({ frames := 3, cells := 2, slots := 6, locals := 64 } : Room) #[(.ref k3)] h0 n0 (fun v h => ∃ o, v = some (.ref o) ∧ Ext h0 h ∧ Exa Z h o "java/util/Optional" ∧ Fld Z h o "java/util/Optional" "value" "Ljava/lang/Object;" (.ref k4)) := by
  refine OwnCon.of own_pn0 (fun m => own_ef_nxt2 m k3) ?_
  intro p e s m below meth c s0 hx hby hml hown hnm hret hZ r
  obtain ⟨vr1, hr1, r1, qr1⟩ := r.callS hx hZ hown (hw _ (List.mem_of_getElem? (i := 9) rfl)) (hw _ (List.mem_of_getElem? (i := 10) rfl)) (hw _ (List.mem_of_getElem? (i := 2) rfl)) (hw _ (List.mem_of_getElem? (i := 11) rfl)) (by decide) (argsL := []) (own_vals l Z a0 hw k0 k1 k2 k3 k4 k5 h0 n0 En) [] 0 (by decide) (by decide) (by rw [hml]; rfl) (lenOf own_pd2 rfl) rfl (Nat.le_of_eq rfl) (hb hby own_d1_0) (by decide) (by decide)
  obtain ⟨b, rfl, Ex, Vb⟩ := qr1
  have r1 : OwnW s0 n0 3 #[.val (.ref k3), .unset, .unset, .unset, .unset] [(.ref b)] hr1 1 5 := r1
  have En1 := En.ext Ex
  have r2 : OwnW s0 n0 4 #[.val (.ref k3), .val (.ref b), .unset, .unset, .unset] [] hr1 1 5 := r1.go fun T t X k => XS.astoreN X hx rfl (hb hby own_d1_3) rfl rfl (l' := #[.val (.ref k3), .val (.ref b), .unset, .unset, .unset]) rfl k
  have r3 : OwnW s0 n0 5 #[.val (.ref k3), .val (.ref b), .unset, .unset, .unset] [(.ref b)] hr1 1 5 := r2.go fun T t X k => XS.aloadN X hx rfl (hb hby own_d1_4) rfl rfl k
  have r4 : OwnW s0 n0 6 #[.val (.ref k3), .val (.ref b), .unset, .unset, .unset] [(.int (5 : Int32))] hr1 1 5 := r3.alen hx hZ Vb rfl rfl (hb hby own_d1_5)
  have r5 : OwnW s0 n0 7 #[.val (.ref k3), .val (.ref b), .val (.int (5 : Int32)), .unset, .unset] [] hr1 1 5 := r4.go fun T t X k => XS.istoreN X hx rfl (hb hby own_d1_6) rfl (l' := #[.val (.ref k3), .val (.ref b), .val (.int (5 : Int32)), .unset, .unset]) rfl k
  have r6 : OwnW s0 n0 8 #[.val (.ref k3), .val (.ref b), .val (.int (5 : Int32)), .unset, .unset] [(.int (0 : Int32))] hr1 1 5 := r5.go fun T t X k => XS.iconst X hx rfl (hb hby own_d1_7) k
  have r7 : OwnW s0 n0 9 #[.val (.ref k3), .val (.ref b), .val (.int (5 : Int32)), .val (.int (0 : Int32)), .unset] [] hr1 1 5 := r6.go fun T t X k => XS.istoreN X hx rfl (hb hby own_d1_8) rfl (l' := #[.val (.ref k3), .val (.ref b), .val (.int (5 : Int32)), .val (.int (0 : Int32)), .unset]) rfl k
  have r8 : OwnW s0 n0 10 #[.val (.ref k3), .val (.ref b), .val (.int (5 : Int32)), .val (.int (0 : Int32)), .unset] [(.int (0 : Int32))] hr1 1 5 := r7.go fun T t X k => XS.iloadN X hx rfl (hb hby own_d1_9) rfl k
  have r9 : OwnW s0 n0 11 #[.val (.ref k3), .val (.ref b), .val (.int (5 : Int32)), .val (.int (0 : Int32)), .unset] [(.int (5 : Int32)), (.int (0 : Int32))] hr1 1 5 := r8.go fun T t X k => XS.iloadN X hx rfl (hb hby own_d1_10) rfl k
  have r10 : OwnW s0 n0 14 #[.val (.ref k3), .val (.ref b), .val (.int (5 : Int32)), .val (.int (0 : Int32)), .unset] [] hr1 1 5 := r9.go fun T t X k => XS.icmpNo X hx rfl (hb hby own_d1_11) rfl (tlt (by decide)).2.1 k
  have r11 : OwnW s0 n0 15 #[.val (.ref k3), .val (.ref b), .val (.int (5 : Int32)), .val (.int (0 : Int32)), .unset] [(.ref b)] hr1 1 5 := r10.go fun T t X k => XS.aloadN X hx rfl (hb hby own_d1_14) rfl rfl k
  have r12 : OwnW s0 n0 16 #[.val (.ref k3), .val (.ref b), .val (.int (5 : Int32)), .val (.int (0 : Int32)), .unset] [(.int (0 : Int32)), (.ref b)] hr1 1 5 := r11.go fun T t X k => XS.iloadN X hx rfl (hb hby own_d1_15) rfl k
  have r13 : OwnW s0 n0 17 #[.val (.ref k3), .val (.ref b), .val (.int (5 : Int32)), .val (.int (0 : Int32)), .unset] [(.ref k0)] hr1 1 5 := r12.aaload hx hZ Vb rfl (by decide) rfl rfl (hb hby own_d1_16)
  have r14 : OwnW s0 n0 19 #[.val (.ref k3), .val (.ref b), .val (.int (5 : Int32)), .val (.int (0 : Int32)), .val (.ref k0)] [] hr1 1 5 := r13.go fun T t X k => XS.astore X hx rfl (hb hby own_d1_17) rfl rfl (l' := #[.val (.ref k3), .val (.ref b), .val (.int (5 : Int32)), .val (.int (0 : Int32)), .val (.ref k0)]) rfl k
  have r15 : OwnW s0 n0 21 #[.val (.ref k3), .val (.ref b), .val (.int (5 : Int32)), .val (.int (0 : Int32)), .val (.ref k0)] [(.ref k0)] hr1 1 5 := r14.go fun T t X k => XS.aload X hx rfl (hb hby own_d1_19) rfl rfl k
  have r16 : OwnW s0 n0 24 #[.val (.ref k3), .val (.ref b), .val (.int (5 : Int32)), .val (.int (0 : Int32)), .val (.ref k0)] [.null] hr1 1 5 := r15.getF hx hZ hown (hw _ (List.mem_of_getElem? (i := 28) rfl)) En1.2.2.2.2.2.2.2.2.2.2.2.2.1 rfl (hb hby own_d1_21)
  have r17 : OwnW s0 n0 25 #[.val (.ref k3), .val (.ref b), .val (.int (5 : Int32)), .val (.int (0 : Int32)), .val (.ref k0)] [(.ref k3), .null] hr1 1 5 := r16.go fun T t X k => XS.aloadN X hx rfl (hb hby own_d1_24) rfl rfl k
  have r18 : OwnW s0 n0 34 #[.val (.ref k3), .val (.ref b), .val (.int (5 : Int32)), .val (.int (0 : Int32)), .val (.ref k0)] [] hr1 1 5 := r17.goX fun T t ls X eT k => Jvm.RoadKit.acmp X hx rfl rfl rfl (pc0 := 25) (pc' := 34) (same := false) rfl (hb hby own_d1_25) rfl (decide_eq_false nofun) (by decide) (by decide) k
  have r19 : OwnW s0 n0 37 #[.val (.ref k3), .val (.ref b), .val (.int (5 : Int32)), .val (.int ((0 : Int32) + (1 : Int32))), .val (.ref k0)] [] hr1 1 5 := r18.go fun T t X k => XS.iinc X hx rfl (hb hby own_d1_34) rfl (l' := #[.val (.ref k3), .val (.ref b), .val (.int (5 : Int32)), .val (.int ((0 : Int32) + (1 : Int32))), .val (.ref k0)]) rfl k
  have r19 : OwnW s0 n0 37 #[.val (.ref k3), .val (.ref b), .val (.int (5 : Int32)), .val (.int (1 : Int32)), .val (.ref k0)] [] hr1 1 5 := r19
  have r20 : OwnW s0 n0 9 #[.val (.ref k3), .val (.ref b), .val (.int (5 : Int32)), .val (.int (1 : Int32)), .val (.ref k0)] [] hr1 1 5 := r19.go fun T t X k => XS.goto X hx rfl (pc0 := 37) (pc' := 9) rfl (hb hby own_d1_37) (by decide) (by decide) k
  have r21 : OwnW s0 n0 10 #[.val (.ref k3), .val (.ref b), .val (.int (5 : Int32)), .val (.int (1 : Int32)), .val (.ref k0)] [(.int (1 : Int32))] hr1 1 5 := r20.go fun T t X k => XS.iloadN X hx rfl (hb hby own_d1_9) rfl k
  have r22 : OwnW s0 n0 11 #[.val (.ref k3), .val (.ref b), .val (.int (5 : Int32)), .val (.int (1 : Int32)), .val (.ref k0)] [(.int (5 : Int32)), (.int (1 : Int32))] hr1 1 5 := r21.go fun T t X k => XS.iloadN X hx rfl (hb hby own_d1_10) rfl k
  have r23 : OwnW s0 n0 14 #[.val (.ref k3), .val (.ref b), .val (.int (5 : Int32)), .val (.int (1 : Int32)), .val (.ref k0)] [] hr1 1 5 := r22.go fun T t X k => XS.icmpNo X hx rfl (hb hby own_d1_11) rfl (tlt (by decide)).2.1 k
  have r24 : OwnW s0 n0 15 #[.val (.ref k3), .val (.ref b), .val (.int (5 : Int32)), .val (.int (1 : Int32)), .val (.ref k0)] [(.ref b)] hr1 1 5 := r23.go fun T t X k => XS.aloadN X hx rfl (hb hby own_d1_14) rfl rfl k
  have r25 : OwnW s0 n0 16 #[.val (.ref k3), .val (.ref b), .val (.int (5 : Int32)), .val (.int (1 : Int32)), .val (.ref k0)] [(.int (1 : Int32)), (.ref b)] hr1 1 5 := r24.go fun T t X k => XS.iloadN X hx rfl (hb hby own_d1_15) rfl k
  have r26 : OwnW s0 n0 17 #[.val (.ref k3), .val (.ref b), .val (.int (5 : Int32)), .val (.int (1 : Int32)), .val (.ref k0)] [(.ref k2)] hr1 1 5 := r25.aaload hx hZ Vb rfl (by decide) rfl rfl (hb hby own_d1_16)
  have r27 : OwnW s0 n0 19 #[.val (.ref k3), .val (.ref b), .val (.int (5 : Int32)), .val (.int (1 : Int32)), .val (.ref k2)] [] hr1 1 5 := r26.go fun T t X k => XS.astore X hx rfl (hb hby own_d1_17) rfl rfl (l' := #[.val (.ref k3), .val (.ref b), .val (.int (5 : Int32)), .val (.int (1 : Int32)), .val (.ref k2)]) rfl k
  have r28 : OwnW s0 n0 21 #[.val (.ref k3), .val (.ref b), .val (.int (5 : Int32)), .val (.int (1 : Int32)), .val (.ref k2)] [(.ref k2)] hr1 1 5 := r27.go fun T t X k => XS.aload X hx rfl (hb hby own_d1_19) rfl rfl k
  have r29 : OwnW s0 n0 24 #[.val (.ref k3), .val (.ref b), .val (.int (5 : Int32)), .val (.int (1 : Int32)), .val (.ref k2)] [.null] hr1 1 5 := r28.getF hx hZ hown (hw _ (List.mem_of_getElem? (i := 28) rfl)) En1.2.2.2.2.2.2.2.2.2.2.2.2.2.1 rfl (hb hby own_d1_21)
  have r30 : OwnW s0 n0 25 #[.val (.ref k3), .val (.ref b), .val (.int (5 : Int32)), .val (.int (1 : Int32)), .val (.ref k2)] [(.ref k3), .null] hr1 1 5 := r29.go fun T t X k => XS.aloadN X hx rfl (hb hby own_d1_24) rfl rfl k
  have r31 : OwnW s0 n0 34 #[.val (.ref k3), .val (.ref b), .val (.int (5 : Int32)), .val (.int (1 : Int32)), .val (.ref k2)] [] hr1 1 5 := r30.goX fun T t ls X eT k => Jvm.RoadKit.acmp X hx rfl rfl rfl (pc0 := 25) (pc' := 34) (same := false) rfl (hb hby own_d1_25) rfl (decide_eq_false nofun) (by decide) (by decide) k
  have r32 : OwnW s0 n0 37 #[.val (.ref k3), .val (.ref b), .val (.int (5 : Int32)), .val (.int ((1 : Int32) + (1 : Int32))), .val (.ref k2)] [] hr1 1 5 := r31.go fun T t X k => XS.iinc X hx rfl (hb hby own_d1_34) rfl (l' := #[.val (.ref k3), .val (.ref b), .val (.int (5 : Int32)), .val (.int ((1 : Int32) + (1 : Int32))), .val (.ref k2)]) rfl k
  have r32 : OwnW s0 n0 37 #[.val (.ref k3), .val (.ref b), .val (.int (5 : Int32)), .val (.int (2 : Int32)), .val (.ref k2)] [] hr1 1 5 := r32
  have r33 : OwnW s0 n0 9 #[.val (.ref k3), .val (.ref b), .val (.int (5 : Int32)), .val (.int (2 : Int32)), .val (.ref k2)] [] hr1 1 5 := r32.go fun T t X k => XS.goto X hx rfl (pc0 := 37) (pc' := 9) rfl (hb hby own_d1_37) (by decide) (by decide) k
  have r34 : OwnW s0 n0 10 #[.val (.ref k3), .val (.ref b), .val (.int (5 : Int32)), .val (.int (2 : Int32)), .val (.ref k2)] [(.int (2 : Int32))] hr1 1 5 := r33.go fun T t X k => XS.iloadN X hx rfl (hb hby own_d1_9) rfl k
  have r35 : OwnW s0 n0 11 #[.val (.ref k3), .val (.ref b), .val (.int (5 : Int32)), .val (.int (2 : Int32)), .val (.ref k2)] [(.int (5 : Int32)), (.int (2 : Int32))] hr1 1 5 := r34.go fun T t X k => XS.iloadN X hx rfl (hb hby own_d1_10) rfl k
  have r36 : OwnW s0 n0 14 #[.val (.ref k3), .val (.ref b), .val (.int (5 : Int32)), .val (.int (2 : Int32)), .val (.ref k2)] [] hr1 1 5 := r35.go fun T t X k => XS.icmpNo X hx rfl (hb hby own_d1_11) rfl (tlt (by decide)).2.1 k
  have r37 : OwnW s0 n0 15 #[.val (.ref k3), .val (.ref b), .val (.int (5 : Int32)), .val (.int (2 : Int32)), .val (.ref k2)] [(.ref b)] hr1 1 5 := r36.go fun T t X k => XS.aloadN X hx rfl (hb hby own_d1_14) rfl rfl k
  have r38 : OwnW s0 n0 16 #[.val (.ref k3), .val (.ref b), .val (.int (5 : Int32)), .val (.int (2 : Int32)), .val (.ref k2)] [(.int (2 : Int32)), (.ref b)] hr1 1 5 := r37.go fun T t X k => XS.iloadN X hx rfl (hb hby own_d1_15) rfl k
  have r39 : OwnW s0 n0 17 #[.val (.ref k3), .val (.ref b), .val (.int (5 : Int32)), .val (.int (2 : Int32)), .val (.ref k2)] [(.ref k3)] hr1 1 5 := r38.aaload hx hZ Vb rfl (by decide) rfl rfl (hb hby own_d1_16)
  have r40 : OwnW s0 n0 19 #[.val (.ref k3), .val (.ref b), .val (.int (5 : Int32)), .val (.int (2 : Int32)), .val (.ref k3)] [] hr1 1 5 := r39.go fun T t X k => XS.astore X hx rfl (hb hby own_d1_17) rfl rfl (l' := #[.val (.ref k3), .val (.ref b), .val (.int (5 : Int32)), .val (.int (2 : Int32)), .val (.ref k3)]) rfl k
  have r41 : OwnW s0 n0 21 #[.val (.ref k3), .val (.ref b), .val (.int (5 : Int32)), .val (.int (2 : Int32)), .val (.ref k3)] [(.ref k3)] hr1 1 5 := r40.go fun T t X k => XS.aload X hx rfl (hb hby own_d1_19) rfl rfl k
  have r42 : OwnW s0 n0 24 #[.val (.ref k3), .val (.ref b), .val (.int (5 : Int32)), .val (.int (2 : Int32)), .val (.ref k3)] [.null] hr1 1 5 := r41.getF hx hZ hown (hw _ (List.mem_of_getElem? (i := 28) rfl)) En1.2.2.2.2.2.2.2.2.2.2.2.2.2.2.1 rfl (hb hby own_d1_21)
  have r43 : OwnW s0 n0 25 #[.val (.ref k3), .val (.ref b), .val (.int (5 : Int32)), .val (.int (2 : Int32)), .val (.ref k3)] [(.ref k3), .null] hr1 1 5 := r42.go fun T t X k => XS.aloadN X hx rfl (hb hby own_d1_24) rfl rfl k
  have r44 : OwnW s0 n0 34 #[.val (.ref k3), .val (.ref b), .val (.int (5 : Int32)), .val (.int (2 : Int32)), .val (.ref k3)] [] hr1 1 5 := r43.goX fun T t ls X eT k => Jvm.RoadKit.acmp X hx rfl rfl rfl (pc0 := 25) (pc' := 34) (same := false) rfl (hb hby own_d1_25) rfl (decide_eq_false nofun) (by decide) (by decide) k
  have r45 : OwnW s0 n0 37 #[.val (.ref k3), .val (.ref b), .val (.int (5 : Int32)), .val (.int ((2 : Int32) + (1 : Int32))), .val (.ref k3)] [] hr1 1 5 := r44.go fun T t X k => XS.iinc X hx rfl (hb hby own_d1_34) rfl (l' := #[.val (.ref k3), .val (.ref b), .val (.int (5 : Int32)), .val (.int ((2 : Int32) + (1 : Int32))), .val (.ref k3)]) rfl k
  have r45 : OwnW s0 n0 37 #[.val (.ref k3), .val (.ref b), .val (.int (5 : Int32)), .val (.int (3 : Int32)), .val (.ref k3)] [] hr1 1 5 := r45
  have r46 : OwnW s0 n0 9 #[.val (.ref k3), .val (.ref b), .val (.int (5 : Int32)), .val (.int (3 : Int32)), .val (.ref k3)] [] hr1 1 5 := r45.go fun T t X k => XS.goto X hx rfl (pc0 := 37) (pc' := 9) rfl (hb hby own_d1_37) (by decide) (by decide) k
  have r47 : OwnW s0 n0 10 #[.val (.ref k3), .val (.ref b), .val (.int (5 : Int32)), .val (.int (3 : Int32)), .val (.ref k3)] [(.int (3 : Int32))] hr1 1 5 := r46.go fun T t X k => XS.iloadN X hx rfl (hb hby own_d1_9) rfl k
  have r48 : OwnW s0 n0 11 #[.val (.ref k3), .val (.ref b), .val (.int (5 : Int32)), .val (.int (3 : Int32)), .val (.ref k3)] [(.int (5 : Int32)), (.int (3 : Int32))] hr1 1 5 := r47.go fun T t X k => XS.iloadN X hx rfl (hb hby own_d1_10) rfl k
  have r49 : OwnW s0 n0 14 #[.val (.ref k3), .val (.ref b), .val (.int (5 : Int32)), .val (.int (3 : Int32)), .val (.ref k3)] [] hr1 1 5 := r48.go fun T t X k => XS.icmpNo X hx rfl (hb hby own_d1_11) rfl (tlt (by decide)).2.1 k
  have r50 : OwnW s0 n0 15 #[.val (.ref k3), .val (.ref b), .val (.int (5 : Int32)), .val (.int (3 : Int32)), .val (.ref k3)] [(.ref b)] hr1 1 5 := r49.go fun T t X k => XS.aloadN X hx rfl (hb hby own_d1_14) rfl rfl k
  have r51 : OwnW s0 n0 16 #[.val (.ref k3), .val (.ref b), .val (.int (5 : Int32)), .val (.int (3 : Int32)), .val (.ref k3)] [(.int (3 : Int32)), (.ref b)] hr1 1 5 := r50.go fun T t X k => XS.iloadN X hx rfl (hb hby own_d1_15) rfl k
  have r52 : OwnW s0 n0 17 #[.val (.ref k3), .val (.ref b), .val (.int (5 : Int32)), .val (.int (3 : Int32)), .val (.ref k3)] [(.ref k4)] hr1 1 5 := r51.aaload hx hZ Vb rfl (by decide) rfl rfl (hb hby own_d1_16)
  have r53 : OwnW s0 n0 19 #[.val (.ref k3), .val (.ref b), .val (.int (5 : Int32)), .val (.int (3 : Int32)), .val (.ref k4)] [] hr1 1 5 := r52.go fun T t X k => XS.astore X hx rfl (hb hby own_d1_17) rfl rfl (l' := #[.val (.ref k3), .val (.ref b), .val (.int (5 : Int32)), .val (.int (3 : Int32)), .val (.ref k4)]) rfl k
  have r54 : OwnW s0 n0 21 #[.val (.ref k3), .val (.ref b), .val (.int (5 : Int32)), .val (.int (3 : Int32)), .val (.ref k4)] [(.ref k4)] hr1 1 5 := r53.go fun T t X k => XS.aload X hx rfl (hb hby own_d1_19) rfl rfl k
  have r55 : OwnW s0 n0 24 #[.val (.ref k3), .val (.ref b), .val (.int (5 : Int32)), .val (.int (3 : Int32)), .val (.ref k4)] [(.ref k3)] hr1 1 5 := r54.getF hx hZ hown (hw _ (List.mem_of_getElem? (i := 28) rfl)) En1.2.2.2.2.2.2.2.2.2.2.2.2.2.2.2.1 rfl (hb hby own_d1_21)
  have r56 : OwnW s0 n0 25 #[.val (.ref k3), .val (.ref b), .val (.int (5 : Int32)), .val (.int (3 : Int32)), .val (.ref k4)] [(.ref k3), (.ref k3)] hr1 1 5 := r55.go fun T t X k => XS.aloadN X hx rfl (hb hby own_d1_24) rfl rfl k
  have r57 : OwnW s0 n0 28 #[.val (.ref k3), .val (.ref b), .val (.int (5 : Int32)), .val (.int (3 : Int32)), .val (.ref k4)] [] hr1 1 5 := r56.goX fun T t ls X eT k => Jvm.RoadKit.acmp X hx rfl rfl rfl (pc0 := 25) (pc' := 28) (same := true) rfl (hb hby own_d1_25) rfl (decide_eq_true rfl) (by decide) (by decide) k
  have r58 : OwnW s0 n0 30 #[.val (.ref k3), .val (.ref b), .val (.int (5 : Int32)), .val (.int (3 : Int32)), .val (.ref k4)] [(.ref k4)] hr1 1 5 := r57.go fun T t X k => XS.aload X hx rfl (hb hby own_d1_28) rfl rfl k
  obtain ⟨vr59, hr59, r59, qr59⟩ := r58.callS hx hZ hown (hw _ (List.mem_of_getElem? (i := 44) rfl)) (hw _ (List.mem_of_getElem? (i := 45) rfl)) (hw _ (List.mem_of_getElem? (i := 32) rfl)) (hw _ (List.mem_of_getElem? (i := 46) rfl)) (by decide) (argsL := [(.ref k4)]) (own_opt l Z a0 hw k4 hr1 n0 (Nat.le_trans Z0 Ex.1)) [] 0 (by decide) (by decide) (by rw [hml]; rfl) (lenOf own_pd4 rfl) rfl (Nat.le_of_eq rfl) (hb hby own_d1_30) (by decide) (by decide)
  obtain ⟨o, rfl, Ex2, X2, F2⟩ := qr59
  have r59 : OwnW s0 n0 33 #[.val (.ref k3), .val (.ref b), .val (.int (5 : Int32)), .val (.int (3 : Int32)), .val (.ref k4)] [(.ref o)] hr59 2 6 := r59
  have r60 := r59.retW hx hret rfl rfl (Or.inr (Or.inr (Or.inr (Or.inr ⟨rfl, rfl, rfl⟩)))) (hb hby own_d1_33)
  exact ⟨_, _, 2, 6, ⟨o, rfl, own_ext_trans Ex Ex2, X2, F2⟩, by decide, by decide, r60⟩
theorem own_ef_nxt3 (m : MethodId) (k4 : Addr) : entryFrame m #[(.ref k4)] 5 = mkF m 0 #[.val (.ref k4), .unset, .unset, .unset, .unset] [] := by first | (simp [entryFrame, mkF, argsToLocals, Value.category]; done) | rfl
set_option maxRecDepth 65536 in
set_option maxHeartbeats 40000000 in
theorem own_nxt3 (l : Launch) (Z : State) (a0 : Array Value) (hw : ∀ d ∈ tables_1, d.before a0 Z = true) (k4 : Addr) (k0 k1 k2 k3 k5 : Addr) (ke : Addr) (h0 : Heap) (n0 : Nat) (Z0 : n0 ≤ h0.size) (En : OwnEn Z h0 k0 k1 k2 k3 k4 k5) (SE : Sta Z h0 "java/util/Optional" "EMPTY" "Ljava/util/Optional;" (.ref ke)) (XE : Exa Z h0 ke "java/util/Optional") (FE : Fld Z h0 ke "java/util/Optional" "value" "Ljava/lang/Object;" .null) :
    OwnCon l Z (⟨"com/example/ample_proof/ampleproof/disputes/DisputePhase", "next", "()Ljava/util/Optional;"⟩ : MethodName) prog_8_method_4_code 5 (some (.object "java/util/Optional")) ({ frames := 3, cells := 2, slots := 6, locals := 64 } : Room) #[(.ref k4)] h0 n0 (fun v h => ∃ o, v = some (.ref o) ∧ Ext h0 h ∧ Exa Z h o "java/util/Optional" ∧ Fld Z h o "java/util/Optional" "value" "Ljava/lang/Object;" (.ref k5)) := by
  refine OwnCon.of own_pn0 (fun m => own_ef_nxt3 m k4) ?_
  intro p e s m below meth c s0 hx hby hml hown hnm hret hZ r
  obtain ⟨vr1, hr1, r1, qr1⟩ := r.callS hx hZ hown (hw _ (List.mem_of_getElem? (i := 9) rfl)) (hw _ (List.mem_of_getElem? (i := 10) rfl)) (hw _ (List.mem_of_getElem? (i := 2) rfl)) (hw _ (List.mem_of_getElem? (i := 11) rfl)) (by decide) (argsL := []) (own_vals l Z a0 hw k0 k1 k2 k3 k4 k5 h0 n0 En) [] 0 (by decide) (by decide) (by rw [hml]; rfl) (lenOf own_pd2 rfl) rfl (Nat.le_of_eq rfl) (hb hby own_d1_0) (by decide) (by decide)
  obtain ⟨b, rfl, Ex, Vb⟩ := qr1
  have r1 : OwnW s0 n0 3 #[.val (.ref k4), .unset, .unset, .unset, .unset] [(.ref b)] hr1 1 5 := r1
  have En1 := En.ext Ex
  have r2 : OwnW s0 n0 4 #[.val (.ref k4), .val (.ref b), .unset, .unset, .unset] [] hr1 1 5 := r1.go fun T t X k => XS.astoreN X hx rfl (hb hby own_d1_3) rfl rfl (l' := #[.val (.ref k4), .val (.ref b), .unset, .unset, .unset]) rfl k
  have r3 : OwnW s0 n0 5 #[.val (.ref k4), .val (.ref b), .unset, .unset, .unset] [(.ref b)] hr1 1 5 := r2.go fun T t X k => XS.aloadN X hx rfl (hb hby own_d1_4) rfl rfl k
  have r4 : OwnW s0 n0 6 #[.val (.ref k4), .val (.ref b), .unset, .unset, .unset] [(.int (5 : Int32))] hr1 1 5 := r3.alen hx hZ Vb rfl rfl (hb hby own_d1_5)
  have r5 : OwnW s0 n0 7 #[.val (.ref k4), .val (.ref b), .val (.int (5 : Int32)), .unset, .unset] [] hr1 1 5 := r4.go fun T t X k => XS.istoreN X hx rfl (hb hby own_d1_6) rfl (l' := #[.val (.ref k4), .val (.ref b), .val (.int (5 : Int32)), .unset, .unset]) rfl k
  have r6 : OwnW s0 n0 8 #[.val (.ref k4), .val (.ref b), .val (.int (5 : Int32)), .unset, .unset] [(.int (0 : Int32))] hr1 1 5 := r5.go fun T t X k => XS.iconst X hx rfl (hb hby own_d1_7) k
  have r7 : OwnW s0 n0 9 #[.val (.ref k4), .val (.ref b), .val (.int (5 : Int32)), .val (.int (0 : Int32)), .unset] [] hr1 1 5 := r6.go fun T t X k => XS.istoreN X hx rfl (hb hby own_d1_8) rfl (l' := #[.val (.ref k4), .val (.ref b), .val (.int (5 : Int32)), .val (.int (0 : Int32)), .unset]) rfl k
  have r8 : OwnW s0 n0 10 #[.val (.ref k4), .val (.ref b), .val (.int (5 : Int32)), .val (.int (0 : Int32)), .unset] [(.int (0 : Int32))] hr1 1 5 := r7.go fun T t X k => XS.iloadN X hx rfl (hb hby own_d1_9) rfl k
  have r9 : OwnW s0 n0 11 #[.val (.ref k4), .val (.ref b), .val (.int (5 : Int32)), .val (.int (0 : Int32)), .unset] [(.int (5 : Int32)), (.int (0 : Int32))] hr1 1 5 := r8.go fun T t X k => XS.iloadN X hx rfl (hb hby own_d1_10) rfl k
  have r10 : OwnW s0 n0 14 #[.val (.ref k4), .val (.ref b), .val (.int (5 : Int32)), .val (.int (0 : Int32)), .unset] [] hr1 1 5 := r9.go fun T t X k => XS.icmpNo X hx rfl (hb hby own_d1_11) rfl (tlt (by decide)).2.1 k
  have r11 : OwnW s0 n0 15 #[.val (.ref k4), .val (.ref b), .val (.int (5 : Int32)), .val (.int (0 : Int32)), .unset] [(.ref b)] hr1 1 5 := r10.go fun T t X k => XS.aloadN X hx rfl (hb hby own_d1_14) rfl rfl k
  have r12 : OwnW s0 n0 16 #[.val (.ref k4), .val (.ref b), .val (.int (5 : Int32)), .val (.int (0 : Int32)), .unset] [(.int (0 : Int32)), (.ref b)] hr1 1 5 := r11.go fun T t X k => XS.iloadN X hx rfl (hb hby own_d1_15) rfl k
  have r13 : OwnW s0 n0 17 #[.val (.ref k4), .val (.ref b), .val (.int (5 : Int32)), .val (.int (0 : Int32)), .unset] [(.ref k0)] hr1 1 5 := r12.aaload hx hZ Vb rfl (by decide) rfl rfl (hb hby own_d1_16)
  have r14 : OwnW s0 n0 19 #[.val (.ref k4), .val (.ref b), .val (.int (5 : Int32)), .val (.int (0 : Int32)), .val (.ref k0)] [] hr1 1 5 := r13.go fun T t X k => XS.astore X hx rfl (hb hby own_d1_17) rfl rfl (l' := #[.val (.ref k4), .val (.ref b), .val (.int (5 : Int32)), .val (.int (0 : Int32)), .val (.ref k0)]) rfl k
  have r15 : OwnW s0 n0 21 #[.val (.ref k4), .val (.ref b), .val (.int (5 : Int32)), .val (.int (0 : Int32)), .val (.ref k0)] [(.ref k0)] hr1 1 5 := r14.go fun T t X k => XS.aload X hx rfl (hb hby own_d1_19) rfl rfl k
  have r16 : OwnW s0 n0 24 #[.val (.ref k4), .val (.ref b), .val (.int (5 : Int32)), .val (.int (0 : Int32)), .val (.ref k0)] [.null] hr1 1 5 := r15.getF hx hZ hown (hw _ (List.mem_of_getElem? (i := 28) rfl)) En1.2.2.2.2.2.2.2.2.2.2.2.2.1 rfl (hb hby own_d1_21)
  have r17 : OwnW s0 n0 25 #[.val (.ref k4), .val (.ref b), .val (.int (5 : Int32)), .val (.int (0 : Int32)), .val (.ref k0)] [(.ref k4), .null] hr1 1 5 := r16.go fun T t X k => XS.aloadN X hx rfl (hb hby own_d1_24) rfl rfl k
  have r18 : OwnW s0 n0 34 #[.val (.ref k4), .val (.ref b), .val (.int (5 : Int32)), .val (.int (0 : Int32)), .val (.ref k0)] [] hr1 1 5 := r17.goX fun T t ls X eT k => Jvm.RoadKit.acmp X hx rfl rfl rfl (pc0 := 25) (pc' := 34) (same := false) rfl (hb hby own_d1_25) rfl (decide_eq_false nofun) (by decide) (by decide) k
  have r19 : OwnW s0 n0 37 #[.val (.ref k4), .val (.ref b), .val (.int (5 : Int32)), .val (.int ((0 : Int32) + (1 : Int32))), .val (.ref k0)] [] hr1 1 5 := r18.go fun T t X k => XS.iinc X hx rfl (hb hby own_d1_34) rfl (l' := #[.val (.ref k4), .val (.ref b), .val (.int (5 : Int32)), .val (.int ((0 : Int32) + (1 : Int32))), .val (.ref k0)]) rfl k
  have r19 : OwnW s0 n0 37 #[.val (.ref k4), .val (.ref b), .val (.int (5 : Int32)), .val (.int (1 : Int32)), .val (.ref k0)] [] hr1 1 5 := r19
  have r20 : OwnW s0 n0 9 #[.val (.ref k4), .val (.ref b), .val (.int (5 : Int32)), .val (.int (1 : Int32)), .val (.ref k0)] [] hr1 1 5 := r19.go fun T t X k => XS.goto X hx rfl (pc0 := 37) (pc' := 9) rfl (hb hby own_d1_37) (by decide) (by decide) k
  have r21 : OwnW s0 n0 10 #[.val (.ref k4), .val (.ref b), .val (.int (5 : Int32)), .val (.int (1 : Int32)), .val (.ref k0)] [(.int (1 : Int32))] hr1 1 5 := r20.go fun T t X k => XS.iloadN X hx rfl (hb hby own_d1_9) rfl k
  have r22 : OwnW s0 n0 11 #[.val (.ref k4), .val (.ref b), .val (.int (5 : Int32)), .val (.int (1 : Int32)), .val (.ref k0)] [(.int (5 : Int32)), (.int (1 : Int32))] hr1 1 5 := r21.go fun T t X k => XS.iloadN X hx rfl (hb hby own_d1_10) rfl k
  have r23 : OwnW s0 n0 14 #[.val (.ref k4), .val (.ref b), .val (.int (5 : Int32)), .val (.int (1 : Int32)), .val (.ref k0)] [] hr1 1 5 := r22.go fun T t X k => XS.icmpNo X hx rfl (hb hby own_d1_11) rfl (tlt (by decide)).2.1 k
  have r24 : OwnW s0 n0 15 #[.val (.ref k4), .val (.ref b), .val (.int (5 : Int32)), .val (.int (1 : Int32)), .val (.ref k0)] [(.ref b)] hr1 1 5 := r23.go fun T t X k => XS.aloadN X hx rfl (hb hby own_d1_14) rfl rfl k
  have r25 : OwnW s0 n0 16 #[.val (.ref k4), .val (.ref b), .val (.int (5 : Int32)), .val (.int (1 : Int32)), .val (.ref k0)] [(.int (1 : Int32)), (.ref b)] hr1 1 5 := r24.go fun T t X k => XS.iloadN X hx rfl (hb hby own_d1_15) rfl k
  have r26 : OwnW s0 n0 17 #[.val (.ref k4), .val (.ref b), .val (.int (5 : Int32)), .val (.int (1 : Int32)), .val (.ref k0)] [(.ref k2)] hr1 1 5 := r25.aaload hx hZ Vb rfl (by decide) rfl rfl (hb hby own_d1_16)
  have r27 : OwnW s0 n0 19 #[.val (.ref k4), .val (.ref b), .val (.int (5 : Int32)), .val (.int (1 : Int32)), .val (.ref k2)] [] hr1 1 5 := r26.go fun T t X k => XS.astore X hx rfl (hb hby own_d1_17) rfl rfl (l' := #[.val (.ref k4), .val (.ref b), .val (.int (5 : Int32)), .val (.int (1 : Int32)), .val (.ref k2)]) rfl k
  have r28 : OwnW s0 n0 21 #[.val (.ref k4), .val (.ref b), .val (.int (5 : Int32)), .val (.int (1 : Int32)), .val (.ref k2)] [(.ref k2)] hr1 1 5 := r27.go fun T t X k => XS.aload X hx rfl (hb hby own_d1_19) rfl rfl k
  have r29 : OwnW s0 n0 24 #[.val (.ref k4), .val (.ref b), .val (.int (5 : Int32)), .val (.int (1 : Int32)), .val (.ref k2)] [.null] hr1 1 5 := r28.getF hx hZ hown (hw _ (List.mem_of_getElem? (i := 28) rfl)) En1.2.2.2.2.2.2.2.2.2.2.2.2.2.1 rfl (hb hby own_d1_21)
  have r30 : OwnW s0 n0 25 #[.val (.ref k4), .val (.ref b), .val (.int (5 : Int32)), .val (.int (1 : Int32)), .val (.ref k2)] [(.ref k4), .null] hr1 1 5 := r29.go fun T t X k => XS.aloadN X hx rfl (hb hby own_d1_24) rfl rfl k
  have r31 : OwnW s0 n0 34 #[.val (.ref k4), .val (.ref b), .val (.int (5 : Int32)), .val (.int (1 : Int32)), .val (.ref k2)] [] hr1 1 5 := r30.goX fun T t ls X eT k => Jvm.RoadKit.acmp X hx rfl rfl rfl (pc0 := 25) (pc' := 34) (same := false) rfl (hb hby own_d1_25) rfl (decide_eq_false nofun) (by decide) (by decide) k
  have r32 : OwnW s0 n0 37 #[.val (.ref k4), .val (.ref b), .val (.int (5 : Int32)), .val (.int ((1 : Int32) + (1 : Int32))), .val (.ref k2)] [] hr1 1 5 := r31.go fun T t X k => XS.iinc X hx rfl (hb hby own_d1_34) rfl (l' := #[.val (.ref k4), .val (.ref b), .val (.int (5 : Int32)), .val (.int ((1 : Int32) + (1 : Int32))), .val (.ref k2)]) rfl k
  have r32 : OwnW s0 n0 37 #[.val (.ref k4), .val (.ref b), .val (.int (5 : Int32)), .val (.int (2 : Int32)), .val (.ref k2)] [] hr1 1 5 := r32
  have r33 : OwnW s0 n0 9 #[.val (.ref k4), .val (.ref b), .val (.int (5 : Int32)), .val (.int (2 : Int32)), .val (.ref k2)] [] hr1 1 5 := r32.go fun T t X k => XS.goto X hx rfl (pc0 := 37) (pc' := 9) rfl (hb hby own_d1_37) (by decide) (by decide) k
  have r34 : OwnW s0 n0 10 #[.val (.ref k4), .val (.ref b), .val (.int (5 : Int32)), .val (.int (2 : Int32)), .val (.ref k2)] [(.int (2 : Int32))] hr1 1 5 := r33.go fun T t X k => XS.iloadN X hx rfl (hb hby own_d1_9) rfl k
  have r35 : OwnW s0 n0 11 #[.val (.ref k4), .val (.ref b), .val (.int (5 : Int32)), .val (.int (2 : Int32)), .val (.ref k2)] [(.int (5 : Int32)), (.int (2 : Int32))] hr1 1 5 := r34.go fun T t X k => XS.iloadN X hx rfl (hb hby own_d1_10) rfl k
  have r36 : OwnW s0 n0 14 #[.val (.ref k4), .val (.ref b), .val (.int (5 : Int32)), .val (.int (2 : Int32)), .val (.ref k2)] [] hr1 1 5 := r35.go fun T t X k => XS.icmpNo X hx rfl (hb hby own_d1_11) rfl (tlt (by decide)).2.1 k
  have r37 : OwnW s0 n0 15 #[.val (.ref k4), .val (.ref b), .val (.int (5 : Int32)), .val (.int (2 : Int32)), .val (.ref k2)] [(.ref b)] hr1 1 5 := r36.go fun T t X k => XS.aloadN X hx rfl (hb hby own_d1_14) rfl rfl k
  have r38 : OwnW s0 n0 16 #[.val (.ref k4), .val (.ref b), .val (.int (5 : Int32)), .val (.int (2 : Int32)), .val (.ref k2)] [(.int (2 : Int32)), (.ref b)] hr1 1 5 := r37.go fun T t X k => XS.iloadN X hx rfl (hb hby own_d1_15) rfl k
  have r39 : OwnW s0 n0 17 #[.val (.ref k4), .val (.ref b), .val (.int (5 : Int32)), .val (.int (2 : Int32)), .val (.ref k2)] [(.ref k3)] hr1 1 5 := r38.aaload hx hZ Vb rfl (by decide) rfl rfl (hb hby own_d1_16)
  have r40 : OwnW s0 n0 19 #[.val (.ref k4), .val (.ref b), .val (.int (5 : Int32)), .val (.int (2 : Int32)), .val (.ref k3)] [] hr1 1 5 := r39.go fun T t X k => XS.astore X hx rfl (hb hby own_d1_17) rfl rfl (l' := #[.val (.ref k4), .val (.ref b), .val (.int (5 : Int32)), .val (.int (2 : Int32)), .val (.ref k3)]) rfl k
  have r41 : OwnW s0 n0 21 #[.val (.ref k4), .val (.ref b), .val (.int (5 : Int32)), .val (.int (2 : Int32)), .val (.ref k3)] [(.ref k3)] hr1 1 5 := r40.go fun T t X k => XS.aload X hx rfl (hb hby own_d1_19) rfl rfl k
  have r42 : OwnW s0 n0 24 #[.val (.ref k4), .val (.ref b), .val (.int (5 : Int32)), .val (.int (2 : Int32)), .val (.ref k3)] [.null] hr1 1 5 := r41.getF hx hZ hown (hw _ (List.mem_of_getElem? (i := 28) rfl)) En1.2.2.2.2.2.2.2.2.2.2.2.2.2.2.1 rfl (hb hby own_d1_21)
  have r43 : OwnW s0 n0 25 #[.val (.ref k4), .val (.ref b), .val (.int (5 : Int32)), .val (.int (2 : Int32)), .val (.ref k3)] [(.ref k4), .null] hr1 1 5 := r42.go fun T t X k => XS.aloadN X hx rfl (hb hby own_d1_24) rfl rfl k
  have r44 : OwnW s0 n0 34 #[.val (.ref k4), .val (.ref b), .val (.int (5 : Int32)), .val (.int (2 : Int32)), .val (.ref k3)] [] hr1 1 5 := r43.goX fun T t ls X eT k => Jvm.RoadKit.acmp X hx rfl rfl rfl (pc0 := 25) (pc' := 34) (same := false) rfl (hb hby own_d1_25) rfl (decide_eq_false nofun) (by decide) (by decide) k
  have r45 : OwnW s0 n0 37 #[.val (.ref k4), .val (.ref b), .val (.int (5 : Int32)), .val (.int ((2 : Int32) + (1 : Int32))), .val (.ref k3)] [] hr1 1 5 := r44.go fun T t X k => XS.iinc X hx rfl (hb hby own_d1_34) rfl (l' := #[.val (.ref k4), .val (.ref b), .val (.int (5 : Int32)), .val (.int ((2 : Int32) + (1 : Int32))), .val (.ref k3)]) rfl k
  have r45 : OwnW s0 n0 37 #[.val (.ref k4), .val (.ref b), .val (.int (5 : Int32)), .val (.int (3 : Int32)), .val (.ref k3)] [] hr1 1 5 := r45
  have r46 : OwnW s0 n0 9 #[.val (.ref k4), .val (.ref b), .val (.int (5 : Int32)), .val (.int (3 : Int32)), .val (.ref k3)] [] hr1 1 5 := r45.go fun T t X k => XS.goto X hx rfl (pc0 := 37) (pc' := 9) rfl (hb hby own_d1_37) (by decide) (by decide) k
  have r47 : OwnW s0 n0 10 #[.val (.ref k4), .val (.ref b), .val (.int (5 : Int32)), .val (.int (3 : Int32)), .val (.ref k3)] [(.int (3 : Int32))] hr1 1 5 := r46.go fun T t X k => XS.iloadN X hx rfl (hb hby own_d1_9) rfl k
  have r48 : OwnW s0 n0 11 #[.val (.ref k4), .val (.ref b), .val (.int (5 : Int32)), .val (.int (3 : Int32)), .val (.ref k3)] [(.int (5 : Int32)), (.int (3 : Int32))] hr1 1 5 := r47.go fun T t X k => XS.iloadN X hx rfl (hb hby own_d1_10) rfl k
  have r49 : OwnW s0 n0 14 #[.val (.ref k4), .val (.ref b), .val (.int (5 : Int32)), .val (.int (3 : Int32)), .val (.ref k3)] [] hr1 1 5 := r48.go fun T t X k => XS.icmpNo X hx rfl (hb hby own_d1_11) rfl (tlt (by decide)).2.1 k
  have r50 : OwnW s0 n0 15 #[.val (.ref k4), .val (.ref b), .val (.int (5 : Int32)), .val (.int (3 : Int32)), .val (.ref k3)] [(.ref b)] hr1 1 5 := r49.go fun T t X k => XS.aloadN X hx rfl (hb hby own_d1_14) rfl rfl k
  have r51 : OwnW s0 n0 16 #[.val (.ref k4), .val (.ref b), .val (.int (5 : Int32)), .val (.int (3 : Int32)), .val (.ref k3)] [(.int (3 : Int32)), (.ref b)] hr1 1 5 := r50.go fun T t X k => XS.iloadN X hx rfl (hb hby own_d1_15) rfl k
  have r52 : OwnW s0 n0 17 #[.val (.ref k4), .val (.ref b), .val (.int (5 : Int32)), .val (.int (3 : Int32)), .val (.ref k3)] [(.ref k4)] hr1 1 5 := r51.aaload hx hZ Vb rfl (by decide) rfl rfl (hb hby own_d1_16)
  have r53 : OwnW s0 n0 19 #[.val (.ref k4), .val (.ref b), .val (.int (5 : Int32)), .val (.int (3 : Int32)), .val (.ref k4)] [] hr1 1 5 := r52.go fun T t X k => XS.astore X hx rfl (hb hby own_d1_17) rfl rfl (l' := #[.val (.ref k4), .val (.ref b), .val (.int (5 : Int32)), .val (.int (3 : Int32)), .val (.ref k4)]) rfl k
  have r54 : OwnW s0 n0 21 #[.val (.ref k4), .val (.ref b), .val (.int (5 : Int32)), .val (.int (3 : Int32)), .val (.ref k4)] [(.ref k4)] hr1 1 5 := r53.go fun T t X k => XS.aload X hx rfl (hb hby own_d1_19) rfl rfl k
  have r55 : OwnW s0 n0 24 #[.val (.ref k4), .val (.ref b), .val (.int (5 : Int32)), .val (.int (3 : Int32)), .val (.ref k4)] [(.ref k3)] hr1 1 5 := r54.getF hx hZ hown (hw _ (List.mem_of_getElem? (i := 28) rfl)) En1.2.2.2.2.2.2.2.2.2.2.2.2.2.2.2.1 rfl (hb hby own_d1_21)
  have r56 : OwnW s0 n0 25 #[.val (.ref k4), .val (.ref b), .val (.int (5 : Int32)), .val (.int (3 : Int32)), .val (.ref k4)] [(.ref k4), (.ref k3)] hr1 1 5 := r55.go fun T t X k => XS.aloadN X hx rfl (hb hby own_d1_24) rfl rfl k
  have r57 : OwnW s0 n0 34 #[.val (.ref k4), .val (.ref b), .val (.int (5 : Int32)), .val (.int (3 : Int32)), .val (.ref k4)] [] hr1 1 5 := r56.goX fun T t ls X eT k => Jvm.RoadKit.acmp X hx rfl rfl rfl (pc0 := 25) (pc' := 34) (same := false) rfl (hb hby own_d1_25) rfl (own_rne (own_ne En1.2.2.2.2.2.2.2.2.2.2.2.2.2.2.2.2.1 En1.2.2.2.2.2.2.2.2.2.2.2.2.2.2.2.2.2.2.2.1 (by decide))) (by decide) (by decide) k
  have r58 : OwnW s0 n0 37 #[.val (.ref k4), .val (.ref b), .val (.int (5 : Int32)), .val (.int ((3 : Int32) + (1 : Int32))), .val (.ref k4)] [] hr1 1 5 := r57.go fun T t X k => XS.iinc X hx rfl (hb hby own_d1_34) rfl (l' := #[.val (.ref k4), .val (.ref b), .val (.int (5 : Int32)), .val (.int ((3 : Int32) + (1 : Int32))), .val (.ref k4)]) rfl k
  have r58 : OwnW s0 n0 37 #[.val (.ref k4), .val (.ref b), .val (.int (5 : Int32)), .val (.int (4 : Int32)), .val (.ref k4)] [] hr1 1 5 := r58
  have r59 : OwnW s0 n0 9 #[.val (.ref k4), .val (.ref b), .val (.int (5 : Int32)), .val (.int (4 : Int32)), .val (.ref k4)] [] hr1 1 5 := r58.go fun T t X k => XS.goto X hx rfl (pc0 := 37) (pc' := 9) rfl (hb hby own_d1_37) (by decide) (by decide) k
  have r60 : OwnW s0 n0 10 #[.val (.ref k4), .val (.ref b), .val (.int (5 : Int32)), .val (.int (4 : Int32)), .val (.ref k4)] [(.int (4 : Int32))] hr1 1 5 := r59.go fun T t X k => XS.iloadN X hx rfl (hb hby own_d1_9) rfl k
  have r61 : OwnW s0 n0 11 #[.val (.ref k4), .val (.ref b), .val (.int (5 : Int32)), .val (.int (4 : Int32)), .val (.ref k4)] [(.int (5 : Int32)), (.int (4 : Int32))] hr1 1 5 := r60.go fun T t X k => XS.iloadN X hx rfl (hb hby own_d1_10) rfl k
  have r62 : OwnW s0 n0 14 #[.val (.ref k4), .val (.ref b), .val (.int (5 : Int32)), .val (.int (4 : Int32)), .val (.ref k4)] [] hr1 1 5 := r61.go fun T t X k => XS.icmpNo X hx rfl (hb hby own_d1_11) rfl (tlt (by decide)).2.1 k
  have r63 : OwnW s0 n0 15 #[.val (.ref k4), .val (.ref b), .val (.int (5 : Int32)), .val (.int (4 : Int32)), .val (.ref k4)] [(.ref b)] hr1 1 5 := r62.go fun T t X k => XS.aloadN X hx rfl (hb hby own_d1_14) rfl rfl k
  have r64 : OwnW s0 n0 16 #[.val (.ref k4), .val (.ref b), .val (.int (5 : Int32)), .val (.int (4 : Int32)), .val (.ref k4)] [(.int (4 : Int32)), (.ref b)] hr1 1 5 := r63.go fun T t X k => XS.iloadN X hx rfl (hb hby own_d1_15) rfl k
  have r65 : OwnW s0 n0 17 #[.val (.ref k4), .val (.ref b), .val (.int (5 : Int32)), .val (.int (4 : Int32)), .val (.ref k4)] [(.ref k5)] hr1 1 5 := r64.aaload hx hZ Vb rfl (by decide) rfl rfl (hb hby own_d1_16)
  have r66 : OwnW s0 n0 19 #[.val (.ref k4), .val (.ref b), .val (.int (5 : Int32)), .val (.int (4 : Int32)), .val (.ref k5)] [] hr1 1 5 := r65.go fun T t X k => XS.astore X hx rfl (hb hby own_d1_17) rfl rfl (l' := #[.val (.ref k4), .val (.ref b), .val (.int (5 : Int32)), .val (.int (4 : Int32)), .val (.ref k5)]) rfl k
  have r67 : OwnW s0 n0 21 #[.val (.ref k4), .val (.ref b), .val (.int (5 : Int32)), .val (.int (4 : Int32)), .val (.ref k5)] [(.ref k5)] hr1 1 5 := r66.go fun T t X k => XS.aload X hx rfl (hb hby own_d1_19) rfl rfl k
  have r68 : OwnW s0 n0 24 #[.val (.ref k4), .val (.ref b), .val (.int (5 : Int32)), .val (.int (4 : Int32)), .val (.ref k5)] [(.ref k4)] hr1 1 5 := r67.getF hx hZ hown (hw _ (List.mem_of_getElem? (i := 28) rfl)) En1.2.2.2.2.2.2.2.2.2.2.2.2.2.2.2.2.2.2.1 rfl (hb hby own_d1_21)
  have r69 : OwnW s0 n0 25 #[.val (.ref k4), .val (.ref b), .val (.int (5 : Int32)), .val (.int (4 : Int32)), .val (.ref k5)] [(.ref k4), (.ref k4)] hr1 1 5 := r68.go fun T t X k => XS.aloadN X hx rfl (hb hby own_d1_24) rfl rfl k
  have r70 : OwnW s0 n0 28 #[.val (.ref k4), .val (.ref b), .val (.int (5 : Int32)), .val (.int (4 : Int32)), .val (.ref k5)] [] hr1 1 5 := r69.goX fun T t ls X eT k => Jvm.RoadKit.acmp X hx rfl rfl rfl (pc0 := 25) (pc' := 28) (same := true) rfl (hb hby own_d1_25) rfl (decide_eq_true rfl) (by decide) (by decide) k
  have r71 : OwnW s0 n0 30 #[.val (.ref k4), .val (.ref b), .val (.int (5 : Int32)), .val (.int (4 : Int32)), .val (.ref k5)] [(.ref k5)] hr1 1 5 := r70.go fun T t X k => XS.aload X hx rfl (hb hby own_d1_28) rfl rfl k
  obtain ⟨vr72, hr72, r72, qr72⟩ := r71.callS hx hZ hown (hw _ (List.mem_of_getElem? (i := 44) rfl)) (hw _ (List.mem_of_getElem? (i := 45) rfl)) (hw _ (List.mem_of_getElem? (i := 32) rfl)) (hw _ (List.mem_of_getElem? (i := 46) rfl)) (by decide) (argsL := [(.ref k5)]) (own_opt l Z a0 hw k5 hr1 n0 (Nat.le_trans Z0 Ex.1)) [] 0 (by decide) (by decide) (by rw [hml]; rfl) (lenOf own_pd4 rfl) rfl (Nat.le_of_eq rfl) (hb hby own_d1_30) (by decide) (by decide)
  obtain ⟨o, rfl, Ex2, X2, F2⟩ := qr72
  have r72 : OwnW s0 n0 33 #[.val (.ref k4), .val (.ref b), .val (.int (5 : Int32)), .val (.int (4 : Int32)), .val (.ref k5)] [(.ref o)] hr72 2 6 := r72
  have r73 := r72.retW hx hret rfl rfl (Or.inr (Or.inr (Or.inr (Or.inr ⟨rfl, rfl, rfl⟩)))) (hb hby own_d1_33)
  exact ⟨_, _, 2, 6, ⟨o, rfl, own_ext_trans Ex Ex2, X2, F2⟩, by decide, by decide, r73⟩
theorem own_ef_nxt4 (m : MethodId) (k5 : Addr) : entryFrame m #[(.ref k5)] 5 = mkF m 0 #[.val (.ref k5), .unset, .unset, .unset, .unset] [] := by first | (simp [entryFrame, mkF, argsToLocals, Value.category]; done) | rfl
set_option maxRecDepth 65536 in
set_option maxHeartbeats 40000000 in
theorem own_nxt4 (l : Launch) (Z : State) (a0 : Array Value) (hw : ∀ d ∈ tables_1, d.before a0 Z = true) (k5 : Addr) (k0 k1 k2 k3 k4 : Addr) (ke : Addr) (h0 : Heap) (n0 : Nat) (Z0 : n0 ≤ h0.size) (En : OwnEn Z h0 k0 k1 k2 k3 k4 k5) (SE : Sta Z h0 "java/util/Optional" "EMPTY" "Ljava/util/Optional;" (.ref ke)) (XE : Exa Z h0 ke "java/util/Optional") (FE : Fld Z h0 ke "java/util/Optional" "value" "Ljava/lang/Object;" .null) :
    OwnCon l Z (⟨"com/example/ample_proof/ampleproof/disputes/DisputePhase", "next", "()Ljava/util/Optional;"⟩ : MethodName) prog_8_method_4_code 5 (some (.object "java/util/Optional")) ({ frames := 3, cells := 2, slots := 6, locals := 64 } : Room) #[(.ref k5)] h0 n0 (fun v h => ∃ o, v = some (.ref o) ∧ Ext h0 h ∧ Exa Z h o "java/util/Optional" ∧ Fld Z h o "java/util/Optional" "value" "Ljava/lang/Object;" .null) := by
  refine OwnCon.of own_pn0 (fun m => own_ef_nxt4 m k5) ?_
  intro p e s m below meth c s0 hx hby hml hown hnm hret hZ r
  obtain ⟨vr1, hr1, r1, qr1⟩ := r.callS hx hZ hown (hw _ (List.mem_of_getElem? (i := 9) rfl)) (hw _ (List.mem_of_getElem? (i := 10) rfl)) (hw _ (List.mem_of_getElem? (i := 2) rfl)) (hw _ (List.mem_of_getElem? (i := 11) rfl)) (by decide) (argsL := []) (own_vals l Z a0 hw k0 k1 k2 k3 k4 k5 h0 n0 En) [] 0 (by decide) (by decide) (by rw [hml]; rfl) (lenOf own_pd2 rfl) rfl (Nat.le_of_eq rfl) (hb hby own_d1_0) (by decide) (by decide)
  obtain ⟨b, rfl, Ex, Vb⟩ := qr1
  have r1 : OwnW s0 n0 3 #[.val (.ref k5), .unset, .unset, .unset, .unset] [(.ref b)] hr1 1 5 := r1
  have En1 := En.ext Ex
  have r2 : OwnW s0 n0 4 #[.val (.ref k5), .val (.ref b), .unset, .unset, .unset] [] hr1 1 5 := r1.go fun T t X k => XS.astoreN X hx rfl (hb hby own_d1_3) rfl rfl (l' := #[.val (.ref k5), .val (.ref b), .unset, .unset, .unset]) rfl k
  have r3 : OwnW s0 n0 5 #[.val (.ref k5), .val (.ref b), .unset, .unset, .unset] [(.ref b)] hr1 1 5 := r2.go fun T t X k => XS.aloadN X hx rfl (hb hby own_d1_4) rfl rfl k
  have r4 : OwnW s0 n0 6 #[.val (.ref k5), .val (.ref b), .unset, .unset, .unset] [(.int (5 : Int32))] hr1 1 5 := r3.alen hx hZ Vb rfl rfl (hb hby own_d1_5)
  have r5 : OwnW s0 n0 7 #[.val (.ref k5), .val (.ref b), .val (.int (5 : Int32)), .unset, .unset] [] hr1 1 5 := r4.go fun T t X k => XS.istoreN X hx rfl (hb hby own_d1_6) rfl (l' := #[.val (.ref k5), .val (.ref b), .val (.int (5 : Int32)), .unset, .unset]) rfl k
  have r6 : OwnW s0 n0 8 #[.val (.ref k5), .val (.ref b), .val (.int (5 : Int32)), .unset, .unset] [(.int (0 : Int32))] hr1 1 5 := r5.go fun T t X k => XS.iconst X hx rfl (hb hby own_d1_7) k
  have r7 : OwnW s0 n0 9 #[.val (.ref k5), .val (.ref b), .val (.int (5 : Int32)), .val (.int (0 : Int32)), .unset] [] hr1 1 5 := r6.go fun T t X k => XS.istoreN X hx rfl (hb hby own_d1_8) rfl (l' := #[.val (.ref k5), .val (.ref b), .val (.int (5 : Int32)), .val (.int (0 : Int32)), .unset]) rfl k
  have r8 : OwnW s0 n0 10 #[.val (.ref k5), .val (.ref b), .val (.int (5 : Int32)), .val (.int (0 : Int32)), .unset] [(.int (0 : Int32))] hr1 1 5 := r7.go fun T t X k => XS.iloadN X hx rfl (hb hby own_d1_9) rfl k
  have r9 : OwnW s0 n0 11 #[.val (.ref k5), .val (.ref b), .val (.int (5 : Int32)), .val (.int (0 : Int32)), .unset] [(.int (5 : Int32)), (.int (0 : Int32))] hr1 1 5 := r8.go fun T t X k => XS.iloadN X hx rfl (hb hby own_d1_10) rfl k
  have r10 : OwnW s0 n0 14 #[.val (.ref k5), .val (.ref b), .val (.int (5 : Int32)), .val (.int (0 : Int32)), .unset] [] hr1 1 5 := r9.go fun T t X k => XS.icmpNo X hx rfl (hb hby own_d1_11) rfl (tlt (by decide)).2.1 k
  have r11 : OwnW s0 n0 15 #[.val (.ref k5), .val (.ref b), .val (.int (5 : Int32)), .val (.int (0 : Int32)), .unset] [(.ref b)] hr1 1 5 := r10.go fun T t X k => XS.aloadN X hx rfl (hb hby own_d1_14) rfl rfl k
  have r12 : OwnW s0 n0 16 #[.val (.ref k5), .val (.ref b), .val (.int (5 : Int32)), .val (.int (0 : Int32)), .unset] [(.int (0 : Int32)), (.ref b)] hr1 1 5 := r11.go fun T t X k => XS.iloadN X hx rfl (hb hby own_d1_15) rfl k
  have r13 : OwnW s0 n0 17 #[.val (.ref k5), .val (.ref b), .val (.int (5 : Int32)), .val (.int (0 : Int32)), .unset] [(.ref k0)] hr1 1 5 := r12.aaload hx hZ Vb rfl (by decide) rfl rfl (hb hby own_d1_16)
  have r14 : OwnW s0 n0 19 #[.val (.ref k5), .val (.ref b), .val (.int (5 : Int32)), .val (.int (0 : Int32)), .val (.ref k0)] [] hr1 1 5 := r13.go fun T t X k => XS.astore X hx rfl (hb hby own_d1_17) rfl rfl (l' := #[.val (.ref k5), .val (.ref b), .val (.int (5 : Int32)), .val (.int (0 : Int32)), .val (.ref k0)]) rfl k
  have r15 : OwnW s0 n0 21 #[.val (.ref k5), .val (.ref b), .val (.int (5 : Int32)), .val (.int (0 : Int32)), .val (.ref k0)] [(.ref k0)] hr1 1 5 := r14.go fun T t X k => XS.aload X hx rfl (hb hby own_d1_19) rfl rfl k
  have r16 : OwnW s0 n0 24 #[.val (.ref k5), .val (.ref b), .val (.int (5 : Int32)), .val (.int (0 : Int32)), .val (.ref k0)] [.null] hr1 1 5 := r15.getF hx hZ hown (hw _ (List.mem_of_getElem? (i := 28) rfl)) En1.2.2.2.2.2.2.2.2.2.2.2.2.1 rfl (hb hby own_d1_21)
  have r17 : OwnW s0 n0 25 #[.val (.ref k5), .val (.ref b), .val (.int (5 : Int32)), .val (.int (0 : Int32)), .val (.ref k0)] [(.ref k5), .null] hr1 1 5 := r16.go fun T t X k => XS.aloadN X hx rfl (hb hby own_d1_24) rfl rfl k
  have r18 : OwnW s0 n0 34 #[.val (.ref k5), .val (.ref b), .val (.int (5 : Int32)), .val (.int (0 : Int32)), .val (.ref k0)] [] hr1 1 5 := r17.goX fun T t ls X eT k => Jvm.RoadKit.acmp X hx rfl rfl rfl (pc0 := 25) (pc' := 34) (same := false) rfl (hb hby own_d1_25) rfl (decide_eq_false nofun) (by decide) (by decide) k
  have r19 : OwnW s0 n0 37 #[.val (.ref k5), .val (.ref b), .val (.int (5 : Int32)), .val (.int ((0 : Int32) + (1 : Int32))), .val (.ref k0)] [] hr1 1 5 := r18.go fun T t X k => XS.iinc X hx rfl (hb hby own_d1_34) rfl (l' := #[.val (.ref k5), .val (.ref b), .val (.int (5 : Int32)), .val (.int ((0 : Int32) + (1 : Int32))), .val (.ref k0)]) rfl k
  have r19 : OwnW s0 n0 37 #[.val (.ref k5), .val (.ref b), .val (.int (5 : Int32)), .val (.int (1 : Int32)), .val (.ref k0)] [] hr1 1 5 := r19
  have r20 : OwnW s0 n0 9 #[.val (.ref k5), .val (.ref b), .val (.int (5 : Int32)), .val (.int (1 : Int32)), .val (.ref k0)] [] hr1 1 5 := r19.go fun T t X k => XS.goto X hx rfl (pc0 := 37) (pc' := 9) rfl (hb hby own_d1_37) (by decide) (by decide) k
  have r21 : OwnW s0 n0 10 #[.val (.ref k5), .val (.ref b), .val (.int (5 : Int32)), .val (.int (1 : Int32)), .val (.ref k0)] [(.int (1 : Int32))] hr1 1 5 := r20.go fun T t X k => XS.iloadN X hx rfl (hb hby own_d1_9) rfl k
  have r22 : OwnW s0 n0 11 #[.val (.ref k5), .val (.ref b), .val (.int (5 : Int32)), .val (.int (1 : Int32)), .val (.ref k0)] [(.int (5 : Int32)), (.int (1 : Int32))] hr1 1 5 := r21.go fun T t X k => XS.iloadN X hx rfl (hb hby own_d1_10) rfl k
  have r23 : OwnW s0 n0 14 #[.val (.ref k5), .val (.ref b), .val (.int (5 : Int32)), .val (.int (1 : Int32)), .val (.ref k0)] [] hr1 1 5 := r22.go fun T t X k => XS.icmpNo X hx rfl (hb hby own_d1_11) rfl (tlt (by decide)).2.1 k
  have r24 : OwnW s0 n0 15 #[.val (.ref k5), .val (.ref b), .val (.int (5 : Int32)), .val (.int (1 : Int32)), .val (.ref k0)] [(.ref b)] hr1 1 5 := r23.go fun T t X k => XS.aloadN X hx rfl (hb hby own_d1_14) rfl rfl k
  have r25 : OwnW s0 n0 16 #[.val (.ref k5), .val (.ref b), .val (.int (5 : Int32)), .val (.int (1 : Int32)), .val (.ref k0)] [(.int (1 : Int32)), (.ref b)] hr1 1 5 := r24.go fun T t X k => XS.iloadN X hx rfl (hb hby own_d1_15) rfl k
  have r26 : OwnW s0 n0 17 #[.val (.ref k5), .val (.ref b), .val (.int (5 : Int32)), .val (.int (1 : Int32)), .val (.ref k0)] [(.ref k2)] hr1 1 5 := r25.aaload hx hZ Vb rfl (by decide) rfl rfl (hb hby own_d1_16)
  have r27 : OwnW s0 n0 19 #[.val (.ref k5), .val (.ref b), .val (.int (5 : Int32)), .val (.int (1 : Int32)), .val (.ref k2)] [] hr1 1 5 := r26.go fun T t X k => XS.astore X hx rfl (hb hby own_d1_17) rfl rfl (l' := #[.val (.ref k5), .val (.ref b), .val (.int (5 : Int32)), .val (.int (1 : Int32)), .val (.ref k2)]) rfl k
  have r28 : OwnW s0 n0 21 #[.val (.ref k5), .val (.ref b), .val (.int (5 : Int32)), .val (.int (1 : Int32)), .val (.ref k2)] [(.ref k2)] hr1 1 5 := r27.go fun T t X k => XS.aload X hx rfl (hb hby own_d1_19) rfl rfl k
  have r29 : OwnW s0 n0 24 #[.val (.ref k5), .val (.ref b), .val (.int (5 : Int32)), .val (.int (1 : Int32)), .val (.ref k2)] [.null] hr1 1 5 := r28.getF hx hZ hown (hw _ (List.mem_of_getElem? (i := 28) rfl)) En1.2.2.2.2.2.2.2.2.2.2.2.2.2.1 rfl (hb hby own_d1_21)
  have r30 : OwnW s0 n0 25 #[.val (.ref k5), .val (.ref b), .val (.int (5 : Int32)), .val (.int (1 : Int32)), .val (.ref k2)] [(.ref k5), .null] hr1 1 5 := r29.go fun T t X k => XS.aloadN X hx rfl (hb hby own_d1_24) rfl rfl k
  have r31 : OwnW s0 n0 34 #[.val (.ref k5), .val (.ref b), .val (.int (5 : Int32)), .val (.int (1 : Int32)), .val (.ref k2)] [] hr1 1 5 := r30.goX fun T t ls X eT k => Jvm.RoadKit.acmp X hx rfl rfl rfl (pc0 := 25) (pc' := 34) (same := false) rfl (hb hby own_d1_25) rfl (decide_eq_false nofun) (by decide) (by decide) k
  have r32 : OwnW s0 n0 37 #[.val (.ref k5), .val (.ref b), .val (.int (5 : Int32)), .val (.int ((1 : Int32) + (1 : Int32))), .val (.ref k2)] [] hr1 1 5 := r31.go fun T t X k => XS.iinc X hx rfl (hb hby own_d1_34) rfl (l' := #[.val (.ref k5), .val (.ref b), .val (.int (5 : Int32)), .val (.int ((1 : Int32) + (1 : Int32))), .val (.ref k2)]) rfl k
  have r32 : OwnW s0 n0 37 #[.val (.ref k5), .val (.ref b), .val (.int (5 : Int32)), .val (.int (2 : Int32)), .val (.ref k2)] [] hr1 1 5 := r32
  have r33 : OwnW s0 n0 9 #[.val (.ref k5), .val (.ref b), .val (.int (5 : Int32)), .val (.int (2 : Int32)), .val (.ref k2)] [] hr1 1 5 := r32.go fun T t X k => XS.goto X hx rfl (pc0 := 37) (pc' := 9) rfl (hb hby own_d1_37) (by decide) (by decide) k
  have r34 : OwnW s0 n0 10 #[.val (.ref k5), .val (.ref b), .val (.int (5 : Int32)), .val (.int (2 : Int32)), .val (.ref k2)] [(.int (2 : Int32))] hr1 1 5 := r33.go fun T t X k => XS.iloadN X hx rfl (hb hby own_d1_9) rfl k
  have r35 : OwnW s0 n0 11 #[.val (.ref k5), .val (.ref b), .val (.int (5 : Int32)), .val (.int (2 : Int32)), .val (.ref k2)] [(.int (5 : Int32)), (.int (2 : Int32))] hr1 1 5 := r34.go fun T t X k => XS.iloadN X hx rfl (hb hby own_d1_10) rfl k
  have r36 : OwnW s0 n0 14 #[.val (.ref k5), .val (.ref b), .val (.int (5 : Int32)), .val (.int (2 : Int32)), .val (.ref k2)] [] hr1 1 5 := r35.go fun T t X k => XS.icmpNo X hx rfl (hb hby own_d1_11) rfl (tlt (by decide)).2.1 k
  have r37 : OwnW s0 n0 15 #[.val (.ref k5), .val (.ref b), .val (.int (5 : Int32)), .val (.int (2 : Int32)), .val (.ref k2)] [(.ref b)] hr1 1 5 := r36.go fun T t X k => XS.aloadN X hx rfl (hb hby own_d1_14) rfl rfl k
  have r38 : OwnW s0 n0 16 #[.val (.ref k5), .val (.ref b), .val (.int (5 : Int32)), .val (.int (2 : Int32)), .val (.ref k2)] [(.int (2 : Int32)), (.ref b)] hr1 1 5 := r37.go fun T t X k => XS.iloadN X hx rfl (hb hby own_d1_15) rfl k
  have r39 : OwnW s0 n0 17 #[.val (.ref k5), .val (.ref b), .val (.int (5 : Int32)), .val (.int (2 : Int32)), .val (.ref k2)] [(.ref k3)] hr1 1 5 := r38.aaload hx hZ Vb rfl (by decide) rfl rfl (hb hby own_d1_16)
  have r40 : OwnW s0 n0 19 #[.val (.ref k5), .val (.ref b), .val (.int (5 : Int32)), .val (.int (2 : Int32)), .val (.ref k3)] [] hr1 1 5 := r39.go fun T t X k => XS.astore X hx rfl (hb hby own_d1_17) rfl rfl (l' := #[.val (.ref k5), .val (.ref b), .val (.int (5 : Int32)), .val (.int (2 : Int32)), .val (.ref k3)]) rfl k
  have r41 : OwnW s0 n0 21 #[.val (.ref k5), .val (.ref b), .val (.int (5 : Int32)), .val (.int (2 : Int32)), .val (.ref k3)] [(.ref k3)] hr1 1 5 := r40.go fun T t X k => XS.aload X hx rfl (hb hby own_d1_19) rfl rfl k
  have r42 : OwnW s0 n0 24 #[.val (.ref k5), .val (.ref b), .val (.int (5 : Int32)), .val (.int (2 : Int32)), .val (.ref k3)] [.null] hr1 1 5 := r41.getF hx hZ hown (hw _ (List.mem_of_getElem? (i := 28) rfl)) En1.2.2.2.2.2.2.2.2.2.2.2.2.2.2.1 rfl (hb hby own_d1_21)
  have r43 : OwnW s0 n0 25 #[.val (.ref k5), .val (.ref b), .val (.int (5 : Int32)), .val (.int (2 : Int32)), .val (.ref k3)] [(.ref k5), .null] hr1 1 5 := r42.go fun T t X k => XS.aloadN X hx rfl (hb hby own_d1_24) rfl rfl k
  have r44 : OwnW s0 n0 34 #[.val (.ref k5), .val (.ref b), .val (.int (5 : Int32)), .val (.int (2 : Int32)), .val (.ref k3)] [] hr1 1 5 := r43.goX fun T t ls X eT k => Jvm.RoadKit.acmp X hx rfl rfl rfl (pc0 := 25) (pc' := 34) (same := false) rfl (hb hby own_d1_25) rfl (decide_eq_false nofun) (by decide) (by decide) k
  have r45 : OwnW s0 n0 37 #[.val (.ref k5), .val (.ref b), .val (.int (5 : Int32)), .val (.int ((2 : Int32) + (1 : Int32))), .val (.ref k3)] [] hr1 1 5 := r44.go fun T t X k => XS.iinc X hx rfl (hb hby own_d1_34) rfl (l' := #[.val (.ref k5), .val (.ref b), .val (.int (5 : Int32)), .val (.int ((2 : Int32) + (1 : Int32))), .val (.ref k3)]) rfl k
  have r45 : OwnW s0 n0 37 #[.val (.ref k5), .val (.ref b), .val (.int (5 : Int32)), .val (.int (3 : Int32)), .val (.ref k3)] [] hr1 1 5 := r45
  have r46 : OwnW s0 n0 9 #[.val (.ref k5), .val (.ref b), .val (.int (5 : Int32)), .val (.int (3 : Int32)), .val (.ref k3)] [] hr1 1 5 := r45.go fun T t X k => XS.goto X hx rfl (pc0 := 37) (pc' := 9) rfl (hb hby own_d1_37) (by decide) (by decide) k
  have r47 : OwnW s0 n0 10 #[.val (.ref k5), .val (.ref b), .val (.int (5 : Int32)), .val (.int (3 : Int32)), .val (.ref k3)] [(.int (3 : Int32))] hr1 1 5 := r46.go fun T t X k => XS.iloadN X hx rfl (hb hby own_d1_9) rfl k
  have r48 : OwnW s0 n0 11 #[.val (.ref k5), .val (.ref b), .val (.int (5 : Int32)), .val (.int (3 : Int32)), .val (.ref k3)] [(.int (5 : Int32)), (.int (3 : Int32))] hr1 1 5 := r47.go fun T t X k => XS.iloadN X hx rfl (hb hby own_d1_10) rfl k
  have r49 : OwnW s0 n0 14 #[.val (.ref k5), .val (.ref b), .val (.int (5 : Int32)), .val (.int (3 : Int32)), .val (.ref k3)] [] hr1 1 5 := r48.go fun T t X k => XS.icmpNo X hx rfl (hb hby own_d1_11) rfl (tlt (by decide)).2.1 k
  have r50 : OwnW s0 n0 15 #[.val (.ref k5), .val (.ref b), .val (.int (5 : Int32)), .val (.int (3 : Int32)), .val (.ref k3)] [(.ref b)] hr1 1 5 := r49.go fun T t X k => XS.aloadN X hx rfl (hb hby own_d1_14) rfl rfl k
  have r51 : OwnW s0 n0 16 #[.val (.ref k5), .val (.ref b), .val (.int (5 : Int32)), .val (.int (3 : Int32)), .val (.ref k3)] [(.int (3 : Int32)), (.ref b)] hr1 1 5 := r50.go fun T t X k => XS.iloadN X hx rfl (hb hby own_d1_15) rfl k
  have r52 : OwnW s0 n0 17 #[.val (.ref k5), .val (.ref b), .val (.int (5 : Int32)), .val (.int (3 : Int32)), .val (.ref k3)] [(.ref k4)] hr1 1 5 := r51.aaload hx hZ Vb rfl (by decide) rfl rfl (hb hby own_d1_16)
  have r53 : OwnW s0 n0 19 #[.val (.ref k5), .val (.ref b), .val (.int (5 : Int32)), .val (.int (3 : Int32)), .val (.ref k4)] [] hr1 1 5 := r52.go fun T t X k => XS.astore X hx rfl (hb hby own_d1_17) rfl rfl (l' := #[.val (.ref k5), .val (.ref b), .val (.int (5 : Int32)), .val (.int (3 : Int32)), .val (.ref k4)]) rfl k
  have r54 : OwnW s0 n0 21 #[.val (.ref k5), .val (.ref b), .val (.int (5 : Int32)), .val (.int (3 : Int32)), .val (.ref k4)] [(.ref k4)] hr1 1 5 := r53.go fun T t X k => XS.aload X hx rfl (hb hby own_d1_19) rfl rfl k
  have r55 : OwnW s0 n0 24 #[.val (.ref k5), .val (.ref b), .val (.int (5 : Int32)), .val (.int (3 : Int32)), .val (.ref k4)] [(.ref k3)] hr1 1 5 := r54.getF hx hZ hown (hw _ (List.mem_of_getElem? (i := 28) rfl)) En1.2.2.2.2.2.2.2.2.2.2.2.2.2.2.2.1 rfl (hb hby own_d1_21)
  have r56 : OwnW s0 n0 25 #[.val (.ref k5), .val (.ref b), .val (.int (5 : Int32)), .val (.int (3 : Int32)), .val (.ref k4)] [(.ref k5), (.ref k3)] hr1 1 5 := r55.go fun T t X k => XS.aloadN X hx rfl (hb hby own_d1_24) rfl rfl k
  have r57 : OwnW s0 n0 34 #[.val (.ref k5), .val (.ref b), .val (.int (5 : Int32)), .val (.int (3 : Int32)), .val (.ref k4)] [] hr1 1 5 := r56.goX fun T t ls X eT k => Jvm.RoadKit.acmp X hx rfl rfl rfl (pc0 := 25) (pc' := 34) (same := false) rfl (hb hby own_d1_25) rfl (own_rne (own_ne En1.2.2.2.2.2.2.2.2.2.2.2.2.2.2.2.2.1 En1.2.2.2.2.2.2.2.2.2.2.2.2.2.2.2.2.2.2.2.2.2.1 (by decide))) (by decide) (by decide) k
  have r58 : OwnW s0 n0 37 #[.val (.ref k5), .val (.ref b), .val (.int (5 : Int32)), .val (.int ((3 : Int32) + (1 : Int32))), .val (.ref k4)] [] hr1 1 5 := r57.go fun T t X k => XS.iinc X hx rfl (hb hby own_d1_34) rfl (l' := #[.val (.ref k5), .val (.ref b), .val (.int (5 : Int32)), .val (.int ((3 : Int32) + (1 : Int32))), .val (.ref k4)]) rfl k
  have r58 : OwnW s0 n0 37 #[.val (.ref k5), .val (.ref b), .val (.int (5 : Int32)), .val (.int (4 : Int32)), .val (.ref k4)] [] hr1 1 5 := r58
  have r59 : OwnW s0 n0 9 #[.val (.ref k5), .val (.ref b), .val (.int (5 : Int32)), .val (.int (4 : Int32)), .val (.ref k4)] [] hr1 1 5 := r58.go fun T t X k => XS.goto X hx rfl (pc0 := 37) (pc' := 9) rfl (hb hby own_d1_37) (by decide) (by decide) k
  have r60 : OwnW s0 n0 10 #[.val (.ref k5), .val (.ref b), .val (.int (5 : Int32)), .val (.int (4 : Int32)), .val (.ref k4)] [(.int (4 : Int32))] hr1 1 5 := r59.go fun T t X k => XS.iloadN X hx rfl (hb hby own_d1_9) rfl k
  have r61 : OwnW s0 n0 11 #[.val (.ref k5), .val (.ref b), .val (.int (5 : Int32)), .val (.int (4 : Int32)), .val (.ref k4)] [(.int (5 : Int32)), (.int (4 : Int32))] hr1 1 5 := r60.go fun T t X k => XS.iloadN X hx rfl (hb hby own_d1_10) rfl k
  have r62 : OwnW s0 n0 14 #[.val (.ref k5), .val (.ref b), .val (.int (5 : Int32)), .val (.int (4 : Int32)), .val (.ref k4)] [] hr1 1 5 := r61.go fun T t X k => XS.icmpNo X hx rfl (hb hby own_d1_11) rfl (tlt (by decide)).2.1 k
  have r63 : OwnW s0 n0 15 #[.val (.ref k5), .val (.ref b), .val (.int (5 : Int32)), .val (.int (4 : Int32)), .val (.ref k4)] [(.ref b)] hr1 1 5 := r62.go fun T t X k => XS.aloadN X hx rfl (hb hby own_d1_14) rfl rfl k
  have r64 : OwnW s0 n0 16 #[.val (.ref k5), .val (.ref b), .val (.int (5 : Int32)), .val (.int (4 : Int32)), .val (.ref k4)] [(.int (4 : Int32)), (.ref b)] hr1 1 5 := r63.go fun T t X k => XS.iloadN X hx rfl (hb hby own_d1_15) rfl k
  have r65 : OwnW s0 n0 17 #[.val (.ref k5), .val (.ref b), .val (.int (5 : Int32)), .val (.int (4 : Int32)), .val (.ref k4)] [(.ref k5)] hr1 1 5 := r64.aaload hx hZ Vb rfl (by decide) rfl rfl (hb hby own_d1_16)
  have r66 : OwnW s0 n0 19 #[.val (.ref k5), .val (.ref b), .val (.int (5 : Int32)), .val (.int (4 : Int32)), .val (.ref k5)] [] hr1 1 5 := r65.go fun T t X k => XS.astore X hx rfl (hb hby own_d1_17) rfl rfl (l' := #[.val (.ref k5), .val (.ref b), .val (.int (5 : Int32)), .val (.int (4 : Int32)), .val (.ref k5)]) rfl k
  have r67 : OwnW s0 n0 21 #[.val (.ref k5), .val (.ref b), .val (.int (5 : Int32)), .val (.int (4 : Int32)), .val (.ref k5)] [(.ref k5)] hr1 1 5 := r66.go fun T t X k => XS.aload X hx rfl (hb hby own_d1_19) rfl rfl k
  have r68 : OwnW s0 n0 24 #[.val (.ref k5), .val (.ref b), .val (.int (5 : Int32)), .val (.int (4 : Int32)), .val (.ref k5)] [(.ref k4)] hr1 1 5 := r67.getF hx hZ hown (hw _ (List.mem_of_getElem? (i := 28) rfl)) En1.2.2.2.2.2.2.2.2.2.2.2.2.2.2.2.2.2.2.1 rfl (hb hby own_d1_21)
  have r69 : OwnW s0 n0 25 #[.val (.ref k5), .val (.ref b), .val (.int (5 : Int32)), .val (.int (4 : Int32)), .val (.ref k5)] [(.ref k5), (.ref k4)] hr1 1 5 := r68.go fun T t X k => XS.aloadN X hx rfl (hb hby own_d1_24) rfl rfl k
  have r70 : OwnW s0 n0 34 #[.val (.ref k5), .val (.ref b), .val (.int (5 : Int32)), .val (.int (4 : Int32)), .val (.ref k5)] [] hr1 1 5 := r69.goX fun T t ls X eT k => Jvm.RoadKit.acmp X hx rfl rfl rfl (pc0 := 25) (pc' := 34) (same := false) rfl (hb hby own_d1_25) rfl (own_rne (own_ne En1.2.2.2.2.2.2.2.2.2.2.2.2.2.2.2.2.2.2.2.1 En1.2.2.2.2.2.2.2.2.2.2.2.2.2.2.2.2.2.2.2.2.2.1 (by decide))) (by decide) (by decide) k
  have r71 : OwnW s0 n0 37 #[.val (.ref k5), .val (.ref b), .val (.int (5 : Int32)), .val (.int ((4 : Int32) + (1 : Int32))), .val (.ref k5)] [] hr1 1 5 := r70.go fun T t X k => XS.iinc X hx rfl (hb hby own_d1_34) rfl (l' := #[.val (.ref k5), .val (.ref b), .val (.int (5 : Int32)), .val (.int ((4 : Int32) + (1 : Int32))), .val (.ref k5)]) rfl k
  have r71 : OwnW s0 n0 37 #[.val (.ref k5), .val (.ref b), .val (.int (5 : Int32)), .val (.int (5 : Int32)), .val (.ref k5)] [] hr1 1 5 := r71
  have r72 : OwnW s0 n0 9 #[.val (.ref k5), .val (.ref b), .val (.int (5 : Int32)), .val (.int (5 : Int32)), .val (.ref k5)] [] hr1 1 5 := r71.go fun T t X k => XS.goto X hx rfl (pc0 := 37) (pc' := 9) rfl (hb hby own_d1_37) (by decide) (by decide) k
  have r73 : OwnW s0 n0 10 #[.val (.ref k5), .val (.ref b), .val (.int (5 : Int32)), .val (.int (5 : Int32)), .val (.ref k5)] [(.int (5 : Int32))] hr1 1 5 := r72.go fun T t X k => XS.iloadN X hx rfl (hb hby own_d1_9) rfl k
  have r74 : OwnW s0 n0 11 #[.val (.ref k5), .val (.ref b), .val (.int (5 : Int32)), .val (.int (5 : Int32)), .val (.ref k5)] [(.int (5 : Int32)), (.int (5 : Int32))] hr1 1 5 := r73.go fun T t X k => XS.iloadN X hx rfl (hb hby own_d1_10) rfl k
  have r75 : OwnW s0 n0 40 #[.val (.ref k5), .val (.ref b), .val (.int (5 : Int32)), .val (.int (5 : Int32)), .val (.ref k5)] [] hr1 1 5 := r74.go fun T t X k => XS.icmpYes X hx rfl (pc0 := 11) (pc' := 40) rfl (hb hby own_d1_11) rfl (flt (by decide)).2.1 (by decide) (by decide) k
  obtain ⟨vr76, hr76, r76, qr76⟩ := r75.callS hx hZ hown (hw _ (List.mem_of_getElem? (i := 30) rfl)) (hw _ (List.mem_of_getElem? (i := 31) rfl)) (hw _ (List.mem_of_getElem? (i := 32) rfl)) (hw _ (List.mem_of_getElem? (i := 33) rfl)) (by decide) (argsL := []) (own_emp l Z a0 hw ke hr1 n0 (SE.ext Ex)) [] 0 (by decide) (by decide) (by rw [hml]; rfl) (lenOf own_pd3 rfl) rfl (Nat.le_of_eq rfl) (hb hby own_d1_40) (by decide) (by decide)
  obtain ⟨rfl, rfl⟩ := qr76
  have r76 : OwnW s0 n0 43 #[.val (.ref k5), .val (.ref b), .val (.int (5 : Int32)), .val (.int (5 : Int32)), .val (.ref k5)] [(.ref ke)] hr1 1 5 := r76
  have r77 := r76.retW hx hret rfl rfl (Or.inr (Or.inr (Or.inr (Or.inr ⟨rfl, rfl, rfl⟩)))) (hb hby own_d1_43)
  exact ⟨_, _, 1, 5, ⟨ke, rfl, Ex, XE.ext Ex, FE.ext Ex⟩, by decide, by decide, r77⟩
theorem own_ef_law (m : MethodId) (x0 : Int32) : entryFrame m #[(.int x0)] maxLocals = mkF m 0 #[.val (.int x0), .unset, .unset, .unset, .unset, .unset] [] := by first | (simp [entryFrame, mkF, argsToLocals, Value.category, maxLocals]; done) | rfl
set_option maxRecDepth 65536 in
set_option maxHeartbeats 40000000 in
theorem own_law (l : Launch) (Z : State) (a0 : Array Value) (hw : ∀ d ∈ tables_1, d.before a0 Z = true) (x0 : Int32) (k0 k1 k2 k3 k4 k5 : Addr) (ke : Addr) (h0 : Heap) (n0 : Nat) (Z0 : n0 ≤ h0.size) (En : OwnEn Z h0 k0 k1 k2 k3 k4 k5) (SE : Sta Z h0 "java/util/Optional" "EMPTY" "Ljava/util/Optional;" (.ref ke)) (XE : Exa Z h0 ke "java/util/Optional") (FE : Fld Z h0 ke "java/util/Optional" "value" "Ljava/lang/Object;" .null) :
    OwnCon l Z x code maxLocals ret room_1 #[(.int x0)] h0 n0 (fun v h => v = some (.int 1)) := by
  refine OwnCon.of own_pn3 (fun m => own_ef_law m x0) ?_
  intro p e s m below meth c s0 hx hby hml hown hnm hret hZ r
  have hown : s.vm.findClass "com/example/ample_proof/ampleproof/disputes/DisputePhaseNextPinLaw" = some m.cls := hown
  have r1 : OwnW s0 n0 1 #[.val (.int x0), .unset, .unset, .unset, .unset, .unset] [(.int x0)] h0 0 0 := r.go fun T t X k => XS.iloadN X hx rfl (hb hby at_0) rfl k
  have r2 : OwnW s0 n0 3 #[.val (.int x0), .unset, .unset, .unset, .unset, .unset] [(.int (2147483647 : Int32)), (.int x0)] h0 0 0 := r1.goX fun T t ls X eT k => X.ldcI hx hown (mvT hZ (hw _ (List.mem_of_getElem? (i := 0) rfl))) rfl (hb hby at_1) k
  have r3 : OwnW s0 n0 4 #[.val (.int x0), .unset, .unset, .unset, .unset, .unset] [(.int (x0 &&& (2147483647 : Int32)))] h0 0 0 := r2.go fun T t X k => XS.iand X hx rfl (hb hby at_3) rfl k
  have r4 : OwnW s0 n0 5 #[.val (.int x0), .unset, .unset, .unset, .unset, .unset] [(.int (5 : Int32)), (.int (x0 &&& (2147483647 : Int32)))] h0 0 0 := r3.go fun T t X k => XS.iconst X hx rfl (hb hby at_4) k
  have r5 : OwnW s0 n0 6 #[.val (.int x0), .unset, .unset, .unset, .unset, .unset] [(.int ((x0 &&& (2147483647 : Int32)) % (5 : Int32)))] h0 0 0 := r4.goX fun T t ls X eT k => Jvm.RoadKit.iremM X hx rfl (hb hby at_5) rfl (by decide) k
  have hi := own_rem5 x0
  generalize ((x0 &&& (2147483647 : Int32)) % (5 : Int32)) = i at hi r5
  rcases hi with rfl | rfl | rfl | rfl | rfl
  · have ra := r5
    have ra6 : OwnW s0 n0 7 #[.val (.int x0), .val (.int (0 : Int32)), .unset, .unset, .unset, .unset] [] h0 0 0 := ra.go fun T t X k => XS.istoreN X hx rfl (hb hby at_6) rfl (l' := #[.val (.int x0), .val (.int (0 : Int32)), .unset, .unset, .unset, .unset]) rfl k
    have ra7 : OwnW s0 n0 8 #[.val (.int x0), .val (.int (0 : Int32)), .unset, .unset, .unset, .unset] [(.int (0 : Int32))] h0 0 0 := ra6.go fun T t X k => XS.iloadN X hx rfl (hb hby at_7) rfl k
    have ra8 : OwnW s0 n0 11 #[.val (.int x0), .val (.int (0 : Int32)), .unset, .unset, .unset, .unset] [] h0 0 0 := ra7.go fun T t X k => XS.ifNo X hx rfl (hb hby at_8) rfl ((if0 _ _).trans (teq rfl).2) k
    have ra9 : OwnW s0 n0 14 #[.val (.int x0), .val (.int (0 : Int32)), .unset, .unset, .unset, .unset] [(.ref k0)] h0 0 0 := ra8.getS hx hZ hown (hw _ (List.mem_of_getElem? (i := 1) rfl)) En.2.1 (hb hby at_11)
    have ra10 : OwnW s0 n0 15 #[.val (.int x0), .val (.int (0 : Int32)), .val (.ref k0), .unset, .unset, .unset] [] h0 0 0 := ra9.go fun T t X k => XS.astoreN X hx rfl (hb hby at_14) rfl rfl (l' := #[.val (.int x0), .val (.int (0 : Int32)), .val (.ref k0), .unset, .unset, .unset]) rfl k
    have ra11 : OwnW s0 n0 16 #[.val (.int x0), .val (.int (0 : Int32)), .val (.ref k0), .unset, .unset, .unset] [.null] h0 0 0 := ra10.go fun T t X k => XS.aconstNull X hx rfl (hb hby at_15) k
    have ra12 : OwnW s0 n0 17 #[.val (.int x0), .val (.int (0 : Int32)), .val (.ref k0), .val .null, .unset, .unset] [] h0 0 0 := ra11.go fun T t X k => XS.astoreN X hx rfl (hb hby at_16) rfl rfl (l' := #[.val (.int x0), .val (.int (0 : Int32)), .val (.ref k0), .val .null, .unset, .unset]) rfl k
    have ra13 : OwnW s0 n0 72 #[.val (.int x0), .val (.int (0 : Int32)), .val (.ref k0), .val .null, .unset, .unset] [] h0 0 0 := ra12.go fun T t X k => XS.goto X hx rfl (pc0 := 17) (pc' := 72) rfl (hb hby at_17) (by decide) (by decide) k
    have ra14 : OwnW s0 n0 73 #[.val (.int x0), .val (.int (0 : Int32)), .val (.ref k0), .val .null, .unset, .unset] [(.ref k0)] h0 0 0 := ra13.go fun T t X k => XS.aloadN X hx rfl (hb hby at_72) rfl rfl k
    obtain ⟨vra15, hra15, ra15, qra15⟩ := ra14.callV hx hZ hown (hw _ (List.mem_of_getElem? (i := 4) rfl)) (hw _ (List.mem_of_getElem? (i := 5) rfl)) (hw _ (List.mem_of_getElem? (i := 7) rfl)) (notFace_of_selects (args := #[]) (mvT hZ (hw _ (List.mem_of_getElem? (i := 7) rfl)))) (hw _ (List.mem_of_getElem? (i := 6) rfl)) (hw _ (List.mem_of_getElem? (i := 2) rfl)) (hw _ (List.mem_of_getElem? (i := 8) rfl)) (by decide) (a := k0) (argsL := []) En.1 (own_nxt0 l Z a0 hw k0 k1 k2 k3 k4 k5 ke h0 n0 Z0 En SE XE FE) [] 0 (by decide) (by decide) (by rw [hml]; rfl) (lenOf own_pd3 rfl) rfl (Nat.le_of_eq rfl) (hb hby at_73) (by decide) (by decide)
    obtain ⟨o, rfl, Ex, Xo, Fo⟩ := qra15
    have ra15 : OwnW s0 n0 76 #[.val (.int x0), .val (.int (0 : Int32)), .val (.ref k0), .val .null, .unset, .unset] [(.ref o)] hra15 2 6 := ra15
    have En1 := En.ext Ex
    have ra16 : OwnW s0 n0 78 #[.val (.int x0), .val (.int (0 : Int32)), .val (.ref k0), .val .null, .val (.ref o), .unset] [] hra15 2 6 := ra15.go fun T t X k => XS.astore X hx rfl (hb hby at_76) rfl rfl (l' := #[.val (.int x0), .val (.int (0 : Int32)), .val (.ref k0), .val .null, .val (.ref o), .unset]) rfl k
    have ra17 : OwnW s0 n0 80 #[.val (.int x0), .val (.int (0 : Int32)), .val (.ref k0), .val .null, .val (.ref o), .unset] [(.ref o)] hra15 2 6 := ra16.go fun T t X k => XS.aload X hx rfl (hb hby at_78) rfl rfl k
    have ra18 : OwnW s0 n0 85 #[.val (.int x0), .val (.int (0 : Int32)), .val (.ref k0), .val .null, .val (.ref o), .unset] [] hra15 2 6 := ra17.go fun T t X k => XS.ifnonnullYes X hx rfl (pc0 := 80) (pc' := 85) rfl (hb hby at_80) rfl (by decide) (by decide) k
    have ra19 : OwnW s0 n0 87 #[.val (.int x0), .val (.int (0 : Int32)), .val (.ref k0), .val .null, .val (.ref o), .unset] [(.ref o)] hra15 2 6 := ra18.go fun T t X k => XS.aload X hx rfl (hb hby at_85) rfl rfl k
    have ra20 : OwnW s0 n0 88 #[.val (.int x0), .val (.int (0 : Int32)), .val (.ref k0), .val .null, .val (.ref o), .unset] [.null, (.ref o)] hra15 2 6 := ra19.go fun T t X k => XS.aconstNull X hx rfl (hb hby at_87) k
    obtain ⟨vra21, hra21, ra21, qra21⟩ := ra20.callV hx hZ hown (hw _ (List.mem_of_getElem? (i := 35) rfl)) (hw _ (List.mem_of_getElem? (i := 36) rfl)) (hw _ (List.mem_of_getElem? (i := 38) rfl)) (notFace_of_selects (args := #[]) (mvT hZ (hw _ (List.mem_of_getElem? (i := 38) rfl)))) (hw _ (List.mem_of_getElem? (i := 37) rfl)) (hw _ (List.mem_of_getElem? (i := 32) rfl)) (hw _ (List.mem_of_getElem? (i := 39) rfl)) (by decide) (a := o) (argsL := [.null]) Xo (own_oen l Z a0 hw o hra15 n0 Fo) [] 0 (by decide) (by decide) (by rw [hml]; rfl) (lenOf own_pd0 rfl) rfl (Nat.le_of_eq rfl) (hb hby at_88) (by decide) (by decide)
    obtain ⟨rfl, rfl⟩ := qra21
    have ra21 : OwnW s0 n0 91 #[.val (.int x0), .val (.int (0 : Int32)), .val (.ref k0), .val .null, .val (.ref o), .unset] [.null] hra15 2 6 := ra21
    have ra22 : OwnW s0 n0 94 #[.val (.int x0), .val (.int (0 : Int32)), .val (.ref k0), .val .null, .val (.ref o), .unset] [.null] hra15 2 6 := ra21.castN hx rfl (hb hby at_91)
    have ra23 : OwnW s0 n0 96 #[.val (.int x0), .val (.int (0 : Int32)), .val (.ref k0), .val .null, .val (.ref o), .val .null] [] hra15 2 6 := ra22.go fun T t X k => XS.astore X hx rfl (hb hby at_94) rfl rfl (l' := #[.val (.int x0), .val (.int (0 : Int32)), .val (.ref k0), .val .null, .val (.ref o), .val .null]) rfl k
    have ra24 : OwnW s0 n0 98 #[.val (.int x0), .val (.int (0 : Int32)), .val (.ref k0), .val .null, .val (.ref o), .val .null] [.null] hra15 2 6 := ra23.go fun T t X k => XS.aload X hx rfl (hb hby at_96) rfl rfl k
    have ra25 : OwnW s0 n0 99 #[.val (.int x0), .val (.int (0 : Int32)), .val (.ref k0), .val .null, .val (.ref o), .val .null] [.null, .null] hra15 2 6 := ra24.go fun T t X k => XS.aloadN X hx rfl (hb hby at_98) rfl rfl k
    have ra26 : OwnW s0 n0 102 #[.val (.int x0), .val (.int (0 : Int32)), .val (.ref k0), .val .null, .val (.ref o), .val .null] [] hra15 2 6 := ra25.goX fun T t ls X eT k => Jvm.RoadKit.acmp X hx rfl rfl rfl (pc0 := 99) (pc' := 102) (same := true) rfl (hb hby at_99) rfl (decide_eq_true rfl) (by decide) (by decide) k
    have ra27 : OwnW s0 n0 103 #[.val (.int x0), .val (.int (0 : Int32)), .val (.ref k0), .val .null, .val (.ref o), .val .null] [(.int (1 : Int32))] hra15 2 6 := ra26.go fun T t X k => XS.iconst X hx rfl (hb hby at_102) k
    have ra28 : OwnW s0 n0 107 #[.val (.int x0), .val (.int (0 : Int32)), .val (.ref k0), .val .null, .val (.ref o), .val .null] [(.int (1 : Int32))] hra15 2 6 := ra27.go fun T t X k => XS.goto X hx rfl (pc0 := 103) (pc' := 107) rfl (hb hby at_103) (by decide) (by decide) k
    have ra29 := ra28.retN hx hret (by simp) rfl (hb hby at_107)
    exact ⟨_, _, 2, 6, rfl, by decide, by decide, ra29⟩
  · have rb := r5
    have rb6 : OwnW s0 n0 7 #[.val (.int x0), .val (.int (1 : Int32)), .unset, .unset, .unset, .unset] [] h0 0 0 := rb.go fun T t X k => XS.istoreN X hx rfl (hb hby at_6) rfl (l' := #[.val (.int x0), .val (.int (1 : Int32)), .unset, .unset, .unset, .unset]) rfl k
    have rb7 : OwnW s0 n0 8 #[.val (.int x0), .val (.int (1 : Int32)), .unset, .unset, .unset, .unset] [(.int (1 : Int32))] h0 0 0 := rb6.go fun T t X k => XS.iloadN X hx rfl (hb hby at_7) rfl k
    have rb8 : OwnW s0 n0 20 #[.val (.int x0), .val (.int (1 : Int32)), .unset, .unset, .unset, .unset] [] h0 0 0 := rb7.go fun T t X k => XS.ifYes X hx rfl (pc0 := 8) (pc' := 20) rfl (hb hby at_8) rfl ((if0 _ _).trans (feq (by decide)).2) (by decide) (by decide) k
    have rb9 : OwnW s0 n0 21 #[.val (.int x0), .val (.int (1 : Int32)), .unset, .unset, .unset, .unset] [(.int (1 : Int32))] h0 0 0 := rb8.go fun T t X k => XS.iloadN X hx rfl (hb hby at_20) rfl k
    have rb10 : OwnW s0 n0 22 #[.val (.int x0), .val (.int (1 : Int32)), .unset, .unset, .unset, .unset] [(.int (1 : Int32)), (.int (1 : Int32))] h0 0 0 := rb9.go fun T t X k => XS.iconst X hx rfl (hb hby at_21) k
    have rb11 : OwnW s0 n0 25 #[.val (.int x0), .val (.int (1 : Int32)), .unset, .unset, .unset, .unset] [] h0 0 0 := rb10.go fun T t X k => XS.icmpNo X hx rfl (hb hby at_22) rfl (teq rfl).2 k
    have rb12 : OwnW s0 n0 28 #[.val (.int x0), .val (.int (1 : Int32)), .unset, .unset, .unset, .unset] [(.ref k2)] h0 0 0 := rb11.getS hx hZ hown (hw _ (List.mem_of_getElem? (i := 62) rfl)) En.2.2.2.2.2.1 (hb hby at_25)
    have rb13 : OwnW s0 n0 29 #[.val (.int x0), .val (.int (1 : Int32)), .val (.ref k2), .unset, .unset, .unset] [] h0 0 0 := rb12.go fun T t X k => XS.astoreN X hx rfl (hb hby at_28) rfl rfl (l' := #[.val (.int x0), .val (.int (1 : Int32)), .val (.ref k2), .unset, .unset, .unset]) rfl k
    have rb14 : OwnW s0 n0 30 #[.val (.int x0), .val (.int (1 : Int32)), .val (.ref k2), .unset, .unset, .unset] [.null] h0 0 0 := rb13.go fun T t X k => XS.aconstNull X hx rfl (hb hby at_29) k
    have rb15 : OwnW s0 n0 31 #[.val (.int x0), .val (.int (1 : Int32)), .val (.ref k2), .val .null, .unset, .unset] [] h0 0 0 := rb14.go fun T t X k => XS.astoreN X hx rfl (hb hby at_30) rfl rfl (l' := #[.val (.int x0), .val (.int (1 : Int32)), .val (.ref k2), .val .null, .unset, .unset]) rfl k
    have rb16 : OwnW s0 n0 72 #[.val (.int x0), .val (.int (1 : Int32)), .val (.ref k2), .val .null, .unset, .unset] [] h0 0 0 := rb15.go fun T t X k => XS.goto X hx rfl (pc0 := 31) (pc' := 72) rfl (hb hby at_31) (by decide) (by decide) k
    have rb17 : OwnW s0 n0 73 #[.val (.int x0), .val (.int (1 : Int32)), .val (.ref k2), .val .null, .unset, .unset] [(.ref k2)] h0 0 0 := rb16.go fun T t X k => XS.aloadN X hx rfl (hb hby at_72) rfl rfl k
    obtain ⟨vrb18, hrb18, rb18, qrb18⟩ := rb17.callV hx hZ hown (hw _ (List.mem_of_getElem? (i := 4) rfl)) (hw _ (List.mem_of_getElem? (i := 5) rfl)) (hw _ (List.mem_of_getElem? (i := 7) rfl)) (notFace_of_selects (args := #[]) (mvT hZ (hw _ (List.mem_of_getElem? (i := 7) rfl)))) (hw _ (List.mem_of_getElem? (i := 6) rfl)) (hw _ (List.mem_of_getElem? (i := 2) rfl)) (hw _ (List.mem_of_getElem? (i := 8) rfl)) (by decide) (a := k2) (argsL := []) En.2.2.2.2.1 (own_nxt1 l Z a0 hw k2 k0 k1 k3 k4 k5 ke h0 n0 Z0 En SE XE FE) [] 0 (by decide) (by decide) (by rw [hml]; rfl) (lenOf own_pd3 rfl) rfl (Nat.le_of_eq rfl) (hb hby at_73) (by decide) (by decide)
    obtain ⟨o, rfl, Ex, Xo, Fo⟩ := qrb18
    have rb18 : OwnW s0 n0 76 #[.val (.int x0), .val (.int (1 : Int32)), .val (.ref k2), .val .null, .unset, .unset] [(.ref o)] hrb18 2 6 := rb18
    have En1 := En.ext Ex
    have rb19 : OwnW s0 n0 78 #[.val (.int x0), .val (.int (1 : Int32)), .val (.ref k2), .val .null, .val (.ref o), .unset] [] hrb18 2 6 := rb18.go fun T t X k => XS.astore X hx rfl (hb hby at_76) rfl rfl (l' := #[.val (.int x0), .val (.int (1 : Int32)), .val (.ref k2), .val .null, .val (.ref o), .unset]) rfl k
    have rb20 : OwnW s0 n0 80 #[.val (.int x0), .val (.int (1 : Int32)), .val (.ref k2), .val .null, .val (.ref o), .unset] [(.ref o)] hrb18 2 6 := rb19.go fun T t X k => XS.aload X hx rfl (hb hby at_78) rfl rfl k
    have rb21 : OwnW s0 n0 85 #[.val (.int x0), .val (.int (1 : Int32)), .val (.ref k2), .val .null, .val (.ref o), .unset] [] hrb18 2 6 := rb20.go fun T t X k => XS.ifnonnullYes X hx rfl (pc0 := 80) (pc' := 85) rfl (hb hby at_80) rfl (by decide) (by decide) k
    have rb22 : OwnW s0 n0 87 #[.val (.int x0), .val (.int (1 : Int32)), .val (.ref k2), .val .null, .val (.ref o), .unset] [(.ref o)] hrb18 2 6 := rb21.go fun T t X k => XS.aload X hx rfl (hb hby at_85) rfl rfl k
    have rb23 : OwnW s0 n0 88 #[.val (.int x0), .val (.int (1 : Int32)), .val (.ref k2), .val .null, .val (.ref o), .unset] [.null, (.ref o)] hrb18 2 6 := rb22.go fun T t X k => XS.aconstNull X hx rfl (hb hby at_87) k
    obtain ⟨vrb24, hrb24, rb24, qrb24⟩ := rb23.callV hx hZ hown (hw _ (List.mem_of_getElem? (i := 35) rfl)) (hw _ (List.mem_of_getElem? (i := 36) rfl)) (hw _ (List.mem_of_getElem? (i := 38) rfl)) (notFace_of_selects (args := #[]) (mvT hZ (hw _ (List.mem_of_getElem? (i := 38) rfl)))) (hw _ (List.mem_of_getElem? (i := 37) rfl)) (hw _ (List.mem_of_getElem? (i := 32) rfl)) (hw _ (List.mem_of_getElem? (i := 39) rfl)) (by decide) (a := o) (argsL := [.null]) Xo (own_oen l Z a0 hw o hrb18 n0 Fo) [] 0 (by decide) (by decide) (by rw [hml]; rfl) (lenOf own_pd0 rfl) rfl (Nat.le_of_eq rfl) (hb hby at_88) (by decide) (by decide)
    obtain ⟨rfl, rfl⟩ := qrb24
    have rb24 : OwnW s0 n0 91 #[.val (.int x0), .val (.int (1 : Int32)), .val (.ref k2), .val .null, .val (.ref o), .unset] [.null] hrb18 2 6 := rb24
    have rb25 : OwnW s0 n0 94 #[.val (.int x0), .val (.int (1 : Int32)), .val (.ref k2), .val .null, .val (.ref o), .unset] [.null] hrb18 2 6 := rb24.castN hx rfl (hb hby at_91)
    have rb26 : OwnW s0 n0 96 #[.val (.int x0), .val (.int (1 : Int32)), .val (.ref k2), .val .null, .val (.ref o), .val .null] [] hrb18 2 6 := rb25.go fun T t X k => XS.astore X hx rfl (hb hby at_94) rfl rfl (l' := #[.val (.int x0), .val (.int (1 : Int32)), .val (.ref k2), .val .null, .val (.ref o), .val .null]) rfl k
    have rb27 : OwnW s0 n0 98 #[.val (.int x0), .val (.int (1 : Int32)), .val (.ref k2), .val .null, .val (.ref o), .val .null] [.null] hrb18 2 6 := rb26.go fun T t X k => XS.aload X hx rfl (hb hby at_96) rfl rfl k
    have rb28 : OwnW s0 n0 99 #[.val (.int x0), .val (.int (1 : Int32)), .val (.ref k2), .val .null, .val (.ref o), .val .null] [.null, .null] hrb18 2 6 := rb27.go fun T t X k => XS.aloadN X hx rfl (hb hby at_98) rfl rfl k
    have rb29 : OwnW s0 n0 102 #[.val (.int x0), .val (.int (1 : Int32)), .val (.ref k2), .val .null, .val (.ref o), .val .null] [] hrb18 2 6 := rb28.goX fun T t ls X eT k => Jvm.RoadKit.acmp X hx rfl rfl rfl (pc0 := 99) (pc' := 102) (same := true) rfl (hb hby at_99) rfl (decide_eq_true rfl) (by decide) (by decide) k
    have rb30 : OwnW s0 n0 103 #[.val (.int x0), .val (.int (1 : Int32)), .val (.ref k2), .val .null, .val (.ref o), .val .null] [(.int (1 : Int32))] hrb18 2 6 := rb29.go fun T t X k => XS.iconst X hx rfl (hb hby at_102) k
    have rb31 : OwnW s0 n0 107 #[.val (.int x0), .val (.int (1 : Int32)), .val (.ref k2), .val .null, .val (.ref o), .val .null] [(.int (1 : Int32))] hrb18 2 6 := rb30.go fun T t X k => XS.goto X hx rfl (pc0 := 103) (pc' := 107) rfl (hb hby at_103) (by decide) (by decide) k
    have rb32 := rb31.retN hx hret (by simp) rfl (hb hby at_107)
    exact ⟨_, _, 2, 6, rfl, by decide, by decide, rb32⟩
  · have rc := r5
    have rc6 : OwnW s0 n0 7 #[.val (.int x0), .val (.int (2 : Int32)), .unset, .unset, .unset, .unset] [] h0 0 0 := rc.go fun T t X k => XS.istoreN X hx rfl (hb hby at_6) rfl (l' := #[.val (.int x0), .val (.int (2 : Int32)), .unset, .unset, .unset, .unset]) rfl k
    have rc7 : OwnW s0 n0 8 #[.val (.int x0), .val (.int (2 : Int32)), .unset, .unset, .unset, .unset] [(.int (2 : Int32))] h0 0 0 := rc6.go fun T t X k => XS.iloadN X hx rfl (hb hby at_7) rfl k
    have rc8 : OwnW s0 n0 20 #[.val (.int x0), .val (.int (2 : Int32)), .unset, .unset, .unset, .unset] [] h0 0 0 := rc7.go fun T t X k => XS.ifYes X hx rfl (pc0 := 8) (pc' := 20) rfl (hb hby at_8) rfl ((if0 _ _).trans (feq (by decide)).2) (by decide) (by decide) k
    have rc9 : OwnW s0 n0 21 #[.val (.int x0), .val (.int (2 : Int32)), .unset, .unset, .unset, .unset] [(.int (2 : Int32))] h0 0 0 := rc8.go fun T t X k => XS.iloadN X hx rfl (hb hby at_20) rfl k
    have rc10 : OwnW s0 n0 22 #[.val (.int x0), .val (.int (2 : Int32)), .unset, .unset, .unset, .unset] [(.int (1 : Int32)), (.int (2 : Int32))] h0 0 0 := rc9.go fun T t X k => XS.iconst X hx rfl (hb hby at_21) k
    have rc11 : OwnW s0 n0 34 #[.val (.int x0), .val (.int (2 : Int32)), .unset, .unset, .unset, .unset] [] h0 0 0 := rc10.go fun T t X k => XS.icmpYes X hx rfl (pc0 := 22) (pc' := 34) rfl (hb hby at_22) rfl (feq (by decide)).2 (by decide) (by decide) k
    have rc12 : OwnW s0 n0 35 #[.val (.int x0), .val (.int (2 : Int32)), .unset, .unset, .unset, .unset] [(.int (2 : Int32))] h0 0 0 := rc11.go fun T t X k => XS.iloadN X hx rfl (hb hby at_34) rfl k
    have rc13 : OwnW s0 n0 36 #[.val (.int x0), .val (.int (2 : Int32)), .unset, .unset, .unset, .unset] [(.int (2 : Int32)), (.int (2 : Int32))] h0 0 0 := rc12.go fun T t X k => XS.iconst X hx rfl (hb hby at_35) k
    have rc14 : OwnW s0 n0 39 #[.val (.int x0), .val (.int (2 : Int32)), .unset, .unset, .unset, .unset] [] h0 0 0 := rc13.go fun T t X k => XS.icmpNo X hx rfl (hb hby at_36) rfl (teq rfl).2 k
    have rc15 : OwnW s0 n0 42 #[.val (.int x0), .val (.int (2 : Int32)), .unset, .unset, .unset, .unset] [(.ref k3)] h0 0 0 := rc14.getS hx hZ hown (hw _ (List.mem_of_getElem? (i := 63) rfl)) En.2.2.2.2.2.2.2.1 (hb hby at_39)
    have rc16 : OwnW s0 n0 43 #[.val (.int x0), .val (.int (2 : Int32)), .val (.ref k3), .unset, .unset, .unset] [] h0 0 0 := rc15.go fun T t X k => XS.astoreN X hx rfl (hb hby at_42) rfl rfl (l' := #[.val (.int x0), .val (.int (2 : Int32)), .val (.ref k3), .unset, .unset, .unset]) rfl k
    have rc17 : OwnW s0 n0 46 #[.val (.int x0), .val (.int (2 : Int32)), .val (.ref k3), .unset, .unset, .unset] [(.ref k4)] h0 0 0 := rc16.getS hx hZ hown (hw _ (List.mem_of_getElem? (i := 42) rfl)) En.2.2.2.2.2.2.2.2.2.1 (hb hby at_43)
    have rc18 : OwnW s0 n0 47 #[.val (.int x0), .val (.int (2 : Int32)), .val (.ref k3), .val (.ref k4), .unset, .unset] [] h0 0 0 := rc17.go fun T t X k => XS.astoreN X hx rfl (hb hby at_46) rfl rfl (l' := #[.val (.int x0), .val (.int (2 : Int32)), .val (.ref k3), .val (.ref k4), .unset, .unset]) rfl k
    have rc19 : OwnW s0 n0 72 #[.val (.int x0), .val (.int (2 : Int32)), .val (.ref k3), .val (.ref k4), .unset, .unset] [] h0 0 0 := rc18.go fun T t X k => XS.goto X hx rfl (pc0 := 47) (pc' := 72) rfl (hb hby at_47) (by decide) (by decide) k
    have rc20 : OwnW s0 n0 73 #[.val (.int x0), .val (.int (2 : Int32)), .val (.ref k3), .val (.ref k4), .unset, .unset] [(.ref k3)] h0 0 0 := rc19.go fun T t X k => XS.aloadN X hx rfl (hb hby at_72) rfl rfl k
    obtain ⟨vrc21, hrc21, rc21, qrc21⟩ := rc20.callV hx hZ hown (hw _ (List.mem_of_getElem? (i := 4) rfl)) (hw _ (List.mem_of_getElem? (i := 5) rfl)) (hw _ (List.mem_of_getElem? (i := 7) rfl)) (notFace_of_selects (args := #[]) (mvT hZ (hw _ (List.mem_of_getElem? (i := 7) rfl)))) (hw _ (List.mem_of_getElem? (i := 6) rfl)) (hw _ (List.mem_of_getElem? (i := 2) rfl)) (hw _ (List.mem_of_getElem? (i := 8) rfl)) (by decide) (a := k3) (argsL := []) En.2.2.2.2.2.2.1 (own_nxt2 l Z a0 hw k3 k0 k1 k2 k4 k5 ke h0 n0 Z0 En SE XE FE) [] 0 (by decide) (by decide) (by rw [hml]; rfl) (lenOf own_pd3 rfl) rfl (Nat.le_of_eq rfl) (hb hby at_73) (by decide) (by decide)
    obtain ⟨o, rfl, Ex, Xo, Fo⟩ := qrc21
    have rc21 : OwnW s0 n0 76 #[.val (.int x0), .val (.int (2 : Int32)), .val (.ref k3), .val (.ref k4), .unset, .unset] [(.ref o)] hrc21 2 6 := rc21
    have En1 := En.ext Ex
    have rc22 : OwnW s0 n0 78 #[.val (.int x0), .val (.int (2 : Int32)), .val (.ref k3), .val (.ref k4), .val (.ref o), .unset] [] hrc21 2 6 := rc21.go fun T t X k => XS.astore X hx rfl (hb hby at_76) rfl rfl (l' := #[.val (.int x0), .val (.int (2 : Int32)), .val (.ref k3), .val (.ref k4), .val (.ref o), .unset]) rfl k
    have rc23 : OwnW s0 n0 80 #[.val (.int x0), .val (.int (2 : Int32)), .val (.ref k3), .val (.ref k4), .val (.ref o), .unset] [(.ref o)] hrc21 2 6 := rc22.go fun T t X k => XS.aload X hx rfl (hb hby at_78) rfl rfl k
    have rc24 : OwnW s0 n0 85 #[.val (.int x0), .val (.int (2 : Int32)), .val (.ref k3), .val (.ref k4), .val (.ref o), .unset] [] hrc21 2 6 := rc23.go fun T t X k => XS.ifnonnullYes X hx rfl (pc0 := 80) (pc' := 85) rfl (hb hby at_80) rfl (by decide) (by decide) k
    have rc25 : OwnW s0 n0 87 #[.val (.int x0), .val (.int (2 : Int32)), .val (.ref k3), .val (.ref k4), .val (.ref o), .unset] [(.ref o)] hrc21 2 6 := rc24.go fun T t X k => XS.aload X hx rfl (hb hby at_85) rfl rfl k
    have rc26 : OwnW s0 n0 88 #[.val (.int x0), .val (.int (2 : Int32)), .val (.ref k3), .val (.ref k4), .val (.ref o), .unset] [.null, (.ref o)] hrc21 2 6 := rc25.go fun T t X k => XS.aconstNull X hx rfl (hb hby at_87) k
    obtain ⟨vrc27, hrc27, rc27, qrc27⟩ := rc26.callV hx hZ hown (hw _ (List.mem_of_getElem? (i := 35) rfl)) (hw _ (List.mem_of_getElem? (i := 36) rfl)) (hw _ (List.mem_of_getElem? (i := 38) rfl)) (notFace_of_selects (args := #[]) (mvT hZ (hw _ (List.mem_of_getElem? (i := 38) rfl)))) (hw _ (List.mem_of_getElem? (i := 37) rfl)) (hw _ (List.mem_of_getElem? (i := 32) rfl)) (hw _ (List.mem_of_getElem? (i := 39) rfl)) (by decide) (a := o) (argsL := [.null]) Xo (own_oer l Z a0 hw o k4 hrc21 n0 Fo) [] 0 (by decide) (by decide) (by rw [hml]; rfl) (lenOf own_pd0 rfl) rfl (Nat.le_of_eq rfl) (hb hby at_88) (by decide) (by decide)
    obtain ⟨rfl, rfl⟩ := qrc27
    have rc27 : OwnW s0 n0 91 #[.val (.int x0), .val (.int (2 : Int32)), .val (.ref k3), .val (.ref k4), .val (.ref o), .unset] [(.ref k4)] hrc21 2 6 := rc27
    have rc28 : OwnW s0 n0 94 #[.val (.int x0), .val (.int (2 : Int32)), .val (.ref k3), .val (.ref k4), .val (.ref o), .unset] [(.ref k4)] hrc21 2 6 := rc27.cast hx hZ hown (hw _ (List.mem_of_getElem? (i := 60) rfl)) (Ins.self En1.2.2.2.2.2.2.2.2.1) rfl (hb hby at_91)
    have rc29 : OwnW s0 n0 96 #[.val (.int x0), .val (.int (2 : Int32)), .val (.ref k3), .val (.ref k4), .val (.ref o), .val (.ref k4)] [] hrc21 2 6 := rc28.go fun T t X k => XS.astore X hx rfl (hb hby at_94) rfl rfl (l' := #[.val (.int x0), .val (.int (2 : Int32)), .val (.ref k3), .val (.ref k4), .val (.ref o), .val (.ref k4)]) rfl k
    have rc30 : OwnW s0 n0 98 #[.val (.int x0), .val (.int (2 : Int32)), .val (.ref k3), .val (.ref k4), .val (.ref o), .val (.ref k4)] [(.ref k4)] hrc21 2 6 := rc29.go fun T t X k => XS.aload X hx rfl (hb hby at_96) rfl rfl k
    have rc31 : OwnW s0 n0 99 #[.val (.int x0), .val (.int (2 : Int32)), .val (.ref k3), .val (.ref k4), .val (.ref o), .val (.ref k4)] [(.ref k4), (.ref k4)] hrc21 2 6 := rc30.go fun T t X k => XS.aloadN X hx rfl (hb hby at_98) rfl rfl k
    have rc32 : OwnW s0 n0 102 #[.val (.int x0), .val (.int (2 : Int32)), .val (.ref k3), .val (.ref k4), .val (.ref o), .val (.ref k4)] [] hrc21 2 6 := rc31.goX fun T t ls X eT k => Jvm.RoadKit.acmp X hx rfl rfl rfl (pc0 := 99) (pc' := 102) (same := true) rfl (hb hby at_99) rfl (decide_eq_true rfl) (by decide) (by decide) k
    have rc33 : OwnW s0 n0 103 #[.val (.int x0), .val (.int (2 : Int32)), .val (.ref k3), .val (.ref k4), .val (.ref o), .val (.ref k4)] [(.int (1 : Int32))] hrc21 2 6 := rc32.go fun T t X k => XS.iconst X hx rfl (hb hby at_102) k
    have rc34 : OwnW s0 n0 107 #[.val (.int x0), .val (.int (2 : Int32)), .val (.ref k3), .val (.ref k4), .val (.ref o), .val (.ref k4)] [(.int (1 : Int32))] hrc21 2 6 := rc33.go fun T t X k => XS.goto X hx rfl (pc0 := 103) (pc' := 107) rfl (hb hby at_103) (by decide) (by decide) k
    have rc35 := rc34.retN hx hret (by simp) rfl (hb hby at_107)
    exact ⟨_, _, 2, 6, rfl, by decide, by decide, rc35⟩
  · have rd := r5
    have rd6 : OwnW s0 n0 7 #[.val (.int x0), .val (.int (3 : Int32)), .unset, .unset, .unset, .unset] [] h0 0 0 := rd.go fun T t X k => XS.istoreN X hx rfl (hb hby at_6) rfl (l' := #[.val (.int x0), .val (.int (3 : Int32)), .unset, .unset, .unset, .unset]) rfl k
    have rd7 : OwnW s0 n0 8 #[.val (.int x0), .val (.int (3 : Int32)), .unset, .unset, .unset, .unset] [(.int (3 : Int32))] h0 0 0 := rd6.go fun T t X k => XS.iloadN X hx rfl (hb hby at_7) rfl k
    have rd8 : OwnW s0 n0 20 #[.val (.int x0), .val (.int (3 : Int32)), .unset, .unset, .unset, .unset] [] h0 0 0 := rd7.go fun T t X k => XS.ifYes X hx rfl (pc0 := 8) (pc' := 20) rfl (hb hby at_8) rfl ((if0 _ _).trans (feq (by decide)).2) (by decide) (by decide) k
    have rd9 : OwnW s0 n0 21 #[.val (.int x0), .val (.int (3 : Int32)), .unset, .unset, .unset, .unset] [(.int (3 : Int32))] h0 0 0 := rd8.go fun T t X k => XS.iloadN X hx rfl (hb hby at_20) rfl k
    have rd10 : OwnW s0 n0 22 #[.val (.int x0), .val (.int (3 : Int32)), .unset, .unset, .unset, .unset] [(.int (1 : Int32)), (.int (3 : Int32))] h0 0 0 := rd9.go fun T t X k => XS.iconst X hx rfl (hb hby at_21) k
    have rd11 : OwnW s0 n0 34 #[.val (.int x0), .val (.int (3 : Int32)), .unset, .unset, .unset, .unset] [] h0 0 0 := rd10.go fun T t X k => XS.icmpYes X hx rfl (pc0 := 22) (pc' := 34) rfl (hb hby at_22) rfl (feq (by decide)).2 (by decide) (by decide) k
    have rd12 : OwnW s0 n0 35 #[.val (.int x0), .val (.int (3 : Int32)), .unset, .unset, .unset, .unset] [(.int (3 : Int32))] h0 0 0 := rd11.go fun T t X k => XS.iloadN X hx rfl (hb hby at_34) rfl k
    have rd13 : OwnW s0 n0 36 #[.val (.int x0), .val (.int (3 : Int32)), .unset, .unset, .unset, .unset] [(.int (2 : Int32)), (.int (3 : Int32))] h0 0 0 := rd12.go fun T t X k => XS.iconst X hx rfl (hb hby at_35) k
    have rd14 : OwnW s0 n0 50 #[.val (.int x0), .val (.int (3 : Int32)), .unset, .unset, .unset, .unset] [] h0 0 0 := rd13.go fun T t X k => XS.icmpYes X hx rfl (pc0 := 36) (pc' := 50) rfl (hb hby at_36) rfl (feq (by decide)).2 (by decide) (by decide) k
    have rd15 : OwnW s0 n0 51 #[.val (.int x0), .val (.int (3 : Int32)), .unset, .unset, .unset, .unset] [(.int (3 : Int32))] h0 0 0 := rd14.go fun T t X k => XS.iloadN X hx rfl (hb hby at_50) rfl k
    have rd16 : OwnW s0 n0 52 #[.val (.int x0), .val (.int (3 : Int32)), .unset, .unset, .unset, .unset] [(.int (3 : Int32)), (.int (3 : Int32))] h0 0 0 := rd15.go fun T t X k => XS.iconst X hx rfl (hb hby at_51) k
    have rd17 : OwnW s0 n0 55 #[.val (.int x0), .val (.int (3 : Int32)), .unset, .unset, .unset, .unset] [] h0 0 0 := rd16.go fun T t X k => XS.icmpNo X hx rfl (hb hby at_52) rfl (teq rfl).2 k
    have rd18 : OwnW s0 n0 58 #[.val (.int x0), .val (.int (3 : Int32)), .unset, .unset, .unset, .unset] [(.ref k4)] h0 0 0 := rd17.getS hx hZ hown (hw _ (List.mem_of_getElem? (i := 42) rfl)) En.2.2.2.2.2.2.2.2.2.1 (hb hby at_55)
    have rd19 : OwnW s0 n0 59 #[.val (.int x0), .val (.int (3 : Int32)), .val (.ref k4), .unset, .unset, .unset] [] h0 0 0 := rd18.go fun T t X k => XS.astoreN X hx rfl (hb hby at_58) rfl rfl (l' := #[.val (.int x0), .val (.int (3 : Int32)), .val (.ref k4), .unset, .unset, .unset]) rfl k
    have rd20 : OwnW s0 n0 62 #[.val (.int x0), .val (.int (3 : Int32)), .val (.ref k4), .unset, .unset, .unset] [(.ref k5)] h0 0 0 := rd19.getS hx hZ hown (hw _ (List.mem_of_getElem? (i := 43) rfl)) En.2.2.2.2.2.2.2.2.2.2.2.1 (hb hby at_59)
    have rd21 : OwnW s0 n0 63 #[.val (.int x0), .val (.int (3 : Int32)), .val (.ref k4), .val (.ref k5), .unset, .unset] [] h0 0 0 := rd20.go fun T t X k => XS.astoreN X hx rfl (hb hby at_62) rfl rfl (l' := #[.val (.int x0), .val (.int (3 : Int32)), .val (.ref k4), .val (.ref k5), .unset, .unset]) rfl k
    have rd22 : OwnW s0 n0 72 #[.val (.int x0), .val (.int (3 : Int32)), .val (.ref k4), .val (.ref k5), .unset, .unset] [] h0 0 0 := rd21.go fun T t X k => XS.goto X hx rfl (pc0 := 63) (pc' := 72) rfl (hb hby at_63) (by decide) (by decide) k
    have rd23 : OwnW s0 n0 73 #[.val (.int x0), .val (.int (3 : Int32)), .val (.ref k4), .val (.ref k5), .unset, .unset] [(.ref k4)] h0 0 0 := rd22.go fun T t X k => XS.aloadN X hx rfl (hb hby at_72) rfl rfl k
    obtain ⟨vrd24, hrd24, rd24, qrd24⟩ := rd23.callV hx hZ hown (hw _ (List.mem_of_getElem? (i := 4) rfl)) (hw _ (List.mem_of_getElem? (i := 5) rfl)) (hw _ (List.mem_of_getElem? (i := 7) rfl)) (notFace_of_selects (args := #[]) (mvT hZ (hw _ (List.mem_of_getElem? (i := 7) rfl)))) (hw _ (List.mem_of_getElem? (i := 6) rfl)) (hw _ (List.mem_of_getElem? (i := 2) rfl)) (hw _ (List.mem_of_getElem? (i := 8) rfl)) (by decide) (a := k4) (argsL := []) En.2.2.2.2.2.2.2.2.1 (own_nxt3 l Z a0 hw k4 k0 k1 k2 k3 k5 ke h0 n0 Z0 En SE XE FE) [] 0 (by decide) (by decide) (by rw [hml]; rfl) (lenOf own_pd3 rfl) rfl (Nat.le_of_eq rfl) (hb hby at_73) (by decide) (by decide)
    obtain ⟨o, rfl, Ex, Xo, Fo⟩ := qrd24
    have rd24 : OwnW s0 n0 76 #[.val (.int x0), .val (.int (3 : Int32)), .val (.ref k4), .val (.ref k5), .unset, .unset] [(.ref o)] hrd24 2 6 := rd24
    have En1 := En.ext Ex
    have rd25 : OwnW s0 n0 78 #[.val (.int x0), .val (.int (3 : Int32)), .val (.ref k4), .val (.ref k5), .val (.ref o), .unset] [] hrd24 2 6 := rd24.go fun T t X k => XS.astore X hx rfl (hb hby at_76) rfl rfl (l' := #[.val (.int x0), .val (.int (3 : Int32)), .val (.ref k4), .val (.ref k5), .val (.ref o), .unset]) rfl k
    have rd26 : OwnW s0 n0 80 #[.val (.int x0), .val (.int (3 : Int32)), .val (.ref k4), .val (.ref k5), .val (.ref o), .unset] [(.ref o)] hrd24 2 6 := rd25.go fun T t X k => XS.aload X hx rfl (hb hby at_78) rfl rfl k
    have rd27 : OwnW s0 n0 85 #[.val (.int x0), .val (.int (3 : Int32)), .val (.ref k4), .val (.ref k5), .val (.ref o), .unset] [] hrd24 2 6 := rd26.go fun T t X k => XS.ifnonnullYes X hx rfl (pc0 := 80) (pc' := 85) rfl (hb hby at_80) rfl (by decide) (by decide) k
    have rd28 : OwnW s0 n0 87 #[.val (.int x0), .val (.int (3 : Int32)), .val (.ref k4), .val (.ref k5), .val (.ref o), .unset] [(.ref o)] hrd24 2 6 := rd27.go fun T t X k => XS.aload X hx rfl (hb hby at_85) rfl rfl k
    have rd29 : OwnW s0 n0 88 #[.val (.int x0), .val (.int (3 : Int32)), .val (.ref k4), .val (.ref k5), .val (.ref o), .unset] [.null, (.ref o)] hrd24 2 6 := rd28.go fun T t X k => XS.aconstNull X hx rfl (hb hby at_87) k
    obtain ⟨vrd30, hrd30, rd30, qrd30⟩ := rd29.callV hx hZ hown (hw _ (List.mem_of_getElem? (i := 35) rfl)) (hw _ (List.mem_of_getElem? (i := 36) rfl)) (hw _ (List.mem_of_getElem? (i := 38) rfl)) (notFace_of_selects (args := #[]) (mvT hZ (hw _ (List.mem_of_getElem? (i := 38) rfl)))) (hw _ (List.mem_of_getElem? (i := 37) rfl)) (hw _ (List.mem_of_getElem? (i := 32) rfl)) (hw _ (List.mem_of_getElem? (i := 39) rfl)) (by decide) (a := o) (argsL := [.null]) Xo (own_oer l Z a0 hw o k5 hrd24 n0 Fo) [] 0 (by decide) (by decide) (by rw [hml]; rfl) (lenOf own_pd0 rfl) rfl (Nat.le_of_eq rfl) (hb hby at_88) (by decide) (by decide)
    obtain ⟨rfl, rfl⟩ := qrd30
    have rd30 : OwnW s0 n0 91 #[.val (.int x0), .val (.int (3 : Int32)), .val (.ref k4), .val (.ref k5), .val (.ref o), .unset] [(.ref k5)] hrd24 2 6 := rd30
    have rd31 : OwnW s0 n0 94 #[.val (.int x0), .val (.int (3 : Int32)), .val (.ref k4), .val (.ref k5), .val (.ref o), .unset] [(.ref k5)] hrd24 2 6 := rd30.cast hx hZ hown (hw _ (List.mem_of_getElem? (i := 60) rfl)) (Ins.self En1.2.2.2.2.2.2.2.2.2.2.1) rfl (hb hby at_91)
    have rd32 : OwnW s0 n0 96 #[.val (.int x0), .val (.int (3 : Int32)), .val (.ref k4), .val (.ref k5), .val (.ref o), .val (.ref k5)] [] hrd24 2 6 := rd31.go fun T t X k => XS.astore X hx rfl (hb hby at_94) rfl rfl (l' := #[.val (.int x0), .val (.int (3 : Int32)), .val (.ref k4), .val (.ref k5), .val (.ref o), .val (.ref k5)]) rfl k
    have rd33 : OwnW s0 n0 98 #[.val (.int x0), .val (.int (3 : Int32)), .val (.ref k4), .val (.ref k5), .val (.ref o), .val (.ref k5)] [(.ref k5)] hrd24 2 6 := rd32.go fun T t X k => XS.aload X hx rfl (hb hby at_96) rfl rfl k
    have rd34 : OwnW s0 n0 99 #[.val (.int x0), .val (.int (3 : Int32)), .val (.ref k4), .val (.ref k5), .val (.ref o), .val (.ref k5)] [(.ref k5), (.ref k5)] hrd24 2 6 := rd33.go fun T t X k => XS.aloadN X hx rfl (hb hby at_98) rfl rfl k
    have rd35 : OwnW s0 n0 102 #[.val (.int x0), .val (.int (3 : Int32)), .val (.ref k4), .val (.ref k5), .val (.ref o), .val (.ref k5)] [] hrd24 2 6 := rd34.goX fun T t ls X eT k => Jvm.RoadKit.acmp X hx rfl rfl rfl (pc0 := 99) (pc' := 102) (same := true) rfl (hb hby at_99) rfl (decide_eq_true rfl) (by decide) (by decide) k
    have rd36 : OwnW s0 n0 103 #[.val (.int x0), .val (.int (3 : Int32)), .val (.ref k4), .val (.ref k5), .val (.ref o), .val (.ref k5)] [(.int (1 : Int32))] hrd24 2 6 := rd35.go fun T t X k => XS.iconst X hx rfl (hb hby at_102) k
    have rd37 : OwnW s0 n0 107 #[.val (.int x0), .val (.int (3 : Int32)), .val (.ref k4), .val (.ref k5), .val (.ref o), .val (.ref k5)] [(.int (1 : Int32))] hrd24 2 6 := rd36.go fun T t X k => XS.goto X hx rfl (pc0 := 103) (pc' := 107) rfl (hb hby at_103) (by decide) (by decide) k
    have rd38 := rd37.retN hx hret (by simp) rfl (hb hby at_107)
    exact ⟨_, _, 2, 6, rfl, by decide, by decide, rd38⟩
  · have re := r5
    have re6 : OwnW s0 n0 7 #[.val (.int x0), .val (.int (4 : Int32)), .unset, .unset, .unset, .unset] [] h0 0 0 := re.go fun T t X k => XS.istoreN X hx rfl (hb hby at_6) rfl (l' := #[.val (.int x0), .val (.int (4 : Int32)), .unset, .unset, .unset, .unset]) rfl k
    have re7 : OwnW s0 n0 8 #[.val (.int x0), .val (.int (4 : Int32)), .unset, .unset, .unset, .unset] [(.int (4 : Int32))] h0 0 0 := re6.go fun T t X k => XS.iloadN X hx rfl (hb hby at_7) rfl k
    have re8 : OwnW s0 n0 20 #[.val (.int x0), .val (.int (4 : Int32)), .unset, .unset, .unset, .unset] [] h0 0 0 := re7.go fun T t X k => XS.ifYes X hx rfl (pc0 := 8) (pc' := 20) rfl (hb hby at_8) rfl ((if0 _ _).trans (feq (by decide)).2) (by decide) (by decide) k
    have re9 : OwnW s0 n0 21 #[.val (.int x0), .val (.int (4 : Int32)), .unset, .unset, .unset, .unset] [(.int (4 : Int32))] h0 0 0 := re8.go fun T t X k => XS.iloadN X hx rfl (hb hby at_20) rfl k
    have re10 : OwnW s0 n0 22 #[.val (.int x0), .val (.int (4 : Int32)), .unset, .unset, .unset, .unset] [(.int (1 : Int32)), (.int (4 : Int32))] h0 0 0 := re9.go fun T t X k => XS.iconst X hx rfl (hb hby at_21) k
    have re11 : OwnW s0 n0 34 #[.val (.int x0), .val (.int (4 : Int32)), .unset, .unset, .unset, .unset] [] h0 0 0 := re10.go fun T t X k => XS.icmpYes X hx rfl (pc0 := 22) (pc' := 34) rfl (hb hby at_22) rfl (feq (by decide)).2 (by decide) (by decide) k
    have re12 : OwnW s0 n0 35 #[.val (.int x0), .val (.int (4 : Int32)), .unset, .unset, .unset, .unset] [(.int (4 : Int32))] h0 0 0 := re11.go fun T t X k => XS.iloadN X hx rfl (hb hby at_34) rfl k
    have re13 : OwnW s0 n0 36 #[.val (.int x0), .val (.int (4 : Int32)), .unset, .unset, .unset, .unset] [(.int (2 : Int32)), (.int (4 : Int32))] h0 0 0 := re12.go fun T t X k => XS.iconst X hx rfl (hb hby at_35) k
    have re14 : OwnW s0 n0 50 #[.val (.int x0), .val (.int (4 : Int32)), .unset, .unset, .unset, .unset] [] h0 0 0 := re13.go fun T t X k => XS.icmpYes X hx rfl (pc0 := 36) (pc' := 50) rfl (hb hby at_36) rfl (feq (by decide)).2 (by decide) (by decide) k
    have re15 : OwnW s0 n0 51 #[.val (.int x0), .val (.int (4 : Int32)), .unset, .unset, .unset, .unset] [(.int (4 : Int32))] h0 0 0 := re14.go fun T t X k => XS.iloadN X hx rfl (hb hby at_50) rfl k
    have re16 : OwnW s0 n0 52 #[.val (.int x0), .val (.int (4 : Int32)), .unset, .unset, .unset, .unset] [(.int (3 : Int32)), (.int (4 : Int32))] h0 0 0 := re15.go fun T t X k => XS.iconst X hx rfl (hb hby at_51) k
    have re17 : OwnW s0 n0 66 #[.val (.int x0), .val (.int (4 : Int32)), .unset, .unset, .unset, .unset] [] h0 0 0 := re16.go fun T t X k => XS.icmpYes X hx rfl (pc0 := 52) (pc' := 66) rfl (hb hby at_52) rfl (feq (by decide)).2 (by decide) (by decide) k
    have re18 : OwnW s0 n0 69 #[.val (.int x0), .val (.int (4 : Int32)), .unset, .unset, .unset, .unset] [(.ref k5)] h0 0 0 := re17.getS hx hZ hown (hw _ (List.mem_of_getElem? (i := 43) rfl)) En.2.2.2.2.2.2.2.2.2.2.2.1 (hb hby at_66)
    have re19 : OwnW s0 n0 70 #[.val (.int x0), .val (.int (4 : Int32)), .val (.ref k5), .unset, .unset, .unset] [] h0 0 0 := re18.go fun T t X k => XS.astoreN X hx rfl (hb hby at_69) rfl rfl (l' := #[.val (.int x0), .val (.int (4 : Int32)), .val (.ref k5), .unset, .unset, .unset]) rfl k
    have re20 : OwnW s0 n0 71 #[.val (.int x0), .val (.int (4 : Int32)), .val (.ref k5), .unset, .unset, .unset] [.null] h0 0 0 := re19.go fun T t X k => XS.aconstNull X hx rfl (hb hby at_70) k
    have re21 : OwnW s0 n0 72 #[.val (.int x0), .val (.int (4 : Int32)), .val (.ref k5), .val .null, .unset, .unset] [] h0 0 0 := re20.go fun T t X k => XS.astoreN X hx rfl (hb hby at_71) rfl rfl (l' := #[.val (.int x0), .val (.int (4 : Int32)), .val (.ref k5), .val .null, .unset, .unset]) rfl k
    have re22 : OwnW s0 n0 73 #[.val (.int x0), .val (.int (4 : Int32)), .val (.ref k5), .val .null, .unset, .unset] [(.ref k5)] h0 0 0 := re21.go fun T t X k => XS.aloadN X hx rfl (hb hby at_72) rfl rfl k
    obtain ⟨vre23, hre23, re23, qre23⟩ := re22.callV hx hZ hown (hw _ (List.mem_of_getElem? (i := 4) rfl)) (hw _ (List.mem_of_getElem? (i := 5) rfl)) (hw _ (List.mem_of_getElem? (i := 7) rfl)) (notFace_of_selects (args := #[]) (mvT hZ (hw _ (List.mem_of_getElem? (i := 7) rfl)))) (hw _ (List.mem_of_getElem? (i := 6) rfl)) (hw _ (List.mem_of_getElem? (i := 2) rfl)) (hw _ (List.mem_of_getElem? (i := 8) rfl)) (by decide) (a := k5) (argsL := []) En.2.2.2.2.2.2.2.2.2.2.1 (own_nxt4 l Z a0 hw k5 k0 k1 k2 k3 k4 ke h0 n0 Z0 En SE XE FE) [] 0 (by decide) (by decide) (by rw [hml]; rfl) (lenOf own_pd3 rfl) rfl (Nat.le_of_eq rfl) (hb hby at_73) (by decide) (by decide)
    obtain ⟨o, rfl, Ex, Xo, Fo⟩ := qre23
    have re23 : OwnW s0 n0 76 #[.val (.int x0), .val (.int (4 : Int32)), .val (.ref k5), .val .null, .unset, .unset] [(.ref o)] hre23 2 6 := re23
    have En1 := En.ext Ex
    have re24 : OwnW s0 n0 78 #[.val (.int x0), .val (.int (4 : Int32)), .val (.ref k5), .val .null, .val (.ref o), .unset] [] hre23 2 6 := re23.go fun T t X k => XS.astore X hx rfl (hb hby at_76) rfl rfl (l' := #[.val (.int x0), .val (.int (4 : Int32)), .val (.ref k5), .val .null, .val (.ref o), .unset]) rfl k
    have re25 : OwnW s0 n0 80 #[.val (.int x0), .val (.int (4 : Int32)), .val (.ref k5), .val .null, .val (.ref o), .unset] [(.ref o)] hre23 2 6 := re24.go fun T t X k => XS.aload X hx rfl (hb hby at_78) rfl rfl k
    have re26 : OwnW s0 n0 85 #[.val (.int x0), .val (.int (4 : Int32)), .val (.ref k5), .val .null, .val (.ref o), .unset] [] hre23 2 6 := re25.go fun T t X k => XS.ifnonnullYes X hx rfl (pc0 := 80) (pc' := 85) rfl (hb hby at_80) rfl (by decide) (by decide) k
    have re27 : OwnW s0 n0 87 #[.val (.int x0), .val (.int (4 : Int32)), .val (.ref k5), .val .null, .val (.ref o), .unset] [(.ref o)] hre23 2 6 := re26.go fun T t X k => XS.aload X hx rfl (hb hby at_85) rfl rfl k
    have re28 : OwnW s0 n0 88 #[.val (.int x0), .val (.int (4 : Int32)), .val (.ref k5), .val .null, .val (.ref o), .unset] [.null, (.ref o)] hre23 2 6 := re27.go fun T t X k => XS.aconstNull X hx rfl (hb hby at_87) k
    obtain ⟨vre29, hre29, re29, qre29⟩ := re28.callV hx hZ hown (hw _ (List.mem_of_getElem? (i := 35) rfl)) (hw _ (List.mem_of_getElem? (i := 36) rfl)) (hw _ (List.mem_of_getElem? (i := 38) rfl)) (notFace_of_selects (args := #[]) (mvT hZ (hw _ (List.mem_of_getElem? (i := 38) rfl)))) (hw _ (List.mem_of_getElem? (i := 37) rfl)) (hw _ (List.mem_of_getElem? (i := 32) rfl)) (hw _ (List.mem_of_getElem? (i := 39) rfl)) (by decide) (a := o) (argsL := [.null]) Xo (own_oen l Z a0 hw o hre23 n0 Fo) [] 0 (by decide) (by decide) (by rw [hml]; rfl) (lenOf own_pd0 rfl) rfl (Nat.le_of_eq rfl) (hb hby at_88) (by decide) (by decide)
    obtain ⟨rfl, rfl⟩ := qre29
    have re29 : OwnW s0 n0 91 #[.val (.int x0), .val (.int (4 : Int32)), .val (.ref k5), .val .null, .val (.ref o), .unset] [.null] hre23 2 6 := re29
    have re30 : OwnW s0 n0 94 #[.val (.int x0), .val (.int (4 : Int32)), .val (.ref k5), .val .null, .val (.ref o), .unset] [.null] hre23 2 6 := re29.castN hx rfl (hb hby at_91)
    have re31 : OwnW s0 n0 96 #[.val (.int x0), .val (.int (4 : Int32)), .val (.ref k5), .val .null, .val (.ref o), .val .null] [] hre23 2 6 := re30.go fun T t X k => XS.astore X hx rfl (hb hby at_94) rfl rfl (l' := #[.val (.int x0), .val (.int (4 : Int32)), .val (.ref k5), .val .null, .val (.ref o), .val .null]) rfl k
    have re32 : OwnW s0 n0 98 #[.val (.int x0), .val (.int (4 : Int32)), .val (.ref k5), .val .null, .val (.ref o), .val .null] [.null] hre23 2 6 := re31.go fun T t X k => XS.aload X hx rfl (hb hby at_96) rfl rfl k
    have re33 : OwnW s0 n0 99 #[.val (.int x0), .val (.int (4 : Int32)), .val (.ref k5), .val .null, .val (.ref o), .val .null] [.null, .null] hre23 2 6 := re32.go fun T t X k => XS.aloadN X hx rfl (hb hby at_98) rfl rfl k
    have re34 : OwnW s0 n0 102 #[.val (.int x0), .val (.int (4 : Int32)), .val (.ref k5), .val .null, .val (.ref o), .val .null] [] hre23 2 6 := re33.goX fun T t ls X eT k => Jvm.RoadKit.acmp X hx rfl rfl rfl (pc0 := 99) (pc' := 102) (same := true) rfl (hb hby at_99) rfl (decide_eq_true rfl) (by decide) (by decide) k
    have re35 : OwnW s0 n0 103 #[.val (.int x0), .val (.int (4 : Int32)), .val (.ref k5), .val .null, .val (.ref o), .val .null] [(.int (1 : Int32))] hre23 2 6 := re34.go fun T t X k => XS.iconst X hx rfl (hb hby at_102) k
    have re36 : OwnW s0 n0 107 #[.val (.int x0), .val (.int (4 : Int32)), .val (.ref k5), .val .null, .val (.ref o), .val .null] [(.int (1 : Int32))] hre23 2 6 := re35.go fun T t X k => XS.goto X hx rfl (pc0 := 103) (pc' := 107) rfl (hb hby at_103) (by decide) (by decide) k
    have re37 := re36.retN hx hret (by simp) rfl (hb hby at_107)
    exact ⟨_, _, 2, 6, rfl, by decide, by decide, re37⟩
set_option maxRecDepth 65536 in
set_option maxHeartbeats 40000000 in
theorem comes_1 {Post : Tables → Env → Array Value → State → Outcome → State → Prop} (hpost : ∀ tb e args s v u, (limb_1_1.after args s (.returned v) u = true ∧ limb_1_2.after args s (.returned v) u = true ∧ True) → FrameEnd s (.returned v) u (Jvm.fieldLocs frame_1_writes args s ++ Jvm.arrayLocs frame_1_arrays args s ++ Jvm.staticLocs frame_1_statics s) 16 128 → Post tb e args s (.returned v) u) :
    ArmFor flags0 classFile x code maxLocals ret World_1 tables_1 room_1 Calls_1 rest_1 Pre_1 Post := by
  intro l hfl _ _ p e ha hc hk s m args below hf hA hF happ hP
  obtain ⟨hcalls, hrest, hpre⟩ := hP
  obtain ⟨-, -, -, hnamed, -, -, -, hat⟩ := (Spec.applies_iff hf).mp happ
  obtain ⟨hg, hn⟩ := and_e (Cond.before_iff.mp (show (Jvm.Cond.and given_1 narrow_1).before args s = true from hpre))
  obtain ⟨g0, t0⟩ := and_e hg
  obtain ⟨w0, rfl⟩ : ∃ w0 : Value, args = #[w0] := by
    have hs : args.size = 1 := by simpa [Cond.value, given_1] using g0
    obtain ⟨L⟩ := args
    match L, hs with
    | [w0], _ => exact ⟨w0, rfl⟩
  have hw := fun d (hd : d ∈ tables_1) => atoms_spec (ws := Jvm.Cond.code x code maxLocals ret :: tables_1) hat d (List.mem_cons_of_mem _ hd)
  have hfit : Fit s := fun {y c} hc i hi => by
    obtain ⟨ha, rfl⟩ := Array.getElem?_eq_some_iff.mp hc
    have q := List.all_eq_true.mp ((Array.all_eq_true_iff_forall_mem.mp hF) _ (Array.getElem_mem ha)) i (List.mem_range.mpr hi)
    simpa [Array.getElem?_eq_getElem hi] using q
  obtain ⟨i0, e0⟩ := is_v t0
  obtain rfl : w0 = (.int i0) := Option.some.inj e0
  obtain ⟨n0, hn0⟩ := and_e hn
  obtain ⟨n1, hn1⟩ := and_e hn0
  obtain ⟨n2, hn2⟩ := and_e hn1
  obtain ⟨n3, hn3⟩ := and_e hn2
  obtain ⟨n4, hn4⟩ := and_e hn3
  obtain ⟨n5, hn5⟩ := and_e hn4
  obtain ⟨n6, hn6⟩ := and_e hn5
  obtain ⟨n7, hn7⟩ := and_e hn6
  obtain ⟨n8, hn8⟩ := and_e hn7
  obtain ⟨n9, hn9⟩ := and_e hn8
  obtain ⟨n10, hn10⟩ := and_e hn9
  obtain ⟨n11, hn11⟩ := and_e hn10
  obtain ⟨n12, hn12⟩ := and_e hn11
  obtain ⟨n13, hn13⟩ := and_e hn12
  obtain ⟨n14, hn14⟩ := and_e hn13
  obtain ⟨n15, hn15⟩ := and_e hn14
  obtain ⟨n16, hn16⟩ := and_e hn15
  obtain ⟨n17, hn17⟩ := and_e hn16
  obtain ⟨n18, hn18⟩ := and_e hn17
  obtain ⟨n19, hn19⟩ := and_e hn18
  obtain ⟨n20, hn20⟩ := and_e hn19
  obtain ⟨n21, hn21⟩ := and_e hn20
  have n22 := hn21
  obtain ⟨k0, ek0⟩ := exa_v n0
  have Xk0 : Exa s s.heap k0 "com/example/ample_proof/ampleproof/disputes/DisputePhase" := Exa.start ek0 n0
  have Sk0 : Sta s s.heap "com/example/ample_proof/ampleproof/disputes/DisputePhase" "FRAUD" "Lcom/example/ample_proof/ampleproof/disputes/DisputePhase;" (.ref k0) := Sta.start ek0 (Or.inr ⟨(hw _ (List.mem_of_getElem? (i := 2) rfl)), (hw _ (List.mem_of_getElem? (i := 3) rfl))⟩)
  obtain ⟨k1, ek1⟩ := exa_v n2
  have Xk1 : Exa s s.heap k1 "[Lcom/example/ample_proof/ampleproof/disputes/DisputePhase;" := Exa.start ek1 n2
  have Sk1 : Sta s s.heap "com/example/ample_proof/ampleproof/disputes/DisputePhase" "$VALUES" "[Lcom/example/ample_proof/ampleproof/disputes/DisputePhase;" (.ref k1) := Sta.start ek1 (Or.inl (hw _ (List.mem_of_getElem? (i := 25) rfl)))
  obtain ⟨k2, ek2⟩ := exa_v n5
  have Xk2 : Exa s s.heap k2 "com/example/ample_proof/ampleproof/disputes/DisputePhase" := Exa.start ek2 n5
  have Sk2 : Sta s s.heap "com/example/ample_proof/ampleproof/disputes/DisputePhase" "RETRIEVAL" "Lcom/example/ample_proof/ampleproof/disputes/DisputePhase;" (.ref k2) := Sta.start ek2 (Or.inr ⟨(hw _ (List.mem_of_getElem? (i := 2) rfl)), (hw _ (List.mem_of_getElem? (i := 21) rfl))⟩)
  obtain ⟨k3, ek3⟩ := exa_v n7
  have Xk3 : Exa s s.heap k3 "com/example/ample_proof/ampleproof/disputes/DisputePhase" := Exa.start ek3 n7
  have Sk3 : Sta s s.heap "com/example/ample_proof/ampleproof/disputes/DisputePhase" "CHARGEBACK" "Lcom/example/ample_proof/ampleproof/disputes/DisputePhase;" (.ref k3) := Sta.start ek3 (Or.inr ⟨(hw _ (List.mem_of_getElem? (i := 2) rfl)), (hw _ (List.mem_of_getElem? (i := 22) rfl))⟩)
  obtain ⟨k4, ek4⟩ := exa_v n9
  have Xk4 : Exa s s.heap k4 "com/example/ample_proof/ampleproof/disputes/DisputePhase" := Exa.start ek4 n9
  have Sk4 : Sta s s.heap "com/example/ample_proof/ampleproof/disputes/DisputePhase" "PRE_ARBITRATION" "Lcom/example/ample_proof/ampleproof/disputes/DisputePhase;" (.ref k4) := Sta.start ek4 (Or.inr ⟨(hw _ (List.mem_of_getElem? (i := 2) rfl)), (hw _ (List.mem_of_getElem? (i := 23) rfl))⟩)
  obtain ⟨k5, ek5⟩ := exa_v n11
  have Xk5 : Exa s s.heap k5 "com/example/ample_proof/ampleproof/disputes/DisputePhase" := Exa.start ek5 n11
  have Sk5 : Sta s s.heap "com/example/ample_proof/ampleproof/disputes/DisputePhase" "ARBITRATION" "Lcom/example/ample_proof/ampleproof/disputes/DisputePhase;" (.ref k5) := Sta.start ek5 (Or.inr ⟨(hw _ (List.mem_of_getElem? (i := 2) rfl)), (hw _ (List.mem_of_getElem? (i := 24) rfl))⟩)
  obtain ⟨clk1, Ak1⟩ := Arr.start ek1 n1
  have zk1 := own_len ek1 (Ak1.fin (Vm.Alike.refl _)) (own_eqv (Or.inr (Or.inr ⟨_, rfl⟩)) (Term.int_eval _) n3)
  have vk1_0 : clk1.slots[0]? = some (.ref k0) := (elem_in (own_eqv (Or.inr (Or.inl ⟨_, rfl⟩)) ek0 n4) ek1 (Term.int_eval _) Ak1.1).2
  have vk1_1 : clk1.slots[1]? = some (.ref k2) := (elem_in (own_eqv (Or.inr (Or.inl ⟨_, rfl⟩)) ek2 n6) ek1 (Term.int_eval _) Ak1.1).2
  have vk1_2 : clk1.slots[2]? = some (.ref k3) := (elem_in (own_eqv (Or.inr (Or.inl ⟨_, rfl⟩)) ek3 n8) ek1 (Term.int_eval _) Ak1.1).2
  have vk1_3 : clk1.slots[3]? = some (.ref k4) := (elem_in (own_eqv (Or.inr (Or.inl ⟨_, rfl⟩)) ek4 n10) ek1 (Term.int_eval _) Ak1.1).2
  have vk1_4 : clk1.slots[4]? = some (.ref k5) := (elem_in (own_eqv (Or.inr (Or.inl ⟨_, rfl⟩)) ek5 n12) ek1 (Term.int_eval _) Ak1.1).2
  have Fk0_escalatedFrom : Fld s s.heap k0 "com/example/ample_proof/ampleproof/disputes/DisputePhase" "escalatedFrom" "Lcom/example/ample_proof/ampleproof/disputes/DisputePhase;" .null := Fld.start ((fld_at ek0).symm.trans (own_eqv (Or.inl rfl) null_at n13))
  have Fk2_escalatedFrom : Fld s s.heap k2 "com/example/ample_proof/ampleproof/disputes/DisputePhase" "escalatedFrom" "Lcom/example/ample_proof/ampleproof/disputes/DisputePhase;" .null := Fld.start ((fld_at ek2).symm.trans (own_eqv (Or.inl rfl) null_at n14))
  have Fk3_escalatedFrom : Fld s s.heap k3 "com/example/ample_proof/ampleproof/disputes/DisputePhase" "escalatedFrom" "Lcom/example/ample_proof/ampleproof/disputes/DisputePhase;" .null := Fld.start ((fld_at ek3).symm.trans (own_eqv (Or.inl rfl) null_at n15))
  have Fk4_escalatedFrom : Fld s s.heap k4 "com/example/ample_proof/ampleproof/disputes/DisputePhase" "escalatedFrom" "Lcom/example/ample_proof/ampleproof/disputes/DisputePhase;" (.ref k3) := Fld.start ((fld_at ek4).symm.trans (own_eqv (Or.inr (Or.inl ⟨_, rfl⟩)) ek3 n16))
  have Fk3_ordinal : Fld s s.heap k3 "java/lang/Enum" "ordinal" "I" (.int (2 : Int32)) := Fld.start ((fld_at ek3).symm.trans (own_eqv (Or.inr (Or.inr ⟨_, rfl⟩)) (Term.int_eval _) n17))
  have Fk0_ordinal : Fld s s.heap k0 "java/lang/Enum" "ordinal" "I" (.int (0 : Int32)) := Fld.start ((fld_at ek0).symm.trans (own_eqv (Or.inr (Or.inr ⟨_, rfl⟩)) (Term.int_eval _) n18))
  have Fk5_escalatedFrom : Fld s s.heap k5 "com/example/ample_proof/ampleproof/disputes/DisputePhase" "escalatedFrom" "Lcom/example/ample_proof/ampleproof/disputes/DisputePhase;" (.ref k4) := Fld.start ((fld_at ek5).symm.trans (own_eqv (Or.inr (Or.inl ⟨_, rfl⟩)) ek4 n19))
  have Fk4_ordinal : Fld s s.heap k4 "java/lang/Enum" "ordinal" "I" (.int (3 : Int32)) := Fld.start ((fld_at ek4).symm.trans (own_eqv (Or.inr (Or.inr ⟨_, rfl⟩)) (Term.int_eval _) n20))
  have Fk2_ordinal : Fld s s.heap k2 "java/lang/Enum" "ordinal" "I" (.int (1 : Int32)) := Fld.start ((fld_at ek2).symm.trans (own_eqv (Or.inr (Or.inr ⟨_, rfl⟩)) (Term.int_eval _) n21))
  have Fk5_ordinal : Fld s s.heap k5 "java/lang/Enum" "ordinal" "I" (.int (4 : Int32)) := Fld.start ((fld_at ek5).symm.trans (own_eqv (Or.inr (Or.inr ⟨_, rfl⟩)) (Term.int_eval _) n22))
  have Vk1 : OwnAr s s.heap k1 (Jvm.ClassFile.FieldType.object "com/example/ample_proof/ampleproof/disputes/DisputePhase") [(.ref k0), (.ref k2), (.ref k3), (.ref k4), (.ref k5)] := ⟨clk1, Ak1, own_list zk1 (fun i hi => match i, hi with | 0, _ => vk1_0 | 1, _ => vk1_1 | 2, _ => vk1_2 | 3, _ => vk1_3 | 4, _ => vk1_4 | i + 5, hi => absurd hi (by simp))⟩
  have En : OwnEn s s.heap k0 k1 k2 k3 k4 k5 := ⟨Xk0, Sk0, Xk1, Sk1, Xk2, Sk2, Xk3, Sk3, Xk4, Sk4, Xk5, Sk5, Fk0_escalatedFrom, Fk2_escalatedFrom, Fk3_escalatedFrom, Fk4_escalatedFrom, Fk3_ordinal, Fk0_ordinal, Fk5_escalatedFrom, Fk4_ordinal, Fk2_ordinal, Fk5_ordinal, Vk1⟩
  have hst := (atoms_of jdkStatics_1 (show (jdkStatics_1.foldr Jvm.Cond.and restOwn_1).before _ s = true from by rw [← rest_1_c_eq]; exact hrest)).1
  obtain ⟨ke, eke⟩ := exa_v (Cond.before_iff.mp (hst _ (List.mem_of_getElem? (i := 2) rfl)))
  have XE : Exa s s.heap ke "java/util/Optional" := Exa.start eke (Cond.before_iff.mp (hst _ (List.mem_of_getElem? (i := 2) rfl)))
  have SE : Sta s s.heap "java/util/Optional" "EMPTY" "Ljava/util/Optional;" (.ref ke) := Sta.start eke (Or.inl (hst _ (List.mem_of_getElem? (i := 1) rfl)))
  have FE : Fld s s.heap ke "java/util/Optional" "value" "Ljava/lang/Object;" .null := Fld.start ((fld_at eke).symm.trans (null_v (Cond.before_iff.mp (hst _ (List.mem_of_getElem? (i := 3) rfl)))))
  obtain ⟨n, o, h1, h2, h3, _, L, rfl, ⟨N, rfl⟩, hq⟩ := own_law l s _ hw i0 k0 k1 k2 k3 k4 k5 ke s.heap s.heap.size (Nat.le_refl _) En SE XE FE tables_1 p e ha hc hk s m _ below hf ((Spec.applies_iff_loose hf).mp happ).1 ⟨rfl, State.Warmed39.refl s, rfl⟩ trivial
  refine ⟨n, _, h1, h2, h3, hpost _ _ _ _ _ _ ⟨Cond.after_iff.mpr rfl, Cond.after_iff.mpr (eq_i res_at (Term.int_eval (1)) rfl), trivial⟩ ⟨hq.1, hq.2.1, (hq.2.2.sift fun y hy => Or.inr (N y hy)).mono (by decide) (by decide)⟩⟩
theorem main_1_1 : Claimed_1_1 := comes_1 fun _ _ _ _ _ _ h hF => ⟨h.1, hF⟩
theorem main_1_2 : Claimed_1_2 := comes_1 fun _ _ _ _ _ _ h hF => ⟨h.2.1, hF⟩
end Jvm.Pilot.@@N@@
namespace Jvm.Pilot.@@N@@
open Jvm Jvm.ClassFile Sem Op Lib Jvm.Free Jvm.Stand Jvm.Pilot.@@N@@.Jvm.D
/-! MADE BY PROGRAM (witnessworld.py) out of the Statement's table words and the real class files: 15 classes; the members and pool entries that the words name. The judged class is class 1, her method 1. -/
namespace start1
open Jvm.ClassFile
def u (s : String) : CpInfo := .utf8 (stringToUtf16 s)
/-- a pool by its gaps: so many unusable entries, then the entry; so many at the end -/
def gap : Nat → List CpInfo → List CpInfo
  | 0, r => r
  | n + 1, r => .unusable :: gap n r
def poolList (es : List (Nat × CpInfo)) (last : Nat) : List CpInfo := es.foldr (fun e r => gap e.1 (e.2 :: r)) (gap last [])
def pool (es : List (Nat × CpInfo)) (last : Nat) : Array CpInfo := ⟨poolList es last⟩
def fileOf (pool : Array CpInfo) (this : Nat) (attrs : Array Attribute := #[]) (ms : Array MethodInfo := #[]) (fl : Nat := 33) (sup : Nat := 0) (ifs : Array Nat := #[]) (fds : Array FieldInfo := #[]) : ClassFile where
  minorVersion := 0
  majorVersion := 65
  constantPool := pool
  accessFlags := fl
  thisClass := this
  superClass := sup
  interfaces := ifs
  fields := fds
  methods := ms
  attributes := attrs
def plain (name : String) (sup : Option ClassId) : Class where
  name := name
  kind := .ordinary
  loader := none
  accessFlags := 33
  super := sup
  interfaces := #[]
  cf := none
  fields := #[]
  methods := #[]
  instanceTypes := #[]
  staticTypes := #[]
  resolved := #[]
  callSites := []
  init := .initialized
  statics := none
  mirror := none

def pool0 : Array CpInfo := pool [(5, u "<init>"), (0, u "()V"), (1, .class_ 10), (1, u "java/lang/Object"), (85, u "clone"), (0, u "()Ljava/lang/Object;")] 26

def k0c0 : Code := { maxStack := 0, maxLocals := 1, code := object_method_1_code, exceptionTable := #[], attributes := #[] }
def k0m0 : Method := { name := "<init>", desc := "()V", sig := { parameters := [], returnType := none }, accessFlags := 1, code := some k0c0 }
def k0m1 : Method := { name := "clone", desc := "()Ljava/lang/Object;", sig := { parameters := [], returnType := some (.object "java/lang/Object") }, accessFlags := 260, code := none }
/-- java/lang/Object -/
def k0 : Class := { plain "java/lang/Object" none with
  accessFlags := 33
  interfaces := #[]
  cf := some (fileOf pool0 8 #[] #[{ accessFlags := 1, nameIndex := 5, descriptorIndex := 6, attributes := #[] }, { accessFlags := 260, nameIndex := 96, descriptorIndex := 97, attributes := #[] }] 33 0 #[] #[])
  fields := #[]
  methods := #[k0m0, k0m1]
  instanceTypes := #[]
  staticTypes := #[]
  resolved := Array.replicate 124 none
  statics := none }

def pool1 : Array CpInfo := pool [(2, .class_ 4), (1, u "java/lang/Object"), (0, u "<init>"), (0, u "()V"), (0, .integer 2147483647), (0, .fieldref 9 10), (0, .class_ 11), (0, .nameAndType 12 13), (0, u "com/example/ample_proof/ampleproof/disputes/DisputePhase"), (0, u "FRAUD"), (0, u "Lcom/example/ample_proof/ampleproof/disputes/DisputePhase;"), (0, .fieldref 9 15), (0, .nameAndType 16 13), (0, u "RETRIEVAL"), (0, .fieldref 9 18), (0, .nameAndType 19 13), (0, u "CHARGEBACK"), (0, .fieldref 9 21), (0, .nameAndType 22 13), (0, u "PRE_ARBITRATION"), (0, .fieldref 9 24), (0, .nameAndType 25 13), (0, u "ARBITRATION"), (0, .methodref 9 27), (0, .nameAndType 28 29), (0, u "next"), (0, u "()Ljava/util/Optional;"), (0, .methodref 31 32), (0, .class_ 33), (0, .nameAndType 34 35), (0, u "java/util/Optional"), (0, u "orElse"), (0, u "(Ljava/lang/Object;)Ljava/lang/Object;"), (0, .class_ 37), (0, u "com/example/ample_proof/ampleproof/disputes/DisputePhaseNextPinLaw"), (2, u "law"), (0, u "(I)Z")] 3

def k1m0 : Method := { name := "<init>", desc := "()V", sig := { parameters := [], returnType := none }, accessFlags := 1, code := none }
def k1c1 : Code := { maxStack := 2, maxLocals := 6, code := code, exceptionTable := #[], attributes := #[] }
def k1m1 : Method := { name := "law", desc := "(I)Z", sig := { parameters := [.int], returnType := some .boolean }, accessFlags := 9, code := some k1c1 }
/-- com/example/ample_proof/ampleproof/disputes/DisputePhaseNextPinLaw -/
def k1 : Class := { plain "com/example/ample_proof/ampleproof/disputes/DisputePhaseNextPinLaw" (some 0) with
  accessFlags := 49
  interfaces := #[]
  cf := some (fileOf pool1 36 #[] #[{ accessFlags := 1, nameIndex := 5, descriptorIndex := 6, attributes := #[] }, { accessFlags := 9, nameIndex := 40, descriptorIndex := 41, attributes := #[] }] 49 2 #[] #[])
  fields := #[]
  methods := #[k1m0, k1m1]
  instanceTypes := #[]
  staticTypes := #[]
  resolved := Array.replicate 45 none
  statics := none }

def pool2 : Array CpInfo := pool [(1, .class_ 2), (0, u "java/lang/constant/Constable"), (0, .class_ 4), (0, u "java/lang/Object")] 6

/-- java/lang/constant/Constable -/
def k2 : Class := { plain "java/lang/constant/Constable" (some 0) with
  accessFlags := 1537
  interfaces := #[]
  cf := some (fileOf pool2 1 #[] #[] 1537 3 #[] #[])
  fields := #[]
  methods := #[]
  instanceTypes := #[]
  staticTypes := #[]
  resolved := Array.replicate 11 none
  statics := none }

def pool3 : Array CpInfo := pool [(1, .class_ 2), (0, u "java/lang/Comparable"), (0, .class_ 4), (0, u "java/lang/Object")] 7

/-- java/lang/Comparable -/
def k3 : Class := { plain "java/lang/Comparable" (some 0) with
  accessFlags := 1537
  interfaces := #[]
  cf := some (fileOf pool3 1 #[] #[] 1537 3 #[] #[])
  fields := #[]
  methods := #[]
  instanceTypes := #[]
  staticTypes := #[]
  resolved := Array.replicate 12 none
  statics := none }

def pool4 : Array CpInfo := pool [(1, .class_ 2), (0, u "java/io/Serializable"), (0, .class_ 4), (0, u "java/lang/Object")] 2

/-- java/io/Serializable -/
def k4 : Class := { plain "java/io/Serializable" (some 0) with
  accessFlags := 1537
  interfaces := #[]
  cf := some (fileOf pool4 1 #[] #[] 1537 3 #[] #[])
  fields := #[]
  methods := #[]
  instanceTypes := #[]
  staticTypes := #[]
  resolved := Array.replicate 7 none
  statics := none }

def pool5 : Array CpInfo := pool [(2, .class_ 4), (1, u "java/lang/Enum"), (0, u "name"), (0, u "Ljava/lang/String;"), (2, u "ordinal"), (0, u "I"), (1, .class_ 14), (1, u "java/lang/Object"), (4, u "hash"), (86, .class_ 108), (1, u "java/lang/Enum$EnumDesc"), (2, .class_ 112), (0, u "java/lang/constant/Constable"), (0, .class_ 114), (0, u "java/lang/Comparable"), (0, .class_ 116), (0, u "java/io/Serializable")] 87

/-- java/lang/Enum -/
def k5 : Class := { plain "java/lang/Enum" (some 0) with
  accessFlags := 1057
  interfaces := #[2, 3, 4]
  cf := some (fileOf pool5 2 #[.nestMembers #[106]] #[] 1057 12 #[111, 113, 115] #[{ accessFlags := 18, nameIndex := 5, descriptorIndex := 6, attributes := #[] }, { accessFlags := 18, nameIndex := 9, descriptorIndex := 10, attributes := #[] }, { accessFlags := 2, nameIndex := 19, descriptorIndex := 10, attributes := #[] }])
  fields := #[{ name := "name", type := (.object "java/lang/String"), accessFlags := 18, slot := 0, constantValue := 0 }, { name := "ordinal", type := .int, accessFlags := 18, slot := 1, constantValue := 0 }, { name := "hash", type := .int, accessFlags := 2, slot := 2, constantValue := 0 }]
  methods := #[]
  instanceTypes := #[(.object "java/lang/String"), .int, .int]
  staticTypes := #[]
  resolved := Array.replicate 204 none
  statics := none }

def pool6 : Array CpInfo := pool [(1, .class_ 2), (0, u "com/example/ample_proof/ampleproof/disputes/DisputePhase"), (2, u "FRAUD"), (0, u "Lcom/example/ample_proof/ampleproof/disputes/DisputePhase;"), (2, u "RETRIEVAL"), (2, u "CHARGEBACK"), (2, u "PRE_ARBITRATION"), (2, u "ARBITRATION"), (0, .fieldref 1 20), (0, .nameAndType 21 22), (0, u "$VALUES"), (0, u "[Lcom/example/ample_proof/ampleproof/disputes/DisputePhase;"), (0, .methodref 24 25), (0, .class_ 22), (0, .nameAndType 26 27), (0, u "clone"), (0, u "()Ljava/lang/Object;"), (1, .class_ 31), (1, u "java/lang/Enum"), (6, .fieldref 1 39), (0, .nameAndType 40 6), (0, u "escalatedFrom"), (0, .methodref 1 42), (0, .nameAndType 43 44), (0, u "values"), (0, u "()[Lcom/example/ample_proof/ampleproof/disputes/DisputePhase;"), (0, .methodref 46 47), (0, .class_ 48), (0, .nameAndType 49 50), (0, u "java/util/Optional"), (0, u "of"), (0, u "(Ljava/lang/Object;)Ljava/util/Optional;"), (0, .methodref 46 52), (0, .nameAndType 53 54), (0, u "empty"), (0, u "()Ljava/util/Optional;"), (17, u "next")] 7

def k6c0 : Code := { maxStack := 1, maxLocals := 0, code := prog_8_method_1_code, exceptionTable := #[], attributes := #[] }
def k6m0 : Method := { name := "values", desc := "()[Lcom/example/ample_proof/ampleproof/disputes/DisputePhase;", sig := { parameters := [], returnType := some (.array (.object "com/example/ample_proof/ampleproof/disputes/DisputePhase")) }, accessFlags := 9, code := some k6c0 }
def k6c1 : Code := { maxStack := 2, maxLocals := 5, code := prog_8_method_4_code, exceptionTable := #[], attributes := #[] }
def k6m1 : Method := { name := "next", desc := "()Ljava/util/Optional;", sig := { parameters := [], returnType := some (.object "java/util/Optional") }, accessFlags := 0, code := some k6c1 }
/-- com/example/ample_proof/ampleproof/disputes/DisputePhase -/
def k6 : Class := { plain "com/example/ample_proof/ampleproof/disputes/DisputePhase" (some 5) with
  accessFlags := 16433
  interfaces := #[]
  cf := some (fileOf pool6 1 #[] #[{ accessFlags := 9, nameIndex := 43, descriptorIndex := 44, attributes := #[] }, { accessFlags := 0, nameIndex := 72, descriptorIndex := 54, attributes := #[] }] 16433 29 #[] #[{ accessFlags := 16409, nameIndex := 5, descriptorIndex := 6, attributes := #[] }, { accessFlags := 16409, nameIndex := 9, descriptorIndex := 6, attributes := #[] }, { accessFlags := 16409, nameIndex := 12, descriptorIndex := 6, attributes := #[] }, { accessFlags := 16409, nameIndex := 15, descriptorIndex := 6, attributes := #[] }, { accessFlags := 16409, nameIndex := 18, descriptorIndex := 6, attributes := #[] }, { accessFlags := 18, nameIndex := 40, descriptorIndex := 6, attributes := #[] }, { accessFlags := 4122, nameIndex := 21, descriptorIndex := 22, attributes := #[] }])
  fields := #[{ name := "FRAUD", type := (.object "com/example/ample_proof/ampleproof/disputes/DisputePhase"), accessFlags := 16409, slot := 0, constantValue := 0 }, { name := "RETRIEVAL", type := (.object "com/example/ample_proof/ampleproof/disputes/DisputePhase"), accessFlags := 16409, slot := 1, constantValue := 0 }, { name := "CHARGEBACK", type := (.object "com/example/ample_proof/ampleproof/disputes/DisputePhase"), accessFlags := 16409, slot := 2, constantValue := 0 }, { name := "PRE_ARBITRATION", type := (.object "com/example/ample_proof/ampleproof/disputes/DisputePhase"), accessFlags := 16409, slot := 3, constantValue := 0 }, { name := "ARBITRATION", type := (.object "com/example/ample_proof/ampleproof/disputes/DisputePhase"), accessFlags := 16409, slot := 4, constantValue := 0 }, { name := "escalatedFrom", type := (.object "com/example/ample_proof/ampleproof/disputes/DisputePhase"), accessFlags := 18, slot := 3, constantValue := 0 }, { name := "$VALUES", type := (.array (.object "com/example/ample_proof/ampleproof/disputes/DisputePhase")), accessFlags := 4122, slot := 5, constantValue := 0 }]
  methods := #[k6m0, k6m1]
  instanceTypes := #[(.object "java/lang/String"), .int, .int, (.object "com/example/ample_proof/ampleproof/disputes/DisputePhase")]
  staticTypes := #[(.object "com/example/ample_proof/ampleproof/disputes/DisputePhase"), (.object "com/example/ample_proof/ampleproof/disputes/DisputePhase"), (.object "com/example/ample_proof/ampleproof/disputes/DisputePhase"), (.object "com/example/ample_proof/ampleproof/disputes/DisputePhase"), (.object "com/example/ample_proof/ampleproof/disputes/DisputePhase"), (.array (.object "com/example/ample_proof/ampleproof/disputes/DisputePhase"))]
  resolved := Array.replicate 80 none
  statics := some 0 }

def pool7 : Array CpInfo := pool [(1, .class_ 2), (0, u "java/lang/Cloneable"), (0, .class_ 4), (0, u "java/lang/Object")] 2

/-- java/lang/Cloneable -/
def k7 : Class := { plain "java/lang/Cloneable" (some 0) with
  accessFlags := 1537
  interfaces := #[]
  cf := some (fileOf pool7 1 #[] #[] 1537 3 #[] #[])
  fields := #[]
  methods := #[]
  instanceTypes := #[]
  staticTypes := #[]
  resolved := Array.replicate 7 none
  statics := none }

def pool8 : Array CpInfo := pool [(1, .fieldref 2 3), (0, .class_ 4), (0, .nameAndType 5 6), (0, u "java/util/Optional"), (0, u "EMPTY"), (0, u "Ljava/util/Optional;"), (0, .methodref 8 9), (0, .class_ 10), (0, .nameAndType 11 12), (0, u "java/lang/Object"), (0, u "<init>"), (0, u "()V"), (0, .fieldref 2 14), (0, .nameAndType 15 16), (0, u "value"), (0, u "Ljava/lang/Object;"), (0, .methodref 18 19), (0, .class_ 20), (0, .nameAndType 21 22), (0, u "java/util/Objects"), (0, u "requireNonNull"), (0, u "(Ljava/lang/Object;)Ljava/lang/Object;"), (0, .methodref 2 24), (0, .nameAndType 11 25), (0, u "(Ljava/lang/Object;)V"), (29, u "empty"), (0, u "()Ljava/util/Optional;"), (8, u "(Ljava/lang/Object;)Ljava/util/Optional;"), (16, u "of"), (82, u "orElse")] 21

def k8c0 : Code := { maxStack := 1, maxLocals := 1, code := jdk_32_method_1_code, exceptionTable := #[], attributes := #[] }
def k8m0 : Method := { name := "empty", desc := "()Ljava/util/Optional;", sig := { parameters := [], returnType := some (.object "java/util/Optional") }, accessFlags := 9, code := some k8c0 }
def k8c1 : Code := { maxStack := 2, maxLocals := 2, code := jdk_32_method_2_code, exceptionTable := #[], attributes := #[] }
def k8m1 : Method := { name := "<init>", desc := "(Ljava/lang/Object;)V", sig := { parameters := [(.object "java/lang/Object")], returnType := none }, accessFlags := 2, code := some k8c1 }
def k8c2 : Code := { maxStack := 3, maxLocals := 1, code := jdk_32_method_3_code, exceptionTable := #[], attributes := #[] }
def k8m2 : Method := { name := "of", desc := "(Ljava/lang/Object;)Ljava/util/Optional;", sig := { parameters := [(.object "java/lang/Object")], returnType := some (.object "java/util/Optional") }, accessFlags := 9, code := some k8c2 }
def k8c3 : Code := { maxStack := 1, maxLocals := 2, code := jdk_32_method_15_code, exceptionTable := #[], attributes := #[] }
def k8m3 : Method := { name := "orElse", desc := "(Ljava/lang/Object;)Ljava/lang/Object;", sig := { parameters := [(.object "java/lang/Object")], returnType := some (.object "java/lang/Object") }, accessFlags := 1, code := some k8c3 }
/-- java/util/Optional -/
def k8 : Class := { plain "java/util/Optional" (some 0) with
  accessFlags := 49
  interfaces := #[]
  cf := some (fileOf pool8 2 #[] #[{ accessFlags := 9, nameIndex := 55, descriptorIndex := 56, attributes := #[] }, { accessFlags := 2, nameIndex := 11, descriptorIndex := 25, attributes := #[] }, { accessFlags := 9, nameIndex := 82, descriptorIndex := 65, attributes := #[] }, { accessFlags := 1, nameIndex := 165, descriptorIndex := 22, attributes := #[] }] 49 8 #[] #[{ accessFlags := 26, nameIndex := 5, descriptorIndex := 6, attributes := #[] }, { accessFlags := 18, nameIndex := 15, descriptorIndex := 16, attributes := #[] }])
  fields := #[{ name := "EMPTY", type := (.object "java/util/Optional"), accessFlags := 26, slot := 0, constantValue := 0 }, { name := "value", type := (.object "java/lang/Object"), accessFlags := 18, slot := 0, constantValue := 0 }]
  methods := #[k8m0, k8m1, k8m2, k8m3]
  instanceTypes := #[(.object "java/lang/Object")]
  staticTypes := #[(.object "java/util/Optional")]
  resolved := Array.replicate 187 none
  statics := some 1 }

def pool9 : Array CpInfo := pool [(2, .class_ 4), (1, u "java/lang/Object"), (0, u "<init>"), (0, u "()V"), (35, .class_ 44), (1, u "java/util/Objects"), (0, u "requireNonNull"), (0, u "(Ljava/lang/Object;)Ljava/lang/Object;")] 137

def k9m0 : Method := { name := "<init>", desc := "()V", sig := { parameters := [], returnType := none }, accessFlags := 2, code := none }
def k9c1 : Code := { maxStack := 2, maxLocals := 1, code := jdk_31_method_10_code, exceptionTable := #[], attributes := #[] }
def k9m1 : Method := { name := "requireNonNull", desc := "(Ljava/lang/Object;)Ljava/lang/Object;", sig := { parameters := [(.object "java/lang/Object")], returnType := some (.object "java/lang/Object") }, accessFlags := 9, code := some k9c1 }
/-- java/util/Objects -/
def k9 : Class := { plain "java/util/Objects" (some 0) with
  accessFlags := 49
  interfaces := #[]
  cf := some (fileOf pool9 42 #[] #[{ accessFlags := 2, nameIndex := 5, descriptorIndex := 6, attributes := #[] }, { accessFlags := 9, nameIndex := 45, descriptorIndex := 46, attributes := #[] }] 49 2 #[] #[])
  fields := #[]
  methods := #[k9m0, k9m1]
  instanceTypes := #[]
  staticTypes := #[]
  resolved := Array.replicate 184 none
  statics := none }

/-- the primitive byte -/
def k10 : Class := { plain "byte" none with kind := .primitive 'B', accessFlags := 0x411 }
/-- [B -/
def k11 : Class := { plain "[B" (some 0) with kind := .array 10 .byte, interfaces := #[7, 4], accessFlags := 1041 }

/-- the primitive int -/
def k12 : Class := { plain "int" none with kind := .primitive 'I', accessFlags := 0x411 }
/-- [I -/
def k13 : Class := { plain "[I" (some 0) with kind := .array 12 .int, interfaces := #[7, 4], accessFlags := 1041 }

/-- [Lcom/example/ample_proof/ampleproof/disputes/DisputePhase; -/
def k14 : Class := { plain "[Lcom/example/ample_proof/ampleproof/disputes/DisputePhase;" (some 0) with kind := .array 6 (.object "com/example/ample_proof/ampleproof/disputes/DisputePhase"), interfaces := #[7, 4], accessFlags := 1041 }

def heap : Heap := #[{ cls := 6, slots := #[.ref 3, .ref 4, .ref 5, .ref 6, .ref 7, .ref 2], vm := .statics 6 },
  { cls := 8, slots := #[.ref 8], vm := .statics 8 },
  { cls := 14, slots := #[.ref 3, .ref 4, .ref 5, .ref 6, .ref 7], vm := .none },
  { cls := 6, slots := #[.null, .int 0, .int 0, .null], vm := .none },
  { cls := 6, slots := #[.null, .int 1, .int 0, .null], vm := .none },
  { cls := 6, slots := #[.null, .int 2, .int 0, .null], vm := .none },
  { cls := 6, slots := #[.null, .int 3, .int 0, .ref 5], vm := .none },
  { cls := 6, slots := #[.null, .int 4, .int 0, .ref 6], vm := .none },
  { cls := 8, slots := #[.null], vm := .none }]
def classes : Array Class := #[k0, k1, k2, k3, k4, k5, k6, k7, k8, k9, k10, k11, k12, k13, k14]
def interned : List (Array UInt16 × Addr) := []
def slotsUsed : Nat := 33
def theMethod : MethodId := ⟨1, 1⟩
def args0 : Array Value := #[.int 5]
def aboutOver (below : List Frame) : State where
  vm := { classes := classes, interned := interned.toArray }
  heap := heap
  slotsUsed := slotsUsed
  threads := #[{ frames := .invoking theMethod args0 :: below }]
def below0 : List Frame := [.native { method := ⟨0, 0⟩, args := #[] }]
def about1 : State := aboutOver below0
def p0 : Program := .bare "" "" ""
def e0 : Env := launch0.env 0 0 0
theorem w_frames : about1.frames = Frame.invoking theMethod args0 :: below0 := rfl
set_option maxRecDepth 65536 in
theorem w_args : argsFit about1.vm theMethod args0 = true := by decide +kernel
set_option maxRecDepth 65536 in
theorem w_heap : heapFits about1 = true := by decide +kernel
set_option maxRecDepth 65536 in
theorem w_runnable : about1.curStatus? = some .runnable := by decide +kernel
set_option maxRecDepth 65536 in
theorem w_alone : about1.alone = true := by decide +kernel
set_option maxRecDepth 65536 in
theorem w_named : about1.methodNamed? x = some theMethod := by decide +kernel
set_option maxRecDepth 65536 in
theorem w_hears : about1.hears theMethod below0 = true := by decide +kernel
set_option maxRecDepth 65536 in
theorem w_ripe : about1.ripe theMethod args0 below0 = true := by decide +kernel
theorem w_running : about1.status = .running := rfl
set_option maxRecDepth 65536 in
theorem w_room : about1.hasRoom e0.platform room_1 = true :=
  launch0.hasRoom_least _ room_1 (by decide +kernel) (by decide +kernel) (by decide +kernel) (by decide +kernel) (by decide +kernel) (by decide +kernel)
theorem allAtoms_all (ts : List Jvm.Cond) (a : Array Jvm.Value) (st : Jvm.State) : (allAtoms ts).before a st = ts.all (fun c => c.before a st) := by
  induction ts with
  | nil => rfl
  | cons c t ih =>
    show (Jvm.Cond.and c (allAtoms t)).before a st = _
    rw [Jvm.Cond.before_and, ih, List.all_cons]
def words1 : List Jvm.Cond := Jvm.Cond.code x code maxLocals ret :: tables_1
/-- a 'code' word, met by the world's own term for the bytes: nothing is compared byte by byte -/
theorem code_word {y : MethodName} {bytes : ByteArray} {mx : Nat} {rt : Option FieldType} {a : Array Value} {s : State} {m : MethodId} {meth : Method} {c : Code} (h1 : s.methodNamed? y = some m) (h2 : s.vm.method? m = some meth) (h3 : meth.code = some c) (h4 : c.code = bytes)
    (h5 : (c.maxLocals == mx && c.exceptionTable.isEmpty && decide (c.maxStack ≤ mostOperands) && decide (meth.sig.returnType = rt) && !meth.locks && decide (parseMethodDescriptor y.desc = some meth.sig)) = true) : (Jvm.Cond.code y bytes mx rt).before a s = true := by
  simp only [Bool.and_eq_true, beq_iff_eq, Bool.not_eq_true', decide_eq_true_eq] at h5
  obtain ⟨⟨⟨⟨⟨g1, g2⟩, g3⟩, g4⟩, g5⟩, g6⟩ := h5
  simp [Cond.before, Cond.holds, Cond.value, h1, h2, h3, h4, g1, g2, g3, g4, g5, g6]
def isCode : Jvm.Cond → Bool
  | .code _ _ _ _ => true
  | _ => false
theorem all_split {L : List Jvm.Cond} {P : Jvm.Cond → Bool} (h1 : L.all (fun c => isCode c || P c) = true) (h2 : ∀ c ∈ L.filter isCode, P c = true) : L.all P = true := by
  refine List.all_eq_true.mpr fun c hc => ?_
  have h := List.all_eq_true.mp h1 c hc
  rcases Bool.eq_false_or_eq_true (isCode c) with hi | hi
  · exact h2 c (List.mem_filter.mpr ⟨hc, hi⟩)
  · simpa [hi] using h
set_option maxRecDepth 65536 in
theorem w_c0 : (Jvm.Cond.code x code maxLocals ret).before args0 about1 = true := code_word (m := ⟨1, 1⟩) (meth := k1m1) (c := k1c1) (by decide +kernel) rfl rfl rfl (by decide +kernel)
set_option maxRecDepth 65536 in
theorem w_c1 : (Jvm.Cond.code ({ cls := "com/example/ample_proof/ampleproof/disputes/DisputePhase", name := "next", desc := "()Ljava/util/Optional;" } : Jvm.MethodName) prog_8_method_4_code (5 : Nat) (Option.some (Jvm.ClassFile.FieldType.object "java/util/Optional"))).before args0 about1 = true := code_word (m := ⟨6, 1⟩) (meth := k6m1) (c := k6c1) (by decide +kernel) rfl rfl rfl (by decide +kernel)
set_option maxRecDepth 65536 in
theorem w_c2 : (Jvm.Cond.code ({ cls := "com/example/ample_proof/ampleproof/disputes/DisputePhase", name := "values", desc := "()[Lcom/example/ample_proof/ampleproof/disputes/DisputePhase;" } : Jvm.MethodName) prog_8_method_1_code (0 : Nat) (Option.some (Jvm.ClassFile.FieldType.array (Jvm.ClassFile.FieldType.object "com/example/ample_proof/ampleproof/disputes/DisputePhase")))).before args0 about1 = true := code_word (m := ⟨6, 0⟩) (meth := k6m0) (c := k6c0) (by decide +kernel) rfl rfl rfl (by decide +kernel)
set_option maxRecDepth 65536 in
theorem w_c3 : (Jvm.Cond.code ({ cls := "java/util/Optional", name := "empty", desc := "()Ljava/util/Optional;" } : Jvm.MethodName) jdk_32_method_1_code (1 : Nat) (Option.some (Jvm.ClassFile.FieldType.object "java/util/Optional"))).before args0 about1 = true := code_word (m := ⟨8, 0⟩) (meth := k8m0) (c := k8c0) (by decide +kernel) rfl rfl rfl (by decide +kernel)
set_option maxRecDepth 65536 in
theorem w_c4 : (Jvm.Cond.code ({ cls := "java/util/Optional", name := "orElse", desc := "(Ljava/lang/Object;)Ljava/lang/Object;" } : Jvm.MethodName) jdk_32_method_15_code (2 : Nat) (Option.some (Jvm.ClassFile.FieldType.object "java/lang/Object"))).before args0 about1 = true := code_word (m := ⟨8, 3⟩) (meth := k8m3) (c := k8c3) (by decide +kernel) rfl rfl rfl (by decide +kernel)
set_option maxRecDepth 65536 in
theorem w_c5 : (Jvm.Cond.code ({ cls := "java/util/Optional", name := "of", desc := "(Ljava/lang/Object;)Ljava/util/Optional;" } : Jvm.MethodName) jdk_32_method_3_code (1 : Nat) (Option.some (Jvm.ClassFile.FieldType.object "java/util/Optional"))).before args0 about1 = true := code_word (m := ⟨8, 2⟩) (meth := k8m2) (c := k8c2) (by decide +kernel) rfl rfl rfl (by decide +kernel)
set_option maxRecDepth 65536 in
theorem w_c6 : (Jvm.Cond.code ({ cls := "java/util/Objects", name := "requireNonNull", desc := "(Ljava/lang/Object;)Ljava/lang/Object;" } : Jvm.MethodName) jdk_31_method_10_code (1 : Nat) (Option.some (Jvm.ClassFile.FieldType.object "java/lang/Object"))).before args0 about1 = true := code_word (m := ⟨9, 1⟩) (meth := k9m1) (c := k9c1) (by decide +kernel) rfl rfl rfl (by decide +kernel)
set_option maxRecDepth 65536 in
theorem w_c7 : (Jvm.Cond.code ({ cls := "java/util/Optional", name := "<init>", desc := "(Ljava/lang/Object;)V" } : Jvm.MethodName) jdk_32_method_2_code (2 : Nat) (Option.none : Option Jvm.ClassFile.FieldType)).before args0 about1 = true := code_word (m := ⟨8, 1⟩) (meth := k8m1) (c := k8c1) (by decide +kernel) rfl rfl rfl (by decide +kernel)
set_option maxRecDepth 65536 in
theorem w_c8 : (Jvm.Cond.code ({ cls := "java/lang/Object", name := "<init>", desc := "()V" } : Jvm.MethodName) object_method_1_code (1 : Nat) (Option.none : Option Jvm.ClassFile.FieldType)).before args0 about1 = true := code_word (m := ⟨0, 0⟩) (meth := k0m0) (c := k0c0) (by decide +kernel) rfl rfl rfl (by decide +kernel)
def codes1 : List Jvm.Cond := [Jvm.Cond.code x code maxLocals ret, Jvm.Cond.code ({ cls := "com/example/ample_proof/ampleproof/disputes/DisputePhase", name := "next", desc := "()Ljava/util/Optional;" } : Jvm.MethodName) prog_8_method_4_code (5 : Nat) (Option.some (Jvm.ClassFile.FieldType.object "java/util/Optional")), Jvm.Cond.code ({ cls := "com/example/ample_proof/ampleproof/disputes/DisputePhase", name := "values", desc := "()[Lcom/example/ample_proof/ampleproof/disputes/DisputePhase;" } : Jvm.MethodName) prog_8_method_1_code (0 : Nat) (Option.some (Jvm.ClassFile.FieldType.array (Jvm.ClassFile.FieldType.object "com/example/ample_proof/ampleproof/disputes/DisputePhase"))), Jvm.Cond.code ({ cls := "java/util/Optional", name := "empty", desc := "()Ljava/util/Optional;" } : Jvm.MethodName) jdk_32_method_1_code (1 : Nat) (Option.some (Jvm.ClassFile.FieldType.object "java/util/Optional")), Jvm.Cond.code ({ cls := "java/util/Optional", name := "orElse", desc := "(Ljava/lang/Object;)Ljava/lang/Object;" } : Jvm.MethodName) jdk_32_method_15_code (2 : Nat) (Option.some (Jvm.ClassFile.FieldType.object "java/lang/Object")), Jvm.Cond.code ({ cls := "java/util/Optional", name := "of", desc := "(Ljava/lang/Object;)Ljava/util/Optional;" } : Jvm.MethodName) jdk_32_method_3_code (1 : Nat) (Option.some (Jvm.ClassFile.FieldType.object "java/util/Optional")), Jvm.Cond.code ({ cls := "java/util/Objects", name := "requireNonNull", desc := "(Ljava/lang/Object;)Ljava/lang/Object;" } : Jvm.MethodName) jdk_31_method_10_code (1 : Nat) (Option.some (Jvm.ClassFile.FieldType.object "java/lang/Object")), Jvm.Cond.code ({ cls := "java/util/Optional", name := "<init>", desc := "(Ljava/lang/Object;)V" } : Jvm.MethodName) jdk_32_method_2_code (2 : Nat) (Option.none : Option Jvm.ClassFile.FieldType), Jvm.Cond.code ({ cls := "java/lang/Object", name := "<init>", desc := "()V" } : Jvm.MethodName) object_method_1_code (1 : Nat) (Option.none : Option Jvm.ClassFile.FieldType)]
set_option maxRecDepth 65536 in
theorem codes_eq : words1.filter isCode = codes1 := rfl
theorem w_codes : ∀ c ∈ words1.filter isCode, c.before args0 about1 = true := by
  rw [codes_eq]
  intro c hc
  simp only [codes1, List.mem_cons, List.not_mem_nil, or_false] at hc
  rcases hc with rfl | rfl | rfl | rfl | rfl | rfl | rfl | rfl | rfl
  · exact w_c0
  · exact w_c1
  · exact w_c2
  · exact w_c3
  · exact w_c4
  · exact w_c5
  · exact w_c6
  · exact w_c7
  · exact w_c8
set_option maxRecDepth 65536 in
theorem w_t1 : (words1.take 24).all (fun c => isCode c || c.before args0 about1) = true := by decide +kernel
set_option maxRecDepth 65536 in
theorem w_t2 : ((words1.drop 24).take 24).all (fun c => isCode c || c.before args0 about1) = true := by decide +kernel
set_option maxRecDepth 65536 in
theorem w_t3 : ((words1.drop 24).drop 24).all (fun c => isCode c || c.before args0 about1) = true := by decide +kernel
theorem w_tables : (allAtoms (Jvm.Cond.code x code maxLocals ret :: tables_1)).before args0 about1 = true := by
  rw [allAtoms_all]
  show words1.all (fun c => c.before args0 about1) = true
  refine all_split ?_ w_codes
  rw [← List.take_append_drop 24 words1, List.all_append, w_t1, ← List.take_append_drop 24 (words1.drop 24), List.all_append, w_t2, w_t3]
  rfl
set_option maxRecDepth 65536 in
theorem w_rest : rest_1_c.before args0 about1 = true := by decide +kernel
set_option maxRecDepth 65536 in
theorem w_case : (Jvm.Cond.and given_1 narrow_1).before args0 about1 = true := by decide +kernel
theorem w_applies : (headSpec (Jvm.Cond.code x code maxLocals ret :: tables_1) room_1).applies x e0.platform about1 = true :=
  (Spec.applies_iff w_frames).mpr ⟨w_running, w_runnable, w_alone, w_named, w_hears, w_ripe, w_room, w_tables⟩
theorem atStart : AtStart classFile x code maxLocals ret World_1 tables_1 room_1 Calls_1 rest_1 Pre_1 launch0 p0 e0 about1 theMethod args0 below0 :=
  ⟨lists_1, trivial, launch0.admits_env _ _ _, launch0.least_env, fairChoices_fair.cas, fairChoices_fair.clock, w_frames, w_args, w_heap, w_applies, trivial, w_rest, w_case⟩
end start1
theorem witness_1 : WitnessClaimed_1 := ⟨start1.p0, start1.e0, start1.about1, start1.theMethod, start1.args0, start1.below0, start1.atStart⟩
end Jvm.Pilot.@@N@@
