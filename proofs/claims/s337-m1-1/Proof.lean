import JvmDerived
import JvmDerived.Pilot.@@N@@Statement
import JvmDerived.Pilot.@@N@@Code
set_option linter.unusedVariables false
set_option linter.unusedSimpArgs false
namespace Jvm.Pilot.@@N@@
open Jvm Jvm.ClassFile Sem Op Lib Jvm.Free Jvm.Stand Jvm.LawKit Jvm.RoadKit Bundle Jvm.Pilot.@@N@@.Jvm.D
/-! OwnW: the walk as a fact: from s0 it has come to pc with locals L, stack S, heap h; kc cells and ks slots made; written only cells at or above n0. -/
section OwnKit
variable {p : Program} {l : Launch} {e : Env} {R : Room} {s : State} {m : MethodId} {args : Array Value} {below : List Frame} {meth : Method} {c : Code} {s0 : State} {n0 pc pc' : Nat} {L L' : Array Slot} {S S' : List Value} {h h' : Heap} {kc ks : Nat} {Z : State} {a0 : Array Value}
def OwnW {p : Program} {l : Launch} {e : Env} {R : Room} {s : State} {m : MethodId} {args : Array Value} {below : List Frame} {meth : Method} {c : Code} (s0 : State) (n0 pc : Nat) (L : Array Slot) (S : List Value) (h : Heap) (kc ks : Nat) : Prop :=
  ∃ (T : State) (locs : List Loc), Stand p l e R s m args below meth c T locs kc ks ∧ T.heap = h ∧ Fr n0 locs ∧ Steps p.tables e below s0 (T.setTop (mkF m pc L S))
def OwnEnd {p : Program} {l : Launch} {e : Env} {R : Room} {s : State} {m : MethodId} {args : Array Value} {below : List Frame} {meth : Method} {c : Code} (s0 : State) (n0 : Nat) (v : Option Value) (h : Heap) (kc ks : Nat) : Prop :=
  ∃ (T : State) (locs : List Loc), Stand p l e R s m args below meth c T locs kc ks ∧ T.heap = h ∧ Fr n0 locs ∧ (meth.sig.returnType = none → v = none) ∧ ∀ fs : List Frame, (∀ (f : JFrame) (acts : List Action), f.method = m → f.locked = none → f.entered = [] → (doReturn e (T.setTop f) acts v).1 = T.setFrames fs) → Steps p.tables e below s0 (T.setFrames fs)
/-- a callee's contract: with the arguments A on the heap h0 it returns v and leaves h' with Q v h' -/
def OwnCon (l : Launch) (Z : State) (y : MethodName) (bytes : ByteArray) (maxL : Nat) (ret : Option FieldType) (rm : Room) (A : Array Value) (h0 : Heap) (n0 : Nat) (Q : Option Value → Heap → Prop) : Prop :=
  ∀ ws : List Jvm.Cond, MetFree l y (head1 (Jvm.Cond.code y bytes maxL ret :: ws) rm) (fun a U => a = A ∧ Z.Warmed39 U.vm ∧ U.heap = h0) (fun _ _ _ _ _ => True) (fun _ U o U' => ∃ v L, o = .returned v ∧ (Fr n0 L ∧ Q v U'.heap) ∧ FrameEnd U o U' L rm.cells rm.slots)
theorem OwnW.go (r : OwnW (p := p) (l := l) (e := e) (R := R) (s := s) (m := m) (args := args) (below := below) (meth := meth) (c := c) s0 n0 pc L S h kc ks)
    (f : ∀ (T t : State), At T m c below → Steps p.tables e below (T.setTop (mkF m pc' L' S')) t → Steps p.tables e below (T.setTop (mkF m pc L S)) t) :
    OwnW (p := p) (l := l) (e := e) (R := R) (s := s) (m := m) (args := args) (below := below) (meth := meth) (c := c) s0 n0 pc' L' S' h kc ks := by
  obtain ⟨T, ls, X, eT, N, st⟩ := r
  exact ⟨T, ls, X, eT, N, st.trans (f T _ X.here (Steps.refl _))⟩
theorem OwnW.goX (r : OwnW (p := p) (l := l) (e := e) (R := R) (s := s) (m := m) (args := args) (below := below) (meth := meth) (c := c) s0 n0 pc L S h kc ks)
    (f : ∀ (T t : State) (ls : List Loc), Stand p l e R s m args below meth c T ls kc ks → T.heap = h → Steps p.tables e below (T.setTop (mkF m pc' L' S')) t → Steps p.tables e below (T.setTop (mkF m pc L S)) t) :
    OwnW (p := p) (l := l) (e := e) (R := R) (s := s) (m := m) (args := args) (below := below) (meth := meth) (c := c) s0 n0 pc' L' S' h kc ks := by
  obtain ⟨T, ls, X, eT, N, st⟩ := r
  exact ⟨T, ls, X, eT, N, st.trans (f T _ ls X eT (Steps.refl _))⟩
theorem OwnW.goT (r : OwnW (p := p) (l := l) (e := e) (R := R) (s := s) (m := m) (args := args) (below := below) (meth := meth) (c := c) s0 n0 pc L S h kc ks)
    (f : ∀ (T : State) (ls : List Loc), Stand p l e R s m args below meth c T ls kc ks → T.heap = h → ∃ T', Stand p l e R s m args below meth c T' ls kc ks ∧ T'.heap = h ∧ ∀ t, Steps p.tables e below (T'.setTop (mkF m pc' L' S')) t → Steps p.tables e below (T.setTop (mkF m pc L S)) t) :
    OwnW (p := p) (l := l) (e := e) (R := R) (s := s) (m := m) (args := args) (below := below) (meth := meth) (c := c) s0 n0 pc' L' S' h kc ks := by
  obtain ⟨T, ls, X, eT, N, st⟩ := r
  obtain ⟨T', X', eT', st'⟩ := f T ls X eT
  exact ⟨T', ls, X', eT', N, st.trans (st' _ (Steps.refl _))⟩
/-- the same walk, written otherwise -/
theorem OwnW.to (r : OwnW (p := p) (l := l) (e := e) (R := R) (s := s) (m := m) (args := args) (below := below) (meth := meth) (c := c) s0 n0 pc L S h kc ks) (h1 : pc = pc') (h2 : L = L') (h3 : S = S') (h4 : h = h') :
    OwnW (p := p) (l := l) (e := e) (R := R) (s := s) (m := m) (args := args) (below := below) (meth := meth) (c := c) s0 n0 pc' L' S' h' kc ks := by
  subst h1 h2 h3 h4; exact r
theorem OwnW.newO (r : OwnW (p := p) (l := l) (e := e) (R := R) (s := s) (m := m) (args := args) (below := below) (meth := meth) (c := c) s0 n0 pc L S h kc ks)
    (hx : p.tables.exec = Jvm.exec) (hZ : Z.Warmed39 s.vm) {own C : String} {index n : Nat} (hown : s.vm.findClass own = some m.cls) (w : (Jvm.Cond.classLink own index C).before a0 Z = true) (wi : (Jvm.Cond.instantiable C n).before a0 Z = true) (wz : (Jvm.Cond.initialized C).before a0 Z = true)
    (hd : decode c.code pc = .ok (.new index, 3)) (hc : kc + 1 ≤ R.cells) (hl : ks + n ≤ R.slots) :
    ∃ h', OwnW (p := p) (l := l) (e := e) (R := R) (s := s) (m := m) (args := args) (below := below) (meth := meth) (c := c) s0 n0 (pc + 3) L (.ref h.size :: S) h' (kc + 1) (ks + n) ∧ Ext h h' ∧ Exa Z h' h.size C ∧ (∀ {O nm d : String} {ty : FieldType}, Laid Z a0 C O nm d → parseFieldDescriptor d = some ty → Fld Z h' h.size O nm d (defaultValue ty)) := by
  obtain ⟨T, ls, X, eT, N, st⟩ := r
  obtain ⟨T', h', X', e', E, A, D, -, st'⟩ := Jvm.RoadKit.newO X hx hZ hown w wi wz eT (g := mkF m pc L S) rfl hd hc hl
  exact ⟨h', ⟨T', ls, X', e', N, st.trans (st' _ (Steps.refl _))⟩, E, A, D⟩
theorem OwnW.newP (r : OwnW (p := p) (l := l) (e := e) (R := R) (s := s) (m := m) (args := args) (below := below) (meth := meth) (c := c) s0 n0 pc L S h kc ks)
    (hx : p.tables.exec = Jvm.exec) (hZ : Z.Warmed39 s.vm) {aty : ArrayType} (w : (Jvm.Cond.arrayClass (newarray.typeOf aty)).before a0 Z = true) (hd : decode c.code pc = .ok (.newarray aty, 2)) {n : Int32} {rest : List Value} (hs : S = .int n :: rest)
    (hn : ¬ n < 0) {cap : Nat} (hcap : n.toNatClampNeg ≤ cap) (hb : cap * 8 ≤ 536870912) (hc : kc + 1 ≤ R.cells) (hl : ks + cap ≤ R.slots) :
    ∃ h' cA, OwnW (p := p) (l := l) (e := e) (R := R) (s := s) (m := m) (args := args) (below := below) (meth := meth) (c := c) s0 n0 (pc + 2) L (.ref h.size :: rest) h' (kc + 1) (ks + cap) ∧ Ext h h' ∧ Arr Z h' h.size (newA cA (newarray.typeOf aty) n) (newarray.typeOf aty) := by
  obtain ⟨T, ls, X, eT, N, st⟩ := r
  obtain ⟨T', h', cA, X', e', E, A, st'⟩ := Jvm.RoadKit.newP X hx hZ w eT (g := mkF m pc L S) rfl hd hs hn hcap hb hc hl
  exact ⟨h', cA, ⟨T', ls, X', e', N, st.trans (st' _ (Steps.refl _))⟩, E, A⟩
theorem OwnW.getF (r : OwnW (p := p) (l := l) (e := e) (R := R) (s := s) (m := m) (args := args) (below := below) (meth := meth) (c := c) s0 n0 pc L S h kc ks)
    (hx : p.tables.exec = Jvm.exec) (hZ : Z.Warmed39 s.vm) {own O n d : String} {index : Nat} (hown : s.vm.findClass own = some m.cls) (w : (Jvm.Cond.fieldLink own index O n d).before a0 Z = true) {a : Addr} {v : Value} (F : Fld Z h a O n d v)
    {rest : List Value} (hs : S = .ref a :: rest) (hd : decode c.code pc = .ok (.getfield index, 3)) :
    OwnW (p := p) (l := l) (e := e) (R := R) (s := s) (m := m) (args := args) (below := below) (meth := meth) (c := c) s0 n0 (pc + 3) L (v :: rest) h kc ks :=
  r.goT fun T ls X eT => Jvm.RoadKit.getF X hx hZ hown (host := "") (Or.inl w) Via.refl eT F (g := mkF m pc L S) rfl hs hd
theorem OwnW.getS (r : OwnW (p := p) (l := l) (e := e) (R := R) (s := s) (m := m) (args := args) (below := below) (meth := meth) (c := c) s0 n0 pc L S h kc ks)
    (hx : p.tables.exec = Jvm.exec) (hZ : Z.Warmed39 s.vm) {own O n d : String} {index : Nat} (hown : s.vm.findClass own = some m.cls) (w : (Jvm.Cond.fieldLink own index O n d).before a0 Z = true) {v : Value} (F : Sta Z h O n d v)
    (hd : decode c.code pc = .ok (.getstatic index, 3)) :
    OwnW (p := p) (l := l) (e := e) (R := R) (s := s) (m := m) (args := args) (below := below) (meth := meth) (c := c) s0 n0 (pc + 3) L (v :: S) h kc ks :=
  r.goT fun T ls X eT => Jvm.RoadKit.getS X hx hZ (host := "") hown w Via.refl eT F (g := mkF m pc L S) rfl hd
theorem OwnW.putF (r : OwnW (p := p) (l := l) (e := e) (R := R) (s := s) (m := m) (args := args) (below := below) (meth := meth) (c := c) s0 n0 pc L S h kc ks)
    (hx : p.tables.exec = Jvm.exec) (hZ : Z.Warmed39 s.vm) {own O n d C : String} {index kk : Nat} {ty : FieldType} (hown : s.vm.findClass own = some m.cls) (w : (Jvm.Cond.fieldLink own index O n d).before a0 Z = true) {a : Addr} {v old : Value} (F : Fld Z h a O n d old) (E : Exa Z h a C)
    (Lw : (Jvm.Cond.lays C O n d).before a0 Z = true ∨ ((Jvm.Cond.laysFinal C O n d).before a0 Z = true ∧ own = O ∧ meth.name = "<init>")) (wi : (Jvm.Cond.instantiable C kk).before a0 Z = true)
    (hty : parseFieldDescriptor d = some ty) (hn : narrow ty v = v) (hf : fits ty v = true) {rest : List Value} (hs : S = v :: .ref a :: rest) (hd : decode c.code pc = .ok (.putfield index, 3)) (g : n0 ≤ a) :
    ∃ h', OwnW (p := p) (l := l) (e := e) (R := R) (s := s) (m := m) (args := args) (below := below) (meth := meth) (c := c) s0 n0 (pc + 3) L rest h' kc ks ∧ Wr h h' a (Jvm.RoadKit.slotOf Z O n d) v := by
  obtain ⟨T, ls, X, eT, N, st⟩ := r
  obtain ⟨T', h', X', e', W', st'⟩ := Jvm.RoadKit.putF X hx hZ hown (host := "") (Or.inl w) Via.refl eT F E Lw wi hty hn hf (g := mkF m pc L S) rfl hs hd
  exact ⟨h', ⟨T', _, X', e', Fr.snoc X' N g, st.trans (st' _ (Steps.refl _))⟩, W'⟩
theorem OwnW.callS (r : OwnW (p := p) (l := l) (e := e) (R := R) (s := s) (m := m) (args := args) (below := below) (meth := meth) (c := c) s0 n0 pc L S h kc ks)
    (hx : p.tables.exec = Jvm.exec) (hZ : Z.Warmed39 s.vm) {own : String} {index : Nat} {y : MethodName} {bytes : ByteArray} {maxL : Nat} {ret : Option FieldType} {rm : Room} {Q : Option Value → Heap → Prop} (hown : s.vm.findClass own = some m.cls)
    (w1 : (Jvm.Cond.methodLink own index y).before a0 Z = true) (w2 : (Jvm.Cond.static y).before a0 Z = true) (w3 : (Jvm.Cond.initialized y.cls).before a0 Z = true) (w4 : (Jvm.Cond.code y bytes maxL ret).before a0 Z = true)
    (hy : y.cls ≠ "java/lang/invoke/MethodHandle" ∧ y.cls ≠ "java/lang/invoke/VarHandle") {argsL : List Value} (K : OwnCon l Z y bytes maxL ret rm argsL.toArray h n0 Q) (rest : List Value) (W : Nat)
    (hf : rm.frames + 1 ≤ R.frames) (hl : W + (maxL + 11) + rm.locals ≤ R.locals) (hsize : L.size = c.maxLocals) (hlen : ∀ sig, parseMethodDescriptor y.desc = some sig → argsL.length = sig.parameters.length)
    (hs : S = argsL.reverse ++ rest) (hW : (rest.map fun v => v.category).sum ≤ W) (hd : decode c.code pc = .ok (.invokestatic index, 3)) (hc : kc + rm.cells ≤ R.cells) (hsl : ks + rm.slots ≤ R.slots) :
    ∃ v h', OwnW (p := p) (l := l) (e := e) (R := R) (s := s) (m := m) (args := args) (below := below) (meth := meth) (c := c) s0 n0 (pc + 3) L (v.toList ++ rest) h' (kc + rm.cells) (ks + rm.slots) ∧ Q v h' := by
  obtain ⟨T, ls, X, eT, N, st⟩ := r
  obtain ⟨v, vm₁, ⟨T', L', k', n'⟩, -, X', ⟨Lc, hQ, l', y', z'⟩, st'⟩ := Jvm.LawKit.callS X hx (y := y) hown (mvT hZ w1) (mvT hZ w2) (mvT hZ w3) (mvT hZ w4) hy (backOf (W := W) (Q := fun v h L => Fr n0 L ∧ Q v h) (K []) hZ w4 w3 hf hl) (g := mkF m pc L S) rfl hsize (argsL := argsL) (rest := rest) hlen hs (by show 2 * 0 + _ ≤ _; omega) hd (fun _ _ => ⟨rfl, eT, hc, hsl⟩)
  dsimp only [Pt.U, Pt.locs, Pt.cells, Pt.slots] at X' l' y' z' st' hQ
  subst l' y' z'
  exact ⟨v, _, ⟨T', _, X', rfl, N.app hQ.1, st.trans (st' _ (Steps.refl _))⟩, hQ.2⟩
theorem OwnW.callN (r : OwnW (p := p) (l := l) (e := e) (R := R) (s := s) (m := m) (args := args) (below := below) (meth := meth) (c := c) s0 n0 pc L S h kc ks)
    (hx : p.tables.exec = Jvm.exec) (hZ : Z.Warmed39 s.vm) {own : String} {index : Nat} {y : MethodName} {bytes : ByteArray} {maxL : Nat} {rm : Room} {Q : Option Value → Heap → Prop} (hy1 : y.name = "<init>") (hown : s.vm.findClass own = some m.cls)
    (w1 : (Jvm.Cond.methodLink own index y).before a0 Z = true) (w2 : (Jvm.Cond.instanceMethod y).before a0 Z = true) (w3 : (Jvm.Cond.initialized y.cls).before a0 Z = true) (w4 : (Jvm.Cond.code y bytes maxL none).before a0 Z = true)
    (hy : y.cls ≠ "java/lang/invoke/MethodHandle" ∧ y.cls ≠ "java/lang/invoke/VarHandle") {a : Addr} {argsL : List Value} (K : OwnCon l Z y bytes maxL none rm (.ref a :: argsL).toArray h n0 Q) (rest : List Value) (W : Nat)
    (hf : rm.frames + 1 ≤ R.frames) (hl : W + (maxL + 11) + rm.locals ≤ R.locals) (hsize : L.size = c.maxLocals) (hlen : ∀ sig, parseMethodDescriptor y.desc = some sig → argsL.length = sig.parameters.length)
    (hs : S = argsL.reverse ++ .ref a :: rest) (hW : (rest.map fun v => v.category).sum ≤ W) (hd : decode c.code pc = .ok (.invokespecial index, 3)) (hc : kc + rm.cells ≤ R.cells) (hsl : ks + rm.slots ≤ R.slots) :
    ∃ v h', OwnW (p := p) (l := l) (e := e) (R := R) (s := s) (m := m) (args := args) (below := below) (meth := meth) (c := c) s0 n0 (pc + 3) L (v.toList ++ rest) h' (kc + rm.cells) (ks + rm.slots) ∧ Q v h' := by
  obtain ⟨T, ls, X, eT, N, st⟩ := r
  obtain ⟨v, vm₁, ⟨T', L', k', n'⟩, -, X', ⟨Lc, hQ, l', y', z'⟩, st'⟩ := X.specialBack hx (y := y) hy1 hown (mvT hZ w1) (mvT hZ w2) (mvT hZ w4) hy (backOf (W := W) (Q := fun v h L => Fr n0 L ∧ Q v h) (K []) hZ w4 w3 hf hl) (g := mkF m pc L S) rfl hsize st (a := a) (argsL := argsL) (rest := rest) hlen hs (by show 2 * 0 + _ ≤ _; omega) hd (fun _ _ => ⟨rfl, eT, hc, hsl⟩)
  dsimp only [Pt.U, Pt.locs, Pt.cells, Pt.slots] at X' l' y' z' st' hQ
  subst l' y' z'
  exact ⟨v, _, ⟨T', _, X', rfl, N.app hQ.1, st'⟩, hQ.2⟩
theorem OwnW.callV (r : OwnW (p := p) (l := l) (e := e) (R := R) (s := s) (m := m) (args := args) (below := below) (meth := meth) (c := c) s0 n0 pc L S h kc ks)
    (hx : p.tables.exec = Jvm.exec) (hZ : Z.Warmed39 s.vm) {own C : String} {index : Nat} {y z : MethodName} {bytes : ByteArray} {maxL : Nat} {ret : Option FieldType} {rm : Room} {Q : Option Value → Heap → Prop} (hown : s.vm.findClass own = some m.cls)
    (w1 : (Jvm.Cond.methodLink own index y).before a0 Z = true) (w2 : (Jvm.Cond.declares y).before a0 Z = true) (w3 : (Jvm.Cond.selects C y z).before a0 Z = true) (w3' : NotFace s y) (w5 : (Jvm.Cond.instanceMethod z).before a0 Z = true) (w6 : (Jvm.Cond.initialized z.cls).before a0 Z = true) (w4 : (Jvm.Cond.code z bytes maxL ret).before a0 Z = true)
    (hy : y.cls ≠ "java/lang/invoke/MethodHandle" ∧ y.cls ≠ "java/lang/invoke/VarHandle") {a : Addr} {argsL : List Value} (E : Exa Z h a C) (K : OwnCon l Z z bytes maxL ret rm (.ref a :: argsL).toArray h n0 Q) (rest : List Value) (W : Nat)
    (hf : rm.frames + 1 ≤ R.frames) (hl : W + (maxL + 11) + rm.locals ≤ R.locals) (hsize : L.size = c.maxLocals) (hlen : ∀ sig, parseMethodDescriptor y.desc = some sig → argsL.length = sig.parameters.length)
    (hs : S = argsL.reverse ++ .ref a :: rest) (hW : (rest.map fun v => v.category).sum ≤ W) (hd : decode c.code pc = .ok (.invokevirtual index, 3)) (hc : kc + rm.cells ≤ R.cells) (hsl : ks + rm.slots ≤ R.slots) :
    ∃ v h', OwnW (p := p) (l := l) (e := e) (R := R) (s := s) (m := m) (args := args) (below := below) (meth := meth) (c := c) s0 n0 (pc + 3) L (v.toList ++ rest) h' (kc + rm.cells) (ks + rm.slots) ∧ Q v h' := by
  obtain ⟨T, ls, X, eT, N, st⟩ := r
  obtain ⟨cq, kq, qa, qb, qc⟩ := isOf hZ eT E
  obtain ⟨v, vm₁, ⟨T', L', k', n'⟩, -, X', ⟨Lc, hQ, l', y', z'⟩, st'⟩ := X.virtualBack hx (y := y) (z := z) hown (mvT hZ w1) (mvT hZ w2) w3' (mvT hZ w3) (mvT hZ w5) hy (backOf (W := W) (Q := fun v h L => Fr n0 L ∧ Q v h) (K []) hZ w4 w6 hf hl) qa qc (g := mkF m pc L S) rfl hsize st (argsL := argsL) (rest := rest) hlen hs (by show 2 * 0 + _ ≤ _; omega) hd (fun _ _ => ⟨rfl, eT, hc, hsl⟩)
  dsimp only [Pt.U, Pt.locs, Pt.cells, Pt.slots] at X' l' y' z' st' hQ
  subst l' y' z'
  exact ⟨v, _, ⟨T', _, X', rfl, N.app hQ.1, st'⟩, hQ.2⟩
theorem OwnW.retN (r : OwnW (p := p) (l := l) (e := e) (R := R) (s := s) (m := m) (args := args) (below := below) (meth := meth) (c := c) s0 n0 pc L S h kc ks)
    (hx : p.tables.exec = Jvm.exec) {t : FieldType} (hret : meth.sig.returnType = some t) (ht : t = .boolean ∨ t = .byte ∨ t = .char ∨ t = .short) {z : Int32} {rest : List Value} (hs : S = .int z :: rest) (hd : decode c.code pc = .ok (.ireturn, 1)) :
    OwnEnd (p := p) (l := l) (e := e) (R := R) (s := s) (m := m) (args := args) (below := below) (meth := meth) (c := c) s0 n0 (some (.int (nar t z))) h kc ks := by
  subst hs
  obtain ⟨T, ls, X, eT, N, st⟩ := r
  exact ⟨T, ls, X, eT, N, (fun q => by rw [hret] at q; cases q), fun fs hl => st.trans (Jvm.RoadKit.retN X hx hret ht hd hl)⟩
theorem OwnW.retW (r : OwnW (p := p) (l := l) (e := e) (R := R) (s := s) (m := m) (args := args) (below := below) (meth := meth) (c := c) s0 n0 pc L S h kc ks)
    (hx : p.tables.exec = Jvm.exec) {t : FieldType} {w : Value} {i : Instr} (hret : meth.sig.returnType = some t) (hn : narrow t w = w) {rest : List Value} (hs : S = w :: rest)
    (hi : (i = .ireturn ∧ (t = .int ∨ t = .boolean ∨ t = .byte ∨ t = .char ∨ t = .short) ∧ ∃ z, w = .int z) ∨ (i = .lreturn ∧ t = .long ∧ ∃ z, w = .long z) ∨ (i = .dreturn ∧ t = .double ∧ ∃ z, w = .double z) ∨ (i = .freturn ∧ t = .float ∧ ∃ z, w = .float z) ∨ (i = .areturn ∧ t.isReference = true ∧ w.isRef = true))
    (hd : decode c.code pc = .ok (i, 1)) :
    OwnEnd (p := p) (l := l) (e := e) (R := R) (s := s) (m := m) (args := args) (below := below) (meth := meth) (c := c) s0 n0 (some w) h kc ks := by
  subst hs
  obtain ⟨T, ls, X, eT, N, st⟩ := r
  exact ⟨T, ls, X, eT, N, (fun q => by rw [hret] at q; cases q), fun fs hl => st.trans (Jvm.RoadKit.retOut X hx hret hn hi hd hl)⟩
theorem OwnW.retV (r : OwnW (p := p) (l := l) (e := e) (R := R) (s := s) (m := m) (args := args) (below := below) (meth := meth) (c := c) s0 n0 pc L [] h kc ks)
    (hx : p.tables.exec = Jvm.exec) (hret : meth.sig.returnType = none) (hd : decode c.code pc = .ok (.return_, 1)) :
    OwnEnd (p := p) (l := l) (e := e) (R := R) (s := s) (m := m) (args := args) (below := below) (meth := meth) (c := c) s0 n0 none h kc ks := by
  obtain ⟨T, ls, X, eT, N, st⟩ := r
  exact ⟨T, ls, X, eT, N, fun _ => rfl, fun fs hl => st.trans (X.returnOut hx hret hd hl)⟩
theorem OwnCon.of {y : MethodName} {bytes : ByteArray} {maxL : Nat} {ret : Option FieldType} {rm : Room} {A : Array Value} {h0 : Heap} {Q : Option Value → Heap → Prop} {L0 : Array Slot} (pn : plainName y.cls = true) (ef : ∀ m : MethodId, entryFrame m A maxL = mkF m 0 L0 [])
    (H : ∀ (p : Program) (e : Env) (s : State) (m : MethodId) (below : List Frame) (meth : Method) (c : Code) (s0 : State), p.tables.exec = Jvm.exec → c.code = bytes → c.maxLocals = maxL → s.vm.findClass y.cls = some m.cls → meth.name = y.name → meth.sig.returnType = ret → Z.Warmed39 s.vm →
      OwnW (p := p) (l := l) (e := e) (R := rm) (s := s) (m := m) (args := A) (below := below) (meth := meth) (c := c) s0 n0 0 L0 [] h0 0 0 →
      ∃ v h' k n, Q v h' ∧ k ≤ rm.cells ∧ n ≤ rm.slots ∧ OwnEnd (p := p) (l := l) (e := e) (R := rm) (s := s) (m := m) (args := A) (below := below) (meth := meth) (c := c) s0 n0 v h' k n) :
    OwnCon l Z y bytes maxL ret rm A h0 n0 Q := by
  intro ws
  refine MetFree.of_bodySF (plainFor_of_name pn) hisR ?_
  intro p e s m args below meth c s₁ Bd hml hP hK
  obtain ⟨rfl, hZ, hh⟩ := hP
  have X0 : Stand p l e rm s m args below meth c s₁ [] 0 0 := Stand.of_body Bd
  have e0 : s₁.heap = h0 := by rw [← hh, Bd.state]; rfl
  obtain ⟨v, h', k, n, hQ, hk, hn, T, ls, X, eT, N, hv, st⟩ := H p e s m below meth c (s₁.setTop (entryFrame m args maxL)) Bd.exec Bd.bytes hml (findClass_of_methodNamed Bd.named) (name_of_methodNamed Bd.named Bd.method).1 Bd.returns hZ
    ⟨s₁, [], X0, e0, Fr.nil n0, by rw [ef m]; exact Steps.refl _⟩
  obtain ⟨fs, hr, hrun, hended, hW, hsame⟩ := X.leave (v := v) hv
  exact ⟨_, _, st fs hr, hrun, hended, v, ls, rfl, ⟨N, by show Q v T.heap; rw [eT]; exact hQ⟩, ⟨_, rfl⟩, hW, hsame.mono hk hn⟩
end OwnKit
/-! the call of Object's own constructor -/
section OwnInit
variable {p : Program} {l : Launch} {e : Env} {R : Room} {s : State} {m : MethodId} {args : Array Value} {below : List Frame} {meth : Method} {c : Code} {s0 : State} {n0 pc pc' : Nat} {L L' : Array Slot} {S S' : List Value} {h h' : Heap} {kc ks : Nat} {Z : State} {a0 : Array Value}
theorem OwnW.initO (r : OwnW (p := p) (l := l) (e := e) (R := R) (s := s) (m := m) (args := args) (below := below) (meth := meth) (c := c) s0 n0 pc L S h kc ks)
    (hx : p.tables.exec = Jvm.exec) (hZ : Z.Warmed39 s.vm) {own : String} {idx : Nat} (hown : s.vm.findClass own = some m.cls) (w1 : (Jvm.Cond.methodLink own idx Lib.objectInit).before a0 Z = true) (w2 : (Jvm.Cond.instanceMethod Lib.objectInit).before a0 Z = true)
    (w3 : (Jvm.Cond.code Lib.objectInit object_method_1_code 1 none).before a0 Z = true) (hsize : L.size = c.maxLocals) {a : Addr} {rest : List Value} (hs : S = .ref a :: rest) (hd : decode c.code pc = .ok (.invokespecial idx, 3))
    (hf : 1 ≤ R.frames) (W : Nat) (hW : (rest.map fun v => v.category).sum ≤ W) (hl : W + 12 ≤ R.locals) :
    OwnW (p := p) (l := l) (e := e) (R := R) (s := s) (m := m) (args := args) (below := below) (meth := meth) (c := c) s0 n0 (pc + 3) L rest h kc ks := by
  obtain ⟨T, ls, X, eT, N, st⟩ := r
  obtain ⟨T', X', e', st'⟩ := Jvm.RoadKit.initO X hx hZ hown w1 w2 w3 eT (g := mkF m pc L S) rfl hsize hs hd hf (W := W) (by show 2 * 0 + _ ≤ _; omega) hl
  exact ⟨T', ls, X', e', N, st.trans (st' _ (Steps.refl _))⟩
end OwnInit
theorem own_pn0 : plainName "java/lang/Record" = true := by first | (simp [plainName, overriddenIn]; done) | decide +kernel
theorem own_pn1 : plainName "com/example/slotwright/slotwright/solver/Snapshot" = true := by first | (simp [plainName, overriddenIn]; done) | decide +kernel
theorem own_pn2 : plainName "com/example/slotwright/slotwright/solver/SnapshotRanksBeforePinLaw" = true := by first | (simp [plainName, overriddenIn]; done) | decide +kernel
theorem own_pd0 : parseMethodDescriptor "()V" = some ⟨[], none⟩ := by decide +kernel
theorem own_pd1 : parseMethodDescriptor "(JJ[ILcom/example/slotwright/slotwright/solver/Enrolment;)V" = some ⟨[.long, .long, (.array .int), (.object "com/example/slotwright/slotwright/solver/Enrolment")], none⟩ := by decide +kernel
theorem own_pd2 : parseMethodDescriptor "(JJLcom/example/slotwright/slotwright/solver/Snapshot;)Z" = some ⟨[.long, .long, (.object "com/example/slotwright/slotwright/solver/Snapshot")], some .boolean⟩ := by decide +kernel
theorem own_d2_0 : decode prog_78_method_1_code 0 = .ok (.aload_n 0, 1) := by decide +kernel
theorem own_d2_1 : decode prog_78_method_1_code 1 = .ok (.invokespecial 1, 3) := by decide +kernel
theorem own_d2_4 : decode prog_78_method_1_code 4 = .ok (.aload_n 0, 1) := by decide +kernel
theorem own_d2_5 : decode prog_78_method_1_code 5 = .ok (.lload_n 1, 1) := by decide +kernel
theorem own_d2_6 : decode prog_78_method_1_code 6 = .ok (.putfield 7, 3) := by decide +kernel
theorem own_d2_9 : decode prog_78_method_1_code 9 = .ok (.aload_n 0, 1) := by decide +kernel
theorem own_d2_10 : decode prog_78_method_1_code 10 = .ok (.lload_n 3, 1) := by decide +kernel
theorem own_d2_11 : decode prog_78_method_1_code 11 = .ok (.putfield 13, 3) := by decide +kernel
theorem own_d2_14 : decode prog_78_method_1_code 14 = .ok (.aload_n 0, 1) := by decide +kernel
theorem own_d2_15 : decode prog_78_method_1_code 15 = .ok (.aload 5, 2) := by decide +kernel
theorem own_d2_17 : decode prog_78_method_1_code 17 = .ok (.putfield 16, 3) := by decide +kernel
theorem own_d2_20 : decode prog_78_method_1_code 20 = .ok (.aload_n 0, 1) := by decide +kernel
theorem own_d2_21 : decode prog_78_method_1_code 21 = .ok (.aload 6, 2) := by decide +kernel
theorem own_d2_23 : decode prog_78_method_1_code 23 = .ok (.putfield 20, 3) := by decide +kernel
theorem own_d2_26 : decode prog_78_method_1_code 26 = .ok (.return_, 1) := by decide +kernel
theorem own_d3_0 : decode jdk_30_method_1_code 0 = .ok (.aload_n 0, 1) := by decide +kernel
theorem own_d3_1 : decode jdk_30_method_1_code 1 = .ok (.invokespecial 1, 3) := by decide +kernel
theorem own_d3_4 : decode jdk_30_method_1_code 4 = .ok (.return_, 1) := by decide +kernel
theorem own_d1_0 : decode prog_78_method_2_code 0 = .ok (.aload 4, 2) := by decide +kernel
theorem own_d1_2 : decode prog_78_method_2_code 2 = .ok (.ifnull 33, 3) := by decide +kernel
theorem own_d1_5 : decode prog_78_method_2_code 5 = .ok (.lload_n 0, 1) := by decide +kernel
theorem own_d1_6 : decode prog_78_method_2_code 6 = .ok (.aload 4, 2) := by decide +kernel
theorem own_d1_8 : decode prog_78_method_2_code 8 = .ok (.getfield 7, 3) := by decide +kernel
theorem own_d1_11 : decode prog_78_method_2_code 11 = .ok (.lcmp, 1) := by decide +kernel
theorem own_d1_12 : decode prog_78_method_2_code 12 = .ok (.ifCond .lt 23, 3) := by decide +kernel
theorem own_d1_15 : decode prog_78_method_2_code 15 = .ok (.lload_n 0, 1) := by decide +kernel
theorem own_d1_16 : decode prog_78_method_2_code 16 = .ok (.aload 4, 2) := by decide +kernel
theorem own_d1_18 : decode prog_78_method_2_code 18 = .ok (.getfield 7, 3) := by decide +kernel
theorem own_d1_21 : decode prog_78_method_2_code 21 = .ok (.lcmp, 1) := by decide +kernel
theorem own_d1_22 : decode prog_78_method_2_code 22 = .ok (.ifCond .ne 17, 3) := by decide +kernel
theorem own_d1_25 : decode prog_78_method_2_code 25 = .ok (.lload_n 2, 1) := by decide +kernel
theorem own_d1_26 : decode prog_78_method_2_code 26 = .ok (.aload 4, 2) := by decide +kernel
theorem own_d1_28 : decode prog_78_method_2_code 28 = .ok (.getfield 13, 3) := by decide +kernel
theorem own_d1_31 : decode prog_78_method_2_code 31 = .ok (.lcmp, 1) := by decide +kernel
theorem own_d1_32 : decode prog_78_method_2_code 32 = .ok (.ifCond .ge 7, 3) := by decide +kernel
theorem own_d1_35 : decode prog_78_method_2_code 35 = .ok (.iconst 1, 1) := by decide +kernel
theorem own_d1_36 : decode prog_78_method_2_code 36 = .ok (.goto 4, 3) := by decide +kernel
theorem own_d1_39 : decode prog_78_method_2_code 39 = .ok (.iconst 0, 1) := by decide +kernel
theorem own_d1_40 : decode prog_78_method_2_code 40 = .ok (.ireturn, 1) := by decide +kernel
theorem own_ef_rec (m : MethodId) (o : Addr) : entryFrame m #[(.ref o)] 1 = mkF m 0 #[.val (.ref o)] [] := by first | (simp [entryFrame, mkF, argsToLocals, Value.category]; done) | rfl
set_option maxRecDepth 65536 in
set_option maxHeartbeats 40000000 in
theorem own_rec (l : Launch) (Z : State) (a0 : Array Value) (hw : ∀ d ∈ tables_1, d.before a0 Z = true) (o : Addr)  (h0 : Heap) (n0 : Nat)  :
    OwnCon l Z (⟨"java/lang/Record", "<init>", "()V"⟩ : MethodName) jdk_30_method_1_code 1 none ({ frames := 1, cells := 0, slots := 0, locals := 12 } : Room) #[(.ref o)] h0 n0 (fun v h => v = none ∧ h0 = h) := by
  refine OwnCon.of own_pn0 (fun m => own_ef_rec m o) ?_
  intro p e s m below meth c s0 hx hby hml hown hnm hret hZ r
  have r1 : OwnW s0 n0 1 #[.val (.ref o)] [(.ref o)] h0 0 0 := r.go fun T t X k => XS.aloadN X hx rfl (hb hby own_d3_0) rfl rfl k
  have r2 : OwnW s0 n0 4 #[.val (.ref o)] [] h0 0 0 := r1.initO hx hZ hown (hw _ (List.mem_of_getElem? (i := 15) rfl)) (hw _ (List.mem_of_getElem? (i := 16) rfl)) (hw _ (List.mem_of_getElem? (i := 17) rfl)) (by rw [hml]; rfl) rfl (hb hby own_d3_1) (by decide) 0 (Nat.le_of_eq rfl) (by decide)
  have r3 := r2.retV hx hret (hb hby own_d3_4)
  exact ⟨_, _, 0, 0, ⟨rfl, rfl⟩, Nat.le_refl _, Nat.le_refl _, r3⟩
theorem own_ef_ini (m : MethodId) (o : Addr) (y0 : Int64) (y1 : Int64) (y2 : Addr) : entryFrame m #[(.ref o), (.long y0), (.long y1), (.ref y2), .null] 7 = mkF m 0 #[.val (.ref o), .val (.long y0), .second, .val (.long y1), .second, .val (.ref y2), .val .null] [] := by first | (simp [entryFrame, mkF, argsToLocals, Value.category]; done) | rfl
set_option maxRecDepth 65536 in
set_option maxHeartbeats 40000000 in
theorem own_ini (l : Launch) (Z : State) (a0 : Array Value) (hw : ∀ d ∈ tables_1, d.before a0 Z = true) (o : Addr) (y0 : Int64) (y1 : Int64) (y2 : Addr)  (h0 : Heap) (n0 : Nat) (E : Exa Z h0 o "com/example/slotwright/slotwright/solver/Snapshot") (F_violations : Fld Z h0 o "com/example/slotwright/slotwright/solver/Snapshot" "violations" "J" (.long (0 : Int64))) (F_cost : Fld Z h0 o "com/example/slotwright/slotwright/solver/Snapshot" "cost" "J" (.long (0 : Int64))) (F_values : Fld Z h0 o "com/example/slotwright/slotwright/solver/Snapshot" "values" "[I" .null) (F_enrolment : Fld Z h0 o "com/example/slotwright/slotwright/solver/Snapshot" "enrolment" "Lcom/example/slotwright/slotwright/solver/Enrolment;" .null) (g : n0 ≤ o)  :
    OwnCon l Z (⟨"com/example/slotwright/slotwright/solver/Snapshot", "<init>", "(JJ[ILcom/example/slotwright/slotwright/solver/Enrolment;)V"⟩ : MethodName) prog_78_method_1_code 7 none ({ frames := 2, cells := 0, slots := 0, locals := 24 } : Room) #[(.ref o), (.long y0), (.long y1), (.ref y2), .null] h0 n0 (fun v h => v = none ∧ Keep h0 h [o] ∧ Exa Z h o "com/example/slotwright/slotwright/solver/Snapshot" ∧ Fld Z h o "com/example/slotwright/slotwright/solver/Snapshot" "violations" "J" (.long y0) ∧ Fld Z h o "com/example/slotwright/slotwright/solver/Snapshot" "cost" "J" (.long y1) ∧ Fld Z h o "com/example/slotwright/slotwright/solver/Snapshot" "values" "[I" (.ref y2) ∧ Fld Z h o "com/example/slotwright/slotwright/solver/Snapshot" "enrolment" "Lcom/example/slotwright/slotwright/solver/Enrolment;" .null) := by
  refine OwnCon.of own_pn1 (fun m => own_ef_ini m o y0 y1 y2) ?_
  intro p e s m below meth c s0 hx hby hml hown hnm hret hZ r
  have K : Keep h0 h0 [o] := Keep.refl _ _
  have r1 : OwnW s0 n0 1 #[.val (.ref o), .val (.long y0), .second, .val (.long y1), .second, .val (.ref y2), .val .null] [(.ref o)] h0 0 0 := r.go fun T t X k => XS.aloadN X hx rfl (hb hby own_d2_0) rfl rfl k
  obtain ⟨vr2, hr2, r2, qr2⟩ := r1.callN hx hZ rfl hown (hw _ (List.mem_of_getElem? (i := 10) rfl)) (hw _ (List.mem_of_getElem? (i := 11) rfl)) (hw _ (List.mem_of_getElem? (i := 13) rfl)) (hw _ (List.mem_of_getElem? (i := 14) rfl)) (by decide) (a := o) (argsL := []) (own_rec l Z a0 hw o h0 n0) [] 0 (by decide) (by decide) (by rw [hml]; rfl) (lenOf own_pd0 rfl) rfl (Nat.le_of_eq rfl) (hb hby own_d2_1) (by decide) (by decide)
  obtain ⟨rfl, rfl⟩ := qr2
  have r2 : OwnW s0 n0 4 #[.val (.ref o), .val (.long y0), .second, .val (.long y1), .second, .val (.ref y2), .val .null] [] h0 0 0 := r2
  have r3 : OwnW s0 n0 5 #[.val (.ref o), .val (.long y0), .second, .val (.long y1), .second, .val (.ref y2), .val .null] [(.ref o)] h0 0 0 := r2.go fun T t X k => XS.aloadN X hx rfl (hb hby own_d2_4) rfl rfl k
  have r4 : OwnW s0 n0 6 #[.val (.ref o), .val (.long y0), .second, .val (.long y1), .second, .val (.ref y2), .val .null] [(.long y0), (.ref o)] h0 0 0 := r3.go fun T t X k => XS.lloadN X hx rfl (hb hby own_d2_5) rfl k
  obtain ⟨hr5, r5, Wr5⟩ := r4.putF hx hZ hown (hw _ (List.mem_of_getElem? (i := 18) rfl)) F_violations E (Or.inr ⟨(hw _ (List.mem_of_getElem? (i := 19) rfl)), rfl, hnm⟩) (hw _ (List.mem_of_getElem? (i := 6) rfl)) (ty := .long) (by decide) rfl rfl rfl (hb hby own_d2_6) g
  have r5 : OwnW s0 n0 9 #[.val (.ref o), .val (.long y0), .second, .val (.long y1), .second, .val (.ref y2), .val .null] [] hr5 0 0 := r5
  have F_violations := F_violations.same Wr5
  have F_cost := F_cost.other Wr5 (Or.inr (slot_ne (t := .long) (t' := .long) (Or.inr (hw _ (List.mem_of_getElem? (i := 21) rfl))) (Or.inr (hw _ (List.mem_of_getElem? (i := 19) rfl))) (by decide) (by decide) (by decide)))
  have F_values := F_values.other Wr5 (Or.inr (slot_ne (t := (.array .int)) (t' := .long) (Or.inr (hw _ (List.mem_of_getElem? (i := 23) rfl))) (Or.inr (hw _ (List.mem_of_getElem? (i := 19) rfl))) (by decide) (by decide) (by decide)))
  have F_enrolment := F_enrolment.other Wr5 (Or.inr (slot_ne (t := (.object "com/example/slotwright/slotwright/solver/Enrolment")) (t' := .long) (Or.inr (hw _ (List.mem_of_getElem? (i := 25) rfl))) (Or.inr (hw _ (List.mem_of_getElem? (i := 19) rfl))) (by decide) (by decide) (by decide)))
  have E := E.wr Wr5
  have K := K.wr Wr5 (Or.inl (List.mem_of_getElem? (i := 0) rfl))
  have r6 : OwnW s0 n0 10 #[.val (.ref o), .val (.long y0), .second, .val (.long y1), .second, .val (.ref y2), .val .null] [(.ref o)] hr5 0 0 := r5.go fun T t X k => XS.aloadN X hx rfl (hb hby own_d2_9) rfl rfl k
  have r7 : OwnW s0 n0 11 #[.val (.ref o), .val (.long y0), .second, .val (.long y1), .second, .val (.ref y2), .val .null] [(.long y1), (.ref o)] hr5 0 0 := r6.go fun T t X k => XS.lloadN X hx rfl (hb hby own_d2_10) rfl k
  obtain ⟨hr8, r8, Wr8⟩ := r7.putF hx hZ hown (hw _ (List.mem_of_getElem? (i := 20) rfl)) F_cost E (Or.inr ⟨(hw _ (List.mem_of_getElem? (i := 21) rfl)), rfl, hnm⟩) (hw _ (List.mem_of_getElem? (i := 6) rfl)) (ty := .long) (by decide) rfl rfl rfl (hb hby own_d2_11) g
  have r8 : OwnW s0 n0 14 #[.val (.ref o), .val (.long y0), .second, .val (.long y1), .second, .val (.ref y2), .val .null] [] hr8 0 0 := r8
  have F_violations := F_violations.other Wr8 (Or.inr (slot_ne (t := .long) (t' := .long) (Or.inr (hw _ (List.mem_of_getElem? (i := 19) rfl))) (Or.inr (hw _ (List.mem_of_getElem? (i := 21) rfl))) (by decide) (by decide) (by decide)))
  have F_cost := F_cost.same Wr8
  have F_values := F_values.other Wr8 (Or.inr (slot_ne (t := (.array .int)) (t' := .long) (Or.inr (hw _ (List.mem_of_getElem? (i := 23) rfl))) (Or.inr (hw _ (List.mem_of_getElem? (i := 21) rfl))) (by decide) (by decide) (by decide)))
  have F_enrolment := F_enrolment.other Wr8 (Or.inr (slot_ne (t := (.object "com/example/slotwright/slotwright/solver/Enrolment")) (t' := .long) (Or.inr (hw _ (List.mem_of_getElem? (i := 25) rfl))) (Or.inr (hw _ (List.mem_of_getElem? (i := 21) rfl))) (by decide) (by decide) (by decide)))
  have E := E.wr Wr8
  have K := K.wr Wr8 (Or.inl (List.mem_of_getElem? (i := 0) rfl))
  have r9 : OwnW s0 n0 15 #[.val (.ref o), .val (.long y0), .second, .val (.long y1), .second, .val (.ref y2), .val .null] [(.ref o)] hr8 0 0 := r8.go fun T t X k => XS.aloadN X hx rfl (hb hby own_d2_14) rfl rfl k
  have r10 : OwnW s0 n0 17 #[.val (.ref o), .val (.long y0), .second, .val (.long y1), .second, .val (.ref y2), .val .null] [(.ref y2), (.ref o)] hr8 0 0 := r9.go fun T t X k => XS.aload X hx rfl (hb hby own_d2_15) rfl rfl k
  obtain ⟨hr11, r11, Wr11⟩ := r10.putF hx hZ hown (hw _ (List.mem_of_getElem? (i := 22) rfl)) F_values E (Or.inr ⟨(hw _ (List.mem_of_getElem? (i := 23) rfl)), rfl, hnm⟩) (hw _ (List.mem_of_getElem? (i := 6) rfl)) (ty := (.array .int)) (by decide) rfl rfl rfl (hb hby own_d2_17) g
  have r11 : OwnW s0 n0 20 #[.val (.ref o), .val (.long y0), .second, .val (.long y1), .second, .val (.ref y2), .val .null] [] hr11 0 0 := r11
  have F_violations := F_violations.other Wr11 (Or.inr (slot_ne (t := .long) (t' := (.array .int)) (Or.inr (hw _ (List.mem_of_getElem? (i := 19) rfl))) (Or.inr (hw _ (List.mem_of_getElem? (i := 23) rfl))) (by decide) (by decide) (by decide)))
  have F_cost := F_cost.other Wr11 (Or.inr (slot_ne (t := .long) (t' := (.array .int)) (Or.inr (hw _ (List.mem_of_getElem? (i := 21) rfl))) (Or.inr (hw _ (List.mem_of_getElem? (i := 23) rfl))) (by decide) (by decide) (by decide)))
  have F_values := F_values.same Wr11
  have F_enrolment := F_enrolment.other Wr11 (Or.inr (slot_ne (t := (.object "com/example/slotwright/slotwright/solver/Enrolment")) (t' := (.array .int)) (Or.inr (hw _ (List.mem_of_getElem? (i := 25) rfl))) (Or.inr (hw _ (List.mem_of_getElem? (i := 23) rfl))) (by decide) (by decide) (by decide)))
  have E := E.wr Wr11
  have K := K.wr Wr11 (Or.inl (List.mem_of_getElem? (i := 0) rfl))
  have r12 : OwnW s0 n0 21 #[.val (.ref o), .val (.long y0), .second, .val (.long y1), .second, .val (.ref y2), .val .null] [(.ref o)] hr11 0 0 := r11.go fun T t X k => XS.aloadN X hx rfl (hb hby own_d2_20) rfl rfl k
  have r13 : OwnW s0 n0 23 #[.val (.ref o), .val (.long y0), .second, .val (.long y1), .second, .val (.ref y2), .val .null] [.null, (.ref o)] hr11 0 0 := r12.go fun T t X k => XS.aload X hx rfl (hb hby own_d2_21) rfl rfl k
  obtain ⟨hr14, r14, Wr14⟩ := r13.putF hx hZ hown (hw _ (List.mem_of_getElem? (i := 24) rfl)) F_enrolment E (Or.inr ⟨(hw _ (List.mem_of_getElem? (i := 25) rfl)), rfl, hnm⟩) (hw _ (List.mem_of_getElem? (i := 6) rfl)) (ty := (.object "com/example/slotwright/slotwright/solver/Enrolment")) (by decide) rfl rfl rfl (hb hby own_d2_23) g
  have r14 : OwnW s0 n0 26 #[.val (.ref o), .val (.long y0), .second, .val (.long y1), .second, .val (.ref y2), .val .null] [] hr14 0 0 := r14
  have F_violations := F_violations.other Wr14 (Or.inr (slot_ne (t := .long) (t' := (.object "com/example/slotwright/slotwright/solver/Enrolment")) (Or.inr (hw _ (List.mem_of_getElem? (i := 19) rfl))) (Or.inr (hw _ (List.mem_of_getElem? (i := 25) rfl))) (by decide) (by decide) (by decide)))
  have F_cost := F_cost.other Wr14 (Or.inr (slot_ne (t := .long) (t' := (.object "com/example/slotwright/slotwright/solver/Enrolment")) (Or.inr (hw _ (List.mem_of_getElem? (i := 21) rfl))) (Or.inr (hw _ (List.mem_of_getElem? (i := 25) rfl))) (by decide) (by decide) (by decide)))
  have F_values := F_values.other Wr14 (Or.inr (slot_ne (t := (.array .int)) (t' := (.object "com/example/slotwright/slotwright/solver/Enrolment")) (Or.inr (hw _ (List.mem_of_getElem? (i := 23) rfl))) (Or.inr (hw _ (List.mem_of_getElem? (i := 25) rfl))) (by decide) (by decide) (by decide)))
  have F_enrolment := F_enrolment.same Wr14
  have E := E.wr Wr14
  have K := K.wr Wr14 (Or.inl (List.mem_of_getElem? (i := 0) rfl))
  have r15 := r14.retV hx hret (hb hby own_d2_26)
  exact ⟨_, _, 0, 0, ⟨rfl, K, E, F_violations, F_cost, F_values, F_enrolment⟩, by decide, by decide, r15⟩
def own_rk (y0 y1 : Int64) (z0 z1 : Int64) : Int32 := if y0 < z0 then 1 else if y0 = z0 then (if y1 < z1 then 1 else 0) else 0
theorem own_gt {y z : Int64} (h : z < y) : ¬ y < z ∧ ¬ y = z := by
  rw [Int64.lt_iff_toInt_lt] at h
  constructor
  · rw [Int64.lt_iff_toInt_lt]; omega
  · intro q; subst q; omega
theorem own_tri {y z : Int64} (h1 : ¬ z < y) (h2 : ¬ y < z) : y = z := by
  rw [Int64.lt_iff_toInt_lt] at h1 h2
  exact Int64.toInt_inj.mp (by omega)
theorem own_ef_rkn (m : MethodId) (y0 : Int64) (y1 : Int64) : entryFrame m #[(.long y0), (.long y1), .null] 5 = mkF m 0 #[.val (.long y0), .second, .val (.long y1), .second, .val .null] [] := by first | (simp [entryFrame, mkF, argsToLocals, Value.category]; done) | rfl
set_option maxRecDepth 65536 in
set_option maxHeartbeats 40000000 in
theorem own_rkn (l : Launch) (Z : State) (a0 : Array Value) (hw : ∀ d ∈ tables_1, d.before a0 Z = true) (y0 : Int64) (y1 : Int64)  (h0 : Heap) (n0 : Nat)  :
    OwnCon l Z (⟨"com/example/slotwright/slotwright/solver/Snapshot", "ranksBefore", "(JJLcom/example/slotwright/slotwright/solver/Snapshot;)Z"⟩ : MethodName) prog_78_method_2_code 5 (some .boolean) ({ frames := 0, cells := 0, slots := 0, locals := 0 } : Room) #[(.long y0), (.long y1), .null] h0 n0 (fun v h => v = some (.int 1) ∧ h0 = h) := by
  refine OwnCon.of own_pn1 (fun m => own_ef_rkn m y0 y1) ?_
  intro p e s m below meth c s0 hx hby hml hown hnm hret hZ r
  have r1 : OwnW s0 n0 2 #[.val (.long y0), .second, .val (.long y1), .second, .val .null] [.null] h0 0 0 := r.go fun T t X k => XS.aload X hx rfl (hb hby own_d1_0) rfl rfl k
  have r2 : OwnW s0 n0 35 #[.val (.long y0), .second, .val (.long y1), .second, .val .null] [] h0 0 0 := r1.go fun T t X k => XS.ifnullYes X hx rfl (pc0 := 2) (pc' := 35) rfl (hb hby own_d1_2) rfl (by decide) (by decide) k
  have r3 : OwnW s0 n0 36 #[.val (.long y0), .second, .val (.long y1), .second, .val .null] [(.int (1 : Int32))] h0 0 0 := r2.go fun T t X k => XS.iconst X hx rfl (hb hby own_d1_35) k
  have r4 : OwnW s0 n0 40 #[.val (.long y0), .second, .val (.long y1), .second, .val .null] [(.int (1 : Int32))] h0 0 0 := r3.go fun T t X k => XS.goto X hx rfl (pc0 := 36) (pc' := 40) rfl (hb hby own_d1_36) (by decide) (by decide) k
  have r5 := r4.retN hx hret (by simp) rfl (hb hby own_d1_40)
  exact ⟨_, _, 0, 0, ⟨rfl, rfl⟩, Nat.le_refl _, Nat.le_refl _, r5⟩
theorem own_ef_rkr (m : MethodId) (y0 : Int64) (y1 : Int64) (o : Addr) : entryFrame m #[(.long y0), (.long y1), (.ref o)] 5 = mkF m 0 #[.val (.long y0), .second, .val (.long y1), .second, .val (.ref o)] [] := by first | (simp [entryFrame, mkF, argsToLocals, Value.category]; done) | rfl
set_option maxRecDepth 65536 in
set_option maxHeartbeats 40000000 in
theorem own_rkr (l : Launch) (Z : State) (a0 : Array Value) (hw : ∀ d ∈ tables_1, d.before a0 Z = true) (y0 : Int64) (y1 : Int64) (o : Addr) (z0 z1 : Int64) (h0 : Heap) (n0 : Nat) (F0 : Fld Z h0 o "com/example/slotwright/slotwright/solver/Snapshot" "violations" "J" (.long z0)) (F1 : Fld Z h0 o "com/example/slotwright/slotwright/solver/Snapshot" "cost" "J" (.long z1)) :
    OwnCon l Z (⟨"com/example/slotwright/slotwright/solver/Snapshot", "ranksBefore", "(JJLcom/example/slotwright/slotwright/solver/Snapshot;)Z"⟩ : MethodName) prog_78_method_2_code 5 (some .boolean) ({ frames := 0, cells := 0, slots := 0, locals := 0 } : Room) #[(.long y0), (.long y1), (.ref o)] h0 n0 (fun v h => v = some (.int (own_rk y0 y1 z0 z1)) ∧ h0 = h) := by
  refine OwnCon.of own_pn1 (fun m => own_ef_rkr m y0 y1 o) ?_
  intro p e s m below meth c s0 hx hby hml hown hnm hret hZ r
  have r1 : OwnW s0 n0 2 #[.val (.long y0), .second, .val (.long y1), .second, .val (.ref o)] [(.ref o)] h0 0 0 := r.go fun T t X k => XS.aload X hx rfl (hb hby own_d1_0) rfl rfl k
  have r2 : OwnW s0 n0 5 #[.val (.long y0), .second, .val (.long y1), .second, .val (.ref o)] [] h0 0 0 := r1.go fun T t X k => XS.ifnullNo X hx rfl (hb hby own_d1_2) rfl k
  have r3 : OwnW s0 n0 6 #[.val (.long y0), .second, .val (.long y1), .second, .val (.ref o)] [(.long y0)] h0 0 0 := r2.go fun T t X k => XS.lloadN X hx rfl (hb hby own_d1_5) rfl k
  have r4 : OwnW s0 n0 8 #[.val (.long y0), .second, .val (.long y1), .second, .val (.ref o)] [(.ref o), (.long y0)] h0 0 0 := r3.go fun T t X k => XS.aload X hx rfl (hb hby own_d1_6) rfl rfl k
  have r5 : OwnW s0 n0 11 #[.val (.long y0), .second, .val (.long y1), .second, .val (.ref o)] [(.long z0), (.long y0)] h0 0 0 := r4.getF hx hZ hown (hw _ (List.mem_of_getElem? (i := 18) rfl)) F0 rfl (hb hby own_d1_8)
  have r6 : OwnW s0 n0 12 #[.val (.long y0), .second, .val (.long y1), .second, .val (.ref o)] [(.int (lcmpW y0 z0))] h0 0 0 := r5.go fun T t X k => XS.lcmp X hx rfl (hb hby own_d1_11) rfl k
  by_cases h1 : y0 < z0
  · have ra := r6
    have ra7 : OwnW s0 n0 35 #[.val (.long y0), .second, .val (.long y1), .second, .val (.ref o)] [] h0 0 0 := ra.go fun T t X k => XS.ifYes X hx rfl (pc0 := 12) (pc' := 35) rfl (hb hby own_d1_12) rfl ((if0 _ _).trans (tlt ((lw_lt _ _).mpr h1)).1) (by decide) (by decide) k
    have ra8 : OwnW s0 n0 36 #[.val (.long y0), .second, .val (.long y1), .second, .val (.ref o)] [(.int (1 : Int32))] h0 0 0 := ra7.go fun T t X k => XS.iconst X hx rfl (hb hby own_d1_35) k
    have ra9 : OwnW s0 n0 40 #[.val (.long y0), .second, .val (.long y1), .second, .val (.ref o)] [(.int (1 : Int32))] h0 0 0 := ra8.go fun T t X k => XS.goto X hx rfl (pc0 := 36) (pc' := 40) rfl (hb hby own_d1_36) (by decide) (by decide) k
    have ra10 := ra9.retN hx hret (by simp) rfl (hb hby own_d1_40)
    exact ⟨_, _, 0, 0, ⟨by simp only [own_rk, if_pos h1]; rfl, rfl⟩, Nat.le_refl _, Nat.le_refl _, ra10⟩
  · have rb := r6
    have rb7 : OwnW s0 n0 15 #[.val (.long y0), .second, .val (.long y1), .second, .val (.ref o)] [] h0 0 0 := rb.go fun T t X k => XS.ifNo X hx rfl (hb hby own_d1_12) rfl ((if0 _ _).trans (flt (fun q => h1 ((lw_lt _ _).mp q))).1) k
    have rb8 : OwnW s0 n0 16 #[.val (.long y0), .second, .val (.long y1), .second, .val (.ref o)] [(.long y0)] h0 0 0 := rb7.go fun T t X k => XS.lloadN X hx rfl (hb hby own_d1_15) rfl k
    have rb9 : OwnW s0 n0 18 #[.val (.long y0), .second, .val (.long y1), .second, .val (.ref o)] [(.ref o), (.long y0)] h0 0 0 := rb8.go fun T t X k => XS.aload X hx rfl (hb hby own_d1_16) rfl rfl k
    have rb10 : OwnW s0 n0 21 #[.val (.long y0), .second, .val (.long y1), .second, .val (.ref o)] [(.long z0), (.long y0)] h0 0 0 := rb9.getF hx hZ hown (hw _ (List.mem_of_getElem? (i := 18) rfl)) F0 rfl (hb hby own_d1_18)
    have rb11 : OwnW s0 n0 22 #[.val (.long y0), .second, .val (.long y1), .second, .val (.ref o)] [(.int (lcmpW y0 z0))] h0 0 0 := rb10.go fun T t X k => XS.lcmp X hx rfl (hb hby own_d1_21) rfl k
    by_cases h2 : y0 = z0
    · have rc := rb11
      have rc12 : OwnW s0 n0 25 #[.val (.long y0), .second, .val (.long y1), .second, .val (.ref o)] [] h0 0 0 := rc.go fun T t X k => XS.ifNo X hx rfl (hb hby own_d1_22) rfl ((if0 _ _).trans (teq ((lw_eq _ _).mpr h2)).2) k
      have rc13 : OwnW s0 n0 26 #[.val (.long y0), .second, .val (.long y1), .second, .val (.ref o)] [(.long y1)] h0 0 0 := rc12.go fun T t X k => XS.lloadN X hx rfl (hb hby own_d1_25) rfl k
      have rc14 : OwnW s0 n0 28 #[.val (.long y0), .second, .val (.long y1), .second, .val (.ref o)] [(.ref o), (.long y1)] h0 0 0 := rc13.go fun T t X k => XS.aload X hx rfl (hb hby own_d1_26) rfl rfl k
      have rc15 : OwnW s0 n0 31 #[.val (.long y0), .second, .val (.long y1), .second, .val (.ref o)] [(.long z1), (.long y1)] h0 0 0 := rc14.getF hx hZ hown (hw _ (List.mem_of_getElem? (i := 20) rfl)) F1 rfl (hb hby own_d1_28)
      have rc16 : OwnW s0 n0 32 #[.val (.long y0), .second, .val (.long y1), .second, .val (.ref o)] [(.int (lcmpW y1 z1))] h0 0 0 := rc15.go fun T t X k => XS.lcmp X hx rfl (hb hby own_d1_31) rfl k
      by_cases h3 : y1 < z1
      · have rd := rc16
        have rd17 : OwnW s0 n0 35 #[.val (.long y0), .second, .val (.long y1), .second, .val (.ref o)] [] h0 0 0 := rd.go fun T t X k => XS.ifNo X hx rfl (hb hby own_d1_32) rfl ((if0 _ _).trans (tlt ((lw_lt _ _).mpr h3)).2.1) k
        have rd18 : OwnW s0 n0 36 #[.val (.long y0), .second, .val (.long y1), .second, .val (.ref o)] [(.int (1 : Int32))] h0 0 0 := rd17.go fun T t X k => XS.iconst X hx rfl (hb hby own_d1_35) k
        have rd19 : OwnW s0 n0 40 #[.val (.long y0), .second, .val (.long y1), .second, .val (.ref o)] [(.int (1 : Int32))] h0 0 0 := rd18.go fun T t X k => XS.goto X hx rfl (pc0 := 36) (pc' := 40) rfl (hb hby own_d1_36) (by decide) (by decide) k
        have rd20 := rd19.retN hx hret (by simp) rfl (hb hby own_d1_40)
        exact ⟨_, _, 0, 0, ⟨by simp only [own_rk, if_neg h1, if_pos h2, if_pos h3]; rfl, rfl⟩, Nat.le_refl _, Nat.le_refl _, rd20⟩
      · have re := rc16
        have re17 : OwnW s0 n0 39 #[.val (.long y0), .second, .val (.long y1), .second, .val (.ref o)] [] h0 0 0 := re.go fun T t X k => XS.ifYes X hx rfl (pc0 := 32) (pc' := 39) rfl (hb hby own_d1_32) rfl ((if0 _ _).trans (flt (fun q => h3 ((lw_lt _ _).mp q))).2.1) (by decide) (by decide) k
        have re18 : OwnW s0 n0 40 #[.val (.long y0), .second, .val (.long y1), .second, .val (.ref o)] [(.int (0 : Int32))] h0 0 0 := re17.go fun T t X k => XS.iconst X hx rfl (hb hby own_d1_39) k
        have re19 := re18.retN hx hret (by simp) rfl (hb hby own_d1_40)
        exact ⟨_, _, 0, 0, ⟨by simp only [own_rk, if_neg h1, if_pos h2, if_neg h3]; rfl, rfl⟩, Nat.le_refl _, Nat.le_refl _, re19⟩
    · have rf := rb11
      have rf12 : OwnW s0 n0 39 #[.val (.long y0), .second, .val (.long y1), .second, .val (.ref o)] [] h0 0 0 := rf.go fun T t X k => XS.ifYes X hx rfl (pc0 := 22) (pc' := 39) rfl (hb hby own_d1_22) rfl ((if0 _ _).trans (feq (fun q => h2 ((lw_eq _ _).mp q))).2) (by decide) (by decide) k
      have rf13 : OwnW s0 n0 40 #[.val (.long y0), .second, .val (.long y1), .second, .val (.ref o)] [(.int (0 : Int32))] h0 0 0 := rf12.go fun T t X k => XS.iconst X hx rfl (hb hby own_d1_39) k
      have rf14 := rf13.retN hx hret (by simp) rfl (hb hby own_d1_40)
      exact ⟨_, _, 0, 0, ⟨by simp only [own_rk, if_neg h1, if_neg h2]; rfl, rfl⟩, Nat.le_refl _, Nat.le_refl _, rf14⟩
theorem own_ef_law (m : MethodId) (x0 : Int64) (x1 : Int64) (x2 : Int64) (x3 : Int64) (x4 : Int32) : entryFrame m #[(.long x0), (.long x1), (.long x2), (.long x3), (.int x4)] maxLocals = mkF m 0 #[.val (.long x0), .second, .val (.long x1), .second, .val (.long x2), .second, .val (.long x3), .second, .val (.int x4), .unset, .unset, .unset, .unset, .unset, .unset, .unset, .unset, .unset] [] := by first | (simp [entryFrame, mkF, argsToLocals, Value.category, maxLocals]; done) | rfl
set_option maxRecDepth 65536 in
set_option maxHeartbeats 40000000 in
theorem own_law (l : Launch) (Z : State) (a0 : Array Value) (hw : ∀ d ∈ tables_1, d.before a0 Z = true) (x0 : Int64) (x1 : Int64) (x2 : Int64) (x3 : Int64) (x4 : Int32)  (h0 : Heap) (n0 : Nat) (Z0 : n0 ≤ h0.size) :
    OwnCon l Z x code maxLocals ret room_1 #[(.long x0), (.long x1), (.long x2), (.long x3), (.int x4)] h0 n0 (fun v h => v = some (.int 1)) := by
  refine OwnCon.of own_pn2 (fun m => own_ef_law m x0 x1 x2 x3 x4) ?_
  intro p e s m below meth c s0 hx hby hml hown hnm hret hZ r
  have hown : s.vm.findClass "com/example/slotwright/slotwright/solver/SnapshotRanksBeforePinLaw" = some m.cls := hown
  have r1 : OwnW s0 n0 2 #[.val (.long x0), .second, .val (.long x1), .second, .val (.long x2), .second, .val (.long x3), .second, .val (.int x4), .unset, .unset, .unset, .unset, .unset, .unset, .unset, .unset, .unset] [(.int x4)] h0 0 0 := r.go fun T t X k => XS.iload X hx rfl (hb hby at_0) rfl k
  have r2 : OwnW s0 n0 3 #[.val (.long x0), .second, .val (.long x1), .second, .val (.long x2), .second, .val (.long x3), .second, .val (.int x4), .unset, .unset, .unset, .unset, .unset, .unset, .unset, .unset, .unset] [(.int (1 : Int32)), (.int x4)] h0 0 0 := r1.go fun T t X k => XS.iconst X hx rfl (hb hby at_2) k
  have r3 : OwnW s0 n0 4 #[.val (.long x0), .second, .val (.long x1), .second, .val (.long x2), .second, .val (.long x3), .second, .val (.int x4), .unset, .unset, .unset, .unset, .unset, .unset, .unset, .unset, .unset] [(.int (x4 &&& (1 : Int32)))] h0 0 0 := r2.go fun T t X k => XS.iand X hx rfl (hb hby at_3) rfl k
  obtain ⟨no, hno, r⟩ : ∃ no : Int32, (no = (0 : Int32) ∨ no = (1 : Int32)) ∧ OwnW (p := p) (l := l) (e := e) (R := room_1) (s := s) (m := m) (args := #[(.long x0), (.long x1), (.long x2), (.long x3), (.int x4)]) (below := below) (meth := meth) (c := c) s0 n0 12 #[.val (.long x0), .second, .val (.long x1), .second, .val (.long x2), .second, .val (.long x3), .second, .val (.int x4), .unset, .unset, .unset, .unset, .unset, .unset, .unset, .unset, .unset] [(.int no)] h0 0 0 := by
    by_cases hc : (x4 &&& (1 : Int32)) = (0 : Int32)
    · have ra := r3
      have ra4 : OwnW s0 n0 11 #[.val (.long x0), .second, .val (.long x1), .second, .val (.long x2), .second, .val (.long x3), .second, .val (.int x4), .unset, .unset, .unset, .unset, .unset, .unset, .unset, .unset, .unset] [] h0 0 0 := ra.go fun T t X k => XS.ifYes X hx rfl (pc0 := 4) (pc' := 11) rfl (hb hby at_4) rfl ((if0 _ _).trans (teq hc).1) (by decide) (by decide) k
      have ra5 : OwnW s0 n0 12 #[.val (.long x0), .second, .val (.long x1), .second, .val (.long x2), .second, .val (.long x3), .second, .val (.int x4), .unset, .unset, .unset, .unset, .unset, .unset, .unset, .unset, .unset] [(.int (0 : Int32))] h0 0 0 := ra4.go fun T t X k => XS.iconst X hx rfl (hb hby at_11) k
      exact ⟨_, Or.inl rfl, ra5⟩
    · have rb := r3
      have rb4 : OwnW s0 n0 7 #[.val (.long x0), .second, .val (.long x1), .second, .val (.long x2), .second, .val (.long x3), .second, .val (.int x4), .unset, .unset, .unset, .unset, .unset, .unset, .unset, .unset, .unset] [] h0 0 0 := rb.go fun T t X k => XS.ifNo X hx rfl (hb hby at_4) rfl ((if0 _ _).trans (feq hc).1) k
      have rb5 : OwnW s0 n0 8 #[.val (.long x0), .second, .val (.long x1), .second, .val (.long x2), .second, .val (.long x3), .second, .val (.int x4), .unset, .unset, .unset, .unset, .unset, .unset, .unset, .unset, .unset] [(.int (1 : Int32))] h0 0 0 := rb4.go fun T t X k => XS.iconst X hx rfl (hb hby at_7) k
      have rb6 : OwnW s0 n0 12 #[.val (.long x0), .second, .val (.long x1), .second, .val (.long x2), .second, .val (.long x3), .second, .val (.int x4), .unset, .unset, .unset, .unset, .unset, .unset, .unset, .unset, .unset] [(.int (1 : Int32))] h0 0 0 := rb5.go fun T t X k => XS.goto X hx rfl (pc0 := 8) (pc' := 12) rfl (hb hby at_8) (by decide) (by decide) k
      exact ⟨_, Or.inr rfl, rb6⟩
  have r24 : OwnW s0 n0 14 #[.val (.long x0), .second, .val (.long x1), .second, .val (.long x2), .second, .val (.long x3), .second, .val (.int x4), .val (.int no), .unset, .unset, .unset, .unset, .unset, .unset, .unset, .unset] [] h0 0 0 := r.go fun T t X k => XS.istore X hx rfl (hb hby at_12) rfl (l' := #[.val (.long x0), .second, .val (.long x1), .second, .val (.long x2), .second, .val (.long x3), .second, .val (.int x4), .val (.int no), .unset, .unset, .unset, .unset, .unset, .unset, .unset, .unset]) rfl k
  have r25 : OwnW s0 n0 16 #[.val (.long x0), .second, .val (.long x1), .second, .val (.long x2), .second, .val (.long x3), .second, .val (.int x4), .val (.int no), .unset, .unset, .unset, .unset, .unset, .unset, .unset, .unset] [(.int x4)] h0 0 0 := r24.go fun T t X k => XS.iload X hx rfl (hb hby at_14) rfl k
  have r26 : OwnW s0 n0 17 #[.val (.long x0), .second, .val (.long x1), .second, .val (.long x2), .second, .val (.long x3), .second, .val (.int x4), .val (.int no), .unset, .unset, .unset, .unset, .unset, .unset, .unset, .unset] [(.int (2 : Int32)), (.int x4)] h0 0 0 := r25.go fun T t X k => XS.iconst X hx rfl (hb hby at_16) k
  have r27 : OwnW s0 n0 18 #[.val (.long x0), .second, .val (.long x1), .second, .val (.long x2), .second, .val (.long x3), .second, .val (.int x4), .val (.int no), .unset, .unset, .unset, .unset, .unset, .unset, .unset, .unset] [(.int (x4 &&& (2 : Int32)))] h0 0 0 := r26.go fun T t X k => XS.iand X hx rfl (hb hby at_17) rfl k
  obtain ⟨yv, -, r⟩ : ∃ yv : Int64, True ∧ OwnW (p := p) (l := l) (e := e) (R := room_1) (s := s) (m := m) (args := #[(.long x0), (.long x1), (.long x2), (.long x3), (.int x4)]) (below := below) (meth := meth) (c := c) s0 n0 27 #[.val (.long x0), .second, .val (.long x1), .second, .val (.long x2), .second, .val (.long x3), .second, .val (.int x4), .val (.int no), .unset, .unset, .unset, .unset, .unset, .unset, .unset, .unset] [(.long yv)] h0 0 0 := by
    by_cases hc : (x4 &&& (2 : Int32)) = (0 : Int32)
    · have ra := r27
      have ra28 : OwnW s0 n0 25 #[.val (.long x0), .second, .val (.long x1), .second, .val (.long x2), .second, .val (.long x3), .second, .val (.int x4), .val (.int no), .unset, .unset, .unset, .unset, .unset, .unset, .unset, .unset] [] h0 0 0 := ra.go fun T t X k => XS.ifYes X hx rfl (pc0 := 18) (pc' := 25) rfl (hb hby at_18) rfl ((if0 _ _).trans (teq hc).1) (by decide) (by decide) k
      have ra29 : OwnW s0 n0 27 #[.val (.long x0), .second, .val (.long x1), .second, .val (.long x2), .second, .val (.long x3), .second, .val (.int x4), .val (.int no), .unset, .unset, .unset, .unset, .unset, .unset, .unset, .unset] [(.long x2)] h0 0 0 := ra28.go fun T t X k => XS.lload X hx rfl (hb hby at_25) rfl k
      exact ⟨_, trivial, ra29⟩
    · have rb := r27
      have rb28 : OwnW s0 n0 21 #[.val (.long x0), .second, .val (.long x1), .second, .val (.long x2), .second, .val (.long x3), .second, .val (.int x4), .val (.int no), .unset, .unset, .unset, .unset, .unset, .unset, .unset, .unset] [] h0 0 0 := rb.go fun T t X k => XS.ifNo X hx rfl (hb hby at_18) rfl ((if0 _ _).trans (feq hc).1) k
      have rb29 : OwnW s0 n0 22 #[.val (.long x0), .second, .val (.long x1), .second, .val (.long x2), .second, .val (.long x3), .second, .val (.int x4), .val (.int no), .unset, .unset, .unset, .unset, .unset, .unset, .unset, .unset] [(.long x0)] h0 0 0 := rb28.go fun T t X k => XS.lloadN X hx rfl (hb hby at_21) rfl k
      have rb30 : OwnW s0 n0 27 #[.val (.long x0), .second, .val (.long x1), .second, .val (.long x2), .second, .val (.long x3), .second, .val (.int x4), .val (.int no), .unset, .unset, .unset, .unset, .unset, .unset, .unset, .unset] [(.long x0)] h0 0 0 := rb29.go fun T t X k => XS.goto X hx rfl (pc0 := 22) (pc' := 27) rfl (hb hby at_22) (by decide) (by decide) k
      exact ⟨_, trivial, rb30⟩
  have r48 : OwnW s0 n0 29 #[.val (.long x0), .second, .val (.long x1), .second, .val (.long x2), .second, .val (.long x3), .second, .val (.int x4), .val (.int no), .val (.long yv), .second, .unset, .unset, .unset, .unset, .unset, .unset] [] h0 0 0 := r.go fun T t X k => XS.lstore X hx rfl (hb hby at_27) rfl (l' := #[.val (.long x0), .second, .val (.long x1), .second, .val (.long x2), .second, .val (.long x3), .second, .val (.int x4), .val (.int no), .val (.long yv), .second, .unset, .unset, .unset, .unset, .unset, .unset]) rfl k
  have r49 : OwnW s0 n0 31 #[.val (.long x0), .second, .val (.long x1), .second, .val (.long x2), .second, .val (.long x3), .second, .val (.int x4), .val (.int no), .val (.long yv), .second, .unset, .unset, .unset, .unset, .unset, .unset] [(.int x4)] h0 0 0 := r48.go fun T t X k => XS.iload X hx rfl (hb hby at_29) rfl k
  have r50 : OwnW s0 n0 32 #[.val (.long x0), .second, .val (.long x1), .second, .val (.long x2), .second, .val (.long x3), .second, .val (.int x4), .val (.int no), .val (.long yv), .second, .unset, .unset, .unset, .unset, .unset, .unset] [(.int (4 : Int32)), (.int x4)] h0 0 0 := r49.go fun T t X k => XS.iconst X hx rfl (hb hby at_31) k
  have r51 : OwnW s0 n0 33 #[.val (.long x0), .second, .val (.long x1), .second, .val (.long x2), .second, .val (.long x3), .second, .val (.int x4), .val (.int no), .val (.long yv), .second, .unset, .unset, .unset, .unset, .unset, .unset] [(.int (x4 &&& (4 : Int32)))] h0 0 0 := r50.go fun T t X k => XS.iand X hx rfl (hb hby at_32) rfl k
  obtain ⟨yc, -, r⟩ : ∃ yc : Int64, True ∧ OwnW (p := p) (l := l) (e := e) (R := room_1) (s := s) (m := m) (args := #[(.long x0), (.long x1), (.long x2), (.long x3), (.int x4)]) (below := below) (meth := meth) (c := c) s0 n0 42 #[.val (.long x0), .second, .val (.long x1), .second, .val (.long x2), .second, .val (.long x3), .second, .val (.int x4), .val (.int no), .val (.long yv), .second, .unset, .unset, .unset, .unset, .unset, .unset] [(.long yc)] h0 0 0 := by
    by_cases hc : (x4 &&& (4 : Int32)) = (0 : Int32)
    · have ra := r51
      have ra52 : OwnW s0 n0 40 #[.val (.long x0), .second, .val (.long x1), .second, .val (.long x2), .second, .val (.long x3), .second, .val (.int x4), .val (.int no), .val (.long yv), .second, .unset, .unset, .unset, .unset, .unset, .unset] [] h0 0 0 := ra.go fun T t X k => XS.ifYes X hx rfl (pc0 := 33) (pc' := 40) rfl (hb hby at_33) rfl ((if0 _ _).trans (teq hc).1) (by decide) (by decide) k
      have ra53 : OwnW s0 n0 42 #[.val (.long x0), .second, .val (.long x1), .second, .val (.long x2), .second, .val (.long x3), .second, .val (.int x4), .val (.int no), .val (.long yv), .second, .unset, .unset, .unset, .unset, .unset, .unset] [(.long x3)] h0 0 0 := ra52.go fun T t X k => XS.lload X hx rfl (hb hby at_40) rfl k
      exact ⟨_, trivial, ra53⟩
    · have rb := r51
      have rb52 : OwnW s0 n0 36 #[.val (.long x0), .second, .val (.long x1), .second, .val (.long x2), .second, .val (.long x3), .second, .val (.int x4), .val (.int no), .val (.long yv), .second, .unset, .unset, .unset, .unset, .unset, .unset] [] h0 0 0 := rb.go fun T t X k => XS.ifNo X hx rfl (hb hby at_33) rfl ((if0 _ _).trans (feq hc).1) k
      have rb53 : OwnW s0 n0 37 #[.val (.long x0), .second, .val (.long x1), .second, .val (.long x2), .second, .val (.long x3), .second, .val (.int x4), .val (.int no), .val (.long yv), .second, .unset, .unset, .unset, .unset, .unset, .unset] [(.long x1)] h0 0 0 := rb52.go fun T t X k => XS.lloadN X hx rfl (hb hby at_36) rfl k
      have rb54 : OwnW s0 n0 42 #[.val (.long x0), .second, .val (.long x1), .second, .val (.long x2), .second, .val (.long x3), .second, .val (.int x4), .val (.int no), .val (.long yv), .second, .unset, .unset, .unset, .unset, .unset, .unset] [(.long x1)] h0 0 0 := rb53.go fun T t X k => XS.goto X hx rfl (pc0 := 37) (pc' := 42) rfl (hb hby at_37) (by decide) (by decide) k
      exact ⟨_, trivial, rb54⟩
  have r72 : OwnW s0 n0 44 #[.val (.long x0), .second, .val (.long x1), .second, .val (.long x2), .second, .val (.long x3), .second, .val (.int x4), .val (.int no), .val (.long yv), .second, .val (.long yc), .second, .unset, .unset, .unset, .unset] [] h0 0 0 := r.go fun T t X k => XS.lstore X hx rfl (hb hby at_42) rfl (l' := #[.val (.long x0), .second, .val (.long x1), .second, .val (.long x2), .second, .val (.long x3), .second, .val (.int x4), .val (.int no), .val (.long yv), .second, .val (.long yc), .second, .unset, .unset, .unset, .unset]) rfl k
  have r73 : OwnW s0 n0 45 #[.val (.long x0), .second, .val (.long x1), .second, .val (.long x2), .second, .val (.long x3), .second, .val (.int x4), .val (.int no), .val (.long yv), .second, .val (.long yc), .second, .unset, .unset, .unset, .unset] [(.int (0 : Int32))] h0 0 0 := r72.go fun T t X k => XS.iconst X hx rfl (hb hby at_44) k
  obtain ⟨hr74, kq, r74, Er74, Aq⟩ := r73.newP hx hZ (aty := .int) (hw _ (List.mem_of_getElem? (i := 0) rfl)) (hb hby at_45) rfl (by decide) (cap := 0) (by decide) (by decide) (by decide) (by decide)
  obtain ⟨q, qq⟩ : ∃ z, z = h0.size := ⟨_, rfl⟩
  rw [← qq] at r74 Aq
  have r74 : OwnW s0 n0 47 #[.val (.long x0), .second, .val (.long x1), .second, .val (.long x2), .second, .val (.long x3), .second, .val (.int x4), .val (.int no), .val (.long yv), .second, .val (.long yc), .second, .unset, .unset, .unset, .unset] [(.ref q)] hr74 1 0 := r74
  have r75 : OwnW s0 n0 49 #[.val (.long x0), .second, .val (.long x1), .second, .val (.long x2), .second, .val (.long x3), .second, .val (.int x4), .val (.int no), .val (.long yv), .second, .val (.long yc), .second, .val (.ref q), .unset, .unset, .unset] [] hr74 1 0 := r74.go fun T t X k => XS.astore X hx rfl (hb hby at_47) rfl rfl (l' := #[.val (.long x0), .second, .val (.long x1), .second, .val (.long x2), .second, .val (.long x3), .second, .val (.int x4), .val (.int no), .val (.long yv), .second, .val (.long yc), .second, .val (.ref q), .unset, .unset, .unset]) rfl k
  have r76 : OwnW s0 n0 51 #[.val (.long x0), .second, .val (.long x1), .second, .val (.long x2), .second, .val (.long x3), .second, .val (.int x4), .val (.int no), .val (.long yv), .second, .val (.long yc), .second, .val (.ref q), .unset, .unset, .unset] [(.int no)] hr74 1 0 := r75.go fun T t X k => XS.iload X hx rfl (hb hby at_49) rfl k
  rcases hno with rfl | rfl
  · have ra := r76
    have ra77 : OwnW s0 n0 58 #[.val (.long x0), .second, .val (.long x1), .second, .val (.long x2), .second, .val (.long x3), .second, .val (.int x4), .val (.int (0 : Int32)), .val (.long yv), .second, .val (.long yc), .second, .val (.ref q), .unset, .unset, .unset] [] hr74 1 0 := ra.go fun T t X k => XS.ifYes X hx rfl (pc0 := 51) (pc' := 58) rfl (hb hby at_51) rfl ((if0 _ _).trans (teq rfl).1) (by decide) (by decide) k
    obtain ⟨hra78, ra78, Era78, Xo, Dra78⟩ := ra77.newO hx hZ hown (hw _ (List.mem_of_getElem? (i := 5) rfl)) (hw _ (List.mem_of_getElem? (i := 6) rfl)) (hw _ (List.mem_of_getElem? (i := 3) rfl)) (hb hby at_58) (by decide) (by decide)
    obtain ⟨o, qo⟩ : ∃ z, z = hr74.size := ⟨_, rfl⟩
    rw [← qo] at ra78 Xo Dra78
    have F_violations_o : Fld Z hra78 o "com/example/slotwright/slotwright/solver/Snapshot" "violations" "J" (.long (0 : Int64)) := Dra78 (Or.inr (hw _ (List.mem_of_getElem? (i := 19) rfl))) (ty := .long) (by decide)
    have F_cost_o : Fld Z hra78 o "com/example/slotwright/slotwright/solver/Snapshot" "cost" "J" (.long (0 : Int64)) := Dra78 (Or.inr (hw _ (List.mem_of_getElem? (i := 21) rfl))) (ty := .long) (by decide)
    have F_values_o : Fld Z hra78 o "com/example/slotwright/slotwright/solver/Snapshot" "values" "[I" .null := Dra78 (Or.inr (hw _ (List.mem_of_getElem? (i := 23) rfl))) (ty := (.array .int)) (by decide)
    have F_enrolment_o : Fld Z hra78 o "com/example/slotwright/slotwright/solver/Snapshot" "enrolment" "Lcom/example/slotwright/slotwright/solver/Enrolment;" .null := Dra78 (Or.inr (hw _ (List.mem_of_getElem? (i := 25) rfl))) (ty := (.object "com/example/slotwright/slotwright/solver/Enrolment")) (by decide)
    have ra78 : OwnW s0 n0 61 #[.val (.long x0), .second, .val (.long x1), .second, .val (.long x2), .second, .val (.long x3), .second, .val (.int x4), .val (.int (0 : Int32)), .val (.long yv), .second, .val (.long yc), .second, .val (.ref q), .unset, .unset, .unset] [(.ref o)] hra78 2 4 := ra78
    have ra79 : OwnW s0 n0 62 #[.val (.long x0), .second, .val (.long x1), .second, .val (.long x2), .second, .val (.long x3), .second, .val (.int x4), .val (.int (0 : Int32)), .val (.long yv), .second, .val (.long yc), .second, .val (.ref q), .unset, .unset, .unset] [(.ref o), (.ref o)] hra78 2 4 := ra78.go fun T t X k => XS.dup X hx rfl (hb hby at_61) rfl rfl k
    have ra80 : OwnW s0 n0 64 #[.val (.long x0), .second, .val (.long x1), .second, .val (.long x2), .second, .val (.long x3), .second, .val (.int x4), .val (.int (0 : Int32)), .val (.long yv), .second, .val (.long yc), .second, .val (.ref q), .unset, .unset, .unset] [(.long yv), (.ref o), (.ref o)] hra78 2 4 := ra79.go fun T t X k => XS.lload X hx rfl (hb hby at_62) rfl k
    have ra81 : OwnW s0 n0 66 #[.val (.long x0), .second, .val (.long x1), .second, .val (.long x2), .second, .val (.long x3), .second, .val (.int x4), .val (.int (0 : Int32)), .val (.long yv), .second, .val (.long yc), .second, .val (.ref q), .unset, .unset, .unset] [(.long yc), (.long yv), (.ref o), (.ref o)] hra78 2 4 := ra80.go fun T t X k => XS.lload X hx rfl (hb hby at_64) rfl k
    have ra82 : OwnW s0 n0 68 #[.val (.long x0), .second, .val (.long x1), .second, .val (.long x2), .second, .val (.long x3), .second, .val (.int x4), .val (.int (0 : Int32)), .val (.long yv), .second, .val (.long yc), .second, .val (.ref q), .unset, .unset, .unset] [(.ref q), (.long yc), (.long yv), (.ref o), (.ref o)] hra78 2 4 := ra81.go fun T t X k => XS.aload X hx rfl (hb hby at_66) rfl rfl k
    have ra83 : OwnW s0 n0 69 #[.val (.long x0), .second, .val (.long x1), .second, .val (.long x2), .second, .val (.long x3), .second, .val (.int x4), .val (.int (0 : Int32)), .val (.long yv), .second, .val (.long yc), .second, .val (.ref q), .unset, .unset, .unset] [.null, (.ref q), (.long yc), (.long yv), (.ref o), (.ref o)] hra78 2 4 := ra82.go fun T t X k => XS.aconstNull X hx rfl (hb hby at_68) k
    have go : n0 ≤ o := Nat.le_trans (Nat.le_trans Z0 Er74.1) (Nat.le_of_eq qo.symm)
    obtain ⟨vra84, hra84, ra84, qra84⟩ := ra83.callN hx hZ rfl hown (hw _ (List.mem_of_getElem? (i := 7) rfl)) (hw _ (List.mem_of_getElem? (i := 8) rfl)) (hw _ (List.mem_of_getElem? (i := 3) rfl)) (hw _ (List.mem_of_getElem? (i := 9) rfl)) (by decide) (a := o) (argsL := [(.long yv), (.long yc), (.ref q), .null]) (own_ini l Z a0 hw o yv yc q hra78 n0 Xo F_violations_o F_cost_o F_values_o F_enrolment_o go) [(.ref o)] 1 (by decide) (by decide) (by rw [hml]; rfl) (lenOf own_pd1 rfl) rfl (Nat.le_of_eq rfl) (hb hby at_69) (by decide) (by decide)
    obtain ⟨rfl, K1, E1, F0, F1, F2, F3⟩ := qra84
    have ra84 : OwnW s0 n0 72 #[.val (.long x0), .second, .val (.long x1), .second, .val (.long x2), .second, .val (.long x3), .second, .val (.int x4), .val (.int (0 : Int32)), .val (.long yv), .second, .val (.long yc), .second, .val (.ref q), .unset, .unset, .unset] [(.ref o)] hra84 2 4 := ra84
    have ra85 : OwnW s0 n0 74 #[.val (.long x0), .second, .val (.long x1), .second, .val (.long x2), .second, .val (.long x3), .second, .val (.int x4), .val (.int (0 : Int32)), .val (.long yv), .second, .val (.long yc), .second, .val (.ref q), .val (.ref o), .unset, .unset] [] hra84 2 4 := ra84.go fun T t X k => XS.astore X hx rfl (hb hby at_72) rfl rfl (l' := #[.val (.long x0), .second, .val (.long x1), .second, .val (.long x2), .second, .val (.long x3), .second, .val (.int x4), .val (.int (0 : Int32)), .val (.long yv), .second, .val (.long yc), .second, .val (.ref q), .val (.ref o), .unset, .unset]) rfl k
    have ra86 : OwnW s0 n0 75 #[.val (.long x0), .second, .val (.long x1), .second, .val (.long x2), .second, .val (.long x3), .second, .val (.int x4), .val (.int (0 : Int32)), .val (.long yv), .second, .val (.long yc), .second, .val (.ref q), .val (.ref o), .unset, .unset] [(.long x0)] hra84 2 4 := ra85.go fun T t X k => XS.lloadN X hx rfl (hb hby at_74) rfl k
    have ra87 : OwnW s0 n0 76 #[.val (.long x0), .second, .val (.long x1), .second, .val (.long x2), .second, .val (.long x3), .second, .val (.int x4), .val (.int (0 : Int32)), .val (.long yv), .second, .val (.long yc), .second, .val (.ref q), .val (.ref o), .unset, .unset] [(.long x1), (.long x0)] hra84 2 4 := ra86.go fun T t X k => XS.lloadN X hx rfl (hb hby at_75) rfl k
    have ra88 : OwnW s0 n0 78 #[.val (.long x0), .second, .val (.long x1), .second, .val (.long x2), .second, .val (.long x3), .second, .val (.int x4), .val (.int (0 : Int32)), .val (.long yv), .second, .val (.long yc), .second, .val (.ref q), .val (.ref o), .unset, .unset] [(.ref o), (.long x1), (.long x0)] hra84 2 4 := ra87.go fun T t X k => XS.aload X hx rfl (hb hby at_76) rfl rfl k
    obtain ⟨vra89, hra89, ra89, qra89⟩ := ra88.callS hx hZ hown (hw _ (List.mem_of_getElem? (i := 1) rfl)) (hw _ (List.mem_of_getElem? (i := 2) rfl)) (hw _ (List.mem_of_getElem? (i := 3) rfl)) (hw _ (List.mem_of_getElem? (i := 4) rfl)) (by decide) (argsL := [(.long x0), (.long x1), (.ref o)]) (own_rkr l Z a0 hw x0 x1 o yv yc hra84 n0 F0 F1) [] 0 (by decide) (by decide) (by rw [hml]; rfl) (lenOf own_pd2 rfl) rfl (Nat.le_of_eq rfl) (hb hby at_78) (by decide) (by decide)
    obtain ⟨rfl, rfl⟩ := qra89
    have ra89 : OwnW s0 n0 81 #[.val (.long x0), .second, .val (.long x1), .second, .val (.long x2), .second, .val (.long x3), .second, .val (.int x4), .val (.int (0 : Int32)), .val (.long yv), .second, .val (.long yc), .second, .val (.ref q), .val (.ref o), .unset, .unset] [(.int (own_rk x0 x1 yv yc))] hra84 2 4 := ra89
    have ra90 : OwnW s0 n0 83 #[.val (.long x0), .second, .val (.long x1), .second, .val (.long x2), .second, .val (.long x3), .second, .val (.int x4), .val (.int (0 : Int32)), .val (.long yv), .second, .val (.long yc), .second, .val (.ref q), .val (.ref o), .val (.int (own_rk x0 x1 yv yc)), .unset] [] hra84 2 4 := ra89.go fun T t X k => XS.istore X hx rfl (hb hby at_81) rfl (l' := #[.val (.long x0), .second, .val (.long x1), .second, .val (.long x2), .second, .val (.long x3), .second, .val (.int x4), .val (.int (0 : Int32)), .val (.long yv), .second, .val (.long yc), .second, .val (.ref q), .val (.ref o), .val (.int (own_rk x0 x1 yv yc)), .unset]) rfl k
    have ra91 : OwnW s0 n0 85 #[.val (.long x0), .second, .val (.long x1), .second, .val (.long x2), .second, .val (.long x3), .second, .val (.int x4), .val (.int (0 : Int32)), .val (.long yv), .second, .val (.long yc), .second, .val (.ref q), .val (.ref o), .val (.int (own_rk x0 x1 yv yc)), .unset] [(.int (0 : Int32))] hra84 2 4 := ra90.go fun T t X k => XS.iload X hx rfl (hb hby at_83) rfl k
    have ra92 : OwnW s0 n0 94 #[.val (.long x0), .second, .val (.long x1), .second, .val (.long x2), .second, .val (.long x3), .second, .val (.int x4), .val (.int (0 : Int32)), .val (.long yv), .second, .val (.long yc), .second, .val (.ref q), .val (.ref o), .val (.int (own_rk x0 x1 yv yc)), .unset] [] hra84 2 4 := ra91.go fun T t X k => XS.ifYes X hx rfl (pc0 := 85) (pc' := 94) rfl (hb hby at_85) rfl ((if0 _ _).trans (teq rfl).1) (by decide) (by decide) k
    have ra93 : OwnW s0 n0 95 #[.val (.long x0), .second, .val (.long x1), .second, .val (.long x2), .second, .val (.long x3), .second, .val (.int x4), .val (.int (0 : Int32)), .val (.long yv), .second, .val (.long yc), .second, .val (.ref q), .val (.ref o), .val (.int (own_rk x0 x1 yv yc)), .unset] [(.long x0)] hra84 2 4 := ra92.go fun T t X k => XS.lloadN X hx rfl (hb hby at_94) rfl k
    have ra94 : OwnW s0 n0 97 #[.val (.long x0), .second, .val (.long x1), .second, .val (.long x2), .second, .val (.long x3), .second, .val (.int x4), .val (.int (0 : Int32)), .val (.long yv), .second, .val (.long yc), .second, .val (.ref q), .val (.ref o), .val (.int (own_rk x0 x1 yv yc)), .unset] [(.long yv), (.long x0)] hra84 2 4 := ra93.go fun T t X k => XS.lload X hx rfl (hb hby at_95) rfl k
    have ra95 : OwnW s0 n0 98 #[.val (.long x0), .second, .val (.long x1), .second, .val (.long x2), .second, .val (.long x3), .second, .val (.int x4), .val (.int (0 : Int32)), .val (.long yv), .second, .val (.long yc), .second, .val (.ref q), .val (.ref o), .val (.int (own_rk x0 x1 yv yc)), .unset] [(.int (lcmpW x0 yv))] hra84 2 4 := ra94.go fun T t X k => XS.lcmp X hx rfl (hb hby at_97) rfl k
    by_cases h1 : yv < x0
    · have rb := ra95
      have rb96 : OwnW s0 n0 101 #[.val (.long x0), .second, .val (.long x1), .second, .val (.long x2), .second, .val (.long x3), .second, .val (.int x4), .val (.int (0 : Int32)), .val (.long yv), .second, .val (.long yc), .second, .val (.ref q), .val (.ref o), .val (.int (own_rk x0 x1 yv yc)), .unset] [] hra84 2 4 := rb.go fun T t X k => XS.ifNo X hx rfl (hb hby at_98) rfl ((if0 _ _).trans (tlt ((lw_gt _ _).mpr h1)).2.2.2) k
      have rb97 : OwnW s0 n0 102 #[.val (.long x0), .second, .val (.long x1), .second, .val (.long x2), .second, .val (.long x3), .second, .val (.int x4), .val (.int (0 : Int32)), .val (.long yv), .second, .val (.long yc), .second, .val (.ref q), .val (.ref o), .val (.int (own_rk x0 x1 yv yc)), .unset] [(.int (0 : Int32))] hra84 2 4 := rb96.go fun T t X k => XS.iconst X hx rfl (hb hby at_101) k
      have rb98 : OwnW s0 n0 104 #[.val (.long x0), .second, .val (.long x1), .second, .val (.long x2), .second, .val (.long x3), .second, .val (.int x4), .val (.int (0 : Int32)), .val (.long yv), .second, .val (.long yc), .second, .val (.ref q), .val (.ref o), .val (.int (own_rk x0 x1 yv yc)), .val (.int (0 : Int32))] [] hra84 2 4 := rb97.go fun T t X k => XS.istore X hx rfl (hb hby at_102) rfl (l' := #[.val (.long x0), .second, .val (.long x1), .second, .val (.long x2), .second, .val (.long x3), .second, .val (.int x4), .val (.int (0 : Int32)), .val (.long yv), .second, .val (.long yc), .second, .val (.ref q), .val (.ref o), .val (.int (own_rk x0 x1 yv yc)), .val (.int (0 : Int32))]) rfl k
      have rb99 : OwnW s0 n0 134 #[.val (.long x0), .second, .val (.long x1), .second, .val (.long x2), .second, .val (.long x3), .second, .val (.int x4), .val (.int (0 : Int32)), .val (.long yv), .second, .val (.long yc), .second, .val (.ref q), .val (.ref o), .val (.int (own_rk x0 x1 yv yc)), .val (.int (0 : Int32))] [] hra84 2 4 := rb98.go fun T t X k => XS.goto X hx rfl (pc0 := 104) (pc' := 134) rfl (hb hby at_104) (by decide) (by decide) k
      have hq := own_gt h1
      have rb100 : OwnW s0 n0 136 #[.val (.long x0), .second, .val (.long x1), .second, .val (.long x2), .second, .val (.long x3), .second, .val (.int x4), .val (.int (0 : Int32)), .val (.long yv), .second, .val (.long yc), .second, .val (.ref q), .val (.ref o), .val (.int (own_rk x0 x1 yv yc)), .val (.int (0 : Int32))] [(.int (own_rk x0 x1 yv yc))] hra84 2 4 := rb99.go fun T t X k => XS.iload X hx rfl (hb hby at_134) rfl k
      have rb101 : OwnW s0 n0 138 #[.val (.long x0), .second, .val (.long x1), .second, .val (.long x2), .second, .val (.long x3), .second, .val (.int x4), .val (.int (0 : Int32)), .val (.long yv), .second, .val (.long yc), .second, .val (.ref q), .val (.ref o), .val (.int (own_rk x0 x1 yv yc)), .val (.int (0 : Int32))] [(.int (0 : Int32)), (.int (own_rk x0 x1 yv yc))] hra84 2 4 := rb100.go fun T t X k => XS.iload X hx rfl (hb hby at_136) rfl k
      have rb102 : OwnW s0 n0 141 #[.val (.long x0), .second, .val (.long x1), .second, .val (.long x2), .second, .val (.long x3), .second, .val (.int x4), .val (.int (0 : Int32)), .val (.long yv), .second, .val (.long yc), .second, .val (.ref q), .val (.ref o), .val (.int (own_rk x0 x1 yv yc)), .val (.int (0 : Int32))] [] hra84 2 4 := rb101.go fun T t X k => XS.icmpNo X hx rfl (hb hby at_138) rfl (teq (by simp only [own_rk, if_neg hq.1, if_neg hq.2])).2 k
      have rb103 : OwnW s0 n0 142 #[.val (.long x0), .second, .val (.long x1), .second, .val (.long x2), .second, .val (.long x3), .second, .val (.int x4), .val (.int (0 : Int32)), .val (.long yv), .second, .val (.long yc), .second, .val (.ref q), .val (.ref o), .val (.int (own_rk x0 x1 yv yc)), .val (.int (0 : Int32))] [(.int (1 : Int32))] hra84 2 4 := rb102.go fun T t X k => XS.iconst X hx rfl (hb hby at_141) k
      have rb104 : OwnW s0 n0 146 #[.val (.long x0), .second, .val (.long x1), .second, .val (.long x2), .second, .val (.long x3), .second, .val (.int x4), .val (.int (0 : Int32)), .val (.long yv), .second, .val (.long yc), .second, .val (.ref q), .val (.ref o), .val (.int (own_rk x0 x1 yv yc)), .val (.int (0 : Int32))] [(.int (1 : Int32))] hra84 2 4 := rb103.go fun T t X k => XS.goto X hx rfl (pc0 := 142) (pc' := 146) rfl (hb hby at_142) (by decide) (by decide) k
      have rb105 := rb104.retN hx hret (by simp) rfl (hb hby at_146)
      exact ⟨_, _, 2, 4, rfl, by decide, by decide, rb105⟩
    · have rc := ra95
      have rc96 : OwnW s0 n0 107 #[.val (.long x0), .second, .val (.long x1), .second, .val (.long x2), .second, .val (.long x3), .second, .val (.int x4), .val (.int (0 : Int32)), .val (.long yv), .second, .val (.long yc), .second, .val (.ref q), .val (.ref o), .val (.int (own_rk x0 x1 yv yc)), .unset] [] hra84 2 4 := rc.go fun T t X k => XS.ifYes X hx rfl (pc0 := 98) (pc' := 107) rfl (hb hby at_98) rfl ((if0 _ _).trans (flt (fun q => h1 ((lw_gt _ _).mp q))).2.2.2) (by decide) (by decide) k
      have rc97 : OwnW s0 n0 108 #[.val (.long x0), .second, .val (.long x1), .second, .val (.long x2), .second, .val (.long x3), .second, .val (.int x4), .val (.int (0 : Int32)), .val (.long yv), .second, .val (.long yc), .second, .val (.ref q), .val (.ref o), .val (.int (own_rk x0 x1 yv yc)), .unset] [(.long x0)] hra84 2 4 := rc96.go fun T t X k => XS.lloadN X hx rfl (hb hby at_107) rfl k
      have rc98 : OwnW s0 n0 110 #[.val (.long x0), .second, .val (.long x1), .second, .val (.long x2), .second, .val (.long x3), .second, .val (.int x4), .val (.int (0 : Int32)), .val (.long yv), .second, .val (.long yc), .second, .val (.ref q), .val (.ref o), .val (.int (own_rk x0 x1 yv yc)), .unset] [(.long yv), (.long x0)] hra84 2 4 := rc97.go fun T t X k => XS.lload X hx rfl (hb hby at_108) rfl k
      have rc99 : OwnW s0 n0 111 #[.val (.long x0), .second, .val (.long x1), .second, .val (.long x2), .second, .val (.long x3), .second, .val (.int x4), .val (.int (0 : Int32)), .val (.long yv), .second, .val (.long yc), .second, .val (.ref q), .val (.ref o), .val (.int (own_rk x0 x1 yv yc)), .unset] [(.int (lcmpW x0 yv))] hra84 2 4 := rc98.go fun T t X k => XS.lcmp X hx rfl (hb hby at_110) rfl k
      by_cases h2 : x0 < yv
      · have rd := rc99
        have rd100 : OwnW s0 n0 114 #[.val (.long x0), .second, .val (.long x1), .second, .val (.long x2), .second, .val (.long x3), .second, .val (.int x4), .val (.int (0 : Int32)), .val (.long yv), .second, .val (.long yc), .second, .val (.ref q), .val (.ref o), .val (.int (own_rk x0 x1 yv yc)), .unset] [] hra84 2 4 := rd.go fun T t X k => XS.ifNo X hx rfl (hb hby at_111) rfl ((if0 _ _).trans (tlt ((lw_lt _ _).mpr h2)).2.1) k
        have rd101 : OwnW s0 n0 115 #[.val (.long x0), .second, .val (.long x1), .second, .val (.long x2), .second, .val (.long x3), .second, .val (.int x4), .val (.int (0 : Int32)), .val (.long yv), .second, .val (.long yc), .second, .val (.ref q), .val (.ref o), .val (.int (own_rk x0 x1 yv yc)), .unset] [(.int (1 : Int32))] hra84 2 4 := rd100.go fun T t X k => XS.iconst X hx rfl (hb hby at_114) k
        have rd102 : OwnW s0 n0 117 #[.val (.long x0), .second, .val (.long x1), .second, .val (.long x2), .second, .val (.long x3), .second, .val (.int x4), .val (.int (0 : Int32)), .val (.long yv), .second, .val (.long yc), .second, .val (.ref q), .val (.ref o), .val (.int (own_rk x0 x1 yv yc)), .val (.int (1 : Int32))] [] hra84 2 4 := rd101.go fun T t X k => XS.istore X hx rfl (hb hby at_115) rfl (l' := #[.val (.long x0), .second, .val (.long x1), .second, .val (.long x2), .second, .val (.long x3), .second, .val (.int x4), .val (.int (0 : Int32)), .val (.long yv), .second, .val (.long yc), .second, .val (.ref q), .val (.ref o), .val (.int (own_rk x0 x1 yv yc)), .val (.int (1 : Int32))]) rfl k
        have rd103 : OwnW s0 n0 134 #[.val (.long x0), .second, .val (.long x1), .second, .val (.long x2), .second, .val (.long x3), .second, .val (.int x4), .val (.int (0 : Int32)), .val (.long yv), .second, .val (.long yc), .second, .val (.ref q), .val (.ref o), .val (.int (own_rk x0 x1 yv yc)), .val (.int (1 : Int32))] [] hra84 2 4 := rd102.go fun T t X k => XS.goto X hx rfl (pc0 := 117) (pc' := 134) rfl (hb hby at_117) (by decide) (by decide) k
        have rd104 : OwnW s0 n0 136 #[.val (.long x0), .second, .val (.long x1), .second, .val (.long x2), .second, .val (.long x3), .second, .val (.int x4), .val (.int (0 : Int32)), .val (.long yv), .second, .val (.long yc), .second, .val (.ref q), .val (.ref o), .val (.int (own_rk x0 x1 yv yc)), .val (.int (1 : Int32))] [(.int (own_rk x0 x1 yv yc))] hra84 2 4 := rd103.go fun T t X k => XS.iload X hx rfl (hb hby at_134) rfl k
        have rd105 : OwnW s0 n0 138 #[.val (.long x0), .second, .val (.long x1), .second, .val (.long x2), .second, .val (.long x3), .second, .val (.int x4), .val (.int (0 : Int32)), .val (.long yv), .second, .val (.long yc), .second, .val (.ref q), .val (.ref o), .val (.int (own_rk x0 x1 yv yc)), .val (.int (1 : Int32))] [(.int (1 : Int32)), (.int (own_rk x0 x1 yv yc))] hra84 2 4 := rd104.go fun T t X k => XS.iload X hx rfl (hb hby at_136) rfl k
        have rd106 : OwnW s0 n0 141 #[.val (.long x0), .second, .val (.long x1), .second, .val (.long x2), .second, .val (.long x3), .second, .val (.int x4), .val (.int (0 : Int32)), .val (.long yv), .second, .val (.long yc), .second, .val (.ref q), .val (.ref o), .val (.int (own_rk x0 x1 yv yc)), .val (.int (1 : Int32))] [] hra84 2 4 := rd105.go fun T t X k => XS.icmpNo X hx rfl (hb hby at_138) rfl (teq (by simp only [own_rk, if_pos h2])).2 k
        have rd107 : OwnW s0 n0 142 #[.val (.long x0), .second, .val (.long x1), .second, .val (.long x2), .second, .val (.long x3), .second, .val (.int x4), .val (.int (0 : Int32)), .val (.long yv), .second, .val (.long yc), .second, .val (.ref q), .val (.ref o), .val (.int (own_rk x0 x1 yv yc)), .val (.int (1 : Int32))] [(.int (1 : Int32))] hra84 2 4 := rd106.go fun T t X k => XS.iconst X hx rfl (hb hby at_141) k
        have rd108 : OwnW s0 n0 146 #[.val (.long x0), .second, .val (.long x1), .second, .val (.long x2), .second, .val (.long x3), .second, .val (.int x4), .val (.int (0 : Int32)), .val (.long yv), .second, .val (.long yc), .second, .val (.ref q), .val (.ref o), .val (.int (own_rk x0 x1 yv yc)), .val (.int (1 : Int32))] [(.int (1 : Int32))] hra84 2 4 := rd107.go fun T t X k => XS.goto X hx rfl (pc0 := 142) (pc' := 146) rfl (hb hby at_142) (by decide) (by decide) k
        have rd109 := rd108.retN hx hret (by simp) rfl (hb hby at_146)
        exact ⟨_, _, 2, 4, rfl, by decide, by decide, rd109⟩
      · have re := rc99
        have re100 : OwnW s0 n0 120 #[.val (.long x0), .second, .val (.long x1), .second, .val (.long x2), .second, .val (.long x3), .second, .val (.int x4), .val (.int (0 : Int32)), .val (.long yv), .second, .val (.long yc), .second, .val (.ref q), .val (.ref o), .val (.int (own_rk x0 x1 yv yc)), .unset] [] hra84 2 4 := re.go fun T t X k => XS.ifYes X hx rfl (pc0 := 111) (pc' := 120) rfl (hb hby at_111) rfl ((if0 _ _).trans (flt (fun q => h2 ((lw_lt _ _).mp q))).2.1) (by decide) (by decide) k
        have hq := own_tri h1 h2
        have re101 : OwnW s0 n0 121 #[.val (.long x0), .second, .val (.long x1), .second, .val (.long x2), .second, .val (.long x3), .second, .val (.int x4), .val (.int (0 : Int32)), .val (.long yv), .second, .val (.long yc), .second, .val (.ref q), .val (.ref o), .val (.int (own_rk x0 x1 yv yc)), .unset] [(.long x1)] hra84 2 4 := re100.go fun T t X k => XS.lloadN X hx rfl (hb hby at_120) rfl k
        have re102 : OwnW s0 n0 123 #[.val (.long x0), .second, .val (.long x1), .second, .val (.long x2), .second, .val (.long x3), .second, .val (.int x4), .val (.int (0 : Int32)), .val (.long yv), .second, .val (.long yc), .second, .val (.ref q), .val (.ref o), .val (.int (own_rk x0 x1 yv yc)), .unset] [(.long yc), (.long x1)] hra84 2 4 := re101.go fun T t X k => XS.lload X hx rfl (hb hby at_121) rfl k
        have re103 : OwnW s0 n0 124 #[.val (.long x0), .second, .val (.long x1), .second, .val (.long x2), .second, .val (.long x3), .second, .val (.int x4), .val (.int (0 : Int32)), .val (.long yv), .second, .val (.long yc), .second, .val (.ref q), .val (.ref o), .val (.int (own_rk x0 x1 yv yc)), .unset] [(.int (lcmpW x1 yc))] hra84 2 4 := re102.go fun T t X k => XS.lcmp X hx rfl (hb hby at_123) rfl k
        by_cases h3 : x1 < yc
        · have rf := re103
          have rf104 : OwnW s0 n0 127 #[.val (.long x0), .second, .val (.long x1), .second, .val (.long x2), .second, .val (.long x3), .second, .val (.int x4), .val (.int (0 : Int32)), .val (.long yv), .second, .val (.long yc), .second, .val (.ref q), .val (.ref o), .val (.int (own_rk x0 x1 yv yc)), .unset] [] hra84 2 4 := rf.go fun T t X k => XS.ifNo X hx rfl (hb hby at_124) rfl ((if0 _ _).trans (tlt ((lw_lt _ _).mpr h3)).2.1) k
          have rf105 : OwnW s0 n0 128 #[.val (.long x0), .second, .val (.long x1), .second, .val (.long x2), .second, .val (.long x3), .second, .val (.int x4), .val (.int (0 : Int32)), .val (.long yv), .second, .val (.long yc), .second, .val (.ref q), .val (.ref o), .val (.int (own_rk x0 x1 yv yc)), .unset] [(.int (1 : Int32))] hra84 2 4 := rf104.go fun T t X k => XS.iconst X hx rfl (hb hby at_127) k
          have rf106 : OwnW s0 n0 132 #[.val (.long x0), .second, .val (.long x1), .second, .val (.long x2), .second, .val (.long x3), .second, .val (.int x4), .val (.int (0 : Int32)), .val (.long yv), .second, .val (.long yc), .second, .val (.ref q), .val (.ref o), .val (.int (own_rk x0 x1 yv yc)), .unset] [(.int (1 : Int32))] hra84 2 4 := rf105.go fun T t X k => XS.goto X hx rfl (pc0 := 128) (pc' := 132) rfl (hb hby at_128) (by decide) (by decide) k
          have rf107 : OwnW s0 n0 134 #[.val (.long x0), .second, .val (.long x1), .second, .val (.long x2), .second, .val (.long x3), .second, .val (.int x4), .val (.int (0 : Int32)), .val (.long yv), .second, .val (.long yc), .second, .val (.ref q), .val (.ref o), .val (.int (own_rk x0 x1 yv yc)), .val (.int (1 : Int32))] [] hra84 2 4 := rf106.go fun T t X k => XS.istore X hx rfl (hb hby at_132) rfl (l' := #[.val (.long x0), .second, .val (.long x1), .second, .val (.long x2), .second, .val (.long x3), .second, .val (.int x4), .val (.int (0 : Int32)), .val (.long yv), .second, .val (.long yc), .second, .val (.ref q), .val (.ref o), .val (.int (own_rk x0 x1 yv yc)), .val (.int (1 : Int32))]) rfl k
          have rf108 : OwnW s0 n0 136 #[.val (.long x0), .second, .val (.long x1), .second, .val (.long x2), .second, .val (.long x3), .second, .val (.int x4), .val (.int (0 : Int32)), .val (.long yv), .second, .val (.long yc), .second, .val (.ref q), .val (.ref o), .val (.int (own_rk x0 x1 yv yc)), .val (.int (1 : Int32))] [(.int (own_rk x0 x1 yv yc))] hra84 2 4 := rf107.go fun T t X k => XS.iload X hx rfl (hb hby at_134) rfl k
          have rf109 : OwnW s0 n0 138 #[.val (.long x0), .second, .val (.long x1), .second, .val (.long x2), .second, .val (.long x3), .second, .val (.int x4), .val (.int (0 : Int32)), .val (.long yv), .second, .val (.long yc), .second, .val (.ref q), .val (.ref o), .val (.int (own_rk x0 x1 yv yc)), .val (.int (1 : Int32))] [(.int (1 : Int32)), (.int (own_rk x0 x1 yv yc))] hra84 2 4 := rf108.go fun T t X k => XS.iload X hx rfl (hb hby at_136) rfl k
          have rf110 : OwnW s0 n0 141 #[.val (.long x0), .second, .val (.long x1), .second, .val (.long x2), .second, .val (.long x3), .second, .val (.int x4), .val (.int (0 : Int32)), .val (.long yv), .second, .val (.long yc), .second, .val (.ref q), .val (.ref o), .val (.int (own_rk x0 x1 yv yc)), .val (.int (1 : Int32))] [] hra84 2 4 := rf109.go fun T t X k => XS.icmpNo X hx rfl (hb hby at_138) rfl (teq (by simp only [own_rk, if_neg h2, if_pos hq, if_pos h3])).2 k
          have rf111 : OwnW s0 n0 142 #[.val (.long x0), .second, .val (.long x1), .second, .val (.long x2), .second, .val (.long x3), .second, .val (.int x4), .val (.int (0 : Int32)), .val (.long yv), .second, .val (.long yc), .second, .val (.ref q), .val (.ref o), .val (.int (own_rk x0 x1 yv yc)), .val (.int (1 : Int32))] [(.int (1 : Int32))] hra84 2 4 := rf110.go fun T t X k => XS.iconst X hx rfl (hb hby at_141) k
          have rf112 : OwnW s0 n0 146 #[.val (.long x0), .second, .val (.long x1), .second, .val (.long x2), .second, .val (.long x3), .second, .val (.int x4), .val (.int (0 : Int32)), .val (.long yv), .second, .val (.long yc), .second, .val (.ref q), .val (.ref o), .val (.int (own_rk x0 x1 yv yc)), .val (.int (1 : Int32))] [(.int (1 : Int32))] hra84 2 4 := rf111.go fun T t X k => XS.goto X hx rfl (pc0 := 142) (pc' := 146) rfl (hb hby at_142) (by decide) (by decide) k
          have rf113 := rf112.retN hx hret (by simp) rfl (hb hby at_146)
          exact ⟨_, _, 2, 4, rfl, by decide, by decide, rf113⟩
        · have rg := re103
          have rg104 : OwnW s0 n0 131 #[.val (.long x0), .second, .val (.long x1), .second, .val (.long x2), .second, .val (.long x3), .second, .val (.int x4), .val (.int (0 : Int32)), .val (.long yv), .second, .val (.long yc), .second, .val (.ref q), .val (.ref o), .val (.int (own_rk x0 x1 yv yc)), .unset] [] hra84 2 4 := rg.go fun T t X k => XS.ifYes X hx rfl (pc0 := 124) (pc' := 131) rfl (hb hby at_124) rfl ((if0 _ _).trans (flt (fun q => h3 ((lw_lt _ _).mp q))).2.1) (by decide) (by decide) k
          have rg105 : OwnW s0 n0 132 #[.val (.long x0), .second, .val (.long x1), .second, .val (.long x2), .second, .val (.long x3), .second, .val (.int x4), .val (.int (0 : Int32)), .val (.long yv), .second, .val (.long yc), .second, .val (.ref q), .val (.ref o), .val (.int (own_rk x0 x1 yv yc)), .unset] [(.int (0 : Int32))] hra84 2 4 := rg104.go fun T t X k => XS.iconst X hx rfl (hb hby at_131) k
          have rg106 : OwnW s0 n0 134 #[.val (.long x0), .second, .val (.long x1), .second, .val (.long x2), .second, .val (.long x3), .second, .val (.int x4), .val (.int (0 : Int32)), .val (.long yv), .second, .val (.long yc), .second, .val (.ref q), .val (.ref o), .val (.int (own_rk x0 x1 yv yc)), .val (.int (0 : Int32))] [] hra84 2 4 := rg105.go fun T t X k => XS.istore X hx rfl (hb hby at_132) rfl (l' := #[.val (.long x0), .second, .val (.long x1), .second, .val (.long x2), .second, .val (.long x3), .second, .val (.int x4), .val (.int (0 : Int32)), .val (.long yv), .second, .val (.long yc), .second, .val (.ref q), .val (.ref o), .val (.int (own_rk x0 x1 yv yc)), .val (.int (0 : Int32))]) rfl k
          have rg107 : OwnW s0 n0 136 #[.val (.long x0), .second, .val (.long x1), .second, .val (.long x2), .second, .val (.long x3), .second, .val (.int x4), .val (.int (0 : Int32)), .val (.long yv), .second, .val (.long yc), .second, .val (.ref q), .val (.ref o), .val (.int (own_rk x0 x1 yv yc)), .val (.int (0 : Int32))] [(.int (own_rk x0 x1 yv yc))] hra84 2 4 := rg106.go fun T t X k => XS.iload X hx rfl (hb hby at_134) rfl k
          have rg108 : OwnW s0 n0 138 #[.val (.long x0), .second, .val (.long x1), .second, .val (.long x2), .second, .val (.long x3), .second, .val (.int x4), .val (.int (0 : Int32)), .val (.long yv), .second, .val (.long yc), .second, .val (.ref q), .val (.ref o), .val (.int (own_rk x0 x1 yv yc)), .val (.int (0 : Int32))] [(.int (0 : Int32)), (.int (own_rk x0 x1 yv yc))] hra84 2 4 := rg107.go fun T t X k => XS.iload X hx rfl (hb hby at_136) rfl k
          have rg109 : OwnW s0 n0 141 #[.val (.long x0), .second, .val (.long x1), .second, .val (.long x2), .second, .val (.long x3), .second, .val (.int x4), .val (.int (0 : Int32)), .val (.long yv), .second, .val (.long yc), .second, .val (.ref q), .val (.ref o), .val (.int (own_rk x0 x1 yv yc)), .val (.int (0 : Int32))] [] hra84 2 4 := rg108.go fun T t X k => XS.icmpNo X hx rfl (hb hby at_138) rfl (teq (by simp only [own_rk, if_neg h2, if_pos hq, if_neg h3])).2 k
          have rg110 : OwnW s0 n0 142 #[.val (.long x0), .second, .val (.long x1), .second, .val (.long x2), .second, .val (.long x3), .second, .val (.int x4), .val (.int (0 : Int32)), .val (.long yv), .second, .val (.long yc), .second, .val (.ref q), .val (.ref o), .val (.int (own_rk x0 x1 yv yc)), .val (.int (0 : Int32))] [(.int (1 : Int32))] hra84 2 4 := rg109.go fun T t X k => XS.iconst X hx rfl (hb hby at_141) k
          have rg111 : OwnW s0 n0 146 #[.val (.long x0), .second, .val (.long x1), .second, .val (.long x2), .second, .val (.long x3), .second, .val (.int x4), .val (.int (0 : Int32)), .val (.long yv), .second, .val (.long yc), .second, .val (.ref q), .val (.ref o), .val (.int (own_rk x0 x1 yv yc)), .val (.int (0 : Int32))] [(.int (1 : Int32))] hra84 2 4 := rg110.go fun T t X k => XS.goto X hx rfl (pc0 := 142) (pc' := 146) rfl (hb hby at_142) (by decide) (by decide) k
          have rg112 := rg111.retN hx hret (by simp) rfl (hb hby at_146)
          exact ⟨_, _, 2, 4, rfl, by decide, by decide, rg112⟩
  · have rn := r76
    have rn77 : OwnW s0 n0 54 #[.val (.long x0), .second, .val (.long x1), .second, .val (.long x2), .second, .val (.long x3), .second, .val (.int x4), .val (.int (1 : Int32)), .val (.long yv), .second, .val (.long yc), .second, .val (.ref q), .unset, .unset, .unset] [] hr74 1 0 := rn.go fun T t X k => XS.ifNo X hx rfl (hb hby at_51) rfl ((if0 _ _).trans (feq (by decide)).1) k
    have rn78 : OwnW s0 n0 55 #[.val (.long x0), .second, .val (.long x1), .second, .val (.long x2), .second, .val (.long x3), .second, .val (.int x4), .val (.int (1 : Int32)), .val (.long yv), .second, .val (.long yc), .second, .val (.ref q), .unset, .unset, .unset] [.null] hr74 1 0 := rn77.go fun T t X k => XS.aconstNull X hx rfl (hb hby at_54) k
    have rn79 : OwnW s0 n0 72 #[.val (.long x0), .second, .val (.long x1), .second, .val (.long x2), .second, .val (.long x3), .second, .val (.int x4), .val (.int (1 : Int32)), .val (.long yv), .second, .val (.long yc), .second, .val (.ref q), .unset, .unset, .unset] [.null] hr74 1 0 := rn78.go fun T t X k => XS.goto X hx rfl (pc0 := 55) (pc' := 72) rfl (hb hby at_55) (by decide) (by decide) k
    have rn80 : OwnW s0 n0 74 #[.val (.long x0), .second, .val (.long x1), .second, .val (.long x2), .second, .val (.long x3), .second, .val (.int x4), .val (.int (1 : Int32)), .val (.long yv), .second, .val (.long yc), .second, .val (.ref q), .val .null, .unset, .unset] [] hr74 1 0 := rn79.go fun T t X k => XS.astore X hx rfl (hb hby at_72) rfl rfl (l' := #[.val (.long x0), .second, .val (.long x1), .second, .val (.long x2), .second, .val (.long x3), .second, .val (.int x4), .val (.int (1 : Int32)), .val (.long yv), .second, .val (.long yc), .second, .val (.ref q), .val .null, .unset, .unset]) rfl k
    have rn81 : OwnW s0 n0 75 #[.val (.long x0), .second, .val (.long x1), .second, .val (.long x2), .second, .val (.long x3), .second, .val (.int x4), .val (.int (1 : Int32)), .val (.long yv), .second, .val (.long yc), .second, .val (.ref q), .val .null, .unset, .unset] [(.long x0)] hr74 1 0 := rn80.go fun T t X k => XS.lloadN X hx rfl (hb hby at_74) rfl k
    have rn82 : OwnW s0 n0 76 #[.val (.long x0), .second, .val (.long x1), .second, .val (.long x2), .second, .val (.long x3), .second, .val (.int x4), .val (.int (1 : Int32)), .val (.long yv), .second, .val (.long yc), .second, .val (.ref q), .val .null, .unset, .unset] [(.long x1), (.long x0)] hr74 1 0 := rn81.go fun T t X k => XS.lloadN X hx rfl (hb hby at_75) rfl k
    have rn83 : OwnW s0 n0 78 #[.val (.long x0), .second, .val (.long x1), .second, .val (.long x2), .second, .val (.long x3), .second, .val (.int x4), .val (.int (1 : Int32)), .val (.long yv), .second, .val (.long yc), .second, .val (.ref q), .val .null, .unset, .unset] [.null, (.long x1), (.long x0)] hr74 1 0 := rn82.go fun T t X k => XS.aload X hx rfl (hb hby at_76) rfl rfl k
    obtain ⟨vrn84, hrn84, rn84, qrn84⟩ := rn83.callS hx hZ hown (hw _ (List.mem_of_getElem? (i := 1) rfl)) (hw _ (List.mem_of_getElem? (i := 2) rfl)) (hw _ (List.mem_of_getElem? (i := 3) rfl)) (hw _ (List.mem_of_getElem? (i := 4) rfl)) (by decide) (argsL := [(.long x0), (.long x1), .null]) (own_rkn l Z a0 hw x0 x1 hr74 n0) [] 0 (by decide) (by decide) (by rw [hml]; rfl) (lenOf own_pd2 rfl) rfl (Nat.le_of_eq rfl) (hb hby at_78) (by decide) (by decide)
    obtain ⟨rfl, rfl⟩ := qrn84
    have rn84 : OwnW s0 n0 81 #[.val (.long x0), .second, .val (.long x1), .second, .val (.long x2), .second, .val (.long x3), .second, .val (.int x4), .val (.int (1 : Int32)), .val (.long yv), .second, .val (.long yc), .second, .val (.ref q), .val .null, .unset, .unset] [(.int (1 : Int32))] hr74 1 0 := rn84
    have rn85 : OwnW s0 n0 83 #[.val (.long x0), .second, .val (.long x1), .second, .val (.long x2), .second, .val (.long x3), .second, .val (.int x4), .val (.int (1 : Int32)), .val (.long yv), .second, .val (.long yc), .second, .val (.ref q), .val .null, .val (.int (1 : Int32)), .unset] [] hr74 1 0 := rn84.go fun T t X k => XS.istore X hx rfl (hb hby at_81) rfl (l' := #[.val (.long x0), .second, .val (.long x1), .second, .val (.long x2), .second, .val (.long x3), .second, .val (.int x4), .val (.int (1 : Int32)), .val (.long yv), .second, .val (.long yc), .second, .val (.ref q), .val .null, .val (.int (1 : Int32)), .unset]) rfl k
    have rn86 : OwnW s0 n0 85 #[.val (.long x0), .second, .val (.long x1), .second, .val (.long x2), .second, .val (.long x3), .second, .val (.int x4), .val (.int (1 : Int32)), .val (.long yv), .second, .val (.long yc), .second, .val (.ref q), .val .null, .val (.int (1 : Int32)), .unset] [(.int (1 : Int32))] hr74 1 0 := rn85.go fun T t X k => XS.iload X hx rfl (hb hby at_83) rfl k
    have rn87 : OwnW s0 n0 88 #[.val (.long x0), .second, .val (.long x1), .second, .val (.long x2), .second, .val (.long x3), .second, .val (.int x4), .val (.int (1 : Int32)), .val (.long yv), .second, .val (.long yc), .second, .val (.ref q), .val .null, .val (.int (1 : Int32)), .unset] [] hr74 1 0 := rn86.go fun T t X k => XS.ifNo X hx rfl (hb hby at_85) rfl ((if0 _ _).trans (feq (by decide)).1) k
    have rn88 : OwnW s0 n0 89 #[.val (.long x0), .second, .val (.long x1), .second, .val (.long x2), .second, .val (.long x3), .second, .val (.int x4), .val (.int (1 : Int32)), .val (.long yv), .second, .val (.long yc), .second, .val (.ref q), .val .null, .val (.int (1 : Int32)), .unset] [(.int (1 : Int32))] hr74 1 0 := rn87.go fun T t X k => XS.iconst X hx rfl (hb hby at_88) k
    have rn89 : OwnW s0 n0 91 #[.val (.long x0), .second, .val (.long x1), .second, .val (.long x2), .second, .val (.long x3), .second, .val (.int x4), .val (.int (1 : Int32)), .val (.long yv), .second, .val (.long yc), .second, .val (.ref q), .val .null, .val (.int (1 : Int32)), .val (.int (1 : Int32))] [] hr74 1 0 := rn88.go fun T t X k => XS.istore X hx rfl (hb hby at_89) rfl (l' := #[.val (.long x0), .second, .val (.long x1), .second, .val (.long x2), .second, .val (.long x3), .second, .val (.int x4), .val (.int (1 : Int32)), .val (.long yv), .second, .val (.long yc), .second, .val (.ref q), .val .null, .val (.int (1 : Int32)), .val (.int (1 : Int32))]) rfl k
    have rn90 : OwnW s0 n0 134 #[.val (.long x0), .second, .val (.long x1), .second, .val (.long x2), .second, .val (.long x3), .second, .val (.int x4), .val (.int (1 : Int32)), .val (.long yv), .second, .val (.long yc), .second, .val (.ref q), .val .null, .val (.int (1 : Int32)), .val (.int (1 : Int32))] [] hr74 1 0 := rn89.go fun T t X k => XS.goto X hx rfl (pc0 := 91) (pc' := 134) rfl (hb hby at_91) (by decide) (by decide) k
    have rn91 : OwnW s0 n0 136 #[.val (.long x0), .second, .val (.long x1), .second, .val (.long x2), .second, .val (.long x3), .second, .val (.int x4), .val (.int (1 : Int32)), .val (.long yv), .second, .val (.long yc), .second, .val (.ref q), .val .null, .val (.int (1 : Int32)), .val (.int (1 : Int32))] [(.int (1 : Int32))] hr74 1 0 := rn90.go fun T t X k => XS.iload X hx rfl (hb hby at_134) rfl k
    have rn92 : OwnW s0 n0 138 #[.val (.long x0), .second, .val (.long x1), .second, .val (.long x2), .second, .val (.long x3), .second, .val (.int x4), .val (.int (1 : Int32)), .val (.long yv), .second, .val (.long yc), .second, .val (.ref q), .val .null, .val (.int (1 : Int32)), .val (.int (1 : Int32))] [(.int (1 : Int32)), (.int (1 : Int32))] hr74 1 0 := rn91.go fun T t X k => XS.iload X hx rfl (hb hby at_136) rfl k
    have rn93 : OwnW s0 n0 141 #[.val (.long x0), .second, .val (.long x1), .second, .val (.long x2), .second, .val (.long x3), .second, .val (.int x4), .val (.int (1 : Int32)), .val (.long yv), .second, .val (.long yc), .second, .val (.ref q), .val .null, .val (.int (1 : Int32)), .val (.int (1 : Int32))] [] hr74 1 0 := rn92.go fun T t X k => XS.icmpNo X hx rfl (hb hby at_138) rfl (teq rfl).2 k
    have rn94 : OwnW s0 n0 142 #[.val (.long x0), .second, .val (.long x1), .second, .val (.long x2), .second, .val (.long x3), .second, .val (.int x4), .val (.int (1 : Int32)), .val (.long yv), .second, .val (.long yc), .second, .val (.ref q), .val .null, .val (.int (1 : Int32)), .val (.int (1 : Int32))] [(.int (1 : Int32))] hr74 1 0 := rn93.go fun T t X k => XS.iconst X hx rfl (hb hby at_141) k
    have rn95 : OwnW s0 n0 146 #[.val (.long x0), .second, .val (.long x1), .second, .val (.long x2), .second, .val (.long x3), .second, .val (.int x4), .val (.int (1 : Int32)), .val (.long yv), .second, .val (.long yc), .second, .val (.ref q), .val .null, .val (.int (1 : Int32)), .val (.int (1 : Int32))] [(.int (1 : Int32))] hr74 1 0 := rn94.go fun T t X k => XS.goto X hx rfl (pc0 := 142) (pc' := 146) rfl (hb hby at_142) (by decide) (by decide) k
    have rn96 := rn95.retN hx hret (by simp) rfl (hb hby at_146)
    exact ⟨_, _, 1, 0, rfl, by decide, by decide, rn96⟩
set_option maxRecDepth 65536 in
set_option maxHeartbeats 40000000 in
theorem comes_1 {Post : Tables → Env → Array Value → State → Outcome → State → Prop} (hpost : ∀ tb e args s v u, (limb_1_1.after args s (.returned v) u = true ∧ limb_1_2.after args s (.returned v) u = true ∧ True) → FrameEnd s (.returned v) u (Jvm.fieldLocs frame_1_writes args s ++ Jvm.arrayLocs frame_1_arrays args s ++ Jvm.staticLocs frame_1_statics s) 16 128 → Post tb e args s (.returned v) u) :
    ArmFor flags0 classFile x code maxLocals ret World_1 tables_1 room_1 Calls_1 rest_1 Pre_1 Post := by
  intro l hfl _ _ p e ha hc hk s m args below hf hA hF happ hP
  obtain ⟨hcalls, hrest, hpre⟩ := hP
  obtain ⟨-, -, -, hnamed, -, -, -, hat⟩ := (Spec.applies_iff hf).mp happ
  obtain ⟨hg, hn⟩ := and_e (Cond.before_iff.mp (show (Jvm.Cond.and given_1 narrow_1).before args s = true from hpre))
  obtain ⟨g0, t0⟩ := and_e hg
  obtain ⟨g1, t1⟩ := and_e t0
  obtain ⟨g2, t2⟩ := and_e t1
  obtain ⟨g3, t3⟩ := and_e t2
  obtain ⟨g4, t4⟩ := and_e t3
  obtain ⟨w0, w1, w2, w3, w4, rfl⟩ : ∃ w0 w1 w2 w3 w4 : Value, args = #[w0, w1, w2, w3, w4] := by
    have hs : args.size = 5 := by simpa [Cond.value, given_1] using g0
    obtain ⟨L⟩ := args
    match L, hs with
    | [w0, w1, w2, w3, w4], _ => exact ⟨w0, w1, w2, w3, w4, rfl⟩
  have hw := fun d (hd : d ∈ tables_1) => atoms_spec (ws := Jvm.Cond.code x code maxLocals ret :: tables_1) hat d (List.mem_cons_of_mem _ hd)
  have hfit : Fit s := fun {y c} hc i hi => by
    obtain ⟨ha, rfl⟩ := Array.getElem?_eq_some_iff.mp hc
    have q := List.all_eq_true.mp ((Array.all_eq_true_iff_forall_mem.mp hF) _ (Array.getElem_mem ha)) i (List.mem_range.mpr hi)
    simpa [Array.getElem?_eq_getElem hi] using q
  obtain ⟨i0, e0⟩ := isL_v g1
  obtain rfl : w0 = (.long i0) := Option.some.inj e0
  obtain ⟨i1, e1⟩ := isL_v g2
  obtain rfl : w1 = (.long i1) := Option.some.inj e1
  obtain ⟨i2, e2⟩ := isL_v g3
  obtain rfl : w2 = (.long i2) := Option.some.inj e2
  obtain ⟨i3, e3⟩ := isL_v g4
  obtain rfl : w3 = (.long i3) := Option.some.inj e3
  obtain ⟨i4, e4⟩ := is_v t4
  obtain rfl : w4 = (.int i4) := Option.some.inj e4
  obtain ⟨n, o, h1, h2, h3, _, L, rfl, ⟨N, rfl⟩, hq⟩ := own_law l s _ hw i0 i1 i2 i3 i4 s.heap s.heap.size (Nat.le_refl _) tables_1 p e ha hc hk s m _ below hf ((Spec.applies_iff_loose hf).mp happ).1 ⟨rfl, State.Warmed39.refl s, rfl⟩ trivial
  refine ⟨n, _, h1, h2, h3, hpost _ _ _ _ _ _ ⟨Cond.after_iff.mpr rfl, Cond.after_iff.mpr (eq_i res_at (Term.int_eval (1)) rfl), trivial⟩ ⟨hq.1, hq.2.1, (hq.2.2.sift fun y hy => Or.inr (N y hy)).mono (by decide) (by decide)⟩⟩
theorem main_1_1 : Claimed_1_1 := comes_1 fun _ _ _ _ _ _ h hF => ⟨h.1, hF⟩
theorem main_1_2 : Claimed_1_2 := comes_1 fun _ _ _ _ _ _ h hF => ⟨h.2.1, hF⟩
end Jvm.Pilot.@@N@@
namespace Jvm.Pilot.@@N@@
open Jvm Jvm.ClassFile Sem Op Lib Jvm.Free Jvm.Stand Jvm.Pilot.@@N@@.Jvm.D
/-! MADE BY PROGRAM (witnessworld.py) out of the Statement's table words and the real class files: 10 classes; the members and pool entries that the words name. The judged class is class 1, her method 1. -/
namespace start1
open Jvm.ClassFile
def u (s : String) : CpInfo := .utf8 (stringToUtf16 s)
/-- a pool by its gaps: so many unusable entries, then the entry; so many at the end -/
def gap : Nat → List CpInfo → List CpInfo
  | 0, r => r
  | n + 1, r => .unusable :: gap n r
def poolList (es : List (Nat × CpInfo)) (last : Nat) : List CpInfo := es.foldr (fun e r => gap e.1 (e.2 :: r)) (gap last [])
def pool (es : List (Nat × CpInfo)) (last : Nat) : Array CpInfo := ⟨poolList es last⟩
def fileOf (pool : Array CpInfo) (this : Nat) (attrs : Array Attribute := #[]) (ms : Array MethodInfo := #[]) (fl : Nat := 33) (sup : Nat := 0) (ifs : Array Nat := #[]) (fds : Array FieldInfo := #[]) : ClassFile where
  minorVersion := 0
  majorVersion := 65
  constantPool := pool
  accessFlags := fl
  thisClass := this
  superClass := sup
  interfaces := ifs
  fields := fds
  methods := ms
  attributes := attrs
def plain (name : String) (sup : Option ClassId) : Class where
  name := name
  kind := .ordinary
  loader := none
  accessFlags := 33
  super := sup
  interfaces := #[]
  cf := none
  fields := #[]
  methods := #[]
  instanceTypes := #[]
  staticTypes := #[]
  resolved := #[]
  callSites := []
  init := .initialized
  statics := none
  mirror := none

def pool0 : Array CpInfo := pool [(5, u "<init>"), (0, u "()V"), (1, .class_ 10), (1, u "java/lang/Object")] 113

def k0c0 : Code := { maxStack := 0, maxLocals := 1, code := object_method_1_code, exceptionTable := #[], attributes := #[] }
def k0m0 : Method := { name := "<init>", desc := "()V", sig := { parameters := [], returnType := none }, accessFlags := 1, code := some k0c0 }
/-- java/lang/Object -/
def k0 : Class := { plain "java/lang/Object" none with
  accessFlags := 33
  interfaces := #[]
  cf := some (fileOf pool0 8 #[] #[{ accessFlags := 1, nameIndex := 5, descriptorIndex := 6, attributes := #[] }] 33 0 #[] #[])
  fields := #[]
  methods := #[k0m0]
  instanceTypes := #[]
  staticTypes := #[]
  resolved := Array.replicate 124 none
  statics := none }

def pool1 : Array CpInfo := pool [(2, .class_ 4), (1, u "java/lang/Object"), (0, u "<init>"), (0, u "()V"), (0, .class_ 8), (0, u "com/example/slotwright/slotwright/solver/Snapshot"), (0, .methodref 7 10), (0, .nameAndType 5 11), (0, u "(JJ[ILcom/example/slotwright/slotwright/solver/Enrolment;)V"), (0, .methodref 7 13), (0, .nameAndType 14 15), (0, u "ranksBefore"), (0, u "(JJLcom/example/slotwright/slotwright/solver/Snapshot;)Z"), (0, .class_ 17), (0, u "com/example/slotwright/slotwright/solver/SnapshotRanksBeforePinLaw"), (2, u "law"), (0, u "(JJJJI)Z")] 5

def k1m0 : Method := { name := "<init>", desc := "()V", sig := { parameters := [], returnType := none }, accessFlags := 1, code := none }
def k1c1 : Code := { maxStack := 8, maxLocals := 18, code := code, exceptionTable := #[], attributes := #[] }
def k1m1 : Method := { name := "law", desc := "(JJJJI)Z", sig := { parameters := [.long, .long, .long, .long, .int], returnType := some .boolean }, accessFlags := 9, code := some k1c1 }
/-- com/example/slotwright/slotwright/solver/SnapshotRanksBeforePinLaw -/
def k1 : Class := { plain "com/example/slotwright/slotwright/solver/SnapshotRanksBeforePinLaw" (some 0) with
  accessFlags := 49
  interfaces := #[]
  cf := some (fileOf pool1 16 #[] #[{ accessFlags := 1, nameIndex := 5, descriptorIndex := 6, attributes := #[] }, { accessFlags := 9, nameIndex := 20, descriptorIndex := 21, attributes := #[] }] 49 2 #[] #[])
  fields := #[]
  methods := #[k1m0, k1m1]
  instanceTypes := #[]
  staticTypes := #[]
  resolved := Array.replicate 27 none
  statics := none }

def pool2 : Array CpInfo := pool [(1, .methodref 2 3), (0, .class_ 4), (0, .nameAndType 5 6), (0, u "java/lang/Object"), (0, u "<init>"), (0, u "()V"), (0, .class_ 8), (0, u "java/lang/Record")] 13

def k2c0 : Code := { maxStack := 1, maxLocals := 1, code := jdk_30_method_1_code, exceptionTable := #[], attributes := #[] }
def k2m0 : Method := { name := "<init>", desc := "()V", sig := { parameters := [], returnType := none }, accessFlags := 4, code := some k2c0 }
/-- java/lang/Record -/
def k2 : Class := { plain "java/lang/Record" (some 0) with
  accessFlags := 1057
  interfaces := #[]
  cf := some (fileOf pool2 7 #[] #[{ accessFlags := 4, nameIndex := 5, descriptorIndex := 6, attributes := #[] }] 1057 2 #[] #[])
  fields := #[]
  methods := #[k2m0]
  instanceTypes := #[]
  staticTypes := #[]
  resolved := Array.replicate 22 none
  statics := none }

def pool3 : Array CpInfo := pool [(1, .methodref 2 3), (0, .class_ 4), (0, .nameAndType 5 6), (0, u "java/lang/Record"), (0, u "<init>"), (0, u "()V"), (0, .fieldref 8 9), (0, .class_ 10), (0, .nameAndType 11 12), (0, u "com/example/slotwright/slotwright/solver/Snapshot"), (0, u "violations"), (0, u "J"), (0, .fieldref 8 14), (0, .nameAndType 15 12), (0, u "cost"), (0, .fieldref 8 17), (0, .nameAndType 18 19), (0, u "values"), (0, u "[I"), (0, .fieldref 8 21), (0, .nameAndType 22 23), (0, u "enrolment"), (0, u "Lcom/example/slotwright/slotwright/solver/Enrolment;"), (12, u "(JJ[ILcom/example/slotwright/slotwright/solver/Enrolment;)V"), (3, u "ranksBefore"), (0, u "(JJLcom/example/slotwright/slotwright/solver/Snapshot;)Z")] 30

def k3c0 : Code := { maxStack := 3, maxLocals := 7, code := prog_78_method_1_code, exceptionTable := #[], attributes := #[] }
def k3m0 : Method := { name := "<init>", desc := "(JJ[ILcom/example/slotwright/slotwright/solver/Enrolment;)V", sig := { parameters := [.long, .long, (.array .int), (.object "com/example/slotwright/slotwright/solver/Enrolment")], returnType := none }, accessFlags := 0, code := some k3c0 }
def k3c1 : Code := { maxStack := 4, maxLocals := 5, code := prog_78_method_2_code, exceptionTable := #[], attributes := #[] }
def k3m1 : Method := { name := "ranksBefore", desc := "(JJLcom/example/slotwright/slotwright/solver/Snapshot;)Z", sig := { parameters := [.long, .long, (.object "com/example/slotwright/slotwright/solver/Snapshot")], returnType := some .boolean }, accessFlags := 8, code := some k3c1 }
/-- com/example/slotwright/slotwright/solver/Snapshot -/
def k3 : Class := { plain "com/example/slotwright/slotwright/solver/Snapshot" (some 2) with
  accessFlags := 48
  interfaces := #[]
  cf := some (fileOf pool3 8 #[] #[{ accessFlags := 0, nameIndex := 5, descriptorIndex := 36, attributes := #[] }, { accessFlags := 8, nameIndex := 40, descriptorIndex := 41, attributes := #[] }] 48 2 #[] #[{ accessFlags := 18, nameIndex := 11, descriptorIndex := 12, attributes := #[] }, { accessFlags := 18, nameIndex := 15, descriptorIndex := 12, attributes := #[] }, { accessFlags := 18, nameIndex := 18, descriptorIndex := 19, attributes := #[] }, { accessFlags := 18, nameIndex := 22, descriptorIndex := 23, attributes := #[] }])
  fields := #[{ name := "violations", type := .long, accessFlags := 18, slot := 0, constantValue := 0 }, { name := "cost", type := .long, accessFlags := 18, slot := 1, constantValue := 0 }, { name := "values", type := (.array .int), accessFlags := 18, slot := 2, constantValue := 0 }, { name := "enrolment", type := (.object "com/example/slotwright/slotwright/solver/Enrolment"), accessFlags := 18, slot := 3, constantValue := 0 }]
  methods := #[k3m0, k3m1]
  instanceTypes := #[.long, .long, (.array .int), (.object "com/example/slotwright/slotwright/solver/Enrolment")]
  staticTypes := #[]
  resolved := Array.replicate 72 none
  statics := none }

def pool4 : Array CpInfo := pool [(1, u "java/lang/Cloneable"), (0, .class_ 1), (0, u "java/lang/Object"), (0, .class_ 3)] 3

/-- java/lang/Cloneable -/
def k4 : Class := { plain "java/lang/Cloneable" (some 0) with
  accessFlags := 1537
  interfaces := #[]
  cf := some (fileOf pool4 2 #[] #[] 1537 4 #[] #[])
  fields := #[]
  methods := #[]
  instanceTypes := #[]
  staticTypes := #[]
  resolved := Array.replicate 8 none
  statics := none }

def pool5 : Array CpInfo := pool [(1, u "java/io/Serializable"), (0, .class_ 1), (0, u "java/lang/Object"), (0, .class_ 3)] 3

/-- java/io/Serializable -/
def k5 : Class := { plain "java/io/Serializable" (some 0) with
  accessFlags := 1537
  interfaces := #[]
  cf := some (fileOf pool5 2 #[] #[] 1537 4 #[] #[])
  fields := #[]
  methods := #[]
  instanceTypes := #[]
  staticTypes := #[]
  resolved := Array.replicate 8 none
  statics := none }

/-- the primitive byte -/
def k6 : Class := { plain "byte" none with kind := .primitive 'B', accessFlags := 0x411 }
/-- [B -/
def k7 : Class := { plain "[B" (some 0) with kind := .array 6 .byte, interfaces := #[4, 5], accessFlags := 1041 }

/-- the primitive int -/
def k8 : Class := { plain "int" none with kind := .primitive 'I', accessFlags := 0x411 }
/-- [I -/
def k9 : Class := { plain "[I" (some 0) with kind := .array 8 .int, interfaces := #[4, 5], accessFlags := 1041 }

def heap : Heap := #[]
def classes : Array Class := #[k0, k1, k2, k3, k4, k5, k6, k7, k8, k9]
def interned : List (Array UInt16 × Addr) := []
def slotsUsed : Nat := 0
def theMethod : MethodId := ⟨1, 1⟩
def args0 : Array Value := #[.long 1, .long 2, .long 3, .long 4, .int 2]
def aboutOver (below : List Frame) : State where
  vm := { classes := classes, interned := interned.toArray }
  heap := heap
  slotsUsed := slotsUsed
  threads := #[{ frames := .invoking theMethod args0 :: below }]
def below0 : List Frame := [.native { method := ⟨0, 0⟩, args := #[] }]
def about1 : State := aboutOver below0
def p0 : Program := .bare "" "" ""
def e0 : Env := launch0.env 0 0 0
theorem w_frames : about1.frames = Frame.invoking theMethod args0 :: below0 := rfl
set_option maxRecDepth 65536 in
theorem w_args : argsFit about1.vm theMethod args0 = true := by decide +kernel
set_option maxRecDepth 65536 in
theorem w_heap : heapFits about1 = true := by decide +kernel
set_option maxRecDepth 65536 in
theorem w_runnable : about1.curStatus? = some .runnable := by decide +kernel
set_option maxRecDepth 65536 in
theorem w_alone : about1.alone = true := by decide +kernel
set_option maxRecDepth 65536 in
theorem w_named : about1.methodNamed? x = some theMethod := by decide +kernel
set_option maxRecDepth 65536 in
theorem w_hears : about1.hears theMethod below0 = true := by decide +kernel
set_option maxRecDepth 65536 in
theorem w_ripe : about1.ripe theMethod args0 below0 = true := by decide +kernel
theorem w_running : about1.status = .running := rfl
set_option maxRecDepth 65536 in
theorem w_room : about1.hasRoom e0.platform room_1 = true :=
  launch0.hasRoom_least _ room_1 (by decide +kernel) (by decide +kernel) (by decide +kernel) (by decide +kernel) (by decide +kernel) (by decide +kernel)
theorem allAtoms_all (ts : List Jvm.Cond) (a : Array Jvm.Value) (st : Jvm.State) : (allAtoms ts).before a st = ts.all (fun c => c.before a st) := by
  induction ts with
  | nil => rfl
  | cons c t ih =>
    show (Jvm.Cond.and c (allAtoms t)).before a st = _
    rw [Jvm.Cond.before_and, ih, List.all_cons]
def words1 : List Jvm.Cond := Jvm.Cond.code x code maxLocals ret :: tables_1
/-- a 'code' word, met by the world's own term for the bytes: nothing is compared byte by byte -/
theorem code_word {y : MethodName} {bytes : ByteArray} {mx : Nat} {rt : Option FieldType} {a : Array Value} {s : State} {m : MethodId} {meth : Method} {c : Code} (h1 : s.methodNamed? y = some m) (h2 : s.vm.method? m = some meth) (h3 : meth.code = some c) (h4 : c.code = bytes)
    (h5 : (c.maxLocals == mx && c.exceptionTable.isEmpty && decide (c.maxStack ≤ mostOperands) && decide (meth.sig.returnType = rt) && !meth.locks && decide (parseMethodDescriptor y.desc = some meth.sig)) = true) : (Jvm.Cond.code y bytes mx rt).before a s = true := by
  simp only [Bool.and_eq_true, beq_iff_eq, Bool.not_eq_true', decide_eq_true_eq] at h5
  obtain ⟨⟨⟨⟨⟨g1, g2⟩, g3⟩, g4⟩, g5⟩, g6⟩ := h5
  simp [Cond.before, Cond.holds, Cond.value, h1, h2, h3, h4, g1, g2, g3, g4, g5, g6]
def isCode : Jvm.Cond → Bool
  | .code _ _ _ _ => true
  | _ => false
theorem all_split {L : List Jvm.Cond} {P : Jvm.Cond → Bool} (h1 : L.all (fun c => isCode c || P c) = true) (h2 : ∀ c ∈ L.filter isCode, P c = true) : L.all P = true := by
  refine List.all_eq_true.mpr fun c hc => ?_
  have h := List.all_eq_true.mp h1 c hc
  rcases Bool.eq_false_or_eq_true (isCode c) with hi | hi
  · exact h2 c (List.mem_filter.mpr ⟨hc, hi⟩)
  · simpa [hi] using h
set_option maxRecDepth 65536 in
theorem w_c0 : (Jvm.Cond.code x code maxLocals ret).before args0 about1 = true := code_word (m := ⟨1, 1⟩) (meth := k1m1) (c := k1c1) (by decide +kernel) rfl rfl rfl (by decide +kernel)
set_option maxRecDepth 65536 in
theorem w_c1 : (Jvm.Cond.code ({ cls := "com/example/slotwright/slotwright/solver/Snapshot", name := "ranksBefore", desc := "(JJLcom/example/slotwright/slotwright/solver/Snapshot;)Z" } : Jvm.MethodName) prog_78_method_2_code (5 : Nat) (Option.some Jvm.ClassFile.FieldType.boolean)).before args0 about1 = true := code_word (m := ⟨3, 1⟩) (meth := k3m1) (c := k3c1) (by decide +kernel) rfl rfl rfl (by decide +kernel)
set_option maxRecDepth 65536 in
theorem w_c2 : (Jvm.Cond.code ({ cls := "com/example/slotwright/slotwright/solver/Snapshot", name := "<init>", desc := "(JJ[ILcom/example/slotwright/slotwright/solver/Enrolment;)V" } : Jvm.MethodName) prog_78_method_1_code (7 : Nat) (Option.none : Option Jvm.ClassFile.FieldType)).before args0 about1 = true := code_word (m := ⟨3, 0⟩) (meth := k3m0) (c := k3c0) (by decide +kernel) rfl rfl rfl (by decide +kernel)
set_option maxRecDepth 65536 in
theorem w_c3 : (Jvm.Cond.code ({ cls := "java/lang/Record", name := "<init>", desc := "()V" } : Jvm.MethodName) jdk_30_method_1_code (1 : Nat) (Option.none : Option Jvm.ClassFile.FieldType)).before args0 about1 = true := code_word (m := ⟨2, 0⟩) (meth := k2m0) (c := k2c0) (by decide +kernel) rfl rfl rfl (by decide +kernel)
set_option maxRecDepth 65536 in
theorem w_c4 : (Jvm.Cond.code ({ cls := "java/lang/Object", name := "<init>", desc := "()V" } : Jvm.MethodName) object_method_1_code (1 : Nat) (Option.none : Option Jvm.ClassFile.FieldType)).before args0 about1 = true := code_word (m := ⟨0, 0⟩) (meth := k0m0) (c := k0c0) (by decide +kernel) rfl rfl rfl (by decide +kernel)
def codes1 : List Jvm.Cond := [Jvm.Cond.code x code maxLocals ret, Jvm.Cond.code ({ cls := "com/example/slotwright/slotwright/solver/Snapshot", name := "ranksBefore", desc := "(JJLcom/example/slotwright/slotwright/solver/Snapshot;)Z" } : Jvm.MethodName) prog_78_method_2_code (5 : Nat) (Option.some Jvm.ClassFile.FieldType.boolean), Jvm.Cond.code ({ cls := "com/example/slotwright/slotwright/solver/Snapshot", name := "<init>", desc := "(JJ[ILcom/example/slotwright/slotwright/solver/Enrolment;)V" } : Jvm.MethodName) prog_78_method_1_code (7 : Nat) (Option.none : Option Jvm.ClassFile.FieldType), Jvm.Cond.code ({ cls := "java/lang/Record", name := "<init>", desc := "()V" } : Jvm.MethodName) jdk_30_method_1_code (1 : Nat) (Option.none : Option Jvm.ClassFile.FieldType), Jvm.Cond.code ({ cls := "java/lang/Object", name := "<init>", desc := "()V" } : Jvm.MethodName) object_method_1_code (1 : Nat) (Option.none : Option Jvm.ClassFile.FieldType)]
set_option maxRecDepth 65536 in
theorem codes_eq : words1.filter isCode = codes1 := rfl
theorem w_codes : ∀ c ∈ words1.filter isCode, c.before args0 about1 = true := by
  rw [codes_eq]
  intro c hc
  simp only [codes1, List.mem_cons, List.not_mem_nil, or_false] at hc
  rcases hc with rfl | rfl | rfl | rfl | rfl
  · exact w_c0
  · exact w_c1
  · exact w_c2
  · exact w_c3
  · exact w_c4
set_option maxRecDepth 65536 in
theorem w_t1 : (words1.take 24).all (fun c => isCode c || c.before args0 about1) = true := by decide +kernel
set_option maxRecDepth 65536 in
theorem w_t2 : (words1.drop 24).all (fun c => isCode c || c.before args0 about1) = true := by decide +kernel
theorem w_tables : (allAtoms (Jvm.Cond.code x code maxLocals ret :: tables_1)).before args0 about1 = true := by
  rw [allAtoms_all]
  show words1.all (fun c => c.before args0 about1) = true
  refine all_split ?_ w_codes
  rw [← List.take_append_drop 24 words1, List.all_append, w_t1, w_t2]
  rfl
set_option maxRecDepth 65536 in
theorem w_case : (Jvm.Cond.and given_1 narrow_1).before args0 about1 = true := by decide +kernel
theorem w_applies : (headSpec (Jvm.Cond.code x code maxLocals ret :: tables_1) room_1).applies x e0.platform about1 = true :=
  (Spec.applies_iff w_frames).mpr ⟨w_running, w_runnable, w_alone, w_named, w_hears, w_ripe, w_room, w_tables⟩
theorem atStart : AtStart classFile x code maxLocals ret World_1 tables_1 room_1 Calls_1 rest_1 Pre_1 launch0 p0 e0 about1 theMethod args0 below0 :=
  ⟨lists_1, trivial, launch0.admits_env _ _ _, launch0.least_env, fairChoices_fair.cas, fairChoices_fair.clock, w_frames, w_args, w_heap, w_applies, trivial, trivial, w_case⟩
end start1
theorem witness_1 : WitnessClaimed_1 := ⟨start1.p0, start1.e0, start1.about1, start1.theMethod, start1.args0, start1.below0, start1.atStart⟩
end Jvm.Pilot.@@N@@
