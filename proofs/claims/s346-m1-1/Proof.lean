import JvmDerived
import JvmDerived.Pilot.@@N@@Statement
import JvmDerived.Pilot.@@N@@Code
set_option linter.unusedVariables false
set_option linter.unusedSimpArgs false
namespace Jvm.Pilot.@@N@@
open Jvm Jvm.ClassFile Sem Op Lib Jvm.Free Jvm.Stand Jvm.LawKit Jvm.RoadKit Bundle Jvm.Pilot.@@N@@.Jvm.D
/-! OwnW: the walk as a fact: from s0 it has come to pc with locals L, stack S, heap h; kc cells and ks slots made; written only cells at or above n0. -/
section OwnKit
variable {p : Program} {l : Launch} {e : Env} {R : Room} {s : State} {m : MethodId} {args : Array Value} {below : List Frame} {meth : Method} {c : Code} {s0 : State} {n0 pc pc' : Nat} {L L' : Array Slot} {S S' : List Value} {h h' : Heap} {kc ks : Nat} {Z : State} {a0 : Array Value}
def OwnW {p : Program} {l : Launch} {e : Env} {R : Room} {s : State} {m : MethodId} {args : Array Value} {below : List Frame} {meth : Method} {c : Code} (s0 : State) (n0 pc : Nat) (L : Array Slot) (S : List Value) (h : Heap) (kc ks : Nat) : Prop :=
  ∃ (T : State) (locs : List Loc), Stand p l e R s m args below meth c T locs kc ks ∧ T.heap = h ∧ Fr n0 locs ∧ Steps p.tables e below s0 (T.setTop (mkF m pc L S))
def OwnEnd {p : Program} {l : Launch} {e : Env} {R : Room} {s : State} {m : MethodId} {args : Array Value} {below : List Frame} {meth : Method} {c : Code} (s0 : State) (n0 : Nat) (v : Option Value) (h : Heap) (kc ks : Nat) : Prop :=
  ∃ (T : State) (locs : List Loc), Stand p l e R s m args below meth c T locs kc ks ∧ T.heap = h ∧ Fr n0 locs ∧ (meth.sig.returnType = none → v = none) ∧ ∀ fs : List Frame, (∀ (f : JFrame) (acts : List Action), f.method = m → f.locked = none → f.entered = [] → (doReturn e (T.setTop f) acts v).1 = T.setFrames fs) → Steps p.tables e below s0 (T.setFrames fs)
/-- a callee's contract: with the arguments A on the heap h0 it returns v and leaves h' with Q v h' -/
def OwnCon (l : Launch) (Z : State) (y : MethodName) (bytes : ByteArray) (maxL : Nat) (ret : Option FieldType) (rm : Room) (A : Array Value) (h0 : Heap) (n0 : Nat) (Q : Option Value → Heap → Prop) : Prop :=
  ∀ ws : List Jvm.Cond, MetFree l y (head1 (Jvm.Cond.code y bytes maxL ret :: ws) rm) (fun a U => a = A ∧ Z.Warmed39 U.vm ∧ U.heap = h0) (fun _ _ _ _ _ => True) (fun _ U o U' => ∃ v L, o = .returned v ∧ (Fr n0 L ∧ Q v U'.heap) ∧ FrameEnd U o U' L rm.cells rm.slots)
theorem OwnW.go (r : OwnW (p := p) (l := l) (e := e) (R := R) (s := s) (m := m) (args := args) (below := below) (meth := meth) (c := c) s0 n0 pc L S h kc ks)
    (f : ∀ (T t : State), At T m c below → Steps p.tables e below (T.setTop (mkF m pc' L' S')) t → Steps p.tables e below (T.setTop (mkF m pc L S)) t) :
    OwnW (p := p) (l := l) (e := e) (R := R) (s := s) (m := m) (args := args) (below := below) (meth := meth) (c := c) s0 n0 pc' L' S' h kc ks := by
  obtain ⟨T, ls, X, eT, N, st⟩ := r
  exact ⟨T, ls, X, eT, N, st.trans (f T _ X.here (Steps.refl _))⟩
theorem OwnW.goX (r : OwnW (p := p) (l := l) (e := e) (R := R) (s := s) (m := m) (args := args) (below := below) (meth := meth) (c := c) s0 n0 pc L S h kc ks)
    (f : ∀ (T t : State) (ls : List Loc), Stand p l e R s m args below meth c T ls kc ks → T.heap = h → Steps p.tables e below (T.setTop (mkF m pc' L' S')) t → Steps p.tables e below (T.setTop (mkF m pc L S)) t) :
    OwnW (p := p) (l := l) (e := e) (R := R) (s := s) (m := m) (args := args) (below := below) (meth := meth) (c := c) s0 n0 pc' L' S' h kc ks := by
  obtain ⟨T, ls, X, eT, N, st⟩ := r
  exact ⟨T, ls, X, eT, N, st.trans (f T _ ls X eT (Steps.refl _))⟩
theorem OwnW.goT (r : OwnW (p := p) (l := l) (e := e) (R := R) (s := s) (m := m) (args := args) (below := below) (meth := meth) (c := c) s0 n0 pc L S h kc ks)
    (f : ∀ (T : State) (ls : List Loc), Stand p l e R s m args below meth c T ls kc ks → T.heap = h → ∃ T', Stand p l e R s m args below meth c T' ls kc ks ∧ T'.heap = h ∧ ∀ t, Steps p.tables e below (T'.setTop (mkF m pc' L' S')) t → Steps p.tables e below (T.setTop (mkF m pc L S)) t) :
    OwnW (p := p) (l := l) (e := e) (R := R) (s := s) (m := m) (args := args) (below := below) (meth := meth) (c := c) s0 n0 pc' L' S' h kc ks := by
  obtain ⟨T, ls, X, eT, N, st⟩ := r
  obtain ⟨T', X', eT', st'⟩ := f T ls X eT
  exact ⟨T', ls, X', eT', N, st.trans (st' _ (Steps.refl _))⟩
/-- the same walk, written otherwise -/
theorem OwnW.to (r : OwnW (p := p) (l := l) (e := e) (R := R) (s := s) (m := m) (args := args) (below := below) (meth := meth) (c := c) s0 n0 pc L S h kc ks) (h1 : pc = pc') (h2 : L = L') (h3 : S = S') (h4 : h = h') :
    OwnW (p := p) (l := l) (e := e) (R := R) (s := s) (m := m) (args := args) (below := below) (meth := meth) (c := c) s0 n0 pc' L' S' h' kc ks := by
  subst h1 h2 h3 h4; exact r
theorem OwnW.newO (r : OwnW (p := p) (l := l) (e := e) (R := R) (s := s) (m := m) (args := args) (below := below) (meth := meth) (c := c) s0 n0 pc L S h kc ks)
    (hx : p.tables.exec = Jvm.exec) (hZ : Z.Warmed39 s.vm) {own C : String} {index n : Nat} (hown : s.vm.findClass own = some m.cls) (w : (Jvm.Cond.classLink own index C).before a0 Z = true) (wi : (Jvm.Cond.instantiable C n).before a0 Z = true) (wz : (Jvm.Cond.initialized C).before a0 Z = true)
    (hd : decode c.code pc = .ok (.new index, 3)) (hc : kc + 1 ≤ R.cells) (hl : ks + n ≤ R.slots) :
    ∃ h', OwnW (p := p) (l := l) (e := e) (R := R) (s := s) (m := m) (args := args) (below := below) (meth := meth) (c := c) s0 n0 (pc + 3) L (.ref h.size :: S) h' (kc + 1) (ks + n) ∧ Ext h h' ∧ Exa Z h' h.size C ∧ (∀ {O nm d : String} {ty : FieldType}, Laid Z a0 C O nm d → parseFieldDescriptor d = some ty → Fld Z h' h.size O nm d (defaultValue ty)) := by
  obtain ⟨T, ls, X, eT, N, st⟩ := r
  obtain ⟨T', h', X', e', E, A, D, -, st'⟩ := Jvm.RoadKit.newO X hx hZ hown w wi wz eT (g := mkF m pc L S) rfl hd hc hl
  exact ⟨h', ⟨T', ls, X', e', N, st.trans (st' _ (Steps.refl _))⟩, E, A, D⟩
theorem OwnW.newP (r : OwnW (p := p) (l := l) (e := e) (R := R) (s := s) (m := m) (args := args) (below := below) (meth := meth) (c := c) s0 n0 pc L S h kc ks)
    (hx : p.tables.exec = Jvm.exec) (hZ : Z.Warmed39 s.vm) {aty : ArrayType} (w : (Jvm.Cond.arrayClass (newarray.typeOf aty)).before a0 Z = true) (hd : decode c.code pc = .ok (.newarray aty, 2)) {n : Int32} {rest : List Value} (hs : S = .int n :: rest)
    (hn : ¬ n < 0) {cap : Nat} (hcap : n.toNatClampNeg ≤ cap) (hb : cap * 8 ≤ 536870912) (hc : kc + 1 ≤ R.cells) (hl : ks + cap ≤ R.slots) :
    ∃ h' cA, OwnW (p := p) (l := l) (e := e) (R := R) (s := s) (m := m) (args := args) (below := below) (meth := meth) (c := c) s0 n0 (pc + 2) L (.ref h.size :: rest) h' (kc + 1) (ks + cap) ∧ Ext h h' ∧ Arr Z h' h.size (newA cA (newarray.typeOf aty) n) (newarray.typeOf aty) := by
  obtain ⟨T, ls, X, eT, N, st⟩ := r
  obtain ⟨T', h', cA, X', e', E, A, st'⟩ := Jvm.RoadKit.newP X hx hZ w eT (g := mkF m pc L S) rfl hd hs hn hcap hb hc hl
  exact ⟨h', cA, ⟨T', ls, X', e', N, st.trans (st' _ (Steps.refl _))⟩, E, A⟩
theorem OwnW.getF (r : OwnW (p := p) (l := l) (e := e) (R := R) (s := s) (m := m) (args := args) (below := below) (meth := meth) (c := c) s0 n0 pc L S h kc ks)
    (hx : p.tables.exec = Jvm.exec) (hZ : Z.Warmed39 s.vm) {own O n d : String} {index : Nat} (hown : s.vm.findClass own = some m.cls) (w : (Jvm.Cond.fieldLink own index O n d).before a0 Z = true) {a : Addr} {v : Value} (F : Fld Z h a O n d v)
    {rest : List Value} (hs : S = .ref a :: rest) (hd : decode c.code pc = .ok (.getfield index, 3)) :
    OwnW (p := p) (l := l) (e := e) (R := R) (s := s) (m := m) (args := args) (below := below) (meth := meth) (c := c) s0 n0 (pc + 3) L (v :: rest) h kc ks :=
  r.goT fun T ls X eT => Jvm.RoadKit.getF X hx hZ hown (host := "") (Or.inl w) Via.refl eT F (g := mkF m pc L S) rfl hs hd
theorem OwnW.getS (r : OwnW (p := p) (l := l) (e := e) (R := R) (s := s) (m := m) (args := args) (below := below) (meth := meth) (c := c) s0 n0 pc L S h kc ks)
    (hx : p.tables.exec = Jvm.exec) (hZ : Z.Warmed39 s.vm) {own O n d : String} {index : Nat} (hown : s.vm.findClass own = some m.cls) (w : (Jvm.Cond.fieldLink own index O n d).before a0 Z = true) {v : Value} (F : Sta Z h O n d v)
    (hd : decode c.code pc = .ok (.getstatic index, 3)) :
    OwnW (p := p) (l := l) (e := e) (R := R) (s := s) (m := m) (args := args) (below := below) (meth := meth) (c := c) s0 n0 (pc + 3) L (v :: S) h kc ks :=
  r.goT fun T ls X eT => Jvm.RoadKit.getS X hx hZ (host := "") hown w Via.refl eT F (g := mkF m pc L S) rfl hd
theorem OwnW.putF (r : OwnW (p := p) (l := l) (e := e) (R := R) (s := s) (m := m) (args := args) (below := below) (meth := meth) (c := c) s0 n0 pc L S h kc ks)
    (hx : p.tables.exec = Jvm.exec) (hZ : Z.Warmed39 s.vm) {own O n d C : String} {index kk : Nat} {ty : FieldType} (hown : s.vm.findClass own = some m.cls) (w : (Jvm.Cond.fieldLink own index O n d).before a0 Z = true) {a : Addr} {v old : Value} (F : Fld Z h a O n d old) (E : Exa Z h a C)
    (Lw : (Jvm.Cond.lays C O n d).before a0 Z = true ∨ ((Jvm.Cond.laysFinal C O n d).before a0 Z = true ∧ own = O ∧ meth.name = "<init>")) (wi : (Jvm.Cond.instantiable C kk).before a0 Z = true)
    (hty : parseFieldDescriptor d = some ty) (hn : narrow ty v = v) (hf : fits ty v = true) {rest : List Value} (hs : S = v :: .ref a :: rest) (hd : decode c.code pc = .ok (.putfield index, 3)) (g : n0 ≤ a) :
    ∃ h', OwnW (p := p) (l := l) (e := e) (R := R) (s := s) (m := m) (args := args) (below := below) (meth := meth) (c := c) s0 n0 (pc + 3) L rest h' kc ks ∧ Wr h h' a (Jvm.RoadKit.slotOf Z O n d) v := by
  obtain ⟨T, ls, X, eT, N, st⟩ := r
  obtain ⟨T', h', X', e', W', st'⟩ := Jvm.RoadKit.putF X hx hZ hown (host := "") (Or.inl w) Via.refl eT F E Lw wi hty hn hf (g := mkF m pc L S) rfl hs hd
  exact ⟨h', ⟨T', _, X', e', Fr.snoc X' N g, st.trans (st' _ (Steps.refl _))⟩, W'⟩
theorem OwnW.callS (r : OwnW (p := p) (l := l) (e := e) (R := R) (s := s) (m := m) (args := args) (below := below) (meth := meth) (c := c) s0 n0 pc L S h kc ks)
    (hx : p.tables.exec = Jvm.exec) (hZ : Z.Warmed39 s.vm) {own : String} {index : Nat} {y : MethodName} {bytes : ByteArray} {maxL : Nat} {ret : Option FieldType} {rm : Room} {Q : Option Value → Heap → Prop} (hown : s.vm.findClass own = some m.cls)
    (w1 : (Jvm.Cond.methodLink own index y).before a0 Z = true) (w2 : (Jvm.Cond.static y).before a0 Z = true) (w3 : (Jvm.Cond.initialized y.cls).before a0 Z = true) (w4 : (Jvm.Cond.code y bytes maxL ret).before a0 Z = true)
    (hy : y.cls ≠ "java/lang/invoke/MethodHandle" ∧ y.cls ≠ "java/lang/invoke/VarHandle") {argsL : List Value} (K : OwnCon l Z y bytes maxL ret rm argsL.toArray h n0 Q) (rest : List Value) (W : Nat)
    (hf : rm.frames + 1 ≤ R.frames) (hl : W + (maxL + 11) + rm.locals ≤ R.locals) (hsize : L.size = c.maxLocals) (hlen : ∀ sig, parseMethodDescriptor y.desc = some sig → argsL.length = sig.parameters.length)
    (hs : S = argsL.reverse ++ rest) (hW : (rest.map fun v => v.category).sum ≤ W) (hd : decode c.code pc = .ok (.invokestatic index, 3)) (hc : kc + rm.cells ≤ R.cells) (hsl : ks + rm.slots ≤ R.slots) :
    ∃ v h', OwnW (p := p) (l := l) (e := e) (R := R) (s := s) (m := m) (args := args) (below := below) (meth := meth) (c := c) s0 n0 (pc + 3) L (v.toList ++ rest) h' (kc + rm.cells) (ks + rm.slots) ∧ Q v h' := by
  obtain ⟨T, ls, X, eT, N, st⟩ := r
  obtain ⟨v, vm₁, ⟨T', L', k', n'⟩, -, X', ⟨Lc, hQ, l', y', z'⟩, st'⟩ := Jvm.LawKit.callS X hx (y := y) hown (mvT hZ w1) (mvT hZ w2) (mvT hZ w3) (mvT hZ w4) hy (backOf (W := W) (Q := fun v h L => Fr n0 L ∧ Q v h) (K []) hZ w4 w3 hf hl) (g := mkF m pc L S) rfl hsize (argsL := argsL) (rest := rest) hlen hs (by show 2 * 0 + _ ≤ _; omega) hd (fun _ _ => ⟨rfl, eT, hc, hsl⟩)
  dsimp only [Pt.U, Pt.locs, Pt.cells, Pt.slots] at X' l' y' z' st' hQ
  subst l' y' z'
  exact ⟨v, _, ⟨T', _, X', rfl, N.app hQ.1, st.trans (st' _ (Steps.refl _))⟩, hQ.2⟩
theorem OwnW.callN (r : OwnW (p := p) (l := l) (e := e) (R := R) (s := s) (m := m) (args := args) (below := below) (meth := meth) (c := c) s0 n0 pc L S h kc ks)
    (hx : p.tables.exec = Jvm.exec) (hZ : Z.Warmed39 s.vm) {own : String} {index : Nat} {y : MethodName} {bytes : ByteArray} {maxL : Nat} {rm : Room} {Q : Option Value → Heap → Prop} (hy1 : y.name = "<init>") (hown : s.vm.findClass own = some m.cls)
    (w1 : (Jvm.Cond.methodLink own index y).before a0 Z = true) (w2 : (Jvm.Cond.instanceMethod y).before a0 Z = true) (w3 : (Jvm.Cond.initialized y.cls).before a0 Z = true) (w4 : (Jvm.Cond.code y bytes maxL none).before a0 Z = true)
    (hy : y.cls ≠ "java/lang/invoke/MethodHandle" ∧ y.cls ≠ "java/lang/invoke/VarHandle") {a : Addr} {argsL : List Value} (K : OwnCon l Z y bytes maxL none rm (.ref a :: argsL).toArray h n0 Q) (rest : List Value) (W : Nat)
    (hf : rm.frames + 1 ≤ R.frames) (hl : W + (maxL + 11) + rm.locals ≤ R.locals) (hsize : L.size = c.maxLocals) (hlen : ∀ sig, parseMethodDescriptor y.desc = some sig → argsL.length = sig.parameters.length)
    (hs : S = argsL.reverse ++ .ref a :: rest) (hW : (rest.map fun v => v.category).sum ≤ W) (hd : decode c.code pc = .ok (.invokespecial index, 3)) (hc : kc + rm.cells ≤ R.cells) (hsl : ks + rm.slots ≤ R.slots) :
    ∃ v h', OwnW (p := p) (l := l) (e := e) (R := R) (s := s) (m := m) (args := args) (below := below) (meth := meth) (c := c) s0 n0 (pc + 3) L (v.toList ++ rest) h' (kc + rm.cells) (ks + rm.slots) ∧ Q v h' := by
  obtain ⟨T, ls, X, eT, N, st⟩ := r
  obtain ⟨v, vm₁, ⟨T', L', k', n'⟩, -, X', ⟨Lc, hQ, l', y', z'⟩, st'⟩ := X.specialBack hx (y := y) hy1 hown (mvT hZ w1) (mvT hZ w2) (mvT hZ w4) hy (backOf (W := W) (Q := fun v h L => Fr n0 L ∧ Q v h) (K []) hZ w4 w3 hf hl) (g := mkF m pc L S) rfl hsize st (a := a) (argsL := argsL) (rest := rest) hlen hs (by show 2 * 0 + _ ≤ _; omega) hd (fun _ _ => ⟨rfl, eT, hc, hsl⟩)
  dsimp only [Pt.U, Pt.locs, Pt.cells, Pt.slots] at X' l' y' z' st' hQ
  subst l' y' z'
  exact ⟨v, _, ⟨T', _, X', rfl, N.app hQ.1, st'⟩, hQ.2⟩
theorem OwnW.callV (r : OwnW (p := p) (l := l) (e := e) (R := R) (s := s) (m := m) (args := args) (below := below) (meth := meth) (c := c) s0 n0 pc L S h kc ks)
    (hx : p.tables.exec = Jvm.exec) (hZ : Z.Warmed39 s.vm) {own C : String} {index : Nat} {y z : MethodName} {bytes : ByteArray} {maxL : Nat} {ret : Option FieldType} {rm : Room} {Q : Option Value → Heap → Prop} (hown : s.vm.findClass own = some m.cls)
    (w1 : (Jvm.Cond.methodLink own index y).before a0 Z = true) (w2 : (Jvm.Cond.declares y).before a0 Z = true) (w3 : (Jvm.Cond.selects C y z).before a0 Z = true) (w3' : NotFace s y) (w5 : (Jvm.Cond.instanceMethod z).before a0 Z = true) (w6 : (Jvm.Cond.initialized z.cls).before a0 Z = true) (w4 : (Jvm.Cond.code z bytes maxL ret).before a0 Z = true)
    (hy : y.cls ≠ "java/lang/invoke/MethodHandle" ∧ y.cls ≠ "java/lang/invoke/VarHandle") {a : Addr} {argsL : List Value} (E : Exa Z h a C) (K : OwnCon l Z z bytes maxL ret rm (.ref a :: argsL).toArray h n0 Q) (rest : List Value) (W : Nat)
    (hf : rm.frames + 1 ≤ R.frames) (hl : W + (maxL + 11) + rm.locals ≤ R.locals) (hsize : L.size = c.maxLocals) (hlen : ∀ sig, parseMethodDescriptor y.desc = some sig → argsL.length = sig.parameters.length)
    (hs : S = argsL.reverse ++ .ref a :: rest) (hW : (rest.map fun v => v.category).sum ≤ W) (hd : decode c.code pc = .ok (.invokevirtual index, 3)) (hc : kc + rm.cells ≤ R.cells) (hsl : ks + rm.slots ≤ R.slots) :
    ∃ v h', OwnW (p := p) (l := l) (e := e) (R := R) (s := s) (m := m) (args := args) (below := below) (meth := meth) (c := c) s0 n0 (pc + 3) L (v.toList ++ rest) h' (kc + rm.cells) (ks + rm.slots) ∧ Q v h' := by
  obtain ⟨T, ls, X, eT, N, st⟩ := r
  obtain ⟨cq, kq, qa, qb, qc⟩ := isOf hZ eT E
  obtain ⟨v, vm₁, ⟨T', L', k', n'⟩, -, X', ⟨Lc, hQ, l', y', z'⟩, st'⟩ := X.virtualBack hx (y := y) (z := z) hown (mvT hZ w1) (mvT hZ w2) w3' (mvT hZ w3) (mvT hZ w5) hy (backOf (W := W) (Q := fun v h L => Fr n0 L ∧ Q v h) (K []) hZ w4 w6 hf hl) qa qc (g := mkF m pc L S) rfl hsize st (argsL := argsL) (rest := rest) hlen hs (by show 2 * 0 + _ ≤ _; omega) hd (fun _ _ => ⟨rfl, eT, hc, hsl⟩)
  dsimp only [Pt.U, Pt.locs, Pt.cells, Pt.slots] at X' l' y' z' st' hQ
  subst l' y' z'
  exact ⟨v, _, ⟨T', _, X', rfl, N.app hQ.1, st'⟩, hQ.2⟩
theorem OwnW.retN (r : OwnW (p := p) (l := l) (e := e) (R := R) (s := s) (m := m) (args := args) (below := below) (meth := meth) (c := c) s0 n0 pc L S h kc ks)
    (hx : p.tables.exec = Jvm.exec) {t : FieldType} (hret : meth.sig.returnType = some t) (ht : t = .boolean ∨ t = .byte ∨ t = .char ∨ t = .short) {z : Int32} {rest : List Value} (hs : S = .int z :: rest) (hd : decode c.code pc = .ok (.ireturn, 1)) :
    OwnEnd (p := p) (l := l) (e := e) (R := R) (s := s) (m := m) (args := args) (below := below) (meth := meth) (c := c) s0 n0 (some (.int (nar t z))) h kc ks := by
  subst hs
  obtain ⟨T, ls, X, eT, N, st⟩ := r
  exact ⟨T, ls, X, eT, N, (fun q => by rw [hret] at q; cases q), fun fs hl => st.trans (Jvm.RoadKit.retN X hx hret ht hd hl)⟩
theorem OwnW.retW (r : OwnW (p := p) (l := l) (e := e) (R := R) (s := s) (m := m) (args := args) (below := below) (meth := meth) (c := c) s0 n0 pc L S h kc ks)
    (hx : p.tables.exec = Jvm.exec) {t : FieldType} {w : Value} {i : Instr} (hret : meth.sig.returnType = some t) (hn : narrow t w = w) {rest : List Value} (hs : S = w :: rest)
    (hi : (i = .ireturn ∧ (t = .int ∨ t = .boolean ∨ t = .byte ∨ t = .char ∨ t = .short) ∧ ∃ z, w = .int z) ∨ (i = .lreturn ∧ t = .long ∧ ∃ z, w = .long z) ∨ (i = .dreturn ∧ t = .double ∧ ∃ z, w = .double z) ∨ (i = .freturn ∧ t = .float ∧ ∃ z, w = .float z) ∨ (i = .areturn ∧ t.isReference = true ∧ w.isRef = true))
    (hd : decode c.code pc = .ok (i, 1)) :
    OwnEnd (p := p) (l := l) (e := e) (R := R) (s := s) (m := m) (args := args) (below := below) (meth := meth) (c := c) s0 n0 (some w) h kc ks := by
  subst hs
  obtain ⟨T, ls, X, eT, N, st⟩ := r
  exact ⟨T, ls, X, eT, N, (fun q => by rw [hret] at q; cases q), fun fs hl => st.trans (Jvm.RoadKit.retOut X hx hret hn hi hd hl)⟩
theorem OwnW.retV (r : OwnW (p := p) (l := l) (e := e) (R := R) (s := s) (m := m) (args := args) (below := below) (meth := meth) (c := c) s0 n0 pc L [] h kc ks)
    (hx : p.tables.exec = Jvm.exec) (hret : meth.sig.returnType = none) (hd : decode c.code pc = .ok (.return_, 1)) :
    OwnEnd (p := p) (l := l) (e := e) (R := R) (s := s) (m := m) (args := args) (below := below) (meth := meth) (c := c) s0 n0 none h kc ks := by
  obtain ⟨T, ls, X, eT, N, st⟩ := r
  exact ⟨T, ls, X, eT, N, fun _ => rfl, fun fs hl => st.trans (X.returnOut hx hret hd hl)⟩
theorem OwnCon.of {y : MethodName} {bytes : ByteArray} {maxL : Nat} {ret : Option FieldType} {rm : Room} {A : Array Value} {h0 : Heap} {Q : Option Value → Heap → Prop} {L0 : Array Slot} (pn : plainName y.cls = true) (ef : ∀ m : MethodId, entryFrame m A maxL = mkF m 0 L0 [])
    (H : ∀ (p : Program) (e : Env) (s : State) (m : MethodId) (below : List Frame) (meth : Method) (c : Code) (s0 : State), p.tables.exec = Jvm.exec → c.code = bytes → c.maxLocals = maxL → s.vm.findClass y.cls = some m.cls → meth.name = y.name → meth.sig.returnType = ret → Z.Warmed39 s.vm →
      OwnW (p := p) (l := l) (e := e) (R := rm) (s := s) (m := m) (args := A) (below := below) (meth := meth) (c := c) s0 n0 0 L0 [] h0 0 0 →
      ∃ v h' k n, Q v h' ∧ k ≤ rm.cells ∧ n ≤ rm.slots ∧ OwnEnd (p := p) (l := l) (e := e) (R := rm) (s := s) (m := m) (args := A) (below := below) (meth := meth) (c := c) s0 n0 v h' k n) :
    OwnCon l Z y bytes maxL ret rm A h0 n0 Q := by
  intro ws
  refine MetFree.of_bodySF (plainFor_of_name pn) hisR ?_
  intro p e s m args below meth c s₁ Bd hml hP hK
  obtain ⟨rfl, hZ, hh⟩ := hP
  have X0 : Stand p l e rm s m args below meth c s₁ [] 0 0 := Stand.of_body Bd
  have e0 : s₁.heap = h0 := by rw [← hh, Bd.state]; rfl
  obtain ⟨v, h', k, n, hQ, hk, hn, T, ls, X, eT, N, hv, st⟩ := H p e s m below meth c (s₁.setTop (entryFrame m args maxL)) Bd.exec Bd.bytes hml (findClass_of_methodNamed Bd.named) (name_of_methodNamed Bd.named Bd.method).1 Bd.returns hZ
    ⟨s₁, [], X0, e0, Fr.nil n0, by rw [ef m]; exact Steps.refl _⟩
  obtain ⟨fs, hr, hrun, hended, hW, hsame⟩ := X.leave (v := v) hv
  exact ⟨_, _, st fs hr, hrun, hended, v, ls, rfl, ⟨N, by show Q v T.heap; rw [eT]; exact hQ⟩, ⟨_, rfl⟩, hW, hsame.mono hk hn⟩
end OwnKit
/-! the call of Object's own constructor -/
section OwnInit
variable {p : Program} {l : Launch} {e : Env} {R : Room} {s : State} {m : MethodId} {args : Array Value} {below : List Frame} {meth : Method} {c : Code} {s0 : State} {n0 pc pc' : Nat} {L L' : Array Slot} {S S' : List Value} {h h' : Heap} {kc ks : Nat} {Z : State} {a0 : Array Value}
theorem OwnW.initO (r : OwnW (p := p) (l := l) (e := e) (R := R) (s := s) (m := m) (args := args) (below := below) (meth := meth) (c := c) s0 n0 pc L S h kc ks)
    (hx : p.tables.exec = Jvm.exec) (hZ : Z.Warmed39 s.vm) {own : String} {idx : Nat} (hown : s.vm.findClass own = some m.cls) (w1 : (Jvm.Cond.methodLink own idx Lib.objectInit).before a0 Z = true) (w2 : (Jvm.Cond.instanceMethod Lib.objectInit).before a0 Z = true)
    (w3 : (Jvm.Cond.code Lib.objectInit object_method_1_code 1 none).before a0 Z = true) (hsize : L.size = c.maxLocals) {a : Addr} {rest : List Value} (hs : S = .ref a :: rest) (hd : decode c.code pc = .ok (.invokespecial idx, 3))
    (hf : 1 ≤ R.frames) (W : Nat) (hW : (rest.map fun v => v.category).sum ≤ W) (hl : W + 12 ≤ R.locals) :
    OwnW (p := p) (l := l) (e := e) (R := R) (s := s) (m := m) (args := args) (below := below) (meth := meth) (c := c) s0 n0 (pc + 3) L rest h kc ks := by
  obtain ⟨T, ls, X, eT, N, st⟩ := r
  obtain ⟨T', X', e', st'⟩ := Jvm.RoadKit.initO X hx hZ hown w1 w2 w3 eT (g := mkF m pc L S) rfl hsize hs hd hf (W := W) (by show 2 * 0 + _ ≤ _; omega) hl
  exact ⟨T', ls, X', e', N, st.trans (st' _ (Steps.refl _))⟩
end OwnInit
theorem own_pn0 : plainName "com/example/dogged_jobs/doggedjobs/model/TaskCounts" = true := by first | (simp [plainName, overriddenIn]; done) | decide +kernel
theorem own_pn1 : plainName "com/example/dogged_jobs/doggedjobs/model/TaskCountsOverThresholdPinLaw" = true := by first | (simp [plainName, overriddenIn]; done) | decide +kernel
theorem own_pd0 : parseMethodDescriptor "(IIII)V" = some ⟨[.int, .int, .int, .int], none⟩ := by decide +kernel
theorem own_pd1 : parseMethodDescriptor "()Z" = some ⟨[], some .boolean⟩ := by decide +kernel
theorem own_d1_0 : decode prog_9_method_1_code 0 = .ok (.aload_n 0, 1) := by decide +kernel
theorem own_d1_1 : decode prog_9_method_1_code 1 = .ok (.invokespecial 1, 3) := by decide +kernel
theorem own_d1_4 : decode prog_9_method_1_code 4 = .ok (.aload_n 0, 1) := by decide +kernel
theorem own_d1_5 : decode prog_9_method_1_code 5 = .ok (.iload_n 1, 1) := by decide +kernel
theorem own_d1_6 : decode prog_9_method_1_code 6 = .ok (.putfield 7, 3) := by decide +kernel
theorem own_d1_9 : decode prog_9_method_1_code 9 = .ok (.aload_n 0, 1) := by decide +kernel
theorem own_d1_10 : decode prog_9_method_1_code 10 = .ok (.iload_n 2, 1) := by decide +kernel
theorem own_d1_11 : decode prog_9_method_1_code 11 = .ok (.putfield 13, 3) := by decide +kernel
theorem own_d1_14 : decode prog_9_method_1_code 14 = .ok (.aload_n 0, 1) := by decide +kernel
theorem own_d1_15 : decode prog_9_method_1_code 15 = .ok (.iload_n 3, 1) := by decide +kernel
theorem own_d1_16 : decode prog_9_method_1_code 16 = .ok (.putfield 16, 3) := by decide +kernel
theorem own_d1_19 : decode prog_9_method_1_code 19 = .ok (.aload_n 0, 1) := by decide +kernel
theorem own_d1_20 : decode prog_9_method_1_code 20 = .ok (.iload 4, 2) := by decide +kernel
theorem own_d1_22 : decode prog_9_method_1_code 22 = .ok (.putfield 19, 3) := by decide +kernel
theorem own_d1_25 : decode prog_9_method_1_code 25 = .ok (.return_, 1) := by decide +kernel
theorem own_d3_0 : decode prog_9_method_3_code 0 = .ok (.aload_n 0, 1) := by decide +kernel
theorem own_d3_1 : decode prog_9_method_3_code 1 = .ok (.getfield 13, 3) := by decide +kernel
theorem own_d3_4 : decode prog_9_method_3_code 4 = .ok (.aload_n 0, 1) := by decide +kernel
theorem own_d3_5 : decode prog_9_method_3_code 5 = .ok (.getfield 16, 3) := by decide +kernel
theorem own_d3_8 : decode prog_9_method_3_code 8 = .ok (.iadd, 1) := by decide +kernel
theorem own_d3_9 : decode prog_9_method_3_code 9 = .ok (.istore_n 1, 1) := by decide +kernel
theorem own_d3_10 : decode prog_9_method_3_code 10 = .ok (.iload_n 1, 1) := by decide +kernel
theorem own_d3_11 : decode prog_9_method_3_code 11 = .ok (.sipush 1000, 3) := by decide +kernel
theorem own_d3_14 : decode prog_9_method_3_code 14 = .ok (.if_icmp .lt 20, 3) := by decide +kernel
theorem own_d3_17 : decode prog_9_method_3_code 17 = .ok (.aload_n 0, 1) := by decide +kernel
theorem own_d3_18 : decode prog_9_method_3_code 18 = .ok (.getfield 16, 3) := by decide +kernel
theorem own_d3_21 : decode prog_9_method_3_code 21 = .ok (.iload_n 1, 1) := by decide +kernel
theorem own_d3_22 : decode prog_9_method_3_code 22 = .ok (.aload_n 0, 1) := by decide +kernel
theorem own_d3_23 : decode prog_9_method_3_code 23 = .ok (.getfield 16, 3) := by decide +kernel
theorem own_d3_26 : decode prog_9_method_3_code 26 = .ok (.isub, 1) := by decide +kernel
theorem own_d3_27 : decode prog_9_method_3_code 27 = .ok (.if_icmp .le 7, 3) := by decide +kernel
theorem own_d3_30 : decode prog_9_method_3_code 30 = .ok (.iconst 1, 1) := by decide +kernel
theorem own_d3_31 : decode prog_9_method_3_code 31 = .ok (.goto 4, 3) := by decide +kernel
theorem own_d3_34 : decode prog_9_method_3_code 34 = .ok (.iconst 0, 1) := by decide +kernel
theorem own_d3_35 : decode prog_9_method_3_code 35 = .ok (.ireturn, 1) := by decide +kernel
theorem own_ef_ini (m : MethodId) (o : Addr) (y0 : Int32) (y1 : Int32) (y2 : Int32) (y3 : Int32) : entryFrame m #[(.ref o), (.int y0), (.int y1), (.int y2), (.int y3)] 5 = mkF m 0 #[.val (.ref o), .val (.int y0), .val (.int y1), .val (.int y2), .val (.int y3)] [] := by first | (simp [entryFrame, mkF, argsToLocals, Value.category]; done) | rfl
set_option maxRecDepth 65536 in
set_option maxHeartbeats 40000000 in
theorem own_ini (l : Launch) (Z : State) (a0 : Array Value) (hw : ∀ d ∈ tables_1, d.before a0 Z = true) (o : Addr) (y0 : Int32) (y1 : Int32) (y2 : Int32) (y3 : Int32)  (h0 : Heap) (n0 : Nat) (E : Exa Z h0 o "com/example/dogged_jobs/doggedjobs/model/TaskCounts") (F_total : Fld Z h0 o "com/example/dogged_jobs/doggedjobs/model/TaskCounts" "total" "I" (.int (0 : Int32))) (F_succeeded : Fld Z h0 o "com/example/dogged_jobs/doggedjobs/model/TaskCounts" "succeeded" "I" (.int (0 : Int32))) (F_failed : Fld Z h0 o "com/example/dogged_jobs/doggedjobs/model/TaskCounts" "failed" "I" (.int (0 : Int32))) (F_cancelled : Fld Z h0 o "com/example/dogged_jobs/doggedjobs/model/TaskCounts" "cancelled" "I" (.int (0 : Int32))) (g : n0 ≤ o)  :
    OwnCon l Z (⟨"com/example/dogged_jobs/doggedjobs/model/TaskCounts", "<init>", "(IIII)V"⟩ : MethodName) prog_9_method_1_code 5 none ({ frames := 1, cells := 0, slots := 0, locals := 12 } : Room) #[(.ref o), (.int y0), (.int y1), (.int y2), (.int y3)] h0 n0 (fun v h => v = none ∧ Keep h0 h [o] ∧ Exa Z h o "com/example/dogged_jobs/doggedjobs/model/TaskCounts" ∧ Fld Z h o "com/example/dogged_jobs/doggedjobs/model/TaskCounts" "total" "I" (.int y0) ∧ Fld Z h o "com/example/dogged_jobs/doggedjobs/model/TaskCounts" "succeeded" "I" (.int y1) ∧ Fld Z h o "com/example/dogged_jobs/doggedjobs/model/TaskCounts" "failed" "I" (.int y2) ∧ Fld Z h o "com/example/dogged_jobs/doggedjobs/model/TaskCounts" "cancelled" "I" (.int y3)) := by
  refine OwnCon.of own_pn0 (fun m => own_ef_ini m o y0 y1 y2 y3) ?_
  intro p e s m below meth c s0 hx hby hml hown hnm hret hZ r
  have K : Keep h0 h0 [o] := Keep.refl _ _
  have r1 : OwnW s0 n0 1 #[.val (.ref o), .val (.int y0), .val (.int y1), .val (.int y2), .val (.int y3)] [(.ref o)] h0 0 0 := r.go fun T t X k => XS.aloadN X hx rfl (hb hby own_d1_0) rfl rfl k
  have r2 : OwnW s0 n0 4 #[.val (.ref o), .val (.int y0), .val (.int y1), .val (.int y2), .val (.int y3)] [] h0 0 0 := r1.initO hx hZ hown (hw _ (List.mem_of_getElem? (i := 7) rfl)) (hw _ (List.mem_of_getElem? (i := 8) rfl)) (hw _ (List.mem_of_getElem? (i := 9) rfl)) (by rw [hml]; rfl) rfl (hb hby own_d1_1) (by decide) 0 (Nat.le_of_eq rfl) (by decide)
  have r3 : OwnW s0 n0 5 #[.val (.ref o), .val (.int y0), .val (.int y1), .val (.int y2), .val (.int y3)] [(.ref o)] h0 0 0 := r2.go fun T t X k => XS.aloadN X hx rfl (hb hby own_d1_4) rfl rfl k
  have r4 : OwnW s0 n0 6 #[.val (.ref o), .val (.int y0), .val (.int y1), .val (.int y2), .val (.int y3)] [(.int y0), (.ref o)] h0 0 0 := r3.go fun T t X k => XS.iloadN X hx rfl (hb hby own_d1_5) rfl k
  obtain ⟨hr5, r5, Wr5⟩ := r4.putF hx hZ hown (hw _ (List.mem_of_getElem? (i := 10) rfl)) F_total E (Or.inr ⟨(hw _ (List.mem_of_getElem? (i := 11) rfl)), rfl, hnm⟩) (hw _ (List.mem_of_getElem? (i := 2) rfl)) (ty := .int) (by decide) rfl rfl rfl (hb hby own_d1_6) g
  have r5 : OwnW s0 n0 9 #[.val (.ref o), .val (.int y0), .val (.int y1), .val (.int y2), .val (.int y3)] [] hr5 0 0 := r5
  have F_total := F_total.same Wr5
  have F_succeeded := F_succeeded.other Wr5 (Or.inr (slot_ne (t := .int) (t' := .int) (Or.inr (hw _ (List.mem_of_getElem? (i := 13) rfl))) (Or.inr (hw _ (List.mem_of_getElem? (i := 11) rfl))) (by decide) (by decide) (by decide)))
  have F_failed := F_failed.other Wr5 (Or.inr (slot_ne (t := .int) (t' := .int) (Or.inr (hw _ (List.mem_of_getElem? (i := 15) rfl))) (Or.inr (hw _ (List.mem_of_getElem? (i := 11) rfl))) (by decide) (by decide) (by decide)))
  have F_cancelled := F_cancelled.other Wr5 (Or.inr (slot_ne (t := .int) (t' := .int) (Or.inr (hw _ (List.mem_of_getElem? (i := 17) rfl))) (Or.inr (hw _ (List.mem_of_getElem? (i := 11) rfl))) (by decide) (by decide) (by decide)))
  have E := E.wr Wr5
  have K := K.wr Wr5 (Or.inl (List.mem_of_getElem? (i := 0) rfl))
  have r6 : OwnW s0 n0 10 #[.val (.ref o), .val (.int y0), .val (.int y1), .val (.int y2), .val (.int y3)] [(.ref o)] hr5 0 0 := r5.go fun T t X k => XS.aloadN X hx rfl (hb hby own_d1_9) rfl rfl k
  have r7 : OwnW s0 n0 11 #[.val (.ref o), .val (.int y0), .val (.int y1), .val (.int y2), .val (.int y3)] [(.int y1), (.ref o)] hr5 0 0 := r6.go fun T t X k => XS.iloadN X hx rfl (hb hby own_d1_10) rfl k
  obtain ⟨hr8, r8, Wr8⟩ := r7.putF hx hZ hown (hw _ (List.mem_of_getElem? (i := 12) rfl)) F_succeeded E (Or.inr ⟨(hw _ (List.mem_of_getElem? (i := 13) rfl)), rfl, hnm⟩) (hw _ (List.mem_of_getElem? (i := 2) rfl)) (ty := .int) (by decide) rfl rfl rfl (hb hby own_d1_11) g
  have r8 : OwnW s0 n0 14 #[.val (.ref o), .val (.int y0), .val (.int y1), .val (.int y2), .val (.int y3)] [] hr8 0 0 := r8
  have F_total := F_total.other Wr8 (Or.inr (slot_ne (t := .int) (t' := .int) (Or.inr (hw _ (List.mem_of_getElem? (i := 11) rfl))) (Or.inr (hw _ (List.mem_of_getElem? (i := 13) rfl))) (by decide) (by decide) (by decide)))
  have F_succeeded := F_succeeded.same Wr8
  have F_failed := F_failed.other Wr8 (Or.inr (slot_ne (t := .int) (t' := .int) (Or.inr (hw _ (List.mem_of_getElem? (i := 15) rfl))) (Or.inr (hw _ (List.mem_of_getElem? (i := 13) rfl))) (by decide) (by decide) (by decide)))
  have F_cancelled := F_cancelled.other Wr8 (Or.inr (slot_ne (t := .int) (t' := .int) (Or.inr (hw _ (List.mem_of_getElem? (i := 17) rfl))) (Or.inr (hw _ (List.mem_of_getElem? (i := 13) rfl))) (by decide) (by decide) (by decide)))
  have E := E.wr Wr8
  have K := K.wr Wr8 (Or.inl (List.mem_of_getElem? (i := 0) rfl))
  have r9 : OwnW s0 n0 15 #[.val (.ref o), .val (.int y0), .val (.int y1), .val (.int y2), .val (.int y3)] [(.ref o)] hr8 0 0 := r8.go fun T t X k => XS.aloadN X hx rfl (hb hby own_d1_14) rfl rfl k
  have r10 : OwnW s0 n0 16 #[.val (.ref o), .val (.int y0), .val (.int y1), .val (.int y2), .val (.int y3)] [(.int y2), (.ref o)] hr8 0 0 := r9.go fun T t X k => XS.iloadN X hx rfl (hb hby own_d1_15) rfl k
  obtain ⟨hr11, r11, Wr11⟩ := r10.putF hx hZ hown (hw _ (List.mem_of_getElem? (i := 14) rfl)) F_failed E (Or.inr ⟨(hw _ (List.mem_of_getElem? (i := 15) rfl)), rfl, hnm⟩) (hw _ (List.mem_of_getElem? (i := 2) rfl)) (ty := .int) (by decide) rfl rfl rfl (hb hby own_d1_16) g
  have r11 : OwnW s0 n0 19 #[.val (.ref o), .val (.int y0), .val (.int y1), .val (.int y2), .val (.int y3)] [] hr11 0 0 := r11
  have F_total := F_total.other Wr11 (Or.inr (slot_ne (t := .int) (t' := .int) (Or.inr (hw _ (List.mem_of_getElem? (i := 11) rfl))) (Or.inr (hw _ (List.mem_of_getElem? (i := 15) rfl))) (by decide) (by decide) (by decide)))
  have F_succeeded := F_succeeded.other Wr11 (Or.inr (slot_ne (t := .int) (t' := .int) (Or.inr (hw _ (List.mem_of_getElem? (i := 13) rfl))) (Or.inr (hw _ (List.mem_of_getElem? (i := 15) rfl))) (by decide) (by decide) (by decide)))
  have F_failed := F_failed.same Wr11
  have F_cancelled := F_cancelled.other Wr11 (Or.inr (slot_ne (t := .int) (t' := .int) (Or.inr (hw _ (List.mem_of_getElem? (i := 17) rfl))) (Or.inr (hw _ (List.mem_of_getElem? (i := 15) rfl))) (by decide) (by decide) (by decide)))
  have E := E.wr Wr11
  have K := K.wr Wr11 (Or.inl (List.mem_of_getElem? (i := 0) rfl))
  have r12 : OwnW s0 n0 20 #[.val (.ref o), .val (.int y0), .val (.int y1), .val (.int y2), .val (.int y3)] [(.ref o)] hr11 0 0 := r11.go fun T t X k => XS.aloadN X hx rfl (hb hby own_d1_19) rfl rfl k
  have r13 : OwnW s0 n0 22 #[.val (.ref o), .val (.int y0), .val (.int y1), .val (.int y2), .val (.int y3)] [(.int y3), (.ref o)] hr11 0 0 := r12.go fun T t X k => XS.iload X hx rfl (hb hby own_d1_20) rfl k
  obtain ⟨hr14, r14, Wr14⟩ := r13.putF hx hZ hown (hw _ (List.mem_of_getElem? (i := 16) rfl)) F_cancelled E (Or.inr ⟨(hw _ (List.mem_of_getElem? (i := 17) rfl)), rfl, hnm⟩) (hw _ (List.mem_of_getElem? (i := 2) rfl)) (ty := .int) (by decide) rfl rfl rfl (hb hby own_d1_22) g
  have r14 : OwnW s0 n0 25 #[.val (.ref o), .val (.int y0), .val (.int y1), .val (.int y2), .val (.int y3)] [] hr14 0 0 := r14
  have F_total := F_total.other Wr14 (Or.inr (slot_ne (t := .int) (t' := .int) (Or.inr (hw _ (List.mem_of_getElem? (i := 11) rfl))) (Or.inr (hw _ (List.mem_of_getElem? (i := 17) rfl))) (by decide) (by decide) (by decide)))
  have F_succeeded := F_succeeded.other Wr14 (Or.inr (slot_ne (t := .int) (t' := .int) (Or.inr (hw _ (List.mem_of_getElem? (i := 13) rfl))) (Or.inr (hw _ (List.mem_of_getElem? (i := 17) rfl))) (by decide) (by decide) (by decide)))
  have F_failed := F_failed.other Wr14 (Or.inr (slot_ne (t := .int) (t' := .int) (Or.inr (hw _ (List.mem_of_getElem? (i := 15) rfl))) (Or.inr (hw _ (List.mem_of_getElem? (i := 17) rfl))) (by decide) (by decide) (by decide)))
  have F_cancelled := F_cancelled.same Wr14
  have E := E.wr Wr14
  have K := K.wr Wr14 (Or.inl (List.mem_of_getElem? (i := 0) rfl))
  have r15 := r14.retV hx hret (hb hby own_d1_25)
  exact ⟨_, _, 0, 0, ⟨rfl, K, E, F_total, F_succeeded, F_failed, F_cancelled⟩, by decide, by decide, r15⟩
def own_ot (u f : Int32) : Int32 := if (u + f) < (1000 : Int32) then 0 else if ((u + f) - f) < f then 1 else 0
theorem own_ef_ovr (m : MethodId) (o : Addr) : entryFrame m #[(.ref o)] 2 = mkF m 0 #[.val (.ref o), .unset] [] := by first | (simp [entryFrame, mkF, argsToLocals, Value.category]; done) | rfl
set_option maxRecDepth 65536 in
set_option maxHeartbeats 40000000 in
theorem own_ovr (l : Launch) (Z : State) (a0 : Array Value) (hw : ∀ d ∈ tables_1, d.before a0 Z = true) (o : Addr) (u f : Int32) (h0 : Heap) (n0 : Nat) (Fu : Fld Z h0 o "com/example/dogged_jobs/doggedjobs/model/TaskCounts" "succeeded" "I" (.int u)) (Ff : Fld Z h0 o "com/example/dogged_jobs/doggedjobs/model/TaskCounts" "failed" "I" (.int f)) :
    OwnCon l Z (⟨"com/example/dogged_jobs/doggedjobs/model/TaskCounts", "overThreshold", "()Z"⟩ : MethodName) prog_9_method_3_code 2 (some .boolean) ({ frames := 0, cells := 0, slots := 0, locals := 0 } : Room) #[(.ref o)] h0 n0 (fun v h => v = some (.int (own_ot u f)) ∧ h0 = h) := by
  refine OwnCon.of own_pn0 (fun m => own_ef_ovr m o) ?_
  intro p e s m below meth c s0 hx hby hml hown hnm hret hZ r
  have r1 : OwnW s0 n0 1 #[.val (.ref o), .unset] [(.ref o)] h0 0 0 := r.go fun T t X k => XS.aloadN X hx rfl (hb hby own_d3_0) rfl rfl k
  have r2 : OwnW s0 n0 4 #[.val (.ref o), .unset] [(.int u)] h0 0 0 := r1.getF hx hZ hown (hw _ (List.mem_of_getElem? (i := 12) rfl)) Fu rfl (hb hby own_d3_1)
  have r3 : OwnW s0 n0 5 #[.val (.ref o), .unset] [(.ref o), (.int u)] h0 0 0 := r2.go fun T t X k => XS.aloadN X hx rfl (hb hby own_d3_4) rfl rfl k
  have r4 : OwnW s0 n0 8 #[.val (.ref o), .unset] [(.int f), (.int u)] h0 0 0 := r3.getF hx hZ hown (hw _ (List.mem_of_getElem? (i := 14) rfl)) Ff rfl (hb hby own_d3_5)
  have r5 : OwnW s0 n0 9 #[.val (.ref o), .unset] [(.int (u + f))] h0 0 0 := r4.go fun T t X k => XS.iadd X hx rfl (hb hby own_d3_8) rfl k
  have r6 : OwnW s0 n0 10 #[.val (.ref o), .val (.int (u + f))] [] h0 0 0 := r5.go fun T t X k => XS.istoreN X hx rfl (hb hby own_d3_9) rfl (l' := #[.val (.ref o), .val (.int (u + f))]) rfl k
  have r7 : OwnW s0 n0 11 #[.val (.ref o), .val (.int (u + f))] [(.int (u + f))] h0 0 0 := r6.go fun T t X k => XS.iloadN X hx rfl (hb hby own_d3_10) rfl k
  have r8 : OwnW s0 n0 14 #[.val (.ref o), .val (.int (u + f))] [(.int (1000 : Int32)), (.int (u + f))] h0 0 0 := r7.go fun T t X k => XS.sipush X hx rfl (hb hby own_d3_11) k
  by_cases hc : (u + f) < (1000 : Int32)
  · have ra := r8
    have ra9 : OwnW s0 n0 34 #[.val (.ref o), .val (.int (u + f))] [] h0 0 0 := ra.go fun T t X k => XS.icmpYes X hx rfl (pc0 := 14) (pc' := 34) rfl (hb hby own_d3_14) rfl (tlt hc).1 (by decide) (by decide) k
    have ra10 : OwnW s0 n0 35 #[.val (.ref o), .val (.int (u + f))] [(.int (0 : Int32))] h0 0 0 := ra9.go fun T t X k => XS.iconst X hx rfl (hb hby own_d3_34) k
    have ra11 := ra10.retN hx hret (by simp) rfl (hb hby own_d3_35)
    exact ⟨_, _, 0, 0, ⟨by simp only [own_ot, if_pos hc]; rfl, rfl⟩, Nat.le_refl _, Nat.le_refl _, ra11⟩
  · have rb := r8
    have rb9 : OwnW s0 n0 17 #[.val (.ref o), .val (.int (u + f))] [] h0 0 0 := rb.go fun T t X k => XS.icmpNo X hx rfl (hb hby own_d3_14) rfl (flt hc).1 k
    have rb10 : OwnW s0 n0 18 #[.val (.ref o), .val (.int (u + f))] [(.ref o)] h0 0 0 := rb9.go fun T t X k => XS.aloadN X hx rfl (hb hby own_d3_17) rfl rfl k
    have rb11 : OwnW s0 n0 21 #[.val (.ref o), .val (.int (u + f))] [(.int f)] h0 0 0 := rb10.getF hx hZ hown (hw _ (List.mem_of_getElem? (i := 14) rfl)) Ff rfl (hb hby own_d3_18)
    have rb12 : OwnW s0 n0 22 #[.val (.ref o), .val (.int (u + f))] [(.int (u + f)), (.int f)] h0 0 0 := rb11.go fun T t X k => XS.iloadN X hx rfl (hb hby own_d3_21) rfl k
    have rb13 : OwnW s0 n0 23 #[.val (.ref o), .val (.int (u + f))] [(.ref o), (.int (u + f)), (.int f)] h0 0 0 := rb12.go fun T t X k => XS.aloadN X hx rfl (hb hby own_d3_22) rfl rfl k
    have rb14 : OwnW s0 n0 26 #[.val (.ref o), .val (.int (u + f))] [(.int f), (.int (u + f)), (.int f)] h0 0 0 := rb13.getF hx hZ hown (hw _ (List.mem_of_getElem? (i := 14) rfl)) Ff rfl (hb hby own_d3_23)
    have rb15 : OwnW s0 n0 27 #[.val (.ref o), .val (.int (u + f))] [(.int ((u + f) - f)), (.int f)] h0 0 0 := rb14.go fun T t X k => XS.isub X hx rfl (hb hby own_d3_26) rfl k
    by_cases hd : ((u + f) - f) < f
    · have rc := rb15
      have rc16 : OwnW s0 n0 30 #[.val (.ref o), .val (.int (u + f))] [] h0 0 0 := rc.go fun T t X k => XS.icmpNo X hx rfl (hb hby own_d3_27) rfl (tlt hd).2.2.2 k
      have rc17 : OwnW s0 n0 31 #[.val (.ref o), .val (.int (u + f))] [(.int (1 : Int32))] h0 0 0 := rc16.go fun T t X k => XS.iconst X hx rfl (hb hby own_d3_30) k
      have rc18 : OwnW s0 n0 35 #[.val (.ref o), .val (.int (u + f))] [(.int (1 : Int32))] h0 0 0 := rc17.go fun T t X k => XS.goto X hx rfl (pc0 := 31) (pc' := 35) rfl (hb hby own_d3_31) (by decide) (by decide) k
      have rc19 := rc18.retN hx hret (by simp) rfl (hb hby own_d3_35)
      exact ⟨_, _, 0, 0, ⟨by simp only [own_ot, if_neg hc, if_pos hd]; rfl, rfl⟩, Nat.le_refl _, Nat.le_refl _, rc19⟩
    · have rd := rb15
      have rd16 : OwnW s0 n0 34 #[.val (.ref o), .val (.int (u + f))] [] h0 0 0 := rd.go fun T t X k => XS.icmpYes X hx rfl (pc0 := 27) (pc' := 34) rfl (hb hby own_d3_27) rfl (flt hd).2.2.2 (by decide) (by decide) k
      have rd17 : OwnW s0 n0 35 #[.val (.ref o), .val (.int (u + f))] [(.int (0 : Int32))] h0 0 0 := rd16.go fun T t X k => XS.iconst X hx rfl (hb hby own_d3_34) k
      have rd18 := rd17.retN hx hret (by simp) rfl (hb hby own_d3_35)
      exact ⟨_, _, 0, 0, ⟨by simp only [own_ot, if_neg hc, if_neg hd]; rfl, rfl⟩, Nat.le_refl _, Nat.le_refl _, rd18⟩
/-- masked ints lie below 2^30 -/
theorem own_msk (x k : Int32) (hk : k = (2047 : Int32) ∨ k = (1073741823 : Int32)) : 0 ≤ (x &&& k).toInt ∧ (x &&& k).toInt < 1073741824 := by
  have h0 : 0 ≤ k.toInt := by rcases hk with rfl | rfl <;> decide
  have h1 : k.toInt < 1073741824 := by rcases hk with rfl | rfl <;> decide
  have := c_and x k h0
  omega
theorem own_plain (u f : Int32) (hu : 0 ≤ u.toInt ∧ u.toInt < 1073741824) (hf : 0 ≤ f.toInt ∧ f.toInt < 1073741824) :
    own_ot u f = if (u.toInt64 + f.toInt64) < (1000 : Int64) then 0 else if u < f then 1 else 0 := by
  have e1 := c_iadd u f
  have e2 := c_isub (u + f) f
  have e3 := c_ladd u.toInt64 f.toInt64
  rw [c_i2l, c_i2l] at e3
  have r1 := rng32 (u + f); have r2 := rng32 (u + f - f); have r3 := rng64 (u.toInt64 + f.toInt64)
  have k1 : (1000 : Int32).toInt = 1000 := by decide
  have k2 : (1000 : Int64).toInt = 1000 := by decide
  have a1 : (u + f).toInt = u.toInt + f.toInt := by omega
  have a2 : (u + f - f).toInt = u.toInt := by omega
  have a3 : (u.toInt64 + f.toInt64).toInt = u.toInt + f.toInt := by omega
  simp only [own_ot, Int32.lt_iff_toInt_lt, Int64.lt_iff_toInt_lt, a1, a2, a3, k1, k2]
theorem own_ef_law (m : MethodId) (x0 : Int32) (x1 : Int32) (x2 : Int32) (x3 : Int32) (x4 : Int32) : entryFrame m #[(.int x0), (.int x1), (.int x2), (.int x3), (.int x4)] maxLocals = mkF m 0 #[.val (.int x0), .val (.int x1), .val (.int x2), .val (.int x3), .val (.int x4), .unset, .unset, .unset, .unset, .unset, .unset, .unset] [] := by first | (simp [entryFrame, mkF, argsToLocals, Value.category, maxLocals]; done) | rfl
set_option maxRecDepth 65536 in
set_option maxHeartbeats 40000000 in
theorem own_law (l : Launch) (Z : State) (a0 : Array Value) (hw : ∀ d ∈ tables_1, d.before a0 Z = true) (x0 : Int32) (x1 : Int32) (x2 : Int32) (x3 : Int32) (x4 : Int32)  (h0 : Heap) (n0 : Nat) (Z0 : n0 ≤ h0.size) :
    OwnCon l Z x code maxLocals ret room_1 #[(.int x0), (.int x1), (.int x2), (.int x3), (.int x4)] h0 n0 (fun v h => v = some (.int 1)) := by
  refine OwnCon.of own_pn1 (fun m => own_ef_law m x0 x1 x2 x3 x4) ?_
  intro p e s m below meth c s0 hx hby hml hown hnm hret hZ r
  have hown : s.vm.findClass "com/example/dogged_jobs/doggedjobs/model/TaskCountsOverThresholdPinLaw" = some m.cls := hown
  have r1 : OwnW s0 n0 2 #[.val (.int x0), .val (.int x1), .val (.int x2), .val (.int x3), .val (.int x4), .unset, .unset, .unset, .unset, .unset, .unset, .unset] [(.int x4)] h0 0 0 := r.go fun T t X k => XS.iload X hx rfl (hb hby at_0) rfl k
  have r2 : OwnW s0 n0 3 #[.val (.int x0), .val (.int x1), .val (.int x2), .val (.int x3), .val (.int x4), .unset, .unset, .unset, .unset, .unset, .unset, .unset] [(.int (1 : Int32)), (.int x4)] h0 0 0 := r1.go fun T t X k => XS.iconst X hx rfl (hb hby at_2) k
  have r3 : OwnW s0 n0 4 #[.val (.int x0), .val (.int x1), .val (.int x2), .val (.int x3), .val (.int x4), .unset, .unset, .unset, .unset, .unset, .unset, .unset] [(.int (x4 &&& (1 : Int32)))] h0 0 0 := r2.go fun T t X k => XS.iand X hx rfl (hb hby at_3) rfl k
  obtain ⟨mk, hmk, r⟩ : ∃ mk : Int32, (mk = (2047 : Int32) ∨ mk = (1073741823 : Int32)) ∧ OwnW (p := p) (l := l) (e := e) (R := room_1) (s := s) (m := m) (args := #[(.int x0), (.int x1), (.int x2), (.int x3), (.int x4)]) (below := below) (meth := meth) (c := c) s0 n0 15 #[.val (.int x0), .val (.int x1), .val (.int x2), .val (.int x3), .val (.int x4), .unset, .unset, .unset, .unset, .unset, .unset, .unset] [(.int mk)] h0 0 0 := by
    by_cases hc : (x4 &&& (1 : Int32)) = (0 : Int32)
    · have ra := r3
      have ra4 : OwnW s0 n0 13 #[.val (.int x0), .val (.int x1), .val (.int x2), .val (.int x3), .val (.int x4), .unset, .unset, .unset, .unset, .unset, .unset, .unset] [] h0 0 0 := ra.go fun T t X k => XS.ifYes X hx rfl (pc0 := 4) (pc' := 13) rfl (hb hby at_4) rfl ((if0 _ _).trans (teq hc).1) (by decide) (by decide) k
      have ra5 : OwnW s0 n0 15 #[.val (.int x0), .val (.int x1), .val (.int x2), .val (.int x3), .val (.int x4), .unset, .unset, .unset, .unset, .unset, .unset, .unset] [(.int (1073741823 : Int32))] h0 0 0 := ra4.goX fun T t ls X eT k => X.ldcI hx hown (mvT hZ (hw _ (List.mem_of_getElem? (i := 0) rfl))) rfl (hb hby at_13) k
      exact ⟨_, Or.inr rfl, ra5⟩
    · have rb := r3
      have rb4 : OwnW s0 n0 7 #[.val (.int x0), .val (.int x1), .val (.int x2), .val (.int x3), .val (.int x4), .unset, .unset, .unset, .unset, .unset, .unset, .unset] [] h0 0 0 := rb.go fun T t X k => XS.ifNo X hx rfl (hb hby at_4) rfl ((if0 _ _).trans (feq hc).1) k
      have rb5 : OwnW s0 n0 10 #[.val (.int x0), .val (.int x1), .val (.int x2), .val (.int x3), .val (.int x4), .unset, .unset, .unset, .unset, .unset, .unset, .unset] [(.int (2047 : Int32))] h0 0 0 := rb4.go fun T t X k => XS.sipush X hx rfl (hb hby at_7) k
      have rb6 : OwnW s0 n0 15 #[.val (.int x0), .val (.int x1), .val (.int x2), .val (.int x3), .val (.int x4), .unset, .unset, .unset, .unset, .unset, .unset, .unset] [(.int (2047 : Int32))] h0 0 0 := rb5.go fun T t X k => XS.goto X hx rfl (pc0 := 10) (pc' := 15) rfl (hb hby at_10) (by decide) (by decide) k
      exact ⟨_, Or.inl rfl, rb6⟩
  have r41 : OwnW s0 n0 17 #[.val (.int x0), .val (.int x1), .val (.int x2), .val (.int x3), .val (.int x4), .val (.int mk), .unset, .unset, .unset, .unset, .unset, .unset] [] h0 0 0 := r.go fun T t X k => XS.istore X hx rfl (hb hby at_15) rfl (l' := #[.val (.int x0), .val (.int x1), .val (.int x2), .val (.int x3), .val (.int x4), .val (.int mk), .unset, .unset, .unset, .unset, .unset, .unset]) rfl k
  have r42 : OwnW s0 n0 18 #[.val (.int x0), .val (.int x1), .val (.int x2), .val (.int x3), .val (.int x4), .val (.int mk), .unset, .unset, .unset, .unset, .unset, .unset] [(.int x1)] h0 0 0 := r41.go fun T t X k => XS.iloadN X hx rfl (hb hby at_17) rfl k
  have r43 : OwnW s0 n0 20 #[.val (.int x0), .val (.int x1), .val (.int x2), .val (.int x3), .val (.int x4), .val (.int mk), .unset, .unset, .unset, .unset, .unset, .unset] [(.int mk), (.int x1)] h0 0 0 := r42.go fun T t X k => XS.iload X hx rfl (hb hby at_18) rfl k
  have r44 : OwnW s0 n0 21 #[.val (.int x0), .val (.int x1), .val (.int x2), .val (.int x3), .val (.int x4), .val (.int mk), .unset, .unset, .unset, .unset, .unset, .unset] [(.int (x1 &&& mk))] h0 0 0 := r43.go fun T t X k => XS.iand X hx rfl (hb hby at_20) rfl k
  have r45 : OwnW s0 n0 23 #[.val (.int x0), .val (.int x1), .val (.int x2), .val (.int x3), .val (.int x4), .val (.int mk), .val (.int (x1 &&& mk)), .unset, .unset, .unset, .unset, .unset] [] h0 0 0 := r44.go fun T t X k => XS.istore X hx rfl (hb hby at_21) rfl (l' := #[.val (.int x0), .val (.int x1), .val (.int x2), .val (.int x3), .val (.int x4), .val (.int mk), .val (.int (x1 &&& mk)), .unset, .unset, .unset, .unset, .unset]) rfl k
  have r46 : OwnW s0 n0 24 #[.val (.int x0), .val (.int x1), .val (.int x2), .val (.int x3), .val (.int x4), .val (.int mk), .val (.int (x1 &&& mk)), .unset, .unset, .unset, .unset, .unset] [(.int x2)] h0 0 0 := r45.go fun T t X k => XS.iloadN X hx rfl (hb hby at_23) rfl k
  have r47 : OwnW s0 n0 26 #[.val (.int x0), .val (.int x1), .val (.int x2), .val (.int x3), .val (.int x4), .val (.int mk), .val (.int (x1 &&& mk)), .unset, .unset, .unset, .unset, .unset] [(.int mk), (.int x2)] h0 0 0 := r46.go fun T t X k => XS.iload X hx rfl (hb hby at_24) rfl k
  have r48 : OwnW s0 n0 27 #[.val (.int x0), .val (.int x1), .val (.int x2), .val (.int x3), .val (.int x4), .val (.int mk), .val (.int (x1 &&& mk)), .unset, .unset, .unset, .unset, .unset] [(.int (x2 &&& mk))] h0 0 0 := r47.go fun T t X k => XS.iand X hx rfl (hb hby at_26) rfl k
  have r49 : OwnW s0 n0 29 #[.val (.int x0), .val (.int x1), .val (.int x2), .val (.int x3), .val (.int x4), .val (.int mk), .val (.int (x1 &&& mk)), .val (.int (x2 &&& mk)), .unset, .unset, .unset, .unset] [] h0 0 0 := r48.go fun T t X k => XS.istore X hx rfl (hb hby at_27) rfl (l' := #[.val (.int x0), .val (.int x1), .val (.int x2), .val (.int x3), .val (.int x4), .val (.int mk), .val (.int (x1 &&& mk)), .val (.int (x2 &&& mk)), .unset, .unset, .unset, .unset]) rfl k
  have hu := own_msk x1 mk hmk
  have hf := own_msk x2 mk hmk
  have hpl := own_plain (x1 &&& mk) (x2 &&& mk) hu hf
  generalize (x1 &&& mk) = u at *
  generalize (x2 &&& mk) = f at *
  obtain ⟨hr50, r50, Er50, Xo, Dr50⟩ := r49.newO hx hZ hown (hw _ (List.mem_of_getElem? (i := 1) rfl)) (hw _ (List.mem_of_getElem? (i := 2) rfl)) (hw _ (List.mem_of_getElem? (i := 3) rfl)) (hb hby at_29) (by decide) (by decide)
  obtain ⟨o, qo⟩ : ∃ z, z = h0.size := ⟨_, rfl⟩
  rw [← qo] at r50 Xo Dr50
  have F_total_o : Fld Z hr50 o "com/example/dogged_jobs/doggedjobs/model/TaskCounts" "total" "I" (.int (0 : Int32)) := Dr50 (Or.inr (hw _ (List.mem_of_getElem? (i := 11) rfl))) (ty := .int) (by decide)
  have F_succeeded_o : Fld Z hr50 o "com/example/dogged_jobs/doggedjobs/model/TaskCounts" "succeeded" "I" (.int (0 : Int32)) := Dr50 (Or.inr (hw _ (List.mem_of_getElem? (i := 13) rfl))) (ty := .int) (by decide)
  have F_failed_o : Fld Z hr50 o "com/example/dogged_jobs/doggedjobs/model/TaskCounts" "failed" "I" (.int (0 : Int32)) := Dr50 (Or.inr (hw _ (List.mem_of_getElem? (i := 15) rfl))) (ty := .int) (by decide)
  have F_cancelled_o : Fld Z hr50 o "com/example/dogged_jobs/doggedjobs/model/TaskCounts" "cancelled" "I" (.int (0 : Int32)) := Dr50 (Or.inr (hw _ (List.mem_of_getElem? (i := 17) rfl))) (ty := .int) (by decide)
  have r50 : OwnW s0 n0 32 #[.val (.int x0), .val (.int x1), .val (.int x2), .val (.int x3), .val (.int x4), .val (.int mk), .val (.int u), .val (.int f), .unset, .unset, .unset, .unset] [(.ref o)] hr50 1 4 := r50
  have r51 : OwnW s0 n0 33 #[.val (.int x0), .val (.int x1), .val (.int x2), .val (.int x3), .val (.int x4), .val (.int mk), .val (.int u), .val (.int f), .unset, .unset, .unset, .unset] [(.ref o), (.ref o)] hr50 1 4 := r50.go fun T t X k => XS.dup X hx rfl (hb hby at_32) rfl rfl k
  have r52 : OwnW s0 n0 34 #[.val (.int x0), .val (.int x1), .val (.int x2), .val (.int x3), .val (.int x4), .val (.int mk), .val (.int u), .val (.int f), .unset, .unset, .unset, .unset] [(.int x0), (.ref o), (.ref o)] hr50 1 4 := r51.go fun T t X k => XS.iloadN X hx rfl (hb hby at_33) rfl k
  have r53 : OwnW s0 n0 36 #[.val (.int x0), .val (.int x1), .val (.int x2), .val (.int x3), .val (.int x4), .val (.int mk), .val (.int u), .val (.int f), .unset, .unset, .unset, .unset] [(.int u), (.int x0), (.ref o), (.ref o)] hr50 1 4 := r52.go fun T t X k => XS.iload X hx rfl (hb hby at_34) rfl k
  have r54 : OwnW s0 n0 38 #[.val (.int x0), .val (.int x1), .val (.int x2), .val (.int x3), .val (.int x4), .val (.int mk), .val (.int u), .val (.int f), .unset, .unset, .unset, .unset] [(.int f), (.int u), (.int x0), (.ref o), (.ref o)] hr50 1 4 := r53.go fun T t X k => XS.iload X hx rfl (hb hby at_36) rfl k
  have r55 : OwnW s0 n0 39 #[.val (.int x0), .val (.int x1), .val (.int x2), .val (.int x3), .val (.int x4), .val (.int mk), .val (.int u), .val (.int f), .unset, .unset, .unset, .unset] [(.int x3), (.int f), (.int u), (.int x0), (.ref o), (.ref o)] hr50 1 4 := r54.go fun T t X k => XS.iloadN X hx rfl (hb hby at_38) rfl k
  have go : n0 ≤ o := Nat.le_trans Z0 (Nat.le_of_eq qo.symm)
  obtain ⟨vr56, hr56, r56, qr56⟩ := r55.callN hx hZ rfl hown (hw _ (List.mem_of_getElem? (i := 4) rfl)) (hw _ (List.mem_of_getElem? (i := 5) rfl)) (hw _ (List.mem_of_getElem? (i := 3) rfl)) (hw _ (List.mem_of_getElem? (i := 6) rfl)) (by decide) (a := o) (argsL := [(.int x0), (.int u), (.int f), (.int x3)]) (own_ini l Z a0 hw o x0 u f x3 hr50 n0 Xo F_total_o F_succeeded_o F_failed_o F_cancelled_o go) [(.ref o)] 1 (by decide) (by decide) (by rw [hml]; rfl) (lenOf own_pd0 rfl) rfl (Nat.le_of_eq rfl) (hb hby at_39) (by decide) (by decide)
  obtain ⟨rfl, K1, E1, Ft, Fu, Ff, Fc⟩ := qr56
  have r56 : OwnW s0 n0 42 #[.val (.int x0), .val (.int x1), .val (.int x2), .val (.int x3), .val (.int x4), .val (.int mk), .val (.int u), .val (.int f), .unset, .unset, .unset, .unset] [(.ref o)] hr56 1 4 := r56
  have r57 : OwnW s0 n0 44 #[.val (.int x0), .val (.int x1), .val (.int x2), .val (.int x3), .val (.int x4), .val (.int mk), .val (.int u), .val (.int f), .val (.ref o), .unset, .unset, .unset] [] hr56 1 4 := r56.go fun T t X k => XS.astore X hx rfl (hb hby at_42) rfl rfl (l' := #[.val (.int x0), .val (.int x1), .val (.int x2), .val (.int x3), .val (.int x4), .val (.int mk), .val (.int u), .val (.int f), .val (.ref o), .unset, .unset, .unset]) rfl k
  have r58 : OwnW s0 n0 46 #[.val (.int x0), .val (.int x1), .val (.int x2), .val (.int x3), .val (.int x4), .val (.int mk), .val (.int u), .val (.int f), .val (.ref o), .unset, .unset, .unset] [(.int u)] hr56 1 4 := r57.go fun T t X k => XS.iload X hx rfl (hb hby at_44) rfl k
  have r59 : OwnW s0 n0 47 #[.val (.int x0), .val (.int x1), .val (.int x2), .val (.int x3), .val (.int x4), .val (.int mk), .val (.int u), .val (.int f), .val (.ref o), .unset, .unset, .unset] [(.long (u.toInt64))] hr56 1 4 := r58.go fun T t X k => XS.i2l X hx rfl (hb hby at_46) rfl k
  have r60 : OwnW s0 n0 49 #[.val (.int x0), .val (.int x1), .val (.int x2), .val (.int x3), .val (.int x4), .val (.int mk), .val (.int u), .val (.int f), .val (.ref o), .unset, .unset, .unset] [(.int f), (.long (u.toInt64))] hr56 1 4 := r59.go fun T t X k => XS.iload X hx rfl (hb hby at_47) rfl k
  have r61 : OwnW s0 n0 50 #[.val (.int x0), .val (.int x1), .val (.int x2), .val (.int x3), .val (.int x4), .val (.int mk), .val (.int u), .val (.int f), .val (.ref o), .unset, .unset, .unset] [(.long (f.toInt64)), (.long (u.toInt64))] hr56 1 4 := r60.go fun T t X k => XS.i2l X hx rfl (hb hby at_49) rfl k
  have r62 : OwnW s0 n0 51 #[.val (.int x0), .val (.int x1), .val (.int x2), .val (.int x3), .val (.int x4), .val (.int mk), .val (.int u), .val (.int f), .val (.ref o), .unset, .unset, .unset] [(.long ((u.toInt64) + (f.toInt64)))] hr56 1 4 := r61.go fun T t X k => XS.ladd X hx rfl (hb hby at_50) rfl k
  have r63 : OwnW s0 n0 53 #[.val (.int x0), .val (.int x1), .val (.int x2), .val (.int x3), .val (.int x4), .val (.int mk), .val (.int u), .val (.int f), .val (.ref o), .val (.long ((u.toInt64) + (f.toInt64))), .second, .unset] [] hr56 1 4 := r62.go fun T t X k => XS.lstore X hx rfl (hb hby at_51) rfl (l' := #[.val (.int x0), .val (.int x1), .val (.int x2), .val (.int x3), .val (.int x4), .val (.int mk), .val (.int u), .val (.int f), .val (.ref o), .val (.long ((u.toInt64) + (f.toInt64))), .second, .unset]) rfl k
  have r64 : OwnW s0 n0 55 #[.val (.int x0), .val (.int x1), .val (.int x2), .val (.int x3), .val (.int x4), .val (.int mk), .val (.int u), .val (.int f), .val (.ref o), .val (.long ((u.toInt64) + (f.toInt64))), .second, .unset] [(.long ((u.toInt64) + (f.toInt64)))] hr56 1 4 := r63.go fun T t X k => XS.lload X hx rfl (hb hby at_53) rfl k
  have r65 : OwnW s0 n0 58 #[.val (.int x0), .val (.int x1), .val (.int x2), .val (.int x3), .val (.int x4), .val (.int mk), .val (.int u), .val (.int f), .val (.ref o), .val (.long ((u.toInt64) + (f.toInt64))), .second, .unset] [(.long (1000 : Int64)), (.long ((u.toInt64) + (f.toInt64)))] hr56 1 4 := r64.goX fun T t ls X eT k => X.ldc2J hx hown (mvT hZ (hw _ (List.mem_of_getElem? (i := 18) rfl))) rfl (hb hby at_55) k
  have r66 : OwnW s0 n0 59 #[.val (.int x0), .val (.int x1), .val (.int x2), .val (.int x3), .val (.int x4), .val (.int mk), .val (.int u), .val (.int f), .val (.ref o), .val (.long ((u.toInt64) + (f.toInt64))), .second, .unset] [(.int (lcmpW ((u.toInt64) + (f.toInt64)) (1000 : Int64)))] hr56 1 4 := r65.go fun T t X k => XS.lcmp X hx rfl (hb hby at_58) rfl k
  obtain ⟨ex, hex, r⟩ : ∃ ex : Int32, ex = own_ot u f ∧ OwnW (p := p) (l := l) (e := e) (R := room_1) (s := s) (m := m) (args := #[(.int x0), (.int x1), (.int x2), (.int x3), (.int x4)]) (below := below) (meth := meth) (c := c) s0 n0 74 #[.val (.int x0), .val (.int x1), .val (.int x2), .val (.int x3), .val (.int x4), .val (.int mk), .val (.int u), .val (.int f), .val (.ref o), .val (.long ((u.toInt64) + (f.toInt64))), .second, .unset] [(.int ex)] hr56 1 4 := by
    by_cases hc : ((u.toInt64) + (f.toInt64)) < (1000 : Int64)
    · have ra := r66
      have ra67 : OwnW s0 n0 73 #[.val (.int x0), .val (.int x1), .val (.int x2), .val (.int x3), .val (.int x4), .val (.int mk), .val (.int u), .val (.int f), .val (.ref o), .val (.long ((u.toInt64) + (f.toInt64))), .second, .unset] [] hr56 1 4 := ra.go fun T t X k => XS.ifYes X hx rfl (pc0 := 59) (pc' := 73) rfl (hb hby at_59) rfl ((if0 _ _).trans (tlt ((lw_lt _ _).mpr hc)).1) (by decide) (by decide) k
      have ra68 : OwnW s0 n0 74 #[.val (.int x0), .val (.int x1), .val (.int x2), .val (.int x3), .val (.int x4), .val (.int mk), .val (.int u), .val (.int f), .val (.ref o), .val (.long ((u.toInt64) + (f.toInt64))), .second, .unset] [(.int (0 : Int32))] hr56 1 4 := ra67.go fun T t X k => XS.iconst X hx rfl (hb hby at_73) k
      exact ⟨_, by rw [hpl, if_pos hc], ra68⟩
    · have rb := r66
      have rb67 : OwnW s0 n0 62 #[.val (.int x0), .val (.int x1), .val (.int x2), .val (.int x3), .val (.int x4), .val (.int mk), .val (.int u), .val (.int f), .val (.ref o), .val (.long ((u.toInt64) + (f.toInt64))), .second, .unset] [] hr56 1 4 := rb.go fun T t X k => XS.ifNo X hx rfl (hb hby at_59) rfl ((if0 _ _).trans (flt (fun q => hc ((lw_lt _ _).mp q))).1) k
      have rb68 : OwnW s0 n0 64 #[.val (.int x0), .val (.int x1), .val (.int x2), .val (.int x3), .val (.int x4), .val (.int mk), .val (.int u), .val (.int f), .val (.ref o), .val (.long ((u.toInt64) + (f.toInt64))), .second, .unset] [(.int f)] hr56 1 4 := rb67.go fun T t X k => XS.iload X hx rfl (hb hby at_62) rfl k
      have rb69 : OwnW s0 n0 66 #[.val (.int x0), .val (.int x1), .val (.int x2), .val (.int x3), .val (.int x4), .val (.int mk), .val (.int u), .val (.int f), .val (.ref o), .val (.long ((u.toInt64) + (f.toInt64))), .second, .unset] [(.int u), (.int f)] hr56 1 4 := rb68.go fun T t X k => XS.iload X hx rfl (hb hby at_64) rfl k
      by_cases hd : u < f
      · have rc := rb69
        have rc70 : OwnW s0 n0 69 #[.val (.int x0), .val (.int x1), .val (.int x2), .val (.int x3), .val (.int x4), .val (.int mk), .val (.int u), .val (.int f), .val (.ref o), .val (.long ((u.toInt64) + (f.toInt64))), .second, .unset] [] hr56 1 4 := rc.go fun T t X k => XS.icmpNo X hx rfl (hb hby at_66) rfl (tlt hd).2.2.2 k
        have rc71 : OwnW s0 n0 70 #[.val (.int x0), .val (.int x1), .val (.int x2), .val (.int x3), .val (.int x4), .val (.int mk), .val (.int u), .val (.int f), .val (.ref o), .val (.long ((u.toInt64) + (f.toInt64))), .second, .unset] [(.int (1 : Int32))] hr56 1 4 := rc70.go fun T t X k => XS.iconst X hx rfl (hb hby at_69) k
        have rc72 : OwnW s0 n0 74 #[.val (.int x0), .val (.int x1), .val (.int x2), .val (.int x3), .val (.int x4), .val (.int mk), .val (.int u), .val (.int f), .val (.ref o), .val (.long ((u.toInt64) + (f.toInt64))), .second, .unset] [(.int (1 : Int32))] hr56 1 4 := rc71.go fun T t X k => XS.goto X hx rfl (pc0 := 70) (pc' := 74) rfl (hb hby at_70) (by decide) (by decide) k
        exact ⟨_, by rw [hpl, if_neg hc, if_pos hd], rc72⟩
      · have rd := rb69
        have rd70 : OwnW s0 n0 73 #[.val (.int x0), .val (.int x1), .val (.int x2), .val (.int x3), .val (.int x4), .val (.int mk), .val (.int u), .val (.int f), .val (.ref o), .val (.long ((u.toInt64) + (f.toInt64))), .second, .unset] [] hr56 1 4 := rd.go fun T t X k => XS.icmpYes X hx rfl (pc0 := 66) (pc' := 73) rfl (hb hby at_66) rfl (flt hd).2.2.2 (by decide) (by decide) k
        have rd71 : OwnW s0 n0 74 #[.val (.int x0), .val (.int x1), .val (.int x2), .val (.int x3), .val (.int x4), .val (.int mk), .val (.int u), .val (.int f), .val (.ref o), .val (.long ((u.toInt64) + (f.toInt64))), .second, .unset] [(.int (0 : Int32))] hr56 1 4 := rd70.go fun T t X k => XS.iconst X hx rfl (hb hby at_73) k
        exact ⟨_, by rw [hpl, if_neg hc, if_neg hd], rd71⟩
  have r81 : OwnW s0 n0 76 #[.val (.int x0), .val (.int x1), .val (.int x2), .val (.int x3), .val (.int x4), .val (.int mk), .val (.int u), .val (.int f), .val (.ref o), .val (.long ((u.toInt64) + (f.toInt64))), .second, .val (.int ex)] [] hr56 1 4 := r.go fun T t X k => XS.istore X hx rfl (hb hby at_74) rfl (l' := #[.val (.int x0), .val (.int x1), .val (.int x2), .val (.int x3), .val (.int x4), .val (.int mk), .val (.int u), .val (.int f), .val (.ref o), .val (.long ((u.toInt64) + (f.toInt64))), .second, .val (.int ex)]) rfl k
  have r82 : OwnW s0 n0 78 #[.val (.int x0), .val (.int x1), .val (.int x2), .val (.int x3), .val (.int x4), .val (.int mk), .val (.int u), .val (.int f), .val (.ref o), .val (.long ((u.toInt64) + (f.toInt64))), .second, .val (.int ex)] [(.ref o)] hr56 1 4 := r81.go fun T t X k => XS.aload X hx rfl (hb hby at_76) rfl rfl k
  obtain ⟨vr83, hr83, r83, qr83⟩ := r82.callV hx hZ hown (hw _ (List.mem_of_getElem? (i := 19) rfl)) (hw _ (List.mem_of_getElem? (i := 20) rfl)) (hw _ (List.mem_of_getElem? (i := 22) rfl)) (notFace_of_selects (args := #[]) (mvT hZ (hw _ (List.mem_of_getElem? (i := 22) rfl)))) (hw _ (List.mem_of_getElem? (i := 21) rfl)) (hw _ (List.mem_of_getElem? (i := 3) rfl)) (hw _ (List.mem_of_getElem? (i := 23) rfl)) (by decide) (a := o) (argsL := []) E1 (own_ovr l Z a0 hw o u f hr56 n0 Fu Ff) [] 0 (by decide) (by decide) (by rw [hml]; rfl) (lenOf own_pd1 rfl) rfl (Nat.le_of_eq rfl) (hb hby at_78) (by decide) (by decide)
  obtain ⟨rfl, rfl⟩ := qr83
  have r83 : OwnW s0 n0 81 #[.val (.int x0), .val (.int x1), .val (.int x2), .val (.int x3), .val (.int x4), .val (.int mk), .val (.int u), .val (.int f), .val (.ref o), .val (.long ((u.toInt64) + (f.toInt64))), .second, .val (.int ex)] [(.int (own_ot u f))] hr56 1 4 := r83
  have r84 : OwnW s0 n0 83 #[.val (.int x0), .val (.int x1), .val (.int x2), .val (.int x3), .val (.int x4), .val (.int mk), .val (.int u), .val (.int f), .val (.ref o), .val (.long ((u.toInt64) + (f.toInt64))), .second, .val (.int ex)] [(.int ex), (.int (own_ot u f))] hr56 1 4 := r83.go fun T t X k => XS.iload X hx rfl (hb hby at_81) rfl k
  have r85 : OwnW s0 n0 86 #[.val (.int x0), .val (.int x1), .val (.int x2), .val (.int x3), .val (.int x4), .val (.int mk), .val (.int u), .val (.int f), .val (.ref o), .val (.long ((u.toInt64) + (f.toInt64))), .second, .val (.int ex)] [] hr56 1 4 := r84.go fun T t X k => XS.icmpNo X hx rfl (hb hby at_83) rfl (teq hex.symm).2 k
  have r86 : OwnW s0 n0 87 #[.val (.int x0), .val (.int x1), .val (.int x2), .val (.int x3), .val (.int x4), .val (.int mk), .val (.int u), .val (.int f), .val (.ref o), .val (.long ((u.toInt64) + (f.toInt64))), .second, .val (.int ex)] [(.int (1 : Int32))] hr56 1 4 := r85.go fun T t X k => XS.iconst X hx rfl (hb hby at_86) k
  have r87 : OwnW s0 n0 91 #[.val (.int x0), .val (.int x1), .val (.int x2), .val (.int x3), .val (.int x4), .val (.int mk), .val (.int u), .val (.int f), .val (.ref o), .val (.long ((u.toInt64) + (f.toInt64))), .second, .val (.int ex)] [(.int (1 : Int32))] hr56 1 4 := r86.go fun T t X k => XS.goto X hx rfl (pc0 := 87) (pc' := 91) rfl (hb hby at_87) (by decide) (by decide) k
  have r88 := r87.retN hx hret (by simp) rfl (hb hby at_91)
  exact ⟨_, _, 1, 4, rfl, by decide, by decide, r88⟩
set_option maxRecDepth 65536 in
set_option maxHeartbeats 40000000 in
theorem comes_1 {Post : Tables → Env → Array Value → State → Outcome → State → Prop} (hpost : ∀ tb e args s v u, (limb_1_1.after args s (.returned v) u = true ∧ limb_1_2.after args s (.returned v) u = true ∧ True) → FrameEnd s (.returned v) u (Jvm.fieldLocs frame_1_writes args s ++ Jvm.arrayLocs frame_1_arrays args s ++ Jvm.staticLocs frame_1_statics s) 16 128 → Post tb e args s (.returned v) u) :
    ArmFor flags0 classFile x code maxLocals ret World_1 tables_1 room_1 Calls_1 rest_1 Pre_1 Post := by
  intro l hfl _ _ p e ha hc hk s m args below hf hA hF happ hP
  obtain ⟨hcalls, hrest, hpre⟩ := hP
  obtain ⟨-, -, -, hnamed, -, -, -, hat⟩ := (Spec.applies_iff hf).mp happ
  obtain ⟨hg, hn⟩ := and_e (Cond.before_iff.mp (show (Jvm.Cond.and given_1 narrow_1).before args s = true from hpre))
  obtain ⟨g0, t0⟩ := and_e hg
  obtain ⟨g1, t1⟩ := and_e t0
  obtain ⟨g2, t2⟩ := and_e t1
  obtain ⟨g3, t3⟩ := and_e t2
  obtain ⟨g4, t4⟩ := and_e t3
  obtain ⟨w0, w1, w2, w3, w4, rfl⟩ : ∃ w0 w1 w2 w3 w4 : Value, args = #[w0, w1, w2, w3, w4] := by
    have hs : args.size = 5 := by simpa [Cond.value, given_1] using g0
    obtain ⟨L⟩ := args
    match L, hs with
    | [w0, w1, w2, w3, w4], _ => exact ⟨w0, w1, w2, w3, w4, rfl⟩
  have hw := fun d (hd : d ∈ tables_1) => atoms_spec (ws := Jvm.Cond.code x code maxLocals ret :: tables_1) hat d (List.mem_cons_of_mem _ hd)
  have hfit : Fit s := fun {y c} hc i hi => by
    obtain ⟨ha, rfl⟩ := Array.getElem?_eq_some_iff.mp hc
    have q := List.all_eq_true.mp ((Array.all_eq_true_iff_forall_mem.mp hF) _ (Array.getElem_mem ha)) i (List.mem_range.mpr hi)
    simpa [Array.getElem?_eq_getElem hi] using q
  obtain ⟨i0, e0⟩ := is_v g1
  obtain rfl : w0 = (.int i0) := Option.some.inj e0
  obtain ⟨i1, e1⟩ := is_v g2
  obtain rfl : w1 = (.int i1) := Option.some.inj e1
  obtain ⟨i2, e2⟩ := is_v g3
  obtain rfl : w2 = (.int i2) := Option.some.inj e2
  obtain ⟨i3, e3⟩ := is_v g4
  obtain rfl : w3 = (.int i3) := Option.some.inj e3
  obtain ⟨i4, e4⟩ := is_v t4
  obtain rfl : w4 = (.int i4) := Option.some.inj e4
  obtain ⟨n, o, h1, h2, h3, _, L, rfl, ⟨N, rfl⟩, hq⟩ := own_law l s _ hw i0 i1 i2 i3 i4 s.heap s.heap.size (Nat.le_refl _) tables_1 p e ha hc hk s m _ below hf ((Spec.applies_iff_loose hf).mp happ).1 ⟨rfl, State.Warmed39.refl s, rfl⟩ trivial
  refine ⟨n, _, h1, h2, h3, hpost _ _ _ _ _ _ ⟨Cond.after_iff.mpr rfl, Cond.after_iff.mpr (eq_i res_at (Term.int_eval (1)) rfl), trivial⟩ ⟨hq.1, hq.2.1, (hq.2.2.sift fun y hy => Or.inr (N y hy)).mono (by decide) (by decide)⟩⟩
theorem main_1_1 : Claimed_1_1 := comes_1 fun _ _ _ _ _ _ h hF => ⟨h.1, hF⟩
theorem main_1_2 : Claimed_1_2 := comes_1 fun _ _ _ _ _ _ h hF => ⟨h.2.1, hF⟩
end Jvm.Pilot.@@N@@
namespace Jvm.Pilot.@@N@@
open Jvm Jvm.ClassFile Sem Op Lib Jvm.Free Jvm.Stand Jvm.Pilot.@@N@@.Jvm.D
/-! MADE BY PROGRAM (witnessworld.py) out of the Statement's table words and the real class files: 9 classes; the members and pool entries that the words name. The judged class is class 1, her method 1. -/
namespace start1
open Jvm.ClassFile
def u (s : String) : CpInfo := .utf8 (stringToUtf16 s)
/-- a pool by its gaps: so many unusable entries, then the entry; so many at the end -/
def gap : Nat → List CpInfo → List CpInfo
  | 0, r => r
  | n + 1, r => .unusable :: gap n r
def poolList (es : List (Nat × CpInfo)) (last : Nat) : List CpInfo := es.foldr (fun e r => gap e.1 (e.2 :: r)) (gap last [])
def pool (es : List (Nat × CpInfo)) (last : Nat) : Array CpInfo := ⟨poolList es last⟩
def fileOf (pool : Array CpInfo) (this : Nat) (attrs : Array Attribute := #[]) (ms : Array MethodInfo := #[]) (fl : Nat := 33) (sup : Nat := 0) (ifs : Array Nat := #[]) (fds : Array FieldInfo := #[]) : ClassFile where
  minorVersion := 0
  majorVersion := 65
  constantPool := pool
  accessFlags := fl
  thisClass := this
  superClass := sup
  interfaces := ifs
  fields := fds
  methods := ms
  attributes := attrs
def plain (name : String) (sup : Option ClassId) : Class where
  name := name
  kind := .ordinary
  loader := none
  accessFlags := 33
  super := sup
  interfaces := #[]
  cf := none
  fields := #[]
  methods := #[]
  instanceTypes := #[]
  staticTypes := #[]
  resolved := #[]
  callSites := []
  init := .initialized
  statics := none
  mirror := none

def pool0 : Array CpInfo := pool [(5, u "<init>"), (0, u "()V"), (1, .class_ 10), (1, u "java/lang/Object")] 113

def k0c0 : Code := { maxStack := 0, maxLocals := 1, code := object_method_1_code, exceptionTable := #[], attributes := #[] }
def k0m0 : Method := { name := "<init>", desc := "()V", sig := { parameters := [], returnType := none }, accessFlags := 1, code := some k0c0 }
/-- java/lang/Object -/
def k0 : Class := { plain "java/lang/Object" none with
  accessFlags := 33
  interfaces := #[]
  cf := some (fileOf pool0 8 #[] #[{ accessFlags := 1, nameIndex := 5, descriptorIndex := 6, attributes := #[] }] 33 0 #[] #[])
  fields := #[]
  methods := #[k0m0]
  instanceTypes := #[]
  staticTypes := #[]
  resolved := Array.replicate 124 none
  statics := none }

def pool1 : Array CpInfo := pool [(2, .class_ 4), (1, u "java/lang/Object"), (0, u "<init>"), (0, u "()V"), (0, .integer 1073741823), (0, .class_ 9), (0, u "com/example/dogged_jobs/doggedjobs/model/TaskCounts"), (0, .methodref 8 11), (0, .nameAndType 5 12), (0, u "(IIII)V"), (0, .long 1000), (1, .methodref 8 16), (0, .nameAndType 17 18), (0, u "overThreshold"), (0, u "()Z"), (0, .class_ 20), (0, u "com/example/dogged_jobs/doggedjobs/model/TaskCountsOverThresholdPinLaw"), (2, u "law"), (0, u "(IIIII)Z")] 3

def k1m0 : Method := { name := "<init>", desc := "()V", sig := { parameters := [], returnType := none }, accessFlags := 1, code := none }
def k1c1 : Code := { maxStack := 6, maxLocals := 12, code := code, exceptionTable := #[], attributes := #[] }
def k1m1 : Method := { name := "law", desc := "(IIIII)Z", sig := { parameters := [.int, .int, .int, .int, .int], returnType := some .boolean }, accessFlags := 9, code := some k1c1 }
/-- com/example/dogged_jobs/doggedjobs/model/TaskCountsOverThresholdPinLaw -/
def k1 : Class := { plain "com/example/dogged_jobs/doggedjobs/model/TaskCountsOverThresholdPinLaw" (some 0) with
  accessFlags := 49
  interfaces := #[]
  cf := some (fileOf pool1 19 #[] #[{ accessFlags := 1, nameIndex := 5, descriptorIndex := 6, attributes := #[] }, { accessFlags := 9, nameIndex := 23, descriptorIndex := 24, attributes := #[] }] 49 2 #[] #[])
  fields := #[]
  methods := #[k1m0, k1m1]
  instanceTypes := #[]
  staticTypes := #[]
  resolved := Array.replicate 28 none
  statics := none }

def pool2 : Array CpInfo := pool [(1, .methodref 2 3), (0, .class_ 4), (0, .nameAndType 5 6), (0, u "java/lang/Object"), (0, u "<init>"), (0, u "()V"), (0, .fieldref 8 9), (0, .class_ 10), (0, .nameAndType 11 12), (0, u "com/example/dogged_jobs/doggedjobs/model/TaskCounts"), (0, u "total"), (0, u "I"), (0, .fieldref 8 14), (0, .nameAndType 15 12), (0, u "succeeded"), (0, .fieldref 8 17), (0, .nameAndType 18 12), (0, u "failed"), (0, .fieldref 8 20), (0, .nameAndType 21 12), (0, u "cancelled"), (1, .class_ 25), (1, u "com/example/dogged_jobs/doggedjobs/model/TaskCounts$1"), (10, u "(IIII)V"), (15, u "THRESHOLD_TASKS"), (7, u "overThreshold"), (0, u "()Z")] 18

def k2c0 : Code := { maxStack := 2, maxLocals := 5, code := prog_9_method_1_code, exceptionTable := #[], attributes := #[] }
def k2m0 : Method := { name := "<init>", desc := "(IIII)V", sig := { parameters := [.int, .int, .int, .int], returnType := none }, accessFlags := 0, code := some k2c0 }
def k2c1 : Code := { maxStack := 3, maxLocals := 2, code := prog_9_method_3_code, exceptionTable := #[], attributes := #[] }
def k2m1 : Method := { name := "overThreshold", desc := "()Z", sig := { parameters := [], returnType := some .boolean }, accessFlags := 1, code := some k2c1 }
/-- com/example/dogged_jobs/doggedjobs/model/TaskCounts -/
def k2 : Class := { plain "com/example/dogged_jobs/doggedjobs/model/TaskCounts" (some 0) with
  accessFlags := 33
  interfaces := #[]
  cf := some (fileOf pool2 8 #[.nestMembers #[23]] #[{ accessFlags := 0, nameIndex := 5, descriptorIndex := 36, attributes := #[] }, { accessFlags := 1, nameIndex := 60, descriptorIndex := 61, attributes := #[] }] 33 2 #[] #[{ accessFlags := 25, nameIndex := 52, descriptorIndex := 12, attributes := #[] }, { accessFlags := 18, nameIndex := 11, descriptorIndex := 12, attributes := #[] }, { accessFlags := 18, nameIndex := 15, descriptorIndex := 12, attributes := #[] }, { accessFlags := 18, nameIndex := 18, descriptorIndex := 12, attributes := #[] }, { accessFlags := 18, nameIndex := 21, descriptorIndex := 12, attributes := #[] }])
  fields := #[{ name := "THRESHOLD_TASKS", type := .int, accessFlags := 25, slot := 0, constantValue := 0 }, { name := "total", type := .int, accessFlags := 18, slot := 0, constantValue := 0 }, { name := "succeeded", type := .int, accessFlags := 18, slot := 1, constantValue := 0 }, { name := "failed", type := .int, accessFlags := 18, slot := 2, constantValue := 0 }, { name := "cancelled", type := .int, accessFlags := 18, slot := 3, constantValue := 0 }]
  methods := #[k2m0, k2m1]
  instanceTypes := #[.int, .int, .int, .int]
  staticTypes := #[.int]
  resolved := Array.replicate 80 none
  statics := none }

def pool3 : Array CpInfo := pool [(1, u "java/lang/Cloneable"), (0, .class_ 1), (0, u "java/lang/Object"), (0, .class_ 3)] 3

/-- java/lang/Cloneable -/
def k3 : Class := { plain "java/lang/Cloneable" (some 0) with
  accessFlags := 1537
  interfaces := #[]
  cf := some (fileOf pool3 2 #[] #[] 1537 4 #[] #[])
  fields := #[]
  methods := #[]
  instanceTypes := #[]
  staticTypes := #[]
  resolved := Array.replicate 8 none
  statics := none }

def pool4 : Array CpInfo := pool [(1, u "java/io/Serializable"), (0, .class_ 1), (0, u "java/lang/Object"), (0, .class_ 3)] 3

/-- java/io/Serializable -/
def k4 : Class := { plain "java/io/Serializable" (some 0) with
  accessFlags := 1537
  interfaces := #[]
  cf := some (fileOf pool4 2 #[] #[] 1537 4 #[] #[])
  fields := #[]
  methods := #[]
  instanceTypes := #[]
  staticTypes := #[]
  resolved := Array.replicate 8 none
  statics := none }

/-- the primitive byte -/
def k5 : Class := { plain "byte" none with kind := .primitive 'B', accessFlags := 0x411 }
/-- [B -/
def k6 : Class := { plain "[B" (some 0) with kind := .array 5 .byte, interfaces := #[3, 4], accessFlags := 1041 }

/-- the primitive int -/
def k7 : Class := { plain "int" none with kind := .primitive 'I', accessFlags := 0x411 }
/-- [I -/
def k8 : Class := { plain "[I" (some 0) with kind := .array 7 .int, interfaces := #[3, 4], accessFlags := 1041 }

def heap : Heap := #[]
def classes : Array Class := #[k0, k1, k2, k3, k4, k5, k6, k7, k8]
def interned : List (Array UInt16 × Addr) := []
def slotsUsed : Nat := 0
def theMethod : MethodId := ⟨1, 1⟩
def args0 : Array Value := #[.int 9, .int 5, .int 7, .int 1, .int 1]
def aboutOver (below : List Frame) : State where
  vm := { classes := classes, interned := interned.toArray }
  heap := heap
  slotsUsed := slotsUsed
  threads := #[{ frames := .invoking theMethod args0 :: below }]
def below0 : List Frame := [.native { method := ⟨0, 0⟩, args := #[] }]
def about1 : State := aboutOver below0
def p0 : Program := .bare "" "" ""
def e0 : Env := launch0.env 0 0 0
theorem w_frames : about1.frames = Frame.invoking theMethod args0 :: below0 := rfl
set_option maxRecDepth 65536 in
theorem w_args : argsFit about1.vm theMethod args0 = true := by decide +kernel
set_option maxRecDepth 65536 in
theorem w_heap : heapFits about1 = true := by decide +kernel
set_option maxRecDepth 65536 in
theorem w_runnable : about1.curStatus? = some .runnable := by decide +kernel
set_option maxRecDepth 65536 in
theorem w_alone : about1.alone = true := by decide +kernel
set_option maxRecDepth 65536 in
theorem w_named : about1.methodNamed? x = some theMethod := by decide +kernel
set_option maxRecDepth 65536 in
theorem w_hears : about1.hears theMethod below0 = true := by decide +kernel
set_option maxRecDepth 65536 in
theorem w_ripe : about1.ripe theMethod args0 below0 = true := by decide +kernel
theorem w_running : about1.status = .running := rfl
set_option maxRecDepth 65536 in
theorem w_room : about1.hasRoom e0.platform room_1 = true :=
  launch0.hasRoom_least _ room_1 (by decide +kernel) (by decide +kernel) (by decide +kernel) (by decide +kernel) (by decide +kernel) (by decide +kernel)
theorem allAtoms_all (ts : List Jvm.Cond) (a : Array Jvm.Value) (st : Jvm.State) : (allAtoms ts).before a st = ts.all (fun c => c.before a st) := by
  induction ts with
  | nil => rfl
  | cons c t ih =>
    show (Jvm.Cond.and c (allAtoms t)).before a st = _
    rw [Jvm.Cond.before_and, ih, List.all_cons]
def words1 : List Jvm.Cond := Jvm.Cond.code x code maxLocals ret :: tables_1
/-- a 'code' word, met by the world's own term for the bytes: nothing is compared byte by byte -/
theorem code_word {y : MethodName} {bytes : ByteArray} {mx : Nat} {rt : Option FieldType} {a : Array Value} {s : State} {m : MethodId} {meth : Method} {c : Code} (h1 : s.methodNamed? y = some m) (h2 : s.vm.method? m = some meth) (h3 : meth.code = some c) (h4 : c.code = bytes)
    (h5 : (c.maxLocals == mx && c.exceptionTable.isEmpty && decide (c.maxStack ≤ mostOperands) && decide (meth.sig.returnType = rt) && !meth.locks && decide (parseMethodDescriptor y.desc = some meth.sig)) = true) : (Jvm.Cond.code y bytes mx rt).before a s = true := by
  simp only [Bool.and_eq_true, beq_iff_eq, Bool.not_eq_true', decide_eq_true_eq] at h5
  obtain ⟨⟨⟨⟨⟨g1, g2⟩, g3⟩, g4⟩, g5⟩, g6⟩ := h5
  simp [Cond.before, Cond.holds, Cond.value, h1, h2, h3, h4, g1, g2, g3, g4, g5, g6]
def isCode : Jvm.Cond → Bool
  | .code _ _ _ _ => true
  | _ => false
theorem all_split {L : List Jvm.Cond} {P : Jvm.Cond → Bool} (h1 : L.all (fun c => isCode c || P c) = true) (h2 : ∀ c ∈ L.filter isCode, P c = true) : L.all P = true := by
  refine List.all_eq_true.mpr fun c hc => ?_
  have h := List.all_eq_true.mp h1 c hc
  rcases Bool.eq_false_or_eq_true (isCode c) with hi | hi
  · exact h2 c (List.mem_filter.mpr ⟨hc, hi⟩)
  · simpa [hi] using h
set_option maxRecDepth 65536 in
theorem w_c0 : (Jvm.Cond.code x code maxLocals ret).before args0 about1 = true := code_word (m := ⟨1, 1⟩) (meth := k1m1) (c := k1c1) (by decide +kernel) rfl rfl rfl (by decide +kernel)
set_option maxRecDepth 65536 in
theorem w_c1 : (Jvm.Cond.code ({ cls := "com/example/dogged_jobs/doggedjobs/model/TaskCounts", name := "<init>", desc := "(IIII)V" } : Jvm.MethodName) prog_9_method_1_code (5 : Nat) (Option.none : Option Jvm.ClassFile.FieldType)).before args0 about1 = true := code_word (m := ⟨2, 0⟩) (meth := k2m0) (c := k2c0) (by decide +kernel) rfl rfl rfl (by decide +kernel)
set_option maxRecDepth 65536 in
theorem w_c2 : (Jvm.Cond.code ({ cls := "java/lang/Object", name := "<init>", desc := "()V" } : Jvm.MethodName) object_method_1_code (1 : Nat) (Option.none : Option Jvm.ClassFile.FieldType)).before args0 about1 = true := code_word (m := ⟨0, 0⟩) (meth := k0m0) (c := k0c0) (by decide +kernel) rfl rfl rfl (by decide +kernel)
set_option maxRecDepth 65536 in
theorem w_c3 : (Jvm.Cond.code ({ cls := "com/example/dogged_jobs/doggedjobs/model/TaskCounts", name := "overThreshold", desc := "()Z" } : Jvm.MethodName) prog_9_method_3_code (2 : Nat) (Option.some Jvm.ClassFile.FieldType.boolean)).before args0 about1 = true := code_word (m := ⟨2, 1⟩) (meth := k2m1) (c := k2c1) (by decide +kernel) rfl rfl rfl (by decide +kernel)
def codes1 : List Jvm.Cond := [Jvm.Cond.code x code maxLocals ret, Jvm.Cond.code ({ cls := "com/example/dogged_jobs/doggedjobs/model/TaskCounts", name := "<init>", desc := "(IIII)V" } : Jvm.MethodName) prog_9_method_1_code (5 : Nat) (Option.none : Option Jvm.ClassFile.FieldType), Jvm.Cond.code ({ cls := "java/lang/Object", name := "<init>", desc := "()V" } : Jvm.MethodName) object_method_1_code (1 : Nat) (Option.none : Option Jvm.ClassFile.FieldType), Jvm.Cond.code ({ cls := "com/example/dogged_jobs/doggedjobs/model/TaskCounts", name := "overThreshold", desc := "()Z" } : Jvm.MethodName) prog_9_method_3_code (2 : Nat) (Option.some Jvm.ClassFile.FieldType.boolean)]
set_option maxRecDepth 65536 in
theorem codes_eq : words1.filter isCode = codes1 := rfl
theorem w_codes : ∀ c ∈ words1.filter isCode, c.before args0 about1 = true := by
  rw [codes_eq]
  intro c hc
  simp only [codes1, List.mem_cons, List.not_mem_nil, or_false] at hc
  rcases hc with rfl | rfl | rfl | rfl
  · exact w_c0
  · exact w_c1
  · exact w_c2
  · exact w_c3
set_option maxRecDepth 65536 in
theorem w_t1 : (words1.take 24).all (fun c => isCode c || c.before args0 about1) = true := by decide +kernel
set_option maxRecDepth 65536 in
theorem w_t2 : (words1.drop 24).all (fun c => isCode c || c.before args0 about1) = true := by decide +kernel
theorem w_tables : (allAtoms (Jvm.Cond.code x code maxLocals ret :: tables_1)).before args0 about1 = true := by
  rw [allAtoms_all]
  show words1.all (fun c => c.before args0 about1) = true
  refine all_split ?_ w_codes
  rw [← List.take_append_drop 24 words1, List.all_append, w_t1, w_t2]
  rfl
set_option maxRecDepth 65536 in
theorem w_case : (Jvm.Cond.and given_1 narrow_1).before args0 about1 = true := by decide +kernel
theorem w_applies : (headSpec (Jvm.Cond.code x code maxLocals ret :: tables_1) room_1).applies x e0.platform about1 = true :=
  (Spec.applies_iff w_frames).mpr ⟨w_running, w_runnable, w_alone, w_named, w_hears, w_ripe, w_room, w_tables⟩
theorem atStart : AtStart classFile x code maxLocals ret World_1 tables_1 room_1 Calls_1 rest_1 Pre_1 launch0 p0 e0 about1 theMethod args0 below0 :=
  ⟨lists_1, trivial, launch0.admits_env _ _ _, launch0.least_env, fairChoices_fair.cas, fairChoices_fair.clock, w_frames, w_args, w_heap, w_applies, trivial, trivial, w_case⟩
end start1
theorem witness_1 : WitnessClaimed_1 := ⟨start1.p0, start1.e0, start1.about1, start1.theMethod, start1.args0, start1.below0, start1.atStart⟩
end Jvm.Pilot.@@N@@
