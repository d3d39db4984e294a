import JvmDerived
import JvmDerived.Pilot.@@N@@Statement
import JvmDerived.Pilot.@@N@@Code
set_option linter.unusedVariables false
set_option linter.unusedSimpArgs false
namespace Jvm.Pilot.@@N@@
open Jvm Jvm.ClassFile Sem Op Lib Jvm.Free Jvm.Stand Jvm.LawKit Jvm.RoadKit Bundle Jvm.Pilot.@@N@@.Jvm.D
/-! OwnW: the walk as a fact: from s0 it has come to pc with locals L, stack S, heap h; kc cells and ks slots made; written only cells at or above n0. -/
section OwnKit
variable {p : Program} {l : Launch} {e : Env} {R : Room} {s : State} {m : MethodId} {args : Array Value} {below : List Frame} {meth : Method} {c : Code} {s0 : State} {n0 pc pc' : Nat} {L L' : Array Slot} {S S' : List Value} {h h' : Heap} {kc ks : Nat} {Z : State} {a0 : Array Value}
def OwnW {p : Program} {l : Launch} {e : Env} {R : Room} {s : State} {m : MethodId} {args : Array Value} {below : List Frame} {meth : Method} {c : Code} (s0 : State) (n0 pc : Nat) (L : Array Slot) (S : List Value) (h : Heap) (kc ks : Nat) : Prop :=
  ∃ (T : State) (locs : List Loc), Stand p l e R s m args below meth c T locs kc ks ∧ T.heap = h ∧ Fr n0 locs ∧ Steps p.tables e below s0 (T.setTop (mkF m pc L S))
def OwnEnd {p : Program} {l : Launch} {e : Env} {R : Room} {s : State} {m : MethodId} {args : Array Value} {below : List Frame} {meth : Method} {c : Code} (s0 : State) (n0 : Nat) (v : Option Value) (h : Heap) (kc ks : Nat) : Prop :=
  ∃ (T : State) (locs : List Loc), Stand p l e R s m args below meth c T locs kc ks ∧ T.heap = h ∧ Fr n0 locs ∧ (meth.sig.returnType = none → v = none) ∧ ∀ fs : List Frame, (∀ (f : JFrame) (acts : List Action), f.method = m → f.locked = none → f.entered = [] → (doReturn e (T.setTop f) acts v).1 = T.setFrames fs) → Steps p.tables e below s0 (T.setFrames fs)
/-- a callee's contract: with the arguments A on the heap h0 it returns v and leaves h' with Q v h' -/
def OwnCon (l : Launch) (Z : State) (y : MethodName) (bytes : ByteArray) (maxL : Nat) (ret : Option FieldType) (rm : Room) (A : Array Value) (h0 : Heap) (n0 : Nat) (Q : Option Value → Heap → Prop) : Prop :=
  ∀ ws : List Jvm.Cond, MetFree l y (head1 (Jvm.Cond.code y bytes maxL ret :: ws) rm) (fun a U => a = A ∧ Z.Warmed39 U.vm ∧ U.heap = h0) (fun _ _ _ _ _ => True) (fun _ U o U' => ∃ v L, o = .returned v ∧ (Fr n0 L ∧ Q v U'.heap) ∧ FrameEnd U o U' L rm.cells rm.slots)
theorem OwnW.go (r : OwnW (p := p) (l := l) (e := e) (R := R) (s := s) (m := m) (args := args) (below := below) (meth := meth) (c := c) s0 n0 pc L S h kc ks)
    (f : ∀ (T t : State), At T m c below → Steps p.tables e below (T.setTop (mkF m pc' L' S')) t → Steps p.tables e below (T.setTop (mkF m pc L S)) t) :
    OwnW (p := p) (l := l) (e := e) (R := R) (s := s) (m := m) (args := args) (below := below) (meth := meth) (c := c) s0 n0 pc' L' S' h kc ks := by
  obtain ⟨T, ls, X, eT, N, st⟩ := r
  exact ⟨T, ls, X, eT, N, st.trans (f T _ X.here (Steps.refl _))⟩
theorem OwnW.goX (r : OwnW (p := p) (l := l) (e := e) (R := R) (s := s) (m := m) (args := args) (below := below) (meth := meth) (c := c) s0 n0 pc L S h kc ks)
    (f : ∀ (T t : State) (ls : List Loc), Stand p l e R s m args below meth c T ls kc ks → T.heap = h → Steps p.tables e below (T.setTop (mkF m pc' L' S')) t → Steps p.tables e below (T.setTop (mkF m pc L S)) t) :
    OwnW (p := p) (l := l) (e := e) (R := R) (s := s) (m := m) (args := args) (below := below) (meth := meth) (c := c) s0 n0 pc' L' S' h kc ks := by
  obtain ⟨T, ls, X, eT, N, st⟩ := r
  exact ⟨T, ls, X, eT, N, st.trans (f T _ ls X eT (Steps.refl _))⟩
theorem OwnW.goT (r : OwnW (p := p) (l := l) (e := e) (R := R) (s := s) (m := m) (args := args) (below := below) (meth := meth) (c := c) s0 n0 pc L S h kc ks)
    (f : ∀ (T : State) (ls : List Loc), Stand p l e R s m args below meth c T ls kc ks → T.heap = h → ∃ T', Stand p l e R s m args below meth c T' ls kc ks ∧ T'.heap = h ∧ ∀ t, Steps p.tables e below (T'.setTop (mkF m pc' L' S')) t → Steps p.tables e below (T.setTop (mkF m pc L S)) t) :
    OwnW (p := p) (l := l) (e := e) (R := R) (s := s) (m := m) (args := args) (below := below) (meth := meth) (c := c) s0 n0 pc' L' S' h kc ks := by
  obtain ⟨T, ls, X, eT, N, st⟩ := r
  obtain ⟨T', X', eT', st'⟩ := f T ls X eT
  exact ⟨T', ls, X', eT', N, st.trans (st' _ (Steps.refl _))⟩
/-- the same walk, written otherwise -/
theorem OwnW.to (r : OwnW (p := p) (l := l) (e := e) (R := R) (s := s) (m := m) (args := args) (below := below) (meth := meth) (c := c) s0 n0 pc L S h kc ks) (h1 : pc = pc') (h2 : L = L') (h3 : S = S') (h4 : h = h') :
    OwnW (p := p) (l := l) (e := e) (R := R) (s := s) (m := m) (args := args) (below := below) (meth := meth) (c := c) s0 n0 pc' L' S' h' kc ks := by
  subst h1 h2 h3 h4; exact r
theorem OwnW.newO (r : OwnW (p := p) (l := l) (e := e) (R := R) (s := s) (m := m) (args := args) (below := below) (meth := meth) (c := c) s0 n0 pc L S h kc ks)
    (hx : p.tables.exec = Jvm.exec) (hZ : Z.Warmed39 s.vm) {own C : String} {index n : Nat} (hown : s.vm.findClass own = some m.cls) (w : (Jvm.Cond.classLink own index C).before a0 Z = true) (wi : (Jvm.Cond.instantiable C n).before a0 Z = true) (wz : (Jvm.Cond.initialized C).before a0 Z = true)
    (hd : decode c.code pc = .ok (.new index, 3)) (hc : kc + 1 ≤ R.cells) (hl : ks + n ≤ R.slots) :
    ∃ h', OwnW (p := p) (l := l) (e := e) (R := R) (s := s) (m := m) (args := args) (below := below) (meth := meth) (c := c) s0 n0 (pc + 3) L (.ref h.size :: S) h' (kc + 1) (ks + n) ∧ Ext h h' ∧ Exa Z h' h.size C ∧ (∀ {O nm d : String} {ty : FieldType}, Laid Z a0 C O nm d → parseFieldDescriptor d = some ty → Fld Z h' h.size O nm d (defaultValue ty)) := by
  obtain ⟨T, ls, X, eT, N, st⟩ := r
  obtain ⟨T', h', X', e', E, A, D, -, st'⟩ := Jvm.RoadKit.newO X hx hZ hown w wi wz eT (g := mkF m pc L S) rfl hd hc hl
  exact ⟨h', ⟨T', ls, X', e', N, st.trans (st' _ (Steps.refl _))⟩, E, A, D⟩
theorem OwnW.newP (r : OwnW (p := p) (l := l) (e := e) (R := R) (s := s) (m := m) (args := args) (below := below) (meth := meth) (c := c) s0 n0 pc L S h kc ks)
    (hx : p.tables.exec = Jvm.exec) (hZ : Z.Warmed39 s.vm) {aty : ArrayType} (w : (Jvm.Cond.arrayClass (newarray.typeOf aty)).before a0 Z = true) (hd : decode c.code pc = .ok (.newarray aty, 2)) {n : Int32} {rest : List Value} (hs : S = .int n :: rest)
    (hn : ¬ n < 0) {cap : Nat} (hcap : n.toNatClampNeg ≤ cap) (hb : cap * 8 ≤ 536870912) (hc : kc + 1 ≤ R.cells) (hl : ks + cap ≤ R.slots) :
    ∃ h' cA, OwnW (p := p) (l := l) (e := e) (R := R) (s := s) (m := m) (args := args) (below := below) (meth := meth) (c := c) s0 n0 (pc + 2) L (.ref h.size :: rest) h' (kc + 1) (ks + cap) ∧ Ext h h' ∧ Arr Z h' h.size (newA cA (newarray.typeOf aty) n) (newarray.typeOf aty) := by
  obtain ⟨T, ls, X, eT, N, st⟩ := r
  obtain ⟨T', h', cA, X', e', E, A, st'⟩ := Jvm.RoadKit.newP X hx hZ w eT (g := mkF m pc L S) rfl hd hs hn hcap hb hc hl
  exact ⟨h', cA, ⟨T', ls, X', e', N, st.trans (st' _ (Steps.refl _))⟩, E, A⟩
theorem OwnW.getF (r : OwnW (p := p) (l := l) (e := e) (R := R) (s := s) (m := m) (args := args) (below := below) (meth := meth) (c := c) s0 n0 pc L S h kc ks)
    (hx : p.tables.exec = Jvm.exec) (hZ : Z.Warmed39 s.vm) {own O n d : String} {index : Nat} (hown : s.vm.findClass own = some m.cls) (w : (Jvm.Cond.fieldLink own index O n d).before a0 Z = true) {a : Addr} {v : Value} (F : Fld Z h a O n d v)
    {rest : List Value} (hs : S = .ref a :: rest) (hd : decode c.code pc = .ok (.getfield index, 3)) :
    OwnW (p := p) (l := l) (e := e) (R := R) (s := s) (m := m) (args := args) (below := below) (meth := meth) (c := c) s0 n0 (pc + 3) L (v :: rest) h kc ks :=
  r.goT fun T ls X eT => Jvm.RoadKit.getF X hx hZ hown (host := "") (Or.inl w) Via.refl eT F (g := mkF m pc L S) rfl hs hd
theorem OwnW.getS (r : OwnW (p := p) (l := l) (e := e) (R := R) (s := s) (m := m) (args := args) (below := below) (meth := meth) (c := c) s0 n0 pc L S h kc ks)
    (hx : p.tables.exec = Jvm.exec) (hZ : Z.Warmed39 s.vm) {own O n d : String} {index : Nat} (hown : s.vm.findClass own = some m.cls) (w : (Jvm.Cond.fieldLink own index O n d).before a0 Z = true) {v : Value} (F : Sta Z h O n d v)
    (hd : decode c.code pc = .ok (.getstatic index, 3)) :
    OwnW (p := p) (l := l) (e := e) (R := R) (s := s) (m := m) (args := args) (below := below) (meth := meth) (c := c) s0 n0 (pc + 3) L (v :: S) h kc ks :=
  r.goT fun T ls X eT => Jvm.RoadKit.getS X hx hZ (host := "") hown w Via.refl eT F (g := mkF m pc L S) rfl hd
theorem OwnW.putF (r : OwnW (p := p) (l := l) (e := e) (R := R) (s := s) (m := m) (args := args) (below := below) (meth := meth) (c := c) s0 n0 pc L S h kc ks)
    (hx : p.tables.exec = Jvm.exec) (hZ : Z.Warmed39 s.vm) {own O n d C : String} {index kk : Nat} {ty : FieldType} (hown : s.vm.findClass own = some m.cls) (w : (Jvm.Cond.fieldLink own index O n d).before a0 Z = true) {a : Addr} {v old : Value} (F : Fld Z h a O n d old) (E : Exa Z h a C)
    (Lw : (Jvm.Cond.lays C O n d).before a0 Z = true ∨ ((Jvm.Cond.laysFinal C O n d).before a0 Z = true ∧ own = O ∧ meth.name = "<init>")) (wi : (Jvm.Cond.instantiable C kk).before a0 Z = true)
    (hty : parseFieldDescriptor d = some ty) (hn : narrow ty v = v) (hf : fits ty v = true) {rest : List Value} (hs : S = v :: .ref a :: rest) (hd : decode c.code pc = .ok (.putfield index, 3)) (g : n0 ≤ a) :
    ∃ h', OwnW (p := p) (l := l) (e := e) (R := R) (s := s) (m := m) (args := args) (below := below) (meth := meth) (c := c) s0 n0 (pc + 3) L rest h' kc ks ∧ Wr h h' a (Jvm.RoadKit.slotOf Z O n d) v := by
  obtain ⟨T, ls, X, eT, N, st⟩ := r
  obtain ⟨T', h', X', e', W', st'⟩ := Jvm.RoadKit.putF X hx hZ hown (host := "") (Or.inl w) Via.refl eT F E Lw wi hty hn hf (g := mkF m pc L S) rfl hs hd
  exact ⟨h', ⟨T', _, X', e', Fr.snoc X' N g, st.trans (st' _ (Steps.refl _))⟩, W'⟩
theorem OwnW.callS (r : OwnW (p := p) (l := l) (e := e) (R := R) (s := s) (m := m) (args := args) (below := below) (meth := meth) (c := c) s0 n0 pc L S h kc ks)
    (hx : p.tables.exec = Jvm.exec) (hZ : Z.Warmed39 s.vm) {own : String} {index : Nat} {y : MethodName} {bytes : ByteArray} {maxL : Nat} {ret : Option FieldType} {rm : Room} {Q : Option Value → Heap → Prop} (hown : s.vm.findClass own = some m.cls)
    (w1 : (Jvm.Cond.methodLink own index y).before a0 Z = true) (w2 : (Jvm.Cond.static y).before a0 Z = true) (w3 : (Jvm.Cond.initialized y.cls).before a0 Z = true) (w4 : (Jvm.Cond.code y bytes maxL ret).before a0 Z = true)
    (hy : y.cls ≠ "java/lang/invoke/MethodHandle" ∧ y.cls ≠ "java/lang/invoke/VarHandle") {argsL : List Value} (K : OwnCon l Z y bytes maxL ret rm argsL.toArray h n0 Q) (rest : List Value) (W : Nat)
    (hf : rm.frames + 1 ≤ R.frames) (hl : W + (maxL + 11) + rm.locals ≤ R.locals) (hsize : L.size = c.maxLocals) (hlen : ∀ sig, parseMethodDescriptor y.desc = some sig → argsL.length = sig.parameters.length)
    (hs : S = argsL.reverse ++ rest) (hW : (rest.map fun v => v.category).sum ≤ W) (hd : decode c.code pc = .ok (.invokestatic index, 3)) (hc : kc + rm.cells ≤ R.cells) (hsl : ks + rm.slots ≤ R.slots) :
    ∃ v h', OwnW (p := p) (l := l) (e := e) (R := R) (s := s) (m := m) (args := args) (below := below) (meth := meth) (c := c) s0 n0 (pc + 3) L (v.toList ++ rest) h' (kc + rm.cells) (ks + rm.slots) ∧ Q v h' := by
  obtain ⟨T, ls, X, eT, N, st⟩ := r
  obtain ⟨v, vm₁, ⟨T', L', k', n'⟩, -, X', ⟨Lc, hQ, l', y', z'⟩, st'⟩ := Jvm.LawKit.callS X hx (y := y) hown (mvT hZ w1) (mvT hZ w2) (mvT hZ w3) (mvT hZ w4) hy (backOf (W := W) (Q := fun v h L => Fr n0 L ∧ Q v h) (K []) hZ w4 w3 hf hl) (g := mkF m pc L S) rfl hsize (argsL := argsL) (rest := rest) hlen hs (by show 2 * 0 + _ ≤ _; omega) hd (fun _ _ => ⟨rfl, eT, hc, hsl⟩)
  dsimp only [Pt.U, Pt.locs, Pt.cells, Pt.slots] at X' l' y' z' st' hQ
  subst l' y' z'
  exact ⟨v, _, ⟨T', _, X', rfl, N.app hQ.1, st.trans (st' _ (Steps.refl _))⟩, hQ.2⟩
theorem OwnW.callN (r : OwnW (p := p) (l := l) (e := e) (R := R) (s := s) (m := m) (args := args) (below := below) (meth := meth) (c := c) s0 n0 pc L S h kc ks)
    (hx : p.tables.exec = Jvm.exec) (hZ : Z.Warmed39 s.vm) {own : String} {index : Nat} {y : MethodName} {bytes : ByteArray} {maxL : Nat} {rm : Room} {Q : Option Value → Heap → Prop} (hy1 : y.name = "<init>") (hown : s.vm.findClass own = some m.cls)
    (w1 : (Jvm.Cond.methodLink own index y).before a0 Z = true) (w2 : (Jvm.Cond.instanceMethod y).before a0 Z = true) (w3 : (Jvm.Cond.initialized y.cls).before a0 Z = true) (w4 : (Jvm.Cond.code y bytes maxL none).before a0 Z = true)
    (hy : y.cls ≠ "java/lang/invoke/MethodHandle" ∧ y.cls ≠ "java/lang/invoke/VarHandle") {a : Addr} {argsL : List Value} (K : OwnCon l Z y bytes maxL none rm (.ref a :: argsL).toArray h n0 Q) (rest : List Value) (W : Nat)
    (hf : rm.frames + 1 ≤ R.frames) (hl : W + (maxL + 11) + rm.locals ≤ R.locals) (hsize : L.size = c.maxLocals) (hlen : ∀ sig, parseMethodDescriptor y.desc = some sig → argsL.length = sig.parameters.length)
    (hs : S = argsL.reverse ++ .ref a :: rest) (hW : (rest.map fun v => v.category).sum ≤ W) (hd : decode c.code pc = .ok (.invokespecial index, 3)) (hc : kc + rm.cells ≤ R.cells) (hsl : ks + rm.slots ≤ R.slots) :
    ∃ v h', OwnW (p := p) (l := l) (e := e) (R := R) (s := s) (m := m) (args := args) (below := below) (meth := meth) (c := c) s0 n0 (pc + 3) L (v.toList ++ rest) h' (kc + rm.cells) (ks + rm.slots) ∧ Q v h' := by
  obtain ⟨T, ls, X, eT, N, st⟩ := r
  obtain ⟨v, vm₁, ⟨T', L', k', n'⟩, -, X', ⟨Lc, hQ, l', y', z'⟩, st'⟩ := X.specialBack hx (y := y) hy1 hown (mvT hZ w1) (mvT hZ w2) (mvT hZ w4) hy (backOf (W := W) (Q := fun v h L => Fr n0 L ∧ Q v h) (K []) hZ w4 w3 hf hl) (g := mkF m pc L S) rfl hsize st (a := a) (argsL := argsL) (rest := rest) hlen hs (by show 2 * 0 + _ ≤ _; omega) hd (fun _ _ => ⟨rfl, eT, hc, hsl⟩)
  dsimp only [Pt.U, Pt.locs, Pt.cells, Pt.slots] at X' l' y' z' st' hQ
  subst l' y' z'
  exact ⟨v, _, ⟨T', _, X', rfl, N.app hQ.1, st'⟩, hQ.2⟩
theorem OwnW.callV (r : OwnW (p := p) (l := l) (e := e) (R := R) (s := s) (m := m) (args := args) (below := below) (meth := meth) (c := c) s0 n0 pc L S h kc ks)
    (hx : p.tables.exec = Jvm.exec) (hZ : Z.Warmed39 s.vm) {own C : String} {index : Nat} {y z : MethodName} {bytes : ByteArray} {maxL : Nat} {ret : Option FieldType} {rm : Room} {Q : Option Value → Heap → Prop} (hown : s.vm.findClass own = some m.cls)
    (w1 : (Jvm.Cond.methodLink own index y).before a0 Z = true) (w2 : (Jvm.Cond.declares y).before a0 Z = true) (w3 : (Jvm.Cond.selects C y z).before a0 Z = true) (w3' : NotFace s y) (w5 : (Jvm.Cond.instanceMethod z).before a0 Z = true) (w6 : (Jvm.Cond.initialized z.cls).before a0 Z = true) (w4 : (Jvm.Cond.code z bytes maxL ret).before a0 Z = true)
    (hy : y.cls ≠ "java/lang/invoke/MethodHandle" ∧ y.cls ≠ "java/lang/invoke/VarHandle") {a : Addr} {argsL : List Value} (E : Exa Z h a C) (K : OwnCon l Z z bytes maxL ret rm (.ref a :: argsL).toArray h n0 Q) (rest : List Value) (W : Nat)
    (hf : rm.frames + 1 ≤ R.frames) (hl : W + (maxL + 11) + rm.locals ≤ R.locals) (hsize : L.size = c.maxLocals) (hlen : ∀ sig, parseMethodDescriptor y.desc = some sig → argsL.length = sig.parameters.length)
    (hs : S = argsL.reverse ++ .ref a :: rest) (hW : (rest.map fun v => v.category).sum ≤ W) (hd : decode c.code pc = .ok (.invokevirtual index, 3)) (hc : kc + rm.cells ≤ R.cells) (hsl : ks + rm.slots ≤ R.slots) :
    ∃ v h', OwnW (p := p) (l := l) (e := e) (R := R) (s := s) (m := m) (args := args) (below := below) (meth := meth) (c := c) s0 n0 (pc + 3) L (v.toList ++ rest) h' (kc + rm.cells) (ks + rm.slots) ∧ Q v h' := by
  obtain ⟨T, ls, X, eT, N, st⟩ := r
  obtain ⟨cq, kq, qa, qb, qc⟩ := isOf hZ eT E
  obtain ⟨v, vm₁, ⟨T', L', k', n'⟩, -, X', ⟨Lc, hQ, l', y', z'⟩, st'⟩ := X.virtualBack hx (y := y) (z := z) hown (mvT hZ w1) (mvT hZ w2) w3' (mvT hZ w3) (mvT hZ w5) hy (backOf (W := W) (Q := fun v h L => Fr n0 L ∧ Q v h) (K []) hZ w4 w6 hf hl) qa qc (g := mkF m pc L S) rfl hsize st (argsL := argsL) (rest := rest) hlen hs (by show 2 * 0 + _ ≤ _; omega) hd (fun _ _ => ⟨rfl, eT, hc, hsl⟩)
  dsimp only [Pt.U, Pt.locs, Pt.cells, Pt.slots] at X' l' y' z' st' hQ
  subst l' y' z'
  exact ⟨v, _, ⟨T', _, X', rfl, N.app hQ.1, st'⟩, hQ.2⟩
theorem OwnW.retN (r : OwnW (p := p) (l := l) (e := e) (R := R) (s := s) (m := m) (args := args) (below := below) (meth := meth) (c := c) s0 n0 pc L S h kc ks)
    (hx : p.tables.exec = Jvm.exec) {t : FieldType} (hret : meth.sig.returnType = some t) (ht : t = .boolean ∨ t = .byte ∨ t = .char ∨ t = .short) {z : Int32} {rest : List Value} (hs : S = .int z :: rest) (hd : decode c.code pc = .ok (.ireturn, 1)) :
    OwnEnd (p := p) (l := l) (e := e) (R := R) (s := s) (m := m) (args := args) (below := below) (meth := meth) (c := c) s0 n0 (some (.int (nar t z))) h kc ks := by
  subst hs
  obtain ⟨T, ls, X, eT, N, st⟩ := r
  exact ⟨T, ls, X, eT, N, (fun q => by rw [hret] at q; cases q), fun fs hl => st.trans (Jvm.RoadKit.retN X hx hret ht hd hl)⟩
theorem OwnW.retW (r : OwnW (p := p) (l := l) (e := e) (R := R) (s := s) (m := m) (args := args) (below := below) (meth := meth) (c := c) s0 n0 pc L S h kc ks)
    (hx : p.tables.exec = Jvm.exec) {t : FieldType} {w : Value} {i : Instr} (hret : meth.sig.returnType = some t) (hn : narrow t w = w) {rest : List Value} (hs : S = w :: rest)
    (hi : (i = .ireturn ∧ (t = .int ∨ t = .boolean ∨ t = .byte ∨ t = .char ∨ t = .short) ∧ ∃ z, w = .int z) ∨ (i = .lreturn ∧ t = .long ∧ ∃ z, w = .long z) ∨ (i = .dreturn ∧ t = .double ∧ ∃ z, w = .double z) ∨ (i = .freturn ∧ t = .float ∧ ∃ z, w = .float z) ∨ (i = .areturn ∧ t.isReference = true ∧ w.isRef = true))
    (hd : decode c.code pc = .ok (i, 1)) :
    OwnEnd (p := p) (l := l) (e := e) (R := R) (s := s) (m := m) (args := args) (below := below) (meth := meth) (c := c) s0 n0 (some w) h kc ks := by
  subst hs
  obtain ⟨T, ls, X, eT, N, st⟩ := r
  exact ⟨T, ls, X, eT, N, (fun q => by rw [hret] at q; cases q), fun fs hl => st.trans (Jvm.RoadKit.retOut X hx hret hn hi hd hl)⟩
theorem OwnW.retV (r : OwnW (p := p) (l := l) (e := e) (R := R) (s := s) (m := m) (args := args) (below := below) (meth := meth) (c := c) s0 n0 pc L [] h kc ks)
    (hx : p.tables.exec = Jvm.exec) (hret : meth.sig.returnType = none) (hd : decode c.code pc = .ok (.return_, 1)) :
    OwnEnd (p := p) (l := l) (e := e) (R := R) (s := s) (m := m) (args := args) (below := below) (meth := meth) (c := c) s0 n0 none h kc ks := by
  obtain ⟨T, ls, X, eT, N, st⟩ := r
  exact ⟨T, ls, X, eT, N, fun _ => rfl, fun fs hl => st.trans (X.returnOut hx hret hd hl)⟩
theorem OwnCon.of {y : MethodName} {bytes : ByteArray} {maxL : Nat} {ret : Option FieldType} {rm : Room} {A : Array Value} {h0 : Heap} {Q : Option Value → Heap → Prop} {L0 : Array Slot} (pn : plainName y.cls = true) (ef : ∀ m : MethodId, entryFrame m A maxL = mkF m 0 L0 [])
    (H : ∀ (p : Program) (e : Env) (s : State) (m : MethodId) (below : List Frame) (meth : Method) (c : Code) (s0 : State), p.tables.exec = Jvm.exec → c.code = bytes → c.maxLocals = maxL → s.vm.findClass y.cls = some m.cls → meth.name = y.name → meth.sig.returnType = ret → Z.Warmed39 s.vm →
      OwnW (p := p) (l := l) (e := e) (R := rm) (s := s) (m := m) (args := A) (below := below) (meth := meth) (c := c) s0 n0 0 L0 [] h0 0 0 →
      ∃ v h' k n, Q v h' ∧ k ≤ rm.cells ∧ n ≤ rm.slots ∧ OwnEnd (p := p) (l := l) (e := e) (R := rm) (s := s) (m := m) (args := A) (below := below) (meth := meth) (c := c) s0 n0 v h' k n) :
    OwnCon l Z y bytes maxL ret rm A h0 n0 Q := by
  intro ws
  refine MetFree.of_bodySF (plainFor_of_name pn) hisR ?_
  intro p e s m args below meth c s₁ Bd hml hP hK
  obtain ⟨rfl, hZ, hh⟩ := hP
  have X0 : Stand p l e rm s m args below meth c s₁ [] 0 0 := Stand.of_body Bd
  have e0 : s₁.heap = h0 := by rw [← hh, Bd.state]; rfl
  obtain ⟨v, h', k, n, hQ, hk, hn, T, ls, X, eT, N, hv, st⟩ := H p e s m below meth c (s₁.setTop (entryFrame m args maxL)) Bd.exec Bd.bytes hml (findClass_of_methodNamed Bd.named) (name_of_methodNamed Bd.named Bd.method).1 Bd.returns hZ
    ⟨s₁, [], X0, e0, Fr.nil n0, by rw [ef m]; exact Steps.refl _⟩
  obtain ⟨fs, hr, hrun, hended, hW, hsame⟩ := X.leave (v := v) hv
  exact ⟨_, _, st fs hr, hrun, hended, v, ls, rfl, ⟨N, by show Q v T.heap; rw [eT]; exact hQ⟩, ⟨_, rfl⟩, hW, hsame.mono hk hn⟩
end OwnKit
/-! arrays of a known list of values -/
section OwnArr
variable {p : Program} {l : Launch} {e : Env} {R : Room} {s : State} {m : MethodId} {args : Array Value} {below : List Frame} {meth : Method} {c : Code} {s0 : State} {n0 pc pc' : Nat} {L L' : Array Slot} {S S' : List Value} {h h' h0 : Heap} {kc ks : Nat} {Z : State} {a0 : Array Value} {a b : Addr} {ty : FieldType} {vs : List Value}
def OwnAr (Z : State) (h : Heap) (a : Addr) (ty : FieldType) (vs : List Value) : Prop := ∃ cl : Cell, Arr Z h a cl ty ∧ cl.slots.toList = vs
theorem OwnAr.ext (E : Ext h h') (F : OwnAr Z h a ty vs) : OwnAr Z h' a ty vs := by obtain ⟨cl, A, q⟩ := F; exact ⟨cl, A.ext E, q⟩
theorem OwnAr.other {sl : Nat} {v : Value} (W : Wr h h' b sl v) (F : OwnAr Z h a ty vs) (ne : a ≠ b) : OwnAr Z h' a ty vs := by obtain ⟨cl, A, q⟩ := F; exact ⟨cl, A.other W ne, q⟩
theorem OwnAr.lt (F : OwnAr Z h a ty vs) : a < h.size := by obtain ⟨cl, A, q⟩ := F; exact A.lt
theorem OwnAr.wr {k : Nat} {v : Value} (W : Wr h h' a k v) (F : OwnAr Z h a ty vs) : OwnAr Z h' a ty (vs.set k v) := by
  obtain ⟨cl, A, q⟩ := F
  exact ⟨_, A.same W, by simp [Cell.setSlot, q]⟩
theorem OwnAr.new {cA : ClassId} {n : Int32} (A : Arr Z h a (newA cA ty n) ty) : OwnAr Z h a ty (List.replicate n.toNatClampNeg (defaultValue ty)) := ⟨_, A, by simp [newA]⟩
theorem OwnAr.inb (F : OwnAr Z h a ty vs) {j : Int32} (hj : ¬ j < 0) (hl : j.toNatClampNeg < vs.length) {cl : Cell} (hc : h[a]? = some cl) : ¬ (j < 0 ∨ cl.slots.size ≤ j.toNatClampNeg) := by
  obtain ⟨cl', A, q⟩ := F
  cases A.1.symm.trans hc
  have : cl.slots.size = vs.length := by rw [← q, Array.length_toList]
  rintro (u | u)
  · exact hj u
  · omega
theorem own_ext_refl (h : Heap) : Ext h h := ⟨Nat.le_refl _, fun _ _ q => q⟩
theorem own_ext_trans {h1 h2 h3 : Heap} (E : Ext h1 h2) (E' : Ext h2 h3) : Ext h1 h3 := ⟨Nat.le_trans E.1 E'.1, fun x cl q => E'.2 x cl (E.2 x cl q)⟩
theorem own_ext_wr {sl : Nat} {v : Value} (E : Ext h0 h) (W : Wr h h' a sl v) (q : h0.size ≤ a) : Ext h0 h' :=
  ⟨by rw [W.size]; exact E.1, fun x cl hx => (Keep.of_wr W).2.1 x cl (E.2 x cl hx) (by
    intro z
    cases List.mem_singleton.mp z
    exact absurd (Array.getElem?_eq_some_iff.mp hx).1 (Nat.not_lt.mpr q))⟩
theorem own_fld_inj {C n d : String} {v w : Value} (F : Fld Z h a C n d v) (G : Fld Z h a C n d w) : v = w := by
  obtain ⟨c1, f1, k1, i1, g1, h1, h2, -, -, -, -, h7⟩ := F
  obtain ⟨c2, f2, k2, i2, g2, j1, j2, -, -, -, -, j7⟩ := G
  cases h1.symm.trans j1
  cases h2.symm.trans j2
  exact Option.some.inj (h7.symm.trans j7)
theorem own_ne {C n d : String} {v w : Value} (F : Fld Z h a C n d v) (G : Fld Z h b C n d w) (hn : v ≠ w) : a ≠ b := fun q => by subst q; exact hn (own_fld_inj F G)
theorem own_rne (q : a ≠ b) : decide ((Value.ref a) = (Value.ref b)) = false := decide_eq_false fun u => q (Value.ref.inj u)
theorem OwnW.aaload (r : OwnW (p := p) (l := l) (e := e) (R := R) (s := s) (m := m) (args := args) (below := below) (meth := meth) (c := c) s0 n0 pc L S h kc ks)
    (hx : p.tables.exec = Jvm.exec) (hZ : Z.Warmed39 s.vm) (F : OwnAr Z h a ty vs) (hty : ty.isReference = true) {j : Int32} {v : Value} (hj : ¬ j < 0) (hv : vs[j.toNatClampNeg]? = some v) {rest : List Value} (hs : S = .int j :: .ref a :: rest) (hd : decode c.code pc = .ok (.aaload, 1)) :
    OwnW (p := p) (l := l) (e := e) (R := R) (s := s) (m := m) (args := args) (below := below) (meth := meth) (c := c) s0 n0 (pc + 1) L (v :: rest) h kc ks := by
  obtain ⟨cl, A, q⟩ := F
  have hl : j.toNatClampNeg < vs.length := (List.getElem?_eq_some_iff.mp hv).1
  exact r.goX fun T t ls X eT k => X.aaload hx (j := j) (v := v) (by rw [eT]; exact A.1) (State.isArrayOf_alike hZ.alike A.2.1) hty A.2.2 (OwnAr.inb ⟨cl, A, q⟩ hj hl A.1) (by rw [← Array.getElem?_toList, q]; exact hv) (g := mkF m pc L S) rfl hs hd t k
theorem OwnW.baloadZ (r : OwnW (p := p) (l := l) (e := e) (R := R) (s := s) (m := m) (args := args) (below := below) (meth := meth) (c := c) s0 n0 pc L S h kc ks)
    (hx : p.tables.exec = Jvm.exec) (hZ : Z.Warmed39 s.vm) (F : OwnAr Z h a .boolean vs) {j : Int32} {v : Value} (hj : ¬ j < 0) (hv : vs[j.toNatClampNeg]? = some v) {rest : List Value} (hs : S = .int j :: .ref a :: rest) (hd : decode c.code pc = .ok (.baload, 1)) :
    OwnW (p := p) (l := l) (e := e) (R := R) (s := s) (m := m) (args := args) (below := below) (meth := meth) (c := c) s0 n0 (pc + 1) L (v :: rest) h kc ks := by
  obtain ⟨cl, A, q⟩ := F
  have hl : j.toNatClampNeg < vs.length := (List.getElem?_eq_some_iff.mp hv).1
  exact r.goX fun T t ls X eT k => X.baloadBooleans hx (j := j) (v := v) (by rw [eT]; exact A.1) (State.isArrayOf_alike hZ.alike A.2.1) A.2.2 (OwnAr.inb ⟨cl, A, q⟩ hj hl A.1) (by rw [← Array.getElem?_toList, q]; exact hv) (g := mkF m pc L S) rfl hs hd t k
theorem OwnW.alen (r : OwnW (p := p) (l := l) (e := e) (R := R) (s := s) (m := m) (args := args) (below := below) (meth := meth) (c := c) s0 n0 pc L S h kc ks)
    (hx : p.tables.exec = Jvm.exec) (hZ : Z.Warmed39 s.vm) (F : OwnAr Z h a ty vs) {n : Int32} (hn : vs.length.toInt32 = n) {rest : List Value} (hs : S = .ref a :: rest) (hd : decode c.code pc = .ok (.arraylength, 1)) :
    OwnW (p := p) (l := l) (e := e) (R := R) (s := s) (m := m) (args := args) (below := below) (meth := meth) (c := c) s0 n0 (pc + 1) L (.int n :: rest) h kc ks := by
  obtain ⟨cl, A, q⟩ := F
  have e1 : cl.slots.size.toInt32 = n := by rw [← hn, ← q, Array.length_toList]
  exact r.goX fun T t ls X eT k => X.arraylength hx (by rw [eT]; exact A.1) (State.isArrayOf_alike hZ.alike A.2.1) (g := mkF m pc L S) rfl hs hd t (by rw [e1]; exact k)
theorem OwnW.newR (r : OwnW (p := p) (l := l) (e := e) (R := R) (s := s) (m := m) (args := args) (below := below) (meth := meth) (c := c) s0 n0 pc L S h kc ks)
    (hx : p.tables.exec = Jvm.exec) (hZ : Z.Warmed39 s.vm) {own C : String} {index : Nat} (hown : s.vm.findClass own = some m.cls) (w1 : (Jvm.Cond.classLink own index C).before a0 Z = true) (w2 : (Jvm.Cond.arrayOver (.object C)).before a0 Z = true) (hd : decode c.code pc = .ok (.anewarray index, 3)) {n : Int32} {rest : List Value} (hs : S = .int n :: rest)
    (hn : ¬ n < 0) {cap : Nat} (hcap : n.toNatClampNeg ≤ cap) (hb : cap * 8 ≤ 536870912) (hc : kc + 1 ≤ R.cells) (hl : ks + cap ≤ R.slots) :
    ∃ h' cA, OwnW (p := p) (l := l) (e := e) (R := R) (s := s) (m := m) (args := args) (below := below) (meth := meth) (c := c) s0 n0 (pc + 3) L (.ref h.size :: rest) h' (kc + 1) (ks + cap) ∧ Ext h h' ∧ Arr Z h' h.size (newA cA (.object C) n) (.object C) ∧ Ovr Z cA C := by
  obtain ⟨T, ls, X, eT, N, st⟩ := r
  obtain ⟨T', h', cA, X', e', E, A, O, st'⟩ := Jvm.RoadKit.newR X hx hZ hown w1 w2 eT (g := mkF m pc L S) rfl hd hs hn hcap hb hc hl
  exact ⟨h', cA, ⟨T', ls, X', e', N, st.trans (st' _ (Steps.refl _))⟩, E, A, O⟩
/-- an array of C's own kind of cells takes an object of C -/
theorem own_sto {C : String} {cA : ClassId} (F : ∃ cl : Cell, Arr Z h a cl ty ∧ cl.slots.toList = vs ∧ cl.cls = cA) (O : Ovr Z cA C) (I : Exa Z h b C) : Sto Z h a (.ref b) := by
  obtain ⟨cl, A, -, q⟩ := F
  exact Sto.ofV A q O (Ins.self I)
def OwnArK (Z : State) (h : Heap) (a : Addr) (ty : FieldType) (vs : List Value) (cA : ClassId) : Prop := ∃ cl : Cell, Arr Z h a cl ty ∧ cl.slots.toList = vs ∧ cl.cls = cA
theorem OwnArK.plain {cA : ClassId} (F : OwnArK Z h a ty vs cA) : OwnAr Z h a ty vs := by obtain ⟨cl, A, q, -⟩ := F; exact ⟨cl, A, q⟩
theorem OwnArK.wr {cA : ClassId} {k : Nat} {v : Value} (W : Wr h h' a k v) (F : OwnArK Z h a ty vs cA) : OwnArK Z h' a ty (vs.set k v) cA := by
  obtain ⟨cl, A, q, u⟩ := F
  exact ⟨_, A.same W, by simp [Cell.setSlot, q], u⟩
theorem OwnW.stR (r : OwnW (p := p) (l := l) (e := e) (R := R) (s := s) (m := m) (args := args) (below := below) (meth := meth) (c := c) s0 n0 pc L S h kc ks)
    (hx : p.tables.exec = Jvm.exec) (hZ : Z.Warmed39 s.vm) {C : String} {cA : ClassId} (F : OwnArK Z h a ty vs cA) (O : Ovr Z cA C) (hty : ty.isReference = true) (I : Exa Z h b C) {j : Int32} (hj : ¬ j < 0) (hl : j.toNatClampNeg < vs.length) (g : n0 ≤ a) {rest : List Value} (hs : S = .ref b :: .int j :: .ref a :: rest) (hd : decode c.code pc = .ok (.aastore, 1)) :
    ∃ h', OwnW (p := p) (l := l) (e := e) (R := R) (s := s) (m := m) (args := args) (below := below) (meth := meth) (c := c) s0 n0 (pc + 1) L rest h' kc ks ∧ Wr h h' a j.toNatClampNeg (.ref b) := by
  obtain ⟨T, ls, X, eT, N, st⟩ := r
  have Fs := own_sto F O I
  obtain ⟨cl, A, q, u⟩ := F
  obtain ⟨T', h', X', e', W', st'⟩ := Jvm.RoadKit.stR X hx hZ eT A (j := j) (OwnAr.inb ⟨cl, A, q⟩ hj hl A.1) hty Fs (g := mkF m pc L S) rfl hs hd
  exact ⟨h', ⟨T', _, X', e', Fr.snoc X' N g, st.trans (st' _ (Steps.refl _))⟩, W'⟩
theorem OwnW.stZ (r : OwnW (p := p) (l := l) (e := e) (R := R) (s := s) (m := m) (args := args) (below := below) (meth := meth) (c := c) s0 n0 pc L S h kc ks)
    (hx : p.tables.exec = Jvm.exec) (hZ : Z.Warmed39 s.vm) (F : OwnAr Z h a .boolean vs) {j x : Int32} (hj : ¬ j < 0) (hl : j.toNatClampNeg < vs.length) (g : n0 ≤ a) {rest : List Value} (hs : S = .int x :: .int j :: .ref a :: rest) (hd : decode c.code pc = .ok (.bastore, 1)) :
    ∃ h', OwnW (p := p) (l := l) (e := e) (R := R) (s := s) (m := m) (args := args) (below := below) (meth := meth) (c := c) s0 n0 (pc + 1) L rest h' kc ks ∧ Wr h h' a j.toNatClampNeg (.int (nar .boolean x)) := by
  obtain ⟨T, ls, X, eT, N, st⟩ := r
  obtain ⟨cl, A, q⟩ := F
  obtain ⟨T', h', X', e', W', st'⟩ := Jvm.RoadKit.stZ X hx hZ eT A (j := j) (x := x) (OwnAr.inb ⟨cl, A, q⟩ hj hl A.1) (g := mkF m pc L S) rfl hs hd
  exact ⟨h', ⟨T', _, X', e', Fr.snoc X' N g, st.trans (st' _ (Steps.refl _))⟩, W'⟩
theorem OwnW.stB (r : OwnW (p := p) (l := l) (e := e) (R := R) (s := s) (m := m) (args := args) (below := below) (meth := meth) (c := c) s0 n0 pc L S h kc ks)
    (hx : p.tables.exec = Jvm.exec) (hZ : Z.Warmed39 s.vm) (F : OwnAr Z h a .byte vs) {j x : Int32} (hj : ¬ j < 0) (hl : j.toNatClampNeg < vs.length) (g : n0 ≤ a) {rest : List Value} (hs : S = .int x :: .int j :: .ref a :: rest) (hd : decode c.code pc = .ok (.bastore, 1)) :
    ∃ h', OwnW (p := p) (l := l) (e := e) (R := R) (s := s) (m := m) (args := args) (below := below) (meth := meth) (c := c) s0 n0 (pc + 1) L rest h' kc ks ∧ Wr h h' a j.toNatClampNeg (.int (nar .byte x)) := by
  obtain ⟨T, ls, X, eT, N, st⟩ := r
  obtain ⟨cl, A, q⟩ := F
  obtain ⟨T', h', X', e', W', st'⟩ := Jvm.RoadKit.stB X hx hZ eT A (j := j) (x := x) (OwnAr.inb ⟨cl, A, q⟩ hj hl A.1) (g := mkF m pc L S) rfl hs hd
  exact ⟨h', ⟨T', _, X', e', Fr.snoc X' N g, st.trans (st' _ (Steps.refl _))⟩, W'⟩
theorem OwnW.cast (r : OwnW (p := p) (l := l) (e := e) (R := R) (s := s) (m := m) (args := args) (below := below) (meth := meth) (c := c) s0 n0 pc L S h kc ks)
    (hx : p.tables.exec = Jvm.exec) (hZ : Z.Warmed39 s.vm) {own K : String} {index : Nat} (hown : s.vm.findClass own = some m.cls) (w : (Jvm.Cond.classLink own index K).before a0 Z = true) (F : Ins Z h a K true) {rest : List Value} (hs : S = .ref a :: rest) (hd : decode c.code pc = .ok (.checkcast index, 3)) :
    OwnW (p := p) (l := l) (e := e) (R := R) (s := s) (m := m) (args := args) (below := below) (meth := meth) (c := c) s0 n0 (pc + 3) L S h kc ks :=
  r.goT fun T ls X eT => Jvm.RoadKit.castY X hx hZ hown w eT F (g := mkF m pc L S) rfl hs hd
theorem OwnW.castN (r : OwnW (p := p) (l := l) (e := e) (R := R) (s := s) (m := m) (args := args) (below := below) (meth := meth) (c := c) s0 n0 pc L S h kc ks)
    (hx : p.tables.exec = Jvm.exec) {index : Nat} {rest : List Value} (hs : S = .null :: rest) (hd : decode c.code pc = .ok (.checkcast index, 3)) :
    OwnW (p := p) (l := l) (e := e) (R := R) (s := s) (m := m) (args := args) (below := below) (meth := meth) (c := c) s0 n0 (pc + 3) L S h kc ks :=
  r.goX fun T t ls X eT k => X.checkcastNull hx (g := mkF m pc L S) rfl hs hd t k
theorem OwnW.inst (r : OwnW (p := p) (l := l) (e := e) (R := R) (s := s) (m := m) (args := args) (below := below) (meth := meth) (c := c) s0 n0 pc L S h kc ks)
    (hx : p.tables.exec = Jvm.exec) (hZ : Z.Warmed39 s.vm) {own K : String} {index : Nat} (hown : s.vm.findClass own = some m.cls) (w : (Jvm.Cond.classLink own index K).before a0 Z = true) (F : Ins Z h a K true) {rest : List Value} (hs : S = .ref a :: rest) (hd : decode c.code pc = .ok (.instanceof index, 3)) :
    OwnW (p := p) (l := l) (e := e) (R := R) (s := s) (m := m) (args := args) (below := below) (meth := meth) (c := c) s0 n0 (pc + 3) L (.int 1 :: rest) h kc ks :=
  r.goT fun T ls X eT => Jvm.RoadKit.instY X hx hZ hown w eT F (g := mkF m pc L S) rfl hs hd
theorem OwnW.clone (r : OwnW (p := p) (l := l) (e := e) (R := R) (s := s) (m := m) (args := args) (below := below) (meth := meth) (c := c) s0 n0 pc L S h kc ks)
    (hx : p.tables.exec = Jvm.exec) (hZ : Z.Warmed39 s.vm) {own ad : String} {index : Nat} (hown : s.vm.findClass own = some m.cls)
    (w1 : (Jvm.Cond.methodLink own index ⟨ad, "clone", "()Ljava/lang/Object;"⟩).before a0 Z = true) (w2 : (Jvm.Cond.sameMethod ad "java/lang/Object" "clone" "()Ljava/lang/Object;").before a0 Z = true) (w3 : (Jvm.Cond.native ⟨"java/lang/Object", "clone", "()Ljava/lang/Object;"⟩).before a0 Z = true)
    (w4 : (Jvm.Cond.instanceMethod ⟨"java/lang/Object", "clone", "()Ljava/lang/Object;"⟩).before a0 Z = true) (w5 : (Jvm.Cond.selects ad ⟨ad, "clone", "()Ljava/lang/Object;"⟩ ⟨"java/lang/Object", "clone", "()Ljava/lang/Object;"⟩).before a0 Z = true) (w6 : (Jvm.Cond.castable ad "java/lang/Cloneable").before a0 Z = true)
    (F : OwnAr Z h a ty vs) (E : Exa Z h a ad) (hfit : ∀ v ∈ vs, fits ty v = true) (hsize : L.size = c.maxLocals) {rest : List Value} (hs : S = .ref a :: rest) (hd : decode c.code pc = .ok (.invokevirtual index, 3))
    (hf : 1 ≤ R.frames) (W cap : Nat) (hW : (rest.map fun v => v.category).sum ≤ W) (hl : W + 14 ≤ R.locals) (hcap : vs.length ≤ cap) (hc : kc + 1 ≤ R.cells) (hsl : ks + cap ≤ R.slots) :
    ∃ h', OwnW (p := p) (l := l) (e := e) (R := R) (s := s) (m := m) (args := args) (below := below) (meth := meth) (c := c) s0 n0 (pc + 3) L (.ref h.size :: rest) h' (kc + 1) (ks + cap) ∧ Ext h h' ∧ OwnAr Z h' h.size ty vs ∧ Exa Z h' h.size ad := by
  obtain ⟨T, ls, X, eT, N, st⟩ := r
  obtain ⟨cl, A, q⟩ := F
  have FC : FitC Z cl := fitC_of A fun i hi v hv => hfit v (by rw [← q]; exact Array.mem_toList_iff.mpr (Array.mem_of_getElem? hv))
  obtain ⟨T', h', X', e', ex, A', E', st'⟩ := cloneA X hx hZ hown w1 w2 w3 w4 w5 w6 eT A E FC (g := mkF m pc L S) rfl hsize hs hd hf (W := W) (cap := cap) (by show 2 * 0 + _ ≤ _; omega) hl (by rw [← Array.length_toList, q]; exact hcap) hc hsl
  exact ⟨h', ⟨T', ls, X', e', N, st.trans (st' _ (Steps.refl _))⟩, ex, ⟨_, A', q⟩, E'⟩
/-! the case's words on the start -/
theorem own_eqv {args : Array Value} {s : State} {t u : Term} {v : Value} (hv : v = .null ∨ (∃ x, v = .ref x) ∨ ∃ x, v = .int x) (hu : u.eval args s none [] s = some v) (q : (Jvm.Cond.eq t u).value args s none s [] = some true) : t.eval args s none [] s = some v := by
  cases ht : t.eval args s none [] s with
  | none => simp [Cond.value, ht] at q
  | some y => rcases hv with rfl | ⟨x, rfl⟩ | ⟨x, rfl⟩ <;> cases y <;> simp [Cond.value, ht, hu] at q ⊢ <;> exact q
theorem own_len {args : Array Value} {s : State} {t : Term} {n : Int32} {cl : Cell} (ht : t.eval args s none [] s = some (.ref a)) (hc : s.arrayAt? a = some cl) (q : (Term.length t).eval args s none [] s = some (.int n)) : cl.slots.size = n.toNatClampNeg := by
  by_cases hl : cl.slots.size < 2 ^ 31
  · rw [len_f ht hc hl] at q
    have e1 : cl.slots.size.toInt32 = n := by simpa using q
    rw [← e1]
    simp only [Int32.toNatClampNeg, len_toInt hl]
    rfl
  · simp [Term.eval, ht, hc, hl] at q
theorem own_list {cl : Cell} {vs : List Value} (hs : cl.slots.size = vs.length) (H : ∀ i, i < vs.length → cl.slots[i]? = vs[i]?) : cl.slots.toList = vs := by
  refine List.ext_getElem? fun i => ?_
  rw [Array.getElem?_toList]
  by_cases q : i < vs.length
  · exact H i q
  · rw [List.getElem?_eq_none (Nat.not_lt.mp q), Array.getElem?_eq_none (by rw [hs]; exact Nat.not_lt.mp q)]
end OwnArr
section OwnArr2
variable {h h' h0 : Heap} {Z : State} {a b : Addr} {ty : FieldType} {vs vs' : List Value}
theorem OwnArK.set {cA : ClassId} {j k : Nat} {v : Value} (F : OwnArK Z h a ty vs cA) (W : Wr h h' a j v) (hk : j = k) (hv : vs.set k v = vs') : OwnArK Z h' a ty vs' cA := by subst hk hv; exact F.wr W
theorem OwnAr.set {j k : Nat} {v : Value} (F : OwnAr Z h a ty vs) (W : Wr h h' a j v) (hk : j = k) (hv : vs.set k v = vs') : OwnAr Z h' a ty vs' := by subst hk hv; exact F.wr W
theorem OwnArK.new {cA : ClassId} {n : Int32} (A : Arr Z h a (newA cA ty n) ty) (hv : List.replicate n.toNatClampNeg (defaultValue ty) = vs) : OwnArK Z h a ty vs cA := ⟨_, A, by rw [← hv]; simp [newA], rfl⟩
theorem OwnAr.new' {cA : ClassId} {n : Int32} (A : Arr Z h a (newA cA ty n) ty) (hv : List.replicate n.toNatClampNeg (defaultValue ty) = vs) : OwnAr Z h a ty vs := ⟨_, A, by rw [← hv]; simp [newA]⟩
end OwnArr2
theorem own_ext_keep {h0 h h' : Heap} {a : Addr} (E : Ext h0 h) (K : Keep h h' [a]) (q : h0.size ≤ a) : Ext h0 h' :=
  ⟨Nat.le_trans E.1 K.1, fun x cl hx => K.2.1 x cl (E.2 x cl hx) (by
    intro z
    cases List.mem_singleton.mp z
    exact absurd (Array.getElem?_eq_some_iff.mp hx).1 (Nat.not_lt.mpr q))⟩
/-! walks that may load String constants: the same walks over s.setVm vm0 -/
section OwnStr
variable {p : Program} {l : Launch} {e : Env} {R : Room} {s : State} {m : MethodId} {args : Array Value} {below : List Frame} {meth : Method} {c : Code} {s0 : State} {n0 pc pc' : Nat} {L L' : Array Slot} {S S' : List Value} {h h' : Heap} {kc ks : Nat} {Z : State} {a0 : Array Value} {vm0 : Vm} {k0 : Nat}
def OwnConS (l : Launch) (Z : State) (y : MethodName) (bytes : ByteArray) (maxL : Nat) (ret : Option FieldType) (rm : Room) (A : Array Value) (h0 : Heap) (n0 : Nat) (Q : Option Value → Heap → Prop) : Prop :=
  ∀ ws : List Jvm.Cond, MetFree l y (head1 (Jvm.Cond.code y bytes maxL ret :: ws) rm) (fun a U => a = A ∧ Z.Warmed39 U.vm ∧ U.heap = h0) (fun _ _ _ _ _ => True) (fun _ U o U' => ∃ v L, o = .returned v ∧ (Fr n0 L ∧ Q v U'.heap) ∧ ReturnedEndW U o U' L rm.cells rm.slots)
theorem OwnConS.of {y : MethodName} {bytes : ByteArray} {maxL : Nat} {ret : Option FieldType} {rm : Room} {A : Array Value} {h0 : Heap} {Q : Option Value → Heap → Prop} {L0 : Array Slot} (pn : plainName y.cls = true) (ef : ∀ m : MethodId, entryFrame m A maxL = mkF m 0 L0 [])
    (H : ∀ (p : Program) (e : Env) (s : State) (m : MethodId) (below : List Frame) (meth : Method) (c : Code) (s0 : State) (vm0 : Vm) (k0 : Nat), p.tables.exec = Jvm.exec → c.code = bytes → c.maxLocals = maxL → (s.setVm vm0).vm.findClass y.cls = some m.cls → meth.name = y.name → meth.sig.returnType = ret → Z.Warmed39 (s.setVm vm0).vm → s.Since vm0 k0 → k0 ≤ h0.size →
      OwnW (p := p) (l := l) (e := e) (R := rm) (s := s.setVm vm0) (m := m) (args := A) (below := below) (meth := meth) (c := c) s0 n0 0 L0 [] h0 0 0 →
      ∃ v h' k n vm1 k1, Q v h' ∧ k ≤ rm.cells ∧ n ≤ rm.slots ∧ s.Since vm1 k1 ∧ k1 ≤ h'.size ∧ OwnEnd (p := p) (l := l) (e := e) (R := rm) (s := s.setVm vm1) (m := m) (args := A) (below := below) (meth := meth) (c := c) s0 n0 v h' k n) :
    OwnConS l Z y bytes maxL ret rm A h0 n0 Q := by
  intro ws
  refine MetFree.of_bodySF (plainFor_of_name pn) hisR ?_
  intro p e s m args below meth c s₁ Bd hml hP hK
  obtain ⟨rfl, hZ, hh⟩ := hP
  have X0 : Stand p l e rm s m args below meth c s₁ [] 0 0 := Stand.of_body Bd
  have e0 : s₁.heap = h0 := by rw [← hh, Bd.state]; rfl
  have es : s.setVm s.vm = s := State.setVm_self s
  have hS0 : s.Since s.vm 0 := State.WarmedH.since (State.WarmedH.refl s) 0
  obtain ⟨v, h', k, n, vm1, k1, hQ, hk, hn, hS, hk1, T, ls, X, eT, N, hv, st⟩ := H p e s m below meth c (s₁.setTop (entryFrame m args maxL)) s.vm 0 Bd.exec Bd.bytes hml (findClass_of_methodNamed Bd.named) (name_of_methodNamed Bd.named Bd.method).1 Bd.returns hZ hS0 (Nat.zero_le _)
    (by rw [es]; exact ⟨s₁, [], X0, e0, Fr.nil n0, by rw [ef m]; exact Steps.refl _⟩)
  obtain ⟨fs, hr, hrun, hended, hE⟩ := Stand.leaveW (s := s) (vm₁ := vm1) X hS (by rw [eT]; exact hk1) (v := v) hv
  exact ⟨_, _, st fs hr, hrun, hended, v, ls, rfl, ⟨N, by show Q v T.heap; rw [eT]; exact hQ⟩, hE.1, hE.2.1, hE.2.2.1, hE.2.2.2.mono hk hn⟩
theorem OwnW.ldcS (r : OwnW (p := p) (l := l) (e := e) (R := R) (s := s.setVm vm0) (m := m) (args := args) (below := below) (meth := meth) (c := c) s0 n0 pc L S h kc ks)
    (hx : p.tables.exec = Jvm.exec) (hZ : Z.Warmed39 (s.setVm vm0).vm) {own text : String} {index : Nat} (hown : (s.setVm vm0).vm.findClass own = some m.cls) (hS : s.Since vm0 k0) (hk : k0 ≤ h.size) (w : (Jvm.Cond.stringLink own index text).before a0 Z = true) (wS : ∀ a ∈ Bundle.stringAtoms, a.before a0 Z = true)
    (hd : decode c.code pc = .ok (.ldc index, 2)) {n : Nat} (hn : 4 * text.toList.length ≤ n) (hbig : n ≤ 536870912) (hc : kc + 2 ≤ R.cells) (hl : ks + (n + 4) ≤ R.slots) :
    ∃ (a : Addr) (h' : Heap) (vm1 : Vm) (k1 : Nat), s.Since vm1 k1 ∧ k1 ≤ h'.size ∧ Z.Warmed39 (s.setVm vm1).vm ∧ (s.setVm vm1).vm.findClass own = some m.cls ∧ Ext h h' ∧
      OwnW (p := p) (l := l) (e := e) (R := R) (s := s.setVm vm1) (m := m) (args := args) (below := below) (meth := meth) (c := c) s0 n0 (pc + 2) L (.ref a :: S) h' (kc + 2) (ks + (n + 4)) := by
  obtain ⟨T, ls, X, eT, N, st⟩ := r
  obtain ⟨a, T', h', k1, X', e', E, hS', hk', hZ', hown', st'⟩ := Jvm.RoadKit.ldcS X hx hZ hown w wS eT hS hk (g := mkF m pc L S) rfl hd hn hbig hc hl
  exact ⟨a, h', T'.vm, k1, hS', hk', hZ', hown', E, ⟨T', ls, X', e', N, st.trans (st' _ (Steps.refl _))⟩⟩
theorem OwnW.callNS (r : OwnW (p := p) (l := l) (e := e) (R := R) (s := s.setVm vm0) (m := m) (args := args) (below := below) (meth := meth) (c := c) s0 n0 pc L S h kc ks)
    (hx : p.tables.exec = Jvm.exec) (hZ : Z.Warmed39 (s.setVm vm0).vm) {own : String} {index : Nat} {y : MethodName} {bytes : ByteArray} {maxL : Nat} {rm : Room} {Q : Option Value → Heap → Prop} (hy1 : y.name = "<init>") (hown : (s.setVm vm0).vm.findClass own = some m.cls) (hS : s.Since vm0 k0) (hk : k0 ≤ h.size)
    (w1 : (Jvm.Cond.methodLink own index y).before a0 Z = true) (w2 : (Jvm.Cond.instanceMethod y).before a0 Z = true) (w3 : (Jvm.Cond.initialized y.cls).before a0 Z = true) (w4 : (Jvm.Cond.code y bytes maxL none).before a0 Z = true)
    (hy : y.cls ≠ "java/lang/invoke/MethodHandle" ∧ y.cls ≠ "java/lang/invoke/VarHandle") {a : Addr} {argsL : List Value} (K : OwnConS l Z y bytes maxL none rm (.ref a :: argsL).toArray h n0 Q) (rest : List Value) (W : Nat)
    (hf : rm.frames + 1 ≤ R.frames) (hl : W + (maxL + 11) + rm.locals ≤ R.locals) (hsize : L.size = c.maxLocals) (hlen : ∀ sig, parseMethodDescriptor y.desc = some sig → argsL.length = sig.parameters.length)
    (hs : S = argsL.reverse ++ .ref a :: rest) (hW : (rest.map fun v => v.category).sum ≤ W) (hd : decode c.code pc = .ok (.invokespecial index, 3)) (hc : kc + rm.cells ≤ R.cells) (hsl : ks + rm.slots ≤ R.slots) :
    ∃ v h' vm1 k1, s.Since vm1 k1 ∧ k1 ≤ h'.size ∧ Z.Warmed39 (s.setVm vm1).vm ∧ (s.setVm vm1).vm.findClass own = some m.cls ∧
      OwnW (p := p) (l := l) (e := e) (R := R) (s := s.setVm vm1) (m := m) (args := args) (below := below) (meth := meth) (c := c) s0 n0 (pc + 3) L (v.toList ++ rest) h' (kc + rm.cells) (ks + rm.slots) ∧ Q v h' := by
  obtain ⟨T, ls, X, eT, N, st⟩ := r
  obtain ⟨v, vm₁, ⟨T', L', k', n'⟩, -, X', hS', hg', ⟨Lc, hQ, l', y', z'⟩, st'⟩ := X.specialBackS hx (y := y) hy1 hown (mvT hZ w1) (mvT hZ w2) (mvT hZ w4) hy (backOfS (W := W) (Q := fun v h L => Fr n0 L ∧ Q v h) (K []) hZ w4 w3 hf hl) (g := mkF m pc L S) rfl hsize st (a := a) (argsL := argsL) (rest := rest) hlen hs (by show 2 * 0 + _ ≤ _; omega) hd (fun _ _ => ⟨rfl, eT, hc, hsl⟩)
  dsimp only [Pt.U, Pt.locs, Pt.cells, Pt.slots] at X' l' y' z' st' hQ hS' hg'
  subst l' y' z'
  obtain ⟨X2, hS2, hZ2, hown2⟩ := rebS hS (by rw [eT]; exact hk) X' hS' hg' hZ hown
  exact ⟨v, _, T'.vm, _, hS2, Nat.le_refl _, hZ2, hown2, ⟨T', _, X2, rfl, N.app hQ.1, st'⟩, hQ.2⟩
theorem OwnW.callVS (r : OwnW (p := p) (l := l) (e := e) (R := R) (s := s.setVm vm0) (m := m) (args := args) (below := below) (meth := meth) (c := c) s0 n0 pc L S h kc ks)
    (hx : p.tables.exec = Jvm.exec) (hZ : Z.Warmed39 (s.setVm vm0).vm) {own C : String} {index : Nat} {y z : MethodName} {bytes : ByteArray} {maxL : Nat} {ret : Option FieldType} {rm : Room} {Q : Option Value → Heap → Prop} (hown : (s.setVm vm0).vm.findClass own = some m.cls) (hS : s.Since vm0 k0) (hk : k0 ≤ h.size)
    (w1 : (Jvm.Cond.methodLink own index y).before a0 Z = true) (w2 : (Jvm.Cond.declares y).before a0 Z = true) (w3 : (Jvm.Cond.selects C y z).before a0 Z = true) (w3' : NotFace (s.setVm vm0) y) (w5 : (Jvm.Cond.instanceMethod z).before a0 Z = true) (w6 : (Jvm.Cond.initialized z.cls).before a0 Z = true) (w4 : (Jvm.Cond.code z bytes maxL ret).before a0 Z = true)
    (hy : y.cls ≠ "java/lang/invoke/MethodHandle" ∧ y.cls ≠ "java/lang/invoke/VarHandle") {a : Addr} {argsL : List Value} (E : Exa Z h a C) (K : OwnConS l Z z bytes maxL ret rm (.ref a :: argsL).toArray h n0 Q) (rest : List Value) (W : Nat)
    (hf : rm.frames + 1 ≤ R.frames) (hl : W + (maxL + 11) + rm.locals ≤ R.locals) (hsize : L.size = c.maxLocals) (hlen : ∀ sig, parseMethodDescriptor y.desc = some sig → argsL.length = sig.parameters.length)
    (hs : S = argsL.reverse ++ .ref a :: rest) (hW : (rest.map fun v => v.category).sum ≤ W) (hd : decode c.code pc = .ok (.invokevirtual index, 3)) (hc : kc + rm.cells ≤ R.cells) (hsl : ks + rm.slots ≤ R.slots) :
    ∃ v h' vm1 k1, s.Since vm1 k1 ∧ k1 ≤ h'.size ∧ Z.Warmed39 (s.setVm vm1).vm ∧ (s.setVm vm1).vm.findClass own = some m.cls ∧
      OwnW (p := p) (l := l) (e := e) (R := R) (s := s.setVm vm1) (m := m) (args := args) (below := below) (meth := meth) (c := c) s0 n0 (pc + 3) L (v.toList ++ rest) h' (kc + rm.cells) (ks + rm.slots) ∧ Q v h' := by
  obtain ⟨T, ls, X, eT, N, st⟩ := r
  obtain ⟨cq, kq, qa, qb, qc⟩ := isOf hZ eT E
  obtain ⟨v, vm₁, ⟨T', L', k', n'⟩, -, X', hS', hg', ⟨Lc, hQ, l', y', z'⟩, st'⟩ := X.virtualBackS hx (y := y) (z := z) hown (mvT hZ w1) (mvT hZ w2) w3' (mvT hZ w3) (mvT hZ w5) hy (backOfS (W := W) (Q := fun v h L => Fr n0 L ∧ Q v h) (K []) hZ w4 w6 hf hl) qa qc (g := mkF m pc L S) rfl hsize st (argsL := argsL) (rest := rest) hlen hs (by show 2 * 0 + _ ≤ _; omega) hd (fun _ _ => ⟨rfl, eT, hc, hsl⟩)
  dsimp only [Pt.U, Pt.locs, Pt.cells, Pt.slots] at X' l' y' z' st' hQ hS' hg'
  subst l' y' z'
  obtain ⟨X2, hS2, hZ2, hown2⟩ := rebS hS (by rw [eT]; exact hk) X' hS' hg' hZ hown
  exact ⟨v, _, T'.vm, _, hS2, Nat.le_refl _, hZ2, hown2, ⟨T', _, X2, rfl, N.app hQ.1, st'⟩, hQ.2⟩
theorem OwnW.callI (r : OwnW (p := p) (l := l) (e := e) (R := R) (s := s) (m := m) (args := args) (below := below) (meth := meth) (c := c) s0 n0 pc L S h kc ks)
    (hx : p.tables.exec = Jvm.exec) (hZ : Z.Warmed39 s.vm) {own C : String} {index count : Nat} {y z : MethodName} {bytes : ByteArray} {maxL : Nat} {ret : Option FieldType} {rm : Room} {Q : Option Value → Heap → Prop} (hown : s.vm.findClass own = some m.cls)
    (w1 : (Jvm.Cond.methodLink own index y).before a0 Z = true) (w2 : (Jvm.Cond.declares y).before a0 Z = true) (w7 : (Jvm.Cond.interfaceMethod y.cls y.cls y.name y.desc).before args s = true) (w3 : (Jvm.Cond.selects C y z).before a0 Z = true) (w5 : (Jvm.Cond.instanceMethod z).before a0 Z = true)
    (w8 : (Jvm.Cond.publicMethod z).before a0 Z = true) (w9 : (Jvm.Cond.unhidden C y.name y.desc).before a0 Z = true) (wc : (Jvm.Cond.castable C y.cls).before a0 Z = true) (w6 : (Jvm.Cond.initialized z.cls).before a0 Z = true) (w4 : (Jvm.Cond.code z bytes maxL ret).before a0 Z = true)
    (hy : y.cls ≠ "java/lang/invoke/MethodHandle" ∧ y.cls ≠ "java/lang/invoke/VarHandle") {a : Addr} {argsL : List Value} (E : Exa Z h a C) (K : OwnCon l Z z bytes maxL ret rm (.ref a :: argsL).toArray h n0 Q) (rest : List Value) (W : Nat)
    (hf : rm.frames + 1 ≤ R.frames) (hl : W + (maxL + 11) + rm.locals ≤ R.locals) (hsize : L.size = c.maxLocals) (hlen : ∀ sig, parseMethodDescriptor y.desc = some sig → argsL.length = sig.parameters.length)
    (hs : S = argsL.reverse ++ .ref a :: rest) (hW : (rest.map fun v => v.category).sum ≤ W) (hd : decode c.code pc = .ok (.invokeinterface index count, 5)) (hc : kc + rm.cells ≤ R.cells) (hsl : ks + rm.slots ≤ R.slots) :
    ∃ v h', OwnW (p := p) (l := l) (e := e) (R := R) (s := s) (m := m) (args := args) (below := below) (meth := meth) (c := c) s0 n0 (pc + 5) L (v.toList ++ rest) h' (kc + rm.cells) (ks + rm.slots) ∧ Q v h' := by
  obtain ⟨T, ls, X, eT, N, st⟩ := r
  obtain ⟨cq, kq, qa, qb, qc⟩ := isOf hZ eT E
  obtain ⟨v, vm₁, ⟨T', L', k', n'⟩, -, X', ⟨Lc, hQ, l', y', z'⟩, st'⟩ := X.interfaceBack hx (xi := y) (y := z) hown (mvT hZ w1) (mvT hZ w2) w7 (mvT hZ w3) (mvT hZ w5) (mvT hZ w8) (mvT hZ w9) (mvT hZ wc) hy (backOf (W := W) (Q := fun v h L => Fr n0 L ∧ Q v h) (K []) hZ w4 w6 hf hl) qa qb qc (g := mkF m pc L S) rfl hsize st (argsL := argsL) (rest := rest) hlen hs (by show 2 * 0 + _ ≤ _; omega) hd (fun _ _ => ⟨rfl, eT, hc, hsl⟩)
  dsimp only [Pt.U, Pt.locs, Pt.cells, Pt.slots] at X' l' y' z' st' hQ
  subst l' y' z'
  exact ⟨v, _, ⟨T', _, X', rfl, N.app hQ.1, st'⟩, hQ.2⟩
end OwnStr
/-! the call of Object's own constructor -/
section OwnInit
variable {p : Program} {l : Launch} {e : Env} {R : Room} {s : State} {m : MethodId} {args : Array Value} {below : List Frame} {meth : Method} {c : Code} {s0 : State} {n0 pc pc' : Nat} {L L' : Array Slot} {S S' : List Value} {h h' : Heap} {kc ks : Nat} {Z : State} {a0 : Array Value}
theorem OwnW.initO (r : OwnW (p := p) (l := l) (e := e) (R := R) (s := s) (m := m) (args := args) (below := below) (meth := meth) (c := c) s0 n0 pc L S h kc ks)
    (hx : p.tables.exec = Jvm.exec) (hZ : Z.Warmed39 s.vm) {own : String} {idx : Nat} (hown : s.vm.findClass own = some m.cls) (w1 : (Jvm.Cond.methodLink own idx Lib.objectInit).before a0 Z = true) (w2 : (Jvm.Cond.instanceMethod Lib.objectInit).before a0 Z = true)
    (w3 : (Jvm.Cond.code Lib.objectInit object_method_1_code 1 none).before a0 Z = true) (hsize : L.size = c.maxLocals) {a : Addr} {rest : List Value} (hs : S = .ref a :: rest) (hd : decode c.code pc = .ok (.invokespecial idx, 3))
    (hf : 1 ≤ R.frames) (W : Nat) (hW : (rest.map fun v => v.category).sum ≤ W) (hl : W + 12 ≤ R.locals) :
    OwnW (p := p) (l := l) (e := e) (R := R) (s := s) (m := m) (args := args) (below := below) (meth := meth) (c := c) s0 n0 (pc + 3) L rest h kc ks := by
  obtain ⟨T, ls, X, eT, N, st⟩ := r
  obtain ⟨T', X', e', st'⟩ := Jvm.RoadKit.initO X hx hZ hown w1 w2 w3 eT (g := mkF m pc L S) rfl hsize hs hd hf (W := W) (by show 2 * 0 + _ ≤ _; omega) hl
  exact ⟨T', ls, X', e', N, st.trans (st' _ (Steps.refl _))⟩
end OwnInit
theorem own_pn0 : plainName "java/lang/Record" = true := by first | (simp [plainName, overriddenIn]; done) | decide +kernel
theorem own_pn1 : plainName "java/lang/StringLatin1" = true := by first | (simp [plainName, overriddenIn]; done) | decide +kernel
theorem own_pn2 : plainName "java/lang/String" = true := by first | (simp [plainName, overriddenIn]; done) | decide +kernel
theorem own_pn3 : plainName "java/util/Objects" = true := by first | (simp [plainName, overriddenIn]; done) | decide +kernel
theorem own_pn4 : plainName "com/example/onnce/onnce/store/Fingerprint" = true := by first | (simp [plainName, overriddenIn]; done) | decide +kernel
theorem own_pn5 : plainName "com/example/onnce/onnce/store/KeyRecord$Claimed" = true := by first | (simp [plainName, overriddenIn]; done) | decide +kernel
theorem own_pn6 : plainName "com/example/onnce/onnce/store/Claim$Outstanding" = true := by first | (simp [plainName, overriddenIn]; done) | decide +kernel
theorem own_pn7 : plainName "com/example/onnce/onnce/store/Claim$Abandoned" = true := by first | (simp [plainName, overriddenIn]; done) | decide +kernel
theorem own_pn8 : plainName "com/example/onnce/onnce/store/ClaimedFoundPinLaw" = true := by first | (simp [plainName, overriddenIn]; done) | decide +kernel
theorem own_pd0 : parseMethodDescriptor "(C)Z" = some ⟨[.char], some .boolean⟩ := by decide +kernel
theorem own_pd1 : parseMethodDescriptor "(C)[B" = some ⟨[.char], some (.array .byte)⟩ := by decide +kernel
theorem own_pd2 : parseMethodDescriptor "([BB)V" = some ⟨[(.array .byte), .byte], none⟩ := by decide +kernel
theorem own_pd3 : parseMethodDescriptor "()V" = some ⟨[], none⟩ := by decide +kernel
theorem own_pd4 : parseMethodDescriptor "(Ljava/lang/Object;Ljava/lang/String;)Ljava/lang/Object;" = some ⟨[(.object "java/lang/Object"), (.object "java/lang/String")], some (.object "java/lang/Object")⟩ := by decide +kernel
theorem own_pd5 : parseMethodDescriptor "(Lcom/example/onnce/onnce/store/Fingerprint;)V" = some ⟨[(.object "com/example/onnce/onnce/store/Fingerprint")], none⟩ := by decide +kernel
theorem own_pd6 : parseMethodDescriptor "(C)Ljava/lang/String;" = some ⟨[.char], some (.object "java/lang/String")⟩ := by decide +kernel
theorem own_pd7 : parseMethodDescriptor "(Ljava/lang/String;Ljava/lang/String;Ljava/lang/String;)V" = some ⟨[(.object "java/lang/String"), (.object "java/lang/String"), (.object "java/lang/String")], none⟩ := by decide +kernel
theorem own_pd8 : parseMethodDescriptor "(Lcom/example/onnce/onnce/store/Fingerprint;JJ)V" = some ⟨[(.object "com/example/onnce/onnce/store/Fingerprint"), .long, .long], none⟩ := by decide +kernel
theorem own_pd9 : parseMethodDescriptor "(Z)Lcom/example/onnce/onnce/store/Claim;" = some ⟨[.boolean], some (.object "com/example/onnce/onnce/store/Claim")⟩ := by decide +kernel
theorem own_pd10 : parseMethodDescriptor "()Lcom/example/onnce/onnce/store/Fingerprint;" = some ⟨[], some (.object "com/example/onnce/onnce/store/Fingerprint")⟩ := by decide +kernel
theorem own_pd11 : parseMethodDescriptor "()Ljava/lang/String;" = some ⟨[], some (.object "java/lang/String")⟩ := by decide +kernel
theorem own_pd12 : parseMethodDescriptor "(Ljava/lang/Object;)Z" = some ⟨[(.object "java/lang/Object")], some .boolean⟩ := by decide +kernel
theorem own_pd13 : parseMethodDescriptor "()J" = some ⟨[], some .long⟩ := by decide +kernel
theorem own_d1_0 : decode jdk_42_method_139_code 0 = .ok (.getstatic 38, 3) := by decide +kernel
theorem own_d1_3 : decode jdk_42_method_139_code 3 = .ok (.ifCond .eq 23, 3) := by decide +kernel
theorem own_d1_6 : decode jdk_42_method_139_code 6 = .ok (.iload_n 0, 1) := by decide +kernel
theorem own_d1_7 : decode jdk_42_method_139_code 7 = .ok (.invokestatic 1015, 3) := by decide +kernel
theorem own_d1_10 : decode jdk_42_method_139_code 10 = .ok (.ifCond .eq 16, 3) := by decide +kernel
theorem own_d1_13 : decode jdk_42_method_139_code 13 = .ok (.new 10, 3) := by decide +kernel
theorem own_d1_16 : decode jdk_42_method_139_code 16 = .ok (.dup, 1) := by decide +kernel
theorem own_d1_17 : decode jdk_42_method_139_code 17 = .ok (.iload_n 0, 1) := by decide +kernel
theorem own_d1_18 : decode jdk_42_method_139_code 18 = .ok (.invokestatic 1018, 3) := by decide +kernel
theorem own_d1_21 : decode jdk_42_method_139_code 21 = .ok (.iconst 0, 1) := by decide +kernel
theorem own_d1_22 : decode jdk_42_method_139_code 22 = .ok (.invokespecial 209, 3) := by decide +kernel
theorem own_d1_25 : decode jdk_42_method_139_code 25 = .ok (.areturn, 1) := by decide +kernel
theorem own_d1_26 : decode jdk_42_method_139_code 26 = .ok (.new 10, 3) := by decide +kernel
theorem own_d1_29 : decode jdk_42_method_139_code 29 = .ok (.dup, 1) := by decide +kernel
theorem own_d1_30 : decode jdk_42_method_139_code 30 = .ok (.iload_n 0, 1) := by decide +kernel
theorem own_d1_31 : decode jdk_42_method_139_code 31 = .ok (.invokestatic 1021, 3) := by decide +kernel
theorem own_d1_34 : decode jdk_42_method_139_code 34 = .ok (.iconst 1, 1) := by decide +kernel
theorem own_d1_35 : decode jdk_42_method_139_code 35 = .ok (.invokespecial 209, 3) := by decide +kernel
theorem own_d1_38 : decode jdk_42_method_139_code 38 = .ok (.areturn, 1) := by decide +kernel
theorem own_d2_0 : decode jdk_43_method_3_code 0 = .ok (.iload_n 0, 1) := by decide +kernel
theorem own_d2_1 : decode jdk_43_method_3_code 1 = .ok (.sipush 255, 3) := by decide +kernel
theorem own_d2_4 : decode jdk_43_method_3_code 4 = .ok (.if_icmp .gt 7, 3) := by decide +kernel
theorem own_d2_7 : decode jdk_43_method_3_code 7 = .ok (.iconst 1, 1) := by decide +kernel
theorem own_d2_8 : decode jdk_43_method_3_code 8 = .ok (.goto 4, 3) := by decide +kernel
theorem own_d2_11 : decode jdk_43_method_3_code 11 = .ok (.iconst 0, 1) := by decide +kernel
theorem own_d2_12 : decode jdk_43_method_3_code 12 = .ok (.ireturn, 1) := by decide +kernel
theorem own_d3_0 : decode jdk_43_method_46_code 0 = .ok (.iconst 1, 1) := by decide +kernel
theorem own_d3_1 : decode jdk_43_method_46_code 1 = .ok (.newarray .byte, 2) := by decide +kernel
theorem own_d3_3 : decode jdk_43_method_46_code 3 = .ok (.dup, 1) := by decide +kernel
theorem own_d3_4 : decode jdk_43_method_46_code 4 = .ok (.iconst 0, 1) := by decide +kernel
theorem own_d3_5 : decode jdk_43_method_46_code 5 = .ok (.iload_n 0, 1) := by decide +kernel
theorem own_d3_6 : decode jdk_43_method_46_code 6 = .ok (.i2b, 1) := by decide +kernel
theorem own_d3_7 : decode jdk_43_method_46_code 7 = .ok (.bastore, 1) := by decide +kernel
theorem own_d3_8 : decode jdk_43_method_46_code 8 = .ok (.areturn, 1) := by decide +kernel
theorem own_d4_0 : decode jdk_42_method_151_code 0 = .ok (.aload_n 0, 1) := by decide +kernel
theorem own_d4_1 : decode jdk_42_method_151_code 1 = .ok (.invokespecial 1, 3) := by decide +kernel
theorem own_d4_4 : decode jdk_42_method_151_code 4 = .ok (.aload_n 0, 1) := by decide +kernel
theorem own_d4_5 : decode jdk_42_method_151_code 5 = .ok (.aload_n 1, 1) := by decide +kernel
theorem own_d4_6 : decode jdk_42_method_151_code 6 = .ok (.putfield 9, 3) := by decide +kernel
theorem own_d4_9 : decode jdk_42_method_151_code 9 = .ok (.aload_n 0, 1) := by decide +kernel
theorem own_d4_10 : decode jdk_42_method_151_code 10 = .ok (.iload_n 2, 1) := by decide +kernel
theorem own_d4_11 : decode jdk_42_method_151_code 11 = .ok (.putfield 15, 3) := by decide +kernel
theorem own_d4_14 : decode jdk_42_method_151_code 14 = .ok (.return_, 1) := by decide +kernel
theorem own_d6_0 : decode prog_20_method_1_code 0 = .ok (.aload_n 0, 1) := by decide +kernel
theorem own_d6_1 : decode prog_20_method_1_code 1 = .ok (.invokespecial 1, 3) := by decide +kernel
theorem own_d6_4 : decode prog_20_method_1_code 4 = .ok (.aload_n 1, 1) := by decide +kernel
theorem own_d6_5 : decode prog_20_method_1_code 5 = .ok (.ldc 7, 2) := by decide +kernel
theorem own_d6_7 : decode prog_20_method_1_code 7 = .ok (.invokestatic 9, 3) := by decide +kernel
theorem own_d6_10 : decode prog_20_method_1_code 10 = .ok (.pop, 1) := by decide +kernel
theorem own_d6_11 : decode prog_20_method_1_code 11 = .ok (.aload_n 2, 1) := by decide +kernel
theorem own_d6_12 : decode prog_20_method_1_code 12 = .ok (.ldc 15, 2) := by decide +kernel
theorem own_d6_14 : decode prog_20_method_1_code 14 = .ok (.invokestatic 9, 3) := by decide +kernel
theorem own_d6_17 : decode prog_20_method_1_code 17 = .ok (.pop, 1) := by decide +kernel
theorem own_d6_18 : decode prog_20_method_1_code 18 = .ok (.aload_n 3, 1) := by decide +kernel
theorem own_d6_19 : decode prog_20_method_1_code 19 = .ok (.ldc 17, 2) := by decide +kernel
theorem own_d6_21 : decode prog_20_method_1_code 21 = .ok (.invokestatic 9, 3) := by decide +kernel
theorem own_d6_24 : decode prog_20_method_1_code 24 = .ok (.pop, 1) := by decide +kernel
theorem own_d6_25 : decode prog_20_method_1_code 25 = .ok (.aload_n 0, 1) := by decide +kernel
theorem own_d6_26 : decode prog_20_method_1_code 26 = .ok (.aload_n 1, 1) := by decide +kernel
theorem own_d6_27 : decode prog_20_method_1_code 27 = .ok (.putfield 19, 3) := by decide +kernel
theorem own_d6_30 : decode prog_20_method_1_code 30 = .ok (.aload_n 0, 1) := by decide +kernel
theorem own_d6_31 : decode prog_20_method_1_code 31 = .ok (.aload_n 2, 1) := by decide +kernel
theorem own_d6_32 : decode prog_20_method_1_code 32 = .ok (.putfield 24, 3) := by decide +kernel
theorem own_d6_35 : decode prog_20_method_1_code 35 = .ok (.aload_n 0, 1) := by decide +kernel
theorem own_d6_36 : decode prog_20_method_1_code 36 = .ok (.aload_n 3, 1) := by decide +kernel
theorem own_d6_37 : decode prog_20_method_1_code 37 = .ok (.putfield 26, 3) := by decide +kernel
theorem own_d6_40 : decode prog_20_method_1_code 40 = .ok (.return_, 1) := by decide +kernel
theorem own_d8_0 : decode jdk_31_method_11_code 0 = .ok (.aload_n 0, 1) := by decide +kernel
theorem own_d8_1 : decode jdk_31_method_11_code 1 = .ok (.ifnonnull 12, 3) := by decide +kernel
theorem own_d8_4 : decode jdk_31_method_11_code 4 = .ok (.new 84, 3) := by decide +kernel
theorem own_d8_7 : decode jdk_31_method_11_code 7 = .ok (.dup, 1) := by decide +kernel
theorem own_d8_8 : decode jdk_31_method_11_code 8 = .ok (.aload_n 1, 1) := by decide +kernel
theorem own_d8_9 : decode jdk_31_method_11_code 9 = .ok (.invokespecial 87, 3) := by decide +kernel
theorem own_d8_12 : decode jdk_31_method_11_code 12 = .ok (.athrow, 1) := by decide +kernel
theorem own_d8_13 : decode jdk_31_method_11_code 13 = .ok (.aload_n 0, 1) := by decide +kernel
theorem own_d8_14 : decode jdk_31_method_11_code 14 = .ok (.areturn, 1) := by decide +kernel
theorem own_d9_0 : decode prog_22_method_1_code 0 = .ok (.aload_n 0, 1) := by decide +kernel
theorem own_d9_1 : decode prog_22_method_1_code 1 = .ok (.invokespecial 1, 3) := by decide +kernel
theorem own_d9_4 : decode prog_22_method_1_code 4 = .ok (.aload_n 1, 1) := by decide +kernel
theorem own_d9_5 : decode prog_22_method_1_code 5 = .ok (.ldc 7, 2) := by decide +kernel
theorem own_d9_7 : decode prog_22_method_1_code 7 = .ok (.invokestatic 9, 3) := by decide +kernel
theorem own_d9_10 : decode prog_22_method_1_code 10 = .ok (.pop, 1) := by decide +kernel
theorem own_d9_11 : decode prog_22_method_1_code 11 = .ok (.aload_n 0, 1) := by decide +kernel
theorem own_d9_12 : decode prog_22_method_1_code 12 = .ok (.aload_n 1, 1) := by decide +kernel
theorem own_d9_13 : decode prog_22_method_1_code 13 = .ok (.putfield 15, 3) := by decide +kernel
theorem own_d9_16 : decode prog_22_method_1_code 16 = .ok (.aload_n 0, 1) := by decide +kernel
theorem own_d9_17 : decode prog_22_method_1_code 17 = .ok (.lload_n 2, 1) := by decide +kernel
theorem own_d9_18 : decode prog_22_method_1_code 18 = .ok (.putfield 20, 3) := by decide +kernel
theorem own_d9_21 : decode prog_22_method_1_code 21 = .ok (.aload_n 0, 1) := by decide +kernel
theorem own_d9_22 : decode prog_22_method_1_code 22 = .ok (.lload 4, 2) := by decide +kernel
theorem own_d9_24 : decode prog_22_method_1_code 24 = .ok (.putfield 24, 3) := by decide +kernel
theorem own_d9_27 : decode prog_22_method_1_code 27 = .ok (.return_, 1) := by decide +kernel
theorem own_d10_0 : decode prog_22_method_3_code 0 = .ok (.iload_n 1, 1) := by decide +kernel
theorem own_d10_1 : decode prog_22_method_3_code 1 = .ok (.ifCond .eq 17, 3) := by decide +kernel
theorem own_d10_4 : decode prog_22_method_3_code 4 = .ok (.new 27, 3) := by decide +kernel
theorem own_d10_7 : decode prog_22_method_3_code 7 = .ok (.dup, 1) := by decide +kernel
theorem own_d10_8 : decode prog_22_method_3_code 8 = .ok (.aload_n 0, 1) := by decide +kernel
theorem own_d10_9 : decode prog_22_method_3_code 9 = .ok (.getfield 15, 3) := by decide +kernel
theorem own_d10_12 : decode prog_22_method_3_code 12 = .ok (.invokespecial 29, 3) := by decide +kernel
theorem own_d10_15 : decode prog_22_method_3_code 15 = .ok (.goto 14, 3) := by decide +kernel
theorem own_d10_18 : decode prog_22_method_3_code 18 = .ok (.new 32, 3) := by decide +kernel
theorem own_d10_21 : decode prog_22_method_3_code 21 = .ok (.dup, 1) := by decide +kernel
theorem own_d10_22 : decode prog_22_method_3_code 22 = .ok (.aload_n 0, 1) := by decide +kernel
theorem own_d10_23 : decode prog_22_method_3_code 23 = .ok (.getfield 15, 3) := by decide +kernel
theorem own_d10_26 : decode prog_22_method_3_code 26 = .ok (.invokespecial 34, 3) := by decide +kernel
theorem own_d10_29 : decode prog_22_method_3_code 29 = .ok (.areturn, 1) := by decide +kernel
theorem own_d11_0 : decode prog_18_method_1_code 0 = .ok (.aload_n 0, 1) := by decide +kernel
theorem own_d11_1 : decode prog_18_method_1_code 1 = .ok (.invokespecial 1, 3) := by decide +kernel
theorem own_d11_4 : decode prog_18_method_1_code 4 = .ok (.aload_n 1, 1) := by decide +kernel
theorem own_d11_5 : decode prog_18_method_1_code 5 = .ok (.ldc 7, 2) := by decide +kernel
theorem own_d11_7 : decode prog_18_method_1_code 7 = .ok (.invokestatic 9, 3) := by decide +kernel
theorem own_d11_10 : decode prog_18_method_1_code 10 = .ok (.pop, 1) := by decide +kernel
theorem own_d11_11 : decode prog_18_method_1_code 11 = .ok (.aload_n 0, 1) := by decide +kernel
theorem own_d11_12 : decode prog_18_method_1_code 12 = .ok (.aload_n 1, 1) := by decide +kernel
theorem own_d11_13 : decode prog_18_method_1_code 13 = .ok (.putfield 15, 3) := by decide +kernel
theorem own_d11_16 : decode prog_18_method_1_code 16 = .ok (.return_, 1) := by decide +kernel
theorem own_d20_0 : decode prog_15_method_1_code 0 = .ok (.aload_n 0, 1) := by decide +kernel
theorem own_d20_1 : decode prog_15_method_1_code 1 = .ok (.invokespecial 1, 3) := by decide +kernel
theorem own_d20_4 : decode prog_15_method_1_code 4 = .ok (.aload_n 1, 1) := by decide +kernel
theorem own_d20_5 : decode prog_15_method_1_code 5 = .ok (.ldc 7, 2) := by decide +kernel
theorem own_d20_7 : decode prog_15_method_1_code 7 = .ok (.invokestatic 9, 3) := by decide +kernel
theorem own_d20_10 : decode prog_15_method_1_code 10 = .ok (.pop, 1) := by decide +kernel
theorem own_d20_11 : decode prog_15_method_1_code 11 = .ok (.aload_n 0, 1) := by decide +kernel
theorem own_d20_12 : decode prog_15_method_1_code 12 = .ok (.aload_n 1, 1) := by decide +kernel
theorem own_d20_13 : decode prog_15_method_1_code 13 = .ok (.putfield 15, 3) := by decide +kernel
theorem own_d20_16 : decode prog_15_method_1_code 16 = .ok (.return_, 1) := by decide +kernel
theorem own_d14_0 : decode jdk_42_method_66_code 0 = .ok (.aload_n 0, 1) := by decide +kernel
theorem own_d14_1 : decode jdk_42_method_66_code 1 = .ok (.aload_n 1, 1) := by decide +kernel
theorem own_d14_2 : decode jdk_42_method_66_code 2 = .ok (.if_acmp .ne 5, 3) := by decide +kernel
theorem own_d14_5 : decode jdk_42_method_66_code 5 = .ok (.iconst 1, 1) := by decide +kernel
theorem own_d14_6 : decode jdk_42_method_66_code 6 = .ok (.ireturn, 1) := by decide +kernel
theorem own_d14_7 : decode jdk_42_method_66_code 7 = .ok (.aload_n 1, 1) := by decide +kernel
theorem own_d14_8 : decode jdk_42_method_66_code 8 = .ok (.instanceof 10, 3) := by decide +kernel
theorem own_d14_11 : decode jdk_42_method_66_code 11 = .ok (.ifCond .eq 43, 3) := by decide +kernel
theorem own_d14_14 : decode jdk_42_method_66_code 14 = .ok (.aload_n 1, 1) := by decide +kernel
theorem own_d14_15 : decode jdk_42_method_66_code 15 = .ok (.checkcast 10, 3) := by decide +kernel
theorem own_d14_18 : decode jdk_42_method_66_code 18 = .ok (.astore_n 2, 1) := by decide +kernel
theorem own_d14_19 : decode jdk_42_method_66_code 19 = .ok (.getstatic 38, 3) := by decide +kernel
theorem own_d14_22 : decode jdk_42_method_66_code 22 = .ok (.ifCond .eq 14, 3) := by decide +kernel
theorem own_d14_25 : decode jdk_42_method_66_code 25 = .ok (.aload_n 0, 1) := by decide +kernel
theorem own_d14_26 : decode jdk_42_method_66_code 26 = .ok (.getfield 15, 3) := by decide +kernel
theorem own_d14_29 : decode jdk_42_method_66_code 29 = .ok (.aload_n 2, 1) := by decide +kernel
theorem own_d14_30 : decode jdk_42_method_66_code 30 = .ok (.getfield 15, 3) := by decide +kernel
theorem own_d14_33 : decode jdk_42_method_66_code 33 = .ok (.if_icmp .ne 21, 3) := by decide +kernel
theorem own_d14_36 : decode jdk_42_method_66_code 36 = .ok (.aload_n 0, 1) := by decide +kernel
theorem own_d14_37 : decode jdk_42_method_66_code 37 = .ok (.getfield 9, 3) := by decide +kernel
theorem own_d14_40 : decode jdk_42_method_66_code 40 = .ok (.aload_n 2, 1) := by decide +kernel
theorem own_d14_41 : decode jdk_42_method_66_code 41 = .ok (.getfield 9, 3) := by decide +kernel
theorem own_d14_44 : decode jdk_42_method_66_code 44 = .ok (.invokestatic 541, 3) := by decide +kernel
theorem own_d14_47 : decode jdk_42_method_66_code 47 = .ok (.ifCond .eq 7, 3) := by decide +kernel
theorem own_d14_50 : decode jdk_42_method_66_code 50 = .ok (.iconst 1, 1) := by decide +kernel
theorem own_d14_51 : decode jdk_42_method_66_code 51 = .ok (.goto 4, 3) := by decide +kernel
theorem own_d14_54 : decode jdk_42_method_66_code 54 = .ok (.iconst 0, 1) := by decide +kernel
theorem own_d14_55 : decode jdk_42_method_66_code 55 = .ok (.ireturn, 1) := by decide +kernel
theorem own_d12_0 : decode prog_18_method_5_code 0 = .ok (.aload_n 0, 1) := by decide +kernel
theorem own_d12_1 : decode prog_18_method_5_code 1 = .ok (.getfield 15, 3) := by decide +kernel
theorem own_d12_4 : decode prog_18_method_5_code 4 = .ok (.areturn, 1) := by decide +kernel
theorem own_d21_0 : decode prog_15_method_5_code 0 = .ok (.aload_n 0, 1) := by decide +kernel
theorem own_d21_1 : decode prog_15_method_5_code 1 = .ok (.getfield 15, 3) := by decide +kernel
theorem own_d21_4 : decode prog_15_method_5_code 4 = .ok (.areturn, 1) := by decide +kernel
theorem own_d17_0 : decode prog_22_method_7_code 0 = .ok (.aload_n 0, 1) := by decide +kernel
theorem own_d17_1 : decode prog_22_method_7_code 1 = .ok (.getfield 15, 3) := by decide +kernel
theorem own_d17_4 : decode prog_22_method_7_code 4 = .ok (.areturn, 1) := by decide +kernel
theorem own_d13_0 : decode prog_20_method_6_code 0 = .ok (.aload_n 0, 1) := by decide +kernel
theorem own_d13_1 : decode prog_20_method_6_code 1 = .ok (.getfield 19, 3) := by decide +kernel
theorem own_d13_4 : decode prog_20_method_6_code 4 = .ok (.areturn, 1) := by decide +kernel
theorem own_d15_0 : decode prog_20_method_7_code 0 = .ok (.aload_n 0, 1) := by decide +kernel
theorem own_d15_1 : decode prog_20_method_7_code 1 = .ok (.getfield 24, 3) := by decide +kernel
theorem own_d15_4 : decode prog_20_method_7_code 4 = .ok (.areturn, 1) := by decide +kernel
theorem own_d16_0 : decode prog_20_method_8_code 0 = .ok (.aload_n 0, 1) := by decide +kernel
theorem own_d16_1 : decode prog_20_method_8_code 1 = .ok (.getfield 26, 3) := by decide +kernel
theorem own_d16_4 : decode prog_20_method_8_code 4 = .ok (.areturn, 1) := by decide +kernel
theorem own_d18_0 : decode prog_22_method_8_code 0 = .ok (.aload_n 0, 1) := by decide +kernel
theorem own_d18_1 : decode prog_22_method_8_code 1 = .ok (.getfield 20, 3) := by decide +kernel
theorem own_d18_4 : decode prog_22_method_8_code 4 = .ok (.lreturn, 1) := by decide +kernel
theorem own_d19_0 : decode prog_22_method_9_code 0 = .ok (.aload_n 0, 1) := by decide +kernel
theorem own_d19_1 : decode prog_22_method_9_code 1 = .ok (.getfield 24, 3) := by decide +kernel
theorem own_d19_4 : decode prog_22_method_9_code 4 = .ok (.lreturn, 1) := by decide +kernel
theorem own_d7_0 : decode jdk_30_method_1_code 0 = .ok (.aload_n 0, 1) := by decide +kernel
theorem own_d7_1 : decode jdk_30_method_1_code 1 = .ok (.invokespecial 1, 3) := by decide +kernel
theorem own_d7_4 : decode jdk_30_method_1_code 4 = .ok (.return_, 1) := by decide +kernel
theorem own_ef_rec (m : MethodId) (o : Addr) : entryFrame m #[(.ref o)] 1 = mkF m 0 #[.val (.ref o)] [] := by first | (simp [entryFrame, mkF, argsToLocals, Value.category]; done) | rfl
set_option maxRecDepth 65536 in
set_option maxHeartbeats 40000000 in
theorem own_rec (l : Launch) (Z : State) (a0 : Array Value) (hw : ∀ d ∈ tables_1, d.before a0 Z = true) (o : Addr)  (h0 : Heap) (n0 : Nat)  :
    OwnCon l Z (⟨"java/lang/Record", "<init>", "()V"⟩ : MethodName) jdk_30_method_1_code 1 none ({ frames := 1, cells := 0, slots := 0, locals := 12 } : Room) #[(.ref o)] h0 n0 (fun v h => v = none ∧ h0 = h) := by
  refine OwnCon.of own_pn0 (fun m => own_ef_rec m o) ?_
  intro p e s m below meth c s0 hx hby hml hown hnm hret hZ r
  have r1 : OwnW s0 n0 1 #[.val (.ref o)] [(.ref o)] h0 0 0 := r.go fun T t X k => XS.aloadN X hx rfl (hb hby own_d7_0) rfl rfl k
  have r2 : OwnW s0 n0 4 #[.val (.ref o)] [] h0 0 0 := r1.initO hx hZ hown (hw _ (List.mem_of_getElem? (i := 37) rfl)) (hw _ (List.mem_of_getElem? (i := 20) rfl)) (hw _ (List.mem_of_getElem? (i := 21) rfl)) (by rw [hml]; rfl) rfl (hb hby own_d7_1) (by decide) 0 (Nat.le_of_eq rfl) (by decide)
  have r3 := r2.retV hx hret (hb hby own_d7_4)
  exact ⟨_, _, 0, 0, ⟨rfl, rfl⟩, Nat.le_refl _, Nat.le_refl _, r3⟩
theorem own_wS (a0 : Array Value) (Z : State) (hw : ∀ d ∈ tables_1, d.before a0 Z = true) : ∀ a ∈ Bundle.stringAtoms, a.before a0 Z = true := fun d hd => hw d ((by decide +kernel : ∀ d ∈ Bundle.stringAtoms, d ∈ tables_1) d hd)
theorem own_ch (y : Int32) : ¬ ((255 : Int32) < (y &&& (255 : Int32)).toUInt32.toUInt16.toUInt32.toInt32) := by
  have k := c_mask y (255 : Int32) 8 (by decide) (by decide)
  have k1 : (0 : Int) ≤ y.toInt % ((2 ^ 8 : Nat) : Int) := Int.emod_nonneg _ (by decide)
  have k2 : y.toInt % ((2 ^ 8 : Nat) : Int) < ((2 ^ 8 : Nat) : Int) := Int.emod_lt_of_pos _ (by decide)
  have k3 : ((2 ^ 8 : Nat) : Int) = 256 := by decide
  have q := c_i2c (y &&& (255 : Int32))
  have e : (255 : Int32).toInt = 255 := by decide
  rw [Int32.lt_iff_toInt_lt]
  omega
theorem own_ef_enc (m : MethodId) (y0 : Int32) : entryFrame m #[(.int y0)] 1 = mkF m 0 #[.val (.int y0)] [] := by first | (simp [entryFrame, mkF, argsToLocals, Value.category]; done) | rfl
set_option maxRecDepth 65536 in
set_option maxHeartbeats 40000000 in
theorem own_enc (l : Launch) (Z : State) (a0 : Array Value) (hw : ∀ d ∈ tables_1, d.before a0 Z = true) (y0 : Int32)  (h0 : Heap) (n0 : Nat) (hy : ¬ ((255 : Int32) < y0)) :
    OwnCon l Z (⟨"java/lang/StringLatin1", "canEncode", "(C)Z"⟩ : MethodName) jdk_43_method_3_code 1 (some .boolean) ({ frames := 0, cells := 0, slots := 0, locals := 0 } : Room) #[(.int y0)] h0 n0 (fun v h => v = some (.int 1) ∧ h0 = h) := by
  refine OwnCon.of own_pn1 (fun m => own_ef_enc m y0) ?_
  intro p e s m below meth c s0 hx hby hml hown hnm hret hZ r
  have r1 : OwnW s0 n0 1 #[.val (.int y0)] [(.int y0)] h0 0 0 := r.go fun T t X k => XS.iloadN X hx rfl (hb hby own_d2_0) rfl k
  have r2 : OwnW s0 n0 4 #[.val (.int y0)] [(.int (255 : Int32)), (.int y0)] h0 0 0 := r1.go fun T t X k => XS.sipush X hx rfl (hb hby own_d2_1) k
  have r3 : OwnW s0 n0 7 #[.val (.int y0)] [] h0 0 0 := r2.go fun T t X k => XS.icmpNo X hx rfl (hb hby own_d2_4) rfl (flt hy).2.2.1 k
  have r4 : OwnW s0 n0 8 #[.val (.int y0)] [(.int (1 : Int32))] h0 0 0 := r3.go fun T t X k => XS.iconst X hx rfl (hb hby own_d2_7) k
  have r5 : OwnW s0 n0 12 #[.val (.int y0)] [(.int (1 : Int32))] h0 0 0 := r4.go fun T t X k => XS.goto X hx rfl (pc0 := 8) (pc' := 12) rfl (hb hby own_d2_8) (by decide) (by decide) k
  have r6 := r5.retN hx hret (by simp) rfl (hb hby own_d2_12)
  exact ⟨_, _, 0, 0, ⟨rfl, rfl⟩, by decide, by decide, r6⟩
theorem own_ef_tob (m : MethodId) (y0 : Int32) : entryFrame m #[(.int y0)] 1 = mkF m 0 #[.val (.int y0)] [] := by first | (simp [entryFrame, mkF, argsToLocals, Value.category]; done) | rfl
set_option maxRecDepth 65536 in
set_option maxHeartbeats 40000000 in
theorem own_tob (l : Launch) (Z : State) (a0 : Array Value) (hw : ∀ d ∈ tables_1, d.before a0 Z = true) (y0 : Int32)  (h0 : Heap) (n0 : Nat) (Z0 : n0 ≤ h0.size) :
    OwnCon l Z (⟨"java/lang/StringLatin1", "toBytes", "(C)[B"⟩ : MethodName) jdk_43_method_46_code 1 (some (.array .byte)) ({ frames := 0, cells := 1, slots := 1, locals := 0 } : Room) #[(.int y0)] h0 n0 (fun v h => ∃ b, v = some (.ref b) ∧ Ext h0 h ∧ h0.size ≤ b) := by
  refine OwnCon.of own_pn1 (fun m => own_ef_tob m y0) ?_
  intro p e s m below meth c s0 hx hby hml hown hnm hret hZ r
  have r1 : OwnW s0 n0 1 #[.val (.int y0)] [(.int (1 : Int32))] h0 0 0 := r.go fun T t X k => XS.iconst X hx rfl (hb hby own_d3_0) k
  obtain ⟨hr2, kb, r2, Er2, Ab⟩ := r1.newP hx hZ (aty := .byte) (hw _ (List.mem_of_getElem? (i := 14) rfl)) (hb hby own_d3_1) rfl (by decide) (cap := 1) (by decide) (by decide) (by decide) (by decide)
  obtain ⟨b, qb⟩ : ∃ z, z = h0.size := ⟨_, rfl⟩
  rw [← qb] at r2 Ab
  have r2 : OwnW s0 n0 3 #[.val (.int y0)] [(.ref b)] hr2 1 1 := r2
  have zb : h0.size ≤ b := Nat.le_of_eq qb.symm
  have Vb : OwnAr Z hr2 b .byte [(.int (0 : Int32))] := OwnAr.new' Ab rfl
  have r3 : OwnW s0 n0 4 #[.val (.int y0)] [(.ref b), (.ref b)] hr2 1 1 := r2.go fun T t X k => XS.dup X hx rfl (hb hby own_d3_3) rfl rfl k
  have r4 : OwnW s0 n0 5 #[.val (.int y0)] [(.int (0 : Int32)), (.ref b), (.ref b)] hr2 1 1 := r3.go fun T t X k => XS.iconst X hx rfl (hb hby own_d3_4) k
  have r5 : OwnW s0 n0 6 #[.val (.int y0)] [(.int y0), (.int (0 : Int32)), (.ref b), (.ref b)] hr2 1 1 := r4.go fun T t X k => XS.iloadN X hx rfl (hb hby own_d3_5) rfl k
  have r6 : OwnW s0 n0 7 #[.val (.int y0)] [(.int (y0.toInt8.toInt32)), (.int (0 : Int32)), (.ref b), (.ref b)] hr2 1 1 := r5.go fun T t X k => XS.i2b X hx rfl (hb hby own_d3_6) rfl k
  obtain ⟨hr7, r7, Wr7⟩ := r6.stB hx hZ Vb (j := (0 : Int32)) (x := (y0.toInt8.toInt32)) (by decide) (Nat.le_of_ble_eq_true rfl) (Nat.le_trans Z0 zb) rfl (hb hby own_d3_7)
  have Vb : OwnAr Z hr7 b .byte [(.int (nar .byte (y0.toInt8.toInt32)))] := Vb.set Wr7 (k := 0) (by decide) rfl
  have r7 : OwnW s0 n0 8 #[.val (.int y0)] [(.ref b)] hr7 1 1 := r7
  have Ex := own_ext_wr Er2 Wr7 zb
  have r8 := r7.retW hx hret rfl rfl (Or.inr (Or.inr (Or.inr (Or.inr ⟨rfl, rfl, rfl⟩)))) (hb hby own_d3_8)
  exact ⟨_, _, 1, 1, ⟨b, rfl, Ex, zb⟩, by decide, by decide, r8⟩
theorem own_ef_sin (m : MethodId) (o : Addr) (y0 : Addr) : entryFrame m #[(.ref o), (.ref y0), (.int (0 : Int32))] 3 = mkF m 0 #[.val (.ref o), .val (.ref y0), .val (.int (0 : Int32))] [] := by first | (simp [entryFrame, mkF, argsToLocals, Value.category]; done) | rfl
set_option maxRecDepth 65536 in
set_option maxHeartbeats 40000000 in
theorem own_sin (l : Launch) (Z : State) (a0 : Array Value) (hw : ∀ d ∈ tables_1, d.before a0 Z = true) (o : Addr) (y0 : Addr)  (h0 : Heap) (n0 : Nat) (E : Exa Z h0 o "java/lang/String") (F_value : Fld Z h0 o "java/lang/String" "value" "[B" .null) (F_coder : Fld Z h0 o "java/lang/String" "coder" "B" (.int (0 : Int32))) (g : n0 ≤ o)  :
    OwnCon l Z (⟨"java/lang/String", "<init>", "([BB)V"⟩ : MethodName) jdk_42_method_151_code 3 none ({ frames := 1, cells := 0, slots := 0, locals := 12 } : Room) #[(.ref o), (.ref y0), (.int (0 : Int32))] h0 n0 (fun v h => v = none ∧ Keep h0 h [o] ∧ Exa Z h o "java/lang/String" ∧ Fld Z h o "java/lang/String" "value" "[B" (.ref y0) ∧ Fld Z h o "java/lang/String" "coder" "B" (.int (0 : Int32))) := by
  refine OwnCon.of own_pn2 (fun m => own_ef_sin m o y0) ?_
  intro p e s m below meth c s0 hx hby hml hown hnm hret hZ r
  have K : Keep h0 h0 [o] := Keep.refl _ _
  have r1 : OwnW s0 n0 1 #[.val (.ref o), .val (.ref y0), .val (.int (0 : Int32))] [(.ref o)] h0 0 0 := r.go fun T t X k => XS.aloadN X hx rfl (hb hby own_d4_0) rfl rfl k
  have r2 : OwnW s0 n0 4 #[.val (.ref o), .val (.ref y0), .val (.int (0 : Int32))] [] h0 0 0 := r1.initO hx hZ hown (hw _ (List.mem_of_getElem? (i := 19) rfl)) (hw _ (List.mem_of_getElem? (i := 20) rfl)) (hw _ (List.mem_of_getElem? (i := 21) rfl)) (by rw [hml]; rfl) rfl (hb hby own_d4_1) (by decide) 0 (Nat.le_of_eq rfl) (by decide)
  have r3 : OwnW s0 n0 5 #[.val (.ref o), .val (.ref y0), .val (.int (0 : Int32))] [(.ref o)] h0 0 0 := r2.go fun T t X k => XS.aloadN X hx rfl (hb hby own_d4_4) rfl rfl k
  have r4 : OwnW s0 n0 6 #[.val (.ref o), .val (.ref y0), .val (.int (0 : Int32))] [(.ref y0), (.ref o)] h0 0 0 := r3.go fun T t X k => XS.aloadN X hx rfl (hb hby own_d4_5) rfl rfl k
  obtain ⟨hr5, r5, Wr5⟩ := r4.putF hx hZ hown (hw _ (List.mem_of_getElem? (i := 22) rfl)) F_value E (Or.inr ⟨(hw _ (List.mem_of_getElem? (i := 23) rfl)), rfl, hnm⟩) (hw _ (List.mem_of_getElem? (i := 10) rfl)) (ty := (.array .byte)) (by decide) rfl rfl rfl (hb hby own_d4_6) g
  have r5 : OwnW s0 n0 9 #[.val (.ref o), .val (.ref y0), .val (.int (0 : Int32))] [] hr5 0 0 := r5
  have F_value := F_value.same Wr5
  have F_coder := F_coder.other Wr5 (Or.inr (slot_ne (t := .byte) (t' := (.array .byte)) (Or.inr (hw _ (List.mem_of_getElem? (i := 25) rfl))) (Or.inr (hw _ (List.mem_of_getElem? (i := 23) rfl))) (by decide) (by decide) (by decide)))
  have E := E.wr Wr5
  have K := K.wr Wr5 (Or.inl (List.mem_of_getElem? (i := 0) rfl))
  have r6 : OwnW s0 n0 10 #[.val (.ref o), .val (.ref y0), .val (.int (0 : Int32))] [(.ref o)] hr5 0 0 := r5.go fun T t X k => XS.aloadN X hx rfl (hb hby own_d4_9) rfl rfl k
  have r7 : OwnW s0 n0 11 #[.val (.ref o), .val (.ref y0), .val (.int (0 : Int32))] [(.int (0 : Int32)), (.ref o)] hr5 0 0 := r6.go fun T t X k => XS.iloadN X hx rfl (hb hby own_d4_10) rfl k
  obtain ⟨hr8, r8, Wr8⟩ := r7.putF hx hZ hown (hw _ (List.mem_of_getElem? (i := 24) rfl)) F_coder E (Or.inr ⟨(hw _ (List.mem_of_getElem? (i := 25) rfl)), rfl, hnm⟩) (hw _ (List.mem_of_getElem? (i := 10) rfl)) (ty := .byte) (by decide) rfl rfl rfl (hb hby own_d4_11) g
  have r8 : OwnW s0 n0 14 #[.val (.ref o), .val (.ref y0), .val (.int (0 : Int32))] [] hr8 0 0 := r8
  have F_value := F_value.other Wr8 (Or.inr (slot_ne (t := (.array .byte)) (t' := .byte) (Or.inr (hw _ (List.mem_of_getElem? (i := 23) rfl))) (Or.inr (hw _ (List.mem_of_getElem? (i := 25) rfl))) (by decide) (by decide) (by decide)))
  have F_coder := F_coder.same Wr8
  have E := E.wr Wr8
  have K := K.wr Wr8 (Or.inl (List.mem_of_getElem? (i := 0) rfl))
  have r9 := r8.retV hx hret (hb hby own_d4_14)
  exact ⟨_, _, 0, 0, ⟨rfl, K, E, F_value, F_coder⟩, by decide, by decide, r9⟩
theorem own_ef_val (m : MethodId) (y0 : Int32) : entryFrame m #[(.int y0)] 1 = mkF m 0 #[.val (.int y0)] [] := by first | (simp [entryFrame, mkF, argsToLocals, Value.category]; done) | rfl
set_option maxRecDepth 65536 in
set_option maxHeartbeats 40000000 in
theorem own_val (l : Launch) (Z : State) (a0 : Array Value) (hw : ∀ d ∈ tables_1, d.before a0 Z = true) (y0 : Int32) (cs : Int32) (h0 : Heap) (n0 : Nat) (Z0 : n0 ≤ h0.size) (hy : ¬ ((255 : Int32) < y0)) (SC : Sta Z h0 "java/lang/String" "COMPACT_STRINGS" "Z" (.int cs)) (hcs : ¬ cs = (0 : Int32)) :
    OwnCon l Z (⟨"java/lang/String", "valueOf", "(C)Ljava/lang/String;"⟩ : MethodName) jdk_42_method_139_code 1 (some (.object "java/lang/String")) ({ frames := 2, cells := 2, slots := 5, locals := 40 } : Room) #[(.int y0)] h0 n0 (fun v h => ∃ o, v = some (.ref o) ∧ Ext h0 h ∧ Exa Z h o "java/lang/String") := by
  refine OwnCon.of own_pn2 (fun m => own_ef_val m y0) ?_
  intro p e s m below meth c s0 hx hby hml hown hnm hret hZ r
  have r1 : OwnW s0 n0 3 #[.val (.int y0)] [(.int cs)] h0 0 0 := r.getS hx hZ hown (hw _ (List.mem_of_getElem? (i := 4) rfl)) SC (hb hby own_d1_0)
  have r2 : OwnW s0 n0 6 #[.val (.int y0)] [] h0 0 0 := r1.go fun T t X k => XS.ifNo X hx rfl (hb hby own_d1_3) rfl ((if0 _ _).trans (feq hcs).1) k
  have r3 : OwnW s0 n0 7 #[.val (.int y0)] [(.int y0)] h0 0 0 := r2.go fun T t X k => XS.iloadN X hx rfl (hb hby own_d1_6) rfl k
  obtain ⟨vr4, hr4, r4, qr4⟩ := r3.callS hx hZ hown (hw _ (List.mem_of_getElem? (i := 5) rfl)) (hw _ (List.mem_of_getElem? (i := 6) rfl)) (hw _ (List.mem_of_getElem? (i := 7) rfl)) (hw _ (List.mem_of_getElem? (i := 8) rfl)) (by decide) (argsL := [(.int y0)]) (own_enc l Z a0 hw y0 h0 n0 hy) [] 0 (by decide) (by decide) (by rw [hml]; rfl) (lenOf own_pd0 rfl) rfl (Nat.le_of_eq rfl) (hb hby own_d1_7) (by decide) (by decide)
  obtain ⟨rfl, rfl⟩ := qr4
  have r4 : OwnW s0 n0 10 #[.val (.int y0)] [(.int (1 : Int32))] h0 0 0 := r4
  have r5 : OwnW s0 n0 13 #[.val (.int y0)] [] h0 0 0 := r4.go fun T t X k => XS.ifNo X hx rfl (hb hby own_d1_10) rfl ((if0 _ _).trans (feq (by decide)).1) k
  obtain ⟨hr6, r6, Er6, Xo, Dr6⟩ := r5.newO hx hZ hown (hw _ (List.mem_of_getElem? (i := 9) rfl)) (hw _ (List.mem_of_getElem? (i := 10) rfl)) (hw _ (List.mem_of_getElem? (i := 2) rfl)) (hb hby own_d1_13) (by decide) (by decide)
  obtain ⟨o, qo⟩ : ∃ z, z = h0.size := ⟨_, rfl⟩
  rw [← qo] at r6 Xo Dr6
  have F_value_o : Fld Z hr6 o "java/lang/String" "value" "[B" .null := Dr6 (Or.inr (hw _ (List.mem_of_getElem? (i := 23) rfl))) (ty := (.array .byte)) (by decide)
  have F_coder_o : Fld Z hr6 o "java/lang/String" "coder" "B" (.int (0 : Int32)) := Dr6 (Or.inr (hw _ (List.mem_of_getElem? (i := 25) rfl))) (ty := .byte) (by decide)
  have r6 : OwnW s0 n0 16 #[.val (.int y0)] [(.ref o)] hr6 1 4 := r6
  have zo : h0.size ≤ o := Nat.le_of_eq qo.symm
  have r7 : OwnW s0 n0 17 #[.val (.int y0)] [(.ref o), (.ref o)] hr6 1 4 := r6.go fun T t X k => XS.dup X hx rfl (hb hby own_d1_16) rfl rfl k
  have r8 : OwnW s0 n0 18 #[.val (.int y0)] [(.int y0), (.ref o), (.ref o)] hr6 1 4 := r7.go fun T t X k => XS.iloadN X hx rfl (hb hby own_d1_17) rfl k
  obtain ⟨vr9, hr9, r9, qr9⟩ := r8.callS hx hZ hown (hw _ (List.mem_of_getElem? (i := 11) rfl)) (hw _ (List.mem_of_getElem? (i := 12) rfl)) (hw _ (List.mem_of_getElem? (i := 7) rfl)) (hw _ (List.mem_of_getElem? (i := 13) rfl)) (by decide) (argsL := [(.int y0)]) (own_tob l Z a0 hw y0 hr6 n0 (Nat.le_trans Z0 Er6.1)) [(.ref o), (.ref o)] 2 (by decide) (by decide) (by rw [hml]; rfl) (lenOf own_pd1 rfl) rfl (Nat.le_of_eq rfl) (hb hby own_d1_18) (by decide) (by decide)
  obtain ⟨b, rfl, Ex, zb⟩ := qr9
  have r9 : OwnW s0 n0 21 #[.val (.int y0)] [(.ref b), (.ref o), (.ref o)] hr9 2 5 := r9
  have r10 : OwnW s0 n0 22 #[.val (.int y0)] [(.int (0 : Int32)), (.ref b), (.ref o), (.ref o)] hr9 2 5 := r9.go fun T t X k => XS.iconst X hx rfl (hb hby own_d1_21) k
  obtain ⟨vr11, hr11, r11, qr11⟩ := r10.callN hx hZ rfl hown (hw _ (List.mem_of_getElem? (i := 15) rfl)) (hw _ (List.mem_of_getElem? (i := 16) rfl)) (hw _ (List.mem_of_getElem? (i := 2) rfl)) (hw _ (List.mem_of_getElem? (i := 18) rfl)) (by decide) (a := o) (argsL := [(.ref b), (.int (0 : Int32))]) (own_sin l Z a0 hw o b hr9 n0 (Xo.ext Ex) (F_value_o.ext Ex) (F_coder_o.ext Ex) (Nat.le_trans Z0 zo)) [(.ref o)] 1 (by decide) (by decide) (by rw [hml]; rfl) (lenOf own_pd2 rfl) rfl (Nat.le_of_eq rfl) (hb hby own_d1_22) (by decide) (by decide)
  obtain ⟨rfl, K1, E1, F1, F2⟩ := qr11
  have r11 : OwnW s0 n0 25 #[.val (.int y0)] [(.ref o)] hr11 2 5 := r11
  have Ex2 := own_ext_keep (own_ext_trans Er6 Ex) K1 zo
  have r12 := r11.retW hx hret rfl rfl (Or.inr (Or.inr (Or.inr (Or.inr ⟨rfl, rfl, rfl⟩)))) (hb hby own_d1_25)
  exact ⟨_, _, 2, 5, ⟨o, rfl, Ex2, E1⟩, by decide, by decide, r12⟩
theorem own_ef_eqs (m : MethodId) (o : Addr) : entryFrame m #[(.ref o), (.ref o)] 3 = mkF m 0 #[.val (.ref o), .val (.ref o), .unset] [] := by first | (simp [entryFrame, mkF, argsToLocals, Value.category]; done) | rfl
set_option maxRecDepth 65536 in
set_option maxHeartbeats 40000000 in
theorem own_eqs (l : Launch) (Z : State) (a0 : Array Value) (hw : ∀ d ∈ tables_1, d.before a0 Z = true) (o : Addr)  (h0 : Heap) (n0 : Nat)  :
    OwnCon l Z (⟨"java/lang/String", "equals", "(Ljava/lang/Object;)Z"⟩ : MethodName) jdk_42_method_66_code 3 (some .boolean) ({ frames := 0, cells := 0, slots := 0, locals := 0 } : Room) #[(.ref o), (.ref o)] h0 n0 (fun v h => v = some (.int 1) ∧ h0 = h) := by
  refine OwnCon.of own_pn2 (fun m => own_ef_eqs m o) ?_
  intro p e s m below meth c s0 hx hby hml hown hnm hret hZ r
  have r1 : OwnW s0 n0 1 #[.val (.ref o), .val (.ref o), .unset] [(.ref o)] h0 0 0 := r.go fun T t X k => XS.aloadN X hx rfl (hb hby own_d14_0) rfl rfl k
  have r2 : OwnW s0 n0 2 #[.val (.ref o), .val (.ref o), .unset] [(.ref o), (.ref o)] h0 0 0 := r1.go fun T t X k => XS.aloadN X hx rfl (hb hby own_d14_1) rfl rfl k
  have r3 : OwnW s0 n0 5 #[.val (.ref o), .val (.ref o), .unset] [] h0 0 0 := r2.goX fun T t ls X eT k => Jvm.RoadKit.acmp X hx rfl rfl rfl (pc0 := 2) (pc' := 5) (same := true) rfl (hb hby own_d14_2) rfl (decide_eq_true rfl) (by decide) (by decide) k
  have r4 : OwnW s0 n0 6 #[.val (.ref o), .val (.ref o), .unset] [(.int (1 : Int32))] h0 0 0 := r3.go fun T t X k => XS.iconst X hx rfl (hb hby own_d14_5) k
  have r5 := r4.retN hx hret (by simp) rfl (hb hby own_d14_6)
  exact ⟨_, _, 0, 0, ⟨rfl, rfl⟩, by decide, by decide, r5⟩
theorem own_ef_rnn (m : MethodId) (u : Addr) (w : Addr) : entryFrame m #[(.ref u), (.ref w)] 2 = mkF m 0 #[.val (.ref u), .val (.ref w)] [] := by first | (simp [entryFrame, mkF, argsToLocals, Value.category]; done) | rfl
set_option maxRecDepth 65536 in
set_option maxHeartbeats 40000000 in
theorem own_rnn (l : Launch) (Z : State) (a0 : Array Value) (hw : ∀ d ∈ tables_1, d.before a0 Z = true) (u : Addr) (w : Addr)  (h0 : Heap) (n0 : Nat)  :
    OwnCon l Z (⟨"java/util/Objects", "requireNonNull", "(Ljava/lang/Object;Ljava/lang/String;)Ljava/lang/Object;"⟩ : MethodName) jdk_31_method_11_code 2 (some (.object "java/lang/Object")) ({ frames := 0, cells := 0, slots := 0, locals := 0 } : Room) #[(.ref u), (.ref w)] h0 n0 (fun v h => v = some (.ref u) ∧ h0 = h) := by
  refine OwnCon.of own_pn3 (fun m => own_ef_rnn m u w) ?_
  intro p e s m below meth c s0 hx hby hml hown hnm hret hZ r
  have r1 : OwnW s0 n0 1 #[.val (.ref u), .val (.ref w)] [(.ref u)] h0 0 0 := r.go fun T t X k => XS.aloadN X hx rfl (hb hby own_d8_0) rfl rfl k
  have r2 : OwnW s0 n0 13 #[.val (.ref u), .val (.ref w)] [] h0 0 0 := r1.go fun T t X k => XS.ifnonnullYes X hx rfl (pc0 := 1) (pc' := 13) rfl (hb hby own_d8_1) rfl (by decide) (by decide) k
  have r3 : OwnW s0 n0 14 #[.val (.ref u), .val (.ref w)] [(.ref u)] h0 0 0 := r2.go fun T t X k => XS.aloadN X hx rfl (hb hby own_d8_13) rfl rfl k
  have r4 := r3.retW hx hret rfl rfl (Or.inr (Or.inr (Or.inr (Or.inr ⟨rfl, rfl, rfl⟩)))) (hb hby own_d8_14)
  exact ⟨_, _, 0, 0, ⟨rfl, rfl⟩, by decide, by decide, r4⟩
theorem own_ef_fin (m : MethodId) (o : Addr) (y0 : Addr) (y1 : Addr) (y2 : Addr) : entryFrame m #[(.ref o), (.ref y0), (.ref y1), (.ref y2)] 4 = mkF m 0 #[.val (.ref o), .val (.ref y0), .val (.ref y1), .val (.ref y2)] [] := by first | (simp [entryFrame, mkF, argsToLocals, Value.category]; done) | rfl
set_option maxRecDepth 65536 in
set_option maxHeartbeats 40000000 in
theorem own_fin (l : Launch) (Z : State) (a0 : Array Value) (hw : ∀ d ∈ tables_1, d.before a0 Z = true) (o : Addr) (y0 : Addr) (y1 : Addr) (y2 : Addr)  (h0 : Heap) (n0 : Nat) (E : Exa Z h0 o "com/example/onnce/onnce/store/Fingerprint") (F_method : Fld Z h0 o "com/example/onnce/onnce/store/Fingerprint" "method" "Ljava/lang/String;" .null) (F_target : Fld Z h0 o "com/example/onnce/onnce/store/Fingerprint" "target" "Ljava/lang/String;" .null) (F_contentSha256 : Fld Z h0 o "com/example/onnce/onnce/store/Fingerprint" "contentSha256" "Ljava/lang/String;" .null) (g : n0 ≤ o)  :
    OwnConS l Z (⟨"com/example/onnce/onnce/store/Fingerprint", "<init>", "(Ljava/lang/String;Ljava/lang/String;Ljava/lang/String;)V"⟩ : MethodName) prog_20_method_1_code 4 none ({ frames := 2, cells := 6, slots := 112, locals := 24 } : Room) #[(.ref o), (.ref y0), (.ref y1), (.ref y2)] h0 n0 (fun v h => v = none ∧ Keep h0 h [o] ∧ Exa Z h o "com/example/onnce/onnce/store/Fingerprint" ∧ Fld Z h o "com/example/onnce/onnce/store/Fingerprint" "method" "Ljava/lang/String;" (.ref y0) ∧ Fld Z h o "com/example/onnce/onnce/store/Fingerprint" "target" "Ljava/lang/String;" (.ref y1) ∧ Fld Z h o "com/example/onnce/onnce/store/Fingerprint" "contentSha256" "Ljava/lang/String;" (.ref y2)) := by
  refine OwnConS.of own_pn4 (fun m => own_ef_fin m o y0 y1 y2) ?_
  intro p e s m below meth c s0 vm0 kk0 hx hby hml hown hnm hret hZ hS hk r
  have K : Keep h0 h0 [o] := Keep.refl _ _
  have r1 : OwnW s0 n0 1 #[.val (.ref o), .val (.ref y0), .val (.ref y1), .val (.ref y2)] [(.ref o)] h0 0 0 := r.go fun T t X k => XS.aloadN X hx rfl (hb hby own_d6_0) rfl rfl k
  obtain ⟨vr2, hr2, r2, qr2⟩ := r1.callN hx hZ rfl hown (hw _ (List.mem_of_getElem? (i := 32) rfl)) (hw _ (List.mem_of_getElem? (i := 33) rfl)) (hw _ (List.mem_of_getElem? (i := 35) rfl)) (hw _ (List.mem_of_getElem? (i := 36) rfl)) (by decide) (a := o) (argsL := []) (own_rec l Z a0 hw o h0 n0) [] 0 (by decide) (by decide) (by rw [hml]; rfl) (lenOf own_pd3 rfl) rfl (Nat.le_of_eq rfl) (hb hby own_d6_1) (by decide) (by decide)
  obtain ⟨rfl, rfl⟩ := qr2
  have r2 : OwnW s0 n0 4 #[.val (.ref o), .val (.ref y0), .val (.ref y1), .val (.ref y2)] [] h0 0 0 := r2
  have r3 : OwnW s0 n0 5 #[.val (.ref o), .val (.ref y0), .val (.ref y1), .val (.ref y2)] [(.ref y0)] h0 0 0 := r2.go fun T t X k => XS.aloadN X hx rfl (hb hby own_d6_4) rfl rfl k
  obtain ⟨ar4, hr4, vmr4, kkr4, hS, hk, hZ, hown, Er4, r4⟩ := r3.ldcS hx hZ hown hS hk (hw _ (List.mem_of_getElem? (i := 38) rfl)) (own_wS a0 Z hw) (hb hby own_d6_5) (n := 24) (by decide) (by decide) (by decide) (by decide)
  have r4 : OwnW s0 n0 7 #[.val (.ref o), .val (.ref y0), .val (.ref y1), .val (.ref y2)] [(.ref ar4), (.ref y0)] hr4 2 28 := r4
  have F_method := F_method.ext Er4
  have F_target := F_target.ext Er4
  have F_contentSha256 := F_contentSha256.ext Er4
  have E := E.ext Er4
  have K := K.ext Er4
  obtain ⟨vr5, hr5, r5, qr5⟩ := r4.callS hx hZ hown (hw _ (List.mem_of_getElem? (i := 41) rfl)) (hw _ (List.mem_of_getElem? (i := 42) rfl)) (hw _ (List.mem_of_getElem? (i := 43) rfl)) (hw _ (List.mem_of_getElem? (i := 44) rfl)) (by decide) (argsL := [(.ref y0), (.ref ar4)]) (own_rnn l Z a0 hw y0 ar4 hr4 n0) [] 0 (by decide) (by decide) (by rw [hml]; rfl) (lenOf own_pd4 rfl) rfl (Nat.le_of_eq rfl) (hb hby own_d6_7) (by decide) (by decide)
  obtain ⟨rfl, rfl⟩ := qr5
  have r5 : OwnW s0 n0 10 #[.val (.ref o), .val (.ref y0), .val (.ref y1), .val (.ref y2)] [(.ref y0)] hr4 2 28 := r5
  have r6 : OwnW s0 n0 11 #[.val (.ref o), .val (.ref y0), .val (.ref y1), .val (.ref y2)] [] hr4 2 28 := r5.go fun T t X k => XS.pop X hx rfl (hb hby own_d6_10) rfl rfl k
  have r7 : OwnW s0 n0 12 #[.val (.ref o), .val (.ref y0), .val (.ref y1), .val (.ref y2)] [(.ref y1)] hr4 2 28 := r6.go fun T t X k => XS.aloadN X hx rfl (hb hby own_d6_11) rfl rfl k
  obtain ⟨ar8, hr8, vmr8, kkr8, hS, hk, hZ, hown, Er8, r8⟩ := r7.ldcS hx hZ hown hS hk (hw _ (List.mem_of_getElem? (i := 45) rfl)) (own_wS a0 Z hw) (hb hby own_d6_12) (n := 24) (by decide) (by decide) (by decide) (by decide)
  have r8 : OwnW s0 n0 14 #[.val (.ref o), .val (.ref y0), .val (.ref y1), .val (.ref y2)] [(.ref ar8), (.ref y1)] hr8 4 56 := r8
  have F_method := F_method.ext Er8
  have F_target := F_target.ext Er8
  have F_contentSha256 := F_contentSha256.ext Er8
  have E := E.ext Er8
  have K := K.ext Er8
  obtain ⟨vr9, hr9, r9, qr9⟩ := r8.callS hx hZ hown (hw _ (List.mem_of_getElem? (i := 41) rfl)) (hw _ (List.mem_of_getElem? (i := 42) rfl)) (hw _ (List.mem_of_getElem? (i := 43) rfl)) (hw _ (List.mem_of_getElem? (i := 44) rfl)) (by decide) (argsL := [(.ref y1), (.ref ar8)]) (own_rnn l Z a0 hw y1 ar8 hr8 n0) [] 0 (by decide) (by decide) (by rw [hml]; rfl) (lenOf own_pd4 rfl) rfl (Nat.le_of_eq rfl) (hb hby own_d6_14) (by decide) (by decide)
  obtain ⟨rfl, rfl⟩ := qr9
  have r9 : OwnW s0 n0 17 #[.val (.ref o), .val (.ref y0), .val (.ref y1), .val (.ref y2)] [(.ref y1)] hr8 4 56 := r9
  have r10 : OwnW s0 n0 18 #[.val (.ref o), .val (.ref y0), .val (.ref y1), .val (.ref y2)] [] hr8 4 56 := r9.go fun T t X k => XS.pop X hx rfl (hb hby own_d6_17) rfl rfl k
  have r11 : OwnW s0 n0 19 #[.val (.ref o), .val (.ref y0), .val (.ref y1), .val (.ref y2)] [(.ref y2)] hr8 4 56 := r10.go fun T t X k => XS.aloadN X hx rfl (hb hby own_d6_18) rfl rfl k
  obtain ⟨ar12, hr12, vmr12, kkr12, hS, hk, hZ, hown, Er12, r12⟩ := r11.ldcS hx hZ hown hS hk (hw _ (List.mem_of_getElem? (i := 46) rfl)) (own_wS a0 Z hw) (hb hby own_d6_19) (n := 52) (by decide) (by decide) (by decide) (by decide)
  have r12 : OwnW s0 n0 21 #[.val (.ref o), .val (.ref y0), .val (.ref y1), .val (.ref y2)] [(.ref ar12), (.ref y2)] hr12 6 112 := r12
  have F_method := F_method.ext Er12
  have F_target := F_target.ext Er12
  have F_contentSha256 := F_contentSha256.ext Er12
  have E := E.ext Er12
  have K := K.ext Er12
  obtain ⟨vr13, hr13, r13, qr13⟩ := r12.callS hx hZ hown (hw _ (List.mem_of_getElem? (i := 41) rfl)) (hw _ (List.mem_of_getElem? (i := 42) rfl)) (hw _ (List.mem_of_getElem? (i := 43) rfl)) (hw _ (List.mem_of_getElem? (i := 44) rfl)) (by decide) (argsL := [(.ref y2), (.ref ar12)]) (own_rnn l Z a0 hw y2 ar12 hr12 n0) [] 0 (by decide) (by decide) (by rw [hml]; rfl) (lenOf own_pd4 rfl) rfl (Nat.le_of_eq rfl) (hb hby own_d6_21) (by decide) (by decide)
  obtain ⟨rfl, rfl⟩ := qr13
  have r13 : OwnW s0 n0 24 #[.val (.ref o), .val (.ref y0), .val (.ref y1), .val (.ref y2)] [(.ref y2)] hr12 6 112 := r13
  have r14 : OwnW s0 n0 25 #[.val (.ref o), .val (.ref y0), .val (.ref y1), .val (.ref y2)] [] hr12 6 112 := r13.go fun T t X k => XS.pop X hx rfl (hb hby own_d6_24) rfl rfl k
  have r15 : OwnW s0 n0 26 #[.val (.ref o), .val (.ref y0), .val (.ref y1), .val (.ref y2)] [(.ref o)] hr12 6 112 := r14.go fun T t X k => XS.aloadN X hx rfl (hb hby own_d6_25) rfl rfl k
  have r16 : OwnW s0 n0 27 #[.val (.ref o), .val (.ref y0), .val (.ref y1), .val (.ref y2)] [(.ref y0), (.ref o)] hr12 6 112 := r15.go fun T t X k => XS.aloadN X hx rfl (hb hby own_d6_26) rfl rfl k
  obtain ⟨hr17, r17, Wr17⟩ := r16.putF hx hZ hown (hw _ (List.mem_of_getElem? (i := 47) rfl)) F_method E (Or.inr ⟨(hw _ (List.mem_of_getElem? (i := 48) rfl)), rfl, hnm⟩) (hw _ (List.mem_of_getElem? (i := 27) rfl)) (ty := (.object "java/lang/String")) (by decide) rfl rfl rfl (hb hby own_d6_27) g
  have r17 : OwnW s0 n0 30 #[.val (.ref o), .val (.ref y0), .val (.ref y1), .val (.ref y2)] [] hr17 6 112 := r17
  have F_method := F_method.same Wr17
  have F_target := F_target.other Wr17 (Or.inr (slot_ne (t := (.object "java/lang/String")) (t' := (.object "java/lang/String")) (Or.inr (hw _ (List.mem_of_getElem? (i := 50) rfl))) (Or.inr (hw _ (List.mem_of_getElem? (i := 48) rfl))) (by decide) (by decide) (by decide)))
  have F_contentSha256 := F_contentSha256.other Wr17 (Or.inr (slot_ne (t := (.object "java/lang/String")) (t' := (.object "java/lang/String")) (Or.inr (hw _ (List.mem_of_getElem? (i := 52) rfl))) (Or.inr (hw _ (List.mem_of_getElem? (i := 48) rfl))) (by decide) (by decide) (by decide)))
  have hk := Nat.le_trans hk (Nat.le_of_eq Wr17.size.symm)
  have E := E.wr Wr17
  have K := K.wr Wr17 (Or.inl (List.mem_of_getElem? (i := 0) rfl))
  have r18 : OwnW s0 n0 31 #[.val (.ref o), .val (.ref y0), .val (.ref y1), .val (.ref y2)] [(.ref o)] hr17 6 112 := r17.go fun T t X k => XS.aloadN X hx rfl (hb hby own_d6_30) rfl rfl k
  have r19 : OwnW s0 n0 32 #[.val (.ref o), .val (.ref y0), .val (.ref y1), .val (.ref y2)] [(.ref y1), (.ref o)] hr17 6 112 := r18.go fun T t X k => XS.aloadN X hx rfl (hb hby own_d6_31) rfl rfl k
  obtain ⟨hr20, r20, Wr20⟩ := r19.putF hx hZ hown (hw _ (List.mem_of_getElem? (i := 49) rfl)) F_target E (Or.inr ⟨(hw _ (List.mem_of_getElem? (i := 50) rfl)), rfl, hnm⟩) (hw _ (List.mem_of_getElem? (i := 27) rfl)) (ty := (.object "java/lang/String")) (by decide) rfl rfl rfl (hb hby own_d6_32) g
  have r20 : OwnW s0 n0 35 #[.val (.ref o), .val (.ref y0), .val (.ref y1), .val (.ref y2)] [] hr20 6 112 := r20
  have F_method := F_method.other Wr20 (Or.inr (slot_ne (t := (.object "java/lang/String")) (t' := (.object "java/lang/String")) (Or.inr (hw _ (List.mem_of_getElem? (i := 48) rfl))) (Or.inr (hw _ (List.mem_of_getElem? (i := 50) rfl))) (by decide) (by decide) (by decide)))
  have F_target := F_target.same Wr20
  have F_contentSha256 := F_contentSha256.other Wr20 (Or.inr (slot_ne (t := (.object "java/lang/String")) (t' := (.object "java/lang/String")) (Or.inr (hw _ (List.mem_of_getElem? (i := 52) rfl))) (Or.inr (hw _ (List.mem_of_getElem? (i := 50) rfl))) (by decide) (by decide) (by decide)))
  have hk := Nat.le_trans hk (Nat.le_of_eq Wr20.size.symm)
  have E := E.wr Wr20
  have K := K.wr Wr20 (Or.inl (List.mem_of_getElem? (i := 0) rfl))
  have r21 : OwnW s0 n0 36 #[.val (.ref o), .val (.ref y0), .val (.ref y1), .val (.ref y2)] [(.ref o)] hr20 6 112 := r20.go fun T t X k => XS.aloadN X hx rfl (hb hby own_d6_35) rfl rfl k
  have r22 : OwnW s0 n0 37 #[.val (.ref o), .val (.ref y0), .val (.ref y1), .val (.ref y2)] [(.ref y2), (.ref o)] hr20 6 112 := r21.go fun T t X k => XS.aloadN X hx rfl (hb hby own_d6_36) rfl rfl k
  obtain ⟨hr23, r23, Wr23⟩ := r22.putF hx hZ hown (hw _ (List.mem_of_getElem? (i := 51) rfl)) F_contentSha256 E (Or.inr ⟨(hw _ (List.mem_of_getElem? (i := 52) rfl)), rfl, hnm⟩) (hw _ (List.mem_of_getElem? (i := 27) rfl)) (ty := (.object "java/lang/String")) (by decide) rfl rfl rfl (hb hby own_d6_37) g
  have r23 : OwnW s0 n0 40 #[.val (.ref o), .val (.ref y0), .val (.ref y1), .val (.ref y2)] [] hr23 6 112 := r23
  have F_method := F_method.other Wr23 (Or.inr (slot_ne (t := (.object "java/lang/String")) (t' := (.object "java/lang/String")) (Or.inr (hw _ (List.mem_of_getElem? (i := 48) rfl))) (Or.inr (hw _ (List.mem_of_getElem? (i := 52) rfl))) (by decide) (by decide) (by decide)))
  have F_target := F_target.other Wr23 (Or.inr (slot_ne (t := (.object "java/lang/String")) (t' := (.object "java/lang/String")) (Or.inr (hw _ (List.mem_of_getElem? (i := 50) rfl))) (Or.inr (hw _ (List.mem_of_getElem? (i := 52) rfl))) (by decide) (by decide) (by decide)))
  have F_contentSha256 := F_contentSha256.same Wr23
  have hk := Nat.le_trans hk (Nat.le_of_eq Wr23.size.symm)
  have E := E.wr Wr23
  have K := K.wr Wr23 (Or.inl (List.mem_of_getElem? (i := 0) rfl))
  have r24 := r23.retV hx hret (hb hby own_d6_40)
  exact ⟨_, _, 6, 112, _, _, ⟨rfl, K, E, F_method, F_target, F_contentSha256⟩, by decide, by decide, hS, hk, r24⟩
theorem own_ef_cin (m : MethodId) (o : Addr) (y0 : Addr) (y1 : Int64) (y2 : Int64) : entryFrame m #[(.ref o), (.ref y0), (.long y1), (.long y2)] 6 = mkF m 0 #[.val (.ref o), .val (.ref y0), .val (.long y1), .second, .val (.long y2), .second] [] := by first | (simp [entryFrame, mkF, argsToLocals, Value.category]; done) | rfl
set_option maxRecDepth 65536 in
set_option maxHeartbeats 40000000 in
theorem own_cin (l : Launch) (Z : State) (a0 : Array Value) (hw : ∀ d ∈ tables_1, d.before a0 Z = true) (o : Addr) (y0 : Addr) (y1 : Int64) (y2 : Int64)  (h0 : Heap) (n0 : Nat) (E : Exa Z h0 o "com/example/onnce/onnce/store/KeyRecord$Claimed") (F_fingerprint : Fld Z h0 o "com/example/onnce/onnce/store/KeyRecord$Claimed" "fingerprint" "Lcom/example/onnce/onnce/store/Fingerprint;" .null) (F_opening : Fld Z h0 o "com/example/onnce/onnce/store/KeyRecord$Claimed" "opening" "J" (.long (0 : Int64))) (F_leaseEnd : Fld Z h0 o "com/example/onnce/onnce/store/KeyRecord$Claimed" "leaseEnd" "J" (.long (0 : Int64))) (g : n0 ≤ o)  :
    OwnConS l Z (⟨"com/example/onnce/onnce/store/KeyRecord$Claimed", "<init>", "(Lcom/example/onnce/onnce/store/Fingerprint;JJ)V"⟩ : MethodName) prog_22_method_1_code 6 none ({ frames := 2, cells := 2, slots := 48, locals := 24 } : Room) #[(.ref o), (.ref y0), (.long y1), (.long y2)] h0 n0 (fun v h => v = none ∧ Keep h0 h [o] ∧ Exa Z h o "com/example/onnce/onnce/store/KeyRecord$Claimed" ∧ Fld Z h o "com/example/onnce/onnce/store/KeyRecord$Claimed" "fingerprint" "Lcom/example/onnce/onnce/store/Fingerprint;" (.ref y0) ∧ Fld Z h o "com/example/onnce/onnce/store/KeyRecord$Claimed" "opening" "J" (.long y1) ∧ Fld Z h o "com/example/onnce/onnce/store/KeyRecord$Claimed" "leaseEnd" "J" (.long y2)) := by
  refine OwnConS.of own_pn5 (fun m => own_ef_cin m o y0 y1 y2) ?_
  intro p e s m below meth c s0 vm0 kk0 hx hby hml hown hnm hret hZ hS hk r
  have K : Keep h0 h0 [o] := Keep.refl _ _
  have r1 : OwnW s0 n0 1 #[.val (.ref o), .val (.ref y0), .val (.long y1), .second, .val (.long y2), .second] [(.ref o)] h0 0 0 := r.go fun T t X k => XS.aloadN X hx rfl (hb hby own_d9_0) rfl rfl k
  obtain ⟨vr2, hr2, r2, qr2⟩ := r1.callN hx hZ rfl hown (hw _ (List.mem_of_getElem? (i := 59) rfl)) (hw _ (List.mem_of_getElem? (i := 33) rfl)) (hw _ (List.mem_of_getElem? (i := 35) rfl)) (hw _ (List.mem_of_getElem? (i := 36) rfl)) (by decide) (a := o) (argsL := []) (own_rec l Z a0 hw o h0 n0) [] 0 (by decide) (by decide) (by rw [hml]; rfl) (lenOf own_pd3 rfl) rfl (Nat.le_of_eq rfl) (hb hby own_d9_1) (by decide) (by decide)
  obtain ⟨rfl, rfl⟩ := qr2
  have r2 : OwnW s0 n0 4 #[.val (.ref o), .val (.ref y0), .val (.long y1), .second, .val (.long y2), .second] [] h0 0 0 := r2
  have r3 : OwnW s0 n0 5 #[.val (.ref o), .val (.ref y0), .val (.long y1), .second, .val (.long y2), .second] [(.ref y0)] h0 0 0 := r2.go fun T t X k => XS.aloadN X hx rfl (hb hby own_d9_4) rfl rfl k
  obtain ⟨ar4, hr4, vmr4, kkr4, hS, hk, hZ, hown, Er4, r4⟩ := r3.ldcS hx hZ hown hS hk (hw _ (List.mem_of_getElem? (i := 60) rfl)) (own_wS a0 Z hw) (hb hby own_d9_5) (n := 44) (by decide) (by decide) (by decide) (by decide)
  have r4 : OwnW s0 n0 7 #[.val (.ref o), .val (.ref y0), .val (.long y1), .second, .val (.long y2), .second] [(.ref ar4), (.ref y0)] hr4 2 48 := r4
  have F_fingerprint := F_fingerprint.ext Er4
  have F_opening := F_opening.ext Er4
  have F_leaseEnd := F_leaseEnd.ext Er4
  have E := E.ext Er4
  have K := K.ext Er4
  obtain ⟨vr5, hr5, r5, qr5⟩ := r4.callS hx hZ hown (hw _ (List.mem_of_getElem? (i := 61) rfl)) (hw _ (List.mem_of_getElem? (i := 42) rfl)) (hw _ (List.mem_of_getElem? (i := 43) rfl)) (hw _ (List.mem_of_getElem? (i := 44) rfl)) (by decide) (argsL := [(.ref y0), (.ref ar4)]) (own_rnn l Z a0 hw y0 ar4 hr4 n0) [] 0 (by decide) (by decide) (by rw [hml]; rfl) (lenOf own_pd4 rfl) rfl (Nat.le_of_eq rfl) (hb hby own_d9_7) (by decide) (by decide)
  obtain ⟨rfl, rfl⟩ := qr5
  have r5 : OwnW s0 n0 10 #[.val (.ref o), .val (.ref y0), .val (.long y1), .second, .val (.long y2), .second] [(.ref y0)] hr4 2 48 := r5
  have r6 : OwnW s0 n0 11 #[.val (.ref o), .val (.ref y0), .val (.long y1), .second, .val (.long y2), .second] [] hr4 2 48 := r5.go fun T t X k => XS.pop X hx rfl (hb hby own_d9_10) rfl rfl k
  have r7 : OwnW s0 n0 12 #[.val (.ref o), .val (.ref y0), .val (.long y1), .second, .val (.long y2), .second] [(.ref o)] hr4 2 48 := r6.go fun T t X k => XS.aloadN X hx rfl (hb hby own_d9_11) rfl rfl k
  have r8 : OwnW s0 n0 13 #[.val (.ref o), .val (.ref y0), .val (.long y1), .second, .val (.long y2), .second] [(.ref y0), (.ref o)] hr4 2 48 := r7.go fun T t X k => XS.aloadN X hx rfl (hb hby own_d9_12) rfl rfl k
  obtain ⟨hr9, r9, Wr9⟩ := r8.putF hx hZ hown (hw _ (List.mem_of_getElem? (i := 62) rfl)) F_fingerprint E (Or.inr ⟨(hw _ (List.mem_of_getElem? (i := 63) rfl)), rfl, hnm⟩) (hw _ (List.mem_of_getElem? (i := 54) rfl)) (ty := (.object "com/example/onnce/onnce/store/Fingerprint")) (by decide) rfl rfl rfl (hb hby own_d9_13) g
  have r9 : OwnW s0 n0 16 #[.val (.ref o), .val (.ref y0), .val (.long y1), .second, .val (.long y2), .second] [] hr9 2 48 := r9
  have F_fingerprint := F_fingerprint.same Wr9
  have F_opening := F_opening.other Wr9 (Or.inr (slot_ne (t := .long) (t' := (.object "com/example/onnce/onnce/store/Fingerprint")) (Or.inr (hw _ (List.mem_of_getElem? (i := 65) rfl))) (Or.inr (hw _ (List.mem_of_getElem? (i := 63) rfl))) (by decide) (by decide) (by decide)))
  have F_leaseEnd := F_leaseEnd.other Wr9 (Or.inr (slot_ne (t := .long) (t' := (.object "com/example/onnce/onnce/store/Fingerprint")) (Or.inr (hw _ (List.mem_of_getElem? (i := 67) rfl))) (Or.inr (hw _ (List.mem_of_getElem? (i := 63) rfl))) (by decide) (by decide) (by decide)))
  have hk := Nat.le_trans hk (Nat.le_of_eq Wr9.size.symm)
  have E := E.wr Wr9
  have K := K.wr Wr9 (Or.inl (List.mem_of_getElem? (i := 0) rfl))
  have r10 : OwnW s0 n0 17 #[.val (.ref o), .val (.ref y0), .val (.long y1), .second, .val (.long y2), .second] [(.ref o)] hr9 2 48 := r9.go fun T t X k => XS.aloadN X hx rfl (hb hby own_d9_16) rfl rfl k
  have r11 : OwnW s0 n0 18 #[.val (.ref o), .val (.ref y0), .val (.long y1), .second, .val (.long y2), .second] [(.long y1), (.ref o)] hr9 2 48 := r10.go fun T t X k => XS.lloadN X hx rfl (hb hby own_d9_17) rfl k
  obtain ⟨hr12, r12, Wr12⟩ := r11.putF hx hZ hown (hw _ (List.mem_of_getElem? (i := 64) rfl)) F_opening E (Or.inr ⟨(hw _ (List.mem_of_getElem? (i := 65) rfl)), rfl, hnm⟩) (hw _ (List.mem_of_getElem? (i := 54) rfl)) (ty := .long) (by decide) rfl rfl rfl (hb hby own_d9_18) g
  have r12 : OwnW s0 n0 21 #[.val (.ref o), .val (.ref y0), .val (.long y1), .second, .val (.long y2), .second] [] hr12 2 48 := r12
  have F_fingerprint := F_fingerprint.other Wr12 (Or.inr (slot_ne (t := (.object "com/example/onnce/onnce/store/Fingerprint")) (t' := .long) (Or.inr (hw _ (List.mem_of_getElem? (i := 63) rfl))) (Or.inr (hw _ (List.mem_of_getElem? (i := 65) rfl))) (by decide) (by decide) (by decide)))
  have F_opening := F_opening.same Wr12
  have F_leaseEnd := F_leaseEnd.other Wr12 (Or.inr (slot_ne (t := .long) (t' := .long) (Or.inr (hw _ (List.mem_of_getElem? (i := 67) rfl))) (Or.inr (hw _ (List.mem_of_getElem? (i := 65) rfl))) (by decide) (by decide) (by decide)))
  have hk := Nat.le_trans hk (Nat.le_of_eq Wr12.size.symm)
  have E := E.wr Wr12
  have K := K.wr Wr12 (Or.inl (List.mem_of_getElem? (i := 0) rfl))
  have r13 : OwnW s0 n0 22 #[.val (.ref o), .val (.ref y0), .val (.long y1), .second, .val (.long y2), .second] [(.ref o)] hr12 2 48 := r12.go fun T t X k => XS.aloadN X hx rfl (hb hby own_d9_21) rfl rfl k
  have r14 : OwnW s0 n0 24 #[.val (.ref o), .val (.ref y0), .val (.long y1), .second, .val (.long y2), .second] [(.long y2), (.ref o)] hr12 2 48 := r13.go fun T t X k => XS.lload X hx rfl (hb hby own_d9_22) rfl k
  obtain ⟨hr15, r15, Wr15⟩ := r14.putF hx hZ hown (hw _ (List.mem_of_getElem? (i := 66) rfl)) F_leaseEnd E (Or.inr ⟨(hw _ (List.mem_of_getElem? (i := 67) rfl)), rfl, hnm⟩) (hw _ (List.mem_of_getElem? (i := 54) rfl)) (ty := .long) (by decide) rfl rfl rfl (hb hby own_d9_24) g
  have r15 : OwnW s0 n0 27 #[.val (.ref o), .val (.ref y0), .val (.long y1), .second, .val (.long y2), .second] [] hr15 2 48 := r15
  have F_fingerprint := F_fingerprint.other Wr15 (Or.inr (slot_ne (t := (.object "com/example/onnce/onnce/store/Fingerprint")) (t' := .long) (Or.inr (hw _ (List.mem_of_getElem? (i := 63) rfl))) (Or.inr (hw _ (List.mem_of_getElem? (i := 67) rfl))) (by decide) (by decide) (by decide)))
  have F_opening := F_opening.other Wr15 (Or.inr (slot_ne (t := .long) (t' := .long) (Or.inr (hw _ (List.mem_of_getElem? (i := 65) rfl))) (Or.inr (hw _ (List.mem_of_getElem? (i := 67) rfl))) (by decide) (by decide) (by decide)))
  have F_leaseEnd := F_leaseEnd.same Wr15
  have hk := Nat.le_trans hk (Nat.le_of_eq Wr15.size.symm)
  have E := E.wr Wr15
  have K := K.wr Wr15 (Or.inl (List.mem_of_getElem? (i := 0) rfl))
  have r16 := r15.retV hx hret (hb hby own_d9_27)
  exact ⟨_, _, 2, 48, _, _, ⟨rfl, K, E, F_fingerprint, F_opening, F_leaseEnd⟩, by decide, by decide, hS, hk, r16⟩
theorem own_ef_oin (m : MethodId) (o : Addr) (y0 : Addr) : entryFrame m #[(.ref o), (.ref y0)] 2 = mkF m 0 #[.val (.ref o), .val (.ref y0)] [] := by first | (simp [entryFrame, mkF, argsToLocals, Value.category]; done) | rfl
set_option maxRecDepth 65536 in
set_option maxHeartbeats 40000000 in
theorem own_oin (l : Launch) (Z : State) (a0 : Array Value) (hw : ∀ d ∈ tables_1, d.before a0 Z = true) (o : Addr) (y0 : Addr)  (h0 : Heap) (n0 : Nat) (E : Exa Z h0 o "com/example/onnce/onnce/store/Claim$Outstanding") (F_fingerprint : Fld Z h0 o "com/example/onnce/onnce/store/Claim$Outstanding" "fingerprint" "Lcom/example/onnce/onnce/store/Fingerprint;" .null) (g : n0 ≤ o)  :
    OwnConS l Z (⟨"com/example/onnce/onnce/store/Claim$Outstanding", "<init>", "(Lcom/example/onnce/onnce/store/Fingerprint;)V"⟩ : MethodName) prog_18_method_1_code 2 none ({ frames := 2, cells := 2, slots := 48, locals := 24 } : Room) #[(.ref o), (.ref y0)] h0 n0 (fun v h => v = none ∧ Keep h0 h [o] ∧ Exa Z h o "com/example/onnce/onnce/store/Claim$Outstanding" ∧ Fld Z h o "com/example/onnce/onnce/store/Claim$Outstanding" "fingerprint" "Lcom/example/onnce/onnce/store/Fingerprint;" (.ref y0)) := by
  refine OwnConS.of own_pn6 (fun m => own_ef_oin m o y0) ?_
  intro p e s m below meth c s0 vm0 kk0 hx hby hml hown hnm hret hZ hS hk r
  have K : Keep h0 h0 [o] := Keep.refl _ _
  have r1 : OwnW s0 n0 1 #[.val (.ref o), .val (.ref y0)] [(.ref o)] h0 0 0 := r.go fun T t X k => XS.aloadN X hx rfl (hb hby own_d11_0) rfl rfl k
  obtain ⟨vr2, hr2, r2, qr2⟩ := r1.callN hx hZ rfl hown (hw _ (List.mem_of_getElem? (i := 79) rfl)) (hw _ (List.mem_of_getElem? (i := 33) rfl)) (hw _ (List.mem_of_getElem? (i := 35) rfl)) (hw _ (List.mem_of_getElem? (i := 36) rfl)) (by decide) (a := o) (argsL := []) (own_rec l Z a0 hw o h0 n0) [] 0 (by decide) (by decide) (by rw [hml]; rfl) (lenOf own_pd3 rfl) rfl (Nat.le_of_eq rfl) (hb hby own_d11_1) (by decide) (by decide)
  obtain ⟨rfl, rfl⟩ := qr2
  have r2 : OwnW s0 n0 4 #[.val (.ref o), .val (.ref y0)] [] h0 0 0 := r2
  have r3 : OwnW s0 n0 5 #[.val (.ref o), .val (.ref y0)] [(.ref y0)] h0 0 0 := r2.go fun T t X k => XS.aloadN X hx rfl (hb hby own_d11_4) rfl rfl k
  obtain ⟨ar4, hr4, vmr4, kkr4, hS, hk, hZ, hown, Er4, r4⟩ := r3.ldcS hx hZ hown hS hk (hw _ (List.mem_of_getElem? (i := 80) rfl)) (own_wS a0 Z hw) (hb hby own_d11_5) (n := 44) (by decide) (by decide) (by decide) (by decide)
  have r4 : OwnW s0 n0 7 #[.val (.ref o), .val (.ref y0)] [(.ref ar4), (.ref y0)] hr4 2 48 := r4
  have F_fingerprint := F_fingerprint.ext Er4
  have E := E.ext Er4
  have K := K.ext Er4
  obtain ⟨vr5, hr5, r5, qr5⟩ := r4.callS hx hZ hown (hw _ (List.mem_of_getElem? (i := 81) rfl)) (hw _ (List.mem_of_getElem? (i := 42) rfl)) (hw _ (List.mem_of_getElem? (i := 43) rfl)) (hw _ (List.mem_of_getElem? (i := 44) rfl)) (by decide) (argsL := [(.ref y0), (.ref ar4)]) (own_rnn l Z a0 hw y0 ar4 hr4 n0) [] 0 (by decide) (by decide) (by rw [hml]; rfl) (lenOf own_pd4 rfl) rfl (Nat.le_of_eq rfl) (hb hby own_d11_7) (by decide) (by decide)
  obtain ⟨rfl, rfl⟩ := qr5
  have r5 : OwnW s0 n0 10 #[.val (.ref o), .val (.ref y0)] [(.ref y0)] hr4 2 48 := r5
  have r6 : OwnW s0 n0 11 #[.val (.ref o), .val (.ref y0)] [] hr4 2 48 := r5.go fun T t X k => XS.pop X hx rfl (hb hby own_d11_10) rfl rfl k
  have r7 : OwnW s0 n0 12 #[.val (.ref o), .val (.ref y0)] [(.ref o)] hr4 2 48 := r6.go fun T t X k => XS.aloadN X hx rfl (hb hby own_d11_11) rfl rfl k
  have r8 : OwnW s0 n0 13 #[.val (.ref o), .val (.ref y0)] [(.ref y0), (.ref o)] hr4 2 48 := r7.go fun T t X k => XS.aloadN X hx rfl (hb hby own_d11_12) rfl rfl k
  obtain ⟨hr9, r9, Wr9⟩ := r8.putF hx hZ hown (hw _ (List.mem_of_getElem? (i := 82) rfl)) F_fingerprint E (Or.inr ⟨(hw _ (List.mem_of_getElem? (i := 83) rfl)), rfl, hnm⟩) (hw _ (List.mem_of_getElem? (i := 74) rfl)) (ty := (.object "com/example/onnce/onnce/store/Fingerprint")) (by decide) rfl rfl rfl (hb hby own_d11_13) g
  have r9 : OwnW s0 n0 16 #[.val (.ref o), .val (.ref y0)] [] hr9 2 48 := r9
  have F_fingerprint := F_fingerprint.same Wr9
  have hk := Nat.le_trans hk (Nat.le_of_eq Wr9.size.symm)
  have E := E.wr Wr9
  have K := K.wr Wr9 (Or.inl (List.mem_of_getElem? (i := 0) rfl))
  have r10 := r9.retV hx hret (hb hby own_d11_16)
  exact ⟨_, _, 2, 48, _, _, ⟨rfl, K, E, F_fingerprint⟩, by decide, by decide, hS, hk, r10⟩
theorem own_ef_ain (m : MethodId) (o : Addr) (y0 : Addr) : entryFrame m #[(.ref o), (.ref y0)] 2 = mkF m 0 #[.val (.ref o), .val (.ref y0)] [] := by first | (simp [entryFrame, mkF, argsToLocals, Value.category]; done) | rfl
set_option maxRecDepth 65536 in
set_option maxHeartbeats 40000000 in
theorem own_ain (l : Launch) (Z : State) (a0 : Array Value) (hw : ∀ d ∈ tables_1, d.before a0 Z = true) (o : Addr) (y0 : Addr)  (h0 : Heap) (n0 : Nat) (E : Exa Z h0 o "com/example/onnce/onnce/store/Claim$Abandoned") (F_fingerprint : Fld Z h0 o "com/example/onnce/onnce/store/Claim$Abandoned" "fingerprint" "Lcom/example/onnce/onnce/store/Fingerprint;" .null) (g : n0 ≤ o)  :
    OwnConS l Z (⟨"com/example/onnce/onnce/store/Claim$Abandoned", "<init>", "(Lcom/example/onnce/onnce/store/Fingerprint;)V"⟩ : MethodName) prog_15_method_1_code 2 none ({ frames := 2, cells := 2, slots := 48, locals := 24 } : Room) #[(.ref o), (.ref y0)] h0 n0 (fun v h => v = none ∧ Keep h0 h [o] ∧ Exa Z h o "com/example/onnce/onnce/store/Claim$Abandoned" ∧ Fld Z h o "com/example/onnce/onnce/store/Claim$Abandoned" "fingerprint" "Lcom/example/onnce/onnce/store/Fingerprint;" (.ref y0)) := by
  refine OwnConS.of own_pn7 (fun m => own_ef_ain m o y0) ?_
  intro p e s m below meth c s0 vm0 kk0 hx hby hml hown hnm hret hZ hS hk r
  have K : Keep h0 h0 [o] := Keep.refl _ _
  have r1 : OwnW s0 n0 1 #[.val (.ref o), .val (.ref y0)] [(.ref o)] h0 0 0 := r.go fun T t X k => XS.aloadN X hx rfl (hb hby own_d20_0) rfl rfl k
  obtain ⟨vr2, hr2, r2, qr2⟩ := r1.callN hx hZ rfl hown (hw _ (List.mem_of_getElem? (i := 136) rfl)) (hw _ (List.mem_of_getElem? (i := 33) rfl)) (hw _ (List.mem_of_getElem? (i := 35) rfl)) (hw _ (List.mem_of_getElem? (i := 36) rfl)) (by decide) (a := o) (argsL := []) (own_rec l Z a0 hw o h0 n0) [] 0 (by decide) (by decide) (by rw [hml]; rfl) (lenOf own_pd3 rfl) rfl (Nat.le_of_eq rfl) (hb hby own_d20_1) (by decide) (by decide)
  obtain ⟨rfl, rfl⟩ := qr2
  have r2 : OwnW s0 n0 4 #[.val (.ref o), .val (.ref y0)] [] h0 0 0 := r2
  have r3 : OwnW s0 n0 5 #[.val (.ref o), .val (.ref y0)] [(.ref y0)] h0 0 0 := r2.go fun T t X k => XS.aloadN X hx rfl (hb hby own_d20_4) rfl rfl k
  obtain ⟨ar4, hr4, vmr4, kkr4, hS, hk, hZ, hown, Er4, r4⟩ := r3.ldcS hx hZ hown hS hk (hw _ (List.mem_of_getElem? (i := 137) rfl)) (own_wS a0 Z hw) (hb hby own_d20_5) (n := 44) (by decide) (by decide) (by decide) (by decide)
  have r4 : OwnW s0 n0 7 #[.val (.ref o), .val (.ref y0)] [(.ref ar4), (.ref y0)] hr4 2 48 := r4
  have F_fingerprint := F_fingerprint.ext Er4
  have E := E.ext Er4
  have K := K.ext Er4
  obtain ⟨vr5, hr5, r5, qr5⟩ := r4.callS hx hZ hown (hw _ (List.mem_of_getElem? (i := 138) rfl)) (hw _ (List.mem_of_getElem? (i := 42) rfl)) (hw _ (List.mem_of_getElem? (i := 43) rfl)) (hw _ (List.mem_of_getElem? (i := 44) rfl)) (by decide) (argsL := [(.ref y0), (.ref ar4)]) (own_rnn l Z a0 hw y0 ar4 hr4 n0) [] 0 (by decide) (by decide) (by rw [hml]; rfl) (lenOf own_pd4 rfl) rfl (Nat.le_of_eq rfl) (hb hby own_d20_7) (by decide) (by decide)
  obtain ⟨rfl, rfl⟩ := qr5
  have r5 : OwnW s0 n0 10 #[.val (.ref o), .val (.ref y0)] [(.ref y0)] hr4 2 48 := r5
  have r6 : OwnW s0 n0 11 #[.val (.ref o), .val (.ref y0)] [] hr4 2 48 := r5.go fun T t X k => XS.pop X hx rfl (hb hby own_d20_10) rfl rfl k
  have r7 : OwnW s0 n0 12 #[.val (.ref o), .val (.ref y0)] [(.ref o)] hr4 2 48 := r6.go fun T t X k => XS.aloadN X hx rfl (hb hby own_d20_11) rfl rfl k
  have r8 : OwnW s0 n0 13 #[.val (.ref o), .val (.ref y0)] [(.ref y0), (.ref o)] hr4 2 48 := r7.go fun T t X k => XS.aloadN X hx rfl (hb hby own_d20_12) rfl rfl k
  obtain ⟨hr9, r9, Wr9⟩ := r8.putF hx hZ hown (hw _ (List.mem_of_getElem? (i := 139) rfl)) F_fingerprint E (Or.inr ⟨(hw _ (List.mem_of_getElem? (i := 140) rfl)), rfl, hnm⟩) (hw _ (List.mem_of_getElem? (i := 131) rfl)) (ty := (.object "com/example/onnce/onnce/store/Fingerprint")) (by decide) rfl rfl rfl (hb hby own_d20_13) g
  have r9 : OwnW s0 n0 16 #[.val (.ref o), .val (.ref y0)] [] hr9 2 48 := r9
  have F_fingerprint := F_fingerprint.same Wr9
  have hk := Nat.le_trans hk (Nat.le_of_eq Wr9.size.symm)
  have E := E.wr Wr9
  have K := K.wr Wr9 (Or.inl (List.mem_of_getElem? (i := 0) rfl))
  have r10 := r9.retV hx hret (hb hby own_d20_16)
  exact ⟨_, _, 2, 48, _, _, ⟨rfl, K, E, F_fingerprint⟩, by decide, by decide, hS, hk, r10⟩
theorem own_ef_gfo (m : MethodId) (o : Addr) : entryFrame m #[(.ref o)] 1 = mkF m 0 #[.val (.ref o)] [] := by first | (simp [entryFrame, mkF, argsToLocals, Value.category]; done) | rfl
set_option maxRecDepth 65536 in
set_option maxHeartbeats 40000000 in
theorem own_gfo (l : Launch) (Z : State) (a0 : Array Value) (hw : ∀ d ∈ tables_1, d.before a0 Z = true) (o : Addr) (u : Addr) (h0 : Heap) (n0 : Nat) (F : Fld Z h0 o "com/example/onnce/onnce/store/Claim$Outstanding" "fingerprint" "Lcom/example/onnce/onnce/store/Fingerprint;" (.ref u)) :
    OwnCon l Z (⟨"com/example/onnce/onnce/store/Claim$Outstanding", "fingerprint", "()Lcom/example/onnce/onnce/store/Fingerprint;"⟩ : MethodName) prog_18_method_5_code 1 (some (.object "com/example/onnce/onnce/store/Fingerprint")) ({ frames := 0, cells := 0, slots := 0, locals := 0 } : Room) #[(.ref o)] h0 n0 (fun v h => v = some (.ref u) ∧ h0 = h) := by
  refine OwnCon.of own_pn6 (fun m => own_ef_gfo m o) ?_
  intro p e s m below meth c s0 hx hby hml hown hnm hret hZ r
  have r1 : OwnW s0 n0 1 #[.val (.ref o)] [(.ref o)] h0 0 0 := r.go fun T t X k => XS.aloadN X hx rfl (hb hby own_d12_0) rfl rfl k
  have r2 : OwnW s0 n0 4 #[.val (.ref o)] [(.ref u)] h0 0 0 := r1.getF hx hZ hown (hw _ (List.mem_of_getElem? (i := 82) rfl)) F rfl (hb hby own_d12_1)
  have r3 := r2.retW hx hret rfl rfl (Or.inr (Or.inr (Or.inr (Or.inr ⟨rfl, rfl, rfl⟩)))) (hb hby own_d12_4)
  exact ⟨_, _, 0, 0, ⟨rfl, rfl⟩, Nat.le_refl _, Nat.le_refl _, r3⟩
theorem own_ef_gfa (m : MethodId) (o : Addr) : entryFrame m #[(.ref o)] 1 = mkF m 0 #[.val (.ref o)] [] := by first | (simp [entryFrame, mkF, argsToLocals, Value.category]; done) | rfl
set_option maxRecDepth 65536 in
set_option maxHeartbeats 40000000 in
theorem own_gfa (l : Launch) (Z : State) (a0 : Array Value) (hw : ∀ d ∈ tables_1, d.before a0 Z = true) (o : Addr) (u : Addr) (h0 : Heap) (n0 : Nat) (F : Fld Z h0 o "com/example/onnce/onnce/store/Claim$Abandoned" "fingerprint" "Lcom/example/onnce/onnce/store/Fingerprint;" (.ref u)) :
    OwnCon l Z (⟨"com/example/onnce/onnce/store/Claim$Abandoned", "fingerprint", "()Lcom/example/onnce/onnce/store/Fingerprint;"⟩ : MethodName) prog_15_method_5_code 1 (some (.object "com/example/onnce/onnce/store/Fingerprint")) ({ frames := 0, cells := 0, slots := 0, locals := 0 } : Room) #[(.ref o)] h0 n0 (fun v h => v = some (.ref u) ∧ h0 = h) := by
  refine OwnCon.of own_pn7 (fun m => own_ef_gfa m o) ?_
  intro p e s m below meth c s0 hx hby hml hown hnm hret hZ r
  have r1 : OwnW s0 n0 1 #[.val (.ref o)] [(.ref o)] h0 0 0 := r.go fun T t X k => XS.aloadN X hx rfl (hb hby own_d21_0) rfl rfl k
  have r2 : OwnW s0 n0 4 #[.val (.ref o)] [(.ref u)] h0 0 0 := r1.getF hx hZ hown (hw _ (List.mem_of_getElem? (i := 139) rfl)) F rfl (hb hby own_d21_1)
  have r3 := r2.retW hx hret rfl rfl (Or.inr (Or.inr (Or.inr (Or.inr ⟨rfl, rfl, rfl⟩)))) (hb hby own_d21_4)
  exact ⟨_, _, 0, 0, ⟨rfl, rfl⟩, Nat.le_refl _, Nat.le_refl _, r3⟩
theorem own_ef_gfc (m : MethodId) (o : Addr) : entryFrame m #[(.ref o)] 1 = mkF m 0 #[.val (.ref o)] [] := by first | (simp [entryFrame, mkF, argsToLocals, Value.category]; done) | rfl
set_option maxRecDepth 65536 in
set_option maxHeartbeats 40000000 in
theorem own_gfc (l : Launch) (Z : State) (a0 : Array Value) (hw : ∀ d ∈ tables_1, d.before a0 Z = true) (o : Addr) (u : Addr) (h0 : Heap) (n0 : Nat) (F : Fld Z h0 o "com/example/onnce/onnce/store/KeyRecord$Claimed" "fingerprint" "Lcom/example/onnce/onnce/store/Fingerprint;" (.ref u)) :
    OwnCon l Z (⟨"com/example/onnce/onnce/store/KeyRecord$Claimed", "fingerprint", "()Lcom/example/onnce/onnce/store/Fingerprint;"⟩ : MethodName) prog_22_method_7_code 1 (some (.object "com/example/onnce/onnce/store/Fingerprint")) ({ frames := 0, cells := 0, slots := 0, locals := 0 } : Room) #[(.ref o)] h0 n0 (fun v h => v = some (.ref u) ∧ h0 = h) := by
  refine OwnCon.of own_pn5 (fun m => own_ef_gfc m o) ?_
  intro p e s m below meth c s0 hx hby hml hown hnm hret hZ r
  have r1 : OwnW s0 n0 1 #[.val (.ref o)] [(.ref o)] h0 0 0 := r.go fun T t X k => XS.aloadN X hx rfl (hb hby own_d17_0) rfl rfl k
  have r2 : OwnW s0 n0 4 #[.val (.ref o)] [(.ref u)] h0 0 0 := r1.getF hx hZ hown (hw _ (List.mem_of_getElem? (i := 62) rfl)) F rfl (hb hby own_d17_1)
  have r3 := r2.retW hx hret rfl rfl (Or.inr (Or.inr (Or.inr (Or.inr ⟨rfl, rfl, rfl⟩)))) (hb hby own_d17_4)
  exact ⟨_, _, 0, 0, ⟨rfl, rfl⟩, Nat.le_refl _, Nat.le_refl _, r3⟩
theorem own_ef_gme (m : MethodId) (o : Addr) : entryFrame m #[(.ref o)] 1 = mkF m 0 #[.val (.ref o)] [] := by first | (simp [entryFrame, mkF, argsToLocals, Value.category]; done) | rfl
set_option maxRecDepth 65536 in
set_option maxHeartbeats 40000000 in
theorem own_gme (l : Launch) (Z : State) (a0 : Array Value) (hw : ∀ d ∈ tables_1, d.before a0 Z = true) (o : Addr) (u : Addr) (h0 : Heap) (n0 : Nat) (F : Fld Z h0 o "com/example/onnce/onnce/store/Fingerprint" "method" "Ljava/lang/String;" (.ref u)) :
    OwnCon l Z (⟨"com/example/onnce/onnce/store/Fingerprint", "method", "()Ljava/lang/String;"⟩ : MethodName) prog_20_method_6_code 1 (some (.object "java/lang/String")) ({ frames := 0, cells := 0, slots := 0, locals := 0 } : Room) #[(.ref o)] h0 n0 (fun v h => v = some (.ref u) ∧ h0 = h) := by
  refine OwnCon.of own_pn4 (fun m => own_ef_gme m o) ?_
  intro p e s m below meth c s0 hx hby hml hown hnm hret hZ r
  have r1 : OwnW s0 n0 1 #[.val (.ref o)] [(.ref o)] h0 0 0 := r.go fun T t X k => XS.aloadN X hx rfl (hb hby own_d13_0) rfl rfl k
  have r2 : OwnW s0 n0 4 #[.val (.ref o)] [(.ref u)] h0 0 0 := r1.getF hx hZ hown (hw _ (List.mem_of_getElem? (i := 47) rfl)) F rfl (hb hby own_d13_1)
  have r3 := r2.retW hx hret rfl rfl (Or.inr (Or.inr (Or.inr (Or.inr ⟨rfl, rfl, rfl⟩)))) (hb hby own_d13_4)
  exact ⟨_, _, 0, 0, ⟨rfl, rfl⟩, Nat.le_refl _, Nat.le_refl _, r3⟩
theorem own_ef_gta (m : MethodId) (o : Addr) : entryFrame m #[(.ref o)] 1 = mkF m 0 #[.val (.ref o)] [] := by first | (simp [entryFrame, mkF, argsToLocals, Value.category]; done) | rfl
set_option maxRecDepth 65536 in
set_option maxHeartbeats 40000000 in
theorem own_gta (l : Launch) (Z : State) (a0 : Array Value) (hw : ∀ d ∈ tables_1, d.before a0 Z = true) (o : Addr) (u : Addr) (h0 : Heap) (n0 : Nat) (F : Fld Z h0 o "com/example/onnce/onnce/store/Fingerprint" "target" "Ljava/lang/String;" (.ref u)) :
    OwnCon l Z (⟨"com/example/onnce/onnce/store/Fingerprint", "target", "()Ljava/lang/String;"⟩ : MethodName) prog_20_method_7_code 1 (some (.object "java/lang/String")) ({ frames := 0, cells := 0, slots := 0, locals := 0 } : Room) #[(.ref o)] h0 n0 (fun v h => v = some (.ref u) ∧ h0 = h) := by
  refine OwnCon.of own_pn4 (fun m => own_ef_gta m o) ?_
  intro p e s m below meth c s0 hx hby hml hown hnm hret hZ r
  have r1 : OwnW s0 n0 1 #[.val (.ref o)] [(.ref o)] h0 0 0 := r.go fun T t X k => XS.aloadN X hx rfl (hb hby own_d15_0) rfl rfl k
  have r2 : OwnW s0 n0 4 #[.val (.ref o)] [(.ref u)] h0 0 0 := r1.getF hx hZ hown (hw _ (List.mem_of_getElem? (i := 49) rfl)) F rfl (hb hby own_d15_1)
  have r3 := r2.retW hx hret rfl rfl (Or.inr (Or.inr (Or.inr (Or.inr ⟨rfl, rfl, rfl⟩)))) (hb hby own_d15_4)
  exact ⟨_, _, 0, 0, ⟨rfl, rfl⟩, Nat.le_refl _, Nat.le_refl _, r3⟩
theorem own_ef_gsh (m : MethodId) (o : Addr) : entryFrame m #[(.ref o)] 1 = mkF m 0 #[.val (.ref o)] [] := by first | (simp [entryFrame, mkF, argsToLocals, Value.category]; done) | rfl
set_option maxRecDepth 65536 in
set_option maxHeartbeats 40000000 in
theorem own_gsh (l : Launch) (Z : State) (a0 : Array Value) (hw : ∀ d ∈ tables_1, d.before a0 Z = true) (o : Addr) (u : Addr) (h0 : Heap) (n0 : Nat) (F : Fld Z h0 o "com/example/onnce/onnce/store/Fingerprint" "contentSha256" "Ljava/lang/String;" (.ref u)) :
    OwnCon l Z (⟨"com/example/onnce/onnce/store/Fingerprint", "contentSha256", "()Ljava/lang/String;"⟩ : MethodName) prog_20_method_8_code 1 (some (.object "java/lang/String")) ({ frames := 0, cells := 0, slots := 0, locals := 0 } : Room) #[(.ref o)] h0 n0 (fun v h => v = some (.ref u) ∧ h0 = h) := by
  refine OwnCon.of own_pn4 (fun m => own_ef_gsh m o) ?_
  intro p e s m below meth c s0 hx hby hml hown hnm hret hZ r
  have r1 : OwnW s0 n0 1 #[.val (.ref o)] [(.ref o)] h0 0 0 := r.go fun T t X k => XS.aloadN X hx rfl (hb hby own_d16_0) rfl rfl k
  have r2 : OwnW s0 n0 4 #[.val (.ref o)] [(.ref u)] h0 0 0 := r1.getF hx hZ hown (hw _ (List.mem_of_getElem? (i := 51) rfl)) F rfl (hb hby own_d16_1)
  have r3 := r2.retW hx hret rfl rfl (Or.inr (Or.inr (Or.inr (Or.inr ⟨rfl, rfl, rfl⟩)))) (hb hby own_d16_4)
  exact ⟨_, _, 0, 0, ⟨rfl, rfl⟩, Nat.le_refl _, Nat.le_refl _, r3⟩
theorem own_ef_gop (m : MethodId) (o : Addr) : entryFrame m #[(.ref o)] 1 = mkF m 0 #[.val (.ref o)] [] := by first | (simp [entryFrame, mkF, argsToLocals, Value.category]; done) | rfl
set_option maxRecDepth 65536 in
set_option maxHeartbeats 40000000 in
theorem own_gop (l : Launch) (Z : State) (a0 : Array Value) (hw : ∀ d ∈ tables_1, d.before a0 Z = true) (o : Addr) (u : Int64) (h0 : Heap) (n0 : Nat) (F : Fld Z h0 o "com/example/onnce/onnce/store/KeyRecord$Claimed" "opening" "J" (.long u)) :
    OwnCon l Z (⟨"com/example/onnce/onnce/store/KeyRecord$Claimed", "opening", "()J"⟩ : MethodName) prog_22_method_8_code 1 (some .long) ({ frames := 0, cells := 0, slots := 0, locals := 0 } : Room) #[(.ref o)] h0 n0 (fun v h => v = some (.long u) ∧ h0 = h) := by
  refine OwnCon.of own_pn5 (fun m => own_ef_gop m o) ?_
  intro p e s m below meth c s0 hx hby hml hown hnm hret hZ r
  have r1 : OwnW s0 n0 1 #[.val (.ref o)] [(.ref o)] h0 0 0 := r.go fun T t X k => XS.aloadN X hx rfl (hb hby own_d18_0) rfl rfl k
  have r2 : OwnW s0 n0 4 #[.val (.ref o)] [(.long u)] h0 0 0 := r1.getF hx hZ hown (hw _ (List.mem_of_getElem? (i := 64) rfl)) F rfl (hb hby own_d18_1)
  have r3 := r2.retW hx hret rfl rfl (Or.inr (Or.inl ⟨rfl, rfl, _, rfl⟩)) (hb hby own_d18_4)
  exact ⟨_, _, 0, 0, ⟨rfl, rfl⟩, by decide, by decide, r3⟩
theorem own_ef_gle (m : MethodId) (o : Addr) : entryFrame m #[(.ref o)] 1 = mkF m 0 #[.val (.ref o)] [] := by first | (simp [entryFrame, mkF, argsToLocals, Value.category]; done) | rfl
set_option maxRecDepth 65536 in
set_option maxHeartbeats 40000000 in
theorem own_gle (l : Launch) (Z : State) (a0 : Array Value) (hw : ∀ d ∈ tables_1, d.before a0 Z = true) (o : Addr) (u : Int64) (h0 : Heap) (n0 : Nat) (F : Fld Z h0 o "com/example/onnce/onnce/store/KeyRecord$Claimed" "leaseEnd" "J" (.long u)) :
    OwnCon l Z (⟨"com/example/onnce/onnce/store/KeyRecord$Claimed", "leaseEnd", "()J"⟩ : MethodName) prog_22_method_9_code 1 (some .long) ({ frames := 0, cells := 0, slots := 0, locals := 0 } : Room) #[(.ref o)] h0 n0 (fun v h => v = some (.long u) ∧ h0 = h) := by
  refine OwnCon.of own_pn5 (fun m => own_ef_gle m o) ?_
  intro p e s m below meth c s0 hx hby hml hown hnm hret hZ r
  have r1 : OwnW s0 n0 1 #[.val (.ref o)] [(.ref o)] h0 0 0 := r.go fun T t X k => XS.aloadN X hx rfl (hb hby own_d19_0) rfl rfl k
  have r2 : OwnW s0 n0 4 #[.val (.ref o)] [(.long u)] h0 0 0 := r1.getF hx hZ hown (hw _ (List.mem_of_getElem? (i := 66) rfl)) F rfl (hb hby own_d19_1)
  have r3 := r2.retW hx hret rfl rfl (Or.inr (Or.inl ⟨rfl, rfl, _, rfl⟩)) (hb hby own_d19_4)
  exact ⟨_, _, 0, 0, ⟨rfl, rfl⟩, by decide, by decide, r3⟩
theorem own_ef_fd0 (m : MethodId) (o : Addr) : entryFrame m #[(.ref o), (.int (0 : Int32))] 2 = mkF m 0 #[.val (.ref o), .val (.int (0 : Int32))] [] := by first | (simp [entryFrame, mkF, argsToLocals, Value.category]; done) | rfl
set_option maxRecDepth 65536 in
set_option maxHeartbeats 40000000 in
theorem own_fd0 (l : Launch) (Z : State) (a0 : Array Value) (hw : ∀ d ∈ tables_1, d.before a0 Z = true) (o : Addr) (u : Addr) (h0 : Heap) (n0 : Nat) (Z0 : n0 ≤ h0.size) (F : Fld Z h0 o "com/example/onnce/onnce/store/KeyRecord$Claimed" "fingerprint" "Lcom/example/onnce/onnce/store/Fingerprint;" (.ref u)) :
    OwnConS l Z (⟨"com/example/onnce/onnce/store/KeyRecord$Claimed", "found", "(Z)Lcom/example/onnce/onnce/store/Claim;"⟩ : MethodName) prog_22_method_3_code 2 (some (.object "com/example/onnce/onnce/store/Claim")) ({ frames := 3, cells := 3, slots := 49, locals := 48 } : Room) #[(.ref o), (.int (0 : Int32))] h0 n0 (fun v h => ∃ q, v = some (.ref q) ∧ Ext h0 h ∧ Exa Z h q "com/example/onnce/onnce/store/Claim$Outstanding" ∧ Fld Z h q "com/example/onnce/onnce/store/Claim$Outstanding" "fingerprint" "Lcom/example/onnce/onnce/store/Fingerprint;" (.ref u)) := by
  refine OwnConS.of own_pn5 (fun m => own_ef_fd0 m o) ?_
  intro p e s m below meth c s0 vm0 kk0 hx hby hml hown hnm hret hZ hS hk r
  have r1 : OwnW s0 n0 1 #[.val (.ref o), .val (.int (0 : Int32))] [(.int (0 : Int32))] h0 0 0 := r.go fun T t X k => XS.iloadN X hx rfl (hb hby own_d10_0) rfl k
  have r2 : OwnW s0 n0 18 #[.val (.ref o), .val (.int (0 : Int32))] [] h0 0 0 := r1.go fun T t X k => XS.ifYes X hx rfl (pc0 := 1) (pc' := 18) rfl (hb hby own_d10_1) rfl ((if0 _ _).trans (teq rfl).1) (by decide) (by decide) k
  obtain ⟨hr3, r3, Er3, Xq, Dr3⟩ := r2.newO hx hZ hown (hw _ (List.mem_of_getElem? (i := 73) rfl)) (hw _ (List.mem_of_getElem? (i := 74) rfl)) (hw _ (List.mem_of_getElem? (i := 75) rfl)) (hb hby own_d10_18) (by decide) (by decide)
  obtain ⟨q, qq⟩ : ∃ z, z = h0.size := ⟨_, rfl⟩
  rw [← qq] at r3 Xq Dr3
  have F_fingerprint_q : Fld Z hr3 q "com/example/onnce/onnce/store/Claim$Outstanding" "fingerprint" "Lcom/example/onnce/onnce/store/Fingerprint;" .null := Dr3 (Or.inr (hw _ (List.mem_of_getElem? (i := 83) rfl))) (ty := (.object "com/example/onnce/onnce/store/Fingerprint")) (by decide)
  have r3 : OwnW s0 n0 21 #[.val (.ref o), .val (.int (0 : Int32))] [(.ref q)] hr3 1 1 := r3
  have zq : h0.size ≤ q := Nat.le_of_eq qq.symm
  have hk := Nat.le_trans hk Er3.1
  have r4 : OwnW s0 n0 22 #[.val (.ref o), .val (.int (0 : Int32))] [(.ref q), (.ref q)] hr3 1 1 := r3.go fun T t X k => XS.dup X hx rfl (hb hby own_d10_21) rfl rfl k
  have r5 : OwnW s0 n0 23 #[.val (.ref o), .val (.int (0 : Int32))] [(.ref o), (.ref q), (.ref q)] hr3 1 1 := r4.go fun T t X k => XS.aloadN X hx rfl (hb hby own_d10_22) rfl rfl k
  have r6 : OwnW s0 n0 26 #[.val (.ref o), .val (.int (0 : Int32))] [(.ref u), (.ref q), (.ref q)] hr3 1 1 := r5.getF hx hZ hown (hw _ (List.mem_of_getElem? (i := 62) rfl)) (F.ext Er3) rfl (hb hby own_d10_23)
  obtain ⟨vr7, hr7, vmr7, kkr7, hS, hk, hZ, hown, r7, qr7⟩ := r6.callNS hx hZ rfl hown hS hk (hw _ (List.mem_of_getElem? (i := 76) rfl)) (hw _ (List.mem_of_getElem? (i := 77) rfl)) (hw _ (List.mem_of_getElem? (i := 75) rfl)) (hw _ (List.mem_of_getElem? (i := 78) rfl)) (by decide) (a := q) (argsL := [(.ref u)]) (own_oin l Z a0 hw q u hr3 n0 Xq F_fingerprint_q (Nat.le_trans Z0 zq)) [(.ref q)] 1 (by decide) (by decide) (by rw [hml]; rfl) (lenOf own_pd5 rfl) rfl (Nat.le_of_eq rfl) (hb hby own_d10_26) (by decide) (by decide)
  obtain ⟨rfl, K1, E1, F1⟩ := qr7
  have r7 : OwnW s0 n0 29 #[.val (.ref o), .val (.int (0 : Int32))] [(.ref q)] hr7 3 49 := r7
  have Ex := own_ext_keep Er3 K1 zq
  have r8 := r7.retW hx hret rfl rfl (Or.inr (Or.inr (Or.inr (Or.inr ⟨rfl, rfl, rfl⟩)))) (hb hby own_d10_29)
  exact ⟨_, _, 3, 49, _, _, ⟨q, rfl, Ex, E1, F1⟩, by decide, by decide, hS, hk, r8⟩
theorem own_ef_fd1 (m : MethodId) (o : Addr) : entryFrame m #[(.ref o), (.int (1 : Int32))] 2 = mkF m 0 #[.val (.ref o), .val (.int (1 : Int32))] [] := by first | (simp [entryFrame, mkF, argsToLocals, Value.category]; done) | rfl
set_option maxRecDepth 65536 in
set_option maxHeartbeats 40000000 in
theorem own_fd1 (l : Launch) (Z : State) (a0 : Array Value) (hw : ∀ d ∈ tables_1, d.before a0 Z = true) (o : Addr) (u : Addr) (h0 : Heap) (n0 : Nat) (Z0 : n0 ≤ h0.size) (F : Fld Z h0 o "com/example/onnce/onnce/store/KeyRecord$Claimed" "fingerprint" "Lcom/example/onnce/onnce/store/Fingerprint;" (.ref u)) :
    OwnConS l Z (⟨"com/example/onnce/onnce/store/KeyRecord$Claimed", "found", "(Z)Lcom/example/onnce/onnce/store/Claim;"⟩ : MethodName) prog_22_method_3_code 2 (some (.object "com/example/onnce/onnce/store/Claim")) ({ frames := 3, cells := 3, slots := 49, locals := 48 } : Room) #[(.ref o), (.int (1 : Int32))] h0 n0 (fun v h => ∃ q, v = some (.ref q) ∧ Ext h0 h ∧ Exa Z h q "com/example/onnce/onnce/store/Claim$Abandoned" ∧ Fld Z h q "com/example/onnce/onnce/store/Claim$Abandoned" "fingerprint" "Lcom/example/onnce/onnce/store/Fingerprint;" (.ref u)) := by
  refine OwnConS.of own_pn5 (fun m => own_ef_fd1 m o) ?_
  intro p e s m below meth c s0 vm0 kk0 hx hby hml hown hnm hret hZ hS hk r
  have r1 : OwnW s0 n0 1 #[.val (.ref o), .val (.int (1 : Int32))] [(.int (1 : Int32))] h0 0 0 := r.go fun T t X k => XS.iloadN X hx rfl (hb hby own_d10_0) rfl k
  have r2 : OwnW s0 n0 4 #[.val (.ref o), .val (.int (1 : Int32))] [] h0 0 0 := r1.go fun T t X k => XS.ifNo X hx rfl (hb hby own_d10_1) rfl ((if0 _ _).trans (feq (by decide)).1) k
  obtain ⟨hr3, r3, Er3, Xq, Dr3⟩ := r2.newO hx hZ hown (hw _ (List.mem_of_getElem? (i := 130) rfl)) (hw _ (List.mem_of_getElem? (i := 131) rfl)) (hw _ (List.mem_of_getElem? (i := 132) rfl)) (hb hby own_d10_4) (by decide) (by decide)
  obtain ⟨q, qq⟩ : ∃ z, z = h0.size := ⟨_, rfl⟩
  rw [← qq] at r3 Xq Dr3
  have F_fingerprint_q : Fld Z hr3 q "com/example/onnce/onnce/store/Claim$Abandoned" "fingerprint" "Lcom/example/onnce/onnce/store/Fingerprint;" .null := Dr3 (Or.inr (hw _ (List.mem_of_getElem? (i := 140) rfl))) (ty := (.object "com/example/onnce/onnce/store/Fingerprint")) (by decide)
  have r3 : OwnW s0 n0 7 #[.val (.ref o), .val (.int (1 : Int32))] [(.ref q)] hr3 1 1 := r3
  have zq : h0.size ≤ q := Nat.le_of_eq qq.symm
  have hk := Nat.le_trans hk Er3.1
  have r4 : OwnW s0 n0 8 #[.val (.ref o), .val (.int (1 : Int32))] [(.ref q), (.ref q)] hr3 1 1 := r3.go fun T t X k => XS.dup X hx rfl (hb hby own_d10_7) rfl rfl k
  have r5 : OwnW s0 n0 9 #[.val (.ref o), .val (.int (1 : Int32))] [(.ref o), (.ref q), (.ref q)] hr3 1 1 := r4.go fun T t X k => XS.aloadN X hx rfl (hb hby own_d10_8) rfl rfl k
  have r6 : OwnW s0 n0 12 #[.val (.ref o), .val (.int (1 : Int32))] [(.ref u), (.ref q), (.ref q)] hr3 1 1 := r5.getF hx hZ hown (hw _ (List.mem_of_getElem? (i := 62) rfl)) (F.ext Er3) rfl (hb hby own_d10_9)
  obtain ⟨vr7, hr7, vmr7, kkr7, hS, hk, hZ, hown, r7, qr7⟩ := r6.callNS hx hZ rfl hown hS hk (hw _ (List.mem_of_getElem? (i := 133) rfl)) (hw _ (List.mem_of_getElem? (i := 134) rfl)) (hw _ (List.mem_of_getElem? (i := 132) rfl)) (hw _ (List.mem_of_getElem? (i := 135) rfl)) (by decide) (a := q) (argsL := [(.ref u)]) (own_ain l Z a0 hw q u hr3 n0 Xq F_fingerprint_q (Nat.le_trans Z0 zq)) [(.ref q)] 1 (by decide) (by decide) (by rw [hml]; rfl) (lenOf own_pd5 rfl) rfl (Nat.le_of_eq rfl) (hb hby own_d10_12) (by decide) (by decide)
  obtain ⟨rfl, K1, E1, F1⟩ := qr7
  have r7 : OwnW s0 n0 15 #[.val (.ref o), .val (.int (1 : Int32))] [(.ref q)] hr7 3 49 := r7
  have Ex := own_ext_keep Er3 K1 zq
  have r8 : OwnW s0 n0 29 #[.val (.ref o), .val (.int (1 : Int32))] [(.ref q)] hr7 3 49 := r7.go fun T t X k => XS.goto X hx rfl (pc0 := 15) (pc' := 29) rfl (hb hby own_d10_15) (by decide) (by decide) k
  have r9 := r8.retW hx hret rfl rfl (Or.inr (Or.inr (Or.inr (Or.inr ⟨rfl, rfl, rfl⟩)))) (hb hby own_d10_29)
  exact ⟨_, _, 3, 49, _, _, ⟨q, rfl, Ex, E1, F1⟩, by decide, by decide, hS, hk, r9⟩
theorem own_ef_law (m : MethodId) (x0 : Int32) (x1 : Int64) (x2 : Int64) (x3 : Int32) : entryFrame m #[(.int x0), (.long x1), (.long x2), (.int x3)] maxLocals = mkF m 0 #[.val (.int x0), .val (.long x1), .second, .val (.long x2), .second, .val (.int x3), .unset, .unset, .unset, .unset, .unset, .unset, .unset, .unset, .unset, .unset, .unset] [] := by first | (simp [entryFrame, mkF, argsToLocals, Value.category, maxLocals]; done) | rfl
set_option maxRecDepth 65536 in
set_option maxHeartbeats 40000000 in
theorem own_law (l : Launch) (Z : State) (a0 : Array Value) (hw : ∀ d ∈ tables_1, d.before a0 Z = true) (x0 : Int32) (x1 : Int64) (x2 : Int64) (x3 : Int32) (cs : Int32) (h0 : Heap) (n0 : Nat) (Z0 : n0 ≤ h0.size) (SC : Sta Z h0 "java/lang/String" "COMPACT_STRINGS" "Z" (.int cs)) (hcs : ¬ cs = (0 : Int32)) :
    OwnConS l Z x code maxLocals ret room_1 #[(.int x0), (.long x1), (.long x2), (.int x3)] h0 n0 (fun v h => v = some (.int 1)) := by
  refine OwnConS.of own_pn8 (fun m => own_ef_law m x0 x1 x2 x3) ?_
  intro p e s m below meth c s0 vm0 kk0 hx hby hml hown hnm hret hZ hS hk r
  have hown : (s.setVm vm0).vm.findClass "com/example/onnce/onnce/store/ClaimedFoundPinLaw" = some m.cls := hown
  have Ex : Ext h0 h0 := own_ext_refl _
  have r1 : OwnW s0 n0 1 #[.val (.int x0), .val (.long x1), .second, .val (.long x2), .second, .val (.int x3), .unset, .unset, .unset, .unset, .unset, .unset, .unset, .unset, .unset, .unset, .unset] [(.int x0)] h0 0 0 := r.go fun T t X k => XS.iloadN X hx rfl (hb hby at_0) rfl k
  have r2 : OwnW s0 n0 4 #[.val (.int x0), .val (.long x1), .second, .val (.long x2), .second, .val (.int x3), .unset, .unset, .unset, .unset, .unset, .unset, .unset, .unset, .unset, .unset, .unset] [(.int (255 : Int32)), (.int x0)] h0 0 0 := r1.go fun T t X k => XS.sipush X hx rfl (hb hby at_1) k
  have r3 : OwnW s0 n0 5 #[.val (.int x0), .val (.long x1), .second, .val (.long x2), .second, .val (.int x3), .unset, .unset, .unset, .unset, .unset, .unset, .unset, .unset, .unset, .unset, .unset] [(.int (x0 &&& (255 : Int32)))] h0 0 0 := r2.go fun T t X k => XS.iand X hx rfl (hb hby at_4) rfl k
  have r4 : OwnW s0 n0 6 #[.val (.int x0), .val (.long x1), .second, .val (.long x2), .second, .val (.int x3), .unset, .unset, .unset, .unset, .unset, .unset, .unset, .unset, .unset, .unset, .unset] [(.int ((x0 &&& (255 : Int32)).toUInt32.toUInt16.toUInt32.toInt32))] h0 0 0 := r3.go fun T t X k => XS.i2c X hx rfl (hb hby at_5) rfl k
  obtain ⟨vr5, hr5, r5, qr5⟩ := r4.callS hx hZ hown (hw _ (List.mem_of_getElem? (i := 0) rfl)) (hw _ (List.mem_of_getElem? (i := 1) rfl)) (hw _ (List.mem_of_getElem? (i := 2) rfl)) (hw _ (List.mem_of_getElem? (i := 3) rfl)) (by decide) (argsL := [(.int ((x0 &&& (255 : Int32)).toUInt32.toUInt16.toUInt32.toInt32))]) (own_val l Z a0 hw ((x0 &&& (255 : Int32)).toUInt32.toUInt16.toUInt32.toInt32) cs h0 n0 (Nat.le_trans Z0 Ex.1) (own_ch x0) (SC.ext Ex) hcs) [] 0 (by decide) (by decide) (by rw [hml]; rfl) (lenOf own_pd6 rfl) rfl (Nat.le_of_eq rfl) (hb hby at_6) (by decide) (by decide)
  obtain ⟨s1, rfl, Ey, Xs1⟩ := qr5
  have r5 : OwnW s0 n0 9 #[.val (.int x0), .val (.long x1), .second, .val (.long x2), .second, .val (.int x3), .unset, .unset, .unset, .unset, .unset, .unset, .unset, .unset, .unset, .unset, .unset] [(.ref s1)] hr5 2 5 := r5
  have Ex := own_ext_trans Ex Ey
  have hk := Nat.le_trans hk Ey.1
  have r6 : OwnW s0 n0 11 #[.val (.int x0), .val (.long x1), .second, .val (.long x2), .second, .val (.int x3), .val (.ref s1), .unset, .unset, .unset, .unset, .unset, .unset, .unset, .unset, .unset, .unset] [] hr5 2 5 := r5.go fun T t X k => XS.astore X hx rfl (hb hby at_9) rfl rfl (l' := #[.val (.int x0), .val (.long x1), .second, .val (.long x2), .second, .val (.int x3), .val (.ref s1), .unset, .unset, .unset, .unset, .unset, .unset, .unset, .unset, .unset, .unset]) rfl k
  have r7 : OwnW s0 n0 12 #[.val (.int x0), .val (.long x1), .second, .val (.long x2), .second, .val (.int x3), .val (.ref s1), .unset, .unset, .unset, .unset, .unset, .unset, .unset, .unset, .unset, .unset] [(.int x0)] hr5 2 5 := r6.go fun T t X k => XS.iloadN X hx rfl (hb hby at_11) rfl k
  have r8 : OwnW s0 n0 14 #[.val (.int x0), .val (.long x1), .second, .val (.long x2), .second, .val (.int x3), .val (.ref s1), .unset, .unset, .unset, .unset, .unset, .unset, .unset, .unset, .unset, .unset] [(.int (8 : Int32)), (.int x0)] hr5 2 5 := r7.go fun T t X k => XS.bipush X hx rfl (hb hby at_12) k
  have r9 : OwnW s0 n0 15 #[.val (.int x0), .val (.long x1), .second, .val (.long x2), .second, .val (.int x3), .val (.ref s1), .unset, .unset, .unset, .unset, .unset, .unset, .unset, .unset, .unset, .unset] [(.int ((x0.toUInt32 >>> ((8 : Int32) &&& 31).toUInt32).toInt32))] hr5 2 5 := r8.go fun T t X k => XS.iushr X hx rfl (hb hby at_14) rfl k
  have r10 : OwnW s0 n0 18 #[.val (.int x0), .val (.long x1), .second, .val (.long x2), .second, .val (.int x3), .val (.ref s1), .unset, .unset, .unset, .unset, .unset, .unset, .unset, .unset, .unset, .unset] [(.int (255 : Int32)), (.int ((x0.toUInt32 >>> ((8 : Int32) &&& 31).toUInt32).toInt32))] hr5 2 5 := r9.go fun T t X k => XS.sipush X hx rfl (hb hby at_15) k
  have r11 : OwnW s0 n0 19 #[.val (.int x0), .val (.long x1), .second, .val (.long x2), .second, .val (.int x3), .val (.ref s1), .unset, .unset, .unset, .unset, .unset, .unset, .unset, .unset, .unset, .unset] [(.int (((x0.toUInt32 >>> ((8 : Int32) &&& 31).toUInt32).toInt32) &&& (255 : Int32)))] hr5 2 5 := r10.go fun T t X k => XS.iand X hx rfl (hb hby at_18) rfl k
  have r12 : OwnW s0 n0 20 #[.val (.int x0), .val (.long x1), .second, .val (.long x2), .second, .val (.int x3), .val (.ref s1), .unset, .unset, .unset, .unset, .unset, .unset, .unset, .unset, .unset, .unset] [(.int ((((x0.toUInt32 >>> ((8 : Int32) &&& 31).toUInt32).toInt32) &&& (255 : Int32)).toUInt32.toUInt16.toUInt32.toInt32))] hr5 2 5 := r11.go fun T t X k => XS.i2c X hx rfl (hb hby at_19) rfl k
  obtain ⟨vr13, hr13, r13, qr13⟩ := r12.callS hx hZ hown (hw _ (List.mem_of_getElem? (i := 0) rfl)) (hw _ (List.mem_of_getElem? (i := 1) rfl)) (hw _ (List.mem_of_getElem? (i := 2) rfl)) (hw _ (List.mem_of_getElem? (i := 3) rfl)) (by decide) (argsL := [(.int ((((x0.toUInt32 >>> ((8 : Int32) &&& 31).toUInt32).toInt32) &&& (255 : Int32)).toUInt32.toUInt16.toUInt32.toInt32))]) (own_val l Z a0 hw ((((x0.toUInt32 >>> ((8 : Int32) &&& 31).toUInt32).toInt32) &&& (255 : Int32)).toUInt32.toUInt16.toUInt32.toInt32) cs hr5 n0 (Nat.le_trans Z0 Ex.1) (own_ch ((x0.toUInt32 >>> ((8 : Int32) &&& 31).toUInt32).toInt32)) (SC.ext Ex) hcs) [] 0 (by decide) (by decide) (by rw [hml]; rfl) (lenOf own_pd6 rfl) rfl (Nat.le_of_eq rfl) (hb hby at_20) (by decide) (by decide)
  obtain ⟨s2, rfl, Ey, Xs2⟩ := qr13
  have r13 : OwnW s0 n0 23 #[.val (.int x0), .val (.long x1), .second, .val (.long x2), .second, .val (.int x3), .val (.ref s1), .unset, .unset, .unset, .unset, .unset, .unset, .unset, .unset, .unset, .unset] [(.ref s2)] hr13 4 10 := r13
  have Ex := own_ext_trans Ex Ey
  have hk := Nat.le_trans hk Ey.1
  have Xs1 := Xs1.ext Ey
  have r14 : OwnW s0 n0 25 #[.val (.int x0), .val (.long x1), .second, .val (.long x2), .second, .val (.int x3), .val (.ref s1), .val (.ref s2), .unset, .unset, .unset, .unset, .unset, .unset, .unset, .unset, .unset] [] hr13 4 10 := r13.go fun T t X k => XS.astore X hx rfl (hb hby at_23) rfl rfl (l' := #[.val (.int x0), .val (.long x1), .second, .val (.long x2), .second, .val (.int x3), .val (.ref s1), .val (.ref s2), .unset, .unset, .unset, .unset, .unset, .unset, .unset, .unset, .unset]) rfl k
  have r15 : OwnW s0 n0 26 #[.val (.int x0), .val (.long x1), .second, .val (.long x2), .second, .val (.int x3), .val (.ref s1), .val (.ref s2), .unset, .unset, .unset, .unset, .unset, .unset, .unset, .unset, .unset] [(.int x0)] hr13 4 10 := r14.go fun T t X k => XS.iloadN X hx rfl (hb hby at_25) rfl k
  have r16 : OwnW s0 n0 28 #[.val (.int x0), .val (.long x1), .second, .val (.long x2), .second, .val (.int x3), .val (.ref s1), .val (.ref s2), .unset, .unset, .unset, .unset, .unset, .unset, .unset, .unset, .unset] [(.int (16 : Int32)), (.int x0)] hr13 4 10 := r15.go fun T t X k => XS.bipush X hx rfl (hb hby at_26) k
  have r17 : OwnW s0 n0 29 #[.val (.int x0), .val (.long x1), .second, .val (.long x2), .second, .val (.int x3), .val (.ref s1), .val (.ref s2), .unset, .unset, .unset, .unset, .unset, .unset, .unset, .unset, .unset] [(.int ((x0.toUInt32 >>> ((16 : Int32) &&& 31).toUInt32).toInt32))] hr13 4 10 := r16.go fun T t X k => XS.iushr X hx rfl (hb hby at_28) rfl k
  have r18 : OwnW s0 n0 32 #[.val (.int x0), .val (.long x1), .second, .val (.long x2), .second, .val (.int x3), .val (.ref s1), .val (.ref s2), .unset, .unset, .unset, .unset, .unset, .unset, .unset, .unset, .unset] [(.int (255 : Int32)), (.int ((x0.toUInt32 >>> ((16 : Int32) &&& 31).toUInt32).toInt32))] hr13 4 10 := r17.go fun T t X k => XS.sipush X hx rfl (hb hby at_29) k
  have r19 : OwnW s0 n0 33 #[.val (.int x0), .val (.long x1), .second, .val (.long x2), .second, .val (.int x3), .val (.ref s1), .val (.ref s2), .unset, .unset, .unset, .unset, .unset, .unset, .unset, .unset, .unset] [(.int (((x0.toUInt32 >>> ((16 : Int32) &&& 31).toUInt32).toInt32) &&& (255 : Int32)))] hr13 4 10 := r18.go fun T t X k => XS.iand X hx rfl (hb hby at_32) rfl k
  have r20 : OwnW s0 n0 34 #[.val (.int x0), .val (.long x1), .second, .val (.long x2), .second, .val (.int x3), .val (.ref s1), .val (.ref s2), .unset, .unset, .unset, .unset, .unset, .unset, .unset, .unset, .unset] [(.int ((((x0.toUInt32 >>> ((16 : Int32) &&& 31).toUInt32).toInt32) &&& (255 : Int32)).toUInt32.toUInt16.toUInt32.toInt32))] hr13 4 10 := r19.go fun T t X k => XS.i2c X hx rfl (hb hby at_33) rfl k
  obtain ⟨vr21, hr21, r21, qr21⟩ := r20.callS hx hZ hown (hw _ (List.mem_of_getElem? (i := 0) rfl)) (hw _ (List.mem_of_getElem? (i := 1) rfl)) (hw _ (List.mem_of_getElem? (i := 2) rfl)) (hw _ (List.mem_of_getElem? (i := 3) rfl)) (by decide) (argsL := [(.int ((((x0.toUInt32 >>> ((16 : Int32) &&& 31).toUInt32).toInt32) &&& (255 : Int32)).toUInt32.toUInt16.toUInt32.toInt32))]) (own_val l Z a0 hw ((((x0.toUInt32 >>> ((16 : Int32) &&& 31).toUInt32).toInt32) &&& (255 : Int32)).toUInt32.toUInt16.toUInt32.toInt32) cs hr13 n0 (Nat.le_trans Z0 Ex.1) (own_ch ((x0.toUInt32 >>> ((16 : Int32) &&& 31).toUInt32).toInt32)) (SC.ext Ex) hcs) [] 0 (by decide) (by decide) (by rw [hml]; rfl) (lenOf own_pd6 rfl) rfl (Nat.le_of_eq rfl) (hb hby at_34) (by decide) (by decide)
  obtain ⟨s3, rfl, Ey, Xs3⟩ := qr21
  have r21 : OwnW s0 n0 37 #[.val (.int x0), .val (.long x1), .second, .val (.long x2), .second, .val (.int x3), .val (.ref s1), .val (.ref s2), .unset, .unset, .unset, .unset, .unset, .unset, .unset, .unset, .unset] [(.ref s3)] hr21 6 15 := r21
  have Ex := own_ext_trans Ex Ey
  have hk := Nat.le_trans hk Ey.1
  have Xs1 := Xs1.ext Ey
  have Xs2 := Xs2.ext Ey
  have r22 : OwnW s0 n0 39 #[.val (.int x0), .val (.long x1), .second, .val (.long x2), .second, .val (.int x3), .val (.ref s1), .val (.ref s2), .val (.ref s3), .unset, .unset, .unset, .unset, .unset, .unset, .unset, .unset] [] hr21 6 15 := r21.go fun T t X k => XS.astore X hx rfl (hb hby at_37) rfl rfl (l' := #[.val (.int x0), .val (.long x1), .second, .val (.long x2), .second, .val (.int x3), .val (.ref s1), .val (.ref s2), .val (.ref s3), .unset, .unset, .unset, .unset, .unset, .unset, .unset, .unset]) rfl k
  obtain ⟨hr23, r23, Er23, Xf, Dr23⟩ := r22.newO hx hZ hown (hw _ (List.mem_of_getElem? (i := 26) rfl)) (hw _ (List.mem_of_getElem? (i := 27) rfl)) (hw _ (List.mem_of_getElem? (i := 28) rfl)) (hb hby at_39) (by decide) (by decide)
  obtain ⟨f, qf⟩ : ∃ z, z = hr21.size := ⟨_, rfl⟩
  rw [← qf] at r23 Xf Dr23
  have F_method_f : Fld Z hr23 f "com/example/onnce/onnce/store/Fingerprint" "method" "Ljava/lang/String;" .null := Dr23 (Or.inr (hw _ (List.mem_of_getElem? (i := 48) rfl))) (ty := (.object "java/lang/String")) (by decide)
  have F_target_f : Fld Z hr23 f "com/example/onnce/onnce/store/Fingerprint" "target" "Ljava/lang/String;" .null := Dr23 (Or.inr (hw _ (List.mem_of_getElem? (i := 50) rfl))) (ty := (.object "java/lang/String")) (by decide)
  have F_contentSha256_f : Fld Z hr23 f "com/example/onnce/onnce/store/Fingerprint" "contentSha256" "Ljava/lang/String;" .null := Dr23 (Or.inr (hw _ (List.mem_of_getElem? (i := 52) rfl))) (ty := (.object "java/lang/String")) (by decide)
  have r23 : OwnW s0 n0 42 #[.val (.int x0), .val (.long x1), .second, .val (.long x2), .second, .val (.int x3), .val (.ref s1), .val (.ref s2), .val (.ref s3), .unset, .unset, .unset, .unset, .unset, .unset, .unset, .unset] [(.ref f)] hr23 7 18 := r23
  have zf : h0.size ≤ f := Nat.le_trans Ex.1 (Nat.le_of_eq qf.symm)
  have hk := Nat.le_trans hk Er23.1
  have r24 : OwnW s0 n0 43 #[.val (.int x0), .val (.long x1), .second, .val (.long x2), .second, .val (.int x3), .val (.ref s1), .val (.ref s2), .val (.ref s3), .unset, .unset, .unset, .unset, .unset, .unset, .unset, .unset] [(.ref f), (.ref f)] hr23 7 18 := r23.go fun T t X k => XS.dup X hx rfl (hb hby at_42) rfl rfl k
  have r25 : OwnW s0 n0 45 #[.val (.int x0), .val (.long x1), .second, .val (.long x2), .second, .val (.int x3), .val (.ref s1), .val (.ref s2), .val (.ref s3), .unset, .unset, .unset, .unset, .unset, .unset, .unset, .unset] [(.ref s1), (.ref f), (.ref f)] hr23 7 18 := r24.go fun T t X k => XS.aload X hx rfl (hb hby at_43) rfl rfl k
  have r26 : OwnW s0 n0 47 #[.val (.int x0), .val (.long x1), .second, .val (.long x2), .second, .val (.int x3), .val (.ref s1), .val (.ref s2), .val (.ref s3), .unset, .unset, .unset, .unset, .unset, .unset, .unset, .unset] [(.ref s2), (.ref s1), (.ref f), (.ref f)] hr23 7 18 := r25.go fun T t X k => XS.aload X hx rfl (hb hby at_45) rfl rfl k
  have r27 : OwnW s0 n0 49 #[.val (.int x0), .val (.long x1), .second, .val (.long x2), .second, .val (.int x3), .val (.ref s1), .val (.ref s2), .val (.ref s3), .unset, .unset, .unset, .unset, .unset, .unset, .unset, .unset] [(.ref s3), (.ref s2), (.ref s1), (.ref f), (.ref f)] hr23 7 18 := r26.go fun T t X k => XS.aload X hx rfl (hb hby at_47) rfl rfl k
  obtain ⟨vr28, hr28, vmr28, kkr28, hS, hk, hZ, hown, r28, qr28⟩ := r27.callNS hx hZ rfl hown hS hk (hw _ (List.mem_of_getElem? (i := 29) rfl)) (hw _ (List.mem_of_getElem? (i := 30) rfl)) (hw _ (List.mem_of_getElem? (i := 28) rfl)) (hw _ (List.mem_of_getElem? (i := 31) rfl)) (by decide) (a := f) (argsL := [(.ref s1), (.ref s2), (.ref s3)]) (own_fin l Z a0 hw f s1 s2 s3 hr23 n0 Xf F_method_f F_target_f F_contentSha256_f (Nat.le_trans Z0 zf)) [(.ref f)] 1 (by decide) (by decide) (by rw [hml]; rfl) (lenOf own_pd7 rfl) rfl (Nat.le_of_eq rfl) (hb hby at_49) (by decide) (by decide)
  obtain ⟨rfl, K1, Ef, G1, G2, G3⟩ := qr28
  have r28 : OwnW s0 n0 52 #[.val (.int x0), .val (.long x1), .second, .val (.long x2), .second, .val (.int x3), .val (.ref s1), .val (.ref s2), .val (.ref s3), .unset, .unset, .unset, .unset, .unset, .unset, .unset, .unset] [(.ref f)] hr28 13 130 := r28
  have Ex := own_ext_keep (own_ext_trans Ex Er23) K1 zf
  have Xs1 := (Xs1.ext Er23).keep K1
  have Xs2 := (Xs2.ext Er23).keep K1
  have Xs3 := (Xs3.ext Er23).keep K1
  have r29 : OwnW s0 n0 54 #[.val (.int x0), .val (.long x1), .second, .val (.long x2), .second, .val (.int x3), .val (.ref s1), .val (.ref s2), .val (.ref s3), .val (.ref f), .unset, .unset, .unset, .unset, .unset, .unset, .unset] [] hr28 13 130 := r28.go fun T t X k => XS.astore X hx rfl (hb hby at_52) rfl rfl (l' := #[.val (.int x0), .val (.long x1), .second, .val (.long x2), .second, .val (.int x3), .val (.ref s1), .val (.ref s2), .val (.ref s3), .val (.ref f), .unset, .unset, .unset, .unset, .unset, .unset, .unset]) rfl k
  obtain ⟨hr30, r30, Er30, Xc_, Dr30⟩ := r29.newO hx hZ hown (hw _ (List.mem_of_getElem? (i := 53) rfl)) (hw _ (List.mem_of_getElem? (i := 54) rfl)) (hw _ (List.mem_of_getElem? (i := 55) rfl)) (hb hby at_54) (by decide) (by decide)
  obtain ⟨c_, qc_⟩ : ∃ z, z = hr28.size := ⟨_, rfl⟩
  rw [← qc_] at r30 Xc_ Dr30
  have F_fingerprint_c_ : Fld Z hr30 c_ "com/example/onnce/onnce/store/KeyRecord$Claimed" "fingerprint" "Lcom/example/onnce/onnce/store/Fingerprint;" .null := Dr30 (Or.inr (hw _ (List.mem_of_getElem? (i := 63) rfl))) (ty := (.object "com/example/onnce/onnce/store/Fingerprint")) (by decide)
  have F_opening_c_ : Fld Z hr30 c_ "com/example/onnce/onnce/store/KeyRecord$Claimed" "opening" "J" (.long (0 : Int64)) := Dr30 (Or.inr (hw _ (List.mem_of_getElem? (i := 65) rfl))) (ty := .long) (by decide)
  have F_leaseEnd_c_ : Fld Z hr30 c_ "com/example/onnce/onnce/store/KeyRecord$Claimed" "leaseEnd" "J" (.long (0 : Int64)) := Dr30 (Or.inr (hw _ (List.mem_of_getElem? (i := 67) rfl))) (ty := .long) (by decide)
  have r30 : OwnW s0 n0 57 #[.val (.int x0), .val (.long x1), .second, .val (.long x2), .second, .val (.int x3), .val (.ref s1), .val (.ref s2), .val (.ref s3), .val (.ref f), .unset, .unset, .unset, .unset, .unset, .unset, .unset] [(.ref c_)] hr30 14 133 := r30
  have zc : h0.size ≤ c_ := Nat.le_trans Ex.1 (Nat.le_of_eq qc_.symm)
  have hk := Nat.le_trans hk Er30.1
  have nfc : f ∉ [c_] := by intro q; cases List.mem_singleton.mp q; exact absurd (qc_ ▸ Ef.lt) (Nat.lt_irrefl _)
  have r31 : OwnW s0 n0 58 #[.val (.int x0), .val (.long x1), .second, .val (.long x2), .second, .val (.int x3), .val (.ref s1), .val (.ref s2), .val (.ref s3), .val (.ref f), .unset, .unset, .unset, .unset, .unset, .unset, .unset] [(.ref c_), (.ref c_)] hr30 14 133 := r30.go fun T t X k => XS.dup X hx rfl (hb hby at_57) rfl rfl k
  have r32 : OwnW s0 n0 60 #[.val (.int x0), .val (.long x1), .second, .val (.long x2), .second, .val (.int x3), .val (.ref s1), .val (.ref s2), .val (.ref s3), .val (.ref f), .unset, .unset, .unset, .unset, .unset, .unset, .unset] [(.ref f), (.ref c_), (.ref c_)] hr30 14 133 := r31.go fun T t X k => XS.aload X hx rfl (hb hby at_58) rfl rfl k
  have r33 : OwnW s0 n0 61 #[.val (.int x0), .val (.long x1), .second, .val (.long x2), .second, .val (.int x3), .val (.ref s1), .val (.ref s2), .val (.ref s3), .val (.ref f), .unset, .unset, .unset, .unset, .unset, .unset, .unset] [(.long x1), (.ref f), (.ref c_), (.ref c_)] hr30 14 133 := r32.go fun T t X k => XS.lloadN X hx rfl (hb hby at_60) rfl k
  have r34 : OwnW s0 n0 62 #[.val (.int x0), .val (.long x1), .second, .val (.long x2), .second, .val (.int x3), .val (.ref s1), .val (.ref s2), .val (.ref s3), .val (.ref f), .unset, .unset, .unset, .unset, .unset, .unset, .unset] [(.long x2), (.long x1), (.ref f), (.ref c_), (.ref c_)] hr30 14 133 := r33.go fun T t X k => XS.lloadN X hx rfl (hb hby at_61) rfl k
  obtain ⟨vr35, hr35, vmr35, kkr35, hS, hk, hZ, hown, r35, qr35⟩ := r34.callNS hx hZ rfl hown hS hk (hw _ (List.mem_of_getElem? (i := 56) rfl)) (hw _ (List.mem_of_getElem? (i := 57) rfl)) (hw _ (List.mem_of_getElem? (i := 55) rfl)) (hw _ (List.mem_of_getElem? (i := 58) rfl)) (by decide) (a := c_) (argsL := [(.ref f), (.long x1), (.long x2)]) (own_cin l Z a0 hw c_ f x1 x2 hr30 n0 Xc_ F_fingerprint_c_ F_opening_c_ F_leaseEnd_c_ (Nat.le_trans Z0 zc)) [(.ref c_)] 1 (by decide) (by decide) (by rw [hml]; rfl) (lenOf own_pd8 rfl) rfl (Nat.le_of_eq rfl) (hb hby at_62) (by decide) (by decide)
  obtain ⟨rfl, K2, Ec, C1, C2, C3⟩ := qr35
  have r35 : OwnW s0 n0 65 #[.val (.int x0), .val (.long x1), .second, .val (.long x2), .second, .val (.int x3), .val (.ref s1), .val (.ref s2), .val (.ref s3), .val (.ref f), .unset, .unset, .unset, .unset, .unset, .unset, .unset] [(.ref c_)] hr35 16 181 := r35
  have Ex := own_ext_keep (own_ext_trans Ex Er30) K2 zc
  have Xs1 := (Xs1.ext Er30).keep K2
  have G1 := (G1.ext Er30).keep K2 nfc
  have Xs2 := (Xs2.ext Er30).keep K2
  have G2 := (G2.ext Er30).keep K2 nfc
  have Xs3 := (Xs3.ext Er30).keep K2
  have G3 := (G3.ext Er30).keep K2 nfc
  have Ef := (Ef.ext Er30).keep K2
  have r36 : OwnW s0 n0 67 #[.val (.int x0), .val (.long x1), .second, .val (.long x2), .second, .val (.int x3), .val (.ref s1), .val (.ref s2), .val (.ref s3), .val (.ref f), .val (.ref c_), .unset, .unset, .unset, .unset, .unset, .unset] [] hr35 16 181 := r35.go fun T t X k => XS.astore X hx rfl (hb hby at_65) rfl rfl (l' := #[.val (.int x0), .val (.long x1), .second, .val (.long x2), .second, .val (.int x3), .val (.ref s1), .val (.ref s2), .val (.ref s3), .val (.ref f), .val (.ref c_), .unset, .unset, .unset, .unset, .unset, .unset]) rfl k
  have r37 : OwnW s0 n0 69 #[.val (.int x0), .val (.long x1), .second, .val (.long x2), .second, .val (.int x3), .val (.ref s1), .val (.ref s2), .val (.ref s3), .val (.ref f), .val (.ref c_), .unset, .unset, .unset, .unset, .unset, .unset] [(.int x3)] hr35 16 181 := r36.go fun T t X k => XS.iload X hx rfl (hb hby at_67) rfl k
  have r38 : OwnW s0 n0 70 #[.val (.int x0), .val (.long x1), .second, .val (.long x2), .second, .val (.int x3), .val (.ref s1), .val (.ref s2), .val (.ref s3), .val (.ref f), .val (.ref c_), .unset, .unset, .unset, .unset, .unset, .unset] [(.int (1 : Int32)), (.int x3)] hr35 16 181 := r37.go fun T t X k => XS.iconst X hx rfl (hb hby at_69) k
  have r39 : OwnW s0 n0 71 #[.val (.int x0), .val (.long x1), .second, .val (.long x2), .second, .val (.int x3), .val (.ref s1), .val (.ref s2), .val (.ref s3), .val (.ref f), .val (.ref c_), .unset, .unset, .unset, .unset, .unset, .unset] [(.int (x3 &&& (1 : Int32)))] hr35 16 181 := r38.go fun T t X k => XS.iand X hx rfl (hb hby at_70) rfl k
  by_cases hc : (x3 &&& (1 : Int32)) = (0 : Int32)
  · have ra := r39
    have ra40 : OwnW s0 n0 78 #[.val (.int x0), .val (.long x1), .second, .val (.long x2), .second, .val (.int x3), .val (.ref s1), .val (.ref s2), .val (.ref s3), .val (.ref f), .val (.ref c_), .unset, .unset, .unset, .unset, .unset, .unset] [] hr35 16 181 := ra.go fun T t X k => XS.ifYes X hx rfl (pc0 := 71) (pc' := 78) rfl (hb hby at_71) rfl ((if0 _ _).trans (teq hc).1) (by decide) (by decide) k
    have ra41 : OwnW s0 n0 79 #[.val (.int x0), .val (.long x1), .second, .val (.long x2), .second, .val (.int x3), .val (.ref s1), .val (.ref s2), .val (.ref s3), .val (.ref f), .val (.ref c_), .unset, .unset, .unset, .unset, .unset, .unset] [(.int (0 : Int32))] hr35 16 181 := ra40.go fun T t X k => XS.iconst X hx rfl (hb hby at_78) k
    have ra42 : OwnW s0 n0 81 #[.val (.int x0), .val (.long x1), .second, .val (.long x2), .second, .val (.int x3), .val (.ref s1), .val (.ref s2), .val (.ref s3), .val (.ref f), .val (.ref c_), .val (.int (0 : Int32)), .unset, .unset, .unset, .unset, .unset] [] hr35 16 181 := ra41.go fun T t X k => XS.istore X hx rfl (hb hby at_79) rfl (l' := #[.val (.int x0), .val (.long x1), .second, .val (.long x2), .second, .val (.int x3), .val (.ref s1), .val (.ref s2), .val (.ref s3), .val (.ref f), .val (.ref c_), .val (.int (0 : Int32)), .unset, .unset, .unset, .unset, .unset]) rfl k
    have ra43 : OwnW s0 n0 83 #[.val (.int x0), .val (.long x1), .second, .val (.long x2), .second, .val (.int x3), .val (.ref s1), .val (.ref s2), .val (.ref s3), .val (.ref f), .val (.ref c_), .val (.int (0 : Int32)), .unset, .unset, .unset, .unset, .unset] [(.ref c_)] hr35 16 181 := ra42.go fun T t X k => XS.aload X hx rfl (hb hby at_81) rfl rfl k
    have ra44 : OwnW s0 n0 85 #[.val (.int x0), .val (.long x1), .second, .val (.long x2), .second, .val (.int x3), .val (.ref s1), .val (.ref s2), .val (.ref s3), .val (.ref f), .val (.ref c_), .val (.int (0 : Int32)), .unset, .unset, .unset, .unset, .unset] [(.int (0 : Int32)), (.ref c_)] hr35 16 181 := ra43.go fun T t X k => XS.iload X hx rfl (hb hby at_83) rfl k
    obtain ⟨vra45, hra45, vmra45, kkra45, hS, hk, hZ, hown, ra45, qra45⟩ := ra44.callVS hx hZ hown hS hk (hw _ (List.mem_of_getElem? (i := 68) rfl)) (hw _ (List.mem_of_getElem? (i := 69) rfl)) (hw _ (List.mem_of_getElem? (i := 71) rfl)) (notFace_of_selects (args := #[]) (mvT hZ (hw _ (List.mem_of_getElem? (i := 71) rfl)))) (hw _ (List.mem_of_getElem? (i := 70) rfl)) (hw _ (List.mem_of_getElem? (i := 55) rfl)) (hw _ (List.mem_of_getElem? (i := 72) rfl)) (by decide) (a := c_) (argsL := [(.int (0 : Int32))]) Ec (own_fd0 l Z a0 hw c_ f hr35 n0 (Nat.le_trans Z0 Ex.1) C1) [] 0 (by decide) (by decide) (by rw [hml]; rfl) (lenOf own_pd9 rfl) rfl (Nat.le_of_eq rfl) (hb hby at_85) (by decide) (by decide)
    obtain ⟨q, rfl, Ey, Xq, Fq⟩ := qra45
    have ra45 : OwnW s0 n0 88 #[.val (.int x0), .val (.long x1), .second, .val (.long x2), .second, .val (.int x3), .val (.ref s1), .val (.ref s2), .val (.ref s3), .val (.ref f), .val (.ref c_), .val (.int (0 : Int32)), .unset, .unset, .unset, .unset, .unset] [(.ref q)] hra45 19 230 := ra45
    have Xs1 := Xs1.ext Ey
    have Xs2 := Xs2.ext Ey
    have Xs3 := Xs3.ext Ey
    have G1 := G1.ext Ey
    have G2 := G2.ext Ey
    have G3 := G3.ext Ey
    have Ef := Ef.ext Ey
    have Ec := Ec.ext Ey
    have C1 := C1.ext Ey
    have C2 := C2.ext Ey
    have C3 := C3.ext Ey
    have ra46 : OwnW s0 n0 90 #[.val (.int x0), .val (.long x1), .second, .val (.long x2), .second, .val (.int x3), .val (.ref s1), .val (.ref s2), .val (.ref s3), .val (.ref f), .val (.ref c_), .val (.int (0 : Int32)), .val (.ref q), .unset, .unset, .unset, .unset] [] hra45 19 230 := ra45.go fun T t X k => XS.astore X hx rfl (hb hby at_88) rfl rfl (l' := #[.val (.int x0), .val (.long x1), .second, .val (.long x2), .second, .val (.int x3), .val (.ref s1), .val (.ref s2), .val (.ref s3), .val (.ref f), .val (.ref c_), .val (.int (0 : Int32)), .val (.ref q), .unset, .unset, .unset, .unset]) rfl k
    have ra47 : OwnW s0 n0 92 #[.val (.int x0), .val (.long x1), .second, .val (.long x2), .second, .val (.int x3), .val (.ref s1), .val (.ref s2), .val (.ref s3), .val (.ref f), .val (.ref c_), .val (.int (0 : Int32)), .val (.ref q), .unset, .unset, .unset, .unset] [(.ref q)] hra45 19 230 := ra46.go fun T t X k => XS.aload X hx rfl (hb hby at_90) rfl rfl k
    have ra48 : OwnW s0 n0 97 #[.val (.int x0), .val (.long x1), .second, .val (.long x2), .second, .val (.int x3), .val (.ref s1), .val (.ref s2), .val (.ref s3), .val (.ref f), .val (.ref c_), .val (.int (0 : Int32)), .val (.ref q), .unset, .unset, .unset, .unset] [] hra45 19 230 := ra47.go fun T t X k => XS.ifnonnullYes X hx rfl (pc0 := 92) (pc' := 97) rfl (hb hby at_92) rfl (by decide) (by decide) k
    have ra49 : OwnW s0 n0 99 #[.val (.int x0), .val (.long x1), .second, .val (.long x2), .second, .val (.int x3), .val (.ref s1), .val (.ref s2), .val (.ref s3), .val (.ref f), .val (.ref c_), .val (.int (0 : Int32)), .val (.ref q), .unset, .unset, .unset, .unset] [(.int (0 : Int32))] hra45 19 230 := ra48.go fun T t X k => XS.iload X hx rfl (hb hby at_97) rfl k
    have ra50 : OwnW s0 n0 110 #[.val (.int x0), .val (.long x1), .second, .val (.long x2), .second, .val (.int x3), .val (.ref s1), .val (.ref s2), .val (.ref s3), .val (.ref f), .val (.ref c_), .val (.int (0 : Int32)), .val (.ref q), .unset, .unset, .unset, .unset] [] hra45 19 230 := ra49.go fun T t X k => XS.ifYes X hx rfl (pc0 := 99) (pc' := 110) rfl (hb hby at_99) rfl ((if0 _ _).trans (teq rfl).1) (by decide) (by decide) k
    have ra51 : OwnW s0 n0 112 #[.val (.int x0), .val (.long x1), .second, .val (.long x2), .second, .val (.int x3), .val (.ref s1), .val (.ref s2), .val (.ref s3), .val (.ref f), .val (.ref c_), .val (.int (0 : Int32)), .val (.ref q), .unset, .unset, .unset, .unset] [(.ref q)] hra45 19 230 := ra50.go fun T t X k => XS.aload X hx rfl (hb hby at_110) rfl rfl k
    have ra52 : OwnW s0 n0 115 #[.val (.int x0), .val (.long x1), .second, .val (.long x2), .second, .val (.int x3), .val (.ref s1), .val (.ref s2), .val (.ref s3), .val (.ref f), .val (.ref c_), .val (.int (0 : Int32)), .val (.ref q), .unset, .unset, .unset, .unset] [(.int (1 : Int32))] hra45 19 230 := ra51.inst hx hZ hown (hw _ (List.mem_of_getElem? (i := 84) rfl)) (Ins.self Xq) rfl (hb hby at_112)
    have ra53 : OwnW s0 n0 117 #[.val (.int x0), .val (.long x1), .second, .val (.long x2), .second, .val (.int x3), .val (.ref s1), .val (.ref s2), .val (.ref s3), .val (.ref f), .val (.ref c_), .val (.int (0 : Int32)), .val (.ref q), .val (.int (1 : Int32)), .unset, .unset, .unset] [] hra45 19 230 := ra52.go fun T t X k => XS.istore X hx rfl (hb hby at_115) rfl (l' := #[.val (.int x0), .val (.long x1), .second, .val (.long x2), .second, .val (.int x3), .val (.ref s1), .val (.ref s2), .val (.ref s3), .val (.ref f), .val (.ref c_), .val (.int (0 : Int32)), .val (.ref q), .val (.int (1 : Int32)), .unset, .unset, .unset]) rfl k
    have ra54 : OwnW s0 n0 119 #[.val (.int x0), .val (.long x1), .second, .val (.long x2), .second, .val (.int x3), .val (.ref s1), .val (.ref s2), .val (.ref s3), .val (.ref f), .val (.ref c_), .val (.int (0 : Int32)), .val (.ref q), .val (.int (1 : Int32)), .unset, .unset, .unset] [(.ref q)] hra45 19 230 := ra53.go fun T t X k => XS.aload X hx rfl (hb hby at_117) rfl rfl k
    obtain ⟨vra55, hra55, ra55, qra55⟩ := ra54.callI hx hZ hown (hw _ (List.mem_of_getElem? (i := 86) rfl)) (hw _ (List.mem_of_getElem? (i := 87) rfl)) (mvT hZ (hw _ (List.mem_of_getElem? (i := 88) rfl))) (hw _ (List.mem_of_getElem? (i := 89) rfl)) (hw _ (List.mem_of_getElem? (i := 90) rfl)) (hw _ (List.mem_of_getElem? (i := 91) rfl)) (hw _ (List.mem_of_getElem? (i := 92) rfl)) (hw _ (List.mem_of_getElem? (i := 93) rfl)) (hw _ (List.mem_of_getElem? (i := 75) rfl)) (hw _ (List.mem_of_getElem? (i := 94) rfl)) (by decide) (a := q) (argsL := []) Xq (own_gfo l Z a0 hw q f hra45 n0 Fq) [] 0 (by decide) (by decide) (by rw [hml]; rfl) (lenOf own_pd10 rfl) rfl (Nat.le_of_eq rfl) (hb hby at_119) (by decide) (by decide)
    obtain ⟨rfl, rfl⟩ := qra55
    have ra55 : OwnW s0 n0 124 #[.val (.int x0), .val (.long x1), .second, .val (.long x2), .second, .val (.int x3), .val (.ref s1), .val (.ref s2), .val (.ref s3), .val (.ref f), .val (.ref c_), .val (.int (0 : Int32)), .val (.ref q), .val (.int (1 : Int32)), .unset, .unset, .unset] [(.ref f)] hra45 19 230 := ra55
    have ra56 : OwnW s0 n0 126 #[.val (.int x0), .val (.long x1), .second, .val (.long x2), .second, .val (.int x3), .val (.ref s1), .val (.ref s2), .val (.ref s3), .val (.ref f), .val (.ref c_), .val (.int (0 : Int32)), .val (.ref q), .val (.int (1 : Int32)), .val (.ref f), .unset, .unset] [] hra45 19 230 := ra55.go fun T t X k => XS.astore X hx rfl (hb hby at_124) rfl rfl (l' := #[.val (.int x0), .val (.long x1), .second, .val (.long x2), .second, .val (.int x3), .val (.ref s1), .val (.ref s2), .val (.ref s3), .val (.ref f), .val (.ref c_), .val (.int (0 : Int32)), .val (.ref q), .val (.int (1 : Int32)), .val (.ref f), .unset, .unset]) rfl k
    have ra57 : OwnW s0 n0 128 #[.val (.int x0), .val (.long x1), .second, .val (.long x2), .second, .val (.int x3), .val (.ref s1), .val (.ref s2), .val (.ref s3), .val (.ref f), .val (.ref c_), .val (.int (0 : Int32)), .val (.ref q), .val (.int (1 : Int32)), .val (.ref f), .unset, .unset] [(.ref f)] hra45 19 230 := ra56.go fun T t X k => XS.aload X hx rfl (hb hby at_126) rfl rfl k
    have ra58 : OwnW s0 n0 131 #[.val (.int x0), .val (.long x1), .second, .val (.long x2), .second, .val (.int x3), .val (.ref s1), .val (.ref s2), .val (.ref s3), .val (.ref f), .val (.ref c_), .val (.int (0 : Int32)), .val (.ref q), .val (.int (1 : Int32)), .val (.ref f), .unset, .unset] [] hra45 19 230 := ra57.go fun T t X k => XS.ifnullNo X hx rfl (hb hby at_128) rfl k
    have ra59 : OwnW s0 n0 133 #[.val (.int x0), .val (.long x1), .second, .val (.long x2), .second, .val (.int x3), .val (.ref s1), .val (.ref s2), .val (.ref s3), .val (.ref f), .val (.ref c_), .val (.int (0 : Int32)), .val (.ref q), .val (.int (1 : Int32)), .val (.ref f), .unset, .unset] [(.ref f)] hra45 19 230 := ra58.go fun T t X k => XS.aload X hx rfl (hb hby at_131) rfl rfl k
    obtain ⟨vra60, hra60, ra60, qra60⟩ := ra59.callV hx hZ hown (hw _ (List.mem_of_getElem? (i := 95) rfl)) (hw _ (List.mem_of_getElem? (i := 96) rfl)) (hw _ (List.mem_of_getElem? (i := 98) rfl)) (notFace_of_selects (args := #[]) (mvT hZ (hw _ (List.mem_of_getElem? (i := 98) rfl)))) (hw _ (List.mem_of_getElem? (i := 97) rfl)) (hw _ (List.mem_of_getElem? (i := 28) rfl)) (hw _ (List.mem_of_getElem? (i := 99) rfl)) (by decide) (a := f) (argsL := []) Ef (own_gme l Z a0 hw f s1 hra45 n0 G1) [] 0 (by decide) (by decide) (by rw [hml]; rfl) (lenOf own_pd11 rfl) rfl (Nat.le_of_eq rfl) (hb hby at_133) (by decide) (by decide)
    obtain ⟨rfl, rfl⟩ := qra60
    have ra60 : OwnW s0 n0 136 #[.val (.int x0), .val (.long x1), .second, .val (.long x2), .second, .val (.int x3), .val (.ref s1), .val (.ref s2), .val (.ref s3), .val (.ref f), .val (.ref c_), .val (.int (0 : Int32)), .val (.ref q), .val (.int (1 : Int32)), .val (.ref f), .unset, .unset] [(.ref s1)] hra45 19 230 := ra60
    have ra61 : OwnW s0 n0 138 #[.val (.int x0), .val (.long x1), .second, .val (.long x2), .second, .val (.int x3), .val (.ref s1), .val (.ref s2), .val (.ref s3), .val (.ref f), .val (.ref c_), .val (.int (0 : Int32)), .val (.ref q), .val (.int (1 : Int32)), .val (.ref f), .unset, .unset] [(.ref s1), (.ref s1)] hra45 19 230 := ra60.go fun T t X k => XS.aload X hx rfl (hb hby at_136) rfl rfl k
    obtain ⟨vra62, hra62, ra62, qra62⟩ := ra61.callV hx hZ hown (hw _ (List.mem_of_getElem? (i := 100) rfl)) (hw _ (List.mem_of_getElem? (i := 101) rfl)) (hw _ (List.mem_of_getElem? (i := 103) rfl)) (notFace_of_selects (args := #[]) (mvT hZ (hw _ (List.mem_of_getElem? (i := 103) rfl)))) (hw _ (List.mem_of_getElem? (i := 102) rfl)) (hw _ (List.mem_of_getElem? (i := 2) rfl)) (hw _ (List.mem_of_getElem? (i := 104) rfl)) (by decide) (a := s1) (argsL := [(.ref s1)]) Xs1 (own_eqs l Z a0 hw s1 hra45 n0) [] 0 (by decide) (by decide) (by rw [hml]; rfl) (lenOf own_pd12 rfl) rfl (Nat.le_of_eq rfl) (hb hby at_138) (by decide) (by decide)
    obtain ⟨rfl, rfl⟩ := qra62
    have ra62 : OwnW s0 n0 141 #[.val (.int x0), .val (.long x1), .second, .val (.long x2), .second, .val (.int x3), .val (.ref s1), .val (.ref s2), .val (.ref s3), .val (.ref f), .val (.ref c_), .val (.int (0 : Int32)), .val (.ref q), .val (.int (1 : Int32)), .val (.ref f), .unset, .unset] [(.int (1 : Int32))] hra45 19 230 := ra62
    have ra63 : OwnW s0 n0 144 #[.val (.int x0), .val (.long x1), .second, .val (.long x2), .second, .val (.int x3), .val (.ref s1), .val (.ref s2), .val (.ref s3), .val (.ref f), .val (.ref c_), .val (.int (0 : Int32)), .val (.ref q), .val (.int (1 : Int32)), .val (.ref f), .unset, .unset] [] hra45 19 230 := ra62.go fun T t X k => XS.ifNo X hx rfl (hb hby at_141) rfl ((if0 _ _).trans (feq (by decide)).1) k
    have ra64 : OwnW s0 n0 146 #[.val (.int x0), .val (.long x1), .second, .val (.long x2), .second, .val (.int x3), .val (.ref s1), .val (.ref s2), .val (.ref s3), .val (.ref f), .val (.ref c_), .val (.int (0 : Int32)), .val (.ref q), .val (.int (1 : Int32)), .val (.ref f), .unset, .unset] [(.ref f)] hra45 19 230 := ra63.go fun T t X k => XS.aload X hx rfl (hb hby at_144) rfl rfl k
    obtain ⟨vra65, hra65, ra65, qra65⟩ := ra64.callV hx hZ hown (hw _ (List.mem_of_getElem? (i := 105) rfl)) (hw _ (List.mem_of_getElem? (i := 106) rfl)) (hw _ (List.mem_of_getElem? (i := 108) rfl)) (notFace_of_selects (args := #[]) (mvT hZ (hw _ (List.mem_of_getElem? (i := 108) rfl)))) (hw _ (List.mem_of_getElem? (i := 107) rfl)) (hw _ (List.mem_of_getElem? (i := 28) rfl)) (hw _ (List.mem_of_getElem? (i := 109) rfl)) (by decide) (a := f) (argsL := []) Ef (own_gta l Z a0 hw f s2 hra45 n0 G2) [] 0 (by decide) (by decide) (by rw [hml]; rfl) (lenOf own_pd11 rfl) rfl (Nat.le_of_eq rfl) (hb hby at_146) (by decide) (by decide)
    obtain ⟨rfl, rfl⟩ := qra65
    have ra65 : OwnW s0 n0 149 #[.val (.int x0), .val (.long x1), .second, .val (.long x2), .second, .val (.int x3), .val (.ref s1), .val (.ref s2), .val (.ref s3), .val (.ref f), .val (.ref c_), .val (.int (0 : Int32)), .val (.ref q), .val (.int (1 : Int32)), .val (.ref f), .unset, .unset] [(.ref s2)] hra45 19 230 := ra65
    have ra66 : OwnW s0 n0 151 #[.val (.int x0), .val (.long x1), .second, .val (.long x2), .second, .val (.int x3), .val (.ref s1), .val (.ref s2), .val (.ref s3), .val (.ref f), .val (.ref c_), .val (.int (0 : Int32)), .val (.ref q), .val (.int (1 : Int32)), .val (.ref f), .unset, .unset] [(.ref s2), (.ref s2)] hra45 19 230 := ra65.go fun T t X k => XS.aload X hx rfl (hb hby at_149) rfl rfl k
    obtain ⟨vra67, hra67, ra67, qra67⟩ := ra66.callV hx hZ hown (hw _ (List.mem_of_getElem? (i := 100) rfl)) (hw _ (List.mem_of_getElem? (i := 101) rfl)) (hw _ (List.mem_of_getElem? (i := 103) rfl)) (notFace_of_selects (args := #[]) (mvT hZ (hw _ (List.mem_of_getElem? (i := 103) rfl)))) (hw _ (List.mem_of_getElem? (i := 102) rfl)) (hw _ (List.mem_of_getElem? (i := 2) rfl)) (hw _ (List.mem_of_getElem? (i := 104) rfl)) (by decide) (a := s2) (argsL := [(.ref s2)]) Xs2 (own_eqs l Z a0 hw s2 hra45 n0) [] 0 (by decide) (by decide) (by rw [hml]; rfl) (lenOf own_pd12 rfl) rfl (Nat.le_of_eq rfl) (hb hby at_151) (by decide) (by decide)
    obtain ⟨rfl, rfl⟩ := qra67
    have ra67 : OwnW s0 n0 154 #[.val (.int x0), .val (.long x1), .second, .val (.long x2), .second, .val (.int x3), .val (.ref s1), .val (.ref s2), .val (.ref s3), .val (.ref f), .val (.ref c_), .val (.int (0 : Int32)), .val (.ref q), .val (.int (1 : Int32)), .val (.ref f), .unset, .unset] [(.int (1 : Int32))] hra45 19 230 := ra67
    have ra68 : OwnW s0 n0 157 #[.val (.int x0), .val (.long x1), .second, .val (.long x2), .second, .val (.int x3), .val (.ref s1), .val (.ref s2), .val (.ref s3), .val (.ref f), .val (.ref c_), .val (.int (0 : Int32)), .val (.ref q), .val (.int (1 : Int32)), .val (.ref f), .unset, .unset] [] hra45 19 230 := ra67.go fun T t X k => XS.ifNo X hx rfl (hb hby at_154) rfl ((if0 _ _).trans (feq (by decide)).1) k
    have ra69 : OwnW s0 n0 159 #[.val (.int x0), .val (.long x1), .second, .val (.long x2), .second, .val (.int x3), .val (.ref s1), .val (.ref s2), .val (.ref s3), .val (.ref f), .val (.ref c_), .val (.int (0 : Int32)), .val (.ref q), .val (.int (1 : Int32)), .val (.ref f), .unset, .unset] [(.ref f)] hra45 19 230 := ra68.go fun T t X k => XS.aload X hx rfl (hb hby at_157) rfl rfl k
    obtain ⟨vra70, hra70, ra70, qra70⟩ := ra69.callV hx hZ hown (hw _ (List.mem_of_getElem? (i := 110) rfl)) (hw _ (List.mem_of_getElem? (i := 111) rfl)) (hw _ (List.mem_of_getElem? (i := 113) rfl)) (notFace_of_selects (args := #[]) (mvT hZ (hw _ (List.mem_of_getElem? (i := 113) rfl)))) (hw _ (List.mem_of_getElem? (i := 112) rfl)) (hw _ (List.mem_of_getElem? (i := 28) rfl)) (hw _ (List.mem_of_getElem? (i := 114) rfl)) (by decide) (a := f) (argsL := []) Ef (own_gsh l Z a0 hw f s3 hra45 n0 G3) [] 0 (by decide) (by decide) (by rw [hml]; rfl) (lenOf own_pd11 rfl) rfl (Nat.le_of_eq rfl) (hb hby at_159) (by decide) (by decide)
    obtain ⟨rfl, rfl⟩ := qra70
    have ra70 : OwnW s0 n0 162 #[.val (.int x0), .val (.long x1), .second, .val (.long x2), .second, .val (.int x3), .val (.ref s1), .val (.ref s2), .val (.ref s3), .val (.ref f), .val (.ref c_), .val (.int (0 : Int32)), .val (.ref q), .val (.int (1 : Int32)), .val (.ref f), .unset, .unset] [(.ref s3)] hra45 19 230 := ra70
    have ra71 : OwnW s0 n0 164 #[.val (.int x0), .val (.long x1), .second, .val (.long x2), .second, .val (.int x3), .val (.ref s1), .val (.ref s2), .val (.ref s3), .val (.ref f), .val (.ref c_), .val (.int (0 : Int32)), .val (.ref q), .val (.int (1 : Int32)), .val (.ref f), .unset, .unset] [(.ref s3), (.ref s3)] hra45 19 230 := ra70.go fun T t X k => XS.aload X hx rfl (hb hby at_162) rfl rfl k
    obtain ⟨vra72, hra72, ra72, qra72⟩ := ra71.callV hx hZ hown (hw _ (List.mem_of_getElem? (i := 100) rfl)) (hw _ (List.mem_of_getElem? (i := 101) rfl)) (hw _ (List.mem_of_getElem? (i := 103) rfl)) (notFace_of_selects (args := #[]) (mvT hZ (hw _ (List.mem_of_getElem? (i := 103) rfl)))) (hw _ (List.mem_of_getElem? (i := 102) rfl)) (hw _ (List.mem_of_getElem? (i := 2) rfl)) (hw _ (List.mem_of_getElem? (i := 104) rfl)) (by decide) (a := s3) (argsL := [(.ref s3)]) Xs3 (own_eqs l Z a0 hw s3 hra45 n0) [] 0 (by decide) (by decide) (by rw [hml]; rfl) (lenOf own_pd12 rfl) rfl (Nat.le_of_eq rfl) (hb hby at_164) (by decide) (by decide)
    obtain ⟨rfl, rfl⟩ := qra72
    have ra72 : OwnW s0 n0 167 #[.val (.int x0), .val (.long x1), .second, .val (.long x2), .second, .val (.int x3), .val (.ref s1), .val (.ref s2), .val (.ref s3), .val (.ref f), .val (.ref c_), .val (.int (0 : Int32)), .val (.ref q), .val (.int (1 : Int32)), .val (.ref f), .unset, .unset] [(.int (1 : Int32))] hra45 19 230 := ra72
    have ra73 : OwnW s0 n0 170 #[.val (.int x0), .val (.long x1), .second, .val (.long x2), .second, .val (.int x3), .val (.ref s1), .val (.ref s2), .val (.ref s3), .val (.ref f), .val (.ref c_), .val (.int (0 : Int32)), .val (.ref q), .val (.int (1 : Int32)), .val (.ref f), .unset, .unset] [] hra45 19 230 := ra72.go fun T t X k => XS.ifNo X hx rfl (hb hby at_167) rfl ((if0 _ _).trans (feq (by decide)).1) k
    have ra74 : OwnW s0 n0 171 #[.val (.int x0), .val (.long x1), .second, .val (.long x2), .second, .val (.int x3), .val (.ref s1), .val (.ref s2), .val (.ref s3), .val (.ref f), .val (.ref c_), .val (.int (0 : Int32)), .val (.ref q), .val (.int (1 : Int32)), .val (.ref f), .unset, .unset] [(.int (1 : Int32))] hra45 19 230 := ra73.go fun T t X k => XS.iconst X hx rfl (hb hby at_170) k
    have ra75 : OwnW s0 n0 175 #[.val (.int x0), .val (.long x1), .second, .val (.long x2), .second, .val (.int x3), .val (.ref s1), .val (.ref s2), .val (.ref s3), .val (.ref f), .val (.ref c_), .val (.int (0 : Int32)), .val (.ref q), .val (.int (1 : Int32)), .val (.ref f), .unset, .unset] [(.int (1 : Int32))] hra45 19 230 := ra74.go fun T t X k => XS.goto X hx rfl (pc0 := 171) (pc' := 175) rfl (hb hby at_171) (by decide) (by decide) k
    have ra76 : OwnW s0 n0 177 #[.val (.int x0), .val (.long x1), .second, .val (.long x2), .second, .val (.int x3), .val (.ref s1), .val (.ref s2), .val (.ref s3), .val (.ref f), .val (.ref c_), .val (.int (0 : Int32)), .val (.ref q), .val (.int (1 : Int32)), .val (.ref f), .val (.int (1 : Int32)), .unset] [] hra45 19 230 := ra75.go fun T t X k => XS.istore X hx rfl (hb hby at_175) rfl (l' := #[.val (.int x0), .val (.long x1), .second, .val (.long x2), .second, .val (.int x3), .val (.ref s1), .val (.ref s2), .val (.ref s3), .val (.ref f), .val (.ref c_), .val (.int (0 : Int32)), .val (.ref q), .val (.int (1 : Int32)), .val (.ref f), .val (.int (1 : Int32)), .unset]) rfl k
    have ra77 : OwnW s0 n0 179 #[.val (.int x0), .val (.long x1), .second, .val (.long x2), .second, .val (.int x3), .val (.ref s1), .val (.ref s2), .val (.ref s3), .val (.ref f), .val (.ref c_), .val (.int (0 : Int32)), .val (.ref q), .val (.int (1 : Int32)), .val (.ref f), .val (.int (1 : Int32)), .unset] [(.ref c_)] hra45 19 230 := ra76.go fun T t X k => XS.aload X hx rfl (hb hby at_177) rfl rfl k
    obtain ⟨vra78, hra78, ra78, qra78⟩ := ra77.callV hx hZ hown (hw _ (List.mem_of_getElem? (i := 115) rfl)) (hw _ (List.mem_of_getElem? (i := 116) rfl)) (hw _ (List.mem_of_getElem? (i := 118) rfl)) (notFace_of_selects (args := #[]) (mvT hZ (hw _ (List.mem_of_getElem? (i := 118) rfl)))) (hw _ (List.mem_of_getElem? (i := 117) rfl)) (hw _ (List.mem_of_getElem? (i := 55) rfl)) (hw _ (List.mem_of_getElem? (i := 119) rfl)) (by decide) (a := c_) (argsL := []) Ec (own_gfc l Z a0 hw c_ f hra45 n0 C1) [] 0 (by decide) (by decide) (by rw [hml]; rfl) (lenOf own_pd10 rfl) rfl (Nat.le_of_eq rfl) (hb hby at_179) (by decide) (by decide)
    obtain ⟨rfl, rfl⟩ := qra78
    have ra78 : OwnW s0 n0 182 #[.val (.int x0), .val (.long x1), .second, .val (.long x2), .second, .val (.int x3), .val (.ref s1), .val (.ref s2), .val (.ref s3), .val (.ref f), .val (.ref c_), .val (.int (0 : Int32)), .val (.ref q), .val (.int (1 : Int32)), .val (.ref f), .val (.int (1 : Int32)), .unset] [(.ref f)] hra45 19 230 := ra78
    have ra79 : OwnW s0 n0 184 #[.val (.int x0), .val (.long x1), .second, .val (.long x2), .second, .val (.int x3), .val (.ref s1), .val (.ref s2), .val (.ref s3), .val (.ref f), .val (.ref c_), .val (.int (0 : Int32)), .val (.ref q), .val (.int (1 : Int32)), .val (.ref f), .val (.int (1 : Int32)), .unset] [(.ref f), (.ref f)] hra45 19 230 := ra78.go fun T t X k => XS.aload X hx rfl (hb hby at_182) rfl rfl k
    have ra80 : OwnW s0 n0 187 #[.val (.int x0), .val (.long x1), .second, .val (.long x2), .second, .val (.int x3), .val (.ref s1), .val (.ref s2), .val (.ref s3), .val (.ref f), .val (.ref c_), .val (.int (0 : Int32)), .val (.ref q), .val (.int (1 : Int32)), .val (.ref f), .val (.int (1 : Int32)), .unset] [] hra45 19 230 := ra79.goX fun T t ls X eT k => Jvm.RoadKit.acmp X hx rfl rfl rfl (pc0 := 184) (pc' := 187) (same := true) rfl (hb hby at_184) rfl (decide_eq_true rfl) (by decide) (by decide) k
    have ra81 : OwnW s0 n0 189 #[.val (.int x0), .val (.long x1), .second, .val (.long x2), .second, .val (.int x3), .val (.ref s1), .val (.ref s2), .val (.ref s3), .val (.ref f), .val (.ref c_), .val (.int (0 : Int32)), .val (.ref q), .val (.int (1 : Int32)), .val (.ref f), .val (.int (1 : Int32)), .unset] [(.ref c_)] hra45 19 230 := ra80.go fun T t X k => XS.aload X hx rfl (hb hby at_187) rfl rfl k
    obtain ⟨vra82, hra82, ra82, qra82⟩ := ra81.callV hx hZ hown (hw _ (List.mem_of_getElem? (i := 120) rfl)) (hw _ (List.mem_of_getElem? (i := 121) rfl)) (hw _ (List.mem_of_getElem? (i := 123) rfl)) (notFace_of_selects (args := #[]) (mvT hZ (hw _ (List.mem_of_getElem? (i := 123) rfl)))) (hw _ (List.mem_of_getElem? (i := 122) rfl)) (hw _ (List.mem_of_getElem? (i := 55) rfl)) (hw _ (List.mem_of_getElem? (i := 124) rfl)) (by decide) (a := c_) (argsL := []) Ec (own_gop l Z a0 hw c_ x1 hra45 n0 C2) [] 0 (by decide) (by decide) (by rw [hml]; rfl) (lenOf own_pd13 rfl) rfl (Nat.le_of_eq rfl) (hb hby at_189) (by decide) (by decide)
    obtain ⟨rfl, rfl⟩ := qra82
    have ra82 : OwnW s0 n0 192 #[.val (.int x0), .val (.long x1), .second, .val (.long x2), .second, .val (.int x3), .val (.ref s1), .val (.ref s2), .val (.ref s3), .val (.ref f), .val (.ref c_), .val (.int (0 : Int32)), .val (.ref q), .val (.int (1 : Int32)), .val (.ref f), .val (.int (1 : Int32)), .unset] [(.long x1)] hra45 19 230 := ra82
    have ra83 : OwnW s0 n0 193 #[.val (.int x0), .val (.long x1), .second, .val (.long x2), .second, .val (.int x3), .val (.ref s1), .val (.ref s2), .val (.ref s3), .val (.ref f), .val (.ref c_), .val (.int (0 : Int32)), .val (.ref q), .val (.int (1 : Int32)), .val (.ref f), .val (.int (1 : Int32)), .unset] [(.long x1), (.long x1)] hra45 19 230 := ra82.go fun T t X k => XS.lloadN X hx rfl (hb hby at_192) rfl k
    have ra84 : OwnW s0 n0 194 #[.val (.int x0), .val (.long x1), .second, .val (.long x2), .second, .val (.int x3), .val (.ref s1), .val (.ref s2), .val (.ref s3), .val (.ref f), .val (.ref c_), .val (.int (0 : Int32)), .val (.ref q), .val (.int (1 : Int32)), .val (.ref f), .val (.int (1 : Int32)), .unset] [(.int (lcmpW x1 x1))] hra45 19 230 := ra83.go fun T t X k => XS.lcmp X hx rfl (hb hby at_193) rfl k
    have ra85 : OwnW s0 n0 197 #[.val (.int x0), .val (.long x1), .second, .val (.long x2), .second, .val (.int x3), .val (.ref s1), .val (.ref s2), .val (.ref s3), .val (.ref f), .val (.ref c_), .val (.int (0 : Int32)), .val (.ref q), .val (.int (1 : Int32)), .val (.ref f), .val (.int (1 : Int32)), .unset] [] hra45 19 230 := ra84.go fun T t X k => XS.ifNo X hx rfl (hb hby at_194) rfl ((if0 _ _).trans (teq ((lw_eq _ _).mpr rfl)).2) k
    have ra86 : OwnW s0 n0 199 #[.val (.int x0), .val (.long x1), .second, .val (.long x2), .second, .val (.int x3), .val (.ref s1), .val (.ref s2), .val (.ref s3), .val (.ref f), .val (.ref c_), .val (.int (0 : Int32)), .val (.ref q), .val (.int (1 : Int32)), .val (.ref f), .val (.int (1 : Int32)), .unset] [(.ref c_)] hra45 19 230 := ra85.go fun T t X k => XS.aload X hx rfl (hb hby at_197) rfl rfl k
    obtain ⟨vra87, hra87, ra87, qra87⟩ := ra86.callV hx hZ hown (hw _ (List.mem_of_getElem? (i := 125) rfl)) (hw _ (List.mem_of_getElem? (i := 126) rfl)) (hw _ (List.mem_of_getElem? (i := 128) rfl)) (notFace_of_selects (args := #[]) (mvT hZ (hw _ (List.mem_of_getElem? (i := 128) rfl)))) (hw _ (List.mem_of_getElem? (i := 127) rfl)) (hw _ (List.mem_of_getElem? (i := 55) rfl)) (hw _ (List.mem_of_getElem? (i := 129) rfl)) (by decide) (a := c_) (argsL := []) Ec (own_gle l Z a0 hw c_ x2 hra45 n0 C3) [] 0 (by decide) (by decide) (by rw [hml]; rfl) (lenOf own_pd13 rfl) rfl (Nat.le_of_eq rfl) (hb hby at_199) (by decide) (by decide)
    obtain ⟨rfl, rfl⟩ := qra87
    have ra87 : OwnW s0 n0 202 #[.val (.int x0), .val (.long x1), .second, .val (.long x2), .second, .val (.int x3), .val (.ref s1), .val (.ref s2), .val (.ref s3), .val (.ref f), .val (.ref c_), .val (.int (0 : Int32)), .val (.ref q), .val (.int (1 : Int32)), .val (.ref f), .val (.int (1 : Int32)), .unset] [(.long x2)] hra45 19 230 := ra87
    have ra88 : OwnW s0 n0 203 #[.val (.int x0), .val (.long x1), .second, .val (.long x2), .second, .val (.int x3), .val (.ref s1), .val (.ref s2), .val (.ref s3), .val (.ref f), .val (.ref c_), .val (.int (0 : Int32)), .val (.ref q), .val (.int (1 : Int32)), .val (.ref f), .val (.int (1 : Int32)), .unset] [(.long x2), (.long x2)] hra45 19 230 := ra87.go fun T t X k => XS.lloadN X hx rfl (hb hby at_202) rfl k
    have ra89 : OwnW s0 n0 204 #[.val (.int x0), .val (.long x1), .second, .val (.long x2), .second, .val (.int x3), .val (.ref s1), .val (.ref s2), .val (.ref s3), .val (.ref f), .val (.ref c_), .val (.int (0 : Int32)), .val (.ref q), .val (.int (1 : Int32)), .val (.ref f), .val (.int (1 : Int32)), .unset] [(.int (lcmpW x2 x2))] hra45 19 230 := ra88.go fun T t X k => XS.lcmp X hx rfl (hb hby at_203) rfl k
    have ra90 : OwnW s0 n0 207 #[.val (.int x0), .val (.long x1), .second, .val (.long x2), .second, .val (.int x3), .val (.ref s1), .val (.ref s2), .val (.ref s3), .val (.ref f), .val (.ref c_), .val (.int (0 : Int32)), .val (.ref q), .val (.int (1 : Int32)), .val (.ref f), .val (.int (1 : Int32)), .unset] [] hra45 19 230 := ra89.go fun T t X k => XS.ifNo X hx rfl (hb hby at_204) rfl ((if0 _ _).trans (teq ((lw_eq _ _).mpr rfl)).2) k
    have ra91 : OwnW s0 n0 208 #[.val (.int x0), .val (.long x1), .second, .val (.long x2), .second, .val (.int x3), .val (.ref s1), .val (.ref s2), .val (.ref s3), .val (.ref f), .val (.ref c_), .val (.int (0 : Int32)), .val (.ref q), .val (.int (1 : Int32)), .val (.ref f), .val (.int (1 : Int32)), .unset] [(.int (1 : Int32))] hra45 19 230 := ra90.go fun T t X k => XS.iconst X hx rfl (hb hby at_207) k
    have ra92 : OwnW s0 n0 212 #[.val (.int x0), .val (.long x1), .second, .val (.long x2), .second, .val (.int x3), .val (.ref s1), .val (.ref s2), .val (.ref s3), .val (.ref f), .val (.ref c_), .val (.int (0 : Int32)), .val (.ref q), .val (.int (1 : Int32)), .val (.ref f), .val (.int (1 : Int32)), .unset] [(.int (1 : Int32))] hra45 19 230 := ra91.go fun T t X k => XS.goto X hx rfl (pc0 := 208) (pc' := 212) rfl (hb hby at_208) (by decide) (by decide) k
    have ra93 : OwnW s0 n0 214 #[.val (.int x0), .val (.long x1), .second, .val (.long x2), .second, .val (.int x3), .val (.ref s1), .val (.ref s2), .val (.ref s3), .val (.ref f), .val (.ref c_), .val (.int (0 : Int32)), .val (.ref q), .val (.int (1 : Int32)), .val (.ref f), .val (.int (1 : Int32)), .val (.int (1 : Int32))] [] hra45 19 230 := ra92.go fun T t X k => XS.istore X hx rfl (hb hby at_212) rfl (l' := #[.val (.int x0), .val (.long x1), .second, .val (.long x2), .second, .val (.int x3), .val (.ref s1), .val (.ref s2), .val (.ref s3), .val (.ref f), .val (.ref c_), .val (.int (0 : Int32)), .val (.ref q), .val (.int (1 : Int32)), .val (.ref f), .val (.int (1 : Int32)), .val (.int (1 : Int32))]) rfl k
    have ra94 : OwnW s0 n0 216 #[.val (.int x0), .val (.long x1), .second, .val (.long x2), .second, .val (.int x3), .val (.ref s1), .val (.ref s2), .val (.ref s3), .val (.ref f), .val (.ref c_), .val (.int (0 : Int32)), .val (.ref q), .val (.int (1 : Int32)), .val (.ref f), .val (.int (1 : Int32)), .val (.int (1 : Int32))] [(.int (1 : Int32))] hra45 19 230 := ra93.go fun T t X k => XS.iload X hx rfl (hb hby at_214) rfl k
    have ra95 : OwnW s0 n0 219 #[.val (.int x0), .val (.long x1), .second, .val (.long x2), .second, .val (.int x3), .val (.ref s1), .val (.ref s2), .val (.ref s3), .val (.ref f), .val (.ref c_), .val (.int (0 : Int32)), .val (.ref q), .val (.int (1 : Int32)), .val (.ref f), .val (.int (1 : Int32)), .val (.int (1 : Int32))] [] hra45 19 230 := ra94.go fun T t X k => XS.ifNo X hx rfl (hb hby at_216) rfl ((if0 _ _).trans (feq (by decide)).1) k
    have ra96 : OwnW s0 n0 221 #[.val (.int x0), .val (.long x1), .second, .val (.long x2), .second, .val (.int x3), .val (.ref s1), .val (.ref s2), .val (.ref s3), .val (.ref f), .val (.ref c_), .val (.int (0 : Int32)), .val (.ref q), .val (.int (1 : Int32)), .val (.ref f), .val (.int (1 : Int32)), .val (.int (1 : Int32))] [(.int (1 : Int32))] hra45 19 230 := ra95.go fun T t X k => XS.iload X hx rfl (hb hby at_219) rfl k
    have ra97 : OwnW s0 n0 224 #[.val (.int x0), .val (.long x1), .second, .val (.long x2), .second, .val (.int x3), .val (.ref s1), .val (.ref s2), .val (.ref s3), .val (.ref f), .val (.ref c_), .val (.int (0 : Int32)), .val (.ref q), .val (.int (1 : Int32)), .val (.ref f), .val (.int (1 : Int32)), .val (.int (1 : Int32))] [] hra45 19 230 := ra96.go fun T t X k => XS.ifNo X hx rfl (hb hby at_221) rfl ((if0 _ _).trans (feq (by decide)).1) k
    have ra98 : OwnW s0 n0 226 #[.val (.int x0), .val (.long x1), .second, .val (.long x2), .second, .val (.int x3), .val (.ref s1), .val (.ref s2), .val (.ref s3), .val (.ref f), .val (.ref c_), .val (.int (0 : Int32)), .val (.ref q), .val (.int (1 : Int32)), .val (.ref f), .val (.int (1 : Int32)), .val (.int (1 : Int32))] [(.int (1 : Int32))] hra45 19 230 := ra97.go fun T t X k => XS.iload X hx rfl (hb hby at_224) rfl k
    have ra99 : OwnW s0 n0 229 #[.val (.int x0), .val (.long x1), .second, .val (.long x2), .second, .val (.int x3), .val (.ref s1), .val (.ref s2), .val (.ref s3), .val (.ref f), .val (.ref c_), .val (.int (0 : Int32)), .val (.ref q), .val (.int (1 : Int32)), .val (.ref f), .val (.int (1 : Int32)), .val (.int (1 : Int32))] [] hra45 19 230 := ra98.go fun T t X k => XS.ifNo X hx rfl (hb hby at_226) rfl ((if0 _ _).trans (feq (by decide)).1) k
    have ra100 : OwnW s0 n0 230 #[.val (.int x0), .val (.long x1), .second, .val (.long x2), .second, .val (.int x3), .val (.ref s1), .val (.ref s2), .val (.ref s3), .val (.ref f), .val (.ref c_), .val (.int (0 : Int32)), .val (.ref q), .val (.int (1 : Int32)), .val (.ref f), .val (.int (1 : Int32)), .val (.int (1 : Int32))] [(.int (1 : Int32))] hra45 19 230 := ra99.go fun T t X k => XS.iconst X hx rfl (hb hby at_229) k
    have ra101 : OwnW s0 n0 234 #[.val (.int x0), .val (.long x1), .second, .val (.long x2), .second, .val (.int x3), .val (.ref s1), .val (.ref s2), .val (.ref s3), .val (.ref f), .val (.ref c_), .val (.int (0 : Int32)), .val (.ref q), .val (.int (1 : Int32)), .val (.ref f), .val (.int (1 : Int32)), .val (.int (1 : Int32))] [(.int (1 : Int32))] hra45 19 230 := ra100.go fun T t X k => XS.goto X hx rfl (pc0 := 230) (pc' := 234) rfl (hb hby at_230) (by decide) (by decide) k
    have ra102 := ra101.retN hx hret (by simp) rfl (hb hby at_234)
    exact ⟨_, _, 19, 230, _, _, rfl, by decide, by decide, hS, hk, ra102⟩
  · have rb := r39
    have rb40 : OwnW s0 n0 74 #[.val (.int x0), .val (.long x1), .second, .val (.long x2), .second, .val (.int x3), .val (.ref s1), .val (.ref s2), .val (.ref s3), .val (.ref f), .val (.ref c_), .unset, .unset, .unset, .unset, .unset, .unset] [] hr35 16 181 := rb.go fun T t X k => XS.ifNo X hx rfl (hb hby at_71) rfl ((if0 _ _).trans (feq hc).1) k
    have rb41 : OwnW s0 n0 75 #[.val (.int x0), .val (.long x1), .second, .val (.long x2), .second, .val (.int x3), .val (.ref s1), .val (.ref s2), .val (.ref s3), .val (.ref f), .val (.ref c_), .unset, .unset, .unset, .unset, .unset, .unset] [(.int (1 : Int32))] hr35 16 181 := rb40.go fun T t X k => XS.iconst X hx rfl (hb hby at_74) k
    have rb42 : OwnW s0 n0 79 #[.val (.int x0), .val (.long x1), .second, .val (.long x2), .second, .val (.int x3), .val (.ref s1), .val (.ref s2), .val (.ref s3), .val (.ref f), .val (.ref c_), .unset, .unset, .unset, .unset, .unset, .unset] [(.int (1 : Int32))] hr35 16 181 := rb41.go fun T t X k => XS.goto X hx rfl (pc0 := 75) (pc' := 79) rfl (hb hby at_75) (by decide) (by decide) k
    have rb43 : OwnW s0 n0 81 #[.val (.int x0), .val (.long x1), .second, .val (.long x2), .second, .val (.int x3), .val (.ref s1), .val (.ref s2), .val (.ref s3), .val (.ref f), .val (.ref c_), .val (.int (1 : Int32)), .unset, .unset, .unset, .unset, .unset] [] hr35 16 181 := rb42.go fun T t X k => XS.istore X hx rfl (hb hby at_79) rfl (l' := #[.val (.int x0), .val (.long x1), .second, .val (.long x2), .second, .val (.int x3), .val (.ref s1), .val (.ref s2), .val (.ref s3), .val (.ref f), .val (.ref c_), .val (.int (1 : Int32)), .unset, .unset, .unset, .unset, .unset]) rfl k
    have rb44 : OwnW s0 n0 83 #[.val (.int x0), .val (.long x1), .second, .val (.long x2), .second, .val (.int x3), .val (.ref s1), .val (.ref s2), .val (.ref s3), .val (.ref f), .val (.ref c_), .val (.int (1 : Int32)), .unset, .unset, .unset, .unset, .unset] [(.ref c_)] hr35 16 181 := rb43.go fun T t X k => XS.aload X hx rfl (hb hby at_81) rfl rfl k
    have rb45 : OwnW s0 n0 85 #[.val (.int x0), .val (.long x1), .second, .val (.long x2), .second, .val (.int x3), .val (.ref s1), .val (.ref s2), .val (.ref s3), .val (.ref f), .val (.ref c_), .val (.int (1 : Int32)), .unset, .unset, .unset, .unset, .unset] [(.int (1 : Int32)), (.ref c_)] hr35 16 181 := rb44.go fun T t X k => XS.iload X hx rfl (hb hby at_83) rfl k
    obtain ⟨vrb46, hrb46, vmrb46, kkrb46, hS, hk, hZ, hown, rb46, qrb46⟩ := rb45.callVS hx hZ hown hS hk (hw _ (List.mem_of_getElem? (i := 68) rfl)) (hw _ (List.mem_of_getElem? (i := 69) rfl)) (hw _ (List.mem_of_getElem? (i := 71) rfl)) (notFace_of_selects (args := #[]) (mvT hZ (hw _ (List.mem_of_getElem? (i := 71) rfl)))) (hw _ (List.mem_of_getElem? (i := 70) rfl)) (hw _ (List.mem_of_getElem? (i := 55) rfl)) (hw _ (List.mem_of_getElem? (i := 72) rfl)) (by decide) (a := c_) (argsL := [(.int (1 : Int32))]) Ec (own_fd1 l Z a0 hw c_ f hr35 n0 (Nat.le_trans Z0 Ex.1) C1) [] 0 (by decide) (by decide) (by rw [hml]; rfl) (lenOf own_pd9 rfl) rfl (Nat.le_of_eq rfl) (hb hby at_85) (by decide) (by decide)
    obtain ⟨q, rfl, Ey, Xq, Fq⟩ := qrb46
    have rb46 : OwnW s0 n0 88 #[.val (.int x0), .val (.long x1), .second, .val (.long x2), .second, .val (.int x3), .val (.ref s1), .val (.ref s2), .val (.ref s3), .val (.ref f), .val (.ref c_), .val (.int (1 : Int32)), .unset, .unset, .unset, .unset, .unset] [(.ref q)] hrb46 19 230 := rb46
    have Xs1 := Xs1.ext Ey
    have Xs2 := Xs2.ext Ey
    have Xs3 := Xs3.ext Ey
    have G1 := G1.ext Ey
    have G2 := G2.ext Ey
    have G3 := G3.ext Ey
    have Ef := Ef.ext Ey
    have Ec := Ec.ext Ey
    have C1 := C1.ext Ey
    have C2 := C2.ext Ey
    have C3 := C3.ext Ey
    have rb47 : OwnW s0 n0 90 #[.val (.int x0), .val (.long x1), .second, .val (.long x2), .second, .val (.int x3), .val (.ref s1), .val (.ref s2), .val (.ref s3), .val (.ref f), .val (.ref c_), .val (.int (1 : Int32)), .val (.ref q), .unset, .unset, .unset, .unset] [] hrb46 19 230 := rb46.go fun T t X k => XS.astore X hx rfl (hb hby at_88) rfl rfl (l' := #[.val (.int x0), .val (.long x1), .second, .val (.long x2), .second, .val (.int x3), .val (.ref s1), .val (.ref s2), .val (.ref s3), .val (.ref f), .val (.ref c_), .val (.int (1 : Int32)), .val (.ref q), .unset, .unset, .unset, .unset]) rfl k
    have rb48 : OwnW s0 n0 92 #[.val (.int x0), .val (.long x1), .second, .val (.long x2), .second, .val (.int x3), .val (.ref s1), .val (.ref s2), .val (.ref s3), .val (.ref f), .val (.ref c_), .val (.int (1 : Int32)), .val (.ref q), .unset, .unset, .unset, .unset] [(.ref q)] hrb46 19 230 := rb47.go fun T t X k => XS.aload X hx rfl (hb hby at_90) rfl rfl k
    have rb49 : OwnW s0 n0 97 #[.val (.int x0), .val (.long x1), .second, .val (.long x2), .second, .val (.int x3), .val (.ref s1), .val (.ref s2), .val (.ref s3), .val (.ref f), .val (.ref c_), .val (.int (1 : Int32)), .val (.ref q), .unset, .unset, .unset, .unset] [] hrb46 19 230 := rb48.go fun T t X k => XS.ifnonnullYes X hx rfl (pc0 := 92) (pc' := 97) rfl (hb hby at_92) rfl (by decide) (by decide) k
    have rb50 : OwnW s0 n0 99 #[.val (.int x0), .val (.long x1), .second, .val (.long x2), .second, .val (.int x3), .val (.ref s1), .val (.ref s2), .val (.ref s3), .val (.ref f), .val (.ref c_), .val (.int (1 : Int32)), .val (.ref q), .unset, .unset, .unset, .unset] [(.int (1 : Int32))] hrb46 19 230 := rb49.go fun T t X k => XS.iload X hx rfl (hb hby at_97) rfl k
    have rb51 : OwnW s0 n0 102 #[.val (.int x0), .val (.long x1), .second, .val (.long x2), .second, .val (.int x3), .val (.ref s1), .val (.ref s2), .val (.ref s3), .val (.ref f), .val (.ref c_), .val (.int (1 : Int32)), .val (.ref q), .unset, .unset, .unset, .unset] [] hrb46 19 230 := rb50.go fun T t X k => XS.ifNo X hx rfl (hb hby at_99) rfl ((if0 _ _).trans (feq (by decide)).1) k
    have rb52 : OwnW s0 n0 104 #[.val (.int x0), .val (.long x1), .second, .val (.long x2), .second, .val (.int x3), .val (.ref s1), .val (.ref s2), .val (.ref s3), .val (.ref f), .val (.ref c_), .val (.int (1 : Int32)), .val (.ref q), .unset, .unset, .unset, .unset] [(.ref q)] hrb46 19 230 := rb51.go fun T t X k => XS.aload X hx rfl (hb hby at_102) rfl rfl k
    have rb53 : OwnW s0 n0 107 #[.val (.int x0), .val (.long x1), .second, .val (.long x2), .second, .val (.int x3), .val (.ref s1), .val (.ref s2), .val (.ref s3), .val (.ref f), .val (.ref c_), .val (.int (1 : Int32)), .val (.ref q), .unset, .unset, .unset, .unset] [(.int (1 : Int32))] hrb46 19 230 := rb52.inst hx hZ hown (hw _ (List.mem_of_getElem? (i := 141) rfl)) (Ins.self Xq) rfl (hb hby at_104)
    have rb54 : OwnW s0 n0 115 #[.val (.int x0), .val (.long x1), .second, .val (.long x2), .second, .val (.int x3), .val (.ref s1), .val (.ref s2), .val (.ref s3), .val (.ref f), .val (.ref c_), .val (.int (1 : Int32)), .val (.ref q), .unset, .unset, .unset, .unset] [(.int (1 : Int32))] hrb46 19 230 := rb53.go fun T t X k => XS.goto X hx rfl (pc0 := 107) (pc' := 115) rfl (hb hby at_107) (by decide) (by decide) k
    have rb55 : OwnW s0 n0 117 #[.val (.int x0), .val (.long x1), .second, .val (.long x2), .second, .val (.int x3), .val (.ref s1), .val (.ref s2), .val (.ref s3), .val (.ref f), .val (.ref c_), .val (.int (1 : Int32)), .val (.ref q), .val (.int (1 : Int32)), .unset, .unset, .unset] [] hrb46 19 230 := rb54.go fun T t X k => XS.istore X hx rfl (hb hby at_115) rfl (l' := #[.val (.int x0), .val (.long x1), .second, .val (.long x2), .second, .val (.int x3), .val (.ref s1), .val (.ref s2), .val (.ref s3), .val (.ref f), .val (.ref c_), .val (.int (1 : Int32)), .val (.ref q), .val (.int (1 : Int32)), .unset, .unset, .unset]) rfl k
    have rb56 : OwnW s0 n0 119 #[.val (.int x0), .val (.long x1), .second, .val (.long x2), .second, .val (.int x3), .val (.ref s1), .val (.ref s2), .val (.ref s3), .val (.ref f), .val (.ref c_), .val (.int (1 : Int32)), .val (.ref q), .val (.int (1 : Int32)), .unset, .unset, .unset] [(.ref q)] hrb46 19 230 := rb55.go fun T t X k => XS.aload X hx rfl (hb hby at_117) rfl rfl k
    obtain ⟨vrb57, hrb57, rb57, qrb57⟩ := rb56.callI hx hZ hown (hw _ (List.mem_of_getElem? (i := 86) rfl)) (hw _ (List.mem_of_getElem? (i := 87) rfl)) (mvT hZ (hw _ (List.mem_of_getElem? (i := 88) rfl))) (hw _ (List.mem_of_getElem? (i := 143) rfl)) (hw _ (List.mem_of_getElem? (i := 144) rfl)) (hw _ (List.mem_of_getElem? (i := 145) rfl)) (hw _ (List.mem_of_getElem? (i := 146) rfl)) (hw _ (List.mem_of_getElem? (i := 147) rfl)) (hw _ (List.mem_of_getElem? (i := 132) rfl)) (hw _ (List.mem_of_getElem? (i := 148) rfl)) (by decide) (a := q) (argsL := []) Xq (own_gfa l Z a0 hw q f hrb46 n0 Fq) [] 0 (by decide) (by decide) (by rw [hml]; rfl) (lenOf own_pd10 rfl) rfl (Nat.le_of_eq rfl) (hb hby at_119) (by decide) (by decide)
    obtain ⟨rfl, rfl⟩ := qrb57
    have rb57 : OwnW s0 n0 124 #[.val (.int x0), .val (.long x1), .second, .val (.long x2), .second, .val (.int x3), .val (.ref s1), .val (.ref s2), .val (.ref s3), .val (.ref f), .val (.ref c_), .val (.int (1 : Int32)), .val (.ref q), .val (.int (1 : Int32)), .unset, .unset, .unset] [(.ref f)] hrb46 19 230 := rb57
    have rb58 : OwnW s0 n0 126 #[.val (.int x0), .val (.long x1), .second, .val (.long x2), .second, .val (.int x3), .val (.ref s1), .val (.ref s2), .val (.ref s3), .val (.ref f), .val (.ref c_), .val (.int (1 : Int32)), .val (.ref q), .val (.int (1 : Int32)), .val (.ref f), .unset, .unset] [] hrb46 19 230 := rb57.go fun T t X k => XS.astore X hx rfl (hb hby at_124) rfl rfl (l' := #[.val (.int x0), .val (.long x1), .second, .val (.long x2), .second, .val (.int x3), .val (.ref s1), .val (.ref s2), .val (.ref s3), .val (.ref f), .val (.ref c_), .val (.int (1 : Int32)), .val (.ref q), .val (.int (1 : Int32)), .val (.ref f), .unset, .unset]) rfl k
    have rb59 : OwnW s0 n0 128 #[.val (.int x0), .val (.long x1), .second, .val (.long x2), .second, .val (.int x3), .val (.ref s1), .val (.ref s2), .val (.ref s3), .val (.ref f), .val (.ref c_), .val (.int (1 : Int32)), .val (.ref q), .val (.int (1 : Int32)), .val (.ref f), .unset, .unset] [(.ref f)] hrb46 19 230 := rb58.go fun T t X k => XS.aload X hx rfl (hb hby at_126) rfl rfl k
    have rb60 : OwnW s0 n0 131 #[.val (.int x0), .val (.long x1), .second, .val (.long x2), .second, .val (.int x3), .val (.ref s1), .val (.ref s2), .val (.ref s3), .val (.ref f), .val (.ref c_), .val (.int (1 : Int32)), .val (.ref q), .val (.int (1 : Int32)), .val (.ref f), .unset, .unset] [] hrb46 19 230 := rb59.go fun T t X k => XS.ifnullNo X hx rfl (hb hby at_128) rfl k
    have rb61 : OwnW s0 n0 133 #[.val (.int x0), .val (.long x1), .second, .val (.long x2), .second, .val (.int x3), .val (.ref s1), .val (.ref s2), .val (.ref s3), .val (.ref f), .val (.ref c_), .val (.int (1 : Int32)), .val (.ref q), .val (.int (1 : Int32)), .val (.ref f), .unset, .unset] [(.ref f)] hrb46 19 230 := rb60.go fun T t X k => XS.aload X hx rfl (hb hby at_131) rfl rfl k
    obtain ⟨vrb62, hrb62, rb62, qrb62⟩ := rb61.callV hx hZ hown (hw _ (List.mem_of_getElem? (i := 95) rfl)) (hw _ (List.mem_of_getElem? (i := 96) rfl)) (hw _ (List.mem_of_getElem? (i := 98) rfl)) (notFace_of_selects (args := #[]) (mvT hZ (hw _ (List.mem_of_getElem? (i := 98) rfl)))) (hw _ (List.mem_of_getElem? (i := 97) rfl)) (hw _ (List.mem_of_getElem? (i := 28) rfl)) (hw _ (List.mem_of_getElem? (i := 99) rfl)) (by decide) (a := f) (argsL := []) Ef (own_gme l Z a0 hw f s1 hrb46 n0 G1) [] 0 (by decide) (by decide) (by rw [hml]; rfl) (lenOf own_pd11 rfl) rfl (Nat.le_of_eq rfl) (hb hby at_133) (by decide) (by decide)
    obtain ⟨rfl, rfl⟩ := qrb62
    have rb62 : OwnW s0 n0 136 #[.val (.int x0), .val (.long x1), .second, .val (.long x2), .second, .val (.int x3), .val (.ref s1), .val (.ref s2), .val (.ref s3), .val (.ref f), .val (.ref c_), .val (.int (1 : Int32)), .val (.ref q), .val (.int (1 : Int32)), .val (.ref f), .unset, .unset] [(.ref s1)] hrb46 19 230 := rb62
    have rb63 : OwnW s0 n0 138 #[.val (.int x0), .val (.long x1), .second, .val (.long x2), .second, .val (.int x3), .val (.ref s1), .val (.ref s2), .val (.ref s3), .val (.ref f), .val (.ref c_), .val (.int (1 : Int32)), .val (.ref q), .val (.int (1 : Int32)), .val (.ref f), .unset, .unset] [(.ref s1), (.ref s1)] hrb46 19 230 := rb62.go fun T t X k => XS.aload X hx rfl (hb hby at_136) rfl rfl k
    obtain ⟨vrb64, hrb64, rb64, qrb64⟩ := rb63.callV hx hZ hown (hw _ (List.mem_of_getElem? (i := 100) rfl)) (hw _ (List.mem_of_getElem? (i := 101) rfl)) (hw _ (List.mem_of_getElem? (i := 103) rfl)) (notFace_of_selects (args := #[]) (mvT hZ (hw _ (List.mem_of_getElem? (i := 103) rfl)))) (hw _ (List.mem_of_getElem? (i := 102) rfl)) (hw _ (List.mem_of_getElem? (i := 2) rfl)) (hw _ (List.mem_of_getElem? (i := 104) rfl)) (by decide) (a := s1) (argsL := [(.ref s1)]) Xs1 (own_eqs l Z a0 hw s1 hrb46 n0) [] 0 (by decide) (by decide) (by rw [hml]; rfl) (lenOf own_pd12 rfl) rfl (Nat.le_of_eq rfl) (hb hby at_138) (by decide) (by decide)
    obtain ⟨rfl, rfl⟩ := qrb64
    have rb64 : OwnW s0 n0 141 #[.val (.int x0), .val (.long x1), .second, .val (.long x2), .second, .val (.int x3), .val (.ref s1), .val (.ref s2), .val (.ref s3), .val (.ref f), .val (.ref c_), .val (.int (1 : Int32)), .val (.ref q), .val (.int (1 : Int32)), .val (.ref f), .unset, .unset] [(.int (1 : Int32))] hrb46 19 230 := rb64
    have rb65 : OwnW s0 n0 144 #[.val (.int x0), .val (.long x1), .second, .val (.long x2), .second, .val (.int x3), .val (.ref s1), .val (.ref s2), .val (.ref s3), .val (.ref f), .val (.ref c_), .val (.int (1 : Int32)), .val (.ref q), .val (.int (1 : Int32)), .val (.ref f), .unset, .unset] [] hrb46 19 230 := rb64.go fun T t X k => XS.ifNo X hx rfl (hb hby at_141) rfl ((if0 _ _).trans (feq (by decide)).1) k
    have rb66 : OwnW s0 n0 146 #[.val (.int x0), .val (.long x1), .second, .val (.long x2), .second, .val (.int x3), .val (.ref s1), .val (.ref s2), .val (.ref s3), .val (.ref f), .val (.ref c_), .val (.int (1 : Int32)), .val (.ref q), .val (.int (1 : Int32)), .val (.ref f), .unset, .unset] [(.ref f)] hrb46 19 230 := rb65.go fun T t X k => XS.aload X hx rfl (hb hby at_144) rfl rfl k
    obtain ⟨vrb67, hrb67, rb67, qrb67⟩ := rb66.callV hx hZ hown (hw _ (List.mem_of_getElem? (i := 105) rfl)) (hw _ (List.mem_of_getElem? (i := 106) rfl)) (hw _ (List.mem_of_getElem? (i := 108) rfl)) (notFace_of_selects (args := #[]) (mvT hZ (hw _ (List.mem_of_getElem? (i := 108) rfl)))) (hw _ (List.mem_of_getElem? (i := 107) rfl)) (hw _ (List.mem_of_getElem? (i := 28) rfl)) (hw _ (List.mem_of_getElem? (i := 109) rfl)) (by decide) (a := f) (argsL := []) Ef (own_gta l Z a0 hw f s2 hrb46 n0 G2) [] 0 (by decide) (by decide) (by rw [hml]; rfl) (lenOf own_pd11 rfl) rfl (Nat.le_of_eq rfl) (hb hby at_146) (by decide) (by decide)
    obtain ⟨rfl, rfl⟩ := qrb67
    have rb67 : OwnW s0 n0 149 #[.val (.int x0), .val (.long x1), .second, .val (.long x2), .second, .val (.int x3), .val (.ref s1), .val (.ref s2), .val (.ref s3), .val (.ref f), .val (.ref c_), .val (.int (1 : Int32)), .val (.ref q), .val (.int (1 : Int32)), .val (.ref f), .unset, .unset] [(.ref s2)] hrb46 19 230 := rb67
    have rb68 : OwnW s0 n0 151 #[.val (.int x0), .val (.long x1), .second, .val (.long x2), .second, .val (.int x3), .val (.ref s1), .val (.ref s2), .val (.ref s3), .val (.ref f), .val (.ref c_), .val (.int (1 : Int32)), .val (.ref q), .val (.int (1 : Int32)), .val (.ref f), .unset, .unset] [(.ref s2), (.ref s2)] hrb46 19 230 := rb67.go fun T t X k => XS.aload X hx rfl (hb hby at_149) rfl rfl k
    obtain ⟨vrb69, hrb69, rb69, qrb69⟩ := rb68.callV hx hZ hown (hw _ (List.mem_of_getElem? (i := 100) rfl)) (hw _ (List.mem_of_getElem? (i := 101) rfl)) (hw _ (List.mem_of_getElem? (i := 103) rfl)) (notFace_of_selects (args := #[]) (mvT hZ (hw _ (List.mem_of_getElem? (i := 103) rfl)))) (hw _ (List.mem_of_getElem? (i := 102) rfl)) (hw _ (List.mem_of_getElem? (i := 2) rfl)) (hw _ (List.mem_of_getElem? (i := 104) rfl)) (by decide) (a := s2) (argsL := [(.ref s2)]) Xs2 (own_eqs l Z a0 hw s2 hrb46 n0) [] 0 (by decide) (by decide) (by rw [hml]; rfl) (lenOf own_pd12 rfl) rfl (Nat.le_of_eq rfl) (hb hby at_151) (by decide) (by decide)
    obtain ⟨rfl, rfl⟩ := qrb69
    have rb69 : OwnW s0 n0 154 #[.val (.int x0), .val (.long x1), .second, .val (.long x2), .second, .val (.int x3), .val (.ref s1), .val (.ref s2), .val (.ref s3), .val (.ref f), .val (.ref c_), .val (.int (1 : Int32)), .val (.ref q), .val (.int (1 : Int32)), .val (.ref f), .unset, .unset] [(.int (1 : Int32))] hrb46 19 230 := rb69
    have rb70 : OwnW s0 n0 157 #[.val (.int x0), .val (.long x1), .second, .val (.long x2), .second, .val (.int x3), .val (.ref s1), .val (.ref s2), .val (.ref s3), .val (.ref f), .val (.ref c_), .val (.int (1 : Int32)), .val (.ref q), .val (.int (1 : Int32)), .val (.ref f), .unset, .unset] [] hrb46 19 230 := rb69.go fun T t X k => XS.ifNo X hx rfl (hb hby at_154) rfl ((if0 _ _).trans (feq (by decide)).1) k
    have rb71 : OwnW s0 n0 159 #[.val (.int x0), .val (.long x1), .second, .val (.long x2), .second, .val (.int x3), .val (.ref s1), .val (.ref s2), .val (.ref s3), .val (.ref f), .val (.ref c_), .val (.int (1 : Int32)), .val (.ref q), .val (.int (1 : Int32)), .val (.ref f), .unset, .unset] [(.ref f)] hrb46 19 230 := rb70.go fun T t X k => XS.aload X hx rfl (hb hby at_157) rfl rfl k
    obtain ⟨vrb72, hrb72, rb72, qrb72⟩ := rb71.callV hx hZ hown (hw _ (List.mem_of_getElem? (i := 110) rfl)) (hw _ (List.mem_of_getElem? (i := 111) rfl)) (hw _ (List.mem_of_getElem? (i := 113) rfl)) (notFace_of_selects (args := #[]) (mvT hZ (hw _ (List.mem_of_getElem? (i := 113) rfl)))) (hw _ (List.mem_of_getElem? (i := 112) rfl)) (hw _ (List.mem_of_getElem? (i := 28) rfl)) (hw _ (List.mem_of_getElem? (i := 114) rfl)) (by decide) (a := f) (argsL := []) Ef (own_gsh l Z a0 hw f s3 hrb46 n0 G3) [] 0 (by decide) (by decide) (by rw [hml]; rfl) (lenOf own_pd11 rfl) rfl (Nat.le_of_eq rfl) (hb hby at_159) (by decide) (by decide)
    obtain ⟨rfl, rfl⟩ := qrb72
    have rb72 : OwnW s0 n0 162 #[.val (.int x0), .val (.long x1), .second, .val (.long x2), .second, .val (.int x3), .val (.ref s1), .val (.ref s2), .val (.ref s3), .val (.ref f), .val (.ref c_), .val (.int (1 : Int32)), .val (.ref q), .val (.int (1 : Int32)), .val (.ref f), .unset, .unset] [(.ref s3)] hrb46 19 230 := rb72
    have rb73 : OwnW s0 n0 164 #[.val (.int x0), .val (.long x1), .second, .val (.long x2), .second, .val (.int x3), .val (.ref s1), .val (.ref s2), .val (.ref s3), .val (.ref f), .val (.ref c_), .val (.int (1 : Int32)), .val (.ref q), .val (.int (1 : Int32)), .val (.ref f), .unset, .unset] [(.ref s3), (.ref s3)] hrb46 19 230 := rb72.go fun T t X k => XS.aload X hx rfl (hb hby at_162) rfl rfl k
    obtain ⟨vrb74, hrb74, rb74, qrb74⟩ := rb73.callV hx hZ hown (hw _ (List.mem_of_getElem? (i := 100) rfl)) (hw _ (List.mem_of_getElem? (i := 101) rfl)) (hw _ (List.mem_of_getElem? (i := 103) rfl)) (notFace_of_selects (args := #[]) (mvT hZ (hw _ (List.mem_of_getElem? (i := 103) rfl)))) (hw _ (List.mem_of_getElem? (i := 102) rfl)) (hw _ (List.mem_of_getElem? (i := 2) rfl)) (hw _ (List.mem_of_getElem? (i := 104) rfl)) (by decide) (a := s3) (argsL := [(.ref s3)]) Xs3 (own_eqs l Z a0 hw s3 hrb46 n0) [] 0 (by decide) (by decide) (by rw [hml]; rfl) (lenOf own_pd12 rfl) rfl (Nat.le_of_eq rfl) (hb hby at_164) (by decide) (by decide)
    obtain ⟨rfl, rfl⟩ := qrb74
    have rb74 : OwnW s0 n0 167 #[.val (.int x0), .val (.long x1), .second, .val (.long x2), .second, .val (.int x3), .val (.ref s1), .val (.ref s2), .val (.ref s3), .val (.ref f), .val (.ref c_), .val (.int (1 : Int32)), .val (.ref q), .val (.int (1 : Int32)), .val (.ref f), .unset, .unset] [(.int (1 : Int32))] hrb46 19 230 := rb74
    have rb75 : OwnW s0 n0 170 #[.val (.int x0), .val (.long x1), .second, .val (.long x2), .second, .val (.int x3), .val (.ref s1), .val (.ref s2), .val (.ref s3), .val (.ref f), .val (.ref c_), .val (.int (1 : Int32)), .val (.ref q), .val (.int (1 : Int32)), .val (.ref f), .unset, .unset] [] hrb46 19 230 := rb74.go fun T t X k => XS.ifNo X hx rfl (hb hby at_167) rfl ((if0 _ _).trans (feq (by decide)).1) k
    have rb76 : OwnW s0 n0 171 #[.val (.int x0), .val (.long x1), .second, .val (.long x2), .second, .val (.int x3), .val (.ref s1), .val (.ref s2), .val (.ref s3), .val (.ref f), .val (.ref c_), .val (.int (1 : Int32)), .val (.ref q), .val (.int (1 : Int32)), .val (.ref f), .unset, .unset] [(.int (1 : Int32))] hrb46 19 230 := rb75.go fun T t X k => XS.iconst X hx rfl (hb hby at_170) k
    have rb77 : OwnW s0 n0 175 #[.val (.int x0), .val (.long x1), .second, .val (.long x2), .second, .val (.int x3), .val (.ref s1), .val (.ref s2), .val (.ref s3), .val (.ref f), .val (.ref c_), .val (.int (1 : Int32)), .val (.ref q), .val (.int (1 : Int32)), .val (.ref f), .unset, .unset] [(.int (1 : Int32))] hrb46 19 230 := rb76.go fun T t X k => XS.goto X hx rfl (pc0 := 171) (pc' := 175) rfl (hb hby at_171) (by decide) (by decide) k
    have rb78 : OwnW s0 n0 177 #[.val (.int x0), .val (.long x1), .second, .val (.long x2), .second, .val (.int x3), .val (.ref s1), .val (.ref s2), .val (.ref s3), .val (.ref f), .val (.ref c_), .val (.int (1 : Int32)), .val (.ref q), .val (.int (1 : Int32)), .val (.ref f), .val (.int (1 : Int32)), .unset] [] hrb46 19 230 := rb77.go fun T t X k => XS.istore X hx rfl (hb hby at_175) rfl (l' := #[.val (.int x0), .val (.long x1), .second, .val (.long x2), .second, .val (.int x3), .val (.ref s1), .val (.ref s2), .val (.ref s3), .val (.ref f), .val (.ref c_), .val (.int (1 : Int32)), .val (.ref q), .val (.int (1 : Int32)), .val (.ref f), .val (.int (1 : Int32)), .unset]) rfl k
    have rb79 : OwnW s0 n0 179 #[.val (.int x0), .val (.long x1), .second, .val (.long x2), .second, .val (.int x3), .val (.ref s1), .val (.ref s2), .val (.ref s3), .val (.ref f), .val (.ref c_), .val (.int (1 : Int32)), .val (.ref q), .val (.int (1 : Int32)), .val (.ref f), .val (.int (1 : Int32)), .unset] [(.ref c_)] hrb46 19 230 := rb78.go fun T t X k => XS.aload X hx rfl (hb hby at_177) rfl rfl k
    obtain ⟨vrb80, hrb80, rb80, qrb80⟩ := rb79.callV hx hZ hown (hw _ (List.mem_of_getElem? (i := 115) rfl)) (hw _ (List.mem_of_getElem? (i := 116) rfl)) (hw _ (List.mem_of_getElem? (i := 118) rfl)) (notFace_of_selects (args := #[]) (mvT hZ (hw _ (List.mem_of_getElem? (i := 118) rfl)))) (hw _ (List.mem_of_getElem? (i := 117) rfl)) (hw _ (List.mem_of_getElem? (i := 55) rfl)) (hw _ (List.mem_of_getElem? (i := 119) rfl)) (by decide) (a := c_) (argsL := []) Ec (own_gfc l Z a0 hw c_ f hrb46 n0 C1) [] 0 (by decide) (by decide) (by rw [hml]; rfl) (lenOf own_pd10 rfl) rfl (Nat.le_of_eq rfl) (hb hby at_179) (by decide) (by decide)
    obtain ⟨rfl, rfl⟩ := qrb80
    have rb80 : OwnW s0 n0 182 #[.val (.int x0), .val (.long x1), .second, .val (.long x2), .second, .val (.int x3), .val (.ref s1), .val (.ref s2), .val (.ref s3), .val (.ref f), .val (.ref c_), .val (.int (1 : Int32)), .val (.ref q), .val (.int (1 : Int32)), .val (.ref f), .val (.int (1 : Int32)), .unset] [(.ref f)] hrb46 19 230 := rb80
    have rb81 : OwnW s0 n0 184 #[.val (.int x0), .val (.long x1), .second, .val (.long x2), .second, .val (.int x3), .val (.ref s1), .val (.ref s2), .val (.ref s3), .val (.ref f), .val (.ref c_), .val (.int (1 : Int32)), .val (.ref q), .val (.int (1 : Int32)), .val (.ref f), .val (.int (1 : Int32)), .unset] [(.ref f), (.ref f)] hrb46 19 230 := rb80.go fun T t X k => XS.aload X hx rfl (hb hby at_182) rfl rfl k
    have rb82 : OwnW s0 n0 187 #[.val (.int x0), .val (.long x1), .second, .val (.long x2), .second, .val (.int x3), .val (.ref s1), .val (.ref s2), .val (.ref s3), .val (.ref f), .val (.ref c_), .val (.int (1 : Int32)), .val (.ref q), .val (.int (1 : Int32)), .val (.ref f), .val (.int (1 : Int32)), .unset] [] hrb46 19 230 := rb81.goX fun T t ls X eT k => Jvm.RoadKit.acmp X hx rfl rfl rfl (pc0 := 184) (pc' := 187) (same := true) rfl (hb hby at_184) rfl (decide_eq_true rfl) (by decide) (by decide) k
    have rb83 : OwnW s0 n0 189 #[.val (.int x0), .val (.long x1), .second, .val (.long x2), .second, .val (.int x3), .val (.ref s1), .val (.ref s2), .val (.ref s3), .val (.ref f), .val (.ref c_), .val (.int (1 : Int32)), .val (.ref q), .val (.int (1 : Int32)), .val (.ref f), .val (.int (1 : Int32)), .unset] [(.ref c_)] hrb46 19 230 := rb82.go fun T t X k => XS.aload X hx rfl (hb hby at_187) rfl rfl k
    obtain ⟨vrb84, hrb84, rb84, qrb84⟩ := rb83.callV hx hZ hown (hw _ (List.mem_of_getElem? (i := 120) rfl)) (hw _ (List.mem_of_getElem? (i := 121) rfl)) (hw _ (List.mem_of_getElem? (i := 123) rfl)) (notFace_of_selects (args := #[]) (mvT hZ (hw _ (List.mem_of_getElem? (i := 123) rfl)))) (hw _ (List.mem_of_getElem? (i := 122) rfl)) (hw _ (List.mem_of_getElem? (i := 55) rfl)) (hw _ (List.mem_of_getElem? (i := 124) rfl)) (by decide) (a := c_) (argsL := []) Ec (own_gop l Z a0 hw c_ x1 hrb46 n0 C2) [] 0 (by decide) (by decide) (by rw [hml]; rfl) (lenOf own_pd13 rfl) rfl (Nat.le_of_eq rfl) (hb hby at_189) (by decide) (by decide)
    obtain ⟨rfl, rfl⟩ := qrb84
    have rb84 : OwnW s0 n0 192 #[.val (.int x0), .val (.long x1), .second, .val (.long x2), .second, .val (.int x3), .val (.ref s1), .val (.ref s2), .val (.ref s3), .val (.ref f), .val (.ref c_), .val (.int (1 : Int32)), .val (.ref q), .val (.int (1 : Int32)), .val (.ref f), .val (.int (1 : Int32)), .unset] [(.long x1)] hrb46 19 230 := rb84
    have rb85 : OwnW s0 n0 193 #[.val (.int x0), .val (.long x1), .second, .val (.long x2), .second, .val (.int x3), .val (.ref s1), .val (.ref s2), .val (.ref s3), .val (.ref f), .val (.ref c_), .val (.int (1 : Int32)), .val (.ref q), .val (.int (1 : Int32)), .val (.ref f), .val (.int (1 : Int32)), .unset] [(.long x1), (.long x1)] hrb46 19 230 := rb84.go fun T t X k => XS.lloadN X hx rfl (hb hby at_192) rfl k
    have rb86 : OwnW s0 n0 194 #[.val (.int x0), .val (.long x1), .second, .val (.long x2), .second, .val (.int x3), .val (.ref s1), .val (.ref s2), .val (.ref s3), .val (.ref f), .val (.ref c_), .val (.int (1 : Int32)), .val (.ref q), .val (.int (1 : Int32)), .val (.ref f), .val (.int (1 : Int32)), .unset] [(.int (lcmpW x1 x1))] hrb46 19 230 := rb85.go fun T t X k => XS.lcmp X hx rfl (hb hby at_193) rfl k
    have rb87 : OwnW s0 n0 197 #[.val (.int x0), .val (.long x1), .second, .val (.long x2), .second, .val (.int x3), .val (.ref s1), .val (.ref s2), .val (.ref s3), .val (.ref f), .val (.ref c_), .val (.int (1 : Int32)), .val (.ref q), .val (.int (1 : Int32)), .val (.ref f), .val (.int (1 : Int32)), .unset] [] hrb46 19 230 := rb86.go fun T t X k => XS.ifNo X hx rfl (hb hby at_194) rfl ((if0 _ _).trans (teq ((lw_eq _ _).mpr rfl)).2) k
    have rb88 : OwnW s0 n0 199 #[.val (.int x0), .val (.long x1), .second, .val (.long x2), .second, .val (.int x3), .val (.ref s1), .val (.ref s2), .val (.ref s3), .val (.ref f), .val (.ref c_), .val (.int (1 : Int32)), .val (.ref q), .val (.int (1 : Int32)), .val (.ref f), .val (.int (1 : Int32)), .unset] [(.ref c_)] hrb46 19 230 := rb87.go fun T t X k => XS.aload X hx rfl (hb hby at_197) rfl rfl k
    obtain ⟨vrb89, hrb89, rb89, qrb89⟩ := rb88.callV hx hZ hown (hw _ (List.mem_of_getElem? (i := 125) rfl)) (hw _ (List.mem_of_getElem? (i := 126) rfl)) (hw _ (List.mem_of_getElem? (i := 128) rfl)) (notFace_of_selects (args := #[]) (mvT hZ (hw _ (List.mem_of_getElem? (i := 128) rfl)))) (hw _ (List.mem_of_getElem? (i := 127) rfl)) (hw _ (List.mem_of_getElem? (i := 55) rfl)) (hw _ (List.mem_of_getElem? (i := 129) rfl)) (by decide) (a := c_) (argsL := []) Ec (own_gle l Z a0 hw c_ x2 hrb46 n0 C3) [] 0 (by decide) (by decide) (by rw [hml]; rfl) (lenOf own_pd13 rfl) rfl (Nat.le_of_eq rfl) (hb hby at_199) (by decide) (by decide)
    obtain ⟨rfl, rfl⟩ := qrb89
    have rb89 : OwnW s0 n0 202 #[.val (.int x0), .val (.long x1), .second, .val (.long x2), .second, .val (.int x3), .val (.ref s1), .val (.ref s2), .val (.ref s3), .val (.ref f), .val (.ref c_), .val (.int (1 : Int32)), .val (.ref q), .val (.int (1 : Int32)), .val (.ref f), .val (.int (1 : Int32)), .unset] [(.long x2)] hrb46 19 230 := rb89
    have rb90 : OwnW s0 n0 203 #[.val (.int x0), .val (.long x1), .second, .val (.long x2), .second, .val (.int x3), .val (.ref s1), .val (.ref s2), .val (.ref s3), .val (.ref f), .val (.ref c_), .val (.int (1 : Int32)), .val (.ref q), .val (.int (1 : Int32)), .val (.ref f), .val (.int (1 : Int32)), .unset] [(.long x2), (.long x2)] hrb46 19 230 := rb89.go fun T t X k => XS.lloadN X hx rfl (hb hby at_202) rfl k
    have rb91 : OwnW s0 n0 204 #[.val (.int x0), .val (.long x1), .second, .val (.long x2), .second, .val (.int x3), .val (.ref s1), .val (.ref s2), .val (.ref s3), .val (.ref f), .val (.ref c_), .val (.int (1 : Int32)), .val (.ref q), .val (.int (1 : Int32)), .val (.ref f), .val (.int (1 : Int32)), .unset] [(.int (lcmpW x2 x2))] hrb46 19 230 := rb90.go fun T t X k => XS.lcmp X hx rfl (hb hby at_203) rfl k
    have rb92 : OwnW s0 n0 207 #[.val (.int x0), .val (.long x1), .second, .val (.long x2), .second, .val (.int x3), .val (.ref s1), .val (.ref s2), .val (.ref s3), .val (.ref f), .val (.ref c_), .val (.int (1 : Int32)), .val (.ref q), .val (.int (1 : Int32)), .val (.ref f), .val (.int (1 : Int32)), .unset] [] hrb46 19 230 := rb91.go fun T t X k => XS.ifNo X hx rfl (hb hby at_204) rfl ((if0 _ _).trans (teq ((lw_eq _ _).mpr rfl)).2) k
    have rb93 : OwnW s0 n0 208 #[.val (.int x0), .val (.long x1), .second, .val (.long x2), .second, .val (.int x3), .val (.ref s1), .val (.ref s2), .val (.ref s3), .val (.ref f), .val (.ref c_), .val (.int (1 : Int32)), .val (.ref q), .val (.int (1 : Int32)), .val (.ref f), .val (.int (1 : Int32)), .unset] [(.int (1 : Int32))] hrb46 19 230 := rb92.go fun T t X k => XS.iconst X hx rfl (hb hby at_207) k
    have rb94 : OwnW s0 n0 212 #[.val (.int x0), .val (.long x1), .second, .val (.long x2), .second, .val (.int x3), .val (.ref s1), .val (.ref s2), .val (.ref s3), .val (.ref f), .val (.ref c_), .val (.int (1 : Int32)), .val (.ref q), .val (.int (1 : Int32)), .val (.ref f), .val (.int (1 : Int32)), .unset] [(.int (1 : Int32))] hrb46 19 230 := rb93.go fun T t X k => XS.goto X hx rfl (pc0 := 208) (pc' := 212) rfl (hb hby at_208) (by decide) (by decide) k
    have rb95 : OwnW s0 n0 214 #[.val (.int x0), .val (.long x1), .second, .val (.long x2), .second, .val (.int x3), .val (.ref s1), .val (.ref s2), .val (.ref s3), .val (.ref f), .val (.ref c_), .val (.int (1 : Int32)), .val (.ref q), .val (.int (1 : Int32)), .val (.ref f), .val (.int (1 : Int32)), .val (.int (1 : Int32))] [] hrb46 19 230 := rb94.go fun T t X k => XS.istore X hx rfl (hb hby at_212) rfl (l' := #[.val (.int x0), .val (.long x1), .second, .val (.long x2), .second, .val (.int x3), .val (.ref s1), .val (.ref s2), .val (.ref s3), .val (.ref f), .val (.ref c_), .val (.int (1 : Int32)), .val (.ref q), .val (.int (1 : Int32)), .val (.ref f), .val (.int (1 : Int32)), .val (.int (1 : Int32))]) rfl k
    have rb96 : OwnW s0 n0 216 #[.val (.int x0), .val (.long x1), .second, .val (.long x2), .second, .val (.int x3), .val (.ref s1), .val (.ref s2), .val (.ref s3), .val (.ref f), .val (.ref c_), .val (.int (1 : Int32)), .val (.ref q), .val (.int (1 : Int32)), .val (.ref f), .val (.int (1 : Int32)), .val (.int (1 : Int32))] [(.int (1 : Int32))] hrb46 19 230 := rb95.go fun T t X k => XS.iload X hx rfl (hb hby at_214) rfl k
    have rb97 : OwnW s0 n0 219 #[.val (.int x0), .val (.long x1), .second, .val (.long x2), .second, .val (.int x3), .val (.ref s1), .val (.ref s2), .val (.ref s3), .val (.ref f), .val (.ref c_), .val (.int (1 : Int32)), .val (.ref q), .val (.int (1 : Int32)), .val (.ref f), .val (.int (1 : Int32)), .val (.int (1 : Int32))] [] hrb46 19 230 := rb96.go fun T t X k => XS.ifNo X hx rfl (hb hby at_216) rfl ((if0 _ _).trans (feq (by decide)).1) k
    have rb98 : OwnW s0 n0 221 #[.val (.int x0), .val (.long x1), .second, .val (.long x2), .second, .val (.int x3), .val (.ref s1), .val (.ref s2), .val (.ref s3), .val (.ref f), .val (.ref c_), .val (.int (1 : Int32)), .val (.ref q), .val (.int (1 : Int32)), .val (.ref f), .val (.int (1 : Int32)), .val (.int (1 : Int32))] [(.int (1 : Int32))] hrb46 19 230 := rb97.go fun T t X k => XS.iload X hx rfl (hb hby at_219) rfl k
    have rb99 : OwnW s0 n0 224 #[.val (.int x0), .val (.long x1), .second, .val (.long x2), .second, .val (.int x3), .val (.ref s1), .val (.ref s2), .val (.ref s3), .val (.ref f), .val (.ref c_), .val (.int (1 : Int32)), .val (.ref q), .val (.int (1 : Int32)), .val (.ref f), .val (.int (1 : Int32)), .val (.int (1 : Int32))] [] hrb46 19 230 := rb98.go fun T t X k => XS.ifNo X hx rfl (hb hby at_221) rfl ((if0 _ _).trans (feq (by decide)).1) k
    have rb100 : OwnW s0 n0 226 #[.val (.int x0), .val (.long x1), .second, .val (.long x2), .second, .val (.int x3), .val (.ref s1), .val (.ref s2), .val (.ref s3), .val (.ref f), .val (.ref c_), .val (.int (1 : Int32)), .val (.ref q), .val (.int (1 : Int32)), .val (.ref f), .val (.int (1 : Int32)), .val (.int (1 : Int32))] [(.int (1 : Int32))] hrb46 19 230 := rb99.go fun T t X k => XS.iload X hx rfl (hb hby at_224) rfl k
    have rb101 : OwnW s0 n0 229 #[.val (.int x0), .val (.long x1), .second, .val (.long x2), .second, .val (.int x3), .val (.ref s1), .val (.ref s2), .val (.ref s3), .val (.ref f), .val (.ref c_), .val (.int (1 : Int32)), .val (.ref q), .val (.int (1 : Int32)), .val (.ref f), .val (.int (1 : Int32)), .val (.int (1 : Int32))] [] hrb46 19 230 := rb100.go fun T t X k => XS.ifNo X hx rfl (hb hby at_226) rfl ((if0 _ _).trans (feq (by decide)).1) k
    have rb102 : OwnW s0 n0 230 #[.val (.int x0), .val (.long x1), .second, .val (.long x2), .second, .val (.int x3), .val (.ref s1), .val (.ref s2), .val (.ref s3), .val (.ref f), .val (.ref c_), .val (.int (1 : Int32)), .val (.ref q), .val (.int (1 : Int32)), .val (.ref f), .val (.int (1 : Int32)), .val (.int (1 : Int32))] [(.int (1 : Int32))] hrb46 19 230 := rb101.go fun T t X k => XS.iconst X hx rfl (hb hby at_229) k
    have rb103 : OwnW s0 n0 234 #[.val (.int x0), .val (.long x1), .second, .val (.long x2), .second, .val (.int x3), .val (.ref s1), .val (.ref s2), .val (.ref s3), .val (.ref f), .val (.ref c_), .val (.int (1 : Int32)), .val (.ref q), .val (.int (1 : Int32)), .val (.ref f), .val (.int (1 : Int32)), .val (.int (1 : Int32))] [(.int (1 : Int32))] hrb46 19 230 := rb102.go fun T t X k => XS.goto X hx rfl (pc0 := 230) (pc' := 234) rfl (hb hby at_230) (by decide) (by decide) k
    have rb104 := rb103.retN hx hret (by simp) rfl (hb hby at_234)
    exact ⟨_, _, 19, 230, _, _, rfl, by decide, by decide, hS, hk, rb104⟩
set_option maxRecDepth 65536 in
set_option maxHeartbeats 40000000 in
theorem comes_1 {Post : Tables → Env → Array Value → State → Outcome → State → Prop} (hpost : ∀ tb e args s v u, (limb_1_1.after args s (.returned v) u = true ∧ limb_1_2.after args s (.returned v) u = true ∧ True) → ReturnedEndW s (.returned v) u (Jvm.fieldLocs frame_1_writes args s ++ Jvm.arrayLocs frame_1_arrays args s ++ Jvm.staticLocs frame_1_statics s) 40 6336 → Post tb e args s (.returned v) u) :
    ArmFor flags0 classFile x code maxLocals ret World_1 tables_1 room_1 Calls_1 rest_1 Pre_1 Post := by
  intro l hfl _ _ p e ha hc hk s m args below hf hA hF happ hP
  obtain ⟨hcalls, hrest, hpre⟩ := hP
  obtain ⟨-, -, -, hnamed, -, -, -, hat⟩ := (Spec.applies_iff hf).mp happ
  obtain ⟨hg, hn⟩ := and_e (Cond.before_iff.mp (show (Jvm.Cond.and given_1 narrow_1).before args s = true from hpre))
  obtain ⟨g0, t0⟩ := and_e hg
  obtain ⟨g1, t1⟩ := and_e t0
  obtain ⟨g2, t2⟩ := and_e t1
  obtain ⟨g3, t3⟩ := and_e t2
  obtain ⟨w0, w1, w2, w3, rfl⟩ : ∃ w0 w1 w2 w3 : Value, args = #[w0, w1, w2, w3] := by
    have hs : args.size = 4 := by simpa [Cond.value, given_1] using g0
    obtain ⟨L⟩ := args
    match L, hs with
    | [w0, w1, w2, w3], _ => exact ⟨w0, w1, w2, w3, rfl⟩
  have hw := fun d (hd : d ∈ tables_1) => atoms_spec (ws := Jvm.Cond.code x code maxLocals ret :: tables_1) hat d (List.mem_cons_of_mem _ hd)
  have hfit : Fit s := fun {y c} hc i hi => by
    obtain ⟨ha, rfl⟩ := Array.getElem?_eq_some_iff.mp hc
    have q := List.all_eq_true.mp ((Array.all_eq_true_iff_forall_mem.mp hF) _ (Array.getElem_mem ha)) i (List.mem_range.mpr hi)
    simpa [Array.getElem?_eq_getElem hi] using q
  obtain ⟨i0, e0⟩ := is_v g1
  obtain rfl : w0 = (.int i0) := Option.some.inj e0
  obtain ⟨i1, e1⟩ := isL_v g2
  obtain rfl : w1 = (.long i1) := Option.some.inj e1
  obtain ⟨i2, e2⟩ := isL_v g3
  obtain rfl : w2 = (.long i2) := Option.some.inj e2
  obtain ⟨i3, e3⟩ := is_v t3
  obtain rfl : w3 = (.int i3) := Option.some.inj e3
  have hst := (atoms_of jdkStatics_1 (show (jdkStatics_1.foldr Jvm.Cond.and restOwn_1).before _ s = true from by rw [← rest_1_c_eq]; exact hrest)).1
  obtain ⟨cs, ecs⟩ := is_v (Cond.before_iff.mp (hst _ (List.mem_of_getElem? (i := 1) rfl)))
  have SC : Sta s s.heap "java/lang/String" "COMPACT_STRINGS" "Z" (.int cs) := Sta.start ecs (Or.inl (hst _ (List.mem_of_getElem? (i := 0) rfl)))
  have hcs : ¬ cs = (0 : Int32) := gotF (Cond.eq_ints ecs (Term.int_eval _)) (not_v (Cond.before_iff.mp (hst _ (List.mem_of_getElem? (i := 2) rfl))))
  obtain ⟨n, o, h1, h2, h3, _, L, rfl, ⟨N, rfl⟩, hq⟩ := own_law l s _ hw i0 i1 i2 i3 cs s.heap s.heap.size (Nat.le_refl _) SC hcs tables_1 p e ha hc hk s m _ below hf ((Spec.applies_iff_loose hf).mp happ).1 ⟨rfl, State.Warmed39.refl s, rfl⟩ trivial
  refine ⟨n, _, h1, h2, h3, hpost _ _ _ _ _ _ ⟨Cond.after_iff.mpr rfl, Cond.after_iff.mpr (eq_i res_at (Term.int_eval (1)) rfl), trivial⟩ ⟨hq.1, hq.2.1, hq.2.2.1, (hq.2.2.2.sift fun y hy => Or.inr (N y hy)).mono (by decide) (by decide)⟩⟩
theorem main_1_1 : Claimed_1_1 := comes_1 fun _ _ _ _ _ _ h hF => ⟨h.1, hF⟩
theorem main_1_2 : Claimed_1_2 := comes_1 fun _ _ _ _ _ _ h hF => ⟨h.2.1, hF⟩
end Jvm.Pilot.@@N@@
namespace Jvm.Pilot.@@N@@
open Jvm Jvm.ClassFile Sem Op Lib Jvm.Free Jvm.Stand Jvm.Pilot.@@N@@.Jvm.D
/-! MADE BY PROGRAM (witnessworld.py) out of the Statement's table words and the real class files: 24 classes; the members and pool entries that the words name. The judged class is class 1, her method 1. -/
namespace start1
open Jvm.ClassFile
def u (s : String) : CpInfo := .utf8 (stringToUtf16 s)
/-- a pool by its gaps: so many unusable entries, then the entry; so many at the end -/
def gap : Nat → List CpInfo → List CpInfo
  | 0, r => r
  | n + 1, r => .unusable :: gap n r
def poolList (es : List (Nat × CpInfo)) (last : Nat) : List CpInfo := es.foldr (fun e r => gap e.1 (e.2 :: r)) (gap last [])
def pool (es : List (Nat × CpInfo)) (last : Nat) : Array CpInfo := ⟨poolList es last⟩
def fileOf (pool : Array CpInfo) (this : Nat) (attrs : Array Attribute := #[]) (ms : Array MethodInfo := #[]) (fl : Nat := 33) (sup : Nat := 0) (ifs : Array Nat := #[]) (fds : Array FieldInfo := #[]) : ClassFile where
  minorVersion := 0
  majorVersion := 65
  constantPool := pool
  accessFlags := fl
  thisClass := this
  superClass := sup
  interfaces := ifs
  fields := fds
  methods := ms
  attributes := attrs
def plain (name : String) (sup : Option ClassId) : Class where
  name := name
  kind := .ordinary
  loader := none
  accessFlags := 33
  super := sup
  interfaces := #[]
  cf := none
  fields := #[]
  methods := #[]
  instanceTypes := #[]
  staticTypes := #[]
  resolved := #[]
  callSites := []
  init := .initialized
  statics := none
  mirror := none

def pool0 : Array CpInfo := pool [(5, u "<init>"), (0, u "()V"), (1, .class_ 10), (1, u "java/lang/Object")] 113

def k0c0 : Code := { maxStack := 0, maxLocals := 1, code := object_method_1_code, exceptionTable := #[], attributes := #[] }
def k0m0 : Method := { name := "<init>", desc := "()V", sig := { parameters := [], returnType := none }, accessFlags := 1, code := some k0c0 }
/-- java/lang/Object -/
def k0 : Class := { plain "java/lang/Object" none with
  accessFlags := 33
  interfaces := #[]
  cf := some (fileOf pool0 8 #[] #[{ accessFlags := 1, nameIndex := 5, descriptorIndex := 6, attributes := #[] }] 33 0 #[] #[])
  fields := #[]
  methods := #[k0m0]
  instanceTypes := #[]
  staticTypes := #[]
  resolved := Array.replicate 124 none
  statics := none }

def pool1 : Array CpInfo := pool [(2, .class_ 4), (1, u "java/lang/Object"), (0, u "<init>"), (0, u "()V"), (0, .methodref 8 9), (0, .class_ 10), (0, .nameAndType 11 12), (0, u "java/lang/String"), (0, u "valueOf"), (0, u "(C)Ljava/lang/String;"), (0, .class_ 14), (0, u "com/example/onnce/onnce/store/Fingerprint"), (0, .methodref 13 16), (0, .nameAndType 5 17), (0, u "(Ljava/lang/String;Ljava/lang/String;Ljava/lang/String;)V"), (0, .class_ 19), (0, u "com/example/onnce/onnce/store/KeyRecord$Claimed"), (0, .methodref 18 21), (0, .nameAndType 5 22), (0, u "(Lcom/example/onnce/onnce/store/Fingerprint;JJ)V"), (0, .methodref 18 24), (0, .nameAndType 25 26), (0, u "found"), (0, u "(Z)Lcom/example/onnce/onnce/store/Claim;"), (0, .class_ 28), (0, u "com/example/onnce/onnce/store/Claim$Abandoned"), (0, .class_ 30), (0, u "com/example/onnce/onnce/store/Claim$Outstanding"), (0, .interfaceMethodref 32 33), (0, .class_ 34), (0, .nameAndType 35 36), (0, u "com/example/onnce/onnce/store/Claim"), (0, u "fingerprint"), (0, u "()Lcom/example/onnce/onnce/store/Fingerprint;"), (0, .methodref 13 38), (0, .nameAndType 39 40), (0, u "method"), (0, u "()Ljava/lang/String;"), (0, .methodref 8 42), (0, .nameAndType 43 44), (0, u "equals"), (0, u "(Ljava/lang/Object;)Z"), (0, .methodref 13 46), (0, .nameAndType 47 40), (0, u "target"), (0, .methodref 13 49), (0, .nameAndType 50 40), (0, u "contentSha256"), (0, .methodref 18 33), (0, .methodref 18 53), (0, .nameAndType 54 55), (0, u "opening"), (0, u "()J"), (0, .methodref 18 57), (0, .nameAndType 58 55), (0, u "leaseEnd"), (0, .class_ 60), (0, u "com/example/onnce/onnce/store/ClaimedFoundPinLaw"), (2, u "law"), (0, u "(IJJI)Z")] 9

def k1m0 : Method := { name := "<init>", desc := "()V", sig := { parameters := [], returnType := none }, accessFlags := 1, code := none }
def k1c1 : Code := { maxStack := 7, maxLocals := 17, code := code, exceptionTable := #[], attributes := #[] }
def k1m1 : Method := { name := "law", desc := "(IJJI)Z", sig := { parameters := [.int, .long, .long, .int], returnType := some .boolean }, accessFlags := 9, code := some k1c1 }
/-- com/example/onnce/onnce/store/ClaimedFoundPinLaw -/
def k1 : Class := { plain "com/example/onnce/onnce/store/ClaimedFoundPinLaw" (some 0) with
  accessFlags := 49
  interfaces := #[]
  cf := some (fileOf pool1 59 #[] #[{ accessFlags := 1, nameIndex := 5, descriptorIndex := 6, attributes := #[] }, { accessFlags := 9, nameIndex := 63, descriptorIndex := 64, attributes := #[] }] 49 2 #[] #[])
  fields := #[]
  methods := #[k1m0, k1m1]
  instanceTypes := #[]
  staticTypes := #[]
  resolved := Array.replicate 74 none
  statics := none }

def pool2 : Array CpInfo := pool [(1, .class_ 2), (0, u "java/io/Serializable"), (0, .class_ 4), (0, u "java/lang/Object")] 2

/-- java/io/Serializable -/
def k2 : Class := { plain "java/io/Serializable" (some 0) with
  accessFlags := 1537
  interfaces := #[]
  cf := some (fileOf pool2 1 #[] #[] 1537 3 #[] #[])
  fields := #[]
  methods := #[]
  instanceTypes := #[]
  staticTypes := #[]
  resolved := Array.replicate 7 none
  statics := none }

def pool3 : Array CpInfo := pool [(1, .class_ 2), (0, u "java/lang/Comparable"), (0, .class_ 4), (0, u "java/lang/Object")] 7

/-- java/lang/Comparable -/
def k3 : Class := { plain "java/lang/Comparable" (some 0) with
  accessFlags := 1537
  interfaces := #[]
  cf := some (fileOf pool3 1 #[] #[] 1537 3 #[] #[])
  fields := #[]
  methods := #[]
  instanceTypes := #[]
  staticTypes := #[]
  resolved := Array.replicate 12 none
  statics := none }

def pool4 : Array CpInfo := pool [(2, .class_ 4), (1, u "java/lang/CharSequence"), (42, .class_ 48), (0, u "java/lang/CharSequence$1CodePointIterator"), (10, .class_ 60), (0, u "java/lang/CharSequence$1CharIterator"), (5, .class_ 67), (0, u "java/lang/Object")] 63

/-- java/lang/CharSequence -/
def k4 : Class := { plain "java/lang/CharSequence" (some 0) with
  accessFlags := 1537
  interfaces := #[]
  cf := some (fileOf pool4 2 #[.nestMembers #[47, 59]] #[] 1537 66 #[] #[])
  fields := #[]
  methods := #[]
  instanceTypes := #[]
  staticTypes := #[]
  resolved := Array.replicate 131 none
  statics := none }

def pool5 : Array CpInfo := pool [(1, .class_ 2), (0, u "java/lang/constant/Constable"), (0, .class_ 4), (0, u "java/lang/Object")] 6

/-- java/lang/constant/Constable -/
def k5 : Class := { plain "java/lang/constant/Constable" (some 0) with
  accessFlags := 1537
  interfaces := #[]
  cf := some (fileOf pool5 1 #[] #[] 1537 3 #[] #[])
  fields := #[]
  methods := #[]
  instanceTypes := #[]
  staticTypes := #[]
  resolved := Array.replicate 11 none
  statics := none }

def pool6 : Array CpInfo := pool [(1, .class_ 2), (0, u "java/lang/constant/ConstantDesc"), (0, .class_ 4), (0, u "java/lang/Object")] 32

/-- java/lang/constant/ConstantDesc -/
def k6 : Class := { plain "java/lang/constant/ConstantDesc" (some 0) with
  accessFlags := 1537
  interfaces := #[]
  cf := some (fileOf pool6 1 #[] #[] 1537 3 #[] #[])
  fields := #[]
  methods := #[]
  instanceTypes := #[]
  staticTypes := #[]
  resolved := Array.replicate 37 none
  statics := none }

def pool7 : Array CpInfo := pool [(1, .methodref 2 3), (0, .class_ 4), (0, .nameAndType 5 6), (0, u "java/lang/Object"), (0, u "<init>"), (0, u "()V"), (2, .fieldref 10 11), (0, .class_ 12), (0, .nameAndType 13 14), (0, u "java/lang/String"), (0, u "value"), (0, u "[B"), (0, .fieldref 10 16), (0, .nameAndType 17 18), (0, u "coder"), (0, u "B"), (2, u "hash"), (0, u "I"), (2, u "hashIsZero"), (0, u "Z"), (11, .fieldref 10 39), (0, .nameAndType 40 26), (0, u "COMPACT_STRINGS"), (12, u "toBytes"), (53, .class_ 109), (1, u "java/lang/StringLatin1"), (99, .methodref 10 210), (0, .nameAndType 5 211), (0, u "([BB)V"), (157, u "(C)Z"), (173, u "equals"), (29, u "(Ljava/lang/Object;)Z"), (1, .class_ 576), (0, u "java/lang/CharSequence"), (22, u "CASE_INSENSITIVE_ORDER"), (0, u "Ljava/util/Comparator;"), (181, u "valueOf"), (0, u "(C)Ljava/lang/String;"), (231, .methodref 107 1016), (0, .nameAndType 1017 369), (0, u "canEncode"), (0, .methodref 107 1019), (0, .nameAndType 53 1020), (0, u "(C)[B"), (80, u "serialPersistentFields"), (0, u "[Ljava/io/ObjectStreamField;"), (0, .class_ 1104), (0, u "java/lang/String$CaseInsensitiveComparator"), (1, .class_ 1107), (0, u "java/io/Serializable"), (0, .class_ 1109), (0, u "java/lang/Comparable"), (0, .class_ 1111), (0, u "java/lang/constant/Constable"), (0, .class_ 1113), (0, u "java/lang/constant/ConstantDesc"), (2, u "serialVersionUID"), (0, u "J"), (3, u "REPL"), (0, u "C"), (2, u "LATIN1"), (1, u "UTF16")] 323

def k7m0 : Method := { name := "<init>", desc := "()V", sig := { parameters := [], returnType := none }, accessFlags := 1, code := none }
def k7c1 : Code := { maxStack := 2, maxLocals := 3, code := jdk_42_method_66_code, exceptionTable := #[], attributes := #[] }
def k7m1 : Method := { name := "equals", desc := "(Ljava/lang/Object;)Z", sig := { parameters := [(.object "java/lang/Object")], returnType := some .boolean }, accessFlags := 1, code := some k7c1 }
def k7c2 : Code := { maxStack := 4, maxLocals := 1, code := jdk_42_method_139_code, exceptionTable := #[], attributes := #[] }
def k7m2 : Method := { name := "valueOf", desc := "(C)Ljava/lang/String;", sig := { parameters := [.char], returnType := some (.object "java/lang/String") }, accessFlags := 9, code := some k7c2 }
def k7c3 : Code := { maxStack := 2, maxLocals := 3, code := jdk_42_method_151_code, exceptionTable := #[], attributes := #[] }
def k7m3 : Method := { name := "<init>", desc := "([BB)V", sig := { parameters := [(.array .byte), .byte], returnType := none }, accessFlags := 0, code := some k7c3 }
/-- java/lang/String -/
def k7 : Class := { plain "java/lang/String" (some 0) with
  accessFlags := 49
  interfaces := #[2, 3, 4, 5, 6]
  cf := some (fileOf pool7 10 #[.nestMembers #[1103]] #[{ accessFlags := 1, nameIndex := 5, descriptorIndex := 6, attributes := #[] }, { accessFlags := 1, nameIndex := 543, descriptorIndex := 573, attributes := #[] }, { accessFlags := 9, nameIndex := 782, descriptorIndex := 783, attributes := #[] }, { accessFlags := 0, nameIndex := 5, descriptorIndex := 211, attributes := #[] }] 49 2 #[1106, 1108, 575, 1110, 1112] #[{ accessFlags := 18, nameIndex := 13, descriptorIndex := 14, attributes := #[] }, { accessFlags := 18, nameIndex := 17, descriptorIndex := 18, attributes := #[] }, { accessFlags := 2, nameIndex := 21, descriptorIndex := 22, attributes := #[] }, { accessFlags := 2, nameIndex := 25, descriptorIndex := 26, attributes := #[] }, { accessFlags := 26, nameIndex := 1116, descriptorIndex := 1117, attributes := #[] }, { accessFlags := 24, nameIndex := 40, descriptorIndex := 26, attributes := #[] }, { accessFlags := 26, nameIndex := 1101, descriptorIndex := 1102, attributes := #[] }, { accessFlags := 26, nameIndex := 1121, descriptorIndex := 1122, attributes := #[] }, { accessFlags := 25, nameIndex := 599, descriptorIndex := 600, attributes := #[] }, { accessFlags := 24, nameIndex := 1125, descriptorIndex := 18, attributes := #[] }, { accessFlags := 24, nameIndex := 1127, descriptorIndex := 18, attributes := #[] }])
  fields := #[{ name := "value", type := (.array .byte), accessFlags := 18, slot := 0, constantValue := 0 }, { name := "coder", type := .byte, accessFlags := 18, slot := 1, constantValue := 0 }, { name := "hash", type := .int, accessFlags := 2, slot := 2, constantValue := 0 }, { name := "hashIsZero", type := .boolean, accessFlags := 2, slot := 3, constantValue := 0 }, { name := "serialVersionUID", type := .long, accessFlags := 26, slot := 0, constantValue := 0 }, { name := "COMPACT_STRINGS", type := .boolean, accessFlags := 24, slot := 1, constantValue := 0 }, { name := "serialPersistentFields", type := (.array (.object "java/io/ObjectStreamField")), accessFlags := 26, slot := 2, constantValue := 0 }, { name := "REPL", type := .char, accessFlags := 26, slot := 3, constantValue := 0 }, { name := "CASE_INSENSITIVE_ORDER", type := (.object "java/util/Comparator"), accessFlags := 25, slot := 4, constantValue := 0 }, { name := "LATIN1", type := .byte, accessFlags := 24, slot := 5, constantValue := 0 }, { name := "UTF16", type := .byte, accessFlags := 24, slot := 6, constantValue := 0 }]
  methods := #[k7m0, k7m1, k7m2, k7m3]
  instanceTypes := #[(.array .byte), .byte, .int, .boolean]
  staticTypes := #[.long, .boolean, (.array (.object "java/io/ObjectStreamField")), .char, (.object "java/util/Comparator"), .byte, .byte]
  resolved := Array.replicate 1451 none
  statics := some 0 }

def pool8 : Array CpInfo := pool [(4, .class_ 6), (1, u "java/lang/Object"), (0, u "<init>"), (0, u "()V"), (5, .class_ 16), (1, u "java/lang/StringLatin1"), (73, u "canEncode"), (14, u "(C)Z"), (15, u "$assertionsDisabled"), (0, u "Z"), (98, .class_ 223), (1, u "java/lang/StringLatin1$LinesSpliterator"), (156, u "toBytes"), (1, u "(C)[B"), (7, .class_ 391), (0, u "java/lang/StringLatin1$CharsSpliterator")] 3

def k8m0 : Method := { name := "<init>", desc := "()V", sig := { parameters := [], returnType := none }, accessFlags := 0, code := none }
def k8c1 : Code := { maxStack := 2, maxLocals := 1, code := jdk_43_method_3_code, exceptionTable := #[], attributes := #[] }
def k8m1 : Method := { name := "canEncode", desc := "(C)Z", sig := { parameters := [.char], returnType := some .boolean }, accessFlags := 9, code := some k8c1 }
def k8c2 : Code := { maxStack := 4, maxLocals := 1, code := jdk_43_method_46_code, exceptionTable := #[], attributes := #[] }
def k8m2 : Method := { name := "toBytes", desc := "(C)[B", sig := { parameters := [.char], returnType := some (.array .byte) }, accessFlags := 9, code := some k8c2 }
/-- java/lang/StringLatin1 -/
def k8 : Class := { plain "java/lang/StringLatin1" (some 0) with
  accessFlags := 48
  interfaces := #[]
  cf := some (fileOf pool8 14 #[.nestMembers #[390, 221]] #[{ accessFlags := 0, nameIndex := 7, descriptorIndex := 8, attributes := #[] }, { accessFlags := 9, nameIndex := 90, descriptorIndex := 105, attributes := #[] }, { accessFlags := 9, nameIndex := 380, descriptorIndex := 382, attributes := #[] }] 48 4 #[] #[{ accessFlags := 4120, nameIndex := 121, descriptorIndex := 122, attributes := #[] }])
  fields := #[{ name := "$assertionsDisabled", type := .boolean, accessFlags := 4120, slot := 0, constantValue := 0 }]
  methods := #[k8m0, k8m1, k8m2]
  instanceTypes := #[]
  staticTypes := #[.boolean]
  resolved := Array.replicate 395 none
  statics := none }

def pool9 : Array CpInfo := pool [(1, .methodref 2 3), (0, .class_ 4), (0, .nameAndType 5 6), (0, u "java/lang/Object"), (0, u "<init>"), (0, u "()V"), (0, .class_ 8), (0, u "java/lang/Record")] 13

def k9c0 : Code := { maxStack := 1, maxLocals := 1, code := jdk_30_method_1_code, exceptionTable := #[], attributes := #[] }
def k9m0 : Method := { name := "<init>", desc := "()V", sig := { parameters := [], returnType := none }, accessFlags := 4, code := some k9c0 }
/-- java/lang/Record -/
def k9 : Class := { plain "java/lang/Record" (some 0) with
  accessFlags := 1057
  interfaces := #[]
  cf := some (fileOf pool9 7 #[] #[{ accessFlags := 4, nameIndex := 5, descriptorIndex := 6, attributes := #[] }] 1057 2 #[] #[])
  fields := #[]
  methods := #[k9m0]
  instanceTypes := #[]
  staticTypes := #[]
  resolved := Array.replicate 22 none
  statics := none }

def pool10 : Array CpInfo := pool [(1, .methodref 2 3), (0, .class_ 4), (0, .nameAndType 5 6), (0, u "java/lang/Record"), (0, u "<init>"), (0, u "()V"), (0, .string 8), (0, u "method"), (0, .methodref 10 11), (0, .class_ 12), (0, .nameAndType 13 14), (0, u "java/util/Objects"), (0, u "requireNonNull"), (0, u "(Ljava/lang/Object;Ljava/lang/String;)Ljava/lang/Object;"), (0, .string 16), (0, u "target"), (0, .string 18), (0, u "contentSha256"), (0, .fieldref 20 21), (0, .class_ 22), (0, .nameAndType 8 23), (0, u "com/example/onnce/onnce/store/Fingerprint"), (0, u "Ljava/lang/String;"), (0, .fieldref 20 25), (0, .nameAndType 16 23), (0, .fieldref 20 27), (0, .nameAndType 18 23), (4, u "()Ljava/lang/String;"), (14, u "(Ljava/lang/String;Ljava/lang/String;Ljava/lang/String;)V")] 41

def k10c0 : Code := { maxStack := 2, maxLocals := 4, code := prog_20_method_1_code, exceptionTable := #[], attributes := #[] }
def k10m0 : Method := { name := "<init>", desc := "(Ljava/lang/String;Ljava/lang/String;Ljava/lang/String;)V", sig := { parameters := [(.object "java/lang/String"), (.object "java/lang/String"), (.object "java/lang/String")], returnType := none }, accessFlags := 1, code := some k10c0 }
def k10c1 : Code := { maxStack := 1, maxLocals := 1, code := prog_20_method_6_code, exceptionTable := #[], attributes := #[] }
def k10m1 : Method := { name := "method", desc := "()Ljava/lang/String;", sig := { parameters := [], returnType := some (.object "java/lang/String") }, accessFlags := 1, code := some k10c1 }
def k10c2 : Code := { maxStack := 1, maxLocals := 1, code := prog_20_method_7_code, exceptionTable := #[], attributes := #[] }
def k10m2 : Method := { name := "target", desc := "()Ljava/lang/String;", sig := { parameters := [], returnType := some (.object "java/lang/String") }, accessFlags := 1, code := some k10c2 }
def k10c3 : Code := { maxStack := 1, maxLocals := 1, code := prog_20_method_8_code, exceptionTable := #[], attributes := #[] }
def k10m3 : Method := { name := "contentSha256", desc := "()Ljava/lang/String;", sig := { parameters := [], returnType := some (.object "java/lang/String") }, accessFlags := 1, code := some k10c3 }
/-- com/example/onnce/onnce/store/Fingerprint -/
def k10 : Class := { plain "com/example/onnce/onnce/store/Fingerprint" (some 9) with
  accessFlags := 49
  interfaces := #[]
  cf := some (fileOf pool10 20 #[] #[{ accessFlags := 1, nameIndex := 5, descriptorIndex := 47, attributes := #[] }, { accessFlags := 1, nameIndex := 8, descriptorIndex := 32, attributes := #[] }, { accessFlags := 1, nameIndex := 16, descriptorIndex := 32, attributes := #[] }, { accessFlags := 1, nameIndex := 18, descriptorIndex := 32, attributes := #[] }] 49 2 #[] #[{ accessFlags := 18, nameIndex := 8, descriptorIndex := 23, attributes := #[] }, { accessFlags := 18, nameIndex := 16, descriptorIndex := 23, attributes := #[] }, { accessFlags := 18, nameIndex := 18, descriptorIndex := 23, attributes := #[] }])
  fields := #[{ name := "method", type := (.object "java/lang/String"), accessFlags := 18, slot := 0, constantValue := 0 }, { name := "target", type := (.object "java/lang/String"), accessFlags := 18, slot := 1, constantValue := 0 }, { name := "contentSha256", type := (.object "java/lang/String"), accessFlags := 18, slot := 2, constantValue := 0 }]
  methods := #[k10m0, k10m1, k10m2, k10m3]
  instanceTypes := #[(.object "java/lang/String"), (.object "java/lang/String"), (.object "java/lang/String")]
  staticTypes := #[]
  resolved := Array.replicate 89 none
  statics := none }

def pool11 : Array CpInfo := pool [(2, .class_ 4), (1, u "java/lang/Object"), (0, u "<init>"), (0, u "()V"), (35, .class_ 44), (1, u "java/util/Objects"), (0, u "requireNonNull"), (48, u "(Ljava/lang/Object;Ljava/lang/String;)Ljava/lang/Object;")] 89

def k11m0 : Method := { name := "<init>", desc := "()V", sig := { parameters := [], returnType := none }, accessFlags := 2, code := none }
def k11c1 : Code := { maxStack := 3, maxLocals := 2, code := jdk_31_method_11_code, exceptionTable := #[], attributes := #[] }
def k11m1 : Method := { name := "requireNonNull", desc := "(Ljava/lang/Object;Ljava/lang/String;)Ljava/lang/Object;", sig := { parameters := [(.object "java/lang/Object"), (.object "java/lang/String")], returnType := some (.object "java/lang/Object") }, accessFlags := 9, code := some k11c1 }
/-- java/util/Objects -/
def k11 : Class := { plain "java/util/Objects" (some 0) with
  accessFlags := 49
  interfaces := #[]
  cf := some (fileOf pool11 42 #[] #[{ accessFlags := 2, nameIndex := 5, descriptorIndex := 6, attributes := #[] }, { accessFlags := 9, nameIndex := 45, descriptorIndex := 94, attributes := #[] }] 49 2 #[] #[])
  fields := #[]
  methods := #[k11m0, k11m1]
  instanceTypes := #[]
  staticTypes := #[]
  resolved := Array.replicate 184 none
  statics := none }

def pool12 : Array CpInfo := pool [(1, .class_ 2), (0, u "com/example/onnce/onnce/store/KeyRecord"), (0, .class_ 4), (0, u "java/lang/Object"), (9, .class_ 15), (0, u "com/example/onnce/onnce/store/KeyRecord$Kept"), (0, .class_ 17), (0, u "com/example/onnce/onnce/store/KeyRecord$Claimed")] 4

/-- com/example/onnce/onnce/store/KeyRecord -/
def k12 : Class := { plain "com/example/onnce/onnce/store/KeyRecord" (some 0) with
  accessFlags := 1536
  interfaces := #[]
  cf := some (fileOf pool12 1 #[.nestMembers #[14, 16]] #[] 1536 3 #[] #[])
  fields := #[]
  methods := #[]
  instanceTypes := #[]
  staticTypes := #[]
  resolved := Array.replicate 22 none
  statics := none }

def pool13 : Array CpInfo := pool [(1, .methodref 2 3), (0, .class_ 4), (0, .nameAndType 5 6), (0, u "java/lang/Record"), (0, u "<init>"), (0, u "()V"), (0, .string 8), (0, u "fingerprint"), (0, .methodref 10 11), (0, .class_ 12), (0, .nameAndType 13 14), (0, u "java/util/Objects"), (0, u "requireNonNull"), (0, u "(Ljava/lang/Object;Ljava/lang/String;)Ljava/lang/Object;"), (0, .fieldref 16 17), (0, .class_ 18), (0, .nameAndType 8 19), (0, u "com/example/onnce/onnce/store/KeyRecord$Claimed"), (0, u "Lcom/example/onnce/onnce/store/Fingerprint;"), (0, .fieldref 16 21), (0, .nameAndType 22 23), (0, u "opening"), (0, u "J"), (0, .fieldref 16 25), (0, .nameAndType 26 23), (0, u "leaseEnd"), (0, .class_ 28), (0, u "com/example/onnce/onnce/store/Claim$Abandoned"), (0, .methodref 27 30), (0, .nameAndType 5 31), (0, u "(Lcom/example/onnce/onnce/store/Fingerprint;)V"), (0, .class_ 33), (0, u "com/example/onnce/onnce/store/Claim$Outstanding"), (0, .methodref 32 30), (12, .class_ 48), (0, u "com/example/onnce/onnce/store/KeyRecord"), (0, u "(Lcom/example/onnce/onnce/store/Fingerprint;JJ)V"), (4, u "()J"), (0, u "found"), (0, u "(Z)Lcom/example/onnce/onnce/store/Claim;"), (6, u "()Lcom/example/onnce/onnce/store/Fingerprint;")] 26

def k13c0 : Code := { maxStack := 3, maxLocals := 6, code := prog_22_method_1_code, exceptionTable := #[], attributes := #[] }
def k13m0 : Method := { name := "<init>", desc := "(Lcom/example/onnce/onnce/store/Fingerprint;JJ)V", sig := { parameters := [(.object "com/example/onnce/onnce/store/Fingerprint"), .long, .long], returnType := none }, accessFlags := 1, code := some k13c0 }
def k13c1 : Code := { maxStack := 3, maxLocals := 2, code := prog_22_method_3_code, exceptionTable := #[], attributes := #[] }
def k13m1 : Method := { name := "found", desc := "(Z)Lcom/example/onnce/onnce/store/Claim;", sig := { parameters := [.boolean], returnType := some (.object "com/example/onnce/onnce/store/Claim") }, accessFlags := 1, code := some k13c1 }
def k13c2 : Code := { maxStack := 1, maxLocals := 1, code := prog_22_method_7_code, exceptionTable := #[], attributes := #[] }
def k13m2 : Method := { name := "fingerprint", desc := "()Lcom/example/onnce/onnce/store/Fingerprint;", sig := { parameters := [], returnType := some (.object "com/example/onnce/onnce/store/Fingerprint") }, accessFlags := 1, code := some k13c2 }
def k13c3 : Code := { maxStack := 2, maxLocals := 1, code := prog_22_method_8_code, exceptionTable := #[], attributes := #[] }
def k13m3 : Method := { name := "opening", desc := "()J", sig := { parameters := [], returnType := some .long }, accessFlags := 1, code := some k13c3 }
def k13c4 : Code := { maxStack := 2, maxLocals := 1, code := prog_22_method_9_code, exceptionTable := #[], attributes := #[] }
def k13m4 : Method := { name := "leaseEnd", desc := "()J", sig := { parameters := [], returnType := some .long }, accessFlags := 1, code := some k13c4 }
/-- com/example/onnce/onnce/store/KeyRecord$Claimed -/
def k13 : Class := { plain "com/example/onnce/onnce/store/KeyRecord$Claimed" (some 9) with
  accessFlags := 49
  interfaces := #[12]
  cf := some (fileOf pool13 16 #[.nestHost 47] #[{ accessFlags := 1, nameIndex := 5, descriptorIndex := 49, attributes := #[] }, { accessFlags := 1, nameIndex := 55, descriptorIndex := 56, attributes := #[] }, { accessFlags := 1, nameIndex := 8, descriptorIndex := 63, attributes := #[] }, { accessFlags := 1, nameIndex := 22, descriptorIndex := 54, attributes := #[] }, { accessFlags := 1, nameIndex := 26, descriptorIndex := 54, attributes := #[] }] 49 2 #[47] #[{ accessFlags := 18, nameIndex := 8, descriptorIndex := 19, attributes := #[] }, { accessFlags := 18, nameIndex := 22, descriptorIndex := 23, attributes := #[] }, { accessFlags := 18, nameIndex := 26, descriptorIndex := 23, attributes := #[] }])
  fields := #[{ name := "fingerprint", type := (.object "com/example/onnce/onnce/store/Fingerprint"), accessFlags := 18, slot := 0, constantValue := 0 }, { name := "opening", type := .long, accessFlags := 18, slot := 1, constantValue := 0 }, { name := "leaseEnd", type := .long, accessFlags := 18, slot := 2, constantValue := 0 }]
  methods := #[k13m0, k13m1, k13m2, k13m3, k13m4]
  instanceTypes := #[(.object "com/example/onnce/onnce/store/Fingerprint"), .long, .long]
  staticTypes := #[]
  resolved := Array.replicate 90 none
  statics := none }

def pool14 : Array CpInfo := pool [(1, .class_ 2), (0, u "com/example/onnce/onnce/store/Claim"), (0, .class_ 4), (0, u "java/lang/Object"), (0, u "fingerprint"), (0, u "()Lcom/example/onnce/onnce/store/Fingerprint;"), (3, .class_ 11), (0, u "com/example/onnce/onnce/store/Claim$Kept"), (0, .class_ 13), (0, u "com/example/onnce/onnce/store/Claim$Abandoned"), (0, .class_ 15), (0, u "com/example/onnce/onnce/store/Claim$Outstanding"), (0, .class_ 17), (0, u "com/example/onnce/onnce/store/Claim$Granted")] 6

def k14m0 : Method := { name := "fingerprint", desc := "()Lcom/example/onnce/onnce/store/Fingerprint;", sig := { parameters := [], returnType := some (.object "com/example/onnce/onnce/store/Fingerprint") }, accessFlags := 1025, code := none }
/-- com/example/onnce/onnce/store/Claim -/
def k14 : Class := { plain "com/example/onnce/onnce/store/Claim" (some 0) with
  accessFlags := 1537
  interfaces := #[]
  cf := some (fileOf pool14 1 #[.nestMembers #[10, 12, 14, 16]] #[{ accessFlags := 1025, nameIndex := 5, descriptorIndex := 6, attributes := #[] }] 1537 3 #[] #[])
  fields := #[]
  methods := #[k14m0]
  instanceTypes := #[]
  staticTypes := #[]
  resolved := Array.replicate 24 none
  statics := none }

def pool15 : Array CpInfo := pool [(1, .methodref 2 3), (0, .class_ 4), (0, .nameAndType 5 6), (0, u "java/lang/Record"), (0, u "<init>"), (0, u "()V"), (0, .string 8), (0, u "fingerprint"), (0, .methodref 10 11), (0, .class_ 12), (0, .nameAndType 13 14), (0, u "java/util/Objects"), (0, u "requireNonNull"), (0, u "(Ljava/lang/Object;Ljava/lang/String;)Ljava/lang/Object;"), (0, .fieldref 16 17), (0, .class_ 18), (0, .nameAndType 8 19), (0, u "com/example/onnce/onnce/store/Claim$Outstanding"), (0, u "Lcom/example/onnce/onnce/store/Fingerprint;"), (12, .class_ 33), (0, u "com/example/onnce/onnce/store/Claim"), (0, u "(Lcom/example/onnce/onnce/store/Fingerprint;)V"), (6, u "()Lcom/example/onnce/onnce/store/Fingerprint;")] 20

def k15c0 : Code := { maxStack := 2, maxLocals := 2, code := prog_18_method_1_code, exceptionTable := #[], attributes := #[] }
def k15m0 : Method := { name := "<init>", desc := "(Lcom/example/onnce/onnce/store/Fingerprint;)V", sig := { parameters := [(.object "com/example/onnce/onnce/store/Fingerprint")], returnType := none }, accessFlags := 1, code := some k15c0 }
def k15c1 : Code := { maxStack := 1, maxLocals := 1, code := prog_18_method_5_code, exceptionTable := #[], attributes := #[] }
def k15m1 : Method := { name := "fingerprint", desc := "()Lcom/example/onnce/onnce/store/Fingerprint;", sig := { parameters := [], returnType := some (.object "com/example/onnce/onnce/store/Fingerprint") }, accessFlags := 1, code := some k15c1 }
/-- com/example/onnce/onnce/store/Claim$Outstanding -/
def k15 : Class := { plain "com/example/onnce/onnce/store/Claim$Outstanding" (some 9) with
  accessFlags := 49
  interfaces := #[14]
  cf := some (fileOf pool15 16 #[.nestHost 32] #[{ accessFlags := 1, nameIndex := 5, descriptorIndex := 34, attributes := #[] }, { accessFlags := 1, nameIndex := 8, descriptorIndex := 41, attributes := #[] }] 49 2 #[32] #[{ accessFlags := 18, nameIndex := 8, descriptorIndex := 19, attributes := #[] }])
  fields := #[{ name := "fingerprint", type := (.object "com/example/onnce/onnce/store/Fingerprint"), accessFlags := 18, slot := 0, constantValue := 0 }]
  methods := #[k15m0, k15m1]
  instanceTypes := #[(.object "com/example/onnce/onnce/store/Fingerprint")]
  staticTypes := #[]
  resolved := Array.replicate 62 none
  statics := none }

def pool16 : Array CpInfo := pool [(1, .methodref 2 3), (0, .class_ 4), (0, .nameAndType 5 6), (0, u "java/lang/Record"), (0, u "<init>"), (0, u "()V"), (0, .string 8), (0, u "fingerprint"), (0, .methodref 10 11), (0, .class_ 12), (0, .nameAndType 13 14), (0, u "java/util/Objects"), (0, u "requireNonNull"), (0, u "(Ljava/lang/Object;Ljava/lang/String;)Ljava/lang/Object;"), (0, .fieldref 16 17), (0, .class_ 18), (0, .nameAndType 8 19), (0, u "com/example/onnce/onnce/store/Claim$Abandoned"), (0, u "Lcom/example/onnce/onnce/store/Fingerprint;"), (12, .class_ 33), (0, u "com/example/onnce/onnce/store/Claim"), (0, u "(Lcom/example/onnce/onnce/store/Fingerprint;)V"), (6, u "()Lcom/example/onnce/onnce/store/Fingerprint;")] 20

def k16c0 : Code := { maxStack := 2, maxLocals := 2, code := prog_15_method_1_code, exceptionTable := #[], attributes := #[] }
def k16m0 : Method := { name := "<init>", desc := "(Lcom/example/onnce/onnce/store/Fingerprint;)V", sig := { parameters := [(.object "com/example/onnce/onnce/store/Fingerprint")], returnType := none }, accessFlags := 1, code := some k16c0 }
def k16c1 : Code := { maxStack := 1, maxLocals := 1, code := prog_15_method_5_code, exceptionTable := #[], attributes := #[] }
def k16m1 : Method := { name := "fingerprint", desc := "()Lcom/example/onnce/onnce/store/Fingerprint;", sig := { parameters := [], returnType := some (.object "com/example/onnce/onnce/store/Fingerprint") }, accessFlags := 1, code := some k16c1 }
/-- com/example/onnce/onnce/store/Claim$Abandoned -/
def k16 : Class := { plain "com/example/onnce/onnce/store/Claim$Abandoned" (some 9) with
  accessFlags := 49
  interfaces := #[14]
  cf := some (fileOf pool16 16 #[.nestHost 32] #[{ accessFlags := 1, nameIndex := 5, descriptorIndex := 34, attributes := #[] }, { accessFlags := 1, nameIndex := 8, descriptorIndex := 41, attributes := #[] }] 49 2 #[32] #[{ accessFlags := 18, nameIndex := 8, descriptorIndex := 19, attributes := #[] }])
  fields := #[{ name := "fingerprint", type := (.object "com/example/onnce/onnce/store/Fingerprint"), accessFlags := 18, slot := 0, constantValue := 0 }]
  methods := #[k16m0, k16m1]
  instanceTypes := #[(.object "com/example/onnce/onnce/store/Fingerprint")]
  staticTypes := #[]
  resolved := Array.replicate 62 none
  statics := none }

def pool17 : Array CpInfo := pool [(2, .class_ 4), (1, u "java/lang/Object"), (0, u "<init>"), (0, u "()V"), (17, .class_ 26), (1, u "jdk/internal/util/Preconditions"), (28, .class_ 56), (0, u "jdk/internal/util/Preconditions$4"), (57, .class_ 115), (0, u "jdk/internal/util/Preconditions$1"), (7, u "SIOOBE_FORMATTER"), (0, u "Ljava/util/function/BiFunction;"), (0, .class_ 126), (0, u "jdk/internal/util/Preconditions$2"), (3, u "AIOOBE_FORMATTER"), (0, .class_ 132), (0, u "jdk/internal/util/Preconditions$3"), (3, u "IOOBE_FORMATTER")] 57

def k17m0 : Method := { name := "<init>", desc := "()V", sig := { parameters := [], returnType := none }, accessFlags := 1, code := none }
/-- jdk/internal/util/Preconditions -/
def k17 : Class := { plain "jdk/internal/util/Preconditions" (some 0) with
  accessFlags := 33
  interfaces := #[]
  cf := some (fileOf pool17 24 #[.nestMembers #[55, 131, 125, 114]] #[{ accessFlags := 1, nameIndex := 5, descriptorIndex := 6, attributes := #[] }] 33 2 #[] #[{ accessFlags := 25, nameIndex := 123, descriptorIndex := 124, attributes := #[] }, { accessFlags := 25, nameIndex := 130, descriptorIndex := 124, attributes := #[] }, { accessFlags := 25, nameIndex := 136, descriptorIndex := 124, attributes := #[] }])
  fields := #[{ name := "SIOOBE_FORMATTER", type := (.object "java/util/function/BiFunction"), accessFlags := 25, slot := 0, constantValue := 0 }, { name := "AIOOBE_FORMATTER", type := (.object "java/util/function/BiFunction"), accessFlags := 25, slot := 1, constantValue := 0 }, { name := "IOOBE_FORMATTER", type := (.object "java/util/function/BiFunction"), accessFlags := 25, slot := 2, constantValue := 0 }]
  methods := #[k17m0]
  instanceTypes := #[]
  staticTypes := #[(.object "java/util/function/BiFunction"), (.object "java/util/function/BiFunction"), (.object "java/util/function/BiFunction")]
  resolved := Array.replicate 194 none
  statics := some 1 }

def pool18 : Array CpInfo := pool [(9, u "<init>"), (6, .class_ 18), (1, u "java/lang/Object"), (0, u "()V"), (1, .class_ 23), (1, u "jdk/internal/util/ArraysSupport"), (0, u "LOG2_ARRAY_LONG_INDEX_SCALE"), (0, u "I"), (2, u "U"), (0, u "Ljdk/internal/misc/Unsafe;"), (8, u "BIG_ENDIAN"), (0, u "Z"), (8, u "LOG2_BYTE_BIT_SIZE"), (4, u "LOG2_ARRAY_INT_INDEX_SCALE"), (54, u "JLA"), (0, u "Ljdk/internal/access/JavaLangAccess;"), (11, u "LOG2_ARRAY_BOOLEAN_INDEX_SCALE"), (9, u "LOG2_ARRAY_BYTE_INDEX_SCALE"), (5, u "LOG2_ARRAY_CHAR_INDEX_SCALE"), (5, u "LOG2_ARRAY_SHORT_INDEX_SCALE"), (18, u "LOG2_ARRAY_FLOAT_INDEX_SCALE"), (24, u "LOG2_ARRAY_DOUBLE_INDEX_SCALE"), (89, u "T_BOOLEAN"), (2, u "T_CHAR"), (1, u "T_FLOAT"), (1, u "T_DOUBLE"), (1, u "T_BYTE"), (1, u "T_SHORT"), (1, u "T_INT"), (1, u "T_LONG"), (1, u "SOFT_MAX_ARRAY_LENGTH")] 83

def k18m0 : Method := { name := "<init>", desc := "()V", sig := { parameters := [], returnType := none }, accessFlags := 2, code := none }
/-- jdk/internal/util/ArraysSupport -/
def k18 : Class := { plain "jdk/internal/util/ArraysSupport" (some 0) with
  accessFlags := 33
  interfaces := #[]
  cf := some (fileOf pool18 21 #[] #[{ accessFlags := 2, nameIndex := 9, descriptorIndex := 19, attributes := #[] }] 33 16 #[] #[{ accessFlags := 24, nameIndex := 28, descriptorIndex := 29, attributes := #[] }, { accessFlags := 26, nameIndex := 38, descriptorIndex := 39, attributes := #[] }, { accessFlags := 25, nameIndex := 121, descriptorIndex := 25, attributes := #[] }, { accessFlags := 25, nameIndex := 131, descriptorIndex := 25, attributes := #[] }, { accessFlags := 25, nameIndex := 137, descriptorIndex := 25, attributes := #[] }, { accessFlags := 25, nameIndex := 143, descriptorIndex := 25, attributes := #[] }, { accessFlags := 25, nameIndex := 53, descriptorIndex := 25, attributes := #[] }, { accessFlags := 25, nameIndex := 24, descriptorIndex := 25, attributes := #[] }, { accessFlags := 25, nameIndex := 162, descriptorIndex := 25, attributes := #[] }, { accessFlags := 25, nameIndex := 187, descriptorIndex := 25, attributes := #[] }, { accessFlags := 26, nameIndex := 48, descriptorIndex := 25, attributes := #[] }, { accessFlags := 25, nameIndex := 277, descriptorIndex := 25, attributes := #[] }, { accessFlags := 25, nameIndex := 280, descriptorIndex := 25, attributes := #[] }, { accessFlags := 25, nameIndex := 282, descriptorIndex := 25, attributes := #[] }, { accessFlags := 25, nameIndex := 284, descriptorIndex := 25, attributes := #[] }, { accessFlags := 25, nameIndex := 286, descriptorIndex := 25, attributes := #[] }, { accessFlags := 25, nameIndex := 288, descriptorIndex := 25, attributes := #[] }, { accessFlags := 25, nameIndex := 290, descriptorIndex := 25, attributes := #[] }, { accessFlags := 25, nameIndex := 292, descriptorIndex := 25, attributes := #[] }, { accessFlags := 26, nameIndex := 108, descriptorIndex := 109, attributes := #[] }, { accessFlags := 25, nameIndex := 294, descriptorIndex := 25, attributes := #[] }])
  fields := #[{ name := "U", type := (.object "jdk/internal/misc/Unsafe"), accessFlags := 24, slot := 0, constantValue := 0 }, { name := "BIG_ENDIAN", type := .boolean, accessFlags := 26, slot := 1, constantValue := 0 }, { name := "LOG2_ARRAY_BOOLEAN_INDEX_SCALE", type := .int, accessFlags := 25, slot := 2, constantValue := 0 }, { name := "LOG2_ARRAY_BYTE_INDEX_SCALE", type := .int, accessFlags := 25, slot := 3, constantValue := 0 }, { name := "LOG2_ARRAY_CHAR_INDEX_SCALE", type := .int, accessFlags := 25, slot := 4, constantValue := 0 }, { name := "LOG2_ARRAY_SHORT_INDEX_SCALE", type := .int, accessFlags := 25, slot := 5, constantValue := 0 }, { name := "LOG2_ARRAY_INT_INDEX_SCALE", type := .int, accessFlags := 25, slot := 6, constantValue := 0 }, { name := "LOG2_ARRAY_LONG_INDEX_SCALE", type := .int, accessFlags := 25, slot := 7, constantValue := 0 }, { name := "LOG2_ARRAY_FLOAT_INDEX_SCALE", type := .int, accessFlags := 25, slot := 8, constantValue := 0 }, { name := "LOG2_ARRAY_DOUBLE_INDEX_SCALE", type := .int, accessFlags := 25, slot := 9, constantValue := 0 }, { name := "LOG2_BYTE_BIT_SIZE", type := .int, accessFlags := 26, slot := 10, constantValue := 0 }, { name := "T_BOOLEAN", type := .int, accessFlags := 25, slot := 11, constantValue := 0 }, { name := "T_CHAR", type := .int, accessFlags := 25, slot := 12, constantValue := 0 }, { name := "T_FLOAT", type := .int, accessFlags := 25, slot := 13, constantValue := 0 }, { name := "T_DOUBLE", type := .int, accessFlags := 25, slot := 14, constantValue := 0 }, { name := "T_BYTE", type := .int, accessFlags := 25, slot := 15, constantValue := 0 }, { name := "T_SHORT", type := .int, accessFlags := 25, slot := 16, constantValue := 0 }, { name := "T_INT", type := .int, accessFlags := 25, slot := 17, constantValue := 0 }, { name := "T_LONG", type := .int, accessFlags := 25, slot := 18, constantValue := 0 }, { name := "JLA", type := (.object "jdk/internal/access/JavaLangAccess"), accessFlags := 26, slot := 19, constantValue := 0 }, { name := "SOFT_MAX_ARRAY_LENGTH", type := .int, accessFlags := 25, slot := 20, constantValue := 0 }]
  methods := #[k18m0]
  instanceTypes := #[]
  staticTypes := #[(.object "jdk/internal/misc/Unsafe"), .boolean, .int, .int, .int, .int, .int, .int, .int, .int, .int, .int, .int, .int, .int, .int, .int, .int, .int, (.object "jdk/internal/access/JavaLangAccess"), .int]
  resolved := Array.replicate 378 none
  statics := none }

def pool19 : Array CpInfo := pool [(1, u "java/lang/Cloneable"), (0, .class_ 1), (0, u "java/lang/Object"), (0, .class_ 3)] 3

/-- java/lang/Cloneable -/
def k19 : Class := { plain "java/lang/Cloneable" (some 0) with
  accessFlags := 1537
  interfaces := #[]
  cf := some (fileOf pool19 2 #[] #[] 1537 4 #[] #[])
  fields := #[]
  methods := #[]
  instanceTypes := #[]
  staticTypes := #[]
  resolved := Array.replicate 8 none
  statics := none }

/-- the primitive byte -/
def k20 : Class := { plain "byte" none with kind := .primitive 'B', accessFlags := 0x411 }
/-- [B -/
def k21 : Class := { plain "[B" (some 0) with kind := .array 20 .byte, interfaces := #[19, 2], accessFlags := 1041 }

/-- the primitive int -/
def k22 : Class := { plain "int" none with kind := .primitive 'I', accessFlags := 0x411 }
/-- [I -/
def k23 : Class := { plain "[I" (some 0) with kind := .array 22 .int, interfaces := #[19, 2], accessFlags := 1041 }

def heap : Heap := #[{ cls := 7, slots := #[.long 0, .int 1, .null, .int 0, .null, .int 0, .int 0], vm := .statics 7 },
  { cls := 17, slots := #[.null, .null, .null], vm := .statics 17 }]
def classes : Array Class := #[k0, k1, k2, k3, k4, k5, k6, k7, k8, k9, k10, k11, k12, k13, k14, k15, k16, k17, k18, k19, k20, k21, k22, k23]
def interned : List (Array UInt16 × Addr) := []
def slotsUsed : Nat := 10
def theMethod : MethodId := ⟨1, 1⟩
def args0 : Array Value := #[.int 4276803, .long 6, .long 7, .int 1]
def aboutOver (below : List Frame) : State where
  vm := { classes := classes, interned := interned.toArray }
  heap := heap
  slotsUsed := slotsUsed
  threads := #[{ frames := .invoking theMethod args0 :: below }]
def below0 : List Frame := [.native { method := ⟨0, 0⟩, args := #[] }]
def about1 : State := aboutOver below0
def p0 : Program := .bare "" "" ""
def e0 : Env := launch0.env 0 0 0
theorem w_frames : about1.frames = Frame.invoking theMethod args0 :: below0 := rfl
set_option maxRecDepth 65536 in
theorem w_args : argsFit about1.vm theMethod args0 = true := by decide +kernel
set_option maxRecDepth 65536 in
theorem w_heap : heapFits about1 = true := by decide +kernel
set_option maxRecDepth 65536 in
theorem w_runnable : about1.curStatus? = some .runnable := by decide +kernel
set_option maxRecDepth 65536 in
theorem w_alone : about1.alone = true := by decide +kernel
set_option maxRecDepth 65536 in
theorem w_named : about1.methodNamed? x = some theMethod := by decide +kernel
set_option maxRecDepth 65536 in
theorem w_hears : about1.hears theMethod below0 = true := by decide +kernel
set_option maxRecDepth 65536 in
theorem w_ripe : about1.ripe theMethod args0 below0 = true := by decide +kernel
theorem w_running : about1.status = .running := rfl
set_option maxRecDepth 65536 in
theorem w_room : about1.hasRoom e0.platform room_1 = true :=
  launch0.hasRoom_least _ room_1 (by decide +kernel) (by decide +kernel) (by decide +kernel) (by decide +kernel) (by decide +kernel) (by decide +kernel)
theorem allAtoms_all (ts : List Jvm.Cond) (a : Array Jvm.Value) (st : Jvm.State) : (allAtoms ts).before a st = ts.all (fun c => c.before a st) := by
  induction ts with
  | nil => rfl
  | cons c t ih =>
    show (Jvm.Cond.and c (allAtoms t)).before a st = _
    rw [Jvm.Cond.before_and, ih, List.all_cons]
def words1 : List Jvm.Cond := Jvm.Cond.code x code maxLocals ret :: tables_1
/-- a 'code' word, met by the world's own term for the bytes: nothing is compared byte by byte -/
theorem code_word {y : MethodName} {bytes : ByteArray} {mx : Nat} {rt : Option FieldType} {a : Array Value} {s : State} {m : MethodId} {meth : Method} {c : Code} (h1 : s.methodNamed? y = some m) (h2 : s.vm.method? m = some meth) (h3 : meth.code = some c) (h4 : c.code = bytes)
    (h5 : (c.maxLocals == mx && c.exceptionTable.isEmpty && decide (c.maxStack ≤ mostOperands) && decide (meth.sig.returnType = rt) && !meth.locks && decide (parseMethodDescriptor y.desc = some meth.sig)) = true) : (Jvm.Cond.code y bytes mx rt).before a s = true := by
  simp only [Bool.and_eq_true, beq_iff_eq, Bool.not_eq_true', decide_eq_true_eq] at h5
  obtain ⟨⟨⟨⟨⟨g1, g2⟩, g3⟩, g4⟩, g5⟩, g6⟩ := h5
  simp [Cond.before, Cond.holds, Cond.value, h1, h2, h3, h4, g1, g2, g3, g4, g5, g6]
def isCode : Jvm.Cond → Bool
  | .code _ _ _ _ => true
  | _ => false
theorem all_split {L : List Jvm.Cond} {P : Jvm.Cond → Bool} (h1 : L.all (fun c => isCode c || P c) = true) (h2 : ∀ c ∈ L.filter isCode, P c = true) : L.all P = true := by
  refine List.all_eq_true.mpr fun c hc => ?_
  have h := List.all_eq_true.mp h1 c hc
  rcases Bool.eq_false_or_eq_true (isCode c) with hi | hi
  · exact h2 c (List.mem_filter.mpr ⟨hc, hi⟩)
  · simpa [hi] using h
set_option maxRecDepth 65536 in
theorem w_c0 : (Jvm.Cond.code x code maxLocals ret).before args0 about1 = true := code_word (m := ⟨1, 1⟩) (meth := k1m1) (c := k1c1) (by decide +kernel) rfl rfl rfl (by decide +kernel)
set_option maxRecDepth 65536 in
theorem w_c1 : (Jvm.Cond.code ({ cls := "java/lang/String", name := "valueOf", desc := "(C)Ljava/lang/String;" } : Jvm.MethodName) jdk_42_method_139_code (1 : Nat) (Option.some (Jvm.ClassFile.FieldType.object "java/lang/String"))).before args0 about1 = true := code_word (m := ⟨7, 2⟩) (meth := k7m2) (c := k7c2) (by decide +kernel) rfl rfl rfl (by decide +kernel)
set_option maxRecDepth 65536 in
theorem w_c2 : (Jvm.Cond.code ({ cls := "java/lang/StringLatin1", name := "canEncode", desc := "(C)Z" } : Jvm.MethodName) jdk_43_method_3_code (1 : Nat) (Option.some Jvm.ClassFile.FieldType.boolean)).before args0 about1 = true := code_word (m := ⟨8, 1⟩) (meth := k8m1) (c := k8c1) (by decide +kernel) rfl rfl rfl (by decide +kernel)
set_option maxRecDepth 65536 in
theorem w_c3 : (Jvm.Cond.code ({ cls := "java/lang/StringLatin1", name := "toBytes", desc := "(C)[B" } : Jvm.MethodName) jdk_43_method_46_code (1 : Nat) (Option.some (Jvm.ClassFile.FieldType.array Jvm.ClassFile.FieldType.byte))).before args0 about1 = true := code_word (m := ⟨8, 2⟩) (meth := k8m2) (c := k8c2) (by decide +kernel) rfl rfl rfl (by decide +kernel)
set_option maxRecDepth 65536 in
theorem w_c4 : (Jvm.Cond.code ({ cls := "java/lang/String", name := "<init>", desc := "([BB)V" } : Jvm.MethodName) jdk_42_method_151_code (3 : Nat) (Option.none : Option Jvm.ClassFile.FieldType)).before args0 about1 = true := code_word (m := ⟨7, 3⟩) (meth := k7m3) (c := k7c3) (by decide +kernel) rfl rfl rfl (by decide +kernel)
set_option maxRecDepth 65536 in
theorem w_c5 : (Jvm.Cond.code ({ cls := "java/lang/Object", name := "<init>", desc := "()V" } : Jvm.MethodName) object_method_1_code (1 : Nat) (Option.none : Option Jvm.ClassFile.FieldType)).before args0 about1 = true := code_word (m := ⟨0, 0⟩) (meth := k0m0) (c := k0c0) (by decide +kernel) rfl rfl rfl (by decide +kernel)
set_option maxRecDepth 65536 in
theorem w_c6 : (Jvm.Cond.code ({ cls := "com/example/onnce/onnce/store/Fingerprint", name := "<init>", desc := "(Ljava/lang/String;Ljava/lang/String;Ljava/lang/String;)V" } : Jvm.MethodName) prog_20_method_1_code (4 : Nat) (Option.none : Option Jvm.ClassFile.FieldType)).before args0 about1 = true := code_word (m := ⟨10, 0⟩) (meth := k10m0) (c := k10c0) (by decide +kernel) rfl rfl rfl (by decide +kernel)
set_option maxRecDepth 65536 in
theorem w_c7 : (Jvm.Cond.code ({ cls := "java/lang/Record", name := "<init>", desc := "()V" } : Jvm.MethodName) jdk_30_method_1_code (1 : Nat) (Option.none : Option Jvm.ClassFile.FieldType)).before args0 about1 = true := code_word (m := ⟨9, 0⟩) (meth := k9m0) (c := k9c0) (by decide +kernel) rfl rfl rfl (by decide +kernel)
set_option maxRecDepth 65536 in
theorem w_c8 : (Jvm.Cond.code ({ cls := "java/util/Objects", name := "requireNonNull", desc := "(Ljava/lang/Object;Ljava/lang/String;)Ljava/lang/Object;" } : Jvm.MethodName) jdk_31_method_11_code (2 : Nat) (Option.some (Jvm.ClassFile.FieldType.object "java/lang/Object"))).before args0 about1 = true := code_word (m := ⟨11, 1⟩) (meth := k11m1) (c := k11c1) (by decide +kernel) rfl rfl rfl (by decide +kernel)
set_option maxRecDepth 65536 in
theorem w_c9 : (Jvm.Cond.code ({ cls := "com/example/onnce/onnce/store/KeyRecord$Claimed", name := "<init>", desc := "(Lcom/example/onnce/onnce/store/Fingerprint;JJ)V" } : Jvm.MethodName) prog_22_method_1_code (6 : Nat) (Option.none : Option Jvm.ClassFile.FieldType)).before args0 about1 = true := code_word (m := ⟨13, 0⟩) (meth := k13m0) (c := k13c0) (by decide +kernel) rfl rfl rfl (by decide +kernel)
set_option maxRecDepth 65536 in
theorem w_c10 : (Jvm.Cond.code ({ cls := "com/example/onnce/onnce/store/KeyRecord$Claimed", name := "found", desc := "(Z)Lcom/example/onnce/onnce/store/Claim;" } : Jvm.MethodName) prog_22_method_3_code (2 : Nat) (Option.some (Jvm.ClassFile.FieldType.object "com/example/onnce/onnce/store/Claim"))).before args0 about1 = true := code_word (m := ⟨13, 1⟩) (meth := k13m1) (c := k13c1) (by decide +kernel) rfl rfl rfl (by decide +kernel)
set_option maxRecDepth 65536 in
theorem w_c11 : (Jvm.Cond.code ({ cls := "com/example/onnce/onnce/store/Claim$Outstanding", name := "<init>", desc := "(Lcom/example/onnce/onnce/store/Fingerprint;)V" } : Jvm.MethodName) prog_18_method_1_code (2 : Nat) (Option.none : Option Jvm.ClassFile.FieldType)).before args0 about1 = true := code_word (m := ⟨15, 0⟩) (meth := k15m0) (c := k15c0) (by decide +kernel) rfl rfl rfl (by decide +kernel)
set_option maxRecDepth 65536 in
theorem w_c12 : (Jvm.Cond.code ({ cls := "com/example/onnce/onnce/store/Claim$Outstanding", name := "fingerprint", desc := "()Lcom/example/onnce/onnce/store/Fingerprint;" } : Jvm.MethodName) prog_18_method_5_code (1 : Nat) (Option.some (Jvm.ClassFile.FieldType.object "com/example/onnce/onnce/store/Fingerprint"))).before args0 about1 = true := code_word (m := ⟨15, 1⟩) (meth := k15m1) (c := k15c1) (by decide +kernel) rfl rfl rfl (by decide +kernel)
set_option maxRecDepth 65536 in
theorem w_c13 : (Jvm.Cond.code ({ cls := "com/example/onnce/onnce/store/Fingerprint", name := "method", desc := "()Ljava/lang/String;" } : Jvm.MethodName) prog_20_method_6_code (1 : Nat) (Option.some (Jvm.ClassFile.FieldType.object "java/lang/String"))).before args0 about1 = true := code_word (m := ⟨10, 1⟩) (meth := k10m1) (c := k10c1) (by decide +kernel) rfl rfl rfl (by decide +kernel)
set_option maxRecDepth 65536 in
theorem w_c14 : (Jvm.Cond.code ({ cls := "java/lang/String", name := "equals", desc := "(Ljava/lang/Object;)Z" } : Jvm.MethodName) jdk_42_method_66_code (3 : Nat) (Option.some Jvm.ClassFile.FieldType.boolean)).before args0 about1 = true := code_word (m := ⟨7, 1⟩) (meth := k7m1) (c := k7c1) (by decide +kernel) rfl rfl rfl (by decide +kernel)
set_option maxRecDepth 65536 in
theorem w_c15 : (Jvm.Cond.code ({ cls := "com/example/onnce/onnce/store/Fingerprint", name := "target", desc := "()Ljava/lang/String;" } : Jvm.MethodName) prog_20_method_7_code (1 : Nat) (Option.some (Jvm.ClassFile.FieldType.object "java/lang/String"))).before args0 about1 = true := code_word (m := ⟨10, 2⟩) (meth := k10m2) (c := k10c2) (by decide +kernel) rfl rfl rfl (by decide +kernel)
set_option maxRecDepth 65536 in
theorem w_c16 : (Jvm.Cond.code ({ cls := "com/example/onnce/onnce/store/Fingerprint", name := "contentSha256", desc := "()Ljava/lang/String;" } : Jvm.MethodName) prog_20_method_8_code (1 : Nat) (Option.some (Jvm.ClassFile.FieldType.object "java/lang/String"))).before args0 about1 = true := code_word (m := ⟨10, 3⟩) (meth := k10m3) (c := k10c3) (by decide +kernel) rfl rfl rfl (by decide +kernel)
set_option maxRecDepth 65536 in
theorem w_c17 : (Jvm.Cond.code ({ cls := "com/example/onnce/onnce/store/KeyRecord$Claimed", name := "fingerprint", desc := "()Lcom/example/onnce/onnce/store/Fingerprint;" } : Jvm.MethodName) prog_22_method_7_code (1 : Nat) (Option.some (Jvm.ClassFile.FieldType.object "com/example/onnce/onnce/store/Fingerprint"))).before args0 about1 = true := code_word (m := ⟨13, 2⟩) (meth := k13m2) (c := k13c2) (by decide +kernel) rfl rfl rfl (by decide +kernel)
set_option maxRecDepth 65536 in
theorem w_c18 : (Jvm.Cond.code ({ cls := "com/example/onnce/onnce/store/KeyRecord$Claimed", name := "opening", desc := "()J" } : Jvm.MethodName) prog_22_method_8_code (1 : Nat) (Option.some Jvm.ClassFile.FieldType.long)).before args0 about1 = true := code_word (m := ⟨13, 3⟩) (meth := k13m3) (c := k13c3) (by decide +kernel) rfl rfl rfl (by decide +kernel)
set_option maxRecDepth 65536 in
theorem w_c19 : (Jvm.Cond.code ({ cls := "com/example/onnce/onnce/store/KeyRecord$Claimed", name := "leaseEnd", desc := "()J" } : Jvm.MethodName) prog_22_method_9_code (1 : Nat) (Option.some Jvm.ClassFile.FieldType.long)).before args0 about1 = true := code_word (m := ⟨13, 4⟩) (meth := k13m4) (c := k13c4) (by decide +kernel) rfl rfl rfl (by decide +kernel)
set_option maxRecDepth 65536 in
theorem w_c20 : (Jvm.Cond.code ({ cls := "com/example/onnce/onnce/store/Claim$Abandoned", name := "<init>", desc := "(Lcom/example/onnce/onnce/store/Fingerprint;)V" } : Jvm.MethodName) prog_15_method_1_code (2 : Nat) (Option.none : Option Jvm.ClassFile.FieldType)).before args0 about1 = true := code_word (m := ⟨16, 0⟩) (meth := k16m0) (c := k16c0) (by decide +kernel) rfl rfl rfl (by decide +kernel)
set_option maxRecDepth 65536 in
theorem w_c21 : (Jvm.Cond.code ({ cls := "com/example/onnce/onnce/store/Claim$Abandoned", name := "fingerprint", desc := "()Lcom/example/onnce/onnce/store/Fingerprint;" } : Jvm.MethodName) prog_15_method_5_code (1 : Nat) (Option.some (Jvm.ClassFile.FieldType.object "com/example/onnce/onnce/store/Fingerprint"))).before args0 about1 = true := code_word (m := ⟨16, 1⟩) (meth := k16m1) (c := k16c1) (by decide +kernel) rfl rfl rfl (by decide +kernel)
def codes1 : List Jvm.Cond := [Jvm.Cond.code x code maxLocals ret, Jvm.Cond.code ({ cls := "java/lang/String", name := "valueOf", desc := "(C)Ljava/lang/String;" } : Jvm.MethodName) jdk_42_method_139_code (1 : Nat) (Option.some (Jvm.ClassFile.FieldType.object "java/lang/String")), Jvm.Cond.code ({ cls := "java/lang/StringLatin1", name := "canEncode", desc := "(C)Z" } : Jvm.MethodName) jdk_43_method_3_code (1 : Nat) (Option.some Jvm.ClassFile.FieldType.boolean), Jvm.Cond.code ({ cls := "java/lang/StringLatin1", name := "toBytes", desc := "(C)[B" } : Jvm.MethodName) jdk_43_method_46_code (1 : Nat) (Option.some (Jvm.ClassFile.FieldType.array Jvm.ClassFile.FieldType.byte)), Jvm.Cond.code ({ cls := "java/lang/String", name := "<init>", desc := "([BB)V" } : Jvm.MethodName) jdk_42_method_151_code (3 : Nat) (Option.none : Option Jvm.ClassFile.FieldType), Jvm.Cond.code ({ cls := "java/lang/Object", name := "<init>", desc := "()V" } : Jvm.MethodName) object_method_1_code (1 : Nat) (Option.none : Option Jvm.ClassFile.FieldType), Jvm.Cond.code ({ cls := "com/example/onnce/onnce/store/Fingerprint", name := "<init>", desc := "(Ljava/lang/String;Ljava/lang/String;Ljava/lang/String;)V" } : Jvm.MethodName) prog_20_method_1_code (4 : Nat) (Option.none : Option Jvm.ClassFile.FieldType), Jvm.Cond.code ({ cls := "java/lang/Record", name := "<init>", desc := "()V" } : Jvm.MethodName) jdk_30_method_1_code (1 : Nat) (Option.none : Option Jvm.ClassFile.FieldType), Jvm.Cond.code ({ cls := "java/util/Objects", name := "requireNonNull", desc := "(Ljava/lang/Object;Ljava/lang/String;)Ljava/lang/Object;" } : Jvm.MethodName) jdk_31_method_11_code (2 : Nat) (Option.some (Jvm.ClassFile.FieldType.object "java/lang/Object")), Jvm.Cond.code ({ cls := "com/example/onnce/onnce/store/KeyRecord$Claimed", name := "<init>", desc := "(Lcom/example/onnce/onnce/store/Fingerprint;JJ)V" } : Jvm.MethodName) prog_22_method_1_code (6 : Nat) (Option.none : Option Jvm.ClassFile.FieldType), Jvm.Cond.code ({ cls := "com/example/onnce/onnce/store/KeyRecord$Claimed", name := "found", desc := "(Z)Lcom/example/onnce/onnce/store/Claim;" } : Jvm.MethodName) prog_22_method_3_code (2 : Nat) (Option.some (Jvm.ClassFile.FieldType.object "com/example/onnce/onnce/store/Claim")), Jvm.Cond.code ({ cls := "com/example/onnce/onnce/store/Claim$Outstanding", name := "<init>", desc := "(Lcom/example/onnce/onnce/store/Fingerprint;)V" } : Jvm.MethodName) prog_18_method_1_code (2 : Nat) (Option.none : Option Jvm.ClassFile.FieldType), Jvm.Cond.code ({ cls := "com/example/onnce/onnce/store/Claim$Outstanding", name := "fingerprint", desc := "()Lcom/example/onnce/onnce/store/Fingerprint;" } : Jvm.MethodName) prog_18_method_5_code (1 : Nat) (Option.some (Jvm.ClassFile.FieldType.object "com/example/onnce/onnce/store/Fingerprint")), Jvm.Cond.code ({ cls := "com/example/onnce/onnce/store/Fingerprint", name := "method", desc := "()Ljava/lang/String;" } : Jvm.MethodName) prog_20_method_6_code (1 : Nat) (Option.some (Jvm.ClassFile.FieldType.object "java/lang/String")), Jvm.Cond.code ({ cls := "java/lang/String", name := "equals", desc := "(Ljava/lang/Object;)Z" } : Jvm.MethodName) jdk_42_method_66_code (3 : Nat) (Option.some Jvm.ClassFile.FieldType.boolean), Jvm.Cond.code ({ cls := "com/example/onnce/onnce/store/Fingerprint", name := "target", desc := "()Ljava/lang/String;" } : Jvm.MethodName) prog_20_method_7_code (1 : Nat) (Option.some (Jvm.ClassFile.FieldType.object "java/lang/String")), Jvm.Cond.code ({ cls := "com/example/onnce/onnce/store/Fingerprint", name := "contentSha256", desc := "()Ljava/lang/String;" } : Jvm.MethodName) prog_20_method_8_code (1 : Nat) (Option.some (Jvm.ClassFile.FieldType.object "java/lang/String")), Jvm.Cond.code ({ cls := "com/example/onnce/onnce/store/KeyRecord$Claimed", name := "fingerprint", desc := "()Lcom/example/onnce/onnce/store/Fingerprint;" } : Jvm.MethodName) prog_22_method_7_code (1 : Nat) (Option.some (Jvm.ClassFile.FieldType.object "com/example/onnce/onnce/store/Fingerprint")), Jvm.Cond.code ({ cls := "com/example/onnce/onnce/store/KeyRecord$Claimed", name := "opening", desc := "()J" } : Jvm.MethodName) prog_22_method_8_code (1 : Nat) (Option.some Jvm.ClassFile.FieldType.long), Jvm.Cond.code ({ cls := "com/example/onnce/onnce/store/KeyRecord$Claimed", name := "leaseEnd", desc := "()J" } : Jvm.MethodName) prog_22_method_9_code (1 : Nat) (Option.some Jvm.ClassFile.FieldType.long), Jvm.Cond.code ({ cls := "com/example/onnce/onnce/store/Claim$Abandoned", name := "<init>", desc := "(Lcom/example/onnce/onnce/store/Fingerprint;)V" } : Jvm.MethodName) prog_15_method_1_code (2 : Nat) (Option.none : Option Jvm.ClassFile.FieldType), Jvm.Cond.code ({ cls := "com/example/onnce/onnce/store/Claim$Abandoned", name := "fingerprint", desc := "()Lcom/example/onnce/onnce/store/Fingerprint;" } : Jvm.MethodName) prog_15_method_5_code (1 : Nat) (Option.some (Jvm.ClassFile.FieldType.object "com/example/onnce/onnce/store/Fingerprint"))]
set_option maxRecDepth 65536 in
theorem codes_eq : words1.filter isCode = codes1 := rfl
theorem w_codes : ∀ c ∈ words1.filter isCode, c.before args0 about1 = true := by
  rw [codes_eq]
  intro c hc
  simp only [codes1, List.mem_cons, List.not_mem_nil, or_false] at hc
  rcases hc with rfl | rfl | rfl | rfl | rfl | rfl | rfl | rfl | rfl | rfl | rfl | rfl | rfl | rfl | rfl | rfl | rfl | rfl | rfl | rfl | rfl | rfl
  · exact w_c0
  · exact w_c1
  · exact w_c2
  · exact w_c3
  · exact w_c4
  · exact w_c5
  · exact w_c6
  · exact w_c7
  · exact w_c8
  · exact w_c9
  · exact w_c10
  · exact w_c11
  · exact w_c12
  · exact w_c13
  · exact w_c14
  · exact w_c15
  · exact w_c16
  · exact w_c17
  · exact w_c18
  · exact w_c19
  · exact w_c20
  · exact w_c21
set_option maxRecDepth 65536 in
theorem w_t1 : (words1.take 24).all (fun c => isCode c || c.before args0 about1) = true := by decide +kernel
set_option maxRecDepth 65536 in
theorem w_t2 : ((words1.drop 24).take 24).all (fun c => isCode c || c.before args0 about1) = true := by decide +kernel
set_option maxRecDepth 65536 in
theorem w_t3 : (((words1.drop 24).drop 24).take 24).all (fun c => isCode c || c.before args0 about1) = true := by decide +kernel
set_option maxRecDepth 65536 in
theorem w_t4 : ((((words1.drop 24).drop 24).drop 24).take 24).all (fun c => isCode c || c.before args0 about1) = true := by decide +kernel
set_option maxRecDepth 65536 in
theorem w_t5 : (((((words1.drop 24).drop 24).drop 24).drop 24).take 24).all (fun c => isCode c || c.before args0 about1) = true := by decide +kernel
set_option maxRecDepth 65536 in
theorem w_t6 : ((((((words1.drop 24).drop 24).drop 24).drop 24).drop 24).take 24).all (fun c => isCode c || c.before args0 about1) = true := by decide +kernel
set_option maxRecDepth 65536 in
theorem w_t7 : ((((((words1.drop 24).drop 24).drop 24).drop 24).drop 24).drop 24).all (fun c => isCode c || c.before args0 about1) = true := by decide +kernel
theorem w_tables : (allAtoms (Jvm.Cond.code x code maxLocals ret :: tables_1)).before args0 about1 = true := by
  rw [allAtoms_all]
  show words1.all (fun c => c.before args0 about1) = true
  refine all_split ?_ w_codes
  rw [← List.take_append_drop 24 words1, List.all_append, w_t1, ← List.take_append_drop 24 (words1.drop 24), List.all_append, w_t2, ← List.take_append_drop 24 ((words1.drop 24).drop 24), List.all_append, w_t3, ← List.take_append_drop 24 (((words1.drop 24).drop 24).drop 24), List.all_append, w_t4, ← List.take_append_drop 24 ((((words1.drop 24).drop 24).drop 24).drop 24), List.all_append, w_t5, ← List.take_append_drop 24 (((((words1.drop 24).drop 24).drop 24).drop 24).drop 24), List.all_append, w_t6, w_t7]
  rfl
set_option maxRecDepth 65536 in
theorem w_rest : rest_1_c.before args0 about1 = true := by decide +kernel
set_option maxRecDepth 65536 in
theorem w_case : (Jvm.Cond.and given_1 narrow_1).before args0 about1 = true := by decide +kernel
theorem w_applies : (headSpec (Jvm.Cond.code x code maxLocals ret :: tables_1) room_1).applies x e0.platform about1 = true :=
  (Spec.applies_iff w_frames).mpr ⟨w_running, w_runnable, w_alone, w_named, w_hears, w_ripe, w_room, w_tables⟩
theorem atStart : AtStart classFile x code maxLocals ret World_1 tables_1 room_1 Calls_1 rest_1 Pre_1 launch0 p0 e0 about1 theMethod args0 below0 :=
  ⟨lists_1, trivial, launch0.admits_env _ _ _, launch0.least_env, fairChoices_fair.cas, fairChoices_fair.clock, w_frames, w_args, w_heap, w_applies, trivial, w_rest, w_case⟩
end start1
theorem witness_1 : WitnessClaimed_1 := ⟨start1.p0, start1.e0, start1.about1, start1.theMethod, start1.args0, start1.below0, start1.atStart⟩
end Jvm.Pilot.@@N@@
