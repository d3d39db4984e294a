import JvmDerived
import JvmDerived.Pilot.@@N@@Statement
import JvmDerived.Pilot.@@N@@Code
set_option linter.unusedVariables false
set_option linter.unusedSimpArgs false
namespace Jvm.Pilot.@@N@@
open Jvm Jvm.ClassFile Sem Op Lib Jvm.Free Jvm.Stand Jvm.LawKit Jvm.RoadKit Bundle Jvm.Pilot.@@N@@.Jvm.D
/-! OwnW: the walk as a fact: from s0 it has come to pc with locals L, stack S, heap h; kc cells and ks slots made; written only cells at or above n0. -/
section OwnKit
variable {p : Program} {l : Launch} {e : Env} {R : Room} {s : State} {m : MethodId} {args : Array Value} {below : List Frame} {meth : Method} {c : Code} {s0 : State} {n0 pc pc' : Nat} {L L' : Array Slot} {S S' : List Value} {h h' : Heap} {kc ks : Nat} {Z : State} {a0 : Array Value}
def OwnW {p : Program} {l : Launch} {e : Env} {R : Room} {s : State} {m : MethodId} {args : Array Value} {below : List Frame} {meth : Method} {c : Code} (s0 : State) (n0 pc : Nat) (L : Array Slot) (S : List Value) (h : Heap) (kc ks : Nat) : Prop :=
  ∃ (T : State) (locs : List Loc), Stand p l e R s m args below meth c T locs kc ks ∧ T.heap = h ∧ Fr n0 locs ∧ Steps p.tables e below s0 (T.setTop (mkF m pc L S))
def OwnEnd {p : Program} {l : Launch} {e : Env} {R : Room} {s : State} {m : MethodId} {args : Array Value} {below : List Frame} {meth : Method} {c : Code} (s0 : State) (n0 : Nat) (v : Option Value) (h : Heap) (kc ks : Nat) : Prop :=
  ∃ (T : State) (locs : List Loc), Stand p l e R s m args below meth c T locs kc ks ∧ T.heap = h ∧ Fr n0 locs ∧ (meth.sig.returnType = none → v = none) ∧ ∀ fs : List Frame, (∀ (f : JFrame) (acts : List Action), f.method = m → f.locked = none → f.entered = [] → (doReturn e (T.setTop f) acts v).1 = T.setFrames fs) → Steps p.tables e below s0 (T.setFrames fs)
/-- a callee's contract: with the arguments A on the heap h0 it returns v and leaves h' with Q v h' -/
def OwnCon (l : Launch) (Z : State) (y : MethodName) (bytes : ByteArray) (maxL : Nat) (ret : Option FieldType) (rm : Room) (A : Array Value) (h0 : Heap) (n0 : Nat) (Q : Option Value → Heap → Prop) : Prop :=
  ∀ ws : List Jvm.Cond, MetFree l y (head1 (Jvm.Cond.code y bytes maxL ret :: ws) rm) (fun a U => a = A ∧ Z.Warmed39 U.vm ∧ U.heap = h0) (fun _ _ _ _ _ => True) (fun _ U o U' => ∃ v L, o = .returned v ∧ (Fr n0 L ∧ Q v U'.heap) ∧ FrameEnd U o U' L rm.cells rm.slots)
theorem OwnW.go (r : OwnW (p := p) (l := l) (e := e) (R := R) (s := s) (m := m) (args := args) (below := below) (meth := meth) (c := c) s0 n0 pc L S h kc ks)
    (f : ∀ (T t : State), At T m c below → Steps p.tables e below (T.setTop (mkF m pc' L' S')) t → Steps p.tables e below (T.setTop (mkF m pc L S)) t) :
    OwnW (p := p) (l := l) (e := e) (R := R) (s := s) (m := m) (args := args) (below := below) (meth := meth) (c := c) s0 n0 pc' L' S' h kc ks := by
  obtain ⟨T, ls, X, eT, N, st⟩ := r
  exact ⟨T, ls, X, eT, N, st.trans (f T _ X.here (Steps.refl _))⟩
theorem OwnW.goX (r : OwnW (p := p) (l := l) (e := e) (R := R) (s := s) (m := m) (args := args) (below := below) (meth := meth) (c := c) s0 n0 pc L S h kc ks)
    (f : ∀ (T t : State) (ls : List Loc), Stand p l e R s m args below meth c T ls kc ks → T.heap = h → Steps p.tables e below (T.setTop (mkF m pc' L' S')) t → Steps p.tables e below (T.setTop (mkF m pc L S)) t) :
    OwnW (p := p) (l := l) (e := e) (R := R) (s := s) (m := m) (args := args) (below := below) (meth := meth) (c := c) s0 n0 pc' L' S' h kc ks := by
  obtain ⟨T, ls, X, eT, N, st⟩ := r
  exact ⟨T, ls, X, eT, N, st.trans (f T _ ls X eT (Steps.refl _))⟩
theorem OwnW.goT (r : OwnW (p := p) (l := l) (e := e) (R := R) (s := s) (m := m) (args := args) (below := below) (meth := meth) (c := c) s0 n0 pc L S h kc ks)
    (f : ∀ (T : State) (ls : List Loc), Stand p l e R s m args below meth c T ls kc ks → T.heap = h → ∃ T', Stand p l e R s m args below meth c T' ls kc ks ∧ T'.heap = h ∧ ∀ t, Steps p.tables e below (T'.setTop (mkF m pc' L' S')) t → Steps p.tables e below (T.setTop (mkF m pc L S)) t) :
    OwnW (p := p) (l := l) (e := e) (R := R) (s := s) (m := m) (args := args) (below := below) (meth := meth) (c := c) s0 n0 pc' L' S' h kc ks := by
  obtain ⟨T, ls, X, eT, N, st⟩ := r
  obtain ⟨T', X', eT', st'⟩ := f T ls X eT
  exact ⟨T', ls, X', eT', N, st.trans (st' _ (Steps.refl _))⟩
/-- the same walk, written otherwise -/
theorem OwnW.to (r : OwnW (p := p) (l := l) (e := e) (R := R) (s := s) (m := m) (args := args) (below := below) (meth := meth) (c := c) s0 n0 pc L S h kc ks) (h1 : pc = pc') (h2 : L = L') (h3 : S = S') (h4 : h = h') :
    OwnW (p := p) (l := l) (e := e) (R := R) (s := s) (m := m) (args := args) (below := below) (meth := meth) (c := c) s0 n0 pc' L' S' h' kc ks := by
  subst h1 h2 h3 h4; exact r
theorem OwnW.newO (r : OwnW (p := p) (l := l) (e := e) (R := R) (s := s) (m := m) (args := args) (below := below) (meth := meth) (c := c) s0 n0 pc L S h kc ks)
    (hx : p.tables.exec = Jvm.exec) (hZ : Z.Warmed39 s.vm) {own C : String} {index n : Nat} (hown : s.vm.findClass own = some m.cls) (w : (Jvm.Cond.classLink own index C).before a0 Z = true) (wi : (Jvm.Cond.instantiable C n).before a0 Z = true) (wz : (Jvm.Cond.initialized C).before a0 Z = true)
    (hd : decode c.code pc = .ok (.new index, 3)) (hc : kc + 1 ≤ R.cells) (hl : ks + n ≤ R.slots) :
    ∃ h', OwnW (p := p) (l := l) (e := e) (R := R) (s := s) (m := m) (args := args) (below := below) (meth := meth) (c := c) s0 n0 (pc + 3) L (.ref h.size :: S) h' (kc + 1) (ks + n) ∧ Ext h h' ∧ Exa Z h' h.size C ∧ (∀ {O nm d : String} {ty : FieldType}, Laid Z a0 C O nm d → parseFieldDescriptor d = some ty → Fld Z h' h.size O nm d (defaultValue ty)) := by
  obtain ⟨T, ls, X, eT, N, st⟩ := r
  obtain ⟨T', h', X', e', E, A, D, -, st'⟩ := Jvm.RoadKit.newO X hx hZ hown w wi wz eT (g := mkF m pc L S) rfl hd hc hl
  exact ⟨h', ⟨T', ls, X', e', N, st.trans (st' _ (Steps.refl _))⟩, E, A, D⟩
theorem OwnW.newP (r : OwnW (p := p) (l := l) (e := e) (R := R) (s := s) (m := m) (args := args) (below := below) (meth := meth) (c := c) s0 n0 pc L S h kc ks)
    (hx : p.tables.exec = Jvm.exec) (hZ : Z.Warmed39 s.vm) {aty : ArrayType} (w : (Jvm.Cond.arrayClass (newarray.typeOf aty)).before a0 Z = true) (hd : decode c.code pc = .ok (.newarray aty, 2)) {n : Int32} {rest : List Value} (hs : S = .int n :: rest)
    (hn : ¬ n < 0) {cap : Nat} (hcap : n.toNatClampNeg ≤ cap) (hb : cap * 8 ≤ 536870912) (hc : kc + 1 ≤ R.cells) (hl : ks + cap ≤ R.slots) :
    ∃ h' cA, OwnW (p := p) (l := l) (e := e) (R := R) (s := s) (m := m) (args := args) (below := below) (meth := meth) (c := c) s0 n0 (pc + 2) L (.ref h.size :: rest) h' (kc + 1) (ks + cap) ∧ Ext h h' ∧ Arr Z h' h.size (newA cA (newarray.typeOf aty) n) (newarray.typeOf aty) := by
  obtain ⟨T, ls, X, eT, N, st⟩ := r
  obtain ⟨T', h', cA, X', e', E, A, st'⟩ := Jvm.RoadKit.newP X hx hZ w eT (g := mkF m pc L S) rfl hd hs hn hcap hb hc hl
  exact ⟨h', cA, ⟨T', ls, X', e', N, st.trans (st' _ (Steps.refl _))⟩, E, A⟩
theorem OwnW.getF (r : OwnW (p := p) (l := l) (e := e) (R := R) (s := s) (m := m) (args := args) (below := below) (meth := meth) (c := c) s0 n0 pc L S h kc ks)
    (hx : p.tables.exec = Jvm.exec) (hZ : Z.Warmed39 s.vm) {own O n d : String} {index : Nat} (hown : s.vm.findClass own = some m.cls) (w : (Jvm.Cond.fieldLink own index O n d).before a0 Z = true) {a : Addr} {v : Value} (F : Fld Z h a O n d v)
    {rest : List Value} (hs : S = .ref a :: rest) (hd : decode c.code pc = .ok (.getfield index, 3)) :
    OwnW (p := p) (l := l) (e := e) (R := R) (s := s) (m := m) (args := args) (below := below) (meth := meth) (c := c) s0 n0 (pc + 3) L (v :: rest) h kc ks :=
  r.goT fun T ls X eT => Jvm.RoadKit.getF X hx hZ hown (host := "") (Or.inl w) Via.refl eT F (g := mkF m pc L S) rfl hs hd
theorem OwnW.getS (r : OwnW (p := p) (l := l) (e := e) (R := R) (s := s) (m := m) (args := args) (below := below) (meth := meth) (c := c) s0 n0 pc L S h kc ks)
    (hx : p.tables.exec = Jvm.exec) (hZ : Z.Warmed39 s.vm) {own O n d : String} {index : Nat} (hown : s.vm.findClass own = some m.cls) (w : (Jvm.Cond.fieldLink own index O n d).before a0 Z = true) {v : Value} (F : Sta Z h O n d v)
    (hd : decode c.code pc = .ok (.getstatic index, 3)) :
    OwnW (p := p) (l := l) (e := e) (R := R) (s := s) (m := m) (args := args) (below := below) (meth := meth) (c := c) s0 n0 (pc + 3) L (v :: S) h kc ks :=
  r.goT fun T ls X eT => Jvm.RoadKit.getS X hx hZ (host := "") hown w Via.refl eT F (g := mkF m pc L S) rfl hd
theorem OwnW.putF (r : OwnW (p := p) (l := l) (e := e) (R := R) (s := s) (m := m) (args := args) (below := below) (meth := meth) (c := c) s0 n0 pc L S h kc ks)
    (hx : p.tables.exec = Jvm.exec) (hZ : Z.Warmed39 s.vm) {own O n d C : String} {index kk : Nat} {ty : FieldType} (hown : s.vm.findClass own = some m.cls) (w : (Jvm.Cond.fieldLink own index O n d).before a0 Z = true) {a : Addr} {v old : Value} (F : Fld Z h a O n d old) (E : Exa Z h a C)
    (Lw : (Jvm.Cond.lays C O n d).before a0 Z = true ∨ ((Jvm.Cond.laysFinal C O n d).before a0 Z = true ∧ own = O ∧ meth.name = "<init>")) (wi : (Jvm.Cond.instantiable C kk).before a0 Z = true)
    (hty : parseFieldDescriptor d = some ty) (hn : narrow ty v = v) (hf : fits ty v = true) {rest : List Value} (hs : S = v :: .ref a :: rest) (hd : decode c.code pc = .ok (.putfield index, 3)) (g : n0 ≤ a) :
    ∃ h', OwnW (p := p) (l := l) (e := e) (R := R) (s := s) (m := m) (args := args) (below := below) (meth := meth) (c := c) s0 n0 (pc + 3) L rest h' kc ks ∧ Wr h h' a (Jvm.RoadKit.slotOf Z O n d) v := by
  obtain ⟨T, ls, X, eT, N, st⟩ := r
  obtain ⟨T', h', X', e', W', st'⟩ := Jvm.RoadKit.putF X hx hZ hown (host := "") (Or.inl w) Via.refl eT F E Lw wi hty hn hf (g := mkF m pc L S) rfl hs hd
  exact ⟨h', ⟨T', _, X', e', Fr.snoc X' N g, st.trans (st' _ (Steps.refl _))⟩, W'⟩
theorem OwnW.callS (r : OwnW (p := p) (l := l) (e := e) (R := R) (s := s) (m := m) (args := args) (below := below) (meth := meth) (c := c) s0 n0 pc L S h kc ks)
    (hx : p.tables.exec = Jvm.exec) (hZ : Z.Warmed39 s.vm) {own : String} {index : Nat} {y : MethodName} {bytes : ByteArray} {maxL : Nat} {ret : Option FieldType} {rm : Room} {Q : Option Value → Heap → Prop} (hown : s.vm.findClass own = some m.cls)
    (w1 : (Jvm.Cond.methodLink own index y).before a0 Z = true) (w2 : (Jvm.Cond.static y).before a0 Z = true) (w3 : (Jvm.Cond.initialized y.cls).before a0 Z = true) (w4 : (Jvm.Cond.code y bytes maxL ret).before a0 Z = true)
    (hy : y.cls ≠ "java/lang/invoke/MethodHandle" ∧ y.cls ≠ "java/lang/invoke/VarHandle") {argsL : List Value} (K : OwnCon l Z y bytes maxL ret rm argsL.toArray h n0 Q) (rest : List Value) (W : Nat)
    (hf : rm.frames + 1 ≤ R.frames) (hl : W + (maxL + 11) + rm.locals ≤ R.locals) (hsize : L.size = c.maxLocals) (hlen : ∀ sig, parseMethodDescriptor y.desc = some sig → argsL.length = sig.parameters.length)
    (hs : S = argsL.reverse ++ rest) (hW : (rest.map fun v => v.category).sum ≤ W) (hd : decode c.code pc = .ok (.invokestatic index, 3)) (hc : kc + rm.cells ≤ R.cells) (hsl : ks + rm.slots ≤ R.slots) :
    ∃ v h', OwnW (p := p) (l := l) (e := e) (R := R) (s := s) (m := m) (args := args) (below := below) (meth := meth) (c := c) s0 n0 (pc + 3) L (v.toList ++ rest) h' (kc + rm.cells) (ks + rm.slots) ∧ Q v h' := by
  obtain ⟨T, ls, X, eT, N, st⟩ := r
  obtain ⟨v, vm₁, ⟨T', L', k', n'⟩, -, X', ⟨Lc, hQ, l', y', z'⟩, st'⟩ := Jvm.LawKit.callS X hx (y := y) hown (mvT hZ w1) (mvT hZ w2) (mvT hZ w3) (mvT hZ w4) hy (backOf (W := W) (Q := fun v h L => Fr n0 L ∧ Q v h) (K []) hZ w4 w3 hf hl) (g := mkF m pc L S) rfl hsize (argsL := argsL) (rest := rest) hlen hs (by show 2 * 0 + _ ≤ _; omega) hd (fun _ _ => ⟨rfl, eT, hc, hsl⟩)
  dsimp only [Pt.U, Pt.locs, Pt.cells, Pt.slots] at X' l' y' z' st' hQ
  subst l' y' z'
  exact ⟨v, _, ⟨T', _, X', rfl, N.app hQ.1, st.trans (st' _ (Steps.refl _))⟩, hQ.2⟩
theorem OwnW.callN (r : OwnW (p := p) (l := l) (e := e) (R := R) (s := s) (m := m) (args := args) (below := below) (meth := meth) (c := c) s0 n0 pc L S h kc ks)
    (hx : p.tables.exec = Jvm.exec) (hZ : Z.Warmed39 s.vm) {own : String} {index : Nat} {y : MethodName} {bytes : ByteArray} {maxL : Nat} {rm : Room} {Q : Option Value → Heap → Prop} (hy1 : y.name = "<init>") (hown : s.vm.findClass own = some m.cls)
    (w1 : (Jvm.Cond.methodLink own index y).before a0 Z = true) (w2 : (Jvm.Cond.instanceMethod y).before a0 Z = true) (w3 : (Jvm.Cond.initialized y.cls).before a0 Z = true) (w4 : (Jvm.Cond.code y bytes maxL none).before a0 Z = true)
    (hy : y.cls ≠ "java/lang/invoke/MethodHandle" ∧ y.cls ≠ "java/lang/invoke/VarHandle") {a : Addr} {argsL : List Value} (K : OwnCon l Z y bytes maxL none rm (.ref a :: argsL).toArray h n0 Q) (rest : List Value) (W : Nat)
    (hf : rm.frames + 1 ≤ R.frames) (hl : W + (maxL + 11) + rm.locals ≤ R.locals) (hsize : L.size = c.maxLocals) (hlen : ∀ sig, parseMethodDescriptor y.desc = some sig → argsL.length = sig.parameters.length)
    (hs : S = argsL.reverse ++ .ref a :: rest) (hW : (rest.map fun v => v.category).sum ≤ W) (hd : decode c.code pc = .ok (.invokespecial index, 3)) (hc : kc + rm.cells ≤ R.cells) (hsl : ks + rm.slots ≤ R.slots) :
    ∃ v h', OwnW (p := p) (l := l) (e := e) (R := R) (s := s) (m := m) (args := args) (below := below) (meth := meth) (c := c) s0 n0 (pc + 3) L (v.toList ++ rest) h' (kc + rm.cells) (ks + rm.slots) ∧ Q v h' := by
  obtain ⟨T, ls, X, eT, N, st⟩ := r
  obtain ⟨v, vm₁, ⟨T', L', k', n'⟩, -, X', ⟨Lc, hQ, l', y', z'⟩, st'⟩ := X.specialBack hx (y := y) hy1 hown (mvT hZ w1) (mvT hZ w2) (mvT hZ w4) hy (backOf (W := W) (Q := fun v h L => Fr n0 L ∧ Q v h) (K []) hZ w4 w3 hf hl) (g := mkF m pc L S) rfl hsize st (a := a) (argsL := argsL) (rest := rest) hlen hs (by show 2 * 0 + _ ≤ _; omega) hd (fun _ _ => ⟨rfl, eT, hc, hsl⟩)
  dsimp only [Pt.U, Pt.locs, Pt.cells, Pt.slots] at X' l' y' z' st' hQ
  subst l' y' z'
  exact ⟨v, _, ⟨T', _, X', rfl, N.app hQ.1, st'⟩, hQ.2⟩
theorem OwnW.callV (r : OwnW (p := p) (l := l) (e := e) (R := R) (s := s) (m := m) (args := args) (below := below) (meth := meth) (c := c) s0 n0 pc L S h kc ks)
    (hx : p.tables.exec = Jvm.exec) (hZ : Z.Warmed39 s.vm) {own C : String} {index : Nat} {y z : MethodName} {bytes : ByteArray} {maxL : Nat} {ret : Option FieldType} {rm : Room} {Q : Option Value → Heap → Prop} (hown : s.vm.findClass own = some m.cls)
    (w1 : (Jvm.Cond.methodLink own index y).before a0 Z = true) (w2 : (Jvm.Cond.declares y).before a0 Z = true) (w3 : (Jvm.Cond.selects C y z).before a0 Z = true) (w3' : NotFace s y) (w5 : (Jvm.Cond.instanceMethod z).before a0 Z = true) (w6 : (Jvm.Cond.initialized z.cls).before a0 Z = true) (w4 : (Jvm.Cond.code z bytes maxL ret).before a0 Z = true)
    (hy : y.cls ≠ "java/lang/invoke/MethodHandle" ∧ y.cls ≠ "java/lang/invoke/VarHandle") {a : Addr} {argsL : List Value} (E : Exa Z h a C) (K : OwnCon l Z z bytes maxL ret rm (.ref a :: argsL).toArray h n0 Q) (rest : List Value) (W : Nat)
    (hf : rm.frames + 1 ≤ R.frames) (hl : W + (maxL + 11) + rm.locals ≤ R.locals) (hsize : L.size = c.maxLocals) (hlen : ∀ sig, parseMethodDescriptor y.desc = some sig → argsL.length = sig.parameters.length)
    (hs : S = argsL.reverse ++ .ref a :: rest) (hW : (rest.map fun v => v.category).sum ≤ W) (hd : decode c.code pc = .ok (.invokevirtual index, 3)) (hc : kc + rm.cells ≤ R.cells) (hsl : ks + rm.slots ≤ R.slots) :
    ∃ v h', OwnW (p := p) (l := l) (e := e) (R := R) (s := s) (m := m) (args := args) (below := below) (meth := meth) (c := c) s0 n0 (pc + 3) L (v.toList ++ rest) h' (kc + rm.cells) (ks + rm.slots) ∧ Q v h' := by
  obtain ⟨T, ls, X, eT, N, st⟩ := r
  obtain ⟨cq, kq, qa, qb, qc⟩ := isOf hZ eT E
  obtain ⟨v, vm₁, ⟨T', L', k', n'⟩, -, X', ⟨Lc, hQ, l', y', z'⟩, st'⟩ := X.virtualBack hx (y := y) (z := z) hown (mvT hZ w1) (mvT hZ w2) w3' (mvT hZ w3) (mvT hZ w5) hy (backOf (W := W) (Q := fun v h L => Fr n0 L ∧ Q v h) (K []) hZ w4 w6 hf hl) qa qc (g := mkF m pc L S) rfl hsize st (argsL := argsL) (rest := rest) hlen hs (by show 2 * 0 + _ ≤ _; omega) hd (fun _ _ => ⟨rfl, eT, hc, hsl⟩)
  dsimp only [Pt.U, Pt.locs, Pt.cells, Pt.slots] at X' l' y' z' st' hQ
  subst l' y' z'
  exact ⟨v, _, ⟨T', _, X', rfl, N.app hQ.1, st'⟩, hQ.2⟩
theorem OwnW.retN (r : OwnW (p := p) (l := l) (e := e) (R := R) (s := s) (m := m) (args := args) (below := below) (meth := meth) (c := c) s0 n0 pc L S h kc ks)
    (hx : p.tables.exec = Jvm.exec) {t : FieldType} (hret : meth.sig.returnType = some t) (ht : t = .boolean ∨ t = .byte ∨ t = .char ∨ t = .short) {z : Int32} {rest : List Value} (hs : S = .int z :: rest) (hd : decode c.code pc = .ok (.ireturn, 1)) :
    OwnEnd (p := p) (l := l) (e := e) (R := R) (s := s) (m := m) (args := args) (below := below) (meth := meth) (c := c) s0 n0 (some (.int (nar t z))) h kc ks := by
  subst hs
  obtain ⟨T, ls, X, eT, N, st⟩ := r
  exact ⟨T, ls, X, eT, N, (fun q => by rw [hret] at q; cases q), fun fs hl => st.trans (Jvm.RoadKit.retN X hx hret ht hd hl)⟩
theorem OwnW.retW (r : OwnW (p := p) (l := l) (e := e) (R := R) (s := s) (m := m) (args := args) (below := below) (meth := meth) (c := c) s0 n0 pc L S h kc ks)
    (hx : p.tables.exec = Jvm.exec) {t : FieldType} {w : Value} {i : Instr} (hret : meth.sig.returnType = some t) (hn : narrow t w = w) {rest : List Value} (hs : S = w :: rest)
    (hi : (i = .ireturn ∧ (t = .int ∨ t = .boolean ∨ t = .byte ∨ t = .char ∨ t = .short) ∧ ∃ z, w = .int z) ∨ (i = .lreturn ∧ t = .long ∧ ∃ z, w = .long z) ∨ (i = .dreturn ∧ t = .double ∧ ∃ z, w = .double z) ∨ (i = .freturn ∧ t = .float ∧ ∃ z, w = .float z) ∨ (i = .areturn ∧ t.isReference = true ∧ w.isRef = true))
    (hd : decode c.code pc = .ok (i, 1)) :
    OwnEnd (p := p) (l := l) (e := e) (R := R) (s := s) (m := m) (args := args) (below := below) (meth := meth) (c := c) s0 n0 (some w) h kc ks := by
  subst hs
  obtain ⟨T, ls, X, eT, N, st⟩ := r
  exact ⟨T, ls, X, eT, N, (fun q => by rw [hret] at q; cases q), fun fs hl => st.trans (Jvm.RoadKit.retOut X hx hret hn hi hd hl)⟩
theorem OwnW.retV (r : OwnW (p := p) (l := l) (e := e) (R := R) (s := s) (m := m) (args := args) (below := below) (meth := meth) (c := c) s0 n0 pc L [] h kc ks)
    (hx : p.tables.exec = Jvm.exec) (hret : meth.sig.returnType = none) (hd : decode c.code pc = .ok (.return_, 1)) :
    OwnEnd (p := p) (l := l) (e := e) (R := R) (s := s) (m := m) (args := args) (below := below) (meth := meth) (c := c) s0 n0 none h kc ks := by
  obtain ⟨T, ls, X, eT, N, st⟩ := r
  exact ⟨T, ls, X, eT, N, fun _ => rfl, fun fs hl => st.trans (X.returnOut hx hret hd hl)⟩
theorem OwnCon.of {y : MethodName} {bytes : ByteArray} {maxL : Nat} {ret : Option FieldType} {rm : Room} {A : Array Value} {h0 : Heap} {Q : Option Value → Heap → Prop} {L0 : Array Slot} (pn : plainName y.cls = true) (ef : ∀ m : MethodId, entryFrame m A maxL = mkF m 0 L0 [])
    (H : ∀ (p : Program) (e : Env) (s : State) (m : MethodId) (below : List Frame) (meth : Method) (c : Code) (s0 : State), p.tables.exec = Jvm.exec → c.code = bytes → c.maxLocals = maxL → s.vm.findClass y.cls = some m.cls → meth.name = y.name → meth.sig.returnType = ret → Z.Warmed39 s.vm →
      OwnW (p := p) (l := l) (e := e) (R := rm) (s := s) (m := m) (args := A) (below := below) (meth := meth) (c := c) s0 n0 0 L0 [] h0 0 0 →
      ∃ v h' k n, Q v h' ∧ k ≤ rm.cells ∧ n ≤ rm.slots ∧ OwnEnd (p := p) (l := l) (e := e) (R := rm) (s := s) (m := m) (args := A) (below := below) (meth := meth) (c := c) s0 n0 v h' k n) :
    OwnCon l Z y bytes maxL ret rm A h0 n0 Q := by
  intro ws
  refine MetFree.of_bodySF (plainFor_of_name pn) hisR ?_
  intro p e s m args below meth c s₁ Bd hml hP hK
  obtain ⟨rfl, hZ, hh⟩ := hP
  have X0 : Stand p l e rm s m args below meth c s₁ [] 0 0 := Stand.of_body Bd
  have e0 : s₁.heap = h0 := by rw [← hh, Bd.state]; rfl
  obtain ⟨v, h', k, n, hQ, hk, hn, T, ls, X, eT, N, hv, st⟩ := H p e s m below meth c (s₁.setTop (entryFrame m args maxL)) Bd.exec Bd.bytes hml (findClass_of_methodNamed Bd.named) (name_of_methodNamed Bd.named Bd.method).1 Bd.returns hZ
    ⟨s₁, [], X0, e0, Fr.nil n0, by rw [ef m]; exact Steps.refl _⟩
  obtain ⟨fs, hr, hrun, hended, hW, hsame⟩ := X.leave (v := v) hv
  exact ⟨_, _, st fs hr, hrun, hended, v, ls, rfl, ⟨N, by show Q v T.heap; rw [eT]; exact hQ⟩, ⟨_, rfl⟩, hW, hsame.mono hk hn⟩
end OwnKit
theorem own_pn0 : plainName "com/example/plainrate/plainrate/service/FlatRateLoanCalculator" = true := by first | (simp [plainName, overriddenIn]; done) | decide +kernel
theorem own_pn1 : plainName "com/example/plainrate/plainrate/service/FlatRateLoanCalculatorRequireTenurePinLaw" = true := by first | (simp [plainName, overriddenIn]; done) | decide +kernel
theorem own_pd0 : parseMethodDescriptor "(I)V" = some ⟨[.int], none⟩ := by decide +kernel
theorem own_d1_0 : decode prog_49_method_3_code 0 = .ok (.iload_n 0, 1) := by decide +kernel
theorem own_d1_1 : decode prog_49_method_3_code 1 = .ok (.iconst 1, 1) := by decide +kernel
theorem own_d1_2 : decode prog_49_method_3_code 2 = .ok (.if_icmp .ge 17, 3) := by decide +kernel
theorem own_d1_5 : decode prog_49_method_3_code 5 = .ok (.new 68, 3) := by decide +kernel
theorem own_d1_8 : decode prog_49_method_3_code 8 = .ok (.dup, 1) := by decide +kernel
theorem own_d1_9 : decode prog_49_method_3_code 9 = .ok (.iload_n 0, 1) := by decide +kernel
theorem own_d1_10 : decode prog_49_method_3_code 10 = .ok (.invokedynamic 70, 5) := by decide +kernel
theorem own_d1_15 : decode prog_49_method_3_code 15 = .ok (.invokespecial 74, 3) := by decide +kernel
theorem own_d1_18 : decode prog_49_method_3_code 18 = .ok (.athrow, 1) := by decide +kernel
theorem own_d1_19 : decode prog_49_method_3_code 19 = .ok (.return_, 1) := by decide +kernel
theorem own_ef_rt (m : MethodId) (a : Int32) : entryFrame m #[(.int a)] 1 = mkF m 0 #[.val (.int a)] [] := by first | (simp [entryFrame, mkF, argsToLocals, Value.category]; done) | rfl
set_option maxRecDepth 65536 in
set_option maxHeartbeats 40000000 in
theorem own_rt (l : Launch) (Z : State) (a0 : Array Value) (hw : ∀ d ∈ tables_1, d.before a0 Z = true) (a : Int32)  (h0 : Heap) (n0 : Nat) (ha : ¬ (a < (1 : Int32))) :
    OwnCon l Z (⟨"com/example/plainrate/plainrate/service/FlatRateLoanCalculator", "requireTenure", "(I)V"⟩ : MethodName) prog_49_method_3_code 1 none ({ frames := 0, cells := 0, slots := 0, locals := 0 } : Room) #[(.int a)] h0 n0 (fun v h => v = none ∧ h0 = h) := by
  refine OwnCon.of own_pn0 (fun m => own_ef_rt m a) ?_
  intro p e s m below meth c s0 hx hby hml hown hnm hret hZ r
  have r1 : OwnW s0 n0 1 #[.val (.int a)] [(.int a)] h0 0 0 := r.go fun T t X k => XS.iloadN X hx rfl (hb hby own_d1_0) rfl k
  have r2 : OwnW s0 n0 2 #[.val (.int a)] [(.int (1 : Int32)), (.int a)] h0 0 0 := r1.go fun T t X k => XS.iconst X hx rfl (hb hby own_d1_1) k
  have r3 : OwnW s0 n0 19 #[.val (.int a)] [] h0 0 0 := r2.go fun T t X k => XS.icmpYes X hx rfl (pc0 := 2) (pc' := 19) rfl (hb hby own_d1_2) rfl (flt ha).2.1 (by decide) (by decide) k
  have r4 := r3.retV hx hret (hb hby own_d1_19)
  exact ⟨_, _, 0, 0, ⟨rfl, rfl⟩, Nat.le_refl _, Nat.le_refl _, r4⟩
theorem own_pos (x : Int32) (h : ¬ (x &&& (2147483647 : Int32)) = (0 : Int32)) : ¬ ((x &&& (2147483647 : Int32)) < (1 : Int32)) := by
  have e := c_mask x (2147483647 : Int32) 31 (by decide) (by decide)
  intro q
  rw [Int32.lt_iff_toInt_lt] at q
  have e1 : (1 : Int32).toInt = 1 := by decide
  have : (x &&& (2147483647 : Int32)).toInt = (0 : Int32).toInt := by
    have e0 : (0 : Int32).toInt = 0 := by decide
    have : (0 : Int) ≤ x.toInt % ((2 ^ 31 : Nat) : Int) := Int.emod_nonneg _ (by decide)
    omega
  exact h (Int32.toInt_inj.mp this)
theorem own_ef_law (m : MethodId) (x0 : Int32) : entryFrame m #[(.int x0)] maxLocals = mkF m 0 #[.val (.int x0), .unset] [] := by first | (simp [entryFrame, mkF, argsToLocals, Value.category, maxLocals]; done) | rfl
set_option maxRecDepth 65536 in
set_option maxHeartbeats 40000000 in
theorem own_law (l : Launch) (Z : State) (a0 : Array Value) (hw : ∀ d ∈ tables_1, d.before a0 Z = true) (x0 : Int32)  (h0 : Heap) (n0 : Nat)  :
    OwnCon l Z x code maxLocals ret room_1 #[(.int x0)] h0 n0 (fun v h => v = some (.int 1)) := by
  refine OwnCon.of own_pn1 (fun m => own_ef_law m x0) ?_
  intro p e s m below meth c s0 hx hby hml hown hnm hret hZ r
  have hown : s.vm.findClass "com/example/plainrate/plainrate/service/FlatRateLoanCalculatorRequireTenurePinLaw" = some m.cls := hown
  have r1 : OwnW s0 n0 1 #[.val (.int x0), .unset] [(.int x0)] h0 0 0 := r.go fun T t X k => XS.iloadN X hx rfl (hb hby at_0) rfl k
  have r2 : OwnW s0 n0 3 #[.val (.int x0), .unset] [(.int (2147483647 : Int32)), (.int x0)] h0 0 0 := r1.goX fun T t ls X eT k => X.ldcI hx hown (mvT hZ (hw _ (List.mem_of_getElem? (i := 0) rfl))) rfl (hb hby at_1) k
  have r3 : OwnW s0 n0 4 #[.val (.int x0), .unset] [(.int (x0 &&& (2147483647 : Int32)))] h0 0 0 := r2.go fun T t X k => XS.iand X hx rfl (hb hby at_3) rfl k
  have r4 : OwnW s0 n0 5 #[.val (.int x0), .val (.int (x0 &&& (2147483647 : Int32)))] [] h0 0 0 := r3.go fun T t X k => XS.istoreN X hx rfl (hb hby at_4) rfl (l' := #[.val (.int x0), .val (.int (x0 &&& (2147483647 : Int32)))]) rfl k
  have r5 : OwnW s0 n0 6 #[.val (.int x0), .val (.int (x0 &&& (2147483647 : Int32)))] [(.int (x0 &&& (2147483647 : Int32)))] h0 0 0 := r4.go fun T t X k => XS.iloadN X hx rfl (hb hby at_5) rfl k
  obtain ⟨mo, hmo, r⟩ : ∃ mo : Int32, ¬ (mo < (1 : Int32)) ∧ OwnW (p := p) (l := l) (e := e) (R := room_1) (s := s) (m := m) (args := #[(.int x0)]) (below := below) (meth := meth) (c := c) s0 n0 11 #[.val (.int x0), .val (.int mo)] [] h0 0 0 := by
    by_cases hc : (x0 &&& (2147483647 : Int32)) = (0 : Int32)
    · have ra := r5
      have ra6 : OwnW s0 n0 9 #[.val (.int x0), .val (.int (x0 &&& (2147483647 : Int32)))] [] h0 0 0 := ra.go fun T t X k => XS.ifNo X hx rfl (hb hby at_6) rfl ((if0 _ _).trans (teq hc).2) k
      have ra7 : OwnW s0 n0 10 #[.val (.int x0), .val (.int (x0 &&& (2147483647 : Int32)))] [(.int (1 : Int32))] h0 0 0 := ra6.go fun T t X k => XS.iconst X hx rfl (hb hby at_9) k
      have ra8 : OwnW s0 n0 11 #[.val (.int x0), .val (.int (1 : Int32))] [] h0 0 0 := ra7.go fun T t X k => XS.istoreN X hx rfl (hb hby at_10) rfl (l' := #[.val (.int x0), .val (.int (1 : Int32))]) rfl k
      exact ⟨_, by decide, ra8⟩
    · have rb := r5
      have rb6 : OwnW s0 n0 11 #[.val (.int x0), .val (.int (x0 &&& (2147483647 : Int32)))] [] h0 0 0 := rb.go fun T t X k => XS.ifYes X hx rfl (pc0 := 6) (pc' := 11) rfl (hb hby at_6) rfl ((if0 _ _).trans (feq hc).2) (by decide) (by decide) k
      exact ⟨_, own_pos x0 hc, rb6⟩
  have r41 : OwnW s0 n0 12 #[.val (.int x0), .val (.int mo)] [(.int (1 : Int32))] h0 0 0 := r.go fun T t X k => XS.iconst X hx rfl (hb hby at_11) k
  obtain ⟨vr42, hr42, r42, qr42⟩ := r41.callS hx hZ hown (hw _ (List.mem_of_getElem? (i := 1) rfl)) (hw _ (List.mem_of_getElem? (i := 2) rfl)) (hw _ (List.mem_of_getElem? (i := 3) rfl)) (hw _ (List.mem_of_getElem? (i := 4) rfl)) (by decide) (argsL := [(.int (1 : Int32))]) (own_rt l Z a0 hw (1 : Int32) h0 n0 (by decide)) [] 0 (by decide) (by decide) (by rw [hml]; rfl) (lenOf own_pd0 rfl) rfl (Nat.le_of_eq rfl) (hb hby at_12) (by decide) (by decide)
  obtain ⟨rfl, rfl⟩ := qr42
  have r42 : OwnW s0 n0 15 #[.val (.int x0), .val (.int mo)] [] h0 0 0 := r42
  have r43 : OwnW s0 n0 17 #[.val (.int x0), .val (.int mo)] [(.int (2147483647 : Int32))] h0 0 0 := r42.goX fun T t ls X eT k => X.ldcI hx hown (mvT hZ (hw _ (List.mem_of_getElem? (i := 0) rfl))) rfl (hb hby at_15) k
  obtain ⟨vr44, hr44, r44, qr44⟩ := r43.callS hx hZ hown (hw _ (List.mem_of_getElem? (i := 1) rfl)) (hw _ (List.mem_of_getElem? (i := 2) rfl)) (hw _ (List.mem_of_getElem? (i := 3) rfl)) (hw _ (List.mem_of_getElem? (i := 4) rfl)) (by decide) (argsL := [(.int (2147483647 : Int32))]) (own_rt l Z a0 hw (2147483647 : Int32) h0 n0 (by decide)) [] 0 (by decide) (by decide) (by rw [hml]; rfl) (lenOf own_pd0 rfl) rfl (Nat.le_of_eq rfl) (hb hby at_17) (by decide) (by decide)
  obtain ⟨rfl, rfl⟩ := qr44
  have r44 : OwnW s0 n0 20 #[.val (.int x0), .val (.int mo)] [] h0 0 0 := r44
  have r45 : OwnW s0 n0 21 #[.val (.int x0), .val (.int mo)] [(.int mo)] h0 0 0 := r44.go fun T t X k => XS.iloadN X hx rfl (hb hby at_20) rfl k
  obtain ⟨vr46, hr46, r46, qr46⟩ := r45.callS hx hZ hown (hw _ (List.mem_of_getElem? (i := 1) rfl)) (hw _ (List.mem_of_getElem? (i := 2) rfl)) (hw _ (List.mem_of_getElem? (i := 3) rfl)) (hw _ (List.mem_of_getElem? (i := 4) rfl)) (by decide) (argsL := [(.int mo)]) (own_rt l Z a0 hw mo h0 n0 hmo) [] 0 (by decide) (by decide) (by rw [hml]; rfl) (lenOf own_pd0 rfl) rfl (Nat.le_of_eq rfl) (hb hby at_21) (by decide) (by decide)
  obtain ⟨rfl, rfl⟩ := qr46
  have r46 : OwnW s0 n0 24 #[.val (.int x0), .val (.int mo)] [] h0 0 0 := r46
  have r47 : OwnW s0 n0 25 #[.val (.int x0), .val (.int mo)] [(.int (1 : Int32))] h0 0 0 := r46.go fun T t X k => XS.iconst X hx rfl (hb hby at_24) k
  have r48 := r47.retN hx hret (by simp) rfl (hb hby at_25)
  exact ⟨_, _, 0, 0, rfl, by decide, by decide, r48⟩
set_option maxRecDepth 65536 in
set_option maxHeartbeats 40000000 in
theorem comes_1 {Post : Tables → Env → Array Value → State → Outcome → State → Prop} (hpost : ∀ tb e args s v u, (limb_1_1.after args s (.returned v) u = true ∧ limb_1_2.after args s (.returned v) u = true ∧ True) → FrameEnd s (.returned v) u (Jvm.fieldLocs frame_1_writes args s ++ Jvm.arrayLocs frame_1_arrays args s ++ Jvm.staticLocs frame_1_statics s) 0 0 → Post tb e args s (.returned v) u) :
    ArmFor flags0 classFile x code maxLocals ret World_1 tables_1 room_1 Calls_1 rest_1 Pre_1 Post := by
  intro l hfl _ _ p e ha hc hk s m args below hf hA hF happ hP
  obtain ⟨hcalls, hrest, hpre⟩ := hP
  obtain ⟨-, -, -, hnamed, -, -, -, hat⟩ := (Spec.applies_iff hf).mp happ
  obtain ⟨hg, hn⟩ := and_e (Cond.before_iff.mp (show (Jvm.Cond.and given_1 narrow_1).before args s = true from hpre))
  obtain ⟨g0, t0⟩ := and_e hg
  obtain ⟨w0, rfl⟩ : ∃ w0 : Value, args = #[w0] := by
    have hs : args.size = 1 := by simpa [Cond.value, given_1] using g0
    obtain ⟨L⟩ := args
    match L, hs with
    | [w0], _ => exact ⟨w0, rfl⟩
  have hw := fun d (hd : d ∈ tables_1) => atoms_spec (ws := Jvm.Cond.code x code maxLocals ret :: tables_1) hat d (List.mem_cons_of_mem _ hd)
  have hfit : Fit s := fun {y c} hc i hi => by
    obtain ⟨ha, rfl⟩ := Array.getElem?_eq_some_iff.mp hc
    have q := List.all_eq_true.mp ((Array.all_eq_true_iff_forall_mem.mp hF) _ (Array.getElem_mem ha)) i (List.mem_range.mpr hi)
    simpa [Array.getElem?_eq_getElem hi] using q
  obtain ⟨i0, e0⟩ := is_v t0
  obtain rfl : w0 = (.int i0) := Option.some.inj e0
  obtain ⟨n, o, h1, h2, h3, _, L, rfl, ⟨N, rfl⟩, hq⟩ := own_law l s _ hw i0 s.heap s.heap.size  tables_1 p e ha hc hk s m _ below hf ((Spec.applies_iff_loose hf).mp happ).1 ⟨rfl, State.Warmed39.refl s, rfl⟩ trivial
  refine ⟨n, _, h1, h2, h3, hpost _ _ _ _ _ _ ⟨Cond.after_iff.mpr rfl, Cond.after_iff.mpr (eq_i res_at (Term.int_eval (1)) rfl), trivial⟩ ⟨hq.1, hq.2.1, (hq.2.2.sift fun y hy => Or.inr (N y hy)).mono (by decide) (by decide)⟩⟩
theorem main_1_1 : Claimed_1_1 := comes_1 fun _ _ _ _ _ _ h hF => ⟨h.1, hF⟩
theorem main_1_2 : Claimed_1_2 := comes_1 fun _ _ _ _ _ _ h hF => ⟨h.2.1, hF⟩
end Jvm.Pilot.@@N@@
namespace Jvm.Pilot.@@N@@
open Jvm Jvm.ClassFile Sem Op Lib Jvm.Free Jvm.Stand Jvm.Pilot.@@N@@.Jvm.D
/-! MADE BY PROGRAM (witnessworld.py) out of the Statement's table words and the real class files: 9 classes; the members and pool entries that the words name. The judged class is class 1, her method 1. -/
namespace start1
open Jvm.ClassFile
def u (s : String) : CpInfo := .utf8 (stringToUtf16 s)
/-- a pool by its gaps: so many unusable entries, then the entry; so many at the end -/
def gap : Nat → List CpInfo → List CpInfo
  | 0, r => r
  | n + 1, r => .unusable :: gap n r
def poolList (es : List (Nat × CpInfo)) (last : Nat) : List CpInfo := es.foldr (fun e r => gap e.1 (e.2 :: r)) (gap last [])
def pool (es : List (Nat × CpInfo)) (last : Nat) : Array CpInfo := ⟨poolList es last⟩
def fileOf (pool : Array CpInfo) (this : Nat) (attrs : Array Attribute := #[]) (ms : Array MethodInfo := #[]) (fl : Nat := 33) (sup : Nat := 0) (ifs : Array Nat := #[]) (fds : Array FieldInfo := #[]) : ClassFile where
  minorVersion := 0
  majorVersion := 65
  constantPool := pool
  accessFlags := fl
  thisClass := this
  superClass := sup
  interfaces := ifs
  fields := fds
  methods := ms
  attributes := attrs
def plain (name : String) (sup : Option ClassId) : Class where
  name := name
  kind := .ordinary
  loader := none
  accessFlags := 33
  super := sup
  interfaces := #[]
  cf := none
  fields := #[]
  methods := #[]
  instanceTypes := #[]
  staticTypes := #[]
  resolved := #[]
  callSites := []
  init := .initialized
  statics := none
  mirror := none

def pool0 : Array CpInfo := pool [(5, u "<init>"), (0, u "()V"), (1, .class_ 10), (1, u "java/lang/Object")] 113

def k0m0 : Method := { name := "<init>", desc := "()V", sig := { parameters := [], returnType := none }, accessFlags := 1, code := none }
/-- java/lang/Object -/
def k0 : Class := { plain "java/lang/Object" none with
  accessFlags := 33
  interfaces := #[]
  cf := some (fileOf pool0 8 #[] #[{ accessFlags := 1, nameIndex := 5, descriptorIndex := 6, attributes := #[] }] 33 0 #[] #[])
  fields := #[]
  methods := #[k0m0]
  instanceTypes := #[]
  staticTypes := #[]
  resolved := Array.replicate 124 none
  statics := none }

def pool1 : Array CpInfo := pool [(2, .class_ 4), (1, u "java/lang/Object"), (0, u "<init>"), (0, u "()V"), (0, .integer 2147483647), (0, .methodref 9 10), (0, .class_ 11), (0, .nameAndType 12 13), (0, u "com/example/plainrate/plainrate/service/FlatRateLoanCalculator"), (0, u "requireTenure"), (0, u "(I)V"), (2, .class_ 17), (0, u "com/example/plainrate/plainrate/service/FlatRateLoanCalculatorRequireTenurePinLaw"), (2, u "law"), (0, u "(I)Z")] 3

def k1m0 : Method := { name := "<init>", desc := "()V", sig := { parameters := [], returnType := none }, accessFlags := 2, code := none }
def k1c1 : Code := { maxStack := 2, maxLocals := 2, code := code, exceptionTable := #[], attributes := #[] }
def k1m1 : Method := { name := "law", desc := "(I)Z", sig := { parameters := [.int], returnType := some .boolean }, accessFlags := 9, code := some k1c1 }
/-- com/example/plainrate/plainrate/service/FlatRateLoanCalculatorRequireTenurePinLaw -/
def k1 : Class := { plain "com/example/plainrate/plainrate/service/FlatRateLoanCalculatorRequireTenurePinLaw" (some 0) with
  accessFlags := 49
  interfaces := #[]
  cf := some (fileOf pool1 16 #[] #[{ accessFlags := 2, nameIndex := 5, descriptorIndex := 6, attributes := #[] }, { accessFlags := 9, nameIndex := 20, descriptorIndex := 21, attributes := #[] }] 49 2 #[] #[])
  fields := #[]
  methods := #[k1m0, k1m1]
  instanceTypes := #[]
  staticTypes := #[]
  resolved := Array.replicate 25 none
  statics := none }

def pool2 : Array CpInfo := pool [(2, .class_ 4), (1, u "java/lang/Object"), (0, u "<init>"), (0, u "()V"), (4, .class_ 13), (1, u "com/example/plainrate/plainrate/service/FlatRateLoanCalculator"), (0, u "simple"), (0, u "Lcom/example/plainrate/plainrate/service/SimpleInterestCalculator;"), (2, u "requireTenure"), (0, u "(I)V"), (18, u "DIVISOR"), (0, u "Ljava/math/BigDecimal;"), (37, .class_ 78), (0, u "com/example/plainrate/plainrate/service/FlatRateLoanCalculator$Equation"), (28, u "TWO"), (15, u "MONTHS_A_YEAR"), (0, u "I"), (6, u "TOLERANCE"), (29, u "POWERS"), (0, u "Ljava/math/MathContext;")] 29

def k2m0 : Method := { name := "<init>", desc := "()V", sig := { parameters := [], returnType := none }, accessFlags := 1, code := none }
def k2c1 : Code := { maxStack := 3, maxLocals := 1, code := prog_49_method_3_code, exceptionTable := #[], attributes := #[] }
def k2m1 : Method := { name := "requireTenure", desc := "(I)V", sig := { parameters := [.int], returnType := none }, accessFlags := 8, code := some k2c1 }
/-- com/example/plainrate/plainrate/service/FlatRateLoanCalculator -/
def k2 : Class := { plain "com/example/plainrate/plainrate/service/FlatRateLoanCalculator" (some 0) with
  accessFlags := 33
  interfaces := #[]
  cf := some (fileOf pool2 11 #[.nestMembers #[77]] #[{ accessFlags := 1, nameIndex := 5, descriptorIndex := 6, attributes := #[] }, { accessFlags := 8, nameIndex := 18, descriptorIndex := 19, attributes := #[] }] 33 2 #[] #[{ accessFlags := 26, nameIndex := 38, descriptorIndex := 39, attributes := #[] }, { accessFlags := 26, nameIndex := 123, descriptorIndex := 124, attributes := #[] }, { accessFlags := 26, nameIndex := 161, descriptorIndex := 162, attributes := #[] }, { accessFlags := 26, nameIndex := 131, descriptorIndex := 39, attributes := #[] }, { accessFlags := 26, nameIndex := 107, descriptorIndex := 39, attributes := #[] }, { accessFlags := 18, nameIndex := 14, descriptorIndex := 15, attributes := #[] }])
  fields := #[{ name := "DIVISOR", type := (.object "java/math/BigDecimal"), accessFlags := 26, slot := 0, constantValue := 0 }, { name := "MONTHS_A_YEAR", type := .int, accessFlags := 26, slot := 1, constantValue := 0 }, { name := "POWERS", type := (.object "java/math/MathContext"), accessFlags := 26, slot := 2, constantValue := 0 }, { name := "TOLERANCE", type := (.object "java/math/BigDecimal"), accessFlags := 26, slot := 3, constantValue := 0 }, { name := "TWO", type := (.object "java/math/BigDecimal"), accessFlags := 26, slot := 4, constantValue := 0 }, { name := "simple", type := (.object "com/example/plainrate/plainrate/service/SimpleInterestCalculator"), accessFlags := 18, slot := 0, constantValue := 0 }]
  methods := #[k2m0, k2m1]
  instanceTypes := #[(.object "com/example/plainrate/plainrate/service/SimpleInterestCalculator")]
  staticTypes := #[(.object "java/math/BigDecimal"), .int, (.object "java/math/MathContext"), (.object "java/math/BigDecimal"), (.object "java/math/BigDecimal")]
  resolved := Array.replicate 192 none
  statics := none }

def pool3 : Array CpInfo := pool [(1, u "java/lang/Cloneable"), (0, .class_ 1), (0, u "java/lang/Object"), (0, .class_ 3)] 3

/-- java/lang/Cloneable -/
def k3 : Class := { plain "java/lang/Cloneable" (some 0) with
  accessFlags := 1537
  interfaces := #[]
  cf := some (fileOf pool3 2 #[] #[] 1537 4 #[] #[])
  fields := #[]
  methods := #[]
  instanceTypes := #[]
  staticTypes := #[]
  resolved := Array.replicate 8 none
  statics := none }

def pool4 : Array CpInfo := pool [(1, u "java/io/Serializable"), (0, .class_ 1), (0, u "java/lang/Object"), (0, .class_ 3)] 3

/-- java/io/Serializable -/
def k4 : Class := { plain "java/io/Serializable" (some 0) with
  accessFlags := 1537
  interfaces := #[]
  cf := some (fileOf pool4 2 #[] #[] 1537 4 #[] #[])
  fields := #[]
  methods := #[]
  instanceTypes := #[]
  staticTypes := #[]
  resolved := Array.replicate 8 none
  statics := none }

/-- the primitive byte -/
def k5 : Class := { plain "byte" none with kind := .primitive 'B', accessFlags := 0x411 }
/-- [B -/
def k6 : Class := { plain "[B" (some 0) with kind := .array 5 .byte, interfaces := #[3, 4], accessFlags := 1041 }

/-- the primitive int -/
def k7 : Class := { plain "int" none with kind := .primitive 'I', accessFlags := 0x411 }
/-- [I -/
def k8 : Class := { plain "[I" (some 0) with kind := .array 7 .int, interfaces := #[3, 4], accessFlags := 1041 }

def heap : Heap := #[]
def classes : Array Class := #[k0, k1, k2, k3, k4, k5, k6, k7, k8]
def interned : List (Array UInt16 × Addr) := []
def slotsUsed : Nat := 0
def theMethod : MethodId := ⟨1, 1⟩
def args0 : Array Value := #[.int 5]
def aboutOver (below : List Frame) : State where
  vm := { classes := classes, interned := interned.toArray }
  heap := heap
  slotsUsed := slotsUsed
  threads := #[{ frames := .invoking theMethod args0 :: below }]
def below0 : List Frame := [.native { method := ⟨0, 0⟩, args := #[] }]
def about1 : State := aboutOver below0
def p0 : Program := .bare "" "" ""
def e0 : Env := launch0.env 0 0 0
theorem w_frames : about1.frames = Frame.invoking theMethod args0 :: below0 := rfl
set_option maxRecDepth 65536 in
theorem w_args : argsFit about1.vm theMethod args0 = true := by decide +kernel
set_option maxRecDepth 65536 in
theorem w_heap : heapFits about1 = true := by decide +kernel
set_option maxRecDepth 65536 in
theorem w_runnable : about1.curStatus? = some .runnable := by decide +kernel
set_option maxRecDepth 65536 in
theorem w_alone : about1.alone = true := by decide +kernel
set_option maxRecDepth 65536 in
theorem w_named : about1.methodNamed? x = some theMethod := by decide +kernel
set_option maxRecDepth 65536 in
theorem w_hears : about1.hears theMethod below0 = true := by decide +kernel
set_option maxRecDepth 65536 in
theorem w_ripe : about1.ripe theMethod args0 below0 = true := by decide +kernel
theorem w_running : about1.status = .running := rfl
set_option maxRecDepth 65536 in
theorem w_room : about1.hasRoom e0.platform room_1 = true :=
  launch0.hasRoom_least _ room_1 (by decide +kernel) (by decide +kernel) (by decide +kernel) (by decide +kernel) (by decide +kernel) (by decide +kernel)
theorem allAtoms_all (ts : List Jvm.Cond) (a : Array Jvm.Value) (st : Jvm.State) : (allAtoms ts).before a st = ts.all (fun c => c.before a st) := by
  induction ts with
  | nil => rfl
  | cons c t ih =>
    show (Jvm.Cond.and c (allAtoms t)).before a st = _
    rw [Jvm.Cond.before_and, ih, List.all_cons]
def words1 : List Jvm.Cond := Jvm.Cond.code x code maxLocals ret :: tables_1
/-- a 'code' word, met by the world's own term for the bytes: nothing is compared byte by byte -/
theorem code_word {y : MethodName} {bytes : ByteArray} {mx : Nat} {rt : Option FieldType} {a : Array Value} {s : State} {m : MethodId} {meth : Method} {c : Code} (h1 : s.methodNamed? y = some m) (h2 : s.vm.method? m = some meth) (h3 : meth.code = some c) (h4 : c.code = bytes)
    (h5 : (c.maxLocals == mx && c.exceptionTable.isEmpty && decide (c.maxStack ≤ mostOperands) && decide (meth.sig.returnType = rt) && !meth.locks && decide (parseMethodDescriptor y.desc = some meth.sig)) = true) : (Jvm.Cond.code y bytes mx rt).before a s = true := by
  simp only [Bool.and_eq_true, beq_iff_eq, Bool.not_eq_true', decide_eq_true_eq] at h5
  obtain ⟨⟨⟨⟨⟨g1, g2⟩, g3⟩, g4⟩, g5⟩, g6⟩ := h5
  simp [Cond.before, Cond.holds, Cond.value, h1, h2, h3, h4, g1, g2, g3, g4, g5, g6]
def isCode : Jvm.Cond → Bool
  | .code _ _ _ _ => true
  | _ => false
theorem all_split {L : List Jvm.Cond} {P : Jvm.Cond → Bool} (h1 : L.all (fun c => isCode c || P c) = true) (h2 : ∀ c ∈ L.filter isCode, P c = true) : L.all P = true := by
  refine List.all_eq_true.mpr fun c hc => ?_
  have h := List.all_eq_true.mp h1 c hc
  rcases Bool.eq_false_or_eq_true (isCode c) with hi | hi
  · exact h2 c (List.mem_filter.mpr ⟨hc, hi⟩)
  · simpa [hi] using h
set_option maxRecDepth 65536 in
theorem w_c0 : (Jvm.Cond.code x code maxLocals ret).before args0 about1 = true := code_word (m := ⟨1, 1⟩) (meth := k1m1) (c := k1c1) (by decide +kernel) rfl rfl rfl (by decide +kernel)
set_option maxRecDepth 65536 in
theorem w_c1 : (Jvm.Cond.code ({ cls := "com/example/plainrate/plainrate/service/FlatRateLoanCalculator", name := "requireTenure", desc := "(I)V" } : Jvm.MethodName) prog_49_method_3_code (1 : Nat) (Option.none : Option Jvm.ClassFile.FieldType)).before args0 about1 = true := code_word (m := ⟨2, 1⟩) (meth := k2m1) (c := k2c1) (by decide +kernel) rfl rfl rfl (by decide +kernel)
def codes1 : List Jvm.Cond := [Jvm.Cond.code x code maxLocals ret, Jvm.Cond.code ({ cls := "com/example/plainrate/plainrate/service/FlatRateLoanCalculator", name := "requireTenure", desc := "(I)V" } : Jvm.MethodName) prog_49_method_3_code (1 : Nat) (Option.none : Option Jvm.ClassFile.FieldType)]
set_option maxRecDepth 65536 in
theorem codes_eq : words1.filter isCode = codes1 := rfl
theorem w_codes : ∀ c ∈ words1.filter isCode, c.before args0 about1 = true := by
  rw [codes_eq]
  intro c hc
  simp only [codes1, List.mem_cons, List.not_mem_nil, or_false] at hc
  rcases hc with rfl | rfl
  · exact w_c0
  · exact w_c1
set_option maxRecDepth 65536 in
theorem w_t1 : words1.all (fun c => isCode c || c.before args0 about1) = true := by decide +kernel
theorem w_tables : (allAtoms (Jvm.Cond.code x code maxLocals ret :: tables_1)).before args0 about1 = true := by
  rw [allAtoms_all]
  show words1.all (fun c => c.before args0 about1) = true
  refine all_split ?_ w_codes
  rw [w_t1]
set_option maxRecDepth 65536 in
theorem w_case : (Jvm.Cond.and given_1 narrow_1).before args0 about1 = true := by decide +kernel
theorem w_applies : (headSpec (Jvm.Cond.code x code maxLocals ret :: tables_1) room_1).applies x e0.platform about1 = true :=
  (Spec.applies_iff w_frames).mpr ⟨w_running, w_runnable, w_alone, w_named, w_hears, w_ripe, w_room, w_tables⟩
theorem atStart : AtStart classFile x code maxLocals ret World_1 tables_1 room_1 Calls_1 rest_1 Pre_1 launch0 p0 e0 about1 theMethod args0 below0 :=
  ⟨lists_1, trivial, launch0.admits_env _ _ _, launch0.least_env, fairChoices_fair.cas, fairChoices_fair.clock, w_frames, w_args, w_heap, w_applies, trivial, trivial, w_case⟩
end start1
theorem witness_1 : WitnessClaimed_1 := ⟨start1.p0, start1.e0, start1.about1, start1.theMethod, start1.args0, start1.below0, start1.atStart⟩
end Jvm.Pilot.@@N@@
