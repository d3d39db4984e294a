import JvmDerived
import JvmDerived.Pilot.@@N@@Statement
import JvmDerived.Pilot.@@N@@Code
set_option linter.unusedVariables false
set_option linter.unusedSimpArgs false
namespace Jvm.Pilot.@@N@@
open Jvm Jvm.ClassFile Sem Op Lib Jvm.Free Jvm.Stand Jvm.LawKit Jvm.RoadKit Bundle Jvm.Pilot.@@N@@.Jvm.D
/-! OwnW: the walk as a fact: from s0 it has come to pc with locals L, stack S, heap h; kc cells and ks slots made; written only cells at or above n0. -/
section OwnKit
variable {p : Program} {l : Launch} {e : Env} {R : Room} {s : State} {m : MethodId} {args : Array Value} {below : List Frame} {meth : Method} {c : Code} {s0 : State} {n0 pc pc' : Nat} {L L' : Array Slot} {S S' : List Value} {h h' : Heap} {kc ks : Nat} {Z : State} {a0 : Array Value}
def OwnW {p : Program} {l : Launch} {e : Env} {R : Room} {s : State} {m : MethodId} {args : Array Value} {below : List Frame} {meth : Method} {c : Code} (s0 : State) (n0 pc : Nat) (L : Array Slot) (S : List Value) (h : Heap) (kc ks : Nat) : Prop :=
  ∃ (T : State) (locs : List Loc), Stand p l e R s m args below meth c T locs kc ks ∧ T.heap = h ∧ Fr n0 locs ∧ Steps p.tables e below s0 (T.setTop (mkF m pc L S))
def OwnEnd {p : Program} {l : Launch} {e : Env} {R : Room} {s : State} {m : MethodId} {args : Array Value} {below : List Frame} {meth : Method} {c : Code} (s0 : State) (n0 : Nat) (v : Option Value) (h : Heap) (kc ks : Nat) : Prop :=
  ∃ (T : State) (locs : List Loc), Stand p l e R s m args below meth c T locs kc ks ∧ T.heap = h ∧ Fr n0 locs ∧ (meth.sig.returnType = none → v = none) ∧ ∀ fs : List Frame, (∀ (f : JFrame) (acts : List Action), f.method = m → f.locked = none → f.entered = [] → (doReturn e (T.setTop f) acts v).1 = T.setFrames fs) → Steps p.tables e below s0 (T.setFrames fs)
/-- a callee's contract: with the arguments A on the heap h0 it returns v and leaves h' with Q v h' -/
def OwnCon (l : Launch) (Z : State) (y : MethodName) (bytes : ByteArray) (maxL : Nat) (ret : Option FieldType) (rm : Room) (A : Array Value) (h0 : Heap) (n0 : Nat) (Q : Option Value → Heap → Prop) : Prop :=
  ∀ ws : List Jvm.Cond, MetFree l y (head1 (Jvm.Cond.code y bytes maxL ret :: ws) rm) (fun a U => a = A ∧ Z.Warmed39 U.vm ∧ U.heap = h0) (fun _ _ _ _ _ => True) (fun _ U o U' => ∃ v L, o = .returned v ∧ (Fr n0 L ∧ Q v U'.heap) ∧ FrameEnd U o U' L rm.cells rm.slots)
theorem OwnW.go (r : OwnW (p := p) (l := l) (e := e) (R := R) (s := s) (m := m) (args := args) (below := below) (meth := meth) (c := c) s0 n0 pc L S h kc ks)
    (f : ∀ (T t : State), At T m c below → Steps p.tables e below (T.setTop (mkF m pc' L' S')) t → Steps p.tables e below (T.setTop (mkF m pc L S)) t) :
    OwnW (p := p) (l := l) (e := e) (R := R) (s := s) (m := m) (args := args) (below := below) (meth := meth) (c := c) s0 n0 pc' L' S' h kc ks := by
  obtain ⟨T, ls, X, eT, N, st⟩ := r
  exact ⟨T, ls, X, eT, N, st.trans (f T _ X.here (Steps.refl _))⟩
theorem OwnW.goX (r : OwnW (p := p) (l := l) (e := e) (R := R) (s := s) (m := m) (args := args) (below := below) (meth := meth) (c := c) s0 n0 pc L S h kc ks)
    (f : ∀ (T t : State) (ls : List Loc), Stand p l e R s m args below meth c T ls kc ks → T.heap = h → Steps p.tables e below (T.setTop (mkF m pc' L' S')) t → Steps p.tables e below (T.setTop (mkF m pc L S)) t) :
    OwnW (p := p) (l := l) (e := e) (R := R) (s := s) (m := m) (args := args) (below := below) (meth := meth) (c := c) s0 n0 pc' L' S' h kc ks := by
  obtain ⟨T, ls, X, eT, N, st⟩ := r
  exact ⟨T, ls, X, eT, N, st.trans (f T _ ls X eT (Steps.refl _))⟩
theorem OwnW.goT (r : OwnW (p := p) (l := l) (e := e) (R := R) (s := s) (m := m) (args := args) (below := below) (meth := meth) (c := c) s0 n0 pc L S h kc ks)
    (f : ∀ (T : State) (ls : List Loc), Stand p l e R s m args below meth c T ls kc ks → T.heap = h → ∃ T', Stand p l e R s m args below meth c T' ls kc ks ∧ T'.heap = h ∧ ∀ t, Steps p.tables e below (T'.setTop (mkF m pc' L' S')) t → Steps p.tables e below (T.setTop (mkF m pc L S)) t) :
    OwnW (p := p) (l := l) (e := e) (R := R) (s := s) (m := m) (args := args) (below := below) (meth := meth) (c := c) s0 n0 pc' L' S' h kc ks := by
  obtain ⟨T, ls, X, eT, N, st⟩ := r
  obtain ⟨T', X', eT', st'⟩ := f T ls X eT
  exact ⟨T', ls, X', eT', N, st.trans (st' _ (Steps.refl _))⟩
/-- the same walk, written otherwise -/
theorem OwnW.to (r : OwnW (p := p) (l := l) (e := e) (R := R) (s := s) (m := m) (args := args) (below := below) (meth := meth) (c := c) s0 n0 pc L S h kc ks) (h1 : pc = pc') (h2 : L = L') (h3 : S = S') (h4 : h = h') :
    OwnW (p := p) (l := l) (e := e) (R := R) (s := s) (m := m) (args := args) (below := below) (meth := meth) (c := c) s0 n0 pc' L' S' h' kc ks := by
  subst h1 h2 h3 h4; exact r
theorem OwnW.newO (r : OwnW (p := p) (l := l) (e := e) (R := R) (s := s) (m := m) (args := args) (below := below) (meth := meth) (c := c) s0 n0 pc L S h kc ks)
    (hx : p.tables.exec = Jvm.exec) (hZ : Z.Warmed39 s.vm) {own C : String} {index n : Nat} (hown : s.vm.findClass own = some m.cls) (w : (Jvm.Cond.classLink own index C).before a0 Z = true) (wi : (Jvm.Cond.instantiable C n).before a0 Z = true) (wz : (Jvm.Cond.initialized C).before a0 Z = true)
    (hd : decode c.code pc = .ok (.new index, 3)) (hc : kc + 1 ≤ R.cells) (hl : ks + n ≤ R.slots) :
    ∃ h', OwnW (p := p) (l := l) (e := e) (R := R) (s := s) (m := m) (args := args) (below := below) (meth := meth) (c := c) s0 n0 (pc + 3) L (.ref h.size :: S) h' (kc + 1) (ks + n) ∧ Ext h h' ∧ Exa Z h' h.size C ∧ (∀ {O nm d : String} {ty : FieldType}, Laid Z a0 C O nm d → parseFieldDescriptor d = some ty → Fld Z h' h.size O nm d (defaultValue ty)) := by
  obtain ⟨T, ls, X, eT, N, st⟩ := r
  obtain ⟨T', h', X', e', E, A, D, -, st'⟩ := Jvm.RoadKit.newO X hx hZ hown w wi wz eT (g := mkF m pc L S) rfl hd hc hl
  exact ⟨h', ⟨T', ls, X', e', N, st.trans (st' _ (Steps.refl _))⟩, E, A, D⟩
theorem OwnW.newP (r : OwnW (p := p) (l := l) (e := e) (R := R) (s := s) (m := m) (args := args) (below := below) (meth := meth) (c := c) s0 n0 pc L S h kc ks)
    (hx : p.tables.exec = Jvm.exec) (hZ : Z.Warmed39 s.vm) {aty : ArrayType} (w : (Jvm.Cond.arrayClass (newarray.typeOf aty)).before a0 Z = true) (hd : decode c.code pc = .ok (.newarray aty, 2)) {n : Int32} {rest : List Value} (hs : S = .int n :: rest)
    (hn : ¬ n < 0) {cap : Nat} (hcap : n.toNatClampNeg ≤ cap) (hb : cap * 8 ≤ 536870912) (hc : kc + 1 ≤ R.cells) (hl : ks + cap ≤ R.slots) :
    ∃ h' cA, OwnW (p := p) (l := l) (e := e) (R := R) (s := s) (m := m) (args := args) (below := below) (meth := meth) (c := c) s0 n0 (pc + 2) L (.ref h.size :: rest) h' (kc + 1) (ks + cap) ∧ Ext h h' ∧ Arr Z h' h.size (newA cA (newarray.typeOf aty) n) (newarray.typeOf aty) := by
  obtain ⟨T, ls, X, eT, N, st⟩ := r
  obtain ⟨T', h', cA, X', e', E, A, st'⟩ := Jvm.RoadKit.newP X hx hZ w eT (g := mkF m pc L S) rfl hd hs hn hcap hb hc hl
  exact ⟨h', cA, ⟨T', ls, X', e', N, st.trans (st' _ (Steps.refl _))⟩, E, A⟩
theorem OwnW.getF (r : OwnW (p := p) (l := l) (e := e) (R := R) (s := s) (m := m) (args := args) (below := below) (meth := meth) (c := c) s0 n0 pc L S h kc ks)
    (hx : p.tables.exec = Jvm.exec) (hZ : Z.Warmed39 s.vm) {own O n d : String} {index : Nat} (hown : s.vm.findClass own = some m.cls) (w : (Jvm.Cond.fieldLink own index O n d).before a0 Z = true) {a : Addr} {v : Value} (F : Fld Z h a O n d v)
    {rest : List Value} (hs : S = .ref a :: rest) (hd : decode c.code pc = .ok (.getfield index, 3)) :
    OwnW (p := p) (l := l) (e := e) (R := R) (s := s) (m := m) (args := args) (below := below) (meth := meth) (c := c) s0 n0 (pc + 3) L (v :: rest) h kc ks :=
  r.goT fun T ls X eT => Jvm.RoadKit.getF X hx hZ hown (host := "") (Or.inl w) Via.refl eT F (g := mkF m pc L S) rfl hs hd
theorem OwnW.getS (r : OwnW (p := p) (l := l) (e := e) (R := R) (s := s) (m := m) (args := args) (below := below) (meth := meth) (c := c) s0 n0 pc L S h kc ks)
    (hx : p.tables.exec = Jvm.exec) (hZ : Z.Warmed39 s.vm) {own O n d : String} {index : Nat} (hown : s.vm.findClass own = some m.cls) (w : (Jvm.Cond.fieldLink own index O n d).before a0 Z = true) {v : Value} (F : Sta Z h O n d v)
    (hd : decode c.code pc = .ok (.getstatic index, 3)) :
    OwnW (p := p) (l := l) (e := e) (R := R) (s := s) (m := m) (args := args) (below := below) (meth := meth) (c := c) s0 n0 (pc + 3) L (v :: S) h kc ks :=
  r.goT fun T ls X eT => Jvm.RoadKit.getS X hx hZ (host := "") hown w Via.refl eT F (g := mkF m pc L S) rfl hd
theorem OwnW.putF (r : OwnW (p := p) (l := l) (e := e) (R := R) (s := s) (m := m) (args := args) (below := below) (meth := meth) (c := c) s0 n0 pc L S h kc ks)
    (hx : p.tables.exec = Jvm.exec) (hZ : Z.Warmed39 s.vm) {own O n d C : String} {index kk : Nat} {ty : FieldType} (hown : s.vm.findClass own = some m.cls) (w : (Jvm.Cond.fieldLink own index O n d).before a0 Z = true) {a : Addr} {v old : Value} (F : Fld Z h a O n d old) (E : Exa Z h a C)
    (Lw : (Jvm.Cond.lays C O n d).before a0 Z = true ∨ ((Jvm.Cond.laysFinal C O n d).before a0 Z = true ∧ own = O ∧ meth.name = "<init>")) (wi : (Jvm.Cond.instantiable C kk).before a0 Z = true)
    (hty : parseFieldDescriptor d = some ty) (hn : narrow ty v = v) (hf : fits ty v = true) {rest : List Value} (hs : S = v :: .ref a :: rest) (hd : decode c.code pc = .ok (.putfield index, 3)) (g : n0 ≤ a) :
    ∃ h', OwnW (p := p) (l := l) (e := e) (R := R) (s := s) (m := m) (args := args) (below := below) (meth := meth) (c := c) s0 n0 (pc + 3) L rest h' kc ks ∧ Wr h h' a (Jvm.RoadKit.slotOf Z O n d) v := by
  obtain ⟨T, ls, X, eT, N, st⟩ := r
  obtain ⟨T', h', X', e', W', st'⟩ := Jvm.RoadKit.putF X hx hZ hown (host := "") (Or.inl w) Via.refl eT F E Lw wi hty hn hf (g := mkF m pc L S) rfl hs hd
  exact ⟨h', ⟨T', _, X', e', Fr.snoc X' N g, st.trans (st' _ (Steps.refl _))⟩, W'⟩
theorem OwnW.callS (r : OwnW (p := p) (l := l) (e := e) (R := R) (s := s) (m := m) (args := args) (below := below) (meth := meth) (c := c) s0 n0 pc L S h kc ks)
    (hx : p.tables.exec = Jvm.exec) (hZ : Z.Warmed39 s.vm) {own : String} {index : Nat} {y : MethodName} {bytes : ByteArray} {maxL : Nat} {ret : Option FieldType} {rm : Room} {Q : Option Value → Heap → Prop} (hown : s.vm.findClass own = some m.cls)
    (w1 : (Jvm.Cond.methodLink own index y).before a0 Z = true) (w2 : (Jvm.Cond.static y).before a0 Z = true) (w3 : (Jvm.Cond.initialized y.cls).before a0 Z = true) (w4 : (Jvm.Cond.code y bytes maxL ret).before a0 Z = true)
    (hy : y.cls ≠ "java/lang/invoke/MethodHandle" ∧ y.cls ≠ "java/lang/invoke/VarHandle") {argsL : List Value} (K : OwnCon l Z y bytes maxL ret rm argsL.toArray h n0 Q) (rest : List Value) (W : Nat)
    (hf : rm.frames + 1 ≤ R.frames) (hl : W + (maxL + 11) + rm.locals ≤ R.locals) (hsize : L.size = c.maxLocals) (hlen : ∀ sig, parseMethodDescriptor y.desc = some sig → argsL.length = sig.parameters.length)
    (hs : S = argsL.reverse ++ rest) (hW : (rest.map fun v => v.category).sum ≤ W) (hd : decode c.code pc = .ok (.invokestatic index, 3)) (hc : kc + rm.cells ≤ R.cells) (hsl : ks + rm.slots ≤ R.slots) :
    ∃ v h', OwnW (p := p) (l := l) (e := e) (R := R) (s := s) (m := m) (args := args) (below := below) (meth := meth) (c := c) s0 n0 (pc + 3) L (v.toList ++ rest) h' (kc + rm.cells) (ks + rm.slots) ∧ Q v h' := by
  obtain ⟨T, ls, X, eT, N, st⟩ := r
  obtain ⟨v, vm₁, ⟨T', L', k', n'⟩, -, X', ⟨Lc, hQ, l', y', z'⟩, st'⟩ := Jvm.LawKit.callS X hx (y := y) hown (mvT hZ w1) (mvT hZ w2) (mvT hZ w3) (mvT hZ w4) hy (backOf (W := W) (Q := fun v h L => Fr n0 L ∧ Q v h) (K []) hZ w4 w3 hf hl) (g := mkF m pc L S) rfl hsize (argsL := argsL) (rest := rest) hlen hs (by show 2 * 0 + _ ≤ _; omega) hd (fun _ _ => ⟨rfl, eT, hc, hsl⟩)
  dsimp only [Pt.U, Pt.locs, Pt.cells, Pt.slots] at X' l' y' z' st' hQ
  subst l' y' z'
  exact ⟨v, _, ⟨T', _, X', rfl, N.app hQ.1, st.trans (st' _ (Steps.refl _))⟩, hQ.2⟩
theorem OwnW.callN (r : OwnW (p := p) (l := l) (e := e) (R := R) (s := s) (m := m) (args := args) (below := below) (meth := meth) (c := c) s0 n0 pc L S h kc ks)
    (hx : p.tables.exec = Jvm.exec) (hZ : Z.Warmed39 s.vm) {own : String} {index : Nat} {y : MethodName} {bytes : ByteArray} {maxL : Nat} {rm : Room} {Q : Option Value → Heap → Prop} (hy1 : y.name = "<init>") (hown : s.vm.findClass own = some m.cls)
    (w1 : (Jvm.Cond.methodLink own index y).before a0 Z = true) (w2 : (Jvm.Cond.instanceMethod y).before a0 Z = true) (w3 : (Jvm.Cond.initialized y.cls).before a0 Z = true) (w4 : (Jvm.Cond.code y bytes maxL none).before a0 Z = true)
    (hy : y.cls ≠ "java/lang/invoke/MethodHandle" ∧ y.cls ≠ "java/lang/invoke/VarHandle") {a : Addr} {argsL : List Value} (K : OwnCon l Z y bytes maxL none rm (.ref a :: argsL).toArray h n0 Q) (rest : List Value) (W : Nat)
    (hf : rm.frames + 1 ≤ R.frames) (hl : W + (maxL + 11) + rm.locals ≤ R.locals) (hsize : L.size = c.maxLocals) (hlen : ∀ sig, parseMethodDescriptor y.desc = some sig → argsL.length = sig.parameters.length)
    (hs : S = argsL.reverse ++ .ref a :: rest) (hW : (rest.map fun v => v.category).sum ≤ W) (hd : decode c.code pc = .ok (.invokespecial index, 3)) (hc : kc + rm.cells ≤ R.cells) (hsl : ks + rm.slots ≤ R.slots) :
    ∃ v h', OwnW (p := p) (l := l) (e := e) (R := R) (s := s) (m := m) (args := args) (below := below) (meth := meth) (c := c) s0 n0 (pc + 3) L (v.toList ++ rest) h' (kc + rm.cells) (ks + rm.slots) ∧ Q v h' := by
  obtain ⟨T, ls, X, eT, N, st⟩ := r
  obtain ⟨v, vm₁, ⟨T', L', k', n'⟩, -, X', ⟨Lc, hQ, l', y', z'⟩, st'⟩ := X.specialBack hx (y := y) hy1 hown (mvT hZ w1) (mvT hZ w2) (mvT hZ w4) hy (backOf (W := W) (Q := fun v h L => Fr n0 L ∧ Q v h) (K []) hZ w4 w3 hf hl) (g := mkF m pc L S) rfl hsize st (a := a) (argsL := argsL) (rest := rest) hlen hs (by show 2 * 0 + _ ≤ _; omega) hd (fun _ _ => ⟨rfl, eT, hc, hsl⟩)
  dsimp only [Pt.U, Pt.locs, Pt.cells, Pt.slots] at X' l' y' z' st' hQ
  subst l' y' z'
  exact ⟨v, _, ⟨T', _, X', rfl, N.app hQ.1, st'⟩, hQ.2⟩
theorem OwnW.callV (r : OwnW (p := p) (l := l) (e := e) (R := R) (s := s) (m := m) (args := args) (below := below) (meth := meth) (c := c) s0 n0 pc L S h kc ks)
    (hx : p.tables.exec = Jvm.exec) (hZ : Z.Warmed39 s.vm) {own C : String} {index : Nat} {y z : MethodName} {bytes : ByteArray} {maxL : Nat} {ret : Option FieldType} {rm : Room} {Q : Option Value → Heap → Prop} (hown : s.vm.findClass own = some m.cls)
    (w1 : (Jvm.Cond.methodLink own index y).before a0 Z = true) (w2 : (Jvm.Cond.declares y).before a0 Z = true) (w3 : (Jvm.Cond.selects C y z).before a0 Z = true) (w3' : NotFace s y) (w5 : (Jvm.Cond.instanceMethod z).before a0 Z = true) (w6 : (Jvm.Cond.initialized z.cls).before a0 Z = true) (w4 : (Jvm.Cond.code z bytes maxL ret).before a0 Z = true)
    (hy : y.cls ≠ "java/lang/invoke/MethodHandle" ∧ y.cls ≠ "java/lang/invoke/VarHandle") {a : Addr} {argsL : List Value} (E : Exa Z h a C) (K : OwnCon l Z z bytes maxL ret rm (.ref a :: argsL).toArray h n0 Q) (rest : List Value) (W : Nat)
    (hf : rm.frames + 1 ≤ R.frames) (hl : W + (maxL + 11) + rm.locals ≤ R.locals) (hsize : L.size = c.maxLocals) (hlen : ∀ sig, parseMethodDescriptor y.desc = some sig → argsL.length = sig.parameters.length)
    (hs : S = argsL.reverse ++ .ref a :: rest) (hW : (rest.map fun v => v.category).sum ≤ W) (hd : decode c.code pc = .ok (.invokevirtual index, 3)) (hc : kc + rm.cells ≤ R.cells) (hsl : ks + rm.slots ≤ R.slots) :
    ∃ v h', OwnW (p := p) (l := l) (e := e) (R := R) (s := s) (m := m) (args := args) (below := below) (meth := meth) (c := c) s0 n0 (pc + 3) L (v.toList ++ rest) h' (kc + rm.cells) (ks + rm.slots) ∧ Q v h' := by
  obtain ⟨T, ls, X, eT, N, st⟩ := r
  obtain ⟨cq, kq, qa, qb, qc⟩ := isOf hZ eT E
  obtain ⟨v, vm₁, ⟨T', L', k', n'⟩, -, X', ⟨Lc, hQ, l', y', z'⟩, st'⟩ := X.virtualBack hx (y := y) (z := z) hown (mvT hZ w1) (mvT hZ w2) w3' (mvT hZ w3) (mvT hZ w5) hy (backOf (W := W) (Q := fun v h L => Fr n0 L ∧ Q v h) (K []) hZ w4 w6 hf hl) qa qc (g := mkF m pc L S) rfl hsize st (argsL := argsL) (rest := rest) hlen hs (by show 2 * 0 + _ ≤ _; omega) hd (fun _ _ => ⟨rfl, eT, hc, hsl⟩)
  dsimp only [Pt.U, Pt.locs, Pt.cells, Pt.slots] at X' l' y' z' st' hQ
  subst l' y' z'
  exact ⟨v, _, ⟨T', _, X', rfl, N.app hQ.1, st'⟩, hQ.2⟩
theorem OwnW.retN (r : OwnW (p := p) (l := l) (e := e) (R := R) (s := s) (m := m) (args := args) (below := below) (meth := meth) (c := c) s0 n0 pc L S h kc ks)
    (hx : p.tables.exec = Jvm.exec) {t : FieldType} (hret : meth.sig.returnType = some t) (ht : t = .boolean ∨ t = .byte ∨ t = .char ∨ t = .short) {z : Int32} {rest : List Value} (hs : S = .int z :: rest) (hd : decode c.code pc = .ok (.ireturn, 1)) :
    OwnEnd (p := p) (l := l) (e := e) (R := R) (s := s) (m := m) (args := args) (below := below) (meth := meth) (c := c) s0 n0 (some (.int (nar t z))) h kc ks := by
  subst hs
  obtain ⟨T, ls, X, eT, N, st⟩ := r
  exact ⟨T, ls, X, eT, N, (fun q => by rw [hret] at q; cases q), fun fs hl => st.trans (Jvm.RoadKit.retN X hx hret ht hd hl)⟩
theorem OwnW.retW (r : OwnW (p := p) (l := l) (e := e) (R := R) (s := s) (m := m) (args := args) (below := below) (meth := meth) (c := c) s0 n0 pc L S h kc ks)
    (hx : p.tables.exec = Jvm.exec) {t : FieldType} {w : Value} {i : Instr} (hret : meth.sig.returnType = some t) (hn : narrow t w = w) {rest : List Value} (hs : S = w :: rest)
    (hi : (i = .ireturn ∧ (t = .int ∨ t = .boolean ∨ t = .byte ∨ t = .char ∨ t = .short) ∧ ∃ z, w = .int z) ∨ (i = .lreturn ∧ t = .long ∧ ∃ z, w = .long z) ∨ (i = .dreturn ∧ t = .double ∧ ∃ z, w = .double z) ∨ (i = .freturn ∧ t = .float ∧ ∃ z, w = .float z) ∨ (i = .areturn ∧ t.isReference = true ∧ w.isRef = true))
    (hd : decode c.code pc = .ok (i, 1)) :
    OwnEnd (p := p) (l := l) (e := e) (R := R) (s := s) (m := m) (args := args) (below := below) (meth := meth) (c := c) s0 n0 (some w) h kc ks := by
  subst hs
  obtain ⟨T, ls, X, eT, N, st⟩ := r
  exact ⟨T, ls, X, eT, N, (fun q => by rw [hret] at q; cases q), fun fs hl => st.trans (Jvm.RoadKit.retOut X hx hret hn hi hd hl)⟩
theorem OwnW.retV (r : OwnW (p := p) (l := l) (e := e) (R := R) (s := s) (m := m) (args := args) (below := below) (meth := meth) (c := c) s0 n0 pc L [] h kc ks)
    (hx : p.tables.exec = Jvm.exec) (hret : meth.sig.returnType = none) (hd : decode c.code pc = .ok (.return_, 1)) :
    OwnEnd (p := p) (l := l) (e := e) (R := R) (s := s) (m := m) (args := args) (below := below) (meth := meth) (c := c) s0 n0 none h kc ks := by
  obtain ⟨T, ls, X, eT, N, st⟩ := r
  exact ⟨T, ls, X, eT, N, fun _ => rfl, fun fs hl => st.trans (X.returnOut hx hret hd hl)⟩
theorem OwnCon.of {y : MethodName} {bytes : ByteArray} {maxL : Nat} {ret : Option FieldType} {rm : Room} {A : Array Value} {h0 : Heap} {Q : Option Value → Heap → Prop} {L0 : Array Slot} (pn : plainName y.cls = true) (ef : ∀ m : MethodId, entryFrame m A maxL = mkF m 0 L0 [])
    (H : ∀ (p : Program) (e : Env) (s : State) (m : MethodId) (below : List Frame) (meth : Method) (c : Code) (s0 : State), p.tables.exec = Jvm.exec → c.code = bytes → c.maxLocals = maxL → s.vm.findClass y.cls = some m.cls → meth.name = y.name → meth.sig.returnType = ret → Z.Warmed39 s.vm →
      OwnW (p := p) (l := l) (e := e) (R := rm) (s := s) (m := m) (args := A) (below := below) (meth := meth) (c := c) s0 n0 0 L0 [] h0 0 0 →
      ∃ v h' k n, Q v h' ∧ k ≤ rm.cells ∧ n ≤ rm.slots ∧ OwnEnd (p := p) (l := l) (e := e) (R := rm) (s := s) (m := m) (args := A) (below := below) (meth := meth) (c := c) s0 n0 v h' k n) :
    OwnCon l Z y bytes maxL ret rm A h0 n0 Q := by
  intro ws
  refine MetFree.of_bodySF (plainFor_of_name pn) hisR ?_
  intro p e s m args below meth c s₁ Bd hml hP hK
  obtain ⟨rfl, hZ, hh⟩ := hP
  have X0 : Stand p l e rm s m args below meth c s₁ [] 0 0 := Stand.of_body Bd
  have e0 : s₁.heap = h0 := by rw [← hh, Bd.state]; rfl
  obtain ⟨v, h', k, n, hQ, hk, hn, T, ls, X, eT, N, hv, st⟩ := H p e s m below meth c (s₁.setTop (entryFrame m args maxL)) Bd.exec Bd.bytes hml (findClass_of_methodNamed Bd.named) (name_of_methodNamed Bd.named Bd.method).1 Bd.returns hZ
    ⟨s₁, [], X0, e0, Fr.nil n0, by rw [ef m]; exact Steps.refl _⟩
  obtain ⟨fs, hr, hrun, hended, hW, hsame⟩ := X.leave (v := v) hv
  exact ⟨_, _, st fs hr, hrun, hended, v, ls, rfl, ⟨N, by show Q v T.heap; rw [eT]; exact hQ⟩, ⟨_, rfl⟩, hW, hsame.mono hk hn⟩
end OwnKit
theorem own_pn0 : plainName "com/example/interpolis/interpolis/frontend/CType$StructOrUnionType" = true := by first | (simp [plainName, overriddenIn]; done) | decide +kernel
theorem own_pn1 : plainName "com/example/interpolis/interpolis/frontend/StructOrUnionTypeAlignedPinLaw" = true := by first | (simp [plainName, overriddenIn]; done) | decide +kernel
theorem own_pd0 : parseMethodDescriptor "(JJ)J" = some ⟨[.long, .long], some .long⟩ := by decide +kernel
theorem own_d1_0 : decode prog_56_method_4_code 0 = .ok (.lload_n 0, 1) := by decide +kernel
theorem own_d1_1 : decode prog_56_method_4_code 1 = .ok (.lload_n 2, 1) := by decide +kernel
theorem own_d1_2 : decode prog_56_method_4_code 2 = .ok (.lrem, 1) := by decide +kernel
theorem own_d1_3 : decode prog_56_method_4_code 3 = .ok (.lstore 4, 2) := by decide +kernel
theorem own_d1_5 : decode prog_56_method_4_code 5 = .ok (.lload 4, 2) := by decide +kernel
theorem own_d1_7 : decode prog_56_method_4_code 7 = .ok (.lconst 0, 1) := by decide +kernel
theorem own_d1_8 : decode prog_56_method_4_code 8 = .ok (.lcmp, 1) := by decide +kernel
theorem own_d1_9 : decode prog_56_method_4_code 9 = .ok (.ifCond .ne 5, 3) := by decide +kernel
theorem own_d1_12 : decode prog_56_method_4_code 12 = .ok (.lload_n 0, 1) := by decide +kernel
theorem own_d1_13 : decode prog_56_method_4_code 13 = .ok (.lreturn, 1) := by decide +kernel
theorem own_d1_14 : decode prog_56_method_4_code 14 = .ok (.lload_n 2, 1) := by decide +kernel
theorem own_d1_15 : decode prog_56_method_4_code 15 = .ok (.lload 4, 2) := by decide +kernel
theorem own_d1_17 : decode prog_56_method_4_code 17 = .ok (.lsub, 1) := by decide +kernel
theorem own_d1_18 : decode prog_56_method_4_code 18 = .ok (.lstore 6, 2) := by decide +kernel
theorem own_d1_20 : decode prog_56_method_4_code 20 = .ok (.lload_n 0, 1) := by decide +kernel
theorem own_d1_21 : decode prog_56_method_4_code 21 = .ok (.ldc2_w 62, 3) := by decide +kernel
theorem own_d1_24 : decode prog_56_method_4_code 24 = .ok (.lload 6, 2) := by decide +kernel
theorem own_d1_26 : decode prog_56_method_4_code 26 = .ok (.lsub, 1) := by decide +kernel
theorem own_d1_27 : decode prog_56_method_4_code 27 = .ok (.lcmp, 1) := by decide +kernel
theorem own_d1_28 : decode prog_56_method_4_code 28 = .ok (.ifCond .gt 10, 3) := by decide +kernel
theorem own_d1_31 : decode prog_56_method_4_code 31 = .ok (.lload_n 0, 1) := by decide +kernel
theorem own_d1_32 : decode prog_56_method_4_code 32 = .ok (.lload 6, 2) := by decide +kernel
theorem own_d1_34 : decode prog_56_method_4_code 34 = .ok (.ladd, 1) := by decide +kernel
theorem own_d1_35 : decode prog_56_method_4_code 35 = .ok (.goto 6, 3) := by decide +kernel
theorem own_d1_38 : decode prog_56_method_4_code 38 = .ok (.ldc2_w 7, 3) := by decide +kernel
theorem own_d1_41 : decode prog_56_method_4_code 41 = .ok (.lreturn, 1) := by decide +kernel
def own_rm (o a : Int64) : Int64 := o - (o / a) * a
def own_al (o a : Int64) : Int64 := if own_rm o a = (0 : Int64) then o else if ((9223372036854775807 : Int64) - (a - own_rm o a)) < o then (-1 : Int64) else o + (a - own_rm o a)
theorem own_ef_ald (m : MethodId) (y0 : Int64) (y1 : Int64) : entryFrame m #[(.long y0), (.long y1)] 8 = mkF m 0 #[.val (.long y0), .second, .val (.long y1), .second, .unset, .unset, .unset, .unset] [] := by first | (simp [entryFrame, mkF, argsToLocals, Value.category]; done) | rfl
set_option maxRecDepth 65536 in
set_option maxHeartbeats 40000000 in
theorem own_ald (l : Launch) (Z : State) (a0 : Array Value) (hw : ∀ d ∈ tables_1, d.before a0 Z = true) (y0 : Int64) (y1 : Int64)  (h0 : Heap) (n0 : Nat) (hy : y1 ≠ 0) :
    OwnCon l Z (⟨"com/example/interpolis/interpolis/frontend/CType$StructOrUnionType", "aligned", "(JJ)J"⟩ : MethodName) prog_56_method_4_code 8 (some .long) ({ frames := 0, cells := 0, slots := 0, locals := 0 } : Room) #[(.long y0), (.long y1)] h0 n0 (fun v h => v = some (.long (own_al y0 y1)) ∧ h0 = h) := by
  refine OwnCon.of own_pn0 (fun m => own_ef_ald m y0 y1) ?_
  intro p e s m below meth c s0 hx hby hml hown hnm hret hZ r
  have r1 : OwnW s0 n0 1 #[.val (.long y0), .second, .val (.long y1), .second, .unset, .unset, .unset, .unset] [(.long y0)] h0 0 0 := r.go fun T t X k => XS.lloadN X hx rfl (hb hby own_d1_0) rfl k
  have r2 : OwnW s0 n0 2 #[.val (.long y0), .second, .val (.long y1), .second, .unset, .unset, .unset, .unset] [(.long y1), (.long y0)] h0 0 0 := r1.go fun T t X k => XS.lloadN X hx rfl (hb hby own_d1_1) rfl k
  have r3 : OwnW s0 n0 3 #[.val (.long y0), .second, .val (.long y1), .second, .unset, .unset, .unset, .unset] [(.long (y0 - (y0 / y1) * y1))] h0 0 0 := r2.go fun T t X k => XS.lrem X hx rfl (hb hby own_d1_2) rfl hy k
  have r3 : OwnW s0 n0 3 #[.val (.long y0), .second, .val (.long y1), .second, .unset, .unset, .unset, .unset] [(.long (own_rm y0 y1))] h0 0 0 := r3
  have r4 : OwnW s0 n0 5 #[.val (.long y0), .second, .val (.long y1), .second, .val (.long (own_rm y0 y1)), .second, .unset, .unset] [] h0 0 0 := r3.go fun T t X k => XS.lstore X hx rfl (hb hby own_d1_3) rfl (l' := #[.val (.long y0), .second, .val (.long y1), .second, .val (.long (own_rm y0 y1)), .second, .unset, .unset]) rfl k
  have r5 : OwnW s0 n0 7 #[.val (.long y0), .second, .val (.long y1), .second, .val (.long (own_rm y0 y1)), .second, .unset, .unset] [(.long (own_rm y0 y1))] h0 0 0 := r4.go fun T t X k => XS.lload X hx rfl (hb hby own_d1_5) rfl k
  have r6 : OwnW s0 n0 8 #[.val (.long y0), .second, .val (.long y1), .second, .val (.long (own_rm y0 y1)), .second, .unset, .unset] [(.long (0 : Int64)), (.long (own_rm y0 y1))] h0 0 0 := r5.go fun T t X k => XS.lconst X hx rfl (hb hby own_d1_7) k
  have r7 : OwnW s0 n0 9 #[.val (.long y0), .second, .val (.long y1), .second, .val (.long (own_rm y0 y1)), .second, .unset, .unset] [(.int (lcmpW (own_rm y0 y1) (0 : Int64)))] h0 0 0 := r6.go fun T t X k => XS.lcmp X hx rfl (hb hby own_d1_8) rfl k
  by_cases h1 : (own_rm y0 y1) = (0 : Int64)
  · have ra := r7
    have ra8 : OwnW s0 n0 12 #[.val (.long y0), .second, .val (.long y1), .second, .val (.long (own_rm y0 y1)), .second, .unset, .unset] [] h0 0 0 := ra.go fun T t X k => XS.ifNo X hx rfl (hb hby own_d1_9) rfl ((if0 _ _).trans (teq ((lw_eq _ _).mpr h1)).2) k
    have ra9 : OwnW s0 n0 13 #[.val (.long y0), .second, .val (.long y1), .second, .val (.long (own_rm y0 y1)), .second, .unset, .unset] [(.long y0)] h0 0 0 := ra8.go fun T t X k => XS.lloadN X hx rfl (hb hby own_d1_12) rfl k
    have ra10 := ra9.retW hx hret rfl rfl (Or.inr (Or.inl ⟨rfl, rfl, _, rfl⟩)) (hb hby own_d1_13)
    exact ⟨_, _, 0, 0, ⟨by simp only [own_al, if_pos h1], rfl⟩, Nat.le_refl _, Nat.le_refl _, ra10⟩
  · have rb := r7
    have rb8 : OwnW s0 n0 14 #[.val (.long y0), .second, .val (.long y1), .second, .val (.long (own_rm y0 y1)), .second, .unset, .unset] [] h0 0 0 := rb.go fun T t X k => XS.ifYes X hx rfl (pc0 := 9) (pc' := 14) rfl (hb hby own_d1_9) rfl ((if0 _ _).trans (feq (fun q => h1 ((lw_eq _ _).mp q))).2) (by decide) (by decide) k
    have rb9 : OwnW s0 n0 15 #[.val (.long y0), .second, .val (.long y1), .second, .val (.long (own_rm y0 y1)), .second, .unset, .unset] [(.long y1)] h0 0 0 := rb8.go fun T t X k => XS.lloadN X hx rfl (hb hby own_d1_14) rfl k
    have rb10 : OwnW s0 n0 17 #[.val (.long y0), .second, .val (.long y1), .second, .val (.long (own_rm y0 y1)), .second, .unset, .unset] [(.long (own_rm y0 y1)), (.long y1)] h0 0 0 := rb9.go fun T t X k => XS.lload X hx rfl (hb hby own_d1_15) rfl k
    have rb11 : OwnW s0 n0 18 #[.val (.long y0), .second, .val (.long y1), .second, .val (.long (own_rm y0 y1)), .second, .unset, .unset] [(.long (y1 - (own_rm y0 y1)))] h0 0 0 := rb10.go fun T t X k => XS.lsub X hx rfl (hb hby own_d1_17) rfl k
    have rb12 : OwnW s0 n0 20 #[.val (.long y0), .second, .val (.long y1), .second, .val (.long (own_rm y0 y1)), .second, .val (.long (y1 - (own_rm y0 y1))), .second] [] h0 0 0 := rb11.go fun T t X k => XS.lstore X hx rfl (hb hby own_d1_18) rfl (l' := #[.val (.long y0), .second, .val (.long y1), .second, .val (.long (own_rm y0 y1)), .second, .val (.long (y1 - (own_rm y0 y1))), .second]) rfl k
    have rb13 : OwnW s0 n0 21 #[.val (.long y0), .second, .val (.long y1), .second, .val (.long (own_rm y0 y1)), .second, .val (.long (y1 - (own_rm y0 y1))), .second] [(.long y0)] h0 0 0 := rb12.go fun T t X k => XS.lloadN X hx rfl (hb hby own_d1_20) rfl k
    have rb14 : OwnW s0 n0 24 #[.val (.long y0), .second, .val (.long y1), .second, .val (.long (own_rm y0 y1)), .second, .val (.long (y1 - (own_rm y0 y1))), .second] [(.long (9223372036854775807 : Int64)), (.long y0)] h0 0 0 := rb13.goX fun T t ls X eT k => X.ldc2J hx hown (mvT hZ (hw _ (List.mem_of_getElem? (i := 6) rfl))) rfl (hb hby own_d1_21) k
    have rb15 : OwnW s0 n0 26 #[.val (.long y0), .second, .val (.long y1), .second, .val (.long (own_rm y0 y1)), .second, .val (.long (y1 - (own_rm y0 y1))), .second] [(.long (y1 - (own_rm y0 y1))), (.long (9223372036854775807 : Int64)), (.long y0)] h0 0 0 := rb14.go fun T t X k => XS.lload X hx rfl (hb hby own_d1_24) rfl k
    have rb16 : OwnW s0 n0 27 #[.val (.long y0), .second, .val (.long y1), .second, .val (.long (own_rm y0 y1)), .second, .val (.long (y1 - (own_rm y0 y1))), .second] [(.long ((9223372036854775807 : Int64) - (y1 - (own_rm y0 y1)))), (.long y0)] h0 0 0 := rb15.go fun T t X k => XS.lsub X hx rfl (hb hby own_d1_26) rfl k
    have rb17 : OwnW s0 n0 28 #[.val (.long y0), .second, .val (.long y1), .second, .val (.long (own_rm y0 y1)), .second, .val (.long (y1 - (own_rm y0 y1))), .second] [(.int (lcmpW y0 ((9223372036854775807 : Int64) - (y1 - (own_rm y0 y1)))))] h0 0 0 := rb16.go fun T t X k => XS.lcmp X hx rfl (hb hby own_d1_27) rfl k
    by_cases h2 : ((9223372036854775807 : Int64) - (y1 - (own_rm y0 y1))) < y0
    · have rc := rb17
      have rc18 : OwnW s0 n0 38 #[.val (.long y0), .second, .val (.long y1), .second, .val (.long (own_rm y0 y1)), .second, .val (.long (y1 - (own_rm y0 y1))), .second] [] h0 0 0 := rc.go fun T t X k => XS.ifYes X hx rfl (pc0 := 28) (pc' := 38) rfl (hb hby own_d1_28) rfl ((if0 _ _).trans (tlt ((lw_gt _ _).mpr h2)).2.2.1) (by decide) (by decide) k
      have rc19 : OwnW s0 n0 41 #[.val (.long y0), .second, .val (.long y1), .second, .val (.long (own_rm y0 y1)), .second, .val (.long (y1 - (own_rm y0 y1))), .second] [(.long (-1 : Int64))] h0 0 0 := rc18.goX fun T t ls X eT k => X.ldc2J hx hown (mvT hZ (hw _ (List.mem_of_getElem? (i := 7) rfl))) rfl (hb hby own_d1_38) k
      have rc20 := rc19.retW hx hret rfl rfl (Or.inr (Or.inl ⟨rfl, rfl, _, rfl⟩)) (hb hby own_d1_41)
      exact ⟨_, _, 0, 0, ⟨by simp only [own_al, if_neg h1, if_pos h2], rfl⟩, Nat.le_refl _, Nat.le_refl _, rc20⟩
    · have rd := rb17
      have rd18 : OwnW s0 n0 31 #[.val (.long y0), .second, .val (.long y1), .second, .val (.long (own_rm y0 y1)), .second, .val (.long (y1 - (own_rm y0 y1))), .second] [] h0 0 0 := rd.go fun T t X k => XS.ifNo X hx rfl (hb hby own_d1_28) rfl ((if0 _ _).trans (flt (fun q => h2 ((lw_gt _ _).mp q))).2.2.1) k
      have rd19 : OwnW s0 n0 32 #[.val (.long y0), .second, .val (.long y1), .second, .val (.long (own_rm y0 y1)), .second, .val (.long (y1 - (own_rm y0 y1))), .second] [(.long y0)] h0 0 0 := rd18.go fun T t X k => XS.lloadN X hx rfl (hb hby own_d1_31) rfl k
      have rd20 : OwnW s0 n0 34 #[.val (.long y0), .second, .val (.long y1), .second, .val (.long (own_rm y0 y1)), .second, .val (.long (y1 - (own_rm y0 y1))), .second] [(.long (y1 - (own_rm y0 y1))), (.long y0)] h0 0 0 := rd19.go fun T t X k => XS.lload X hx rfl (hb hby own_d1_32) rfl k
      have rd21 : OwnW s0 n0 35 #[.val (.long y0), .second, .val (.long y1), .second, .val (.long (own_rm y0 y1)), .second, .val (.long (y1 - (own_rm y0 y1))), .second] [(.long (y0 + (y1 - (own_rm y0 y1))))] h0 0 0 := rd20.go fun T t X k => XS.ladd X hx rfl (hb hby own_d1_34) rfl k
      have rd22 : OwnW s0 n0 41 #[.val (.long y0), .second, .val (.long y1), .second, .val (.long (own_rm y0 y1)), .second, .val (.long (y1 - (own_rm y0 y1))), .second] [(.long (y0 + (y1 - (own_rm y0 y1))))] h0 0 0 := rd21.go fun T t X k => XS.goto X hx rfl (pc0 := 35) (pc' := 41) rfl (hb hby own_d1_35) (by decide) (by decide) k
      have rd23 := rd22.retW hx hret rfl rfl (Or.inr (Or.inl ⟨rfl, rfl, _, rfl⟩)) (hb hby own_d1_41)
      exact ⟨_, _, 0, 0, ⟨by simp only [own_al, if_neg h1, if_neg h2], rfl⟩, Nat.le_refl _, Nat.le_refl _, rd23⟩
theorem own_mxi : (9223372036854775807 : Int64).toInt = 9223372036854775807 := by decide
theorem own_off (x : Int64) : 0 ≤ ((9223372036854775807 : Int64) - (x &&& (65535 : Int64))).toInt := by
  have e := c_lsub (9223372036854775807 : Int64) (x &&& (65535 : Int64))
  have k := c_maskL x (65535 : Int64) 16 (by decide) (by decide)
  have r := rng64 ((9223372036854775807 : Int64) - (x &&& (65535 : Int64)))
  rw [own_mxi] at e
  have k1 : (0 : Int) ≤ x.toInt % ((2 ^ 16 : Nat) : Int) := Int.emod_nonneg _ (by decide)
  have k2 : x.toInt % ((2 ^ 16 : Nat) : Int) < ((2 ^ 16 : Nat) : Int) := Int.emod_lt_of_pos _ (by decide)
  have k3 : ((2 ^ 16 : Nat) : Int) = 65536 := by decide
  omega
theorem own_nn (x : Int64) : 0 ≤ (x &&& (9223372036854775807 : Int64)).toInt := by
  have k := c_maskL x (9223372036854775807 : Int64) 63 (by decide) (by decide)
  have k1 : (0 : Int) ≤ x.toInt % ((2 ^ 63 : Nat) : Int) := Int.emod_nonneg _ (by decide)
  omega
theorem own_sh (x : Int64) : 0 < ((1 : Int64) <<< (((x.toInt32 &&& (63 : Int32)) % (63 : Int32)) &&& 0x3f).toInt64).toInt := by
  have k := c_mask x.toInt32 (63 : Int32) 6 (by decide) (by decide)
  have k1 : (0 : Int) ≤ x.toInt32.toInt % ((2 ^ 6 : Nat) : Int) := Int.emod_nonneg _ (by decide)
  have q := (c_iremV (x.toInt32 &&& (63 : Int32)) (63 : Int32)).1 (by omega) (by decide)
  have k3 : (63 : Int32).toInt = 63 := by decide
  generalize (x.toInt32 &&& (63 : Int32)) % (63 : Int32) = y at *
  have b1 : y.toBitVec.toInt = y.toInt := rfl
  rw [BitVec.toInt_eq_toNat_cond] at b1
  have b2 : y.toBitVec.toNat < 2 ^ 32 := y.toBitVec.isLt
  have b3 : y.toBitVec.toNat ≤ 62 := by split at b1 <;> omega
  have b4 : y.toBitVec.toNat % 64 = y.toBitVec.toNat := Nat.mod_eq_of_lt (by omega)
  have c1 := c_lshl (1 : Int64) y y.toBitVec.toNat b4
  have c2 : 2 ^ y.toBitVec.toNat ≤ 2 ^ 62 := Nat.pow_le_pow_right (by decide) b3
  have c3 : 0 < 2 ^ y.toBitVec.toNat := Nat.pow_pos (by decide)
  have c4 : (1 : Int64).toInt = 1 := by decide
  have c5 := rng64 ((1 : Int64) <<< (y &&& 0x3f).toInt64)
  generalize 2 ^ y.toBitVec.toNat = z at *
  rw [c4] at c1
  have c6 : (2 : Nat) ^ 62 = 4611686018427387904 := by decide
  omega
theorem own_case (O A q t w : Int) (ha : 0 < A) (hO : O ≤ 9223372036854775807) (p1 : 0 ≤ w) (p3 : w + t * A = O) (d2 : q * A ≤ 9223372036854775807) (d4 : 9223372036854775807 < (q + 1) * A) :
    (w = 0 → O ≤ q * A) ∧ (w ≠ 0 → 9223372036854775807 < O + (A - w) → q * A < O) ∧ (O + (A - w) ≤ 9223372036854775807 → O + (A - w) ≤ q * A ∧ O + (A - w) = (t + 1) * A) := by
  have x1 : (t + 1) * A = t * A + A := by rw [Int.add_mul, Int.one_mul]
  refine ⟨fun z => ?_, fun z h => ?_, fun h => ?_⟩
  · have h1 : t * A < (q + 1) * A := by omega
    have h2 : t < q + 1 := Int.lt_of_mul_lt_mul_right h1 (Int.le_of_lt ha)
    have h3 : t * A ≤ q * A := Int.mul_le_mul_of_nonneg_right (by omega) (Int.le_of_lt ha)
    omega
  · have h1 : q * A < (t + 1) * A := by omega
    have h2 : q < t + 1 := Int.lt_of_mul_lt_mul_right h1 (Int.le_of_lt ha)
    have h3 : q * A ≤ t * A := Int.mul_le_mul_of_nonneg_right (by omega) (Int.le_of_lt ha)
    omega
  · have h1 : (t + 1) * A < (q + 1) * A := by omega
    have h2 : t + 1 < q + 1 := Int.lt_of_mul_lt_mul_right h1 (Int.le_of_lt ha)
    have h3 : (t + 1) * A ≤ q * A := Int.mul_le_mul_of_nonneg_right (by omega) (Int.le_of_lt ha)
    exact ⟨by omega, by omega⟩
theorem own_remI (o a : Int64) (ho : 0 ≤ o.toInt) : (own_rm o a).toInt = o.toInt % a.toInt := (c_lrem o a a.toInt rfl).1 ho
theorem own_pad (o a : Int64) (ho : 0 ≤ o.toInt) (ha : 0 < a.toInt) : (a - own_rm o a).toInt = a.toInt - o.toInt % a.toInt := by
  have e := c_lsub a (own_rm o a)
  rw [own_remI o a ho] at e
  have r := rng64 (a - own_rm o a); have ra := rng64 a
  have p1 : 0 ≤ o.toInt % a.toInt := Int.emod_nonneg _ (by omega)
  have p2 : o.toInt % a.toInt < a.toInt := Int.emod_lt_of_pos _ ha
  generalize o.toInt % a.toInt = w at *
  omega
theorem own_top (o a : Int64) (ho : 0 ≤ o.toInt) (ha : 0 < a.toInt) : ((9223372036854775807 : Int64) - (a - own_rm o a)).toInt = 9223372036854775807 - (a.toInt - o.toInt % a.toInt) := by
  have e := c_lsub (9223372036854775807 : Int64) (a - own_rm o a)
  rw [own_mxi, own_pad o a ho ha] at e
  have r := rng64 ((9223372036854775807 : Int64) - (a - own_rm o a)); have ra := rng64 a
  have p1 : 0 ≤ o.toInt % a.toInt := Int.emod_nonneg _ (by omega)
  have p2 : o.toInt % a.toInt < a.toInt := Int.emod_lt_of_pos _ ha
  generalize o.toInt % a.toInt = w at *
  omega
theorem own_sum (o a : Int64) (ho : 0 ≤ o.toInt) (ha : 0 < a.toInt) (h : o.toInt + (a.toInt - o.toInt % a.toInt) ≤ 9223372036854775807) : (o + (a - own_rm o a)).toInt = o.toInt + (a.toInt - o.toInt % a.toInt) := by
  have e := c_ladd o (a - own_rm o a)
  rw [own_pad o a ho ha] at e
  have r := rng64 (o + (a - own_rm o a))
  have p1 : 0 ≤ o.toInt % a.toInt := Int.emod_nonneg _ (by omega)
  have p2 : o.toInt % a.toInt < a.toInt := Int.emod_lt_of_pos _ ha
  generalize o.toInt % a.toInt = w at *
  omega
theorem own_lm (a : Int64) (ha : 0 < a.toInt) : (((9223372036854775807 : Int64) / a) * a).toInt = 9223372036854775807 / a.toInt * a.toInt ∧ (9223372036854775807 : Int) / a.toInt * a.toInt ≤ 9223372036854775807 ∧ (9223372036854775807 : Int) < (9223372036854775807 / a.toInt + 1) * a.toInt := by
  have m1 : a ≠ -1 := by intro q; subst q; exact absurd ha (by decide)
  have eD : ((9223372036854775807 : Int64) / a).toInt = 9223372036854775807 / a.toInt := by have := (c_ldiv (9223372036854775807 : Int64) a a.toInt rfl m1).1 (by decide); rw [this, own_mxi]
  have eM := c_lmul ((9223372036854775807 : Int64) / a) a
  rw [eD] at eM
  have rM := rng64 (((9223372036854775807 : Int64) / a) * a)
  have d1 : (0 : Int) ≤ 9223372036854775807 / a.toInt := Int.ediv_nonneg (by decide) (Int.le_of_lt ha)
  have d2 : (9223372036854775807 : Int) / a.toInt * a.toInt ≤ 9223372036854775807 := Int.ediv_mul_le _ (by omega)
  have d3 : (0 : Int) ≤ (9223372036854775807 : Int) / a.toInt * a.toInt := Int.mul_nonneg d1 (Int.le_of_lt ha)
  have d4 : (9223372036854775807 : Int) < (9223372036854775807 / a.toInt + 1) * a.toInt := Int.lt_ediv_add_one_mul_self _ ha
  refine ⟨?_, d2, d4⟩
  generalize (9223372036854775807 : Int) / a.toInt * a.toInt = w at *
  omega
/-- THE PLAIN LAW: the least multiple of a that isn't below o, or -1 where there is none among the longs -/
theorem own_plain (o a : Int64) (ho : 0 ≤ o.toInt) (ha : 0 < a.toInt) :
    (((9223372036854775807 : Int64) / a) * a < o → own_al o a = (-1 : Int64)) ∧ (¬ ((9223372036854775807 : Int64) / a) * a < o → ¬ own_al o a < o ∧ own_rm (own_al o a) a = (0 : Int64) ∧ own_al o a - o < a) := by
  obtain ⟨lm, d2, d4⟩ := own_lm a ha
  have n0 : (0 : Int64).toInt = 0 := by decide
  have p1 : 0 ≤ o.toInt % a.toInt := Int.emod_nonneg _ (by omega)
  have p2 : o.toInt % a.toInt < a.toInt := Int.emod_lt_of_pos _ ha
  have p3 : o.toInt % a.toInt + o.toInt / a.toInt * a.toInt = o.toInt := by rw [Int.mul_comm]; exact Int.emod_add_mul_ediv _ _
  have hO : o.toInt ≤ 9223372036854775807 := by have := rng64 o; omega
  obtain ⟨c1, c2, c3⟩ := own_case o.toInt a.toInt _ _ _ ha hO p1 p3 d2 d4
  rw [Int64.lt_iff_toInt_lt, lm]
  by_cases h1 : own_rm o a = (0 : Int64)
  · have z : o.toInt % a.toInt = 0 := by rw [← own_remI o a ho, h1, n0]
    have ev : own_al o a = o := by simp only [own_al, if_pos h1]
    refine ⟨fun h => absurd h (Int.not_lt.mpr (c1 z)), fun _ => ?_⟩
    rw [ev]
    refine ⟨by rw [Int64.lt_iff_toInt_lt]; exact Int.lt_irrefl _, h1, ?_⟩
    have e0 := c_lsub o o
    have r0 := rng64 (o - o)
    rw [Int64.lt_iff_toInt_lt]
    clear lm d2 d4 p1 p2 p3 c1 c2 c3 z
    omega
  · have z : o.toInt % a.toInt ≠ 0 := fun z => h1 (Int64.toInt_inj.mp (by rw [own_remI o a ho, z, n0]))
    by_cases h2 : ((9223372036854775807 : Int64) - (a - own_rm o a)) < o
    · have ev : own_al o a = (-1 : Int64) := by simp only [own_al, if_neg h1, if_pos h2]
      rw [Int64.lt_iff_toInt_lt, own_top o a ho ha] at h2
      exact ⟨fun _ => ev, fun h => absurd (c2 z (by clear lm d2 d4 p3 c1 c2 c3 h; omega)) h⟩
    · have ev : own_al o a = o + (a - own_rm o a) := by simp only [own_al, if_neg h1, if_neg h2]
      rw [Int64.lt_iff_toInt_lt, own_top o a ho ha] at h2
      have hs : o.toInt + (a.toInt - o.toInt % a.toInt) ≤ 9223372036854775807 := by clear lm d2 d4 p3 c1 c2 c3; omega
      have ea := own_sum o a ho ha hs
      obtain ⟨c4, c5⟩ := c3 hs
      refine ⟨fun h => absurd h (by clear lm d2 d4 p3 c1 c2 c3; omega), fun _ => ?_⟩
      rw [ev]
      generalize o + (a - own_rm o a) = r at *
      refine ⟨by rw [Int64.lt_iff_toInt_lt, ea]; clear lm d2 d4 p3 c1 c2 c3 c4 c5; omega, ?_, ?_⟩
      · have := own_remI r a (by rw [ea]; clear lm d2 d4 p3 c1 c2 c3 c4 c5; omega)
        rw [ea, c5, Int.mul_emod_left] at this
        exact Int64.toInt_inj.mp (by rw [n0]; exact this)
      · have e0 := c_lsub r o
        have r0 := rng64 (r - o)
        have r1 := rng64 a
        rw [Int64.lt_iff_toInt_lt]
        rw [ea] at e0
        clear lm d2 d4 p3 c1 c2 c3 c4 c5 ea
        generalize o.toInt % a.toInt = w at *
        omega
theorem own_ef_law (m : MethodId) (x0 : Int64) (x1 : Int64) (x2 : Int32) : entryFrame m #[(.long x0), (.long x1), (.int x2)] maxLocals = mkF m 0 #[.val (.long x0), .second, .val (.long x1), .second, .val (.int x2), .unset, .unset, .unset, .unset, .unset, .unset, .unset, .unset] [] := by first | (simp [entryFrame, mkF, argsToLocals, Value.category, maxLocals]; done) | rfl
set_option maxRecDepth 65536 in
set_option maxHeartbeats 40000000 in
theorem own_law (l : Launch) (Z : State) (a0 : Array Value) (hw : ∀ d ∈ tables_1, d.before a0 Z = true) (x0 : Int64) (x1 : Int64) (x2 : Int32)  (h0 : Heap) (n0 : Nat)  :
    OwnCon l Z x code maxLocals ret room_1 #[(.long x0), (.long x1), (.int x2)] h0 n0 (fun v h => v = some (.int 1)) := by
  refine OwnCon.of own_pn1 (fun m => own_ef_law m x0 x1 x2) ?_
  intro p e s m below meth c s0 hx hby hml hown hnm hret hZ r
  have hown : s.vm.findClass "com/example/interpolis/interpolis/frontend/StructOrUnionTypeAlignedPinLaw" = some m.cls := hown
  have r1 : OwnW s0 n0 2 #[.val (.long x0), .second, .val (.long x1), .second, .val (.int x2), .unset, .unset, .unset, .unset, .unset, .unset, .unset, .unset] [(.int x2)] h0 0 0 := r.go fun T t X k => XS.iload X hx rfl (hb hby at_0) rfl k
  have r2 : OwnW s0 n0 3 #[.val (.long x0), .second, .val (.long x1), .second, .val (.int x2), .unset, .unset, .unset, .unset, .unset, .unset, .unset, .unset] [(.int (1 : Int32)), (.int x2)] h0 0 0 := r1.go fun T t X k => XS.iconst X hx rfl (hb hby at_2) k
  have r3 : OwnW s0 n0 4 #[.val (.long x0), .second, .val (.long x1), .second, .val (.int x2), .unset, .unset, .unset, .unset, .unset, .unset, .unset, .unset] [(.int (x2 &&& (1 : Int32)))] h0 0 0 := r2.go fun T t X k => XS.iand X hx rfl (hb hby at_3) rfl k
  obtain ⟨yo, hyo, r⟩ : ∃ yo : Int64, 0 ≤ yo.toInt ∧ OwnW (p := p) (l := l) (e := e) (R := room_1) (s := s) (m := m) (args := #[(.long x0), (.long x1), (.int x2)]) (below := below) (meth := meth) (c := c) s0 n0 24 #[.val (.long x0), .second, .val (.long x1), .second, .val (.int x2), .unset, .unset, .unset, .unset, .unset, .unset, .unset, .unset] [(.long yo)] h0 0 0 := by
    by_cases hc : (x2 &&& (1 : Int32)) = (0 : Int32)
    · have ra := r3
      have ra4 : OwnW s0 n0 19 #[.val (.long x0), .second, .val (.long x1), .second, .val (.int x2), .unset, .unset, .unset, .unset, .unset, .unset, .unset, .unset] [] h0 0 0 := ra.go fun T t X k => XS.ifYes X hx rfl (pc0 := 4) (pc' := 19) rfl (hb hby at_4) rfl ((if0 _ _).trans (teq hc).1) (by decide) (by decide) k
      have ra5 : OwnW s0 n0 20 #[.val (.long x0), .second, .val (.long x1), .second, .val (.int x2), .unset, .unset, .unset, .unset, .unset, .unset, .unset, .unset] [(.long x0)] h0 0 0 := ra4.go fun T t X k => XS.lloadN X hx rfl (hb hby at_19) rfl k
      have ra6 : OwnW s0 n0 23 #[.val (.long x0), .second, .val (.long x1), .second, .val (.int x2), .unset, .unset, .unset, .unset, .unset, .unset, .unset, .unset] [(.long (9223372036854775807 : Int64)), (.long x0)] h0 0 0 := ra5.goX fun T t ls X eT k => X.ldc2J hx hown (mvT hZ (hw _ (List.mem_of_getElem? (i := 0) rfl))) rfl (hb hby at_20) k
      have ra7 : OwnW s0 n0 24 #[.val (.long x0), .second, .val (.long x1), .second, .val (.int x2), .unset, .unset, .unset, .unset, .unset, .unset, .unset, .unset] [(.long (x0 &&& (9223372036854775807 : Int64)))] h0 0 0 := ra6.go fun T t X k => XS.land X hx rfl (hb hby at_23) rfl k
      exact ⟨_, own_nn _, ra7⟩
    · have rb := r3
      have rb4 : OwnW s0 n0 7 #[.val (.long x0), .second, .val (.long x1), .second, .val (.int x2), .unset, .unset, .unset, .unset, .unset, .unset, .unset, .unset] [] h0 0 0 := rb.go fun T t X k => XS.ifNo X hx rfl (hb hby at_4) rfl ((if0 _ _).trans (feq hc).1) k
      have rb5 : OwnW s0 n0 10 #[.val (.long x0), .second, .val (.long x1), .second, .val (.int x2), .unset, .unset, .unset, .unset, .unset, .unset, .unset, .unset] [(.long (9223372036854775807 : Int64))] h0 0 0 := rb4.goX fun T t ls X eT k => X.ldc2J hx hown (mvT hZ (hw _ (List.mem_of_getElem? (i := 0) rfl))) rfl (hb hby at_7) k
      have rb6 : OwnW s0 n0 11 #[.val (.long x0), .second, .val (.long x1), .second, .val (.int x2), .unset, .unset, .unset, .unset, .unset, .unset, .unset, .unset] [(.long x0), (.long (9223372036854775807 : Int64))] h0 0 0 := rb5.go fun T t X k => XS.lloadN X hx rfl (hb hby at_10) rfl k
      have rb7 : OwnW s0 n0 14 #[.val (.long x0), .second, .val (.long x1), .second, .val (.int x2), .unset, .unset, .unset, .unset, .unset, .unset, .unset, .unset] [(.long (65535 : Int64)), (.long x0), (.long (9223372036854775807 : Int64))] h0 0 0 := rb6.goX fun T t ls X eT k => X.ldc2J hx hown (mvT hZ (hw _ (List.mem_of_getElem? (i := 5) rfl))) rfl (hb hby at_11) k
      have rb8 : OwnW s0 n0 15 #[.val (.long x0), .second, .val (.long x1), .second, .val (.int x2), .unset, .unset, .unset, .unset, .unset, .unset, .unset, .unset] [(.long (x0 &&& (65535 : Int64))), (.long (9223372036854775807 : Int64))] h0 0 0 := rb7.go fun T t X k => XS.land X hx rfl (hb hby at_14) rfl k
      have rb9 : OwnW s0 n0 16 #[.val (.long x0), .second, .val (.long x1), .second, .val (.int x2), .unset, .unset, .unset, .unset, .unset, .unset, .unset, .unset] [(.long ((9223372036854775807 : Int64) - (x0 &&& (65535 : Int64))))] h0 0 0 := rb8.go fun T t X k => XS.lsub X hx rfl (hb hby at_15) rfl k
      have rb10 : OwnW s0 n0 24 #[.val (.long x0), .second, .val (.long x1), .second, .val (.int x2), .unset, .unset, .unset, .unset, .unset, .unset, .unset, .unset] [(.long ((9223372036854775807 : Int64) - (x0 &&& (65535 : Int64))))] h0 0 0 := rb9.go fun T t X k => XS.goto X hx rfl (pc0 := 16) (pc' := 24) rfl (hb hby at_16) (by decide) (by decide) k
      exact ⟨_, own_off _, rb10⟩
  have r24 : OwnW s0 n0 26 #[.val (.long x0), .second, .val (.long x1), .second, .val (.int x2), .val (.long yo), .second, .unset, .unset, .unset, .unset, .unset, .unset] [] h0 0 0 := r.go fun T t X k => XS.lstore X hx rfl (hb hby at_24) rfl (l' := #[.val (.long x0), .second, .val (.long x1), .second, .val (.int x2), .val (.long yo), .second, .unset, .unset, .unset, .unset, .unset, .unset]) rfl k
  have r25 : OwnW s0 n0 28 #[.val (.long x0), .second, .val (.long x1), .second, .val (.int x2), .val (.long yo), .second, .unset, .unset, .unset, .unset, .unset, .unset] [(.int x2)] h0 0 0 := r24.go fun T t X k => XS.iload X hx rfl (hb hby at_26) rfl k
  have r26 : OwnW s0 n0 29 #[.val (.long x0), .second, .val (.long x1), .second, .val (.int x2), .val (.long yo), .second, .unset, .unset, .unset, .unset, .unset, .unset] [(.int (2 : Int32)), (.int x2)] h0 0 0 := r25.go fun T t X k => XS.iconst X hx rfl (hb hby at_28) k
  have r27 : OwnW s0 n0 30 #[.val (.long x0), .second, .val (.long x1), .second, .val (.int x2), .val (.long yo), .second, .unset, .unset, .unset, .unset, .unset, .unset] [(.int (x2 &&& (2 : Int32)))] h0 0 0 := r26.go fun T t X k => XS.iand X hx rfl (hb hby at_29) rfl k
  obtain ⟨yb, hyb, r⟩ : ∃ yb : Int64, 0 ≤ yb.toInt ∧ OwnW (p := p) (l := l) (e := e) (R := room_1) (s := s) (m := m) (args := #[(.long x0), (.long x1), (.int x2)]) (below := below) (meth := meth) (c := c) s0 n0 51 #[.val (.long x0), .second, .val (.long x1), .second, .val (.int x2), .val (.long yo), .second, .unset, .unset, .unset, .unset, .unset, .unset] [(.long yb)] h0 0 0 := by
    by_cases hc : (x2 &&& (2 : Int32)) = (0 : Int32)
    · have ra := r27
      have ra28 : OwnW s0 n0 46 #[.val (.long x0), .second, .val (.long x1), .second, .val (.int x2), .val (.long yo), .second, .unset, .unset, .unset, .unset, .unset, .unset] [] h0 0 0 := ra.go fun T t X k => XS.ifYes X hx rfl (pc0 := 30) (pc' := 46) rfl (hb hby at_30) rfl ((if0 _ _).trans (teq hc).1) (by decide) (by decide) k
      have ra29 : OwnW s0 n0 47 #[.val (.long x0), .second, .val (.long x1), .second, .val (.int x2), .val (.long yo), .second, .unset, .unset, .unset, .unset, .unset, .unset] [(.long x1)] h0 0 0 := ra28.go fun T t X k => XS.lloadN X hx rfl (hb hby at_46) rfl k
      have ra30 : OwnW s0 n0 50 #[.val (.long x0), .second, .val (.long x1), .second, .val (.int x2), .val (.long yo), .second, .unset, .unset, .unset, .unset, .unset, .unset] [(.long (9223372036854775807 : Int64)), (.long x1)] h0 0 0 := ra29.goX fun T t ls X eT k => X.ldc2J hx hown (mvT hZ (hw _ (List.mem_of_getElem? (i := 0) rfl))) rfl (hb hby at_47) k
      have ra31 : OwnW s0 n0 51 #[.val (.long x0), .second, .val (.long x1), .second, .val (.int x2), .val (.long yo), .second, .unset, .unset, .unset, .unset, .unset, .unset] [(.long (x1 &&& (9223372036854775807 : Int64)))] h0 0 0 := ra30.go fun T t X k => XS.land X hx rfl (hb hby at_50) rfl k
      exact ⟨_, own_nn _, ra31⟩
    · have rb := r27
      have rb28 : OwnW s0 n0 33 #[.val (.long x0), .second, .val (.long x1), .second, .val (.int x2), .val (.long yo), .second, .unset, .unset, .unset, .unset, .unset, .unset] [] h0 0 0 := rb.go fun T t X k => XS.ifNo X hx rfl (hb hby at_30) rfl ((if0 _ _).trans (feq hc).1) k
      have rb29 : OwnW s0 n0 34 #[.val (.long x0), .second, .val (.long x1), .second, .val (.int x2), .val (.long yo), .second, .unset, .unset, .unset, .unset, .unset, .unset] [(.long (1 : Int64))] h0 0 0 := rb28.go fun T t X k => XS.lconst X hx rfl (hb hby at_33) k
      have rb30 : OwnW s0 n0 35 #[.val (.long x0), .second, .val (.long x1), .second, .val (.int x2), .val (.long yo), .second, .unset, .unset, .unset, .unset, .unset, .unset] [(.long x1), (.long (1 : Int64))] h0 0 0 := rb29.go fun T t X k => XS.lloadN X hx rfl (hb hby at_34) rfl k
      have rb31 : OwnW s0 n0 36 #[.val (.long x0), .second, .val (.long x1), .second, .val (.int x2), .val (.long yo), .second, .unset, .unset, .unset, .unset, .unset, .unset] [(.int (x1.toInt32)), (.long (1 : Int64))] h0 0 0 := rb30.go fun T t X k => XS.l2i X hx rfl (hb hby at_35) rfl k
      have rb32 : OwnW s0 n0 38 #[.val (.long x0), .second, .val (.long x1), .second, .val (.int x2), .val (.long yo), .second, .unset, .unset, .unset, .unset, .unset, .unset] [(.int (63 : Int32)), (.int (x1.toInt32)), (.long (1 : Int64))] h0 0 0 := rb31.go fun T t X k => XS.bipush X hx rfl (hb hby at_36) k
      have rb33 : OwnW s0 n0 39 #[.val (.long x0), .second, .val (.long x1), .second, .val (.int x2), .val (.long yo), .second, .unset, .unset, .unset, .unset, .unset, .unset] [(.int ((x1.toInt32) &&& (63 : Int32))), (.long (1 : Int64))] h0 0 0 := rb32.go fun T t X k => XS.iand X hx rfl (hb hby at_38) rfl k
      have rb34 : OwnW s0 n0 41 #[.val (.long x0), .second, .val (.long x1), .second, .val (.int x2), .val (.long yo), .second, .unset, .unset, .unset, .unset, .unset, .unset] [(.int (63 : Int32)), (.int ((x1.toInt32) &&& (63 : Int32))), (.long (1 : Int64))] h0 0 0 := rb33.go fun T t X k => XS.bipush X hx rfl (hb hby at_39) k
      have rb35 : OwnW s0 n0 42 #[.val (.long x0), .second, .val (.long x1), .second, .val (.int x2), .val (.long yo), .second, .unset, .unset, .unset, .unset, .unset, .unset] [(.int (((x1.toInt32) &&& (63 : Int32)) % (63 : Int32))), (.long (1 : Int64))] h0 0 0 := rb34.goX fun T t ls X eT k => Jvm.RoadKit.iremM X hx rfl (hb hby at_41) rfl (by decide) k
      have rb36 : OwnW s0 n0 43 #[.val (.long x0), .second, .val (.long x1), .second, .val (.int x2), .val (.long yo), .second, .unset, .unset, .unset, .unset, .unset, .unset] [(.long ((1 : Int64) <<< ((((x1.toInt32) &&& (63 : Int32)) % (63 : Int32)) &&& 0x3f).toInt64))] h0 0 0 := rb35.go fun T t X k => XS.lshl X hx rfl (hb hby at_42) rfl k
      have rb37 : OwnW s0 n0 51 #[.val (.long x0), .second, .val (.long x1), .second, .val (.int x2), .val (.long yo), .second, .unset, .unset, .unset, .unset, .unset, .unset] [(.long ((1 : Int64) <<< ((((x1.toInt32) &&& (63 : Int32)) % (63 : Int32)) &&& 0x3f).toInt64))] h0 0 0 := rb36.go fun T t X k => XS.goto X hx rfl (pc0 := 43) (pc' := 51) rfl (hb hby at_43) (by decide) (by decide) k
      exact ⟨_, Int.le_of_lt (own_sh _), rb37⟩
  have r48 : OwnW s0 n0 53 #[.val (.long x0), .second, .val (.long x1), .second, .val (.int x2), .val (.long yo), .second, .val (.long yb), .second, .unset, .unset, .unset, .unset] [] h0 0 0 := r.go fun T t X k => XS.lstore X hx rfl (hb hby at_51) rfl (l' := #[.val (.long x0), .second, .val (.long x1), .second, .val (.int x2), .val (.long yo), .second, .val (.long yb), .second, .unset, .unset, .unset, .unset]) rfl k
  have r49 : OwnW s0 n0 55 #[.val (.long x0), .second, .val (.long x1), .second, .val (.int x2), .val (.long yo), .second, .val (.long yb), .second, .unset, .unset, .unset, .unset] [(.long yb)] h0 0 0 := r48.go fun T t X k => XS.lload X hx rfl (hb hby at_53) rfl k
  have r50 : OwnW s0 n0 56 #[.val (.long x0), .second, .val (.long x1), .second, .val (.int x2), .val (.long yo), .second, .val (.long yb), .second, .unset, .unset, .unset, .unset] [(.long (0 : Int64)), (.long yb)] h0 0 0 := r49.go fun T t X k => XS.lconst X hx rfl (hb hby at_55) k
  have r51 : OwnW s0 n0 57 #[.val (.long x0), .second, .val (.long x1), .second, .val (.int x2), .val (.long yo), .second, .val (.long yb), .second, .unset, .unset, .unset, .unset] [(.int (lcmpW yb (0 : Int64)))] h0 0 0 := r50.go fun T t X k => XS.lcmp X hx rfl (hb hby at_56) rfl k
  obtain ⟨ya, hya, r⟩ : ∃ ya : Int64, 0 < ya.toInt ∧ OwnW (p := p) (l := l) (e := e) (R := room_1) (s := s) (m := m) (args := #[(.long x0), (.long x1), (.int x2)]) (below := below) (meth := meth) (c := c) s0 n0 63 #[.val (.long x0), .second, .val (.long x1), .second, .val (.int x2), .val (.long yo), .second, .val (.long ya), .second, .unset, .unset, .unset, .unset] [] h0 0 0 := by
    by_cases hc : yb = (0 : Int64)
    · have ra := r51
      have ra52 : OwnW s0 n0 60 #[.val (.long x0), .second, .val (.long x1), .second, .val (.int x2), .val (.long yo), .second, .val (.long yb), .second, .unset, .unset, .unset, .unset] [] h0 0 0 := ra.go fun T t X k => XS.ifNo X hx rfl (hb hby at_57) rfl ((if0 _ _).trans (teq ((lw_eq _ _).mpr hc)).2) k
      have ra53 : OwnW s0 n0 61 #[.val (.long x0), .second, .val (.long x1), .second, .val (.int x2), .val (.long yo), .second, .val (.long yb), .second, .unset, .unset, .unset, .unset] [(.long (1 : Int64))] h0 0 0 := ra52.go fun T t X k => XS.lconst X hx rfl (hb hby at_60) k
      have ra54 : OwnW s0 n0 63 #[.val (.long x0), .second, .val (.long x1), .second, .val (.int x2), .val (.long yo), .second, .val (.long (1 : Int64)), .second, .unset, .unset, .unset, .unset] [] h0 0 0 := ra53.go fun T t X k => XS.lstore X hx rfl (hb hby at_61) rfl (l' := #[.val (.long x0), .second, .val (.long x1), .second, .val (.int x2), .val (.long yo), .second, .val (.long (1 : Int64)), .second, .unset, .unset, .unset, .unset]) rfl k
      exact ⟨_, by decide, ra54⟩
    · have rb := r51
      have rb52 : OwnW s0 n0 63 #[.val (.long x0), .second, .val (.long x1), .second, .val (.int x2), .val (.long yo), .second, .val (.long yb), .second, .unset, .unset, .unset, .unset] [] h0 0 0 := rb.go fun T t X k => XS.ifYes X hx rfl (pc0 := 57) (pc' := 63) rfl (hb hby at_57) rfl ((if0 _ _).trans (feq (fun q => hc ((lw_eq _ _).mp q))).2) (by decide) (by decide) k
      have hn : 0 < yb.toInt := by have : yb.toInt ≠ (0 : Int64).toInt := fun q => hc (Int64.toInt_inj.mp q); have e0 : (0 : Int64).toInt = 0 := (by decide); omega
      exact ⟨_, hn, rb52⟩
  have hnz : ya ≠ 0 := by intro q; subst q; exact absurd hya (by decide)
  have r72 : OwnW s0 n0 65 #[.val (.long x0), .second, .val (.long x1), .second, .val (.int x2), .val (.long yo), .second, .val (.long ya), .second, .unset, .unset, .unset, .unset] [(.long yo)] h0 0 0 := r.go fun T t X k => XS.lload X hx rfl (hb hby at_63) rfl k
  have r73 : OwnW s0 n0 67 #[.val (.long x0), .second, .val (.long x1), .second, .val (.int x2), .val (.long yo), .second, .val (.long ya), .second, .unset, .unset, .unset, .unset] [(.long ya), (.long yo)] h0 0 0 := r72.go fun T t X k => XS.lload X hx rfl (hb hby at_65) rfl k
  obtain ⟨vr74, hr74, r74, qr74⟩ := r73.callS hx hZ hown (hw _ (List.mem_of_getElem? (i := 1) rfl)) (hw _ (List.mem_of_getElem? (i := 2) rfl)) (hw _ (List.mem_of_getElem? (i := 3) rfl)) (hw _ (List.mem_of_getElem? (i := 4) rfl)) (by decide) (argsL := [(.long yo), (.long ya)]) (own_ald l Z a0 hw yo ya h0 n0 hnz) [] 0 (by decide) (by decide) (by rw [hml]; rfl) (lenOf own_pd0 rfl) rfl (Nat.le_of_eq rfl) (hb hby at_67) (by decide) (by decide)
  obtain ⟨rfl, rfl⟩ := qr74
  have r74 : OwnW s0 n0 70 #[.val (.long x0), .second, .val (.long x1), .second, .val (.int x2), .val (.long yo), .second, .val (.long ya), .second, .unset, .unset, .unset, .unset] [(.long (own_al yo ya))] h0 0 0 := r74
  have hpl := own_plain yo ya hyo hya
  have r75 : OwnW s0 n0 72 #[.val (.long x0), .second, .val (.long x1), .second, .val (.int x2), .val (.long yo), .second, .val (.long ya), .second, .val (.long (own_al yo ya)), .second, .unset, .unset] [] h0 0 0 := r74.go fun T t X k => XS.lstore X hx rfl (hb hby at_70) rfl (l' := #[.val (.long x0), .second, .val (.long x1), .second, .val (.int x2), .val (.long yo), .second, .val (.long ya), .second, .val (.long (own_al yo ya)), .second, .unset, .unset]) rfl k
  have r76 : OwnW s0 n0 75 #[.val (.long x0), .second, .val (.long x1), .second, .val (.int x2), .val (.long yo), .second, .val (.long ya), .second, .val (.long (own_al yo ya)), .second, .unset, .unset] [(.long (9223372036854775807 : Int64))] h0 0 0 := r75.goX fun T t ls X eT k => X.ldc2J hx hown (mvT hZ (hw _ (List.mem_of_getElem? (i := 0) rfl))) rfl (hb hby at_72) k
  have r77 : OwnW s0 n0 77 #[.val (.long x0), .second, .val (.long x1), .second, .val (.int x2), .val (.long yo), .second, .val (.long ya), .second, .val (.long (own_al yo ya)), .second, .unset, .unset] [(.long ya), (.long (9223372036854775807 : Int64))] h0 0 0 := r76.go fun T t X k => XS.lload X hx rfl (hb hby at_75) rfl k
  have r78 : OwnW s0 n0 78 #[.val (.long x0), .second, .val (.long x1), .second, .val (.int x2), .val (.long yo), .second, .val (.long ya), .second, .val (.long (own_al yo ya)), .second, .unset, .unset] [(.long ((9223372036854775807 : Int64) / ya))] h0 0 0 := r77.go fun T t X k => XS.ldiv X hx rfl (hb hby at_77) rfl hnz k
  have r79 : OwnW s0 n0 80 #[.val (.long x0), .second, .val (.long x1), .second, .val (.int x2), .val (.long yo), .second, .val (.long ya), .second, .val (.long (own_al yo ya)), .second, .unset, .unset] [(.long ya), (.long ((9223372036854775807 : Int64) / ya))] h0 0 0 := r78.go fun T t X k => XS.lload X hx rfl (hb hby at_78) rfl k
  have r80 : OwnW s0 n0 81 #[.val (.long x0), .second, .val (.long x1), .second, .val (.int x2), .val (.long yo), .second, .val (.long ya), .second, .val (.long (own_al yo ya)), .second, .unset, .unset] [(.long (((9223372036854775807 : Int64) / ya) * ya))] h0 0 0 := r79.go fun T t X k => XS.lmul X hx rfl (hb hby at_80) rfl k
  have r81 : OwnW s0 n0 83 #[.val (.long x0), .second, .val (.long x1), .second, .val (.int x2), .val (.long yo), .second, .val (.long ya), .second, .val (.long (own_al yo ya)), .second, .val (.long (((9223372036854775807 : Int64) / ya) * ya)), .second] [] h0 0 0 := r80.go fun T t X k => XS.lstore X hx rfl (hb hby at_81) rfl (l' := #[.val (.long x0), .second, .val (.long x1), .second, .val (.int x2), .val (.long yo), .second, .val (.long ya), .second, .val (.long (own_al yo ya)), .second, .val (.long (((9223372036854775807 : Int64) / ya) * ya)), .second]) rfl k
  have r82 : OwnW s0 n0 85 #[.val (.long x0), .second, .val (.long x1), .second, .val (.int x2), .val (.long yo), .second, .val (.long ya), .second, .val (.long (own_al yo ya)), .second, .val (.long (((9223372036854775807 : Int64) / ya) * ya)), .second] [(.long (((9223372036854775807 : Int64) / ya) * ya))] h0 0 0 := r81.go fun T t X k => XS.lload X hx rfl (hb hby at_83) rfl k
  have r83 : OwnW s0 n0 87 #[.val (.long x0), .second, .val (.long x1), .second, .val (.int x2), .val (.long yo), .second, .val (.long ya), .second, .val (.long (own_al yo ya)), .second, .val (.long (((9223372036854775807 : Int64) / ya) * ya)), .second] [(.long yo), (.long (((9223372036854775807 : Int64) / ya) * ya))] h0 0 0 := r82.go fun T t X k => XS.lload X hx rfl (hb hby at_85) rfl k
  have r84 : OwnW s0 n0 88 #[.val (.long x0), .second, .val (.long x1), .second, .val (.int x2), .val (.long yo), .second, .val (.long ya), .second, .val (.long (own_al yo ya)), .second, .val (.long (((9223372036854775807 : Int64) / ya) * ya)), .second] [(.int (lcmpW (((9223372036854775807 : Int64) / ya) * ya) yo))] h0 0 0 := r83.go fun T t X k => XS.lcmp X hx rfl (hb hby at_87) rfl k
  by_cases hm : (((9223372036854775807 : Int64) / ya) * ya) < yo
  · have ra := r84
    have ra85 : OwnW s0 n0 91 #[.val (.long x0), .second, .val (.long x1), .second, .val (.int x2), .val (.long yo), .second, .val (.long ya), .second, .val (.long (own_al yo ya)), .second, .val (.long (((9223372036854775807 : Int64) / ya) * ya)), .second] [] h0 0 0 := ra.go fun T t X k => XS.ifNo X hx rfl (hb hby at_88) rfl ((if0 _ _).trans (tlt ((lw_lt _ _).mpr hm)).2.1) k
    have ra86 : OwnW s0 n0 93 #[.val (.long x0), .second, .val (.long x1), .second, .val (.int x2), .val (.long yo), .second, .val (.long ya), .second, .val (.long (own_al yo ya)), .second, .val (.long (((9223372036854775807 : Int64) / ya) * ya)), .second] [(.long (own_al yo ya))] h0 0 0 := ra85.go fun T t X k => XS.lload X hx rfl (hb hby at_91) rfl k
    have ra87 : OwnW s0 n0 96 #[.val (.long x0), .second, .val (.long x1), .second, .val (.int x2), .val (.long yo), .second, .val (.long ya), .second, .val (.long (own_al yo ya)), .second, .val (.long (((9223372036854775807 : Int64) / ya) * ya)), .second] [(.long (-1 : Int64)), (.long (own_al yo ya))] h0 0 0 := ra86.goX fun T t ls X eT k => X.ldc2J hx hown (mvT hZ (hw _ (List.mem_of_getElem? (i := 8) rfl))) rfl (hb hby at_93) k
    have ra88 : OwnW s0 n0 97 #[.val (.long x0), .second, .val (.long x1), .second, .val (.int x2), .val (.long yo), .second, .val (.long ya), .second, .val (.long (own_al yo ya)), .second, .val (.long (((9223372036854775807 : Int64) / ya) * ya)), .second] [(.int (lcmpW (own_al yo ya) (-1 : Int64)))] h0 0 0 := ra87.go fun T t X k => XS.lcmp X hx rfl (hb hby at_96) rfl k
    have ra89 : OwnW s0 n0 100 #[.val (.long x0), .second, .val (.long x1), .second, .val (.int x2), .val (.long yo), .second, .val (.long ya), .second, .val (.long (own_al yo ya)), .second, .val (.long (((9223372036854775807 : Int64) / ya) * ya)), .second] [] h0 0 0 := ra88.go fun T t X k => XS.ifNo X hx rfl (hb hby at_97) rfl ((if0 _ _).trans (teq ((lw_eq _ _).mpr (hpl.1 hm))).2) k
    have ra90 : OwnW s0 n0 101 #[.val (.long x0), .second, .val (.long x1), .second, .val (.int x2), .val (.long yo), .second, .val (.long ya), .second, .val (.long (own_al yo ya)), .second, .val (.long (((9223372036854775807 : Int64) / ya) * ya)), .second] [(.int (1 : Int32))] h0 0 0 := ra89.go fun T t X k => XS.iconst X hx rfl (hb hby at_100) k
    have ra91 : OwnW s0 n0 105 #[.val (.long x0), .second, .val (.long x1), .second, .val (.int x2), .val (.long yo), .second, .val (.long ya), .second, .val (.long (own_al yo ya)), .second, .val (.long (((9223372036854775807 : Int64) / ya) * ya)), .second] [(.int (1 : Int32))] h0 0 0 := ra90.go fun T t X k => XS.goto X hx rfl (pc0 := 101) (pc' := 105) rfl (hb hby at_101) (by decide) (by decide) k
    have ra92 := ra91.retN hx hret (by simp) rfl (hb hby at_105)
    exact ⟨_, _, 0, 0, rfl, by decide, by decide, ra92⟩
  · have rb := r84
    have rb85 : OwnW s0 n0 106 #[.val (.long x0), .second, .val (.long x1), .second, .val (.int x2), .val (.long yo), .second, .val (.long ya), .second, .val (.long (own_al yo ya)), .second, .val (.long (((9223372036854775807 : Int64) / ya) * ya)), .second] [] h0 0 0 := rb.go fun T t X k => XS.ifYes X hx rfl (pc0 := 88) (pc' := 106) rfl (hb hby at_88) rfl ((if0 _ _).trans (flt (fun q => hm ((lw_lt _ _).mp q))).2.1) (by decide) (by decide) k
    obtain ⟨p1, p2, p3⟩ := hpl.2 hm
    have rb86 : OwnW s0 n0 108 #[.val (.long x0), .second, .val (.long x1), .second, .val (.int x2), .val (.long yo), .second, .val (.long ya), .second, .val (.long (own_al yo ya)), .second, .val (.long (((9223372036854775807 : Int64) / ya) * ya)), .second] [(.long (own_al yo ya))] h0 0 0 := rb85.go fun T t X k => XS.lload X hx rfl (hb hby at_106) rfl k
    have rb87 : OwnW s0 n0 110 #[.val (.long x0), .second, .val (.long x1), .second, .val (.int x2), .val (.long yo), .second, .val (.long ya), .second, .val (.long (own_al yo ya)), .second, .val (.long (((9223372036854775807 : Int64) / ya) * ya)), .second] [(.long yo), (.long (own_al yo ya))] h0 0 0 := rb86.go fun T t X k => XS.lload X hx rfl (hb hby at_108) rfl k
    have rb88 : OwnW s0 n0 111 #[.val (.long x0), .second, .val (.long x1), .second, .val (.int x2), .val (.long yo), .second, .val (.long ya), .second, .val (.long (own_al yo ya)), .second, .val (.long (((9223372036854775807 : Int64) / ya) * ya)), .second] [(.int (lcmpW (own_al yo ya) yo))] h0 0 0 := rb87.go fun T t X k => XS.lcmp X hx rfl (hb hby at_110) rfl k
    have rb89 : OwnW s0 n0 114 #[.val (.long x0), .second, .val (.long x1), .second, .val (.int x2), .val (.long yo), .second, .val (.long ya), .second, .val (.long (own_al yo ya)), .second, .val (.long (((9223372036854775807 : Int64) / ya) * ya)), .second] [] h0 0 0 := rb88.go fun T t X k => XS.ifNo X hx rfl (hb hby at_111) rfl ((if0 _ _).trans (flt (fun q => p1 ((lw_lt _ _).mp q))).1) k
    have rb90 : OwnW s0 n0 116 #[.val (.long x0), .second, .val (.long x1), .second, .val (.int x2), .val (.long yo), .second, .val (.long ya), .second, .val (.long (own_al yo ya)), .second, .val (.long (((9223372036854775807 : Int64) / ya) * ya)), .second] [(.long (own_al yo ya))] h0 0 0 := rb89.go fun T t X k => XS.lload X hx rfl (hb hby at_114) rfl k
    have rb91 : OwnW s0 n0 118 #[.val (.long x0), .second, .val (.long x1), .second, .val (.int x2), .val (.long yo), .second, .val (.long ya), .second, .val (.long (own_al yo ya)), .second, .val (.long (((9223372036854775807 : Int64) / ya) * ya)), .second] [(.long ya), (.long (own_al yo ya))] h0 0 0 := rb90.go fun T t X k => XS.lload X hx rfl (hb hby at_116) rfl k
    have rb92 : OwnW s0 n0 119 #[.val (.long x0), .second, .val (.long x1), .second, .val (.int x2), .val (.long yo), .second, .val (.long ya), .second, .val (.long (own_al yo ya)), .second, .val (.long (((9223372036854775807 : Int64) / ya) * ya)), .second] [(.long ((own_al yo ya) - ((own_al yo ya) / ya) * ya))] h0 0 0 := rb91.go fun T t X k => XS.lrem X hx rfl (hb hby at_118) rfl hnz k
    have rb92 : OwnW s0 n0 119 #[.val (.long x0), .second, .val (.long x1), .second, .val (.int x2), .val (.long yo), .second, .val (.long ya), .second, .val (.long (own_al yo ya)), .second, .val (.long (((9223372036854775807 : Int64) / ya) * ya)), .second] [(.long (own_rm (own_al yo ya) ya))] h0 0 0 := rb92
    have rb93 : OwnW s0 n0 120 #[.val (.long x0), .second, .val (.long x1), .second, .val (.int x2), .val (.long yo), .second, .val (.long ya), .second, .val (.long (own_al yo ya)), .second, .val (.long (((9223372036854775807 : Int64) / ya) * ya)), .second] [(.long (0 : Int64)), (.long (own_rm (own_al yo ya) ya))] h0 0 0 := rb92.go fun T t X k => XS.lconst X hx rfl (hb hby at_119) k
    have rb94 : OwnW s0 n0 121 #[.val (.long x0), .second, .val (.long x1), .second, .val (.int x2), .val (.long yo), .second, .val (.long ya), .second, .val (.long (own_al yo ya)), .second, .val (.long (((9223372036854775807 : Int64) / ya) * ya)), .second] [(.int (lcmpW (own_rm (own_al yo ya) ya) (0 : Int64)))] h0 0 0 := rb93.go fun T t X k => XS.lcmp X hx rfl (hb hby at_120) rfl k
    have rb95 : OwnW s0 n0 124 #[.val (.long x0), .second, .val (.long x1), .second, .val (.int x2), .val (.long yo), .second, .val (.long ya), .second, .val (.long (own_al yo ya)), .second, .val (.long (((9223372036854775807 : Int64) / ya) * ya)), .second] [] h0 0 0 := rb94.go fun T t X k => XS.ifNo X hx rfl (hb hby at_121) rfl ((if0 _ _).trans (teq ((lw_eq _ _).mpr p2)).2) k
    have rb96 : OwnW s0 n0 126 #[.val (.long x0), .second, .val (.long x1), .second, .val (.int x2), .val (.long yo), .second, .val (.long ya), .second, .val (.long (own_al yo ya)), .second, .val (.long (((9223372036854775807 : Int64) / ya) * ya)), .second] [(.long (own_al yo ya))] h0 0 0 := rb95.go fun T t X k => XS.lload X hx rfl (hb hby at_124) rfl k
    have rb97 : OwnW s0 n0 128 #[.val (.long x0), .second, .val (.long x1), .second, .val (.int x2), .val (.long yo), .second, .val (.long ya), .second, .val (.long (own_al yo ya)), .second, .val (.long (((9223372036854775807 : Int64) / ya) * ya)), .second] [(.long yo), (.long (own_al yo ya))] h0 0 0 := rb96.go fun T t X k => XS.lload X hx rfl (hb hby at_126) rfl k
    have rb98 : OwnW s0 n0 129 #[.val (.long x0), .second, .val (.long x1), .second, .val (.int x2), .val (.long yo), .second, .val (.long ya), .second, .val (.long (own_al yo ya)), .second, .val (.long (((9223372036854775807 : Int64) / ya) * ya)), .second] [(.long ((own_al yo ya) - yo))] h0 0 0 := rb97.go fun T t X k => XS.lsub X hx rfl (hb hby at_128) rfl k
    have rb99 : OwnW s0 n0 131 #[.val (.long x0), .second, .val (.long x1), .second, .val (.int x2), .val (.long yo), .second, .val (.long ya), .second, .val (.long (own_al yo ya)), .second, .val (.long (((9223372036854775807 : Int64) / ya) * ya)), .second] [(.long ya), (.long ((own_al yo ya) - yo))] h0 0 0 := rb98.go fun T t X k => XS.lload X hx rfl (hb hby at_129) rfl k
    have rb100 : OwnW s0 n0 132 #[.val (.long x0), .second, .val (.long x1), .second, .val (.int x2), .val (.long yo), .second, .val (.long ya), .second, .val (.long (own_al yo ya)), .second, .val (.long (((9223372036854775807 : Int64) / ya) * ya)), .second] [(.int (lcmpW ((own_al yo ya) - yo) ya))] h0 0 0 := rb99.go fun T t X k => XS.lcmp X hx rfl (hb hby at_131) rfl k
    have rb101 : OwnW s0 n0 135 #[.val (.long x0), .second, .val (.long x1), .second, .val (.int x2), .val (.long yo), .second, .val (.long ya), .second, .val (.long (own_al yo ya)), .second, .val (.long (((9223372036854775807 : Int64) / ya) * ya)), .second] [] h0 0 0 := rb100.go fun T t X k => XS.ifNo X hx rfl (hb hby at_132) rfl ((if0 _ _).trans (tlt ((lw_lt _ _).mpr p3)).2.1) k
    have rb102 : OwnW s0 n0 136 #[.val (.long x0), .second, .val (.long x1), .second, .val (.int x2), .val (.long yo), .second, .val (.long ya), .second, .val (.long (own_al yo ya)), .second, .val (.long (((9223372036854775807 : Int64) / ya) * ya)), .second] [(.int (1 : Int32))] h0 0 0 := rb101.go fun T t X k => XS.iconst X hx rfl (hb hby at_135) k
    have rb103 : OwnW s0 n0 140 #[.val (.long x0), .second, .val (.long x1), .second, .val (.int x2), .val (.long yo), .second, .val (.long ya), .second, .val (.long (own_al yo ya)), .second, .val (.long (((9223372036854775807 : Int64) / ya) * ya)), .second] [(.int (1 : Int32))] h0 0 0 := rb102.go fun T t X k => XS.goto X hx rfl (pc0 := 136) (pc' := 140) rfl (hb hby at_136) (by decide) (by decide) k
    have rb104 := rb103.retN hx hret (by simp) rfl (hb hby at_140)
    exact ⟨_, _, 0, 0, rfl, by decide, by decide, rb104⟩
set_option maxRecDepth 65536 in
set_option maxHeartbeats 40000000 in
theorem comes_1 {Post : Tables → Env → Array Value → State → Outcome → State → Prop} (hpost : ∀ tb e args s v u, (limb_1_1.after args s (.returned v) u = true ∧ limb_1_2.after args s (.returned v) u = true ∧ True) → FrameEnd s (.returned v) u (Jvm.fieldLocs frame_1_writes args s ++ Jvm.arrayLocs frame_1_arrays args s ++ Jvm.staticLocs frame_1_statics s) 0 0 → Post tb e args s (.returned v) u) :
    ArmFor flags0 classFile x code maxLocals ret World_1 tables_1 room_1 Calls_1 rest_1 Pre_1 Post := by
  intro l hfl _ _ p e ha hc hk s m args below hf hA hF happ hP
  obtain ⟨hcalls, hrest, hpre⟩ := hP
  obtain ⟨-, -, -, hnamed, -, -, -, hat⟩ := (Spec.applies_iff hf).mp happ
  obtain ⟨hg, hn⟩ := and_e (Cond.before_iff.mp (show (Jvm.Cond.and given_1 narrow_1).before args s = true from hpre))
  obtain ⟨g0, t0⟩ := and_e hg
  obtain ⟨g1, t1⟩ := and_e t0
  obtain ⟨g2, t2⟩ := and_e t1
  obtain ⟨w0, w1, w2, rfl⟩ : ∃ w0 w1 w2 : Value, args = #[w0, w1, w2] := by
    have hs : args.size = 3 := by simpa [Cond.value, given_1] using g0
    obtain ⟨L⟩ := args
    match L, hs with
    | [w0, w1, w2], _ => exact ⟨w0, w1, w2, rfl⟩
  have hw := fun d (hd : d ∈ tables_1) => atoms_spec (ws := Jvm.Cond.code x code maxLocals ret :: tables_1) hat d (List.mem_cons_of_mem _ hd)
  have hfit : Fit s := fun {y c} hc i hi => by
    obtain ⟨ha, rfl⟩ := Array.getElem?_eq_some_iff.mp hc
    have q := List.all_eq_true.mp ((Array.all_eq_true_iff_forall_mem.mp hF) _ (Array.getElem_mem ha)) i (List.mem_range.mpr hi)
    simpa [Array.getElem?_eq_getElem hi] using q
  obtain ⟨i0, e0⟩ := isL_v g1
  obtain rfl : w0 = (.long i0) := Option.some.inj e0
  obtain ⟨i1, e1⟩ := isL_v g2
  obtain rfl : w1 = (.long i1) := Option.some.inj e1
  obtain ⟨i2, e2⟩ := is_v t2
  obtain rfl : w2 = (.int i2) := Option.some.inj e2
  obtain ⟨n, o, h1, h2, h3, _, L, rfl, ⟨N, rfl⟩, hq⟩ := own_law l s _ hw i0 i1 i2 s.heap s.heap.size  tables_1 p e ha hc hk s m _ below hf ((Spec.applies_iff_loose hf).mp happ).1 ⟨rfl, State.Warmed39.refl s, rfl⟩ trivial
  refine ⟨n, _, h1, h2, h3, hpost _ _ _ _ _ _ ⟨Cond.after_iff.mpr rfl, Cond.after_iff.mpr (eq_i res_at (Term.int_eval (1)) rfl), trivial⟩ ⟨hq.1, hq.2.1, (hq.2.2.sift fun y hy => Or.inr (N y hy)).mono (by decide) (by decide)⟩⟩
theorem main_1_1 : Claimed_1_1 := comes_1 fun _ _ _ _ _ _ h hF => ⟨h.1, hF⟩
theorem main_1_2 : Claimed_1_2 := comes_1 fun _ _ _ _ _ _ h hF => ⟨h.2.1, hF⟩
end Jvm.Pilot.@@N@@
namespace Jvm.Pilot.@@N@@
open Jvm Jvm.ClassFile Sem Op Lib Jvm.Free Jvm.Stand Jvm.Pilot.@@N@@.Jvm.D
/-! MADE BY PROGRAM (witnessworld.py) out of the Statement's table words and the real class files: 10 classes; the members and pool entries that the words name. The judged class is class 1, her method 1. -/
namespace start1
open Jvm.ClassFile
def u (s : String) : CpInfo := .utf8 (stringToUtf16 s)
/-- a pool by its gaps: so many unusable entries, then the entry; so many at the end -/
def gap : Nat → List CpInfo → List CpInfo
  | 0, r => r
  | n + 1, r => .unusable :: gap n r
def poolList (es : List (Nat × CpInfo)) (last : Nat) : List CpInfo := es.foldr (fun e r => gap e.1 (e.2 :: r)) (gap last [])
def pool (es : List (Nat × CpInfo)) (last : Nat) : Array CpInfo := ⟨poolList es last⟩
def fileOf (pool : Array CpInfo) (this : Nat) (attrs : Array Attribute := #[]) (ms : Array MethodInfo := #[]) (fl : Nat := 33) (sup : Nat := 0) (ifs : Array Nat := #[]) (fds : Array FieldInfo := #[]) : ClassFile where
  minorVersion := 0
  majorVersion := 65
  constantPool := pool
  accessFlags := fl
  thisClass := this
  superClass := sup
  interfaces := ifs
  fields := fds
  methods := ms
  attributes := attrs
def plain (name : String) (sup : Option ClassId) : Class where
  name := name
  kind := .ordinary
  loader := none
  accessFlags := 33
  super := sup
  interfaces := #[]
  cf := none
  fields := #[]
  methods := #[]
  instanceTypes := #[]
  staticTypes := #[]
  resolved := #[]
  callSites := []
  init := .initialized
  statics := none
  mirror := none

def pool0 : Array CpInfo := pool [(5, u "<init>"), (0, u "()V"), (1, .class_ 10), (1, u "java/lang/Object")] 113

def k0m0 : Method := { name := "<init>", desc := "()V", sig := { parameters := [], returnType := none }, accessFlags := 1, code := none }
/-- java/lang/Object -/
def k0 : Class := { plain "java/lang/Object" none with
  accessFlags := 33
  interfaces := #[]
  cf := some (fileOf pool0 8 #[] #[{ accessFlags := 1, nameIndex := 5, descriptorIndex := 6, attributes := #[] }] 33 0 #[] #[])
  fields := #[]
  methods := #[k0m0]
  instanceTypes := #[]
  staticTypes := #[]
  resolved := Array.replicate 124 none
  statics := none }

def pool1 : Array CpInfo := pool [(2, .class_ 4), (1, u "java/lang/Object"), (0, u "<init>"), (0, u "()V"), (2, .long 9223372036854775807), (1, .long 65535), (1, .methodref 14 15), (0, .class_ 16), (0, .nameAndType 17 18), (0, u "com/example/interpolis/interpolis/frontend/CType$StructOrUnionType"), (0, u "aligned"), (0, u "(JJ)J"), (0, .long 18446744073709551615), (1, .class_ 22), (0, u "com/example/interpolis/interpolis/frontend/StructOrUnionTypeAlignedPinLaw"), (2, u "law"), (0, u "(JJI)Z")] 7

def k1m0 : Method := { name := "<init>", desc := "()V", sig := { parameters := [], returnType := none }, accessFlags := 1, code := none }
def k1c1 : Code := { maxStack := 6, maxLocals := 13, code := code, exceptionTable := #[], attributes := #[] }
def k1m1 : Method := { name := "law", desc := "(JJI)Z", sig := { parameters := [.long, .long, .int], returnType := some .boolean }, accessFlags := 9, code := some k1c1 }
/-- com/example/interpolis/interpolis/frontend/StructOrUnionTypeAlignedPinLaw -/
def k1 : Class := { plain "com/example/interpolis/interpolis/frontend/StructOrUnionTypeAlignedPinLaw" (some 0) with
  accessFlags := 49
  interfaces := #[]
  cf := some (fileOf pool1 21 #[] #[{ accessFlags := 1, nameIndex := 5, descriptorIndex := 6, attributes := #[] }, { accessFlags := 9, nameIndex := 25, descriptorIndex := 26, attributes := #[] }] 49 2 #[] #[])
  fields := #[]
  methods := #[k1m0, k1m1]
  instanceTypes := #[]
  staticTypes := #[]
  resolved := Array.replicate 34 none
  statics := none }

def pool2 : Array CpInfo := pool [(1, .class_ 2), (0, u "com/example/interpolis/interpolis/frontend/CType$IntegerType"), (0, .class_ 4), (0, u "com/example/interpolis/interpolis/frontend/CType$FloatingType"), (5, .class_ 12), (1, u "com/example/interpolis/interpolis/frontend/CType"), (2, .class_ 16), (0, u "com/example/interpolis/interpolis/frontend/CType$PointerType"), (4, .class_ 22), (0, u "com/example/interpolis/interpolis/frontend/CType$StructType"), (14, u "INT"), (7, u "Lcom/example/interpolis/interpolis/frontend/CType;"), (2, u "UNSIGNED_LONG"), (2, .class_ 52), (0, u "com/example/interpolis/interpolis/frontend/CType$VoidType"), (5, u "VOID"), (0, .class_ 60), (0, u "com/example/interpolis/interpolis/frontend/CType$OpaqueType"), (9, u "INT128"), (4, u "UNSIGNED_INT128"), (7, u "UNKNOWN"), (0, .class_ 85), (0, u "java/lang/Object"), (14, .class_ 101), (0, u "com/example/interpolis/interpolis/frontend/CType$Field"), (0, .class_ 103), (0, u "com/example/interpolis/interpolis/frontend/CType$Member"), (0, .class_ 105), (0, u "com/example/interpolis/interpolis/frontend/CType$UnionType"), (0, .class_ 107), (0, u "com/example/interpolis/interpolis/frontend/CType$StructOrUnionType"), (0, .class_ 109), (0, u "com/example/interpolis/interpolis/frontend/CType$FunctionType"), (0, .class_ 111), (0, u "com/example/interpolis/interpolis/frontend/CType$VectorType"), (0, .class_ 113), (0, u "com/example/interpolis/interpolis/frontend/CType$ArrayType")] 29

/-- com/example/interpolis/interpolis/frontend/CType -/
def k2 : Class := { plain "com/example/interpolis/interpolis/frontend/CType" (some 0) with
  accessFlags := 1537
  interfaces := #[]
  cf := some (fileOf pool2 10 #[.nestMembers #[59, 100, 102, 104, 21, 106, 108, 110, 112, 15, 51, 3, 1]] #[] 1537 84 #[] #[{ accessFlags := 25, nameIndex := 37, descriptorIndex := 45, attributes := #[] }, { accessFlags := 25, nameIndex := 48, descriptorIndex := 45, attributes := #[] }, { accessFlags := 25, nameIndex := 58, descriptorIndex := 45, attributes := #[] }, { accessFlags := 25, nameIndex := 70, descriptorIndex := 45, attributes := #[] }, { accessFlags := 25, nameIndex := 75, descriptorIndex := 45, attributes := #[] }, { accessFlags := 25, nameIndex := 83, descriptorIndex := 45, attributes := #[] }])
  fields := #[{ name := "INT", type := (.object "com/example/interpolis/interpolis/frontend/CType"), accessFlags := 25, slot := 0, constantValue := 0 }, { name := "UNSIGNED_LONG", type := (.object "com/example/interpolis/interpolis/frontend/CType"), accessFlags := 25, slot := 1, constantValue := 0 }, { name := "VOID", type := (.object "com/example/interpolis/interpolis/frontend/CType"), accessFlags := 25, slot := 2, constantValue := 0 }, { name := "INT128", type := (.object "com/example/interpolis/interpolis/frontend/CType"), accessFlags := 25, slot := 3, constantValue := 0 }, { name := "UNSIGNED_INT128", type := (.object "com/example/interpolis/interpolis/frontend/CType"), accessFlags := 25, slot := 4, constantValue := 0 }, { name := "UNKNOWN", type := (.object "com/example/interpolis/interpolis/frontend/CType"), accessFlags := 25, slot := 5, constantValue := 0 }]
  methods := #[]
  instanceTypes := #[]
  staticTypes := #[(.object "com/example/interpolis/interpolis/frontend/CType"), (.object "com/example/interpolis/interpolis/frontend/CType"), (.object "com/example/interpolis/interpolis/frontend/CType"), (.object "com/example/interpolis/interpolis/frontend/CType"), (.object "com/example/interpolis/interpolis/frontend/CType"), (.object "com/example/interpolis/interpolis/frontend/CType")]
  resolved := Array.replicate 143 none
  statics := none }

def pool3 : Array CpInfo := pool [(2, .class_ 4), (1, u "java/lang/Object"), (2, .long 18446744073709551615), (2, .class_ 12), (1, u "com/example/interpolis/interpolis/frontend/CType$StructOrUnionType"), (0, u "size"), (0, u "J"), (2, u "alignment"), (2, u "spelling"), (0, u "Ljava/lang/String;"), (2, u "tagged"), (0, u "Z"), (23, .class_ 51), (1, u "com/example/interpolis/interpolis/frontend/CType"), (7, u "(JJ)J"), (2, .long 9223372036854775807), (8, u "aligned"), (6, u "members"), (0, u "Ljava/util/List;"), (6, u "readOnlyMembers")] 62

def k3c0 : Code := { maxStack := 6, maxLocals := 8, code := prog_56_method_4_code, exceptionTable := #[], attributes := #[] }
def k3m0 : Method := { name := "aligned", desc := "(JJ)J", sig := { parameters := [.long, .long], returnType := some .long }, accessFlags := 8, code := some k3c0 }
/-- com/example/interpolis/interpolis/frontend/CType$StructOrUnionType -/
def k3 : Class := { plain "com/example/interpolis/interpolis/frontend/CType$StructOrUnionType" (some 0) with
  accessFlags := 1057
  interfaces := #[2]
  cf := some (fileOf pool3 10 #[.nestHost 49] #[{ accessFlags := 8, nameIndex := 71, descriptorIndex := 59, attributes := #[] }] 1057 2 #[49] #[{ accessFlags := 18, nameIndex := 20, descriptorIndex := 21, attributes := #[] }, { accessFlags := 18, nameIndex := 24, descriptorIndex := 25, attributes := #[] }, { accessFlags := 2, nameIndex := 78, descriptorIndex := 79, attributes := #[] }, { accessFlags := 2, nameIndex := 13, descriptorIndex := 14, attributes := #[] }, { accessFlags := 2, nameIndex := 17, descriptorIndex := 14, attributes := #[] }, { accessFlags := 2, nameIndex := 86, descriptorIndex := 25, attributes := #[] }])
  fields := #[{ name := "spelling", type := (.object "java/lang/String"), accessFlags := 18, slot := 0, constantValue := 0 }, { name := "tagged", type := .boolean, accessFlags := 18, slot := 1, constantValue := 0 }, { name := "members", type := (.object "java/util/List"), accessFlags := 2, slot := 2, constantValue := 0 }, { name := "size", type := .long, accessFlags := 2, slot := 3, constantValue := 0 }, { name := "alignment", type := .long, accessFlags := 2, slot := 4, constantValue := 0 }, { name := "readOnlyMembers", type := .boolean, accessFlags := 2, slot := 5, constantValue := 0 }]
  methods := #[k3m0]
  instanceTypes := #[(.object "java/lang/String"), .boolean, (.object "java/util/List"), .long, .long, .boolean]
  staticTypes := #[]
  resolved := Array.replicate 149 none
  statics := none }

def pool4 : Array CpInfo := pool [(1, u "java/lang/Cloneable"), (0, .class_ 1), (0, u "java/lang/Object"), (0, .class_ 3)] 3

/-- java/lang/Cloneable -/
def k4 : Class := { plain "java/lang/Cloneable" (some 0) with
  accessFlags := 1537
  interfaces := #[]
  cf := some (fileOf pool4 2 #[] #[] 1537 4 #[] #[])
  fields := #[]
  methods := #[]
  instanceTypes := #[]
  staticTypes := #[]
  resolved := Array.replicate 8 none
  statics := none }

def pool5 : Array CpInfo := pool [(1, u "java/io/Serializable"), (0, .class_ 1), (0, u "java/lang/Object"), (0, .class_ 3)] 3

/-- java/io/Serializable -/
def k5 : Class := { plain "java/io/Serializable" (some 0) with
  accessFlags := 1537
  interfaces := #[]
  cf := some (fileOf pool5 2 #[] #[] 1537 4 #[] #[])
  fields := #[]
  methods := #[]
  instanceTypes := #[]
  staticTypes := #[]
  resolved := Array.replicate 8 none
  statics := none }

/-- the primitive byte -/
def k6 : Class := { plain "byte" none with kind := .primitive 'B', accessFlags := 0x411 }
/-- [B -/
def k7 : Class := { plain "[B" (some 0) with kind := .array 6 .byte, interfaces := #[4, 5], accessFlags := 1041 }

/-- the primitive int -/
def k8 : Class := { plain "int" none with kind := .primitive 'I', accessFlags := 0x411 }
/-- [I -/
def k9 : Class := { plain "[I" (some 0) with kind := .array 8 .int, interfaces := #[4, 5], accessFlags := 1041 }

def heap : Heap := #[]
def classes : Array Class := #[k0, k1, k2, k3, k4, k5, k6, k7, k8, k9]
def interned : List (Array UInt16 × Addr) := []
def slotsUsed : Nat := 0
def theMethod : MethodId := ⟨1, 1⟩
def args0 : Array Value := #[.long 100, .long 5, .int 1]
def aboutOver (below : List Frame) : State where
  vm := { classes := classes, interned := interned.toArray }
  heap := heap
  slotsUsed := slotsUsed
  threads := #[{ frames := .invoking theMethod args0 :: below }]
def below0 : List Frame := [.native { method := ⟨0, 0⟩, args := #[] }]
def about1 : State := aboutOver below0
def p0 : Program := .bare "" "" ""
def e0 : Env := launch0.env 0 0 0
theorem w_frames : about1.frames = Frame.invoking theMethod args0 :: below0 := rfl
set_option maxRecDepth 65536 in
theorem w_args : argsFit about1.vm theMethod args0 = true := by decide +kernel
set_option maxRecDepth 65536 in
theorem w_heap : heapFits about1 = true := by decide +kernel
set_option maxRecDepth 65536 in
theorem w_runnable : about1.curStatus? = some .runnable := by decide +kernel
set_option maxRecDepth 65536 in
theorem w_alone : about1.alone = true := by decide +kernel
set_option maxRecDepth 65536 in
theorem w_named : about1.methodNamed? x = some theMethod := by decide +kernel
set_option maxRecDepth 65536 in
theorem w_hears : about1.hears theMethod below0 = true := by decide +kernel
set_option maxRecDepth 65536 in
theorem w_ripe : about1.ripe theMethod args0 below0 = true := by decide +kernel
theorem w_running : about1.status = .running := rfl
set_option maxRecDepth 65536 in
theorem w_room : about1.hasRoom e0.platform room_1 = true :=
  launch0.hasRoom_least _ room_1 (by decide +kernel) (by decide +kernel) (by decide +kernel) (by decide +kernel) (by decide +kernel) (by decide +kernel)
theorem allAtoms_all (ts : List Jvm.Cond) (a : Array Jvm.Value) (st : Jvm.State) : (allAtoms ts).before a st = ts.all (fun c => c.before a st) := by
  induction ts with
  | nil => rfl
  | cons c t ih =>
    show (Jvm.Cond.and c (allAtoms t)).before a st = _
    rw [Jvm.Cond.before_and, ih, List.all_cons]
def words1 : List Jvm.Cond := Jvm.Cond.code x code maxLocals ret :: tables_1
/-- a 'code' word, met by the world's own term for the bytes: nothing is compared byte by byte -/
theorem code_word {y : MethodName} {bytes : ByteArray} {mx : Nat} {rt : Option FieldType} {a : Array Value} {s : State} {m : MethodId} {meth : Method} {c : Code} (h1 : s.methodNamed? y = some m) (h2 : s.vm.method? m = some meth) (h3 : meth.code = some c) (h4 : c.code = bytes)
    (h5 : (c.maxLocals == mx && c.exceptionTable.isEmpty && decide (c.maxStack ≤ mostOperands) && decide (meth.sig.returnType = rt) && !meth.locks && decide (parseMethodDescriptor y.desc = some meth.sig)) = true) : (Jvm.Cond.code y bytes mx rt).before a s = true := by
  simp only [Bool.and_eq_true, beq_iff_eq, Bool.not_eq_true', decide_eq_true_eq] at h5
  obtain ⟨⟨⟨⟨⟨g1, g2⟩, g3⟩, g4⟩, g5⟩, g6⟩ := h5
  simp [Cond.before, Cond.holds, Cond.value, h1, h2, h3, h4, g1, g2, g3, g4, g5, g6]
def isCode : Jvm.Cond → Bool
  | .code _ _ _ _ => true
  | _ => false
theorem all_split {L : List Jvm.Cond} {P : Jvm.Cond → Bool} (h1 : L.all (fun c => isCode c || P c) = true) (h2 : ∀ c ∈ L.filter isCode, P c = true) : L.all P = true := by
  refine List.all_eq_true.mpr fun c hc => ?_
  have h := List.all_eq_true.mp h1 c hc
  rcases Bool.eq_false_or_eq_true (isCode c) with hi | hi
  · exact h2 c (List.mem_filter.mpr ⟨hc, hi⟩)
  · simpa [hi] using h
set_option maxRecDepth 65536 in
theorem w_c0 : (Jvm.Cond.code x code maxLocals ret).before args0 about1 = true := code_word (m := ⟨1, 1⟩) (meth := k1m1) (c := k1c1) (by decide +kernel) rfl rfl rfl (by decide +kernel)
set_option maxRecDepth 65536 in
theorem w_c1 : (Jvm.Cond.code ({ cls := "com/example/interpolis/interpolis/frontend/CType$StructOrUnionType", name := "aligned", desc := "(JJ)J" } : Jvm.MethodName) prog_56_method_4_code (8 : Nat) (Option.some Jvm.ClassFile.FieldType.long)).before args0 about1 = true := code_word (m := ⟨3, 0⟩) (meth := k3m0) (c := k3c0) (by decide +kernel) rfl rfl rfl (by decide +kernel)
def codes1 : List Jvm.Cond := [Jvm.Cond.code x code maxLocals ret, Jvm.Cond.code ({ cls := "com/example/interpolis/interpolis/frontend/CType$StructOrUnionType", name := "aligned", desc := "(JJ)J" } : Jvm.MethodName) prog_56_method_4_code (8 : Nat) (Option.some Jvm.ClassFile.FieldType.long)]
set_option maxRecDepth 65536 in
theorem codes_eq : words1.filter isCode = codes1 := rfl
theorem w_codes : ∀ c ∈ words1.filter isCode, c.before args0 about1 = true := by
  rw [codes_eq]
  intro c hc
  simp only [codes1, List.mem_cons, List.not_mem_nil, or_false] at hc
  rcases hc with rfl | rfl
  · exact w_c0
  · exact w_c1
set_option maxRecDepth 65536 in
theorem w_t1 : words1.all (fun c => isCode c || c.before args0 about1) = true := by decide +kernel
theorem w_tables : (allAtoms (Jvm.Cond.code x code maxLocals ret :: tables_1)).before args0 about1 = true := by
  rw [allAtoms_all]
  show words1.all (fun c => c.before args0 about1) = true
  refine all_split ?_ w_codes
  rw [w_t1]
set_option maxRecDepth 65536 in
theorem w_case : (Jvm.Cond.and given_1 narrow_1).before args0 about1 = true := by decide +kernel
theorem w_applies : (headSpec (Jvm.Cond.code x code maxLocals ret :: tables_1) room_1).applies x e0.platform about1 = true :=
  (Spec.applies_iff w_frames).mpr ⟨w_running, w_runnable, w_alone, w_named, w_hears, w_ripe, w_room, w_tables⟩
theorem atStart : AtStart classFile x code maxLocals ret World_1 tables_1 room_1 Calls_1 rest_1 Pre_1 launch0 p0 e0 about1 theMethod args0 below0 :=
  ⟨lists_1, trivial, launch0.admits_env _ _ _, launch0.least_env, fairChoices_fair.cas, fairChoices_fair.clock, w_frames, w_args, w_heap, w_applies, trivial, trivial, w_case⟩
end start1
theorem witness_1 : WitnessClaimed_1 := ⟨start1.p0, start1.e0, start1.about1, start1.theMethod, start1.args0, start1.below0, start1.atStart⟩
end Jvm.Pilot.@@N@@
