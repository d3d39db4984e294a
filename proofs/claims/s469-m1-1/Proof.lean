import JvmDerived
import JvmDerived.Pilot.@@N@@Statement
import JvmDerived.Pilot.@@N@@Code
set_option linter.unusedVariables false
set_option linter.unusedSimpArgs false
namespace Jvm.Pilot.@@N@@
open Jvm Jvm.ClassFile Sem Op Lib Jvm.Free Jvm.Stand Jvm.LawKit Jvm.RoadKit Bundle Jvm.Pilot.@@N@@.Jvm.D
/-! OwnW: the walk as a fact: from s0 it has come to pc with locals L, stack S, heap h; kc cells and ks slots made; written only cells at or above n0. -/
section OwnKit
variable {p : Program} {l : Launch} {e : Env} {R : Room} {s : State} {m : MethodId} {args : Array Value} {below : List Frame} {meth : Method} {c : Code} {s0 : State} {n0 pc pc' : Nat} {L L' : Array Slot} {S S' : List Value} {h h' : Heap} {kc ks : Nat} {Z : State} {a0 : Array Value}
def OwnW {p : Program} {l : Launch} {e : Env} {R : Room} {s : State} {m : MethodId} {args : Array Value} {below : List Frame} {meth : Method} {c : Code} (s0 : State) (n0 pc : Nat) (L : Array Slot) (S : List Value) (h : Heap) (kc ks : Nat) : Prop :=
  ∃ (T : State) (locs : List Loc), Stand p l e R s m args below meth c T locs kc ks ∧ T.heap = h ∧ Fr n0 locs ∧ Steps p.tables e below s0 (T.setTop (mkF m pc L S))
def OwnEnd {p : Program} {l : Launch} {e : Env} {R : Room} {s : State} {m : MethodId} {args : Array Value} {below : List Frame} {meth : Method} {c : Code} (s0 : State) (n0 : Nat) (v : Option Value) (h : Heap) (kc ks : Nat) : Prop :=
  ∃ (T : State) (locs : List Loc), Stand p l e R s m args below meth c T locs kc ks ∧ T.heap = h ∧ Fr n0 locs ∧ (meth.sig.returnType = none → v = none) ∧ ∀ fs : List Frame, (∀ (f : JFrame) (acts : List Action), f.method = m → f.locked = none → f.entered = [] → (doReturn e (T.setTop f) acts v).1 = T.setFrames fs) → Steps p.tables e below s0 (T.setFrames fs)
/-- a callee's contract: with the arguments A on the heap h0 it returns v and leaves h' with Q v h' -/
def OwnCon (l : Launch) (Z : State) (y : MethodName) (bytes : ByteArray) (maxL : Nat) (ret : Option FieldType) (rm : Room) (A : Array Value) (h0 : Heap) (n0 : Nat) (Q : Option Value → Heap → Prop) : Prop :=
  ∀ ws : List Jvm.Cond, MetFree l y (head1 (Jvm.Cond.code y bytes maxL ret :: ws) rm) (fun a U => a = A ∧ Z.Warmed39 U.vm ∧ U.heap = h0) (fun _ _ _ _ _ => True) (fun _ U o U' => ∃ v L, o = .returned v ∧ (Fr n0 L ∧ Q v U'.heap) ∧ FrameEnd U o U' L rm.cells rm.slots)
theorem OwnW.go (r : OwnW (p := p) (l := l) (e := e) (R := R) (s := s) (m := m) (args := args) (below := below) (meth := meth) (c := c) s0 n0 pc L S h kc ks)
    (f : ∀ (T t : State), At T m c below → Steps p.tables e below (T.setTop (mkF m pc' L' S')) t → Steps p.tables e below (T.setTop (mkF m pc L S)) t) :
    OwnW (p := p) (l := l) (e := e) (R := R) (s := s) (m := m) (args := args) (below := below) (meth := meth) (c := c) s0 n0 pc' L' S' h kc ks := by
  obtain ⟨T, ls, X, eT, N, st⟩ := r
  exact ⟨T, ls, X, eT, N, st.trans (f T _ X.here (Steps.refl _))⟩
theorem OwnW.goX (r : OwnW (p := p) (l := l) (e := e) (R := R) (s := s) (m := m) (args := args) (below := below) (meth := meth) (c := c) s0 n0 pc L S h kc ks)
    (f : ∀ (T t : State) (ls : List Loc), Stand p l e R s m args below meth c T ls kc ks → T.heap = h → Steps p.tables e below (T.setTop (mkF m pc' L' S')) t → Steps p.tables e below (T.setTop (mkF m pc L S)) t) :
    OwnW (p := p) (l := l) (e := e) (R := R) (s := s) (m := m) (args := args) (below := below) (meth := meth) (c := c) s0 n0 pc' L' S' h kc ks := by
  obtain ⟨T, ls, X, eT, N, st⟩ := r
  exact ⟨T, ls, X, eT, N, st.trans (f T _ ls X eT (Steps.refl _))⟩
theorem OwnW.goT (r : OwnW (p := p) (l := l) (e := e) (R := R) (s := s) (m := m) (args := args) (below := below) (meth := meth) (c := c) s0 n0 pc L S h kc ks)
    (f : ∀ (T : State) (ls : List Loc), Stand p l e R s m args below meth c T ls kc ks → T.heap = h → ∃ T', Stand p l e R s m args below meth c T' ls kc ks ∧ T'.heap = h ∧ ∀ t, Steps p.tables e below (T'.setTop (mkF m pc' L' S')) t → Steps p.tables e below (T.setTop (mkF m pc L S)) t) :
    OwnW (p := p) (l := l) (e := e) (R := R) (s := s) (m := m) (args := args) (below := below) (meth := meth) (c := c) s0 n0 pc' L' S' h kc ks := by
  obtain ⟨T, ls, X, eT, N, st⟩ := r
  obtain ⟨T', X', eT', st'⟩ := f T ls X eT
  exact ⟨T', ls, X', eT', N, st.trans (st' _ (Steps.refl _))⟩
/-- the same walk, written otherwise -/
theorem OwnW.to (r : OwnW (p := p) (l := l) (e := e) (R := R) (s := s) (m := m) (args := args) (below := below) (meth := meth) (c := c) s0 n0 pc L S h kc ks) (h1 : pc = pc') (h2 : L = L') (h3 : S = S') (h4 : h = h') :
    OwnW (p := p) (l := l) (e := e) (R := R) (s := s) (m := m) (args := args) (below := below) (meth := meth) (c := c) s0 n0 pc' L' S' h' kc ks := by
  subst h1 h2 h3 h4; exact r
theorem OwnW.newO (r : OwnW (p := p) (l := l) (e := e) (R := R) (s := s) (m := m) (args := args) (below := below) (meth := meth) (c := c) s0 n0 pc L S h kc ks)
    (hx : p.tables.exec = Jvm.exec) (hZ : Z.Warmed39 s.vm) {own C : String} {index n : Nat} (hown : s.vm.findClass own = some m.cls) (w : (Jvm.Cond.classLink own index C).before a0 Z = true) (wi : (Jvm.Cond.instantiable C n).before a0 Z = true) (wz : (Jvm.Cond.initialized C).before a0 Z = true)
    (hd : decode c.code pc = .ok (.new index, 3)) (hc : kc + 1 ≤ R.cells) (hl : ks + n ≤ R.slots) :
    ∃ h', OwnW (p := p) (l := l) (e := e) (R := R) (s := s) (m := m) (args := args) (below := below) (meth := meth) (c := c) s0 n0 (pc + 3) L (.ref h.size :: S) h' (kc + 1) (ks + n) ∧ Ext h h' ∧ Exa Z h' h.size C ∧ (∀ {O nm d : String} {ty : FieldType}, Laid Z a0 C O nm d → parseFieldDescriptor d = some ty → Fld Z h' h.size O nm d (defaultValue ty)) := by
  obtain ⟨T, ls, X, eT, N, st⟩ := r
  obtain ⟨T', h', X', e', E, A, D, -, st'⟩ := Jvm.RoadKit.newO X hx hZ hown w wi wz eT (g := mkF m pc L S) rfl hd hc hl
  exact ⟨h', ⟨T', ls, X', e', N, st.trans (st' _ (Steps.refl _))⟩, E, A, D⟩
theorem OwnW.newP (r : OwnW (p := p) (l := l) (e := e) (R := R) (s := s) (m := m) (args := args) (below := below) (meth := meth) (c := c) s0 n0 pc L S h kc ks)
    (hx : p.tables.exec = Jvm.exec) (hZ : Z.Warmed39 s.vm) {aty : ArrayType} (w : (Jvm.Cond.arrayClass (newarray.typeOf aty)).before a0 Z = true) (hd : decode c.code pc = .ok (.newarray aty, 2)) {n : Int32} {rest : List Value} (hs : S = .int n :: rest)
    (hn : ¬ n < 0) {cap : Nat} (hcap : n.toNatClampNeg ≤ cap) (hb : cap * 8 ≤ 536870912) (hc : kc + 1 ≤ R.cells) (hl : ks + cap ≤ R.slots) :
    ∃ h' cA, OwnW (p := p) (l := l) (e := e) (R := R) (s := s) (m := m) (args := args) (below := below) (meth := meth) (c := c) s0 n0 (pc + 2) L (.ref h.size :: rest) h' (kc + 1) (ks + cap) ∧ Ext h h' ∧ Arr Z h' h.size (newA cA (newarray.typeOf aty) n) (newarray.typeOf aty) := by
  obtain ⟨T, ls, X, eT, N, st⟩ := r
  obtain ⟨T', h', cA, X', e', E, A, st'⟩ := Jvm.RoadKit.newP X hx hZ w eT (g := mkF m pc L S) rfl hd hs hn hcap hb hc hl
  exact ⟨h', cA, ⟨T', ls, X', e', N, st.trans (st' _ (Steps.refl _))⟩, E, A⟩
theorem OwnW.getF (r : OwnW (p := p) (l := l) (e := e) (R := R) (s := s) (m := m) (args := args) (below := below) (meth := meth) (c := c) s0 n0 pc L S h kc ks)
    (hx : p.tables.exec = Jvm.exec) (hZ : Z.Warmed39 s.vm) {own O n d : String} {index : Nat} (hown : s.vm.findClass own = some m.cls) (w : (Jvm.Cond.fieldLink own index O n d).before a0 Z = true) {a : Addr} {v : Value} (F : Fld Z h a O n d v)
    {rest : List Value} (hs : S = .ref a :: rest) (hd : decode c.code pc = .ok (.getfield index, 3)) :
    OwnW (p := p) (l := l) (e := e) (R := R) (s := s) (m := m) (args := args) (below := below) (meth := meth) (c := c) s0 n0 (pc + 3) L (v :: rest) h kc ks :=
  r.goT fun T ls X eT => Jvm.RoadKit.getF X hx hZ hown (host := "") (Or.inl w) Via.refl eT F (g := mkF m pc L S) rfl hs hd
theorem OwnW.getS (r : OwnW (p := p) (l := l) (e := e) (R := R) (s := s) (m := m) (args := args) (below := below) (meth := meth) (c := c) s0 n0 pc L S h kc ks)
    (hx : p.tables.exec = Jvm.exec) (hZ : Z.Warmed39 s.vm) {own O n d : String} {index : Nat} (hown : s.vm.findClass own = some m.cls) (w : (Jvm.Cond.fieldLink own index O n d).before a0 Z = true) {v : Value} (F : Sta Z h O n d v)
    (hd : decode c.code pc = .ok (.getstatic index, 3)) :
    OwnW (p := p) (l := l) (e := e) (R := R) (s := s) (m := m) (args := args) (below := below) (meth := meth) (c := c) s0 n0 (pc + 3) L (v :: S) h kc ks :=
  r.goT fun T ls X eT => Jvm.RoadKit.getS X hx hZ (host := "") hown w Via.refl eT F (g := mkF m pc L S) rfl hd
theorem OwnW.putF (r : OwnW (p := p) (l := l) (e := e) (R := R) (s := s) (m := m) (args := args) (below := below) (meth := meth) (c := c) s0 n0 pc L S h kc ks)
    (hx : p.tables.exec = Jvm.exec) (hZ : Z.Warmed39 s.vm) {own O n d C : String} {index kk : Nat} {ty : FieldType} (hown : s.vm.findClass own = some m.cls) (w : (Jvm.Cond.fieldLink own index O n d).before a0 Z = true) {a : Addr} {v old : Value} (F : Fld Z h a O n d old) (E : Exa Z h a C)
    (Lw : (Jvm.Cond.lays C O n d).before a0 Z = true ∨ ((Jvm.Cond.laysFinal C O n d).before a0 Z = true ∧ own = O ∧ meth.name = "<init>")) (wi : (Jvm.Cond.instantiable C kk).before a0 Z = true)
    (hty : parseFieldDescriptor d = some ty) (hn : narrow ty v = v) (hf : fits ty v = true) {rest : List Value} (hs : S = v :: .ref a :: rest) (hd : decode c.code pc = .ok (.putfield index, 3)) (g : n0 ≤ a) :
    ∃ h', OwnW (p := p) (l := l) (e := e) (R := R) (s := s) (m := m) (args := args) (below := below) (meth := meth) (c := c) s0 n0 (pc + 3) L rest h' kc ks ∧ Wr h h' a (Jvm.RoadKit.slotOf Z O n d) v := by
  obtain ⟨T, ls, X, eT, N, st⟩ := r
  obtain ⟨T', h', X', e', W', st'⟩ := Jvm.RoadKit.putF X hx hZ hown (host := "") (Or.inl w) Via.refl eT F E Lw wi hty hn hf (g := mkF m pc L S) rfl hs hd
  exact ⟨h', ⟨T', _, X', e', Fr.snoc X' N g, st.trans (st' _ (Steps.refl _))⟩, W'⟩
theorem OwnW.callS (r : OwnW (p := p) (l := l) (e := e) (R := R) (s := s) (m := m) (args := args) (below := below) (meth := meth) (c := c) s0 n0 pc L S h kc ks)
    (hx : p.tables.exec = Jvm.exec) (hZ : Z.Warmed39 s.vm) {own : String} {index : Nat} {y : MethodName} {bytes : ByteArray} {maxL : Nat} {ret : Option FieldType} {rm : Room} {Q : Option Value → Heap → Prop} (hown : s.vm.findClass own = some m.cls)
    (w1 : (Jvm.Cond.methodLink own index y).before a0 Z = true) (w2 : (Jvm.Cond.static y).before a0 Z = true) (w3 : (Jvm.Cond.initialized y.cls).before a0 Z = true) (w4 : (Jvm.Cond.code y bytes maxL ret).before a0 Z = true)
    (hy : y.cls ≠ "java/lang/invoke/MethodHandle" ∧ y.cls ≠ "java/lang/invoke/VarHandle") {argsL : List Value} (K : OwnCon l Z y bytes maxL ret rm argsL.toArray h n0 Q) (rest : List Value) (W : Nat)
    (hf : rm.frames + 1 ≤ R.frames) (hl : W + (maxL + 11) + rm.locals ≤ R.locals) (hsize : L.size = c.maxLocals) (hlen : ∀ sig, parseMethodDescriptor y.desc = some sig → argsL.length = sig.parameters.length)
    (hs : S = argsL.reverse ++ rest) (hW : (rest.map fun v => v.category).sum ≤ W) (hd : decode c.code pc = .ok (.invokestatic index, 3)) (hc : kc + rm.cells ≤ R.cells) (hsl : ks + rm.slots ≤ R.slots) :
    ∃ v h', OwnW (p := p) (l := l) (e := e) (R := R) (s := s) (m := m) (args := args) (below := below) (meth := meth) (c := c) s0 n0 (pc + 3) L (v.toList ++ rest) h' (kc + rm.cells) (ks + rm.slots) ∧ Q v h' := by
  obtain ⟨T, ls, X, eT, N, st⟩ := r
  obtain ⟨v, vm₁, ⟨T', L', k', n'⟩, -, X', ⟨Lc, hQ, l', y', z'⟩, st'⟩ := Jvm.LawKit.callS X hx (y := y) hown (mvT hZ w1) (mvT hZ w2) (mvT hZ w3) (mvT hZ w4) hy (backOf (W := W) (Q := fun v h L => Fr n0 L ∧ Q v h) (K []) hZ w4 w3 hf hl) (g := mkF m pc L S) rfl hsize (argsL := argsL) (rest := rest) hlen hs (by show 2 * 0 + _ ≤ _; omega) hd (fun _ _ => ⟨rfl, eT, hc, hsl⟩)
  dsimp only [Pt.U, Pt.locs, Pt.cells, Pt.slots] at X' l' y' z' st' hQ
  subst l' y' z'
  exact ⟨v, _, ⟨T', _, X', rfl, N.app hQ.1, st.trans (st' _ (Steps.refl _))⟩, hQ.2⟩
theorem OwnW.callN (r : OwnW (p := p) (l := l) (e := e) (R := R) (s := s) (m := m) (args := args) (below := below) (meth := meth) (c := c) s0 n0 pc L S h kc ks)
    (hx : p.tables.exec = Jvm.exec) (hZ : Z.Warmed39 s.vm) {own : String} {index : Nat} {y : MethodName} {bytes : ByteArray} {maxL : Nat} {rm : Room} {Q : Option Value → Heap → Prop} (hy1 : y.name = "<init>") (hown : s.vm.findClass own = some m.cls)
    (w1 : (Jvm.Cond.methodLink own index y).before a0 Z = true) (w2 : (Jvm.Cond.instanceMethod y).before a0 Z = true) (w3 : (Jvm.Cond.initialized y.cls).before a0 Z = true) (w4 : (Jvm.Cond.code y bytes maxL none).before a0 Z = true)
    (hy : y.cls ≠ "java/lang/invoke/MethodHandle" ∧ y.cls ≠ "java/lang/invoke/VarHandle") {a : Addr} {argsL : List Value} (K : OwnCon l Z y bytes maxL none rm (.ref a :: argsL).toArray h n0 Q) (rest : List Value) (W : Nat)
    (hf : rm.frames + 1 ≤ R.frames) (hl : W + (maxL + 11) + rm.locals ≤ R.locals) (hsize : L.size = c.maxLocals) (hlen : ∀ sig, parseMethodDescriptor y.desc = some sig → argsL.length = sig.parameters.length)
    (hs : S = argsL.reverse ++ .ref a :: rest) (hW : (rest.map fun v => v.category).sum ≤ W) (hd : decode c.code pc = .ok (.invokespecial index, 3)) (hc : kc + rm.cells ≤ R.cells) (hsl : ks + rm.slots ≤ R.slots) :
    ∃ v h', OwnW (p := p) (l := l) (e := e) (R := R) (s := s) (m := m) (args := args) (below := below) (meth := meth) (c := c) s0 n0 (pc + 3) L (v.toList ++ rest) h' (kc + rm.cells) (ks + rm.slots) ∧ Q v h' := by
  obtain ⟨T, ls, X, eT, N, st⟩ := r
  obtain ⟨v, vm₁, ⟨T', L', k', n'⟩, -, X', ⟨Lc, hQ, l', y', z'⟩, st'⟩ := X.specialBack hx (y := y) hy1 hown (mvT hZ w1) (mvT hZ w2) (mvT hZ w4) hy (backOf (W := W) (Q := fun v h L => Fr n0 L ∧ Q v h) (K []) hZ w4 w3 hf hl) (g := mkF m pc L S) rfl hsize st (a := a) (argsL := argsL) (rest := rest) hlen hs (by show 2 * 0 + _ ≤ _; omega) hd (fun _ _ => ⟨rfl, eT, hc, hsl⟩)
  dsimp only [Pt.U, Pt.locs, Pt.cells, Pt.slots] at X' l' y' z' st' hQ
  subst l' y' z'
  exact ⟨v, _, ⟨T', _, X', rfl, N.app hQ.1, st'⟩, hQ.2⟩
theorem OwnW.callV (r : OwnW (p := p) (l := l) (e := e) (R := R) (s := s) (m := m) (args := args) (below := below) (meth := meth) (c := c) s0 n0 pc L S h kc ks)
    (hx : p.tables.exec = Jvm.exec) (hZ : Z.Warmed39 s.vm) {own C : String} {index : Nat} {y z : MethodName} {bytes : ByteArray} {maxL : Nat} {ret : Option FieldType} {rm : Room} {Q : Option Value → Heap → Prop} (hown : s.vm.findClass own = some m.cls)
    (w1 : (Jvm.Cond.methodLink own index y).before a0 Z = true) (w2 : (Jvm.Cond.declares y).before a0 Z = true) (w3 : (Jvm.Cond.selects C y z).before a0 Z = true) (w3' : NotFace s y) (w5 : (Jvm.Cond.instanceMethod z).before a0 Z = true) (w6 : (Jvm.Cond.initialized z.cls).before a0 Z = true) (w4 : (Jvm.Cond.code z bytes maxL ret).before a0 Z = true)
    (hy : y.cls ≠ "java/lang/invoke/MethodHandle" ∧ y.cls ≠ "java/lang/invoke/VarHandle") {a : Addr} {argsL : List Value} (E : Exa Z h a C) (K : OwnCon l Z z bytes maxL ret rm (.ref a :: argsL).toArray h n0 Q) (rest : List Value) (W : Nat)
    (hf : rm.frames + 1 ≤ R.frames) (hl : W + (maxL + 11) + rm.locals ≤ R.locals) (hsize : L.size = c.maxLocals) (hlen : ∀ sig, parseMethodDescriptor y.desc = some sig → argsL.length = sig.parameters.length)
    (hs : S = argsL.reverse ++ .ref a :: rest) (hW : (rest.map fun v => v.category).sum ≤ W) (hd : decode c.code pc = .ok (.invokevirtual index, 3)) (hc : kc + rm.cells ≤ R.cells) (hsl : ks + rm.slots ≤ R.slots) :
    ∃ v h', OwnW (p := p) (l := l) (e := e) (R := R) (s := s) (m := m) (args := args) (below := below) (meth := meth) (c := c) s0 n0 (pc + 3) L (v.toList ++ rest) h' (kc + rm.cells) (ks + rm.slots) ∧ Q v h' := by
  obtain ⟨T, ls, X, eT, N, st⟩ := r
  obtain ⟨cq, kq, qa, qb, qc⟩ := isOf hZ eT E
  obtain ⟨v, vm₁, ⟨T', L', k', n'⟩, -, X', ⟨Lc, hQ, l', y', z'⟩, st'⟩ := X.virtualBack hx (y := y) (z := z) hown (mvT hZ w1) (mvT hZ w2) w3' (mvT hZ w3) (mvT hZ w5) hy (backOf (W := W) (Q := fun v h L => Fr n0 L ∧ Q v h) (K []) hZ w4 w6 hf hl) qa qc (g := mkF m pc L S) rfl hsize st (argsL := argsL) (rest := rest) hlen hs (by show 2 * 0 + _ ≤ _; omega) hd (fun _ _ => ⟨rfl, eT, hc, hsl⟩)
  dsimp only [Pt.U, Pt.locs, Pt.cells, Pt.slots] at X' l' y' z' st' hQ
  subst l' y' z'
  exact ⟨v, _, ⟨T', _, X', rfl, N.app hQ.1, st'⟩, hQ.2⟩
theorem OwnW.retN (r : OwnW (p := p) (l := l) (e := e) (R := R) (s := s) (m := m) (args := args) (below := below) (meth := meth) (c := c) s0 n0 pc L S h kc ks)
    (hx : p.tables.exec = Jvm.exec) {t : FieldType} (hret : meth.sig.returnType = some t) (ht : t = .boolean ∨ t = .byte ∨ t = .char ∨ t = .short) {z : Int32} {rest : List Value} (hs : S = .int z :: rest) (hd : decode c.code pc = .ok (.ireturn, 1)) :
    OwnEnd (p := p) (l := l) (e := e) (R := R) (s := s) (m := m) (args := args) (below := below) (meth := meth) (c := c) s0 n0 (some (.int (nar t z))) h kc ks := by
  subst hs
  obtain ⟨T, ls, X, eT, N, st⟩ := r
  exact ⟨T, ls, X, eT, N, (fun q => by rw [hret] at q; cases q), fun fs hl => st.trans (Jvm.RoadKit.retN X hx hret ht hd hl)⟩
theorem OwnW.retW (r : OwnW (p := p) (l := l) (e := e) (R := R) (s := s) (m := m) (args := args) (below := below) (meth := meth) (c := c) s0 n0 pc L S h kc ks)
    (hx : p.tables.exec = Jvm.exec) {t : FieldType} {w : Value} {i : Instr} (hret : meth.sig.returnType = some t) (hn : narrow t w = w) {rest : List Value} (hs : S = w :: rest)
    (hi : (i = .ireturn ∧ (t = .int ∨ t = .boolean ∨ t = .byte ∨ t = .char ∨ t = .short) ∧ ∃ z, w = .int z) ∨ (i = .lreturn ∧ t = .long ∧ ∃ z, w = .long z) ∨ (i = .dreturn ∧ t = .double ∧ ∃ z, w = .double z) ∨ (i = .freturn ∧ t = .float ∧ ∃ z, w = .float z) ∨ (i = .areturn ∧ t.isReference = true ∧ w.isRef = true))
    (hd : decode c.code pc = .ok (i, 1)) :
    OwnEnd (p := p) (l := l) (e := e) (R := R) (s := s) (m := m) (args := args) (below := below) (meth := meth) (c := c) s0 n0 (some w) h kc ks := by
  subst hs
  obtain ⟨T, ls, X, eT, N, st⟩ := r
  exact ⟨T, ls, X, eT, N, (fun q => by rw [hret] at q; cases q), fun fs hl => st.trans (Jvm.RoadKit.retOut X hx hret hn hi hd hl)⟩
theorem OwnW.retV (r : OwnW (p := p) (l := l) (e := e) (R := R) (s := s) (m := m) (args := args) (below := below) (meth := meth) (c := c) s0 n0 pc L [] h kc ks)
    (hx : p.tables.exec = Jvm.exec) (hret : meth.sig.returnType = none) (hd : decode c.code pc = .ok (.return_, 1)) :
    OwnEnd (p := p) (l := l) (e := e) (R := R) (s := s) (m := m) (args := args) (below := below) (meth := meth) (c := c) s0 n0 none h kc ks := by
  obtain ⟨T, ls, X, eT, N, st⟩ := r
  exact ⟨T, ls, X, eT, N, fun _ => rfl, fun fs hl => st.trans (X.returnOut hx hret hd hl)⟩
theorem OwnCon.of {y : MethodName} {bytes : ByteArray} {maxL : Nat} {ret : Option FieldType} {rm : Room} {A : Array Value} {h0 : Heap} {Q : Option Value → Heap → Prop} {L0 : Array Slot} (pn : plainName y.cls = true) (ef : ∀ m : MethodId, entryFrame m A maxL = mkF m 0 L0 [])
    (H : ∀ (p : Program) (e : Env) (s : State) (m : MethodId) (below : List Frame) (meth : Method) (c : Code) (s0 : State), p.tables.exec = Jvm.exec → c.code = bytes → c.maxLocals = maxL → s.vm.findClass y.cls = some m.cls → meth.name = y.name → meth.sig.returnType = ret → Z.Warmed39 s.vm →
      OwnW (p := p) (l := l) (e := e) (R := rm) (s := s) (m := m) (args := A) (below := below) (meth := meth) (c := c) s0 n0 0 L0 [] h0 0 0 →
      ∃ v h' k n, Q v h' ∧ k ≤ rm.cells ∧ n ≤ rm.slots ∧ OwnEnd (p := p) (l := l) (e := e) (R := rm) (s := s) (m := m) (args := A) (below := below) (meth := meth) (c := c) s0 n0 v h' k n) :
    OwnCon l Z y bytes maxL ret rm A h0 n0 Q := by
  intro ws
  refine MetFree.of_bodySF (plainFor_of_name pn) hisR ?_
  intro p e s m args below meth c s₁ Bd hml hP hK
  obtain ⟨rfl, hZ, hh⟩ := hP
  have X0 : Stand p l e rm s m args below meth c s₁ [] 0 0 := Stand.of_body Bd
  have e0 : s₁.heap = h0 := by rw [← hh, Bd.state]; rfl
  obtain ⟨v, h', k, n, hQ, hk, hn, T, ls, X, eT, N, hv, st⟩ := H p e s m below meth c (s₁.setTop (entryFrame m args maxL)) Bd.exec Bd.bytes hml (findClass_of_methodNamed Bd.named) (name_of_methodNamed Bd.named Bd.method).1 Bd.returns hZ
    ⟨s₁, [], X0, e0, Fr.nil n0, by rw [ef m]; exact Steps.refl _⟩
  obtain ⟨fs, hr, hrun, hended, hW, hsame⟩ := X.leave (v := v) hv
  exact ⟨_, _, st fs hr, hrun, hended, v, ls, rfl, ⟨N, by show Q v T.heap; rw [eT]; exact hQ⟩, ⟨_, rfl⟩, hW, hsame.mono hk hn⟩
end OwnKit
/-! the call of Object's own constructor -/
section OwnInit
variable {p : Program} {l : Launch} {e : Env} {R : Room} {s : State} {m : MethodId} {args : Array Value} {below : List Frame} {meth : Method} {c : Code} {s0 : State} {n0 pc pc' : Nat} {L L' : Array Slot} {S S' : List Value} {h h' : Heap} {kc ks : Nat} {Z : State} {a0 : Array Value}
theorem OwnW.initO (r : OwnW (p := p) (l := l) (e := e) (R := R) (s := s) (m := m) (args := args) (below := below) (meth := meth) (c := c) s0 n0 pc L S h kc ks)
    (hx : p.tables.exec = Jvm.exec) (hZ : Z.Warmed39 s.vm) {own : String} {idx : Nat} (hown : s.vm.findClass own = some m.cls) (w1 : (Jvm.Cond.methodLink own idx Lib.objectInit).before a0 Z = true) (w2 : (Jvm.Cond.instanceMethod Lib.objectInit).before a0 Z = true)
    (w3 : (Jvm.Cond.code Lib.objectInit object_method_1_code 1 none).before a0 Z = true) (hsize : L.size = c.maxLocals) {a : Addr} {rest : List Value} (hs : S = .ref a :: rest) (hd : decode c.code pc = .ok (.invokespecial idx, 3))
    (hf : 1 ≤ R.frames) (W : Nat) (hW : (rest.map fun v => v.category).sum ≤ W) (hl : W + 12 ≤ R.locals) :
    OwnW (p := p) (l := l) (e := e) (R := R) (s := s) (m := m) (args := args) (below := below) (meth := meth) (c := c) s0 n0 (pc + 3) L rest h kc ks := by
  obtain ⟨T, ls, X, eT, N, st⟩ := r
  obtain ⟨T', X', e', st'⟩ := Jvm.RoadKit.initO X hx hZ hown w1 w2 w3 eT (g := mkF m pc L S) rfl hsize hs hd hf (W := W) (by show 2 * 0 + _ ≤ _; omega) hl
  exact ⟨T', ls, X', e', N, st.trans (st' _ (Steps.refl _))⟩
end OwnInit
theorem own_pn0 : plainName "java/lang/Record" = true := by first | (simp [plainName, overriddenIn]; done) | decide +kernel
theorem own_pn1 : plainName "com/example/sexton_beetle/sextonbeetle/replica/Version" = true := by first | (simp [plainName, overriddenIn]; done) | decide +kernel
theorem own_pn2 : plainName "com/example/sexton_beetle/sextonbeetle/replica/VersionIsNewerThanPinLaw" = true := by first | (simp [plainName, overriddenIn]; done) | decide +kernel
theorem own_pd0 : parseMethodDescriptor "()V" = some ⟨[], none⟩ := by decide +kernel
theorem own_pd1 : parseMethodDescriptor "(JI)V" = some ⟨[.long, .int], none⟩ := by decide +kernel
theorem own_pd2 : parseMethodDescriptor "(Lcom/example/sexton_beetle/sextonbeetle/replica/Version;)Z" = some ⟨[(.object "com/example/sexton_beetle/sextonbeetle/replica/Version")], some .boolean⟩ := by decide +kernel
theorem own_pd3 : parseMethodDescriptor "(JIJI)Z" = some ⟨[.long, .int, .long, .int], some .boolean⟩ := by decide +kernel
theorem own_d1_0 : decode prog_28_method_1_code 0 = .ok (.aload_n 0, 1) := by decide +kernel
theorem own_d1_1 : decode prog_28_method_1_code 1 = .ok (.invokespecial 1, 3) := by decide +kernel
theorem own_d1_4 : decode prog_28_method_1_code 4 = .ok (.aload_n 0, 1) := by decide +kernel
theorem own_d1_5 : decode prog_28_method_1_code 5 = .ok (.lload_n 1, 1) := by decide +kernel
theorem own_d1_6 : decode prog_28_method_1_code 6 = .ok (.putfield 7, 3) := by decide +kernel
theorem own_d1_9 : decode prog_28_method_1_code 9 = .ok (.aload_n 0, 1) := by decide +kernel
theorem own_d1_10 : decode prog_28_method_1_code 10 = .ok (.iload_n 3, 1) := by decide +kernel
theorem own_d1_11 : decode prog_28_method_1_code 11 = .ok (.putfield 13, 3) := by decide +kernel
theorem own_d1_14 : decode prog_28_method_1_code 14 = .ok (.return_, 1) := by decide +kernel
theorem own_d2_0 : decode jdk_30_method_1_code 0 = .ok (.aload_n 0, 1) := by decide +kernel
theorem own_d2_1 : decode jdk_30_method_1_code 1 = .ok (.invokespecial 1, 3) := by decide +kernel
theorem own_d2_4 : decode jdk_30_method_1_code 4 = .ok (.return_, 1) := by decide +kernel
theorem own_d4_0 : decode prog_28_method_2_code 0 = .ok (.aload_n 0, 1) := by decide +kernel
theorem own_d4_1 : decode prog_28_method_2_code 1 = .ok (.getfield 7, 3) := by decide +kernel
theorem own_d4_4 : decode prog_28_method_2_code 4 = .ok (.aload_n 1, 1) := by decide +kernel
theorem own_d4_5 : decode prog_28_method_2_code 5 = .ok (.getfield 7, 3) := by decide +kernel
theorem own_d4_8 : decode prog_28_method_2_code 8 = .ok (.lcmp, 1) := by decide +kernel
theorem own_d4_9 : decode prog_28_method_2_code 9 = .ok (.ifCond .gt 26, 3) := by decide +kernel
theorem own_d4_12 : decode prog_28_method_2_code 12 = .ok (.aload_n 0, 1) := by decide +kernel
theorem own_d4_13 : decode prog_28_method_2_code 13 = .ok (.getfield 7, 3) := by decide +kernel
theorem own_d4_16 : decode prog_28_method_2_code 16 = .ok (.aload_n 1, 1) := by decide +kernel
theorem own_d4_17 : decode prog_28_method_2_code 17 = .ok (.getfield 7, 3) := by decide +kernel
theorem own_d4_20 : decode prog_28_method_2_code 20 = .ok (.lcmp, 1) := by decide +kernel
theorem own_d4_21 : decode prog_28_method_2_code 21 = .ok (.ifCond .ne 18, 3) := by decide +kernel
theorem own_d4_24 : decode prog_28_method_2_code 24 = .ok (.aload_n 0, 1) := by decide +kernel
theorem own_d4_25 : decode prog_28_method_2_code 25 = .ok (.getfield 13, 3) := by decide +kernel
theorem own_d4_28 : decode prog_28_method_2_code 28 = .ok (.aload_n 1, 1) := by decide +kernel
theorem own_d4_29 : decode prog_28_method_2_code 29 = .ok (.getfield 13, 3) := by decide +kernel
theorem own_d4_32 : decode prog_28_method_2_code 32 = .ok (.if_icmp .le 7, 3) := by decide +kernel
theorem own_d4_35 : decode prog_28_method_2_code 35 = .ok (.iconst 1, 1) := by decide +kernel
theorem own_d4_36 : decode prog_28_method_2_code 36 = .ok (.goto 4, 3) := by decide +kernel
theorem own_d4_39 : decode prog_28_method_2_code 39 = .ok (.iconst 0, 1) := by decide +kernel
theorem own_d4_40 : decode prog_28_method_2_code 40 = .ok (.ireturn, 1) := by decide +kernel
theorem own_d5_0 : decode method_2_code 0 = .ok (.lload_n 0, 1) := by decide +kernel
theorem own_d5_1 : decode method_2_code 1 = .ok (.lload_n 3, 1) := by decide +kernel
theorem own_d5_2 : decode method_2_code 2 = .ok (.lcmp, 1) := by decide +kernel
theorem own_d5_3 : decode method_2_code 3 = .ok (.ifCond .eq 15, 3) := by decide +kernel
theorem own_d5_6 : decode method_2_code 6 = .ok (.lload_n 0, 1) := by decide +kernel
theorem own_d5_7 : decode method_2_code 7 = .ok (.lload_n 3, 1) := by decide +kernel
theorem own_d5_8 : decode method_2_code 8 = .ok (.lcmp, 1) := by decide +kernel
theorem own_d5_9 : decode method_2_code 9 = .ok (.ifCond .le 7, 3) := by decide +kernel
theorem own_d5_12 : decode method_2_code 12 = .ok (.iconst 1, 1) := by decide +kernel
theorem own_d5_13 : decode method_2_code 13 = .ok (.goto 4, 3) := by decide +kernel
theorem own_d5_16 : decode method_2_code 16 = .ok (.iconst 0, 1) := by decide +kernel
theorem own_d5_17 : decode method_2_code 17 = .ok (.ireturn, 1) := by decide +kernel
theorem own_d5_18 : decode method_2_code 18 = .ok (.iload_n 2, 1) := by decide +kernel
theorem own_d5_19 : decode method_2_code 19 = .ok (.iload 5, 2) := by decide +kernel
theorem own_d5_21 : decode method_2_code 21 = .ok (.if_icmp .le 7, 3) := by decide +kernel
theorem own_d5_24 : decode method_2_code 24 = .ok (.iconst 1, 1) := by decide +kernel
theorem own_d5_25 : decode method_2_code 25 = .ok (.goto 4, 3) := by decide +kernel
theorem own_d5_28 : decode method_2_code 28 = .ok (.iconst 0, 1) := by decide +kernel
theorem own_d5_29 : decode method_2_code 29 = .ok (.ireturn, 1) := by decide +kernel
theorem own_ef_rec (m : MethodId) (o : Addr) : entryFrame m #[(.ref o)] 1 = mkF m 0 #[.val (.ref o)] [] := by first | (simp [entryFrame, mkF, argsToLocals, Value.category]; done) | rfl
set_option maxRecDepth 65536 in
set_option maxHeartbeats 40000000 in
theorem own_rec (l : Launch) (Z : State) (a0 : Array Value) (hw : ∀ d ∈ tables_1, d.before a0 Z = true) (o : Addr)  (h0 : Heap) (n0 : Nat)  :
    OwnCon l Z (⟨"java/lang/Record", "<init>", "()V"⟩ : MethodName) jdk_30_method_1_code 1 none ({ frames := 1, cells := 0, slots := 0, locals := 12 } : Room) #[(.ref o)] h0 n0 (fun v h => v = none ∧ h0 = h) := by
  refine OwnCon.of own_pn0 (fun m => own_ef_rec m o) ?_
  intro p e s m below meth c s0 hx hby hml hown hnm hret hZ r
  have r1 : OwnW s0 n0 1 #[.val (.ref o)] [(.ref o)] h0 0 0 := r.go fun T t X k => XS.aloadN X hx rfl (hb hby own_d2_0) rfl rfl k
  have r2 : OwnW s0 n0 4 #[.val (.ref o)] [] h0 0 0 := r1.initO hx hZ hown (hw _ (List.mem_of_getElem? (i := 11) rfl)) (hw _ (List.mem_of_getElem? (i := 12) rfl)) (hw _ (List.mem_of_getElem? (i := 13) rfl)) (by rw [hml]; rfl) rfl (hb hby own_d2_1) (by decide) 0 (Nat.le_of_eq rfl) (by decide)
  have r3 := r2.retV hx hret (hb hby own_d2_4)
  exact ⟨_, _, 0, 0, ⟨rfl, rfl⟩, Nat.le_refl _, Nat.le_refl _, r3⟩
theorem own_ef_ini (m : MethodId) (o : Addr) (y0 : Int64) (y1 : Int32) : entryFrame m #[(.ref o), (.long y0), (.int y1)] 4 = mkF m 0 #[.val (.ref o), .val (.long y0), .second, .val (.int y1)] [] := by first | (simp [entryFrame, mkF, argsToLocals, Value.category]; done) | rfl
set_option maxRecDepth 65536 in
set_option maxHeartbeats 40000000 in
theorem own_ini (l : Launch) (Z : State) (a0 : Array Value) (hw : ∀ d ∈ tables_1, d.before a0 Z = true) (o : Addr) (y0 : Int64) (y1 : Int32)  (h0 : Heap) (n0 : Nat) (E : Exa Z h0 o "com/example/sexton_beetle/sextonbeetle/replica/Version") (F_round : Fld Z h0 o "com/example/sexton_beetle/sextonbeetle/replica/Version" "round" "J" (.long (0 : Int64))) (F_node : Fld Z h0 o "com/example/sexton_beetle/sextonbeetle/replica/Version" "node" "I" (.int (0 : Int32))) (g : n0 ≤ o)  :
    OwnCon l Z (⟨"com/example/sexton_beetle/sextonbeetle/replica/Version", "<init>", "(JI)V"⟩ : MethodName) prog_28_method_1_code 4 none ({ frames := 2, cells := 0, slots := 0, locals := 24 } : Room) #[(.ref o), (.long y0), (.int y1)] h0 n0 (fun v h => v = none ∧ Keep h0 h [o] ∧ Exa Z h o "com/example/sexton_beetle/sextonbeetle/replica/Version" ∧ Fld Z h o "com/example/sexton_beetle/sextonbeetle/replica/Version" "round" "J" (.long y0) ∧ Fld Z h o "com/example/sexton_beetle/sextonbeetle/replica/Version" "node" "I" (.int y1)) := by
  refine OwnCon.of own_pn1 (fun m => own_ef_ini m o y0 y1) ?_
  intro p e s m below meth c s0 hx hby hml hown hnm hret hZ r
  have K : Keep h0 h0 [o] := Keep.refl _ _
  have r1 : OwnW s0 n0 1 #[.val (.ref o), .val (.long y0), .second, .val (.int y1)] [(.ref o)] h0 0 0 := r.go fun T t X k => XS.aloadN X hx rfl (hb hby own_d1_0) rfl rfl k
  obtain ⟨vr2, hr2, r2, qr2⟩ := r1.callN hx hZ rfl hown (hw _ (List.mem_of_getElem? (i := 6) rfl)) (hw _ (List.mem_of_getElem? (i := 7) rfl)) (hw _ (List.mem_of_getElem? (i := 9) rfl)) (hw _ (List.mem_of_getElem? (i := 10) rfl)) (by decide) (a := o) (argsL := []) (own_rec l Z a0 hw o h0 n0) [] 0 (by decide) (by decide) (by rw [hml]; rfl) (lenOf own_pd0 rfl) rfl (Nat.le_of_eq rfl) (hb hby own_d1_1) (by decide) (by decide)
  obtain ⟨rfl, rfl⟩ := qr2
  have r2 : OwnW s0 n0 4 #[.val (.ref o), .val (.long y0), .second, .val (.int y1)] [] h0 0 0 := r2
  have r3 : OwnW s0 n0 5 #[.val (.ref o), .val (.long y0), .second, .val (.int y1)] [(.ref o)] h0 0 0 := r2.go fun T t X k => XS.aloadN X hx rfl (hb hby own_d1_4) rfl rfl k
  have r4 : OwnW s0 n0 6 #[.val (.ref o), .val (.long y0), .second, .val (.int y1)] [(.long y0), (.ref o)] h0 0 0 := r3.go fun T t X k => XS.lloadN X hx rfl (hb hby own_d1_5) rfl k
  obtain ⟨hr5, r5, Wr5⟩ := r4.putF hx hZ hown (hw _ (List.mem_of_getElem? (i := 14) rfl)) F_round E (Or.inr ⟨(hw _ (List.mem_of_getElem? (i := 15) rfl)), rfl, hnm⟩) (hw _ (List.mem_of_getElem? (i := 1) rfl)) (ty := .long) (by decide) rfl rfl rfl (hb hby own_d1_6) g
  have r5 : OwnW s0 n0 9 #[.val (.ref o), .val (.long y0), .second, .val (.int y1)] [] hr5 0 0 := r5
  have F_round := F_round.same Wr5
  have F_node := F_node.other Wr5 (Or.inr (slot_ne (t := .int) (t' := .long) (Or.inr (hw _ (List.mem_of_getElem? (i := 17) rfl))) (Or.inr (hw _ (List.mem_of_getElem? (i := 15) rfl))) (by decide) (by decide) (by decide)))
  have E := E.wr Wr5
  have K := K.wr Wr5 (Or.inl (List.mem_of_getElem? (i := 0) rfl))
  have r6 : OwnW s0 n0 10 #[.val (.ref o), .val (.long y0), .second, .val (.int y1)] [(.ref o)] hr5 0 0 := r5.go fun T t X k => XS.aloadN X hx rfl (hb hby own_d1_9) rfl rfl k
  have r7 : OwnW s0 n0 11 #[.val (.ref o), .val (.long y0), .second, .val (.int y1)] [(.int y1), (.ref o)] hr5 0 0 := r6.go fun T t X k => XS.iloadN X hx rfl (hb hby own_d1_10) rfl k
  obtain ⟨hr8, r8, Wr8⟩ := r7.putF hx hZ hown (hw _ (List.mem_of_getElem? (i := 16) rfl)) F_node E (Or.inr ⟨(hw _ (List.mem_of_getElem? (i := 17) rfl)), rfl, hnm⟩) (hw _ (List.mem_of_getElem? (i := 1) rfl)) (ty := .int) (by decide) rfl rfl rfl (hb hby own_d1_11) g
  have r8 : OwnW s0 n0 14 #[.val (.ref o), .val (.long y0), .second, .val (.int y1)] [] hr8 0 0 := r8
  have F_round := F_round.other Wr8 (Or.inr (slot_ne (t := .long) (t' := .int) (Or.inr (hw _ (List.mem_of_getElem? (i := 15) rfl))) (Or.inr (hw _ (List.mem_of_getElem? (i := 17) rfl))) (by decide) (by decide) (by decide)))
  have F_node := F_node.same Wr8
  have E := E.wr Wr8
  have K := K.wr Wr8 (Or.inl (List.mem_of_getElem? (i := 0) rfl))
  have r9 := r8.retV hx hret (hb hby own_d1_14)
  exact ⟨_, _, 0, 0, ⟨rfl, K, E, F_round, F_node⟩, by decide, by decide, r9⟩
def own_nw (ra : Int64) (na : Int32) (rb : Int64) (nb : Int32) : Int32 := if rb < ra then 1 else if ra = rb then (if nb < na then 1 else 0) else 0
theorem own_irr {x y : Int64} (h : x = y) : ¬ y < x := by subst h; rw [Int64.lt_iff_toInt_lt]; omega
theorem own_ef_nwr (m : MethodId) (o : Addr) (u : Addr) : entryFrame m #[(.ref o), (.ref u)] 2 = mkF m 0 #[.val (.ref o), .val (.ref u)] [] := by first | (simp [entryFrame, mkF, argsToLocals, Value.category]; done) | rfl
set_option maxRecDepth 65536 in
set_option maxHeartbeats 40000000 in
theorem own_nwr (l : Launch) (Z : State) (a0 : Array Value) (hw : ∀ d ∈ tables_1, d.before a0 Z = true) (o : Addr) (u : Addr) (ra : Int64) (na : Int32) (rb : Int64) (nb : Int32) (h0 : Heap) (n0 : Nat) (Ro : Fld Z h0 o "com/example/sexton_beetle/sextonbeetle/replica/Version" "round" "J" (.long ra)) (No : Fld Z h0 o "com/example/sexton_beetle/sextonbeetle/replica/Version" "node" "I" (.int na)) (Ru : Fld Z h0 u "com/example/sexton_beetle/sextonbeetle/replica/Version" "round" "J" (.long rb)) (Nu : Fld Z h0 u "com/example/sexton_beetle/sextonbeetle/replica/Version" "node" "I" (.int nb)) :
    OwnCon l Z (⟨"com/example/sexton_beetle/sextonbeetle/replica/Version", "isNewerThan", "(Lcom/example/sexton_beetle/sextonbeetle/replica/Version;)Z"⟩ : MethodName) prog_28_method_2_code 2 (some .boolean) ({ frames := 0, cells := 0, slots := 0, locals := 0 } : Room) #[(.ref o), (.ref u)] h0 n0 (fun v h => v = some (.int (own_nw ra na rb nb)) ∧ h0 = h) := by
  refine OwnCon.of own_pn1 (fun m => own_ef_nwr m o u) ?_
  intro p e s m below meth c s0 hx hby hml hown hnm hret hZ r
  have r1 : OwnW s0 n0 1 #[.val (.ref o), .val (.ref u)] [(.ref o)] h0 0 0 := r.go fun T t X k => XS.aloadN X hx rfl (hb hby own_d4_0) rfl rfl k
  have r2 : OwnW s0 n0 4 #[.val (.ref o), .val (.ref u)] [(.long ra)] h0 0 0 := r1.getF hx hZ hown (hw _ (List.mem_of_getElem? (i := 14) rfl)) Ro rfl (hb hby own_d4_1)
  have r3 : OwnW s0 n0 5 #[.val (.ref o), .val (.ref u)] [(.ref u), (.long ra)] h0 0 0 := r2.go fun T t X k => XS.aloadN X hx rfl (hb hby own_d4_4) rfl rfl k
  have r4 : OwnW s0 n0 8 #[.val (.ref o), .val (.ref u)] [(.long rb), (.long ra)] h0 0 0 := r3.getF hx hZ hown (hw _ (List.mem_of_getElem? (i := 14) rfl)) Ru rfl (hb hby own_d4_5)
  have r5 : OwnW s0 n0 9 #[.val (.ref o), .val (.ref u)] [(.int (lcmpW ra rb))] h0 0 0 := r4.go fun T t X k => XS.lcmp X hx rfl (hb hby own_d4_8) rfl k
  by_cases h1 : rb < ra
  · have ra_ := r5
    have ra_6 : OwnW s0 n0 35 #[.val (.ref o), .val (.ref u)] [] h0 0 0 := ra_.go fun T t X k => XS.ifYes X hx rfl (pc0 := 9) (pc' := 35) rfl (hb hby own_d4_9) rfl ((if0 _ _).trans (tlt ((lw_gt _ _).mpr h1)).2.2.1) (by decide) (by decide) k
    have ra_7 : OwnW s0 n0 36 #[.val (.ref o), .val (.ref u)] [(.int (1 : Int32))] h0 0 0 := ra_6.go fun T t X k => XS.iconst X hx rfl (hb hby own_d4_35) k
    have ra_8 : OwnW s0 n0 40 #[.val (.ref o), .val (.ref u)] [(.int (1 : Int32))] h0 0 0 := ra_7.go fun T t X k => XS.goto X hx rfl (pc0 := 36) (pc' := 40) rfl (hb hby own_d4_36) (by decide) (by decide) k
    have ra_9 := ra_8.retN hx hret (by simp) rfl (hb hby own_d4_40)
    exact ⟨_, _, 0, 0, ⟨by simp only [own_nw, if_pos h1]; rfl, rfl⟩, Nat.le_refl _, Nat.le_refl _, ra_9⟩
  · have rb_ := r5
    have rb_6 : OwnW s0 n0 12 #[.val (.ref o), .val (.ref u)] [] h0 0 0 := rb_.go fun T t X k => XS.ifNo X hx rfl (hb hby own_d4_9) rfl ((if0 _ _).trans (flt (fun q => h1 ((lw_gt _ _).mp q))).2.2.1) k
    have rb_7 : OwnW s0 n0 13 #[.val (.ref o), .val (.ref u)] [(.ref o)] h0 0 0 := rb_6.go fun T t X k => XS.aloadN X hx rfl (hb hby own_d4_12) rfl rfl k
    have rb_8 : OwnW s0 n0 16 #[.val (.ref o), .val (.ref u)] [(.long ra)] h0 0 0 := rb_7.getF hx hZ hown (hw _ (List.mem_of_getElem? (i := 14) rfl)) Ro rfl (hb hby own_d4_13)
    have rb_9 : OwnW s0 n0 17 #[.val (.ref o), .val (.ref u)] [(.ref u), (.long ra)] h0 0 0 := rb_8.go fun T t X k => XS.aloadN X hx rfl (hb hby own_d4_16) rfl rfl k
    have rb_10 : OwnW s0 n0 20 #[.val (.ref o), .val (.ref u)] [(.long rb), (.long ra)] h0 0 0 := rb_9.getF hx hZ hown (hw _ (List.mem_of_getElem? (i := 14) rfl)) Ru rfl (hb hby own_d4_17)
    have rb_11 : OwnW s0 n0 21 #[.val (.ref o), .val (.ref u)] [(.int (lcmpW ra rb))] h0 0 0 := rb_10.go fun T t X k => XS.lcmp X hx rfl (hb hby own_d4_20) rfl k
    by_cases h2 : ra = rb
    · have rc_ := rb_11
      have rc_12 : OwnW s0 n0 24 #[.val (.ref o), .val (.ref u)] [] h0 0 0 := rc_.go fun T t X k => XS.ifNo X hx rfl (hb hby own_d4_21) rfl ((if0 _ _).trans (teq ((lw_eq _ _).mpr h2)).2) k
      have rc_13 : OwnW s0 n0 25 #[.val (.ref o), .val (.ref u)] [(.ref o)] h0 0 0 := rc_12.go fun T t X k => XS.aloadN X hx rfl (hb hby own_d4_24) rfl rfl k
      have rc_14 : OwnW s0 n0 28 #[.val (.ref o), .val (.ref u)] [(.int na)] h0 0 0 := rc_13.getF hx hZ hown (hw _ (List.mem_of_getElem? (i := 16) rfl)) No rfl (hb hby own_d4_25)
      have rc_15 : OwnW s0 n0 29 #[.val (.ref o), .val (.ref u)] [(.ref u), (.int na)] h0 0 0 := rc_14.go fun T t X k => XS.aloadN X hx rfl (hb hby own_d4_28) rfl rfl k
      have rc_16 : OwnW s0 n0 32 #[.val (.ref o), .val (.ref u)] [(.int nb), (.int na)] h0 0 0 := rc_15.getF hx hZ hown (hw _ (List.mem_of_getElem? (i := 16) rfl)) Nu rfl (hb hby own_d4_29)
      by_cases h3 : nb < na
      · have rd_ := rc_16
        have rd_17 : OwnW s0 n0 35 #[.val (.ref o), .val (.ref u)] [] h0 0 0 := rd_.go fun T t X k => XS.icmpNo X hx rfl (hb hby own_d4_32) rfl (tlt h3).2.2.2 k
        have rd_18 : OwnW s0 n0 36 #[.val (.ref o), .val (.ref u)] [(.int (1 : Int32))] h0 0 0 := rd_17.go fun T t X k => XS.iconst X hx rfl (hb hby own_d4_35) k
        have rd_19 : OwnW s0 n0 40 #[.val (.ref o), .val (.ref u)] [(.int (1 : Int32))] h0 0 0 := rd_18.go fun T t X k => XS.goto X hx rfl (pc0 := 36) (pc' := 40) rfl (hb hby own_d4_36) (by decide) (by decide) k
        have rd_20 := rd_19.retN hx hret (by simp) rfl (hb hby own_d4_40)
        exact ⟨_, _, 0, 0, ⟨by simp only [own_nw, if_neg h1, if_pos h2, if_pos h3]; rfl, rfl⟩, Nat.le_refl _, Nat.le_refl _, rd_20⟩
      · have re_ := rc_16
        have re_17 : OwnW s0 n0 39 #[.val (.ref o), .val (.ref u)] [] h0 0 0 := re_.go fun T t X k => XS.icmpYes X hx rfl (pc0 := 32) (pc' := 39) rfl (hb hby own_d4_32) rfl (flt h3).2.2.2 (by decide) (by decide) k
        have re_18 : OwnW s0 n0 40 #[.val (.ref o), .val (.ref u)] [(.int (0 : Int32))] h0 0 0 := re_17.go fun T t X k => XS.iconst X hx rfl (hb hby own_d4_39) k
        have re_19 := re_18.retN hx hret (by simp) rfl (hb hby own_d4_40)
        exact ⟨_, _, 0, 0, ⟨by simp only [own_nw, if_neg h1, if_pos h2, if_neg h3]; rfl, rfl⟩, Nat.le_refl _, Nat.le_refl _, re_19⟩
    · have rf_ := rb_11
      have rf_12 : OwnW s0 n0 39 #[.val (.ref o), .val (.ref u)] [] h0 0 0 := rf_.go fun T t X k => XS.ifYes X hx rfl (pc0 := 21) (pc' := 39) rfl (hb hby own_d4_21) rfl ((if0 _ _).trans (feq (fun q => h2 ((lw_eq _ _).mp q))).2) (by decide) (by decide) k
      have rf_13 : OwnW s0 n0 40 #[.val (.ref o), .val (.ref u)] [(.int (0 : Int32))] h0 0 0 := rf_12.go fun T t X k => XS.iconst X hx rfl (hb hby own_d4_39) k
      have rf_14 := rf_13.retN hx hret (by simp) rfl (hb hby own_d4_40)
      exact ⟨_, _, 0, 0, ⟨by simp only [own_nw, if_neg h1, if_neg h2]; rfl, rfl⟩, Nat.le_refl _, Nat.le_refl _, rf_14⟩
theorem own_ef_exp (m : MethodId) (ra : Int64) (na : Int32) (rb : Int64) (nb : Int32) : entryFrame m #[(.long ra), (.int na), (.long rb), (.int nb)] 6 = mkF m 0 #[.val (.long ra), .second, .val (.int na), .val (.long rb), .second, .val (.int nb)] [] := by first | (simp [entryFrame, mkF, argsToLocals, Value.category]; done) | rfl
set_option maxRecDepth 65536 in
set_option maxHeartbeats 40000000 in
theorem own_exp (l : Launch) (Z : State) (a0 : Array Value) (hw : ∀ d ∈ tables_1, d.before a0 Z = true) (ra : Int64) (na : Int32) (rb : Int64) (nb : Int32)  (h0 : Heap) (n0 : Nat)  :
    OwnCon l Z (⟨"com/example/sexton_beetle/sextonbeetle/replica/VersionIsNewerThanPinLaw", "expected", "(JIJI)Z"⟩ : MethodName) method_2_code 6 (some .boolean) ({ frames := 0, cells := 0, slots := 0, locals := 0 } : Room) #[(.long ra), (.int na), (.long rb), (.int nb)] h0 n0 (fun v h => v = some (.int (own_nw ra na rb nb)) ∧ h0 = h) := by
  refine OwnCon.of own_pn2 (fun m => own_ef_exp m ra na rb nb) ?_
  intro p e s m below meth c s0 hx hby hml hown hnm hret hZ r
  have r1 : OwnW s0 n0 1 #[.val (.long ra), .second, .val (.int na), .val (.long rb), .second, .val (.int nb)] [(.long ra)] h0 0 0 := r.go fun T t X k => XS.lloadN X hx rfl (hb hby own_d5_0) rfl k
  have r2 : OwnW s0 n0 2 #[.val (.long ra), .second, .val (.int na), .val (.long rb), .second, .val (.int nb)] [(.long rb), (.long ra)] h0 0 0 := r1.go fun T t X k => XS.lloadN X hx rfl (hb hby own_d5_1) rfl k
  have r3 : OwnW s0 n0 3 #[.val (.long ra), .second, .val (.int na), .val (.long rb), .second, .val (.int nb)] [(.int (lcmpW ra rb))] h0 0 0 := r2.go fun T t X k => XS.lcmp X hx rfl (hb hby own_d5_2) rfl k
  by_cases h2 : ra = rb
  · have ra_ := r3
    have ra_4 : OwnW s0 n0 18 #[.val (.long ra), .second, .val (.int na), .val (.long rb), .second, .val (.int nb)] [] h0 0 0 := ra_.go fun T t X k => XS.ifYes X hx rfl (pc0 := 3) (pc' := 18) rfl (hb hby own_d5_3) rfl ((if0 _ _).trans (teq ((lw_eq _ _).mpr h2)).1) (by decide) (by decide) k
    have h1 := own_irr h2
    have ra_5 : OwnW s0 n0 19 #[.val (.long ra), .second, .val (.int na), .val (.long rb), .second, .val (.int nb)] [(.int na)] h0 0 0 := ra_4.go fun T t X k => XS.iloadN X hx rfl (hb hby own_d5_18) rfl k
    have ra_6 : OwnW s0 n0 21 #[.val (.long ra), .second, .val (.int na), .val (.long rb), .second, .val (.int nb)] [(.int nb), (.int na)] h0 0 0 := ra_5.go fun T t X k => XS.iload X hx rfl (hb hby own_d5_19) rfl k
    by_cases h3 : nb < na
    · have rd_ := ra_6
      have rd_7 : OwnW s0 n0 24 #[.val (.long ra), .second, .val (.int na), .val (.long rb), .second, .val (.int nb)] [] h0 0 0 := rd_.go fun T t X k => XS.icmpNo X hx rfl (hb hby own_d5_21) rfl (tlt h3).2.2.2 k
      have rd_8 : OwnW s0 n0 25 #[.val (.long ra), .second, .val (.int na), .val (.long rb), .second, .val (.int nb)] [(.int (1 : Int32))] h0 0 0 := rd_7.go fun T t X k => XS.iconst X hx rfl (hb hby own_d5_24) k
      have rd_9 : OwnW s0 n0 29 #[.val (.long ra), .second, .val (.int na), .val (.long rb), .second, .val (.int nb)] [(.int (1 : Int32))] h0 0 0 := rd_8.go fun T t X k => XS.goto X hx rfl (pc0 := 25) (pc' := 29) rfl (hb hby own_d5_25) (by decide) (by decide) k
      have rd_10 := rd_9.retN hx hret (by simp) rfl (hb hby own_d5_29)
      exact ⟨_, _, 0, 0, ⟨by simp only [own_nw, if_neg h1, if_pos h2, if_pos h3]; rfl, rfl⟩, Nat.le_refl _, Nat.le_refl _, rd_10⟩
    · have re_ := ra_6
      have re_7 : OwnW s0 n0 28 #[.val (.long ra), .second, .val (.int na), .val (.long rb), .second, .val (.int nb)] [] h0 0 0 := re_.go fun T t X k => XS.icmpYes X hx rfl (pc0 := 21) (pc' := 28) rfl (hb hby own_d5_21) rfl (flt h3).2.2.2 (by decide) (by decide) k
      have re_8 : OwnW s0 n0 29 #[.val (.long ra), .second, .val (.int na), .val (.long rb), .second, .val (.int nb)] [(.int (0 : Int32))] h0 0 0 := re_7.go fun T t X k => XS.iconst X hx rfl (hb hby own_d5_28) k
      have re_9 := re_8.retN hx hret (by simp) rfl (hb hby own_d5_29)
      exact ⟨_, _, 0, 0, ⟨by simp only [own_nw, if_neg h1, if_pos h2, if_neg h3]; rfl, rfl⟩, Nat.le_refl _, Nat.le_refl _, re_9⟩
  · have rb_ := r3
    have rb_4 : OwnW s0 n0 6 #[.val (.long ra), .second, .val (.int na), .val (.long rb), .second, .val (.int nb)] [] h0 0 0 := rb_.go fun T t X k => XS.ifNo X hx rfl (hb hby own_d5_3) rfl ((if0 _ _).trans (feq (fun q => h2 ((lw_eq _ _).mp q))).1) k
    have rb_5 : OwnW s0 n0 7 #[.val (.long ra), .second, .val (.int na), .val (.long rb), .second, .val (.int nb)] [(.long ra)] h0 0 0 := rb_4.go fun T t X k => XS.lloadN X hx rfl (hb hby own_d5_6) rfl k
    have rb_6 : OwnW s0 n0 8 #[.val (.long ra), .second, .val (.int na), .val (.long rb), .second, .val (.int nb)] [(.long rb), (.long ra)] h0 0 0 := rb_5.go fun T t X k => XS.lloadN X hx rfl (hb hby own_d5_7) rfl k
    have rb_7 : OwnW s0 n0 9 #[.val (.long ra), .second, .val (.int na), .val (.long rb), .second, .val (.int nb)] [(.int (lcmpW ra rb))] h0 0 0 := rb_6.go fun T t X k => XS.lcmp X hx rfl (hb hby own_d5_8) rfl k
    by_cases h1 : rb < ra
    · have rc_ := rb_7
      have rc_8 : OwnW s0 n0 12 #[.val (.long ra), .second, .val (.int na), .val (.long rb), .second, .val (.int nb)] [] h0 0 0 := rc_.go fun T t X k => XS.ifNo X hx rfl (hb hby own_d5_9) rfl ((if0 _ _).trans (tlt ((lw_gt _ _).mpr h1)).2.2.2) k
      have rc_9 : OwnW s0 n0 13 #[.val (.long ra), .second, .val (.int na), .val (.long rb), .second, .val (.int nb)] [(.int (1 : Int32))] h0 0 0 := rc_8.go fun T t X k => XS.iconst X hx rfl (hb hby own_d5_12) k
      have rc_10 : OwnW s0 n0 17 #[.val (.long ra), .second, .val (.int na), .val (.long rb), .second, .val (.int nb)] [(.int (1 : Int32))] h0 0 0 := rc_9.go fun T t X k => XS.goto X hx rfl (pc0 := 13) (pc' := 17) rfl (hb hby own_d5_13) (by decide) (by decide) k
      have rc_11 := rc_10.retN hx hret (by simp) rfl (hb hby own_d5_17)
      exact ⟨_, _, 0, 0, ⟨by simp only [own_nw, if_pos h1]; rfl, rfl⟩, Nat.le_refl _, Nat.le_refl _, rc_11⟩
    · have rg_ := rb_7
      have rg_8 : OwnW s0 n0 16 #[.val (.long ra), .second, .val (.int na), .val (.long rb), .second, .val (.int nb)] [] h0 0 0 := rg_.go fun T t X k => XS.ifYes X hx rfl (pc0 := 9) (pc' := 16) rfl (hb hby own_d5_9) rfl ((if0 _ _).trans (flt (fun q => h1 ((lw_gt _ _).mp q))).2.2.2) (by decide) (by decide) k
      have rg_9 : OwnW s0 n0 17 #[.val (.long ra), .second, .val (.int na), .val (.long rb), .second, .val (.int nb)] [(.int (0 : Int32))] h0 0 0 := rg_8.go fun T t X k => XS.iconst X hx rfl (hb hby own_d5_16) k
      have rg_10 := rg_9.retN hx hret (by simp) rfl (hb hby own_d5_17)
      exact ⟨_, _, 0, 0, ⟨by simp only [own_nw, if_neg h1, if_neg h2]; rfl, rfl⟩, Nat.le_refl _, Nat.le_refl _, rg_10⟩
theorem own_ef_law (m : MethodId) (x0 : Int64) (x1 : Int32) (x2 : Int64) (x3 : Int32) (x4 : Int32) : entryFrame m #[(.long x0), (.int x1), (.long x2), (.int x3), (.int x4)] maxLocals = mkF m 0 #[.val (.long x0), .second, .val (.int x1), .val (.long x2), .second, .val (.int x3), .val (.int x4), .unset, .unset, .unset, .unset, .unset, .unset, .unset] [] := by first | (simp [entryFrame, mkF, argsToLocals, Value.category, maxLocals]; done) | rfl
set_option maxRecDepth 65536 in
set_option maxHeartbeats 40000000 in
theorem own_law (l : Launch) (Z : State) (a0 : Array Value) (hw : ∀ d ∈ tables_1, d.before a0 Z = true) (x0 : Int64) (x1 : Int32) (x2 : Int64) (x3 : Int32) (x4 : Int32)  (h0 : Heap) (n0 : Nat) (Z0 : n0 ≤ h0.size) :
    OwnCon l Z x code maxLocals ret room_1 #[(.long x0), (.int x1), (.long x2), (.int x3), (.int x4)] h0 n0 (fun v h => v = some (.int 1)) := by
  refine OwnCon.of own_pn2 (fun m => own_ef_law m x0 x1 x2 x3 x4) ?_
  intro p e s m below meth c s0 hx hby hml hown hnm hret hZ r
  have hown : s.vm.findClass "com/example/sexton_beetle/sextonbeetle/replica/VersionIsNewerThanPinLaw" = some m.cls := hown
  have r1 : OwnW s0 n0 2 #[.val (.long x0), .second, .val (.int x1), .val (.long x2), .second, .val (.int x3), .val (.int x4), .unset, .unset, .unset, .unset, .unset, .unset, .unset] [(.int x4)] h0 0 0 := r.go fun T t X k => XS.iload X hx rfl (hb hby at_0) rfl k
  have r2 : OwnW s0 n0 3 #[.val (.long x0), .second, .val (.int x1), .val (.long x2), .second, .val (.int x3), .val (.int x4), .unset, .unset, .unset, .unset, .unset, .unset, .unset] [(.int (1 : Int32)), (.int x4)] h0 0 0 := r1.go fun T t X k => XS.iconst X hx rfl (hb hby at_2) k
  have r3 : OwnW s0 n0 4 #[.val (.long x0), .second, .val (.int x1), .val (.long x2), .second, .val (.int x3), .val (.int x4), .unset, .unset, .unset, .unset, .unset, .unset, .unset] [(.int (x4 &&& (1 : Int32)))] h0 0 0 := r2.go fun T t X k => XS.iand X hx rfl (hb hby at_3) rfl k
  obtain ⟨yb, -, r⟩ : ∃ yb : Int64, True ∧ OwnW (p := p) (l := l) (e := e) (R := room_1) (s := s) (m := m) (args := #[(.long x0), (.int x1), (.long x2), (.int x3), (.int x4)]) (below := below) (meth := meth) (c := c) s0 n0 12 #[.val (.long x0), .second, .val (.int x1), .val (.long x2), .second, .val (.int x3), .val (.int x4), .unset, .unset, .unset, .unset, .unset, .unset, .unset] [(.long yb)] h0 0 0 := by
    by_cases hc : (x4 &&& (1 : Int32)) = (0 : Int32)
    · have ra := r3
      have ra4 : OwnW s0 n0 11 #[.val (.long x0), .second, .val (.int x1), .val (.long x2), .second, .val (.int x3), .val (.int x4), .unset, .unset, .unset, .unset, .unset, .unset, .unset] [] h0 0 0 := ra.go fun T t X k => XS.ifYes X hx rfl (pc0 := 4) (pc' := 11) rfl (hb hby at_4) rfl ((if0 _ _).trans (teq hc).1) (by decide) (by decide) k
      have ra5 : OwnW s0 n0 12 #[.val (.long x0), .second, .val (.int x1), .val (.long x2), .second, .val (.int x3), .val (.int x4), .unset, .unset, .unset, .unset, .unset, .unset, .unset] [(.long x2)] h0 0 0 := ra4.go fun T t X k => XS.lloadN X hx rfl (hb hby at_11) rfl k
      exact ⟨_, trivial, ra5⟩
    · have rb := r3
      have rb4 : OwnW s0 n0 7 #[.val (.long x0), .second, .val (.int x1), .val (.long x2), .second, .val (.int x3), .val (.int x4), .unset, .unset, .unset, .unset, .unset, .unset, .unset] [] h0 0 0 := rb.go fun T t X k => XS.ifNo X hx rfl (hb hby at_4) rfl ((if0 _ _).trans (feq hc).1) k
      have rb5 : OwnW s0 n0 8 #[.val (.long x0), .second, .val (.int x1), .val (.long x2), .second, .val (.int x3), .val (.int x4), .unset, .unset, .unset, .unset, .unset, .unset, .unset] [(.long x0)] h0 0 0 := rb4.go fun T t X k => XS.lloadN X hx rfl (hb hby at_7) rfl k
      have rb6 : OwnW s0 n0 12 #[.val (.long x0), .second, .val (.int x1), .val (.long x2), .second, .val (.int x3), .val (.int x4), .unset, .unset, .unset, .unset, .unset, .unset, .unset] [(.long x0)] h0 0 0 := rb5.go fun T t X k => XS.goto X hx rfl (pc0 := 8) (pc' := 12) rfl (hb hby at_8) (by decide) (by decide) k
      exact ⟨_, trivial, rb6⟩
  have r24 : OwnW s0 n0 14 #[.val (.long x0), .second, .val (.int x1), .val (.long x2), .second, .val (.int x3), .val (.int x4), .val (.long yb), .second, .unset, .unset, .unset, .unset, .unset] [] h0 0 0 := r.go fun T t X k => XS.lstore X hx rfl (hb hby at_12) rfl (l' := #[.val (.long x0), .second, .val (.int x1), .val (.long x2), .second, .val (.int x3), .val (.int x4), .val (.long yb), .second, .unset, .unset, .unset, .unset, .unset]) rfl k
  have r25 : OwnW s0 n0 16 #[.val (.long x0), .second, .val (.int x1), .val (.long x2), .second, .val (.int x3), .val (.int x4), .val (.long yb), .second, .unset, .unset, .unset, .unset, .unset] [(.int x4)] h0 0 0 := r24.go fun T t X k => XS.iload X hx rfl (hb hby at_14) rfl k
  have r26 : OwnW s0 n0 17 #[.val (.long x0), .second, .val (.int x1), .val (.long x2), .second, .val (.int x3), .val (.int x4), .val (.long yb), .second, .unset, .unset, .unset, .unset, .unset] [(.int (2 : Int32)), (.int x4)] h0 0 0 := r25.go fun T t X k => XS.iconst X hx rfl (hb hby at_16) k
  have r27 : OwnW s0 n0 18 #[.val (.long x0), .second, .val (.int x1), .val (.long x2), .second, .val (.int x3), .val (.int x4), .val (.long yb), .second, .unset, .unset, .unset, .unset, .unset] [(.int (x4 &&& (2 : Int32)))] h0 0 0 := r26.go fun T t X k => XS.iand X hx rfl (hb hby at_17) rfl k
  obtain ⟨zb, -, r⟩ : ∃ zb : Int32, True ∧ OwnW (p := p) (l := l) (e := e) (R := room_1) (s := s) (m := m) (args := #[(.long x0), (.int x1), (.long x2), (.int x3), (.int x4)]) (below := below) (meth := meth) (c := c) s0 n0 27 #[.val (.long x0), .second, .val (.int x1), .val (.long x2), .second, .val (.int x3), .val (.int x4), .val (.long yb), .second, .unset, .unset, .unset, .unset, .unset] [(.int zb)] h0 0 0 := by
    by_cases hc : (x4 &&& (2 : Int32)) = (0 : Int32)
    · have ra := r27
      have ra28 : OwnW s0 n0 25 #[.val (.long x0), .second, .val (.int x1), .val (.long x2), .second, .val (.int x3), .val (.int x4), .val (.long yb), .second, .unset, .unset, .unset, .unset, .unset] [] h0 0 0 := ra.go fun T t X k => XS.ifYes X hx rfl (pc0 := 18) (pc' := 25) rfl (hb hby at_18) rfl ((if0 _ _).trans (teq hc).1) (by decide) (by decide) k
      have ra29 : OwnW s0 n0 27 #[.val (.long x0), .second, .val (.int x1), .val (.long x2), .second, .val (.int x3), .val (.int x4), .val (.long yb), .second, .unset, .unset, .unset, .unset, .unset] [(.int x3)] h0 0 0 := ra28.go fun T t X k => XS.iload X hx rfl (hb hby at_25) rfl k
      exact ⟨_, trivial, ra29⟩
    · have rb := r27
      have rb28 : OwnW s0 n0 21 #[.val (.long x0), .second, .val (.int x1), .val (.long x2), .second, .val (.int x3), .val (.int x4), .val (.long yb), .second, .unset, .unset, .unset, .unset, .unset] [] h0 0 0 := rb.go fun T t X k => XS.ifNo X hx rfl (hb hby at_18) rfl ((if0 _ _).trans (feq hc).1) k
      have rb29 : OwnW s0 n0 22 #[.val (.long x0), .second, .val (.int x1), .val (.long x2), .second, .val (.int x3), .val (.int x4), .val (.long yb), .second, .unset, .unset, .unset, .unset, .unset] [(.int x1)] h0 0 0 := rb28.go fun T t X k => XS.iloadN X hx rfl (hb hby at_21) rfl k
      have rb30 : OwnW s0 n0 27 #[.val (.long x0), .second, .val (.int x1), .val (.long x2), .second, .val (.int x3), .val (.int x4), .val (.long yb), .second, .unset, .unset, .unset, .unset, .unset] [(.int x1)] h0 0 0 := rb29.go fun T t X k => XS.goto X hx rfl (pc0 := 22) (pc' := 27) rfl (hb hby at_22) (by decide) (by decide) k
      exact ⟨_, trivial, rb30⟩
  have r48 : OwnW s0 n0 29 #[.val (.long x0), .second, .val (.int x1), .val (.long x2), .second, .val (.int x3), .val (.int x4), .val (.long yb), .second, .val (.int zb), .unset, .unset, .unset, .unset] [] h0 0 0 := r.go fun T t X k => XS.istore X hx rfl (hb hby at_27) rfl (l' := #[.val (.long x0), .second, .val (.int x1), .val (.long x2), .second, .val (.int x3), .val (.int x4), .val (.long yb), .second, .val (.int zb), .unset, .unset, .unset, .unset]) rfl k
  obtain ⟨hr49, r49, Er49, Xo, Dr49⟩ := r48.newO hx hZ hown (hw _ (List.mem_of_getElem? (i := 0) rfl)) (hw _ (List.mem_of_getElem? (i := 1) rfl)) (hw _ (List.mem_of_getElem? (i := 2) rfl)) (hb hby at_29) (by decide) (by decide)
  obtain ⟨o, qo⟩ : ∃ z, z = h0.size := ⟨_, rfl⟩
  rw [← qo] at r49 Xo Dr49
  have F_round_o : Fld Z hr49 o "com/example/sexton_beetle/sextonbeetle/replica/Version" "round" "J" (.long (0 : Int64)) := Dr49 (Or.inr (hw _ (List.mem_of_getElem? (i := 15) rfl))) (ty := .long) (by decide)
  have F_node_o : Fld Z hr49 o "com/example/sexton_beetle/sextonbeetle/replica/Version" "node" "I" (.int (0 : Int32)) := Dr49 (Or.inr (hw _ (List.mem_of_getElem? (i := 17) rfl))) (ty := .int) (by decide)
  have r49 : OwnW s0 n0 32 #[.val (.long x0), .second, .val (.int x1), .val (.long x2), .second, .val (.int x3), .val (.int x4), .val (.long yb), .second, .val (.int zb), .unset, .unset, .unset, .unset] [(.ref o)] hr49 1 2 := r49
  have r50 : OwnW s0 n0 33 #[.val (.long x0), .second, .val (.int x1), .val (.long x2), .second, .val (.int x3), .val (.int x4), .val (.long yb), .second, .val (.int zb), .unset, .unset, .unset, .unset] [(.ref o), (.ref o)] hr49 1 2 := r49.go fun T t X k => XS.dup X hx rfl (hb hby at_32) rfl rfl k
  have r51 : OwnW s0 n0 34 #[.val (.long x0), .second, .val (.int x1), .val (.long x2), .second, .val (.int x3), .val (.int x4), .val (.long yb), .second, .val (.int zb), .unset, .unset, .unset, .unset] [(.long x0), (.ref o), (.ref o)] hr49 1 2 := r50.go fun T t X k => XS.lloadN X hx rfl (hb hby at_33) rfl k
  have r52 : OwnW s0 n0 35 #[.val (.long x0), .second, .val (.int x1), .val (.long x2), .second, .val (.int x3), .val (.int x4), .val (.long yb), .second, .val (.int zb), .unset, .unset, .unset, .unset] [(.int x1), (.long x0), (.ref o), (.ref o)] hr49 1 2 := r51.go fun T t X k => XS.iloadN X hx rfl (hb hby at_34) rfl k
  have go : n0 ≤ o := Nat.le_trans Z0 (Nat.le_of_eq qo.symm)
  obtain ⟨vr53, hr53, r53, qr53⟩ := r52.callN hx hZ rfl hown (hw _ (List.mem_of_getElem? (i := 3) rfl)) (hw _ (List.mem_of_getElem? (i := 4) rfl)) (hw _ (List.mem_of_getElem? (i := 2) rfl)) (hw _ (List.mem_of_getElem? (i := 5) rfl)) (by decide) (a := o) (argsL := [(.long x0), (.int x1)]) (own_ini l Z a0 hw o x0 x1 hr49 n0 Xo F_round_o F_node_o go) [(.ref o)] 1 (by decide) (by decide) (by rw [hml]; rfl) (lenOf own_pd1 rfl) rfl (Nat.le_of_eq rfl) (hb hby at_35) (by decide) (by decide)
  obtain ⟨rfl, K1, E1, R1, N1⟩ := qr53
  have r53 : OwnW s0 n0 38 #[.val (.long x0), .second, .val (.int x1), .val (.long x2), .second, .val (.int x3), .val (.int x4), .val (.long yb), .second, .val (.int zb), .unset, .unset, .unset, .unset] [(.ref o)] hr53 1 2 := r53
  have Z1 : n0 ≤ hr53.size := Nat.le_trans (Nat.le_trans Z0 Er49.1) K1.1
  have r54 : OwnW s0 n0 40 #[.val (.long x0), .second, .val (.int x1), .val (.long x2), .second, .val (.int x3), .val (.int x4), .val (.long yb), .second, .val (.int zb), .val (.ref o), .unset, .unset, .unset] [] hr53 1 2 := r53.go fun T t X k => XS.astore X hx rfl (hb hby at_38) rfl rfl (l' := #[.val (.long x0), .second, .val (.int x1), .val (.long x2), .second, .val (.int x3), .val (.int x4), .val (.long yb), .second, .val (.int zb), .val (.ref o), .unset, .unset, .unset]) rfl k
  obtain ⟨hr55, r55, Er55, Xu, Dr55⟩ := r54.newO hx hZ hown (hw _ (List.mem_of_getElem? (i := 0) rfl)) (hw _ (List.mem_of_getElem? (i := 1) rfl)) (hw _ (List.mem_of_getElem? (i := 2) rfl)) (hb hby at_40) (by decide) (by decide)
  obtain ⟨u, qu⟩ : ∃ z, z = hr53.size := ⟨_, rfl⟩
  rw [← qu] at r55 Xu Dr55
  have F_round_u : Fld Z hr55 u "com/example/sexton_beetle/sextonbeetle/replica/Version" "round" "J" (.long (0 : Int64)) := Dr55 (Or.inr (hw _ (List.mem_of_getElem? (i := 15) rfl))) (ty := .long) (by decide)
  have F_node_u : Fld Z hr55 u "com/example/sexton_beetle/sextonbeetle/replica/Version" "node" "I" (.int (0 : Int32)) := Dr55 (Or.inr (hw _ (List.mem_of_getElem? (i := 17) rfl))) (ty := .int) (by decide)
  have r55 : OwnW s0 n0 43 #[.val (.long x0), .second, .val (.int x1), .val (.long x2), .second, .val (.int x3), .val (.int x4), .val (.long yb), .second, .val (.int zb), .val (.ref o), .unset, .unset, .unset] [(.ref u)] hr55 2 4 := r55
  have r56 : OwnW s0 n0 44 #[.val (.long x0), .second, .val (.int x1), .val (.long x2), .second, .val (.int x3), .val (.int x4), .val (.long yb), .second, .val (.int zb), .val (.ref o), .unset, .unset, .unset] [(.ref u), (.ref u)] hr55 2 4 := r55.go fun T t X k => XS.dup X hx rfl (hb hby at_43) rfl rfl k
  have r57 : OwnW s0 n0 46 #[.val (.long x0), .second, .val (.int x1), .val (.long x2), .second, .val (.int x3), .val (.int x4), .val (.long yb), .second, .val (.int zb), .val (.ref o), .unset, .unset, .unset] [(.long yb), (.ref u), (.ref u)] hr55 2 4 := r56.go fun T t X k => XS.lload X hx rfl (hb hby at_44) rfl k
  have r58 : OwnW s0 n0 48 #[.val (.long x0), .second, .val (.int x1), .val (.long x2), .second, .val (.int x3), .val (.int x4), .val (.long yb), .second, .val (.int zb), .val (.ref o), .unset, .unset, .unset] [(.int zb), (.long yb), (.ref u), (.ref u)] hr55 2 4 := r57.go fun T t X k => XS.iload X hx rfl (hb hby at_46) rfl k
  have gu : n0 ≤ u := Nat.le_trans Z1 (Nat.le_of_eq qu.symm)
  have E1 := E1.ext Er55
  have R1 := R1.ext Er55
  have N1 := N1.ext Er55
  have hne : o ∉ [u] := by intro q; cases List.mem_singleton.mp q; exact absurd (qu ▸ (Exa.lt (Exa.keep Xo K1))) (Nat.lt_irrefl _)
  obtain ⟨vr59, hr59, r59, qr59⟩ := r58.callN hx hZ rfl hown (hw _ (List.mem_of_getElem? (i := 3) rfl)) (hw _ (List.mem_of_getElem? (i := 4) rfl)) (hw _ (List.mem_of_getElem? (i := 2) rfl)) (hw _ (List.mem_of_getElem? (i := 5) rfl)) (by decide) (a := u) (argsL := [(.long yb), (.int zb)]) (own_ini l Z a0 hw u yb zb hr55 n0 Xu F_round_u F_node_u gu) [(.ref u)] 1 (by decide) (by decide) (by rw [hml]; rfl) (lenOf own_pd1 rfl) rfl (Nat.le_of_eq rfl) (hb hby at_48) (by decide) (by decide)
  obtain ⟨rfl, K2, E2, R2, N2⟩ := qr59
  have r59 : OwnW s0 n0 51 #[.val (.long x0), .second, .val (.int x1), .val (.long x2), .second, .val (.int x3), .val (.int x4), .val (.long yb), .second, .val (.int zb), .val (.ref o), .unset, .unset, .unset] [(.ref u)] hr59 2 4 := r59
  have E1 := E1.keep K2
  have R1 := R1.keep K2 hne
  have N1 := N1.keep K2 hne
  have r60 : OwnW s0 n0 53 #[.val (.long x0), .second, .val (.int x1), .val (.long x2), .second, .val (.int x3), .val (.int x4), .val (.long yb), .second, .val (.int zb), .val (.ref o), .val (.ref u), .unset, .unset] [] hr59 2 4 := r59.go fun T t X k => XS.astore X hx rfl (hb hby at_51) rfl rfl (l' := #[.val (.long x0), .second, .val (.int x1), .val (.long x2), .second, .val (.int x3), .val (.int x4), .val (.long yb), .second, .val (.int zb), .val (.ref o), .val (.ref u), .unset, .unset]) rfl k
  have r61 : OwnW s0 n0 55 #[.val (.long x0), .second, .val (.int x1), .val (.long x2), .second, .val (.int x3), .val (.int x4), .val (.long yb), .second, .val (.int zb), .val (.ref o), .val (.ref u), .unset, .unset] [(.ref o)] hr59 2 4 := r60.go fun T t X k => XS.aload X hx rfl (hb hby at_53) rfl rfl k
  have r62 : OwnW s0 n0 57 #[.val (.long x0), .second, .val (.int x1), .val (.long x2), .second, .val (.int x3), .val (.int x4), .val (.long yb), .second, .val (.int zb), .val (.ref o), .val (.ref u), .unset, .unset] [(.ref u), (.ref o)] hr59 2 4 := r61.go fun T t X k => XS.aload X hx rfl (hb hby at_55) rfl rfl k
  obtain ⟨vr63, hr63, r63, qr63⟩ := r62.callV hx hZ hown (hw _ (List.mem_of_getElem? (i := 18) rfl)) (hw _ (List.mem_of_getElem? (i := 19) rfl)) (hw _ (List.mem_of_getElem? (i := 21) rfl)) (notFace_of_selects (args := #[]) (mvT hZ (hw _ (List.mem_of_getElem? (i := 21) rfl)))) (hw _ (List.mem_of_getElem? (i := 20) rfl)) (hw _ (List.mem_of_getElem? (i := 2) rfl)) (hw _ (List.mem_of_getElem? (i := 22) rfl)) (by decide) (a := o) (argsL := [(.ref u)]) E1 (own_nwr l Z a0 hw o u x0 x1 yb zb hr59 n0 R1 N1 R2 N2) [] 0 (by decide) (by decide) (by rw [hml]; rfl) (lenOf own_pd2 rfl) rfl (Nat.le_of_eq rfl) (hb hby at_57) (by decide) (by decide)
  obtain ⟨rfl, rfl⟩ := qr63
  have r63 : OwnW s0 n0 60 #[.val (.long x0), .second, .val (.int x1), .val (.long x2), .second, .val (.int x3), .val (.int x4), .val (.long yb), .second, .val (.int zb), .val (.ref o), .val (.ref u), .unset, .unset] [(.int (own_nw x0 x1 yb zb))] hr59 2 4 := r63
  have r64 : OwnW s0 n0 62 #[.val (.long x0), .second, .val (.int x1), .val (.long x2), .second, .val (.int x3), .val (.int x4), .val (.long yb), .second, .val (.int zb), .val (.ref o), .val (.ref u), .val (.int (own_nw x0 x1 yb zb)), .unset] [] hr59 2 4 := r63.go fun T t X k => XS.istore X hx rfl (hb hby at_60) rfl (l' := #[.val (.long x0), .second, .val (.int x1), .val (.long x2), .second, .val (.int x3), .val (.int x4), .val (.long yb), .second, .val (.int zb), .val (.ref o), .val (.ref u), .val (.int (own_nw x0 x1 yb zb)), .unset]) rfl k
  have r65 : OwnW s0 n0 64 #[.val (.long x0), .second, .val (.int x1), .val (.long x2), .second, .val (.int x3), .val (.int x4), .val (.long yb), .second, .val (.int zb), .val (.ref o), .val (.ref u), .val (.int (own_nw x0 x1 yb zb)), .unset] [(.ref u)] hr59 2 4 := r64.go fun T t X k => XS.aload X hx rfl (hb hby at_62) rfl rfl k
  have r66 : OwnW s0 n0 66 #[.val (.long x0), .second, .val (.int x1), .val (.long x2), .second, .val (.int x3), .val (.int x4), .val (.long yb), .second, .val (.int zb), .val (.ref o), .val (.ref u), .val (.int (own_nw x0 x1 yb zb)), .unset] [(.ref o), (.ref u)] hr59 2 4 := r65.go fun T t X k => XS.aload X hx rfl (hb hby at_64) rfl rfl k
  obtain ⟨vr67, hr67, r67, qr67⟩ := r66.callV hx hZ hown (hw _ (List.mem_of_getElem? (i := 18) rfl)) (hw _ (List.mem_of_getElem? (i := 19) rfl)) (hw _ (List.mem_of_getElem? (i := 21) rfl)) (notFace_of_selects (args := #[]) (mvT hZ (hw _ (List.mem_of_getElem? (i := 21) rfl)))) (hw _ (List.mem_of_getElem? (i := 20) rfl)) (hw _ (List.mem_of_getElem? (i := 2) rfl)) (hw _ (List.mem_of_getElem? (i := 22) rfl)) (by decide) (a := u) (argsL := [(.ref o)]) E2 (own_nwr l Z a0 hw u o yb zb x0 x1 hr59 n0 R2 N2 R1 N1) [] 0 (by decide) (by decide) (by rw [hml]; rfl) (lenOf own_pd2 rfl) rfl (Nat.le_of_eq rfl) (hb hby at_66) (by decide) (by decide)
  obtain ⟨rfl, rfl⟩ := qr67
  have r67 : OwnW s0 n0 69 #[.val (.long x0), .second, .val (.int x1), .val (.long x2), .second, .val (.int x3), .val (.int x4), .val (.long yb), .second, .val (.int zb), .val (.ref o), .val (.ref u), .val (.int (own_nw x0 x1 yb zb)), .unset] [(.int (own_nw yb zb x0 x1))] hr59 2 4 := r67
  have r68 : OwnW s0 n0 71 #[.val (.long x0), .second, .val (.int x1), .val (.long x2), .second, .val (.int x3), .val (.int x4), .val (.long yb), .second, .val (.int zb), .val (.ref o), .val (.ref u), .val (.int (own_nw x0 x1 yb zb)), .val (.int (own_nw yb zb x0 x1))] [] hr59 2 4 := r67.go fun T t X k => XS.istore X hx rfl (hb hby at_69) rfl (l' := #[.val (.long x0), .second, .val (.int x1), .val (.long x2), .second, .val (.int x3), .val (.int x4), .val (.long yb), .second, .val (.int zb), .val (.ref o), .val (.ref u), .val (.int (own_nw x0 x1 yb zb)), .val (.int (own_nw yb zb x0 x1))]) rfl k
  have r69 : OwnW s0 n0 73 #[.val (.long x0), .second, .val (.int x1), .val (.long x2), .second, .val (.int x3), .val (.int x4), .val (.long yb), .second, .val (.int zb), .val (.ref o), .val (.ref u), .val (.int (own_nw x0 x1 yb zb)), .val (.int (own_nw yb zb x0 x1))] [(.int (own_nw x0 x1 yb zb))] hr59 2 4 := r68.go fun T t X k => XS.iload X hx rfl (hb hby at_71) rfl k
  have r70 : OwnW s0 n0 74 #[.val (.long x0), .second, .val (.int x1), .val (.long x2), .second, .val (.int x3), .val (.int x4), .val (.long yb), .second, .val (.int zb), .val (.ref o), .val (.ref u), .val (.int (own_nw x0 x1 yb zb)), .val (.int (own_nw yb zb x0 x1))] [(.long x0), (.int (own_nw x0 x1 yb zb))] hr59 2 4 := r69.go fun T t X k => XS.lloadN X hx rfl (hb hby at_73) rfl k
  have r71 : OwnW s0 n0 75 #[.val (.long x0), .second, .val (.int x1), .val (.long x2), .second, .val (.int x3), .val (.int x4), .val (.long yb), .second, .val (.int zb), .val (.ref o), .val (.ref u), .val (.int (own_nw x0 x1 yb zb)), .val (.int (own_nw yb zb x0 x1))] [(.int x1), (.long x0), (.int (own_nw x0 x1 yb zb))] hr59 2 4 := r70.go fun T t X k => XS.iloadN X hx rfl (hb hby at_74) rfl k
  have r72 : OwnW s0 n0 77 #[.val (.long x0), .second, .val (.int x1), .val (.long x2), .second, .val (.int x3), .val (.int x4), .val (.long yb), .second, .val (.int zb), .val (.ref o), .val (.ref u), .val (.int (own_nw x0 x1 yb zb)), .val (.int (own_nw yb zb x0 x1))] [(.long yb), (.int x1), (.long x0), (.int (own_nw x0 x1 yb zb))] hr59 2 4 := r71.go fun T t X k => XS.lload X hx rfl (hb hby at_75) rfl k
  have r73 : OwnW s0 n0 79 #[.val (.long x0), .second, .val (.int x1), .val (.long x2), .second, .val (.int x3), .val (.int x4), .val (.long yb), .second, .val (.int zb), .val (.ref o), .val (.ref u), .val (.int (own_nw x0 x1 yb zb)), .val (.int (own_nw yb zb x0 x1))] [(.int zb), (.long yb), (.int x1), (.long x0), (.int (own_nw x0 x1 yb zb))] hr59 2 4 := r72.go fun T t X k => XS.iload X hx rfl (hb hby at_77) rfl k
  obtain ⟨vr74, hr74, r74, qr74⟩ := r73.callS hx hZ hown (hw _ (List.mem_of_getElem? (i := 23) rfl)) (hw _ (List.mem_of_getElem? (i := 24) rfl)) (hw _ (List.mem_of_getElem? (i := 25) rfl)) (hw _ (List.mem_of_getElem? (i := 26) rfl)) (by decide) (argsL := [(.long x0), (.int x1), (.long yb), (.int zb)]) (own_exp l Z a0 hw x0 x1 yb zb hr59 n0) [(.int (own_nw x0 x1 yb zb))] 1 (by decide) (by decide) (by rw [hml]; rfl) (lenOf own_pd3 rfl) rfl (Nat.le_of_eq rfl) (hb hby at_79) (by decide) (by decide)
  obtain ⟨rfl, rfl⟩ := qr74
  have r74 : OwnW s0 n0 82 #[.val (.long x0), .second, .val (.int x1), .val (.long x2), .second, .val (.int x3), .val (.int x4), .val (.long yb), .second, .val (.int zb), .val (.ref o), .val (.ref u), .val (.int (own_nw x0 x1 yb zb)), .val (.int (own_nw yb zb x0 x1))] [(.int (own_nw x0 x1 yb zb)), (.int (own_nw x0 x1 yb zb))] hr59 2 4 := r74
  have r75 : OwnW s0 n0 85 #[.val (.long x0), .second, .val (.int x1), .val (.long x2), .second, .val (.int x3), .val (.int x4), .val (.long yb), .second, .val (.int zb), .val (.ref o), .val (.ref u), .val (.int (own_nw x0 x1 yb zb)), .val (.int (own_nw yb zb x0 x1))] [] hr59 2 4 := r74.go fun T t X k => XS.icmpNo X hx rfl (hb hby at_82) rfl (teq rfl).2 k
  have r76 : OwnW s0 n0 87 #[.val (.long x0), .second, .val (.int x1), .val (.long x2), .second, .val (.int x3), .val (.int x4), .val (.long yb), .second, .val (.int zb), .val (.ref o), .val (.ref u), .val (.int (own_nw x0 x1 yb zb)), .val (.int (own_nw yb zb x0 x1))] [(.int (own_nw yb zb x0 x1))] hr59 2 4 := r75.go fun T t X k => XS.iload X hx rfl (hb hby at_85) rfl k
  have r77 : OwnW s0 n0 89 #[.val (.long x0), .second, .val (.int x1), .val (.long x2), .second, .val (.int x3), .val (.int x4), .val (.long yb), .second, .val (.int zb), .val (.ref o), .val (.ref u), .val (.int (own_nw x0 x1 yb zb)), .val (.int (own_nw yb zb x0 x1))] [(.long yb), (.int (own_nw yb zb x0 x1))] hr59 2 4 := r76.go fun T t X k => XS.lload X hx rfl (hb hby at_87) rfl k
  have r78 : OwnW s0 n0 91 #[.val (.long x0), .second, .val (.int x1), .val (.long x2), .second, .val (.int x3), .val (.int x4), .val (.long yb), .second, .val (.int zb), .val (.ref o), .val (.ref u), .val (.int (own_nw x0 x1 yb zb)), .val (.int (own_nw yb zb x0 x1))] [(.int zb), (.long yb), (.int (own_nw yb zb x0 x1))] hr59 2 4 := r77.go fun T t X k => XS.iload X hx rfl (hb hby at_89) rfl k
  have r79 : OwnW s0 n0 92 #[.val (.long x0), .second, .val (.int x1), .val (.long x2), .second, .val (.int x3), .val (.int x4), .val (.long yb), .second, .val (.int zb), .val (.ref o), .val (.ref u), .val (.int (own_nw x0 x1 yb zb)), .val (.int (own_nw yb zb x0 x1))] [(.long x0), (.int zb), (.long yb), (.int (own_nw yb zb x0 x1))] hr59 2 4 := r78.go fun T t X k => XS.lloadN X hx rfl (hb hby at_91) rfl k
  have r80 : OwnW s0 n0 93 #[.val (.long x0), .second, .val (.int x1), .val (.long x2), .second, .val (.int x3), .val (.int x4), .val (.long yb), .second, .val (.int zb), .val (.ref o), .val (.ref u), .val (.int (own_nw x0 x1 yb zb)), .val (.int (own_nw yb zb x0 x1))] [(.int x1), (.long x0), (.int zb), (.long yb), (.int (own_nw yb zb x0 x1))] hr59 2 4 := r79.go fun T t X k => XS.iloadN X hx rfl (hb hby at_92) rfl k
  obtain ⟨vr81, hr81, r81, qr81⟩ := r80.callS hx hZ hown (hw _ (List.mem_of_getElem? (i := 23) rfl)) (hw _ (List.mem_of_getElem? (i := 24) rfl)) (hw _ (List.mem_of_getElem? (i := 25) rfl)) (hw _ (List.mem_of_getElem? (i := 26) rfl)) (by decide) (argsL := [(.long yb), (.int zb), (.long x0), (.int x1)]) (own_exp l Z a0 hw yb zb x0 x1 hr59 n0) [(.int (own_nw yb zb x0 x1))] 1 (by decide) (by decide) (by rw [hml]; rfl) (lenOf own_pd3 rfl) rfl (Nat.le_of_eq rfl) (hb hby at_93) (by decide) (by decide)
  obtain ⟨rfl, rfl⟩ := qr81
  have r81 : OwnW s0 n0 96 #[.val (.long x0), .second, .val (.int x1), .val (.long x2), .second, .val (.int x3), .val (.int x4), .val (.long yb), .second, .val (.int zb), .val (.ref o), .val (.ref u), .val (.int (own_nw x0 x1 yb zb)), .val (.int (own_nw yb zb x0 x1))] [(.int (own_nw yb zb x0 x1)), (.int (own_nw yb zb x0 x1))] hr59 2 4 := r81
  have r82 : OwnW s0 n0 99 #[.val (.long x0), .second, .val (.int x1), .val (.long x2), .second, .val (.int x3), .val (.int x4), .val (.long yb), .second, .val (.int zb), .val (.ref o), .val (.ref u), .val (.int (own_nw x0 x1 yb zb)), .val (.int (own_nw yb zb x0 x1))] [] hr59 2 4 := r81.go fun T t X k => XS.icmpNo X hx rfl (hb hby at_96) rfl (teq rfl).2 k
  have r83 : OwnW s0 n0 100 #[.val (.long x0), .second, .val (.int x1), .val (.long x2), .second, .val (.int x3), .val (.int x4), .val (.long yb), .second, .val (.int zb), .val (.ref o), .val (.ref u), .val (.int (own_nw x0 x1 yb zb)), .val (.int (own_nw yb zb x0 x1))] [(.int (1 : Int32))] hr59 2 4 := r82.go fun T t X k => XS.iconst X hx rfl (hb hby at_99) k
  have r84 : OwnW s0 n0 104 #[.val (.long x0), .second, .val (.int x1), .val (.long x2), .second, .val (.int x3), .val (.int x4), .val (.long yb), .second, .val (.int zb), .val (.ref o), .val (.ref u), .val (.int (own_nw x0 x1 yb zb)), .val (.int (own_nw yb zb x0 x1))] [(.int (1 : Int32))] hr59 2 4 := r83.go fun T t X k => XS.goto X hx rfl (pc0 := 100) (pc' := 104) rfl (hb hby at_100) (by decide) (by decide) k
  have r85 := r84.retN hx hret (by simp) rfl (hb hby at_104)
  exact ⟨_, _, 2, 4, rfl, by decide, by decide, r85⟩
set_option maxRecDepth 65536 in
set_option maxHeartbeats 40000000 in
theorem comes_1 {Post : Tables → Env → Array Value → State → Outcome → State → Prop} (hpost : ∀ tb e args s v u, (limb_1_1.after args s (.returned v) u = true ∧ limb_1_2.after args s (.returned v) u = true ∧ True) → FrameEnd s (.returned v) u (Jvm.fieldLocs frame_1_writes args s ++ Jvm.arrayLocs frame_1_arrays args s ++ Jvm.staticLocs frame_1_statics s) 16 128 → Post tb e args s (.returned v) u) :
    ArmFor flags0 classFile x code maxLocals ret World_1 tables_1 room_1 Calls_1 rest_1 Pre_1 Post := by
  intro l hfl _ _ p e ha hc hk s m args below hf hA hF happ hP
  obtain ⟨hcalls, hrest, hpre⟩ := hP
  obtain ⟨-, -, -, hnamed, -, -, -, hat⟩ := (Spec.applies_iff hf).mp happ
  obtain ⟨hg, hn⟩ := and_e (Cond.before_iff.mp (show (Jvm.Cond.and given_1 narrow_1).before args s = true from hpre))
  obtain ⟨g0, t0⟩ := and_e hg
  obtain ⟨g1, t1⟩ := and_e t0
  obtain ⟨g2, t2⟩ := and_e t1
  obtain ⟨g3, t3⟩ := and_e t2
  obtain ⟨g4, t4⟩ := and_e t3
  obtain ⟨w0, w1, w2, w3, w4, rfl⟩ : ∃ w0 w1 w2 w3 w4 : Value, args = #[w0, w1, w2, w3, w4] := by
    have hs : args.size = 5 := by simpa [Cond.value, given_1] using g0
    obtain ⟨L⟩ := args
    match L, hs with
    | [w0, w1, w2, w3, w4], _ => exact ⟨w0, w1, w2, w3, w4, rfl⟩
  have hw := fun d (hd : d ∈ tables_1) => atoms_spec (ws := Jvm.Cond.code x code maxLocals ret :: tables_1) hat d (List.mem_cons_of_mem _ hd)
  have hfit : Fit s := fun {y c} hc i hi => by
    obtain ⟨ha, rfl⟩ := Array.getElem?_eq_some_iff.mp hc
    have q := List.all_eq_true.mp ((Array.all_eq_true_iff_forall_mem.mp hF) _ (Array.getElem_mem ha)) i (List.mem_range.mpr hi)
    simpa [Array.getElem?_eq_getElem hi] using q
  obtain ⟨i0, e0⟩ := isL_v g1
  obtain rfl : w0 = (.long i0) := Option.some.inj e0
  obtain ⟨i1, e1⟩ := is_v g2
  obtain rfl : w1 = (.int i1) := Option.some.inj e1
  obtain ⟨i2, e2⟩ := isL_v g3
  obtain rfl : w2 = (.long i2) := Option.some.inj e2
  obtain ⟨i3, e3⟩ := is_v g4
  obtain rfl : w3 = (.int i3) := Option.some.inj e3
  obtain ⟨i4, e4⟩ := is_v t4
  obtain rfl : w4 = (.int i4) := Option.some.inj e4
  obtain ⟨n, o, h1, h2, h3, _, L, rfl, ⟨N, rfl⟩, hq⟩ := own_law l s _ hw i0 i1 i2 i3 i4 s.heap s.heap.size (Nat.le_refl _) tables_1 p e ha hc hk s m _ below hf ((Spec.applies_iff_loose hf).mp happ).1 ⟨rfl, State.Warmed39.refl s, rfl⟩ trivial
  refine ⟨n, _, h1, h2, h3, hpost _ _ _ _ _ _ ⟨Cond.after_iff.mpr rfl, Cond.after_iff.mpr (eq_i res_at (Term.int_eval (1)) rfl), trivial⟩ ⟨hq.1, hq.2.1, (hq.2.2.sift fun y hy => Or.inr (N y hy)).mono (by decide) (by decide)⟩⟩
theorem main_1_1 : Claimed_1_1 := comes_1 fun _ _ _ _ _ _ h hF => ⟨h.1, hF⟩
theorem main_1_2 : Claimed_1_2 := comes_1 fun _ _ _ _ _ _ h hF => ⟨h.2.1, hF⟩
end Jvm.Pilot.@@N@@
namespace Jvm.Pilot.@@N@@
open Jvm Jvm.ClassFile Sem Op Lib Jvm.Free Jvm.Stand Jvm.Pilot.@@N@@.Jvm.D
/-! MADE BY PROGRAM (witnessworld.py) out of the Statement's table words and the real class files: 10 classes; the members and pool entries that the words name. The judged class is class 1, her method 2. -/
namespace start1
open Jvm.ClassFile
def u (s : String) : CpInfo := .utf8 (stringToUtf16 s)
/-- a pool by its gaps: so many unusable entries, then the entry; so many at the end -/
def gap : Nat → List CpInfo → List CpInfo
  | 0, r => r
  | n + 1, r => .unusable :: gap n r
def poolList (es : List (Nat × CpInfo)) (last : Nat) : List CpInfo := es.foldr (fun e r => gap e.1 (e.2 :: r)) (gap last [])
def pool (es : List (Nat × CpInfo)) (last : Nat) : Array CpInfo := ⟨poolList es last⟩
def fileOf (pool : Array CpInfo) (this : Nat) (attrs : Array Attribute := #[]) (ms : Array MethodInfo := #[]) (fl : Nat := 33) (sup : Nat := 0) (ifs : Array Nat := #[]) (fds : Array FieldInfo := #[]) : ClassFile where
  minorVersion := 0
  majorVersion := 65
  constantPool := pool
  accessFlags := fl
  thisClass := this
  superClass := sup
  interfaces := ifs
  fields := fds
  methods := ms
  attributes := attrs
def plain (name : String) (sup : Option ClassId) : Class where
  name := name
  kind := .ordinary
  loader := none
  accessFlags := 33
  super := sup
  interfaces := #[]
  cf := none
  fields := #[]
  methods := #[]
  instanceTypes := #[]
  staticTypes := #[]
  resolved := #[]
  callSites := []
  init := .initialized
  statics := none
  mirror := none

def pool0 : Array CpInfo := pool [(5, u "<init>"), (0, u "()V"), (1, .class_ 10), (1, u "java/lang/Object")] 113

def k0c0 : Code := { maxStack := 0, maxLocals := 1, code := object_method_1_code, exceptionTable := #[], attributes := #[] }
def k0m0 : Method := { name := "<init>", desc := "()V", sig := { parameters := [], returnType := none }, accessFlags := 1, code := some k0c0 }
/-- java/lang/Object -/
def k0 : Class := { plain "java/lang/Object" none with
  accessFlags := 33
  interfaces := #[]
  cf := some (fileOf pool0 8 #[] #[{ accessFlags := 1, nameIndex := 5, descriptorIndex := 6, attributes := #[] }] 33 0 #[] #[])
  fields := #[]
  methods := #[k0m0]
  instanceTypes := #[]
  staticTypes := #[]
  resolved := Array.replicate 124 none
  statics := none }

def pool1 : Array CpInfo := pool [(2, .class_ 4), (1, u "java/lang/Object"), (0, u "<init>"), (0, u "()V"), (0, .class_ 8), (0, u "com/example/sexton_beetle/sextonbeetle/replica/Version"), (0, .methodref 7 10), (0, .nameAndType 5 11), (0, u "(JI)V"), (0, .methodref 7 13), (0, .nameAndType 14 15), (0, u "isNewerThan"), (0, u "(Lcom/example/sexton_beetle/sextonbeetle/replica/Version;)Z"), (0, .methodref 17 18), (0, .class_ 19), (0, .nameAndType 20 21), (0, u "com/example/sexton_beetle/sextonbeetle/replica/VersionIsNewerThanPinLaw"), (0, u "expected"), (0, u "(JIJI)Z"), (3, u "law"), (0, u "(JIJII)Z")] 2

def k1m0 : Method := { name := "<init>", desc := "()V", sig := { parameters := [], returnType := none }, accessFlags := 1, code := none }
def k1c1 : Code := { maxStack := 4, maxLocals := 6, code := method_2_code, exceptionTable := #[], attributes := #[] }
def k1m1 : Method := { name := "expected", desc := "(JIJI)Z", sig := { parameters := [.long, .int, .long, .int], returnType := some .boolean }, accessFlags := 10, code := some k1c1 }
def k1c2 : Code := { maxStack := 7, maxLocals := 14, code := code, exceptionTable := #[], attributes := #[] }
def k1m2 : Method := { name := "law", desc := "(JIJII)Z", sig := { parameters := [.long, .int, .long, .int, .int], returnType := some .boolean }, accessFlags := 9, code := some k1c2 }
/-- com/example/sexton_beetle/sextonbeetle/replica/VersionIsNewerThanPinLaw -/
def k1 : Class := { plain "com/example/sexton_beetle/sextonbeetle/replica/VersionIsNewerThanPinLaw" (some 0) with
  accessFlags := 49
  interfaces := #[]
  cf := some (fileOf pool1 17 #[] #[{ accessFlags := 1, nameIndex := 5, descriptorIndex := 6, attributes := #[] }, { accessFlags := 10, nameIndex := 20, descriptorIndex := 21, attributes := #[] }, { accessFlags := 9, nameIndex := 25, descriptorIndex := 26, attributes := #[] }] 49 2 #[] #[])
  fields := #[]
  methods := #[k1m0, k1m1, k1m2]
  instanceTypes := #[]
  staticTypes := #[]
  resolved := Array.replicate 29 none
  statics := none }

def pool2 : Array CpInfo := pool [(1, .methodref 2 3), (0, .class_ 4), (0, .nameAndType 5 6), (0, u "java/lang/Object"), (0, u "<init>"), (0, u "()V"), (0, .class_ 8), (0, u "java/lang/Record")] 13

def k2c0 : Code := { maxStack := 1, maxLocals := 1, code := jdk_30_method_1_code, exceptionTable := #[], attributes := #[] }
def k2m0 : Method := { name := "<init>", desc := "()V", sig := { parameters := [], returnType := none }, accessFlags := 4, code := some k2c0 }
/-- java/lang/Record -/
def k2 : Class := { plain "java/lang/Record" (some 0) with
  accessFlags := 1057
  interfaces := #[]
  cf := some (fileOf pool2 7 #[] #[{ accessFlags := 4, nameIndex := 5, descriptorIndex := 6, attributes := #[] }] 1057 2 #[] #[])
  fields := #[]
  methods := #[k2m0]
  instanceTypes := #[]
  staticTypes := #[]
  resolved := Array.replicate 22 none
  statics := none }

def pool3 : Array CpInfo := pool [(1, .methodref 2 3), (0, .class_ 4), (0, .nameAndType 5 6), (0, u "java/lang/Record"), (0, u "<init>"), (0, u "()V"), (0, .fieldref 8 9), (0, .class_ 10), (0, .nameAndType 11 12), (0, u "com/example/sexton_beetle/sextonbeetle/replica/Version"), (0, u "round"), (0, u "J"), (0, .fieldref 8 14), (0, .nameAndType 15 16), (0, u "node"), (0, u "I"), (12, u "(JI)V"), (3, u "isNewerThan"), (0, u "(Lcom/example/sexton_beetle/sextonbeetle/replica/Version;)Z")] 35

def k3c0 : Code := { maxStack := 3, maxLocals := 4, code := prog_28_method_1_code, exceptionTable := #[], attributes := #[] }
def k3m0 : Method := { name := "<init>", desc := "(JI)V", sig := { parameters := [.long, .int], returnType := none }, accessFlags := 1, code := some k3c0 }
def k3c1 : Code := { maxStack := 4, maxLocals := 2, code := prog_28_method_2_code, exceptionTable := #[], attributes := #[] }
def k3m1 : Method := { name := "isNewerThan", desc := "(Lcom/example/sexton_beetle/sextonbeetle/replica/Version;)Z", sig := { parameters := [(.object "com/example/sexton_beetle/sextonbeetle/replica/Version")], returnType := some .boolean }, accessFlags := 1, code := some k3c1 }
/-- com/example/sexton_beetle/sextonbeetle/replica/Version -/
def k3 : Class := { plain "com/example/sexton_beetle/sextonbeetle/replica/Version" (some 2) with
  accessFlags := 49
  interfaces := #[]
  cf := some (fileOf pool3 8 #[] #[{ accessFlags := 1, nameIndex := 5, descriptorIndex := 29, attributes := #[] }, { accessFlags := 1, nameIndex := 33, descriptorIndex := 34, attributes := #[] }] 49 2 #[] #[{ accessFlags := 18, nameIndex := 11, descriptorIndex := 12, attributes := #[] }, { accessFlags := 18, nameIndex := 15, descriptorIndex := 16, attributes := #[] }])
  fields := #[{ name := "round", type := .long, accessFlags := 18, slot := 0, constantValue := 0 }, { name := "node", type := .int, accessFlags := 18, slot := 1, constantValue := 0 }]
  methods := #[k3m0, k3m1]
  instanceTypes := #[.long, .int]
  staticTypes := #[]
  resolved := Array.replicate 70 none
  statics := none }

def pool4 : Array CpInfo := pool [(1, u "java/lang/Cloneable"), (0, .class_ 1), (0, u "java/lang/Object"), (0, .class_ 3)] 3

/-- java/lang/Cloneable -/
def k4 : Class := { plain "java/lang/Cloneable" (some 0) with
  accessFlags := 1537
  interfaces := #[]
  cf := some (fileOf pool4 2 #[] #[] 1537 4 #[] #[])
  fields := #[]
  methods := #[]
  instanceTypes := #[]
  staticTypes := #[]
  resolved := Array.replicate 8 none
  statics := none }

def pool5 : Array CpInfo := pool [(1, u "java/io/Serializable"), (0, .class_ 1), (0, u "java/lang/Object"), (0, .class_ 3)] 3

/-- java/io/Serializable -/
def k5 : Class := { plain "java/io/Serializable" (some 0) with
  accessFlags := 1537
  interfaces := #[]
  cf := some (fileOf pool5 2 #[] #[] 1537 4 #[] #[])
  fields := #[]
  methods := #[]
  instanceTypes := #[]
  staticTypes := #[]
  resolved := Array.replicate 8 none
  statics := none }

/-- the primitive byte -/
def k6 : Class := { plain "byte" none with kind := .primitive 'B', accessFlags := 0x411 }
/-- [B -/
def k7 : Class := { plain "[B" (some 0) with kind := .array 6 .byte, interfaces := #[4, 5], accessFlags := 1041 }

/-- the primitive int -/
def k8 : Class := { plain "int" none with kind := .primitive 'I', accessFlags := 0x411 }
/-- [I -/
def k9 : Class := { plain "[I" (some 0) with kind := .array 8 .int, interfaces := #[4, 5], accessFlags := 1041 }

def heap : Heap := #[]
def classes : Array Class := #[k0, k1, k2, k3, k4, k5, k6, k7, k8, k9]
def interned : List (Array UInt16 × Addr) := []
def slotsUsed : Nat := 0
def theMethod : MethodId := ⟨1, 2⟩
def args0 : Array Value := #[.long 1, .int 2, .long 3, .int 4, .int 1]
def aboutOver (below : List Frame) : State where
  vm := { classes := classes, interned := interned.toArray }
  heap := heap
  slotsUsed := slotsUsed
  threads := #[{ frames := .invoking theMethod args0 :: below }]
def below0 : List Frame := [.native { method := ⟨0, 0⟩, args := #[] }]
def about1 : State := aboutOver below0
def p0 : Program := .bare "" "" ""
def e0 : Env := launch0.env 0 0 0
theorem w_frames : about1.frames = Frame.invoking theMethod args0 :: below0 := rfl
set_option maxRecDepth 65536 in
theorem w_args : argsFit about1.vm theMethod args0 = true := by decide +kernel
set_option maxRecDepth 65536 in
theorem w_heap : heapFits about1 = true := by decide +kernel
set_option maxRecDepth 65536 in
theorem w_runnable : about1.curStatus? = some .runnable := by decide +kernel
set_option maxRecDepth 65536 in
theorem w_alone : about1.alone = true := by decide +kernel
set_option maxRecDepth 65536 in
theorem w_named : about1.methodNamed? x = some theMethod := by decide +kernel
set_option maxRecDepth 65536 in
theorem w_hears : about1.hears theMethod below0 = true := by decide +kernel
set_option maxRecDepth 65536 in
theorem w_ripe : about1.ripe theMethod args0 below0 = true := by decide +kernel
theorem w_running : about1.status = .running := rfl
set_option maxRecDepth 65536 in
theorem w_room : about1.hasRoom e0.platform room_1 = true :=
  launch0.hasRoom_least _ room_1 (by decide +kernel) (by decide +kernel) (by decide +kernel) (by decide +kernel) (by decide +kernel) (by decide +kernel)
theorem allAtoms_all (ts : List Jvm.Cond) (a : Array Jvm.Value) (st : Jvm.State) : (allAtoms ts).before a st = ts.all (fun c => c.before a st) := by
  induction ts with
  | nil => rfl
  | cons c t ih =>
    show (Jvm.Cond.and c (allAtoms t)).before a st = _
    rw [Jvm.Cond.before_and, ih, List.all_cons]
def words1 : List Jvm.Cond := Jvm.Cond.code x code maxLocals ret :: tables_1
/-- a 'code' word, met by the world's own term for the bytes: nothing is compared byte by byte -/
theorem code_word {y : MethodName} {bytes : ByteArray} {mx : Nat} {rt : Option FieldType} {a : Array Value} {s : State} {m : MethodId} {meth : Method} {c : Code} (h1 : s.methodNamed? y = some m) (h2 : s.vm.method? m = some meth) (h3 : meth.code = some c) (h4 : c.code = bytes)
    (h5 : (c.maxLocals == mx && c.exceptionTable.isEmpty && decide (c.maxStack ≤ mostOperands) && decide (meth.sig.returnType = rt) && !meth.locks && decide (parseMethodDescriptor y.desc = some meth.sig)) = true) : (Jvm.Cond.code y bytes mx rt).before a s = true := by
  simp only [Bool.and_eq_true, beq_iff_eq, Bool.not_eq_true', decide_eq_true_eq] at h5
  obtain ⟨⟨⟨⟨⟨g1, g2⟩, g3⟩, g4⟩, g5⟩, g6⟩ := h5
  simp [Cond.before, Cond.holds, Cond.value, h1, h2, h3, h4, g1, g2, g3, g4, g5, g6]
def isCode : Jvm.Cond → Bool
  | .code _ _ _ _ => true
  | _ => false
theorem all_split {L : List Jvm.Cond} {P : Jvm.Cond → Bool} (h1 : L.all (fun c => isCode c || P c) = true) (h2 : ∀ c ∈ L.filter isCode, P c = true) : L.all P = true := by
  refine List.all_eq_true.mpr fun c hc => ?_
  have h := List.all_eq_true.mp h1 c hc
  rcases Bool.eq_false_or_eq_true (isCode c) with hi | hi
  · exact h2 c (List.mem_filter.mpr ⟨hc, hi⟩)
  · simpa [hi] using h
set_option maxRecDepth 65536 in
theorem w_c0 : (Jvm.Cond.code x code maxLocals ret).before args0 about1 = true := code_word (m := ⟨1, 2⟩) (meth := k1m2) (c := k1c2) (by decide +kernel) rfl rfl rfl (by decide +kernel)
set_option maxRecDepth 65536 in
theorem w_c1 : (Jvm.Cond.code ({ cls := "com/example/sexton_beetle/sextonbeetle/replica/Version", name := "<init>", desc := "(JI)V" } : Jvm.MethodName) prog_28_method_1_code (4 : Nat) (Option.none : Option Jvm.ClassFile.FieldType)).before args0 about1 = true := code_word (m := ⟨3, 0⟩) (meth := k3m0) (c := k3c0) (by decide +kernel) rfl rfl rfl (by decide +kernel)
set_option maxRecDepth 65536 in
theorem w_c2 : (Jvm.Cond.code ({ cls := "java/lang/Record", name := "<init>", desc := "()V" } : Jvm.MethodName) jdk_30_method_1_code (1 : Nat) (Option.none : Option Jvm.ClassFile.FieldType)).before args0 about1 = true := code_word (m := ⟨2, 0⟩) (meth := k2m0) (c := k2c0) (by decide +kernel) rfl rfl rfl (by decide +kernel)
set_option maxRecDepth 65536 in
theorem w_c3 : (Jvm.Cond.code ({ cls := "java/lang/Object", name := "<init>", desc := "()V" } : Jvm.MethodName) object_method_1_code (1 : Nat) (Option.none : Option Jvm.ClassFile.FieldType)).before args0 about1 = true := code_word (m := ⟨0, 0⟩) (meth := k0m0) (c := k0c0) (by decide +kernel) rfl rfl rfl (by decide +kernel)
set_option maxRecDepth 65536 in
theorem w_c4 : (Jvm.Cond.code ({ cls := "com/example/sexton_beetle/sextonbeetle/replica/Version", name := "isNewerThan", desc := "(Lcom/example/sexton_beetle/sextonbeetle/replica/Version;)Z" } : Jvm.MethodName) prog_28_method_2_code (2 : Nat) (Option.some Jvm.ClassFile.FieldType.boolean)).before args0 about1 = true := code_word (m := ⟨3, 1⟩) (meth := k3m1) (c := k3c1) (by decide +kernel) rfl rfl rfl (by decide +kernel)
set_option maxRecDepth 65536 in
theorem w_c5 : (Jvm.Cond.code ({ cls := "com/example/sexton_beetle/sextonbeetle/replica/VersionIsNewerThanPinLaw", name := "expected", desc := "(JIJI)Z" } : Jvm.MethodName) method_2_code (6 : Nat) (Option.some Jvm.ClassFile.FieldType.boolean)).before args0 about1 = true := code_word (m := ⟨1, 1⟩) (meth := k1m1) (c := k1c1) (by decide +kernel) rfl rfl rfl (by decide +kernel)
def codes1 : List Jvm.Cond := [Jvm.Cond.code x code maxLocals ret, Jvm.Cond.code ({ cls := "com/example/sexton_beetle/sextonbeetle/replica/Version", name := "<init>", desc := "(JI)V" } : Jvm.MethodName) prog_28_method_1_code (4 : Nat) (Option.none : Option Jvm.ClassFile.FieldType), Jvm.Cond.code ({ cls := "java/lang/Record", name := "<init>", desc := "()V" } : Jvm.MethodName) jdk_30_method_1_code (1 : Nat) (Option.none : Option Jvm.ClassFile.FieldType), Jvm.Cond.code ({ cls := "java/lang/Object", name := "<init>", desc := "()V" } : Jvm.MethodName) object_method_1_code (1 : Nat) (Option.none : Option Jvm.ClassFile.FieldType), Jvm.Cond.code ({ cls := "com/example/sexton_beetle/sextonbeetle/replica/Version", name := "isNewerThan", desc := "(Lcom/example/sexton_beetle/sextonbeetle/replica/Version;)Z" } : Jvm.MethodName) prog_28_method_2_code (2 : Nat) (Option.some Jvm.ClassFile.FieldType.boolean), Jvm.Cond.code ({ cls := "com/example/sexton_beetle/sextonbeetle/replica/VersionIsNewerThanPinLaw", name := "expected", desc := "(JIJI)Z" } : Jvm.MethodName) method_2_code (6 : Nat) (Option.some Jvm.ClassFile.FieldType.boolean)]
set_option maxRecDepth 65536 in
theorem codes_eq : words1.filter isCode = codes1 := rfl
theorem w_codes : ∀ c ∈ words1.filter isCode, c.before args0 about1 = true := by
  rw [codes_eq]
  intro c hc
  simp only [codes1, List.mem_cons, List.not_mem_nil, or_false] at hc
  rcases hc with rfl | rfl | rfl | rfl | rfl | rfl
  · exact w_c0
  · exact w_c1
  · exact w_c2
  · exact w_c3
  · exact w_c4
  · exact w_c5
set_option maxRecDepth 65536 in
theorem w_t1 : (words1.take 24).all (fun c => isCode c || c.before args0 about1) = true := by decide +kernel
set_option maxRecDepth 65536 in
theorem w_t2 : (words1.drop 24).all (fun c => isCode c || c.before args0 about1) = true := by decide +kernel
theorem w_tables : (allAtoms (Jvm.Cond.code x code maxLocals ret :: tables_1)).before args0 about1 = true := by
  rw [allAtoms_all]
  show words1.all (fun c => c.before args0 about1) = true
  refine all_split ?_ w_codes
  rw [← List.take_append_drop 24 words1, List.all_append, w_t1, w_t2]
  rfl
set_option maxRecDepth 65536 in
theorem w_case : (Jvm.Cond.and given_1 narrow_1).before args0 about1 = true := by decide +kernel
theorem w_applies : (headSpec (Jvm.Cond.code x code maxLocals ret :: tables_1) room_1).applies x e0.platform about1 = true :=
  (Spec.applies_iff w_frames).mpr ⟨w_running, w_runnable, w_alone, w_named, w_hears, w_ripe, w_room, w_tables⟩
theorem atStart : AtStart classFile x code maxLocals ret World_1 tables_1 room_1 Calls_1 rest_1 Pre_1 launch0 p0 e0 about1 theMethod args0 below0 :=
  ⟨lists_1, trivial, launch0.admits_env _ _ _, launch0.least_env, fairChoices_fair.cas, fairChoices_fair.clock, w_frames, w_args, w_heap, w_applies, trivial, trivial, w_case⟩
end start1
theorem witness_1 : WitnessClaimed_1 := ⟨start1.p0, start1.e0, start1.about1, start1.theMethod, start1.args0, start1.below0, start1.atStart⟩
end Jvm.Pilot.@@N@@
