import JvmDerived
import JvmDerived.Pilot.@@N@@Statement
import JvmDerived.Pilot.@@N@@Code
set_option linter.unusedVariables false
set_option linter.unusedSimpArgs false
namespace Jvm.Pilot.@@N@@
open Jvm Jvm.ClassFile Sem Op Lib Jvm.Free Jvm.Stand Jvm.LawKit Jvm.RoadKit Bundle Jvm.Pilot.@@N@@.Jvm.D
/-- from S0 the run comes to T with the frame g -/
abbrev Rch (p : Program) (e : Env) (below : List Frame) (S0 T : State) (g : JFrame) : Prop := ∀ t, Steps p.tables e below (T.setTop g) t → Steps p.tables e below S0 t
abbrev Con (l : Launch) (Z : State) (y : MethodName) (bytes : ByteArray) (maxL : Nat) (ret : Option FieldType) (ws : List Jvm.Cond) (rm : Room) (as' : Array Value) (h : Heap) (Q : Option Value → Heap → List Loc → Prop) : Prop :=
  MetFree l y (head1 (Jvm.Cond.code y bytes maxL ret :: ws) rm) (fun a U => a = as' ∧ Z.Warmed39 U.vm ∧ U.heap = h) (fun _ _ _ _ _ => True) (fun _ U o U' => ∃ v L, o = .returned v ∧ Q v U'.heap L ∧ FrameEnd U o U' L rm.cells rm.slots)
section OwnKit
variable {p : Program} {l : Launch} {e : Env} {R : Room} {s : State} {m : MethodId} {args : Array Value} {below : List Frame} {meth : Method} {c : Code} {T : State} {locs : List Loc} {cells slots : Nat} {Z : State} {a0 : Array Value} {h : Heap}
theorem own_callS (X : Stand p l e R s m args below meth c T locs cells slots) (hx : p.tables.exec = Jvm.exec) (hZ : Z.Warmed39 s.vm) {own : String} {index : Nat} {y : MethodName} {bytes : ByteArray} {maxL : Nat} {ret : Option FieldType} {rm : Room} {as' : Array Value} {Q : Option Value → Heap → List Loc → Prop}
    (hown : s.vm.findClass own = some m.cls) (w1 : (Cond.methodLink own index y).before a0 Z = true) (w2 : (Cond.static y).before a0 Z = true) (w3 : (Cond.initialized y.cls).before a0 Z = true) (w4 : (Cond.code y bytes maxL ret).before a0 Z = true)
    (hy : y.cls ≠ "java/lang/invoke/MethodHandle" ∧ y.cls ≠ "java/lang/invoke/VarHandle") (hM : Con l Z y bytes maxL ret [] rm as' h Q) (eT : T.heap = h)
    {g : JFrame} (hg : g.method = m) (hsize : g.locals.size = c.maxLocals) {argsL rest : List Value} (has : as' = argsL.toArray) (hlen : ∀ sig, parseMethodDescriptor y.desc = some sig → argsL.length = sig.parameters.length) (hs : g.stack = argsL.reverse ++ rest) {W : Nat} (hW : 2 * g.monitorRoom + (rest.map fun v => v.category).sum ≤ W)
    (hd : decode c.code g.pc = .ok (.invokestatic index, 3)) (hf : rm.frames + 1 ≤ R.frames) (hl : W + (maxL + 11) + rm.locals ≤ R.locals) (hc : cells + rm.cells ≤ R.cells) (hsl : slots + rm.slots ≤ R.slots) :
    ∃ (v : Option Value) (T' : State) (h' : Heap) (Lc : List Loc), Stand p l e R s m args below meth c T' (locs ++ Lc) (cells + rm.cells) (slots + rm.slots) ∧ T'.heap = h' ∧ Q v h' Lc ∧
      ∀ target, Steps p.tables e below (T'.setTop { g with pc := g.pc + 3, stack := v.toList ++ rest }) target → Steps p.tables e below (T.setTop g) target := by
  obtain ⟨v, _, ⟨T', L', k', n'⟩, -, X', ⟨Lc, hQ, hl', hk', hn'⟩, st⟩ := Jvm.LawKit.callS X hx (y := y) hown (mvT hZ w1) (mvT hZ w2) (mvT hZ w3) (mvT hZ w4) hy (backOf (W := W) hM hZ w4 w3 hf hl) hg hsize hlen hs hW hd (fun _ _ => ⟨has.symm, eT, hc, hsl⟩)
  dsimp only [Pt.U, Pt.locs, Pt.cells, Pt.slots] at X' hl' hk' hn' st hQ
  subst hl' hk' hn'
  exact ⟨v, T', _, Lc, X', rfl, hQ, st⟩
theorem own_callV (X : Stand p l e R s m args below meth c T locs cells slots) (hx : p.tables.exec = Jvm.exec) (hZ : Z.Warmed39 s.vm) {own C : String} {index : Nat} {y z : MethodName} {bytes : ByteArray} {maxL : Nat} {ret : Option FieldType} {rm : Room} {as' : Array Value} {Q : Option Value → Heap → List Loc → Prop}
    (hown : s.vm.findClass own = some m.cls) (w1 : (Cond.methodLink own index y).before a0 Z = true) (w2 : (Cond.declares y).before a0 Z = true) (nf : NotFace s y) (w3 : (Cond.selects C y z).before a0 Z = true) (w4 : (Cond.instanceMethod z).before a0 Z = true) (w5 : (Cond.code z bytes maxL ret).before a0 Z = true) (w6 : (Cond.initialized z.cls).before a0 Z = true)
    (hy : y.cls ≠ "java/lang/invoke/MethodHandle" ∧ y.cls ≠ "java/lang/invoke/VarHandle") (hM : Con l Z z bytes maxL ret [] rm as' h Q) (eT : T.heap = h) {a : Addr} (E : Exa Z h a C)
    {g : JFrame} (hg : g.method = m) (hsize : g.locals.size = c.maxLocals) {argsL rest : List Value} (has : as' = (Value.ref a :: argsL).toArray) (hlen : ∀ sig, parseMethodDescriptor y.desc = some sig → argsL.length = sig.parameters.length) (hs : g.stack = argsL.reverse ++ .ref a :: rest) {W : Nat} (hW : 2 * g.monitorRoom + (rest.map fun v => v.category).sum ≤ W)
    (hd : decode c.code g.pc = .ok (.invokevirtual index, 3)) (hf : rm.frames + 1 ≤ R.frames) (hl : W + (maxL + 11) + rm.locals ≤ R.locals) (hc : cells + rm.cells ≤ R.cells) (hsl : slots + rm.slots ≤ R.slots) :
    ∃ (v : Option Value) (T' : State) (h' : Heap) (Lc : List Loc), Stand p l e R s m args below meth c T' (locs ++ Lc) (cells + rm.cells) (slots + rm.slots) ∧ T'.heap = h' ∧ Q v h' Lc ∧
      ∀ target, Steps p.tables e below (T'.setTop { g with pc := g.pc + 3, stack := v.toList ++ rest }) target → Steps p.tables e below (T.setTop g) target := by
  obtain ⟨cq, kq, qa, qb, qc⟩ := isOf hZ eT E
  obtain ⟨v, _, ⟨T', L', k', n'⟩, -, X', ⟨Lc, hQ, hl', hk', hn'⟩, st⟩ := X.virtualBack hx (y := y) (z := z) hown (mvT hZ w1) (mvT hZ w2) nf (mvT hZ w3) (mvT hZ w4) hy (backOf (W := W) hM hZ w5 w6 hf hl) qa qc hg hsize (Steps.refl _) hlen hs hW hd (fun _ _ => ⟨has.symm, eT, hc, hsl⟩)
  dsimp only [Pt.U, Pt.locs, Pt.cells, Pt.slots] at X' hl' hk' hn' st hQ
  subst hl' hk' hn'
  exact ⟨v, T', _, Lc, X', rfl, hQ, fun t k => st.trans k⟩
theorem own_callC (X : Stand p l e R s m args below meth c T locs cells slots) (hx : p.tables.exec = Jvm.exec) (hZ : Z.Warmed39 s.vm) {own : String} {index : Nat} {y : MethodName} {bytes : ByteArray} {maxL : Nat} {rm : Room} {as' : Array Value} {Q : Option Value → Heap → List Loc → Prop} (hy1 : y.name = "<init>")
    (hown : s.vm.findClass own = some m.cls) (w1 : (Cond.methodLink own index y).before a0 Z = true) (w2 : (Cond.instanceMethod y).before a0 Z = true) (w3 : (Cond.initialized y.cls).before a0 Z = true) (w4 : (Cond.code y bytes maxL none).before a0 Z = true)
    (hy : y.cls ≠ "java/lang/invoke/MethodHandle" ∧ y.cls ≠ "java/lang/invoke/VarHandle") (hM : Con l Z y bytes maxL none [] rm as' h Q) (eT : T.heap = h) {a : Addr}
    {g : JFrame} (hg : g.method = m) (hsize : g.locals.size = c.maxLocals) {argsL rest : List Value} (has : as' = (Value.ref a :: argsL).toArray) (hlen : ∀ sig, parseMethodDescriptor y.desc = some sig → argsL.length = sig.parameters.length) (hs : g.stack = argsL.reverse ++ .ref a :: rest) {W : Nat} (hW : 2 * g.monitorRoom + (rest.map fun v => v.category).sum ≤ W)
    (hd : decode c.code g.pc = .ok (.invokespecial index, 3)) (hf : rm.frames + 1 ≤ R.frames) (hl : W + (maxL + 11) + rm.locals ≤ R.locals) (hc : cells + rm.cells ≤ R.cells) (hsl : slots + rm.slots ≤ R.slots) :
    ∃ (v : Option Value) (T' : State) (h' : Heap) (Lc : List Loc), Stand p l e R s m args below meth c T' (locs ++ Lc) (cells + rm.cells) (slots + rm.slots) ∧ T'.heap = h' ∧ Q v h' Lc ∧
      ∀ target, Steps p.tables e below (T'.setTop { g with pc := g.pc + 3, stack := v.toList ++ rest }) target → Steps p.tables e below (T.setTop g) target := by
  obtain ⟨v, _, ⟨T', L', k', n'⟩, -, X', ⟨Lc, hQ, hl', hk', hn'⟩, st⟩ := X.specialBack hx (y := y) hy1 hown (mvT hZ w1) (mvT hZ w2) (mvT hZ w4) hy (backOf (W := W) hM hZ w4 w3 hf hl) hg hsize (Steps.refl _) (a := a) hlen hs hW hd (fun _ _ => ⟨has.symm, eT, hc, hsl⟩)
  dsimp only [Pt.U, Pt.locs, Pt.cells, Pt.slots] at X' hl' hk' hn' st hQ
  subst hl' hk' hn'
  exact ⟨v, T', _, Lc, X', rfl, hQ, fun t k => st.trans k⟩
theorem own_callU (X : Stand p l e R s m args below meth c T locs cells slots) (hx : p.tables.exec = Jvm.exec) (hZ : Z.Warmed39 s.vm) {own C owner : String} {index : Nat} {x y : MethodName} {bytes : ByteArray} {maxL : Nat} {ret : Option FieldType} {rm : Room} {as' : Array Value} {Q : Option Value → Heap → List Loc → Prop}
    (hown : s.vm.findClass own = some m.cls) (w1 : (Cond.methodLink own index x).before a0 Z = true) (w2 : (Cond.sameMethod x.cls owner x.name x.desc).before a0 Z = true) (w2' : (Cond.declares ⟨owner, x.name, x.desc⟩).before a0 Z = true) (hy : owner ≠ "java/lang/invoke/MethodHandle" ∧ owner ≠ "java/lang/invoke/VarHandle") (w3 : (Cond.selects C x y).before a0 Z = true) (w4 : (Cond.instanceMethod y).before a0 Z = true) (w5 : (Cond.code y bytes maxL ret).before a0 Z = true) (w6 : (Cond.initialized y.cls).before a0 Z = true)
    (hM : Con l Z y bytes maxL ret [] rm as' h Q) (eT : T.heap = h) {a : Addr} (E : Exa Z h a C)
    {g : JFrame} (hg : g.method = m) (hsize : g.locals.size = c.maxLocals) {argsL rest : List Value} (has : as' = (Value.ref a :: argsL).toArray) (hlen : ∀ sig, parseMethodDescriptor x.desc = some sig → argsL.length = sig.parameters.length) (hs : g.stack = argsL.reverse ++ .ref a :: rest) {W : Nat} (hW : 2 * g.monitorRoom + (rest.map fun v => v.category).sum ≤ W)
    (hd : decode c.code g.pc = .ok (.invokevirtual index, 3)) (hf : rm.frames + 1 ≤ R.frames) (hl : W + (maxL + 11) + rm.locals ≤ R.locals) (hc : cells + rm.cells ≤ R.cells) (hsl : slots + rm.slots ≤ R.slots) :
    ∃ (v : Option Value) (T' : State) (h' : Heap) (Lc : List Loc), Stand p l e R s m args below meth c T' (locs ++ Lc) (cells + rm.cells) (slots + rm.slots) ∧ T'.heap = h' ∧ Q v h' Lc ∧
      ∀ target, Steps p.tables e below (T'.setTop { g with pc := g.pc + 3, stack := v.toList ++ rest }) target → Steps p.tables e below (T.setTop g) target := by
  obtain ⟨cq, kq, qa, qb, qc⟩ := isOf hZ eT E
  obtain ⟨v, _, ⟨T', L', k', n'⟩, -, X', ⟨Lc, hQ, hl', hk', hn'⟩, st⟩ := X.virtualBackUp hx (x := x) (y := y) hown (mvT hZ w1) (mvT hZ w2) (mvT hZ w2') hy (mvT hZ w3) (mvT hZ w4) (backOf (W := W) hM hZ w5 w6 hf hl) qa qc hg hsize (Steps.refl _) hlen hs hW hd (fun _ _ => ⟨has.symm, eT, hc, hsl⟩)
  dsimp only [Pt.U, Pt.locs, Pt.cells, Pt.slots] at X' hl' hk' hn' st hQ
  subst hl' hk' hn'
  exact ⟨v, T', _, Lc, X', rfl, hQ, fun t k => st.trans k⟩
theorem own_ne {a b : Nat} (h : a < b ∨ b < a) : a ≠ b := by omega
theorem own_fldL {args : Array Value} {t : Term} {a : Addr} {C n d : String} {k : Int64} (ev : t.eval args Z none [] Z = some (.ref a)) (q : (Cond.eq (.field t C n d) (.long k)).value args Z none Z [] = some true) : Fld Z Z.heap a C n d (.long k) := by
  apply Fld.start
  cases hv : Z.fieldOf? a C n d with
  | none => simp [Cond.value, fld_at ev, hv] at q
  | some v => cases v <;> simp only [Cond.value, fld_at ev, hv, long_at] at q <;> simp at q <;> subst q <;> rfl
theorem own_fldI {args : Array Value} {t : Term} {a : Addr} {C n d : String} {k : Int32} (ev : t.eval args Z none [] Z = some (.ref a)) (q : (Cond.eq (.field t C n d) (.int k)).value args Z none Z [] = some true) : Fld Z Z.heap a C n d (.int k) := by
  apply Fld.start
  cases hv : Z.fieldOf? a C n d with
  | none => simp [Cond.value, fld_at ev, hv] at q
  | some v => cases v <;> simp only [Cond.value, fld_at ev, hv, Term.int_eval] at q <;> simp at q <;> subst q <;> rfl
variable {vm0 : Vm}
abbrev ConW (l : Launch) (Z : State) (y : MethodName) (bytes : ByteArray) (maxL : Nat) (ret : Option FieldType) (ws : List Jvm.Cond) (rm : Room) (as' : Array Value) (h : Heap) (Q : Option Value → Heap → List Loc → Prop) : Prop :=
  MetFree l y (head1 (Jvm.Cond.code y bytes maxL ret :: ws) rm) (fun a U => a = as' ∧ Z.Warmed39 U.vm ∧ U.heap = h) (fun _ _ _ _ _ => True) (fun _ U o U' => ∃ v L, o = .returned v ∧ Q v U'.heap L ∧ ReturnedEndW U o U' L rm.cells rm.slots)
theorem own_callSW (X : Stand p l e R (s.setVm vm0) m args below meth c T locs cells slots) (hx : p.tables.exec = Jvm.exec) (hZ : Z.Warmed39 vm0) {own : String} {index : Nat} {y : MethodName} {bytes : ByteArray} {maxL : Nat} {ret : Option FieldType} {rm : Room} {as' : Array Value} {Q : Option Value → Heap → List Loc → Prop}
    (hown : vm0.findClass own = some m.cls) (w1 : (Cond.methodLink own index y).before a0 Z = true) (w2 : (Cond.static y).before a0 Z = true) (w3 : (Cond.initialized y.cls).before a0 Z = true) (w4 : (Cond.code y bytes maxL ret).before a0 Z = true)
    (hy : y.cls ≠ "java/lang/invoke/MethodHandle" ∧ y.cls ≠ "java/lang/invoke/VarHandle") (hM : ConW l Z y bytes maxL ret [] rm as' h Q) (eT : T.heap = h) {k0 : Nat} (hS : s.Since vm0 k0) (hk : k0 ≤ h.size)
    {g : JFrame} (hg : g.method = m) (hsize : g.locals.size = c.maxLocals) {argsL rest : List Value} (has : as' = argsL.toArray) (hlen : ∀ sig, parseMethodDescriptor y.desc = some sig → argsL.length = sig.parameters.length) (hs : g.stack = argsL.reverse ++ rest) {W : Nat} (hW : 2 * g.monitorRoom + (rest.map fun v => v.category).sum ≤ W)
    (hd : decode c.code g.pc = .ok (.invokestatic index, 3)) (hf : rm.frames + 1 ≤ R.frames) (hl : W + (maxL + 11) + rm.locals ≤ R.locals) (hc : cells + rm.cells ≤ R.cells) (hsl : slots + rm.slots ≤ R.slots) :
    ∃ (v : Option Value) (T' : State) (h' : Heap) (Lc : List Loc), Stand p l e R (s.setVm T'.vm) m args below meth c T' (locs ++ Lc) (cells + rm.cells) (slots + rm.slots) ∧ T'.heap = h' ∧ Q v h' Lc ∧ s.Since T'.vm h'.size ∧ Z.Warmed39 T'.vm ∧ T'.vm.findClass own = some m.cls ∧
      ∀ target, Steps p.tables e below (T'.setTop { g with pc := g.pc + 3, stack := v.toList ++ rest }) target → Steps p.tables e below (T.setTop g) target := by
  subst eT
  obtain ⟨v, vm₁, ⟨T', L', k', n'⟩, -, X', hS', hgr, ⟨Lc, hQ, hl', hk', hn'⟩, st⟩ := callSS (s := s.setVm vm0) X hx (y := y) hown (mvT (s := s.setVm vm0) hZ w1) (mvT (s := s.setVm vm0) hZ w2) (mvT (s := s.setVm vm0) hZ w3) (mvT (s := s.setVm vm0) hZ w4) hy (backOfS (s := s.setVm vm0) (W := W) hM hZ w4 w3 hf hl) hg hsize hlen hs hW hd (fun _ _ => ⟨has.symm, rfl, hc, hsl⟩)
  dsimp only [Pt.U, Pt.locs, Pt.cells, Pt.slots] at X' hl' hk' hn' st hQ hS' hgr
  subst hl' hk' hn'
  exact ⟨v, T', _, Lc, X', rfl, hQ, hS.trans hS' (Nat.le_trans hk hgr), State.Warmed39.trans (t := s.setVm vm0) hZ hS'.1, by rw [hS'.1.alike.findClass]; exact hown, fun t k => st.trans k⟩
theorem own_callCW (X : Stand p l e R (s.setVm vm0) m args below meth c T locs cells slots) (hx : p.tables.exec = Jvm.exec) (hZ : Z.Warmed39 vm0) {own : String} {index : Nat} {y : MethodName} {bytes : ByteArray} {maxL : Nat} {rm : Room} {as' : Array Value} {Q : Option Value → Heap → List Loc → Prop} (hy1 : y.name = "<init>")
    (hown : vm0.findClass own = some m.cls) (w1 : (Cond.methodLink own index y).before a0 Z = true) (w2 : (Cond.instanceMethod y).before a0 Z = true) (w3 : (Cond.initialized y.cls).before a0 Z = true) (w4 : (Cond.code y bytes maxL none).before a0 Z = true)
    (hy : y.cls ≠ "java/lang/invoke/MethodHandle" ∧ y.cls ≠ "java/lang/invoke/VarHandle") (hM : ConW l Z y bytes maxL none [] rm as' h Q) (eT : T.heap = h) {k0 : Nat} (hS : s.Since vm0 k0) (hk : k0 ≤ h.size) {a : Addr}
    {g : JFrame} (hg : g.method = m) (hsize : g.locals.size = c.maxLocals) {argsL rest : List Value} (has : as' = (Value.ref a :: argsL).toArray) (hlen : ∀ sig, parseMethodDescriptor y.desc = some sig → argsL.length = sig.parameters.length) (hs : g.stack = argsL.reverse ++ .ref a :: rest) {W : Nat} (hW : 2 * g.monitorRoom + (rest.map fun v => v.category).sum ≤ W)
    (hd : decode c.code g.pc = .ok (.invokespecial index, 3)) (hf : rm.frames + 1 ≤ R.frames) (hl : W + (maxL + 11) + rm.locals ≤ R.locals) (hc : cells + rm.cells ≤ R.cells) (hsl : slots + rm.slots ≤ R.slots) :
    ∃ (v : Option Value) (T' : State) (h' : Heap) (Lc : List Loc), Stand p l e R (s.setVm T'.vm) m args below meth c T' (locs ++ Lc) (cells + rm.cells) (slots + rm.slots) ∧ T'.heap = h' ∧ Q v h' Lc ∧ s.Since T'.vm h'.size ∧ Z.Warmed39 T'.vm ∧ T'.vm.findClass own = some m.cls ∧
      ∀ target, Steps p.tables e below (T'.setTop { g with pc := g.pc + 3, stack := v.toList ++ rest }) target → Steps p.tables e below (T.setTop g) target := by
  subst eT
  obtain ⟨v, vm₁, ⟨T', L', k', n'⟩, -, X', hS', hgr, ⟨Lc, hQ, hl', hk', hn'⟩, st⟩ := Jvm.Stand.specialBackS (s := s.setVm vm0) X hx (y := y) hy1 hown (mvT (s := s.setVm vm0) hZ w1) (mvT (s := s.setVm vm0) hZ w2) (mvT (s := s.setVm vm0) hZ w4) hy (backOfS (s := s.setVm vm0) (W := W) hM hZ w4 w3 hf hl) hg hsize (Steps.refl _) (a := a) hlen hs hW hd (fun _ _ => ⟨has.symm, rfl, hc, hsl⟩)
  dsimp only [Pt.U, Pt.locs, Pt.cells, Pt.slots] at X' hl' hk' hn' st hQ hS' hgr
  subst hl' hk' hn'
  exact ⟨v, T', _, Lc, X', rfl, hQ, hS.trans hS' (Nat.le_trans hk hgr), State.Warmed39.trans (t := s.setVm vm0) hZ hS'.1, by rw [hS'.1.alike.findClass]; exact hown, fun t k => st.trans k⟩
theorem own_callVW (X : Stand p l e R (s.setVm vm0) m args below meth c T locs cells slots) (hx : p.tables.exec = Jvm.exec) (hZ : Z.Warmed39 vm0) {own C : String} {index : Nat} {y z : MethodName} {bytes : ByteArray} {maxL : Nat} {ret : Option FieldType} {rm : Room} {as' : Array Value} {Q : Option Value → Heap → List Loc → Prop}
    (hown : vm0.findClass own = some m.cls) (w1 : (Cond.methodLink own index y).before a0 Z = true) (w2 : (Cond.declares y).before a0 Z = true) (nf : NotFace (s.setVm vm0) y) (w3 : (Cond.selects C y z).before a0 Z = true) (w4 : (Cond.instanceMethod z).before a0 Z = true) (w5 : (Cond.code z bytes maxL ret).before a0 Z = true) (w6 : (Cond.initialized z.cls).before a0 Z = true)
    (hy : y.cls ≠ "java/lang/invoke/MethodHandle" ∧ y.cls ≠ "java/lang/invoke/VarHandle") (hM : ConW l Z z bytes maxL ret [] rm as' h Q) (eT : T.heap = h) {k0 : Nat} (hS : s.Since vm0 k0) (hk : k0 ≤ h.size) {a : Addr} (E : Exa Z h a C)
    {g : JFrame} (hg : g.method = m) (hsize : g.locals.size = c.maxLocals) {argsL rest : List Value} (has : as' = (Value.ref a :: argsL).toArray) (hlen : ∀ sig, parseMethodDescriptor y.desc = some sig → argsL.length = sig.parameters.length) (hs : g.stack = argsL.reverse ++ .ref a :: rest) {W : Nat} (hW : 2 * g.monitorRoom + (rest.map fun v => v.category).sum ≤ W)
    (hd : decode c.code g.pc = .ok (.invokevirtual index, 3)) (hf : rm.frames + 1 ≤ R.frames) (hl : W + (maxL + 11) + rm.locals ≤ R.locals) (hc : cells + rm.cells ≤ R.cells) (hsl : slots + rm.slots ≤ R.slots) :
    ∃ (v : Option Value) (T' : State) (h' : Heap) (Lc : List Loc), Stand p l e R (s.setVm T'.vm) m args below meth c T' (locs ++ Lc) (cells + rm.cells) (slots + rm.slots) ∧ T'.heap = h' ∧ Q v h' Lc ∧ s.Since T'.vm h'.size ∧ Z.Warmed39 T'.vm ∧ T'.vm.findClass own = some m.cls ∧
      ∀ target, Steps p.tables e below (T'.setTop { g with pc := g.pc + 3, stack := v.toList ++ rest }) target → Steps p.tables e below (T.setTop g) target := by
  subst eT
  obtain ⟨cq, kq, qa, qb, qc⟩ := isOf (s := s.setVm vm0) hZ rfl E
  obtain ⟨v, vm₁, ⟨T', L', k', n'⟩, -, X', hS', hgr, ⟨Lc, hQ, hl', hk', hn'⟩, st⟩ := Jvm.Stand.virtualBackS (s := s.setVm vm0) X hx (y := y) (z := z) hown (mvT (s := s.setVm vm0) hZ w1) (mvT (s := s.setVm vm0) hZ w2) nf (mvT (s := s.setVm vm0) hZ w3) (mvT (s := s.setVm vm0) hZ w4) hy (backOfS (s := s.setVm vm0) (W := W) hM hZ w5 w6 hf hl) qa qc hg hsize (Steps.refl _) hlen hs hW hd (fun _ _ => ⟨has.symm, rfl, hc, hsl⟩)
  dsimp only [Pt.U, Pt.locs, Pt.cells, Pt.slots] at X' hl' hk' hn' st hQ hS' hgr
  subst hl' hk' hn'
  exact ⟨v, T', _, Lc, X', rfl, hQ, hS.trans hS' (Nat.le_trans hk hgr), State.Warmed39.trans (t := s.setVm vm0) hZ hS'.1, by rw [hS'.1.alike.findClass]; exact hown, fun t k => st.trans k⟩
theorem own_more {cells' slots' : Nat} (X : Stand p l e R s m args below meth c T locs cells slots) (h1 : cells ≤ cells') (h2 : slots ≤ slots') : Stand p l e R s m args below meth c T locs cells' slots' := { X with same := X.same.mono h1 h2 }
theorem own_arrKeep {h h' : Heap} {a : Addr} {cl : Cell} {ty : FieldType} {ws : List Addr} (A : Arr Z h a cl ty) (K : Keep h h' ws) (q : a ∉ ws) : Arr Z h' a cl ty := ⟨K.2.1 a cl A.1 q, A.2⟩
end OwnKit
def own_b (P : Prop) [Decidable P] : Int32 := if P then 1 else 0
theorem own_bT {P : Prop} [Decidable P] (h : P) : own_b P = 1 := if_pos h
theorem own_bF {P : Prop} [Decidable P] (h : ¬ P) : own_b P = 0 := if_neg h
theorem own_notInst {Z : State} {a0 : Array Value} {C O K : String} {n : Nat} (w : (Cond.superclass C O).before a0 Z = true) (wo : (Cond.noSuperclass O).before a0 Z = true) (wk : (Cond.instantiable K n).before a0 Z = true) (n1 : C ≠ K) (n2 : O ≠ K) :
    ∃ c t, Z.vm.findClass C = some c ∧ Z.vm.findClass K = some t ∧ Z.vm.assignable c t = false := by
  obtain ⟨t, kt, g1, g2, g3, g4, -⟩ := Cond.instantiable_spec wk
  obtain ⟨c, h0⟩ := found_sup w
  obtain ⟨p, k, kp, h1, h2, h3, h4, h5, -, h7⟩ := Cond.superclass_spec h0 w
  obtain ⟨c', k', q1, q2, q3, -, -⟩ := Cond.noSuperclass_spec wo
  cases q1.symm.trans h1
  have d1 := ids_ne h0 g1 n1
  have d2 := ids_ne h1 g1 n2
  have gi : kt.isInterface = false := by
    revert g4; cases kt.isInterface <;> simp
  refine ⟨c, t, h0, g1, ?_⟩
  show Z.vm.assignableAux (255 + 1) c t = false
  have sub : ∀ f, Z.vm.isSubclassAux f c t = false := fun f => by
    cases f with
    | zero => rfl
    | succ f =>
      cases f with
      | zero => simp [Vm.isSubclassAux, d1, h2, h4]
      | succ f => simp [Vm.isSubclassAux, d1, d2, h2, h4, q2, q3]
  simp [Vm.assignableAux, d1, h2, g2, h5, g3, gi, Vm.isSubclass, sub]
theorem pn_StringLatin1 : plainName "java/lang/StringLatin1" = true := by first | (simp [plainName, overriddenIn]; done) | decide +kernel
theorem ef_rm_can (m : MethodId) (x0 : Int32) : entryFrame m #[(.int x0)] 1 = mkF m 0 #[.val (.int x0)] [] := by first | (simp [entryFrame, mkF, argsToLocals, Value.category]; done) | rfl
def Q_rm_can (Z : State) (x : Int32) (h0 : Heap) (n0 : Nat) (v : Option Value) (h : Heap) (L : List Loc) : Prop := (v = some (.int (1 : Int32))) ∧ (Fr n0 L) ∧ (h = h0)
theorem d5_0 : decode jdk_43_method_3_code 0 = .ok (.iload_n 0, 1) := by decide +kernel
theorem d5_1 : decode jdk_43_method_3_code 1 = .ok (.sipush 255, 3) := by decide +kernel
theorem d5_4 : decode jdk_43_method_3_code 4 = .ok (.if_icmp .gt 7, 3) := by decide +kernel
theorem d5_7 : decode jdk_43_method_3_code 7 = .ok (.iconst 1, 1) := by decide +kernel
theorem d5_8 : decode jdk_43_method_3_code 8 = .ok (.goto 4, 3) := by decide +kernel
theorem d5_12 : decode jdk_43_method_3_code 12 = .ok (.ireturn, 1) := by decide +kernel
set_option maxRecDepth 65536 in
set_option maxHeartbeats 40000000 in
theorem rm_can (l : Launch) (Z : State) (a0 : Array Value) (hw : ∀ d ∈ tables_1, d.before a0 Z = true) (ws : List Jvm.Cond) (x : Int32) (h0 : Heap) (n0 : Nat) (Z0 : n0 ≤ h0.size) (hx255 : ¬ (255 : Int32) < x) :
    Con l Z (⟨"java/lang/StringLatin1", "canEncode", "(C)Z"⟩ : MethodName) jdk_43_method_3_code 1 (some .boolean) ws ({ frames := 0, cells := 0, slots := 0, locals := 0 } : Room) #[(.int x)] h0 (Q_rm_can Z x h0 n0) := by
  refine MetFree.of_bodySF (plainFor_of_name pn_StringLatin1) hisR ?_
  intro p e s m args below meth c s₁ Bd hml0 hP hK
  obtain ⟨rfl, hZ, hh⟩ := hP
  have hx := Bd.exec
  have hby := Bd.bytes
  have hml : c.maxLocals = 1 := hml0
  have hown : s.vm.findClass "java/lang/StringLatin1" = some m.cls := findClass_of_methodNamed Bd.named
  have hnm := (name_of_methodNamed Bd.named Bd.method).1
  have X0 : Stand p l e ({ frames := 0, cells := 0, slots := 0, locals := 0 } : Room) s m #[(.int x)] below meth c s₁ [] 0 0 := Stand.of_body Bd
  have e0 : s₁.heap = h0 := by rw [← hh, Bd.state]; rfl
  have N0 := Fr.nil n0
  have k0 : Rch p e below (s₁.setTop (entryFrame m #[(.int x)] 1)) s₁ (mkF m 0 #[.val (.int x)] []) := fun tg kg => castTop (ef_rm_can m x) kg
  have k1 : Rch p e below (s₁.setTop (entryFrame m #[(.int x)] 1)) s₁ (mkF m 12 #[.val (.int x)] [(.int (1 : Int32))]) := fun tg kg => by
    refine k0 tg ?_
    show Steps p.tables e below (s₁.setTop (mkF m 0 #[.val (.int x)] [])) tg
    refine XS.iloadN X0.here hx rfl (hb hby d5_0) rfl ?_
    show Steps p.tables e below (s₁.setTop (mkF m 1 #[.val (.int x)] [(.int x)])) tg
    refine XS.sipush X0.here hx rfl (hb hby d5_1) ?_
    show Steps p.tables e below (s₁.setTop (mkF m 4 #[.val (.int x)] [(.int (255 : Int32)), (.int x)])) tg
    refine XS.icmpNo X0.here hx rfl (hb hby d5_4) rfl (flt hx255).2.2.1 ?_
    show Steps p.tables e below (s₁.setTop (mkF m 7 #[.val (.int x)] [])) tg
    refine XS.iconst X0.here hx rfl (hb hby d5_7) ?_
    show Steps p.tables e below (s₁.setTop (mkF m 8 #[.val (.int x)] [(.int (1 : Int32))])) tg
    refine XS.goto X0.here hx rfl (pc0 := 8) (pc' := 12) rfl (hb hby d5_8) (by decide) (by decide) ?_
    exact kg
  obtain ⟨fs2, hr2, hrun2, hended2, hW2, hsame2⟩ := X0.leave (v := some (.int (nar .boolean (1 : Int32)))) (fun h => by rw [Bd.returns] at h; cases h)
  refine ⟨_, _, k1 _ ?_, hrun2, hended2, _, _, rfl, ?_, ⟨_, rfl⟩, hW2, hsame2.mono (by decide) (by decide)⟩
  · exact retN X0 hx (t := .boolean) Bd.returns (by simp) (hb hby d5_12) hr2
  · show Q_rm_can Z x h0 n0 _ s₁.heap _
    rw [e0]
    exact ⟨rfl, N0, rfl⟩
theorem ef_rm_toB (m : MethodId) (x0 : Int32) : entryFrame m #[(.int x0)] 1 = mkF m 0 #[.val (.int x0)] [] := by first | (simp [entryFrame, mkF, argsToLocals, Value.category]; done) | rfl
def Q_rm_toB (Z : State) (x : Int32) (h0 : Heap) (n0 : Nat) (v : Option Value) (h : Heap) (L : List Loc) : Prop := ∃ (b : Addr) (k : ClassId), (v = some (.ref b)) ∧ (Fr n0 L) ∧ (Keep h0 h []) ∧ (h0.size ≤ b) ∧ (Arv Z h b k .byte (1 : Int32) [(.int (nar .byte (x.toInt8.toInt32)))] (.int (0 : Int32)))
theorem d6_0 : decode jdk_43_method_46_code 0 = .ok (.iconst 1, 1) := by decide +kernel
theorem d6_1 : decode jdk_43_method_46_code 1 = .ok (.newarray .byte, 2) := by decide +kernel
theorem d6_3 : decode jdk_43_method_46_code 3 = .ok (.dup, 1) := by decide +kernel
theorem d6_4 : decode jdk_43_method_46_code 4 = .ok (.iconst 0, 1) := by decide +kernel
theorem d6_5 : decode jdk_43_method_46_code 5 = .ok (.iload_n 0, 1) := by decide +kernel
theorem d6_6 : decode jdk_43_method_46_code 6 = .ok (.i2b, 1) := by decide +kernel
theorem d6_7 : decode jdk_43_method_46_code 7 = .ok (.bastore, 1) := by decide +kernel
theorem d6_8 : decode jdk_43_method_46_code 8 = .ok (.areturn, 1) := by decide +kernel
set_option maxRecDepth 65536 in
set_option maxHeartbeats 40000000 in
theorem rm_toB (l : Launch) (Z : State) (a0 : Array Value) (hw : ∀ d ∈ tables_1, d.before a0 Z = true) (ws : List Jvm.Cond) (x : Int32) (h0 : Heap) (n0 : Nat) (Z0 : n0 ≤ h0.size)  :
    Con l Z (⟨"java/lang/StringLatin1", "toBytes", "(C)[B"⟩ : MethodName) jdk_43_method_46_code 1 (some (.array .byte)) ws ({ frames := 0, cells := 1, slots := 1, locals := 0 } : Room) #[(.int x)] h0 (Q_rm_toB Z x h0 n0) := by
  refine MetFree.of_bodySF (plainFor_of_name pn_StringLatin1) hisR ?_
  intro p e s m args below meth c s₁ Bd hml0 hP hK
  obtain ⟨rfl, hZ, hh⟩ := hP
  have hx := Bd.exec
  have hby := Bd.bytes
  have hml : c.maxLocals = 1 := hml0
  have hown : s.vm.findClass "java/lang/StringLatin1" = some m.cls := findClass_of_methodNamed Bd.named
  have hnm := (name_of_methodNamed Bd.named Bd.method).1
  have X0 : Stand p l e ({ frames := 0, cells := 1, slots := 1, locals := 0 } : Room) s m #[(.int x)] below meth c s₁ [] 0 0 := Stand.of_body Bd
  have e0 : s₁.heap = h0 := by rw [← hh, Bd.state]; rfl
  have N0 := Fr.nil n0
  have k0 : Rch p e below (s₁.setTop (entryFrame m #[(.int x)] 1)) s₁ (mkF m 0 #[.val (.int x)] []) := fun tg kg => castTop (ef_rm_toB m x) kg
  have k1 : Rch p e below (s₁.setTop (entryFrame m #[(.int x)] 1)) s₁ (mkF m 1 #[.val (.int x)] [(.int (1 : Int32))]) := fun tg kg => by
    refine k0 tg ?_
    show Steps p.tables e below (s₁.setTop (mkF m 0 #[.val (.int x)] [])) tg
    refine XS.iconst X0.here hx rfl (hb hby d6_0) ?_
    exact kg
  obtain ⟨T2, h2, c2, X2, e2, E2, A2, st2⟩ := newP X0 hx hZ (hw _ (List.mem_of_getElem? (i := 34) rfl)) e0 (g := (mkF m 1 #[.val (.int x)] [(.int (1 : Int32))])) rfl (hb hby d6_1) rfl (by decide) (cap := 1) (by decide) (by decide) (by decide) (by decide)
  obtain ⟨b2, g2⟩ : ∃ z, z = h0.size := ⟨_, rfl⟩
  rw [← g2] at A2 st2
  have s2 : h0.size ≤ h2.size := E2.1
  have lt2 : b2 < h2.size := A2.lt
  have k3 : Rch p e below (s₁.setTop (entryFrame m #[(.int x)] 1)) T2 (mkF m 3 #[.val (.int x)] [(.ref b2)]) := fun tg kg => k1 tg (st2 tg kg)
  have V2 : Arv Z h2 b2 c2 .byte (1 : Int32) [(.int (0 : Int32))] (.int (0 : Int32)) := (Arv.new A2 (by decide)).pad (pad_rep [] (.int (0 : Int32)) 1)
  have k4 : Rch p e below (s₁.setTop (entryFrame m #[(.int x)] 1)) T2 (mkF m 7 #[.val (.int x)] [(.int (x.toInt8.toInt32)), (.int (0 : Int32)), (.ref b2), (.ref b2)]) := fun tg kg => by
    refine k3 tg ?_
    show Steps p.tables e below (T2.setTop (mkF m 3 #[.val (.int x)] [(.ref b2)])) tg
    refine XS.dup X2.here hx rfl (hb hby d6_3) rfl rfl ?_
    show Steps p.tables e below (T2.setTop (mkF m 4 #[.val (.int x)] [(.ref b2), (.ref b2)])) tg
    refine XS.iconst X2.here hx rfl (hb hby d6_4) ?_
    show Steps p.tables e below (T2.setTop (mkF m 5 #[.val (.int x)] [(.int (0 : Int32)), (.ref b2), (.ref b2)])) tg
    refine XS.iloadN X2.here hx rfl (hb hby d6_5) rfl ?_
    show Steps p.tables e below (T2.setTop (mkF m 6 #[.val (.int x)] [(.int x), (.int (0 : Int32)), (.ref b2), (.ref b2)])) tg
    refine XS.i2b X2.here hx rfl (hb hby d6_6) rfl ?_
    exact kg
  obtain ⟨cl5, Ar5, q5, S5, N5', H5, G5⟩ := V2
  have hin5 : ¬ ((0 : Int32) < 0 ∨ cl5.slots.size ≤ ((0 : Int32)).toNatClampNeg) := inb_of S5 ⟨by decide, by decide⟩
  obtain ⟨T5, h5, X5, e5, W5, st5⟩ := stB X2 hx hZ e2 Ar5 (j := (0 : Int32)) hin5 (g := (mkF m 7 #[.val (.int x)] [(.int (x.toInt8.toInt32)), (.int (0 : Int32)), (.ref b2), (.ref b2)])) rfl rfl (hb hby d6_7)
  have s5 : h5.size = h2.size := W5.size
  have N5 := Fr.snoc X5 N0 (by omega : n0 ≤ b2)
  have k6 : Rch p e below (s₁.setTop (entryFrame m #[(.int x)] 1)) T5 (mkF m 8 #[.val (.int x)] [(.ref b2)]) := fun tg kg => k4 tg (st5 tg kg)
  have V5 : Arv Z h5 b2 c2 .byte (1 : Int32) [(.int (nar .byte (x.toInt8.toInt32)))] (.int (0 : Int32)) := Arv.set Ar5 q5 S5 N5' H5 G5 (fits_nar_byte _) W5 0 rfl (Nat.le_of_ble_eq_true rfl)
  obtain ⟨fs7, hr7, hrun7, hended7, hW7, hsame7⟩ := X5.leave (v := some (.ref b2)) (fun h => by rw [Bd.returns] at h; cases h)
  refine ⟨_, _, k6 _ ?_, hrun7, hended7, _, _, rfl, ?_, ⟨_, rfl⟩, hW7, hsame7.mono (by decide) (by decide)⟩
  · exact retOut X5 hx Bd.returns rfl (Or.inr (Or.inr (Or.inr (Or.inr ⟨rfl, rfl, rfl⟩)))) (hb hby d6_8) hr7
  · show Q_rm_toB Z x h0 n0 _ T5.heap _
    rw [e5]
    exact ⟨b2, c2, rfl, N5, (((Keep.refl h0 []).ext E2).wr W5 (Or.inr (by omega))), (by omega), V5⟩
theorem pn_String : plainName "java/lang/String" = true := by first | (simp [plainName, overriddenIn]; done) | decide +kernel
theorem ef_rm_sinit (m : MethodId) (x0 : Addr) (x1 : Addr) (x2 : Int32) : entryFrame m #[(.ref x0), (.ref x1), (.int x2)] 3 = mkF m 0 #[.val (.ref x0), .val (.ref x1), .val (.int x2)] [] := by first | (simp [entryFrame, mkF, argsToLocals, Value.category]; done) | rfl
def Q_rm_sinit (Z : State) (a : Addr) (t : Addr) (x : Int32) (u : Value) (u' : Value) (h0 : Heap) (n0 : Nat) (v : Option Value) (h : Heap) (L : List Loc) : Prop := (v = none) ∧ (Fr n0 L) ∧ (Keep h0 h [a]) ∧ (Exa Z h a "java/lang/String") ∧ (Fld Z h a "java/lang/String" "value" "[B" (.ref t)) ∧ (Fld Z h a "java/lang/String" "coder" "B" (.int (nar .byte x)))
theorem d7_0 : decode jdk_42_method_151_code 0 = .ok (.aload_n 0, 1) := by decide +kernel
theorem d7_1 : decode jdk_42_method_151_code 1 = .ok (.invokespecial 1, 3) := by decide +kernel
theorem d7_4 : decode jdk_42_method_151_code 4 = .ok (.aload_n 0, 1) := by decide +kernel
theorem d7_5 : decode jdk_42_method_151_code 5 = .ok (.aload_n 1, 1) := by decide +kernel
theorem d7_6 : decode jdk_42_method_151_code 6 = .ok (.putfield 9, 3) := by decide +kernel
theorem d7_9 : decode jdk_42_method_151_code 9 = .ok (.aload_n 0, 1) := by decide +kernel
theorem d7_10 : decode jdk_42_method_151_code 10 = .ok (.iload_n 2, 1) := by decide +kernel
theorem d7_11 : decode jdk_42_method_151_code 11 = .ok (.putfield 15, 3) := by decide +kernel
theorem d7_14 : decode jdk_42_method_151_code 14 = .ok (.return_, 1) := by decide +kernel
set_option maxRecDepth 65536 in
set_option maxHeartbeats 40000000 in
theorem rm_sinit (l : Launch) (Z : State) (a0 : Array Value) (hw : ∀ d ∈ tables_1, d.before a0 Z = true) (ws : List Jvm.Cond) (a : Addr) (t : Addr) (x : Int32) (u : Value) (u' : Value) (h0 : Heap) (n0 : Nat) (Z0 : n0 ≤ h0.size) (E_a : Exa Z h0 a "java/lang/String") (F_v : Fld Z h0 a "java/lang/String" "value" "[B" u) (F_c : Fld Z h0 a "java/lang/String" "coder" "B" u') (g_a : n0 ≤ a) :
    Con l Z (⟨"java/lang/String", "<init>", "([BB)V"⟩ : MethodName) jdk_42_method_151_code 3 none ws ({ frames := 1, cells := 0, slots := 0, locals := 12 } : Room) #[(.ref a), (.ref t), (.int x)] h0 (Q_rm_sinit Z a t x u u' h0 n0) := by
  refine MetFree.of_bodySF (plainFor_of_name pn_String) hisR ?_
  intro p e s m args below meth c s₁ Bd hml0 hP hK
  obtain ⟨rfl, hZ, hh⟩ := hP
  have hx := Bd.exec
  have hby := Bd.bytes
  have hml : c.maxLocals = 3 := hml0
  have hown : s.vm.findClass "java/lang/String" = some m.cls := findClass_of_methodNamed Bd.named
  have hnm := (name_of_methodNamed Bd.named Bd.method).1
  have X0 : Stand p l e ({ frames := 1, cells := 0, slots := 0, locals := 12 } : Room) s m #[(.ref a), (.ref t), (.int x)] below meth c s₁ [] 0 0 := Stand.of_body Bd
  have e0 : s₁.heap = h0 := by rw [← hh, Bd.state]; rfl
  have N0 := Fr.nil n0
  have k0 : Rch p e below (s₁.setTop (entryFrame m #[(.ref a), (.ref t), (.int x)] 3)) s₁ (mkF m 0 #[.val (.ref a), .val (.ref t), .val (.int x)] []) := fun tg kg => castTop (ef_rm_sinit m a t x) kg
  have lt_E_a := E_a.lt
  have lt_F_v := F_v.lt
  have lt_F_c := F_c.lt
  have k1 : Rch p e below (s₁.setTop (entryFrame m #[(.ref a), (.ref t), (.int x)] 3)) s₁ (mkF m 1 #[.val (.ref a), .val (.ref t), .val (.int x)] [(.ref a)]) := fun tg kg => by
    refine k0 tg ?_
    show Steps p.tables e below (s₁.setTop (mkF m 0 #[.val (.ref a), .val (.ref t), .val (.int x)] [])) tg
    refine XS.aloadN X0.here hx rfl (hb hby d7_0) rfl rfl ?_
    exact kg
  obtain ⟨T2, X2, e2, st2⟩ := initO X0 hx hZ hown (hw _ (List.mem_of_getElem? (i := 39) rfl)) (hw _ (List.mem_of_getElem? (i := 7) rfl)) (hw _ (List.mem_of_getElem? (i := 8) rfl)) e0 (g := (mkF m 1 #[.val (.ref a), .val (.ref t), .val (.int x)] [(.ref a)])) rfl (by rw [hml]; rfl) rfl (hb hby d7_1) (by decide) (W := 0) (by show 2 * 0 + _ ≤ _; exact Nat.le_of_eq rfl) (by decide)
  have k3 : Rch p e below (s₁.setTop (entryFrame m #[(.ref a), (.ref t), (.int x)] 3)) T2 (mkF m 4 #[.val (.ref a), .val (.ref t), .val (.int x)] []) := fun tg kg => k1 tg (st2 tg kg)
  have k4 : Rch p e below (s₁.setTop (entryFrame m #[(.ref a), (.ref t), (.int x)] 3)) T2 (mkF m 6 #[.val (.ref a), .val (.ref t), .val (.int x)] [(.ref t), (.ref a)]) := fun tg kg => by
    refine k3 tg ?_
    show Steps p.tables e below (T2.setTop (mkF m 4 #[.val (.ref a), .val (.ref t), .val (.int x)] [])) tg
    refine XS.aloadN X2.here hx rfl (hb hby d7_4) rfl rfl ?_
    show Steps p.tables e below (T2.setTop (mkF m 5 #[.val (.ref a), .val (.ref t), .val (.int x)] [(.ref a)])) tg
    refine XS.aloadN X2.here hx rfl (hb hby d7_5) rfl rfl ?_
    exact kg
  obtain ⟨T5, h5, X5, e5, W5, st5⟩ := putF X2 hx hZ hown (host := "") (Or.inl (hw _ (List.mem_of_getElem? (i := 40) rfl))) Via.refl e2 F_v E_a (Or.inr ⟨(hw _ (List.mem_of_getElem? (i := 41) rfl)), rfl, hnm⟩) (hw _ (List.mem_of_getElem? (i := 30) rfl)) (ty := (.array .byte)) (by decide) rfl rfl (g := (mkF m 6 #[.val (.ref a), .val (.ref t), .val (.int x)] [(.ref t), (.ref a)])) rfl rfl (hb hby d7_6)
  have Fw5 := F_v.same W5
  have s5 : h5.size = h0.size := W5.size
  have N5 := Fr.snoc X5 N0 (by omega : n0 ≤ a)
  have k6 : Rch p e below (s₁.setTop (entryFrame m #[(.ref a), (.ref t), (.int x)] 3)) T5 (mkF m 9 #[.val (.ref a), .val (.ref t), .val (.int x)] []) := fun tg kg => k4 tg (st5 tg kg)
  have k7 : Rch p e below (s₁.setTop (entryFrame m #[(.ref a), (.ref t), (.int x)] 3)) T5 (mkF m 11 #[.val (.ref a), .val (.ref t), .val (.int x)] [(.int x), (.ref a)]) := fun tg kg => by
    refine k6 tg ?_
    show Steps p.tables e below (T5.setTop (mkF m 9 #[.val (.ref a), .val (.ref t), .val (.int x)] [])) tg
    refine XS.aloadN X5.here hx rfl (hb hby d7_9) rfl rfl ?_
    show Steps p.tables e below (T5.setTop (mkF m 10 #[.val (.ref a), .val (.ref t), .val (.int x)] [(.ref a)])) tg
    refine XS.iloadN X5.here hx rfl (hb hby d7_10) rfl ?_
    exact kg
  have f8 : Fld Z h5 a "java/lang/String" "coder" "B" u' := (F_c.other W5 (Or.inr (slot_ne (Or.inr (hw _ (List.mem_of_getElem? (i := 43) rfl))) (Or.inr (hw _ (List.mem_of_getElem? (i := 41) rfl))) (by decide) (t := .byte) (t' := (.array .byte)) (by decide) (by decide))))
  have f9 : Exa Z h5 a "java/lang/String" := (E_a.wr W5)
  obtain ⟨T10, h10, X10, e10, W10, st10⟩ := putFN X5 hx hZ hown (hw _ (List.mem_of_getElem? (i := 42) rfl)) Via.refl e5 f8 f9 (Or.inr ⟨(hw _ (List.mem_of_getElem? (i := 43) rfl)), rfl, hnm⟩) (hw _ (List.mem_of_getElem? (i := 30) rfl)) (ty := .byte) (v' := (.int (nar .byte x))) (by decide) rfl (fits_nar_byte _) (g := (mkF m 11 #[.val (.ref a), .val (.ref t), .val (.int x)] [(.int x), (.ref a)])) rfl rfl (hb hby d7_11)
  have Fw10 := f8.same W10
  have s10 : h10.size = h5.size := W10.size
  have N10 := Fr.snoc X10 N5 (by omega : n0 ≤ a)
  have k11 : Rch p e below (s₁.setTop (entryFrame m #[(.ref a), (.ref t), (.int x)] 3)) T10 (mkF m 14 #[.val (.ref a), .val (.ref t), .val (.int x)] []) := fun tg kg => k7 tg (st10 tg kg)
  have f12 : Exa Z h10 a "java/lang/String" := (f9.wr W10)
  have f13 : Fld Z h10 a "java/lang/String" "value" "[B" (.ref t) := (Fw5.other W10 (Or.inr (slot_ne (Or.inr (hw _ (List.mem_of_getElem? (i := 41) rfl))) (Or.inr (hw _ (List.mem_of_getElem? (i := 43) rfl))) (by decide) (t := (.array .byte)) (t' := .byte) (by decide) (by decide))))
  obtain ⟨fs14, hr14, hrun14, hended14, hW14, hsame14⟩ := X10.leave (v := none) (fun _ => rfl)
  refine ⟨_, _, k11 _ ?_, hrun14, hended14, _, _, rfl, ?_, ⟨_, rfl⟩, hW14, hsame14.mono (by decide) (by decide)⟩
  · exact X10.returnOut hx Bd.returns (hb hby d7_14) hr14
  · show Q_rm_sinit Z a t x u u' h0 n0 _ T10.heap _
    rw [e10]
    exact ⟨rfl, N10, (((Keep.refl h0 [a]).wr W5 (Or.inl (List.mem_of_getElem? (i := 0) rfl))).wr W10 (Or.inl (List.mem_of_getElem? (i := 0) rfl))), f12, f13, Fw10⟩
theorem ef_rm_valC (m : MethodId) (x0 : Int32) : entryFrame m #[(.int x0)] 1 = mkF m 0 #[.val (.int x0)] [] := by first | (simp [entryFrame, mkF, argsToLocals, Value.category]; done) | rfl
def Q_rm_valC (Z : State) (x : Int32) (cs : Int32) (h0 : Heap) (n0 : Nat) (v : Option Value) (h : Heap) (L : List Loc) : Prop := ∃ (b : Addr) (t : Addr) (k : ClassId), (v = some (.ref b)) ∧ (Fr n0 L) ∧ (Keep h0 h []) ∧ (h0.size ≤ b) ∧ (Exa Z h b "java/lang/String") ∧ (Fld Z h b "java/lang/String" "value" "[B" (.ref t)) ∧ (Fld Z h b "java/lang/String" "coder" "B" (.int (0 : Int32))) ∧ (Arv Z h t k .byte (1 : Int32) [(.int (nar .byte (x.toInt8.toInt32)))] (.int (0 : Int32))) ∧ (h0.size ≤ t)
theorem d4_0 : decode jdk_42_method_139_code 0 = .ok (.getstatic 38, 3) := by decide +kernel
theorem d4_3 : decode jdk_42_method_139_code 3 = .ok (.ifCond .eq 23, 3) := by decide +kernel
theorem d4_6 : decode jdk_42_method_139_code 6 = .ok (.iload_n 0, 1) := by decide +kernel
theorem pd_0 : parseMethodDescriptor "(C)Z" = some ⟨[.char], some .boolean⟩ := by decide +kernel
theorem d4_7 : decode jdk_42_method_139_code 7 = .ok (.invokestatic 1015, 3) := by decide +kernel
theorem d4_10 : decode jdk_42_method_139_code 10 = .ok (.ifCond .eq 16, 3) := by decide +kernel
theorem d4_13 : decode jdk_42_method_139_code 13 = .ok (.new 10, 3) := by decide +kernel
theorem d4_16 : decode jdk_42_method_139_code 16 = .ok (.dup, 1) := by decide +kernel
theorem d4_17 : decode jdk_42_method_139_code 17 = .ok (.iload_n 0, 1) := by decide +kernel
theorem pd_1 : parseMethodDescriptor "(C)[B" = some ⟨[.char], some (.array .byte)⟩ := by decide +kernel
theorem d4_18 : decode jdk_42_method_139_code 18 = .ok (.invokestatic 1018, 3) := by decide +kernel
theorem d4_21 : decode jdk_42_method_139_code 21 = .ok (.iconst 0, 1) := by decide +kernel
theorem pd_2 : parseMethodDescriptor "([BB)V" = some ⟨[(.array .byte), .byte], none⟩ := by decide +kernel
theorem d4_22 : decode jdk_42_method_139_code 22 = .ok (.invokespecial 209, 3) := by decide +kernel
theorem d4_25 : decode jdk_42_method_139_code 25 = .ok (.areturn, 1) := by decide +kernel
set_option maxRecDepth 65536 in
set_option maxHeartbeats 40000000 in
theorem rm_valC (l : Launch) (Z : State) (a0 : Array Value) (hw : ∀ d ∈ tables_1, d.before a0 Z = true) (ws : List Jvm.Cond) (x : Int32) (cs : Int32) (h0 : Heap) (n0 : Nat) (Z0 : n0 ≤ h0.size) (S_cs : Sta Z Z.heap "java/lang/String" "COMPACT_STRINGS" "Z" (.int cs)) (OL : Old Z n0 h0) (hcs : ¬ (cs = (0 : Int32))) (hx255 : ¬ (255 : Int32) < x) :
    Con l Z (⟨"java/lang/String", "valueOf", "(C)Ljava/lang/String;"⟩ : MethodName) jdk_42_method_139_code 1 (some (.object "java/lang/String")) ws ({ frames := 2, cells := 2, slots := 5, locals := 27 } : Room) #[(.int x)] h0 (Q_rm_valC Z x cs h0 n0) := by
  refine MetFree.of_bodySF (plainFor_of_name pn_String) hisR ?_
  intro p e s m args below meth c s₁ Bd hml0 hP hK
  obtain ⟨rfl, hZ, hh⟩ := hP
  have hx := Bd.exec
  have hby := Bd.bytes
  have hml : c.maxLocals = 1 := hml0
  have hown : s.vm.findClass "java/lang/String" = some m.cls := findClass_of_methodNamed Bd.named
  have hnm := (name_of_methodNamed Bd.named Bd.method).1
  have X0 : Stand p l e ({ frames := 2, cells := 2, slots := 5, locals := 27 } : Room) s m #[(.int x)] below meth c s₁ [] 0 0 := Stand.of_body Bd
  have e0 : s₁.heap = h0 := by rw [← hh, Bd.state]; rfl
  have N0 := Fr.nil n0
  have k0 : Rch p e below (s₁.setTop (entryFrame m #[(.int x)] 1)) s₁ (mkF m 0 #[.val (.int x)] []) := fun tg kg => castTop (ef_rm_valC m x) kg
  obtain ⟨T1, X1, e1, st1⟩ := getS2 X0 hx hZ hown (host := "") (Or.inl (hw _ (List.mem_of_getElem? (i := 24) rfl))) Via.refl e0 (S_cs.ext OL.2) (g := (mkF m 0 #[.val (.int x)] [])) rfl (hb hby d4_0)
  have k2 : Rch p e below (s₁.setTop (entryFrame m #[(.int x)] 1)) T1 (mkF m 3 #[.val (.int x)] [(.int cs)]) := fun tg kg => k0 tg (st1 tg kg)
  have k3 : Rch p e below (s₁.setTop (entryFrame m #[(.int x)] 1)) T1 (mkF m 7 #[.val (.int x)] [(.int x)]) := fun tg kg => by
    refine k2 tg ?_
    show Steps p.tables e below (T1.setTop (mkF m 3 #[.val (.int x)] [(.int cs)])) tg
    refine XS.ifNo X1.here hx rfl (hb hby d4_3) rfl ((if0 _ _).trans (feq hcs).1) ?_
    show Steps p.tables e below (T1.setTop (mkF m 6 #[.val (.int x)] [])) tg
    refine XS.iloadN X1.here hx rfl (hb hby d4_6) rfl ?_
    exact kg
  obtain ⟨v4, T4, h4, Lc4, X4, e4, hQ4, st4⟩ := own_callS X1 hx hZ hown (hw _ (List.mem_of_getElem? (i := 25) rfl)) (hw _ (List.mem_of_getElem? (i := 26) rfl)) (hw _ (List.mem_of_getElem? (i := 27) rfl)) (hw _ (List.mem_of_getElem? (i := 28) rfl)) (by decide) (rm_can l Z a0 hw [] x h0 n0 (by omega) hx255) e1 (g := (mkF m 7 #[.val (.int x)] [(.int x)])) rfl (by rw [hml]; rfl) (argsL := [(.int x)]) (rest := []) rfl (lenOf pd_0 rfl) rfl (W := 0) (by show 2 * 0 + _ ≤ _; exact Nat.le_of_eq rfl) (hb hby d4_7) (by decide) (by decide) (by decide) (by decide)
  obtain ⟨rfl, Nq4, hs4⟩ := hQ4
  have N4 := Fr.app N0 Nq4
  have e4' : T4.heap = h0 := e4.trans hs4
  have k5 : Rch p e below (s₁.setTop (entryFrame m #[(.int x)] 1)) T4 (mkF m 10 #[.val (.int x)] [(.int (1 : Int32))]) := fun tg kg => k3 tg (st4 tg kg)
  have k6 : Rch p e below (s₁.setTop (entryFrame m #[(.int x)] 1)) T4 (mkF m 13 #[.val (.int x)] []) := fun tg kg => by
    refine k5 tg ?_
    show Steps p.tables e below (T4.setTop (mkF m 10 #[.val (.int x)] [(.int (1 : Int32))])) tg
    refine XS.ifNo X4.here hx rfl (hb hby d4_10) rfl ((if0 _ _).trans (feq (by decide)).1) ?_
    exact kg
  obtain ⟨T7, h7, X7, e7, E7, A7, D7, -, st7⟩ := newO X4 hx hZ hown (hw _ (List.mem_of_getElem? (i := 29) rfl)) (hw _ (List.mem_of_getElem? (i := 30) rfl)) (hw _ (List.mem_of_getElem? (i := 22) rfl)) e4' (g := (mkF m 13 #[.val (.int x)] [])) rfl (hb hby d4_13) (by decide) (by decide)
  obtain ⟨b7, g7⟩ : ∃ z, z = h0.size := ⟨_, rfl⟩
  rw [← g7] at A7 D7 st7
  have s7 : h0.size ≤ h7.size := E7.1
  have lt7 : b7 < h7.size := A7.lt
  have k8 : Rch p e below (s₁.setTop (entryFrame m #[(.int x)] 1)) T7 (mkF m 16 #[.val (.int x)] [(.ref b7)]) := fun tg kg => k6 tg (st7 tg kg)
  have F7_value : Fld Z h7 b7 "java/lang/String" "value" "[B" .null := D7 (Or.inr (hw _ (List.mem_of_getElem? (i := 41) rfl))) (ty := (.array .byte)) (by decide)
  have F7_coder : Fld Z h7 b7 "java/lang/String" "coder" "B" (.int (0 : Int32)) := D7 (Or.inr (hw _ (List.mem_of_getElem? (i := 43) rfl))) (ty := .byte) (by decide)
  have k9 : Rch p e below (s₁.setTop (entryFrame m #[(.int x)] 1)) T7 (mkF m 18 #[.val (.int x)] [(.int x), (.ref b7), (.ref b7)]) := fun tg kg => by
    refine k8 tg ?_
    show Steps p.tables e below (T7.setTop (mkF m 16 #[.val (.int x)] [(.ref b7)])) tg
    refine XS.dup X7.here hx rfl (hb hby d4_16) rfl rfl ?_
    show Steps p.tables e below (T7.setTop (mkF m 17 #[.val (.int x)] [(.ref b7), (.ref b7)])) tg
    refine XS.iloadN X7.here hx rfl (hb hby d4_17) rfl ?_
    exact kg
  obtain ⟨v10, T10, h10, Lc10, X10, e10, hQ10, st10⟩ := own_callS X7 hx hZ hown (hw _ (List.mem_of_getElem? (i := 31) rfl)) (hw _ (List.mem_of_getElem? (i := 32) rfl)) (hw _ (List.mem_of_getElem? (i := 27) rfl)) (hw _ (List.mem_of_getElem? (i := 33) rfl)) (by decide) (rm_toB l Z a0 hw [] x h7 n0 (by omega) ) e7 (g := (mkF m 18 #[.val (.int x)] [(.int x), (.ref b7), (.ref b7)])) rfl (by rw [hml]; rfl) (argsL := [(.int x)]) (rest := [(.ref b7), (.ref b7)]) rfl (lenOf pd_1 rfl) rfl (W := 2) (by show 2 * 0 + _ ≤ _; exact Nat.le_of_eq rfl) (hb hby d4_18) (by decide) (by decide) (by decide) (by decide)
  obtain ⟨b_10, k_10, rfl, Nq10, K10, ge10_3, fq10_4⟩ := hQ10
  have N10 := Fr.app N4 Nq10
  have s10 : h7.size ≤ h10.size := K10.1
  have k11 : Rch p e below (s₁.setTop (entryFrame m #[(.int x)] 1)) T10 (mkF m 21 #[.val (.int x)] [(.ref b_10), (.ref b7), (.ref b7)]) := fun tg kg => k9 tg (st10 tg kg)
  have lt_fq10_4 := fq10_4.lt
  have k12 : Rch p e below (s₁.setTop (entryFrame m #[(.int x)] 1)) T10 (mkF m 22 #[.val (.int x)] [(.int (0 : Int32)), (.ref b_10), (.ref b7), (.ref b7)]) := fun tg kg => by
    refine k11 tg ?_
    show Steps p.tables e below (T10.setTop (mkF m 21 #[.val (.int x)] [(.ref b_10), (.ref b7), (.ref b7)])) tg
    refine XS.iconst X10.here hx rfl (hb hby d4_21) ?_
    exact kg
  have f14 : Exa Z h10 b7 "java/lang/String" := (A7.keep K10)
  have f15 : Fld Z h10 b7 "java/lang/String" "value" "[B" .null := (F7_value.keep K10 nin0)
  have f16 : Fld Z h10 b7 "java/lang/String" "coder" "B" (.int (0 : Int32)) := (F7_coder.keep K10 nin0)
  obtain ⟨v13, T13, h13, Lc13, X13, e13, hQ13, st13⟩ := own_callC X10 hx hZ rfl hown (hw _ (List.mem_of_getElem? (i := 35) rfl)) (hw _ (List.mem_of_getElem? (i := 36) rfl)) (hw _ (List.mem_of_getElem? (i := 22) rfl)) (hw _ (List.mem_of_getElem? (i := 38) rfl)) (by decide) (rm_sinit l Z a0 hw [] b7 b_10 (0 : Int32) .null (.int (0 : Int32)) h10 n0 (by omega) f14 f15 f16 (by omega)) e10 (a := b7) (g := (mkF m 22 #[.val (.int x)] [(.int (0 : Int32)), (.ref b_10), (.ref b7), (.ref b7)])) rfl (by rw [hml]; rfl) (argsL := [(.ref b_10), (.int (0 : Int32))]) (rest := [(.ref b7)]) rfl (lenOf pd_2 rfl) rfl (W := 1) (by show 2 * 0 + _ ≤ _; exact Nat.le_of_eq rfl) (hb hby d4_22) (by decide) (by decide) (by decide) (by decide)
  obtain ⟨rfl, Nq13, K13, fq13_3, fq13_4, fq13_5⟩ := hQ13
  have N13 := Fr.app N10 Nq13
  have s13 : h10.size ≤ h13.size := K13.1
  have k17 : Rch p e below (s₁.setTop (entryFrame m #[(.int x)] 1)) T13 (mkF m 25 #[.val (.int x)] [(.ref b7)]) := fun tg kg => k12 tg (st13 tg kg)
  have lt_fq13_3 := fq13_3.lt
  have lt_fq13_4 := fq13_4.lt
  have lt_fq13_5 := fq13_5.lt
  have f18 : Arv Z h13 b_10 k_10 .byte (1 : Int32) [(.int (nar .byte (x.toInt8.toInt32)))] (.int (0 : Int32)) := (fq10_4.keep K13 (ninS (by first | exact own_ne (by omega) | assumption | (apply Ne.symm; assumption)) nin0))
  obtain ⟨fs19, hr19, hrun19, hended19, hW19, hsame19⟩ := X13.leave (v := some (.ref b7)) (fun h => by rw [Bd.returns] at h; cases h)
  refine ⟨_, _, k17 _ ?_, hrun19, hended19, _, _, rfl, ?_, ⟨_, rfl⟩, hW19, hsame19.mono (by decide) (by decide)⟩
  · exact retOut X13 hx Bd.returns rfl (Or.inr (Or.inr (Or.inr (Or.inr ⟨rfl, rfl, rfl⟩)))) (hb hby d4_25) hr19
  · show Q_rm_valC Z x cs h0 n0 _ T13.heap _
    rw [e13]
    exact ⟨b7, b_10, k_10, rfl, N13, ((((Keep.refl h0 []).ext E7).trans K10 all0).trans K13 (allS (Or.inr (by omega)) all0)), (by omega), fq13_3, fq13_4, fq13_5, f18, (by omega)⟩
theorem pn_SourcePosition : plainName "com/example/probabilistic_event_models/probabilisticeventmodels/model/SourcePosition" = true := by first | (simp [plainName, overriddenIn]; done) | decide +kernel
theorem ef_rm_init (m : MethodId) (x0 : Addr) (x1 : Int32) (x2 : Int32) : entryFrame m #[(.ref x0), (.int x1), (.int x2)] 3 = mkF m 0 #[.val (.ref x0), .val (.int x1), .val (.int x2)] [] := by first | (simp [entryFrame, mkF, argsToLocals, Value.category]; done) | rfl
def Q_rm_init (Z : State) (a : Addr) (x : Int32) (x' : Int32) (u : Value) (u' : Value) (h0 : Heap) (n0 : Nat) (v : Option Value) (h : Heap) (L : List Loc) : Prop := (v = none) ∧ (Fr n0 L) ∧ (Keep h0 h [a]) ∧ (Exa Z h a "com/example/probabilistic_event_models/probabilisticeventmodels/model/SourcePosition") ∧ (Fld Z h a "com/example/probabilistic_event_models/probabilisticeventmodels/model/SourcePosition" "line" "I" (.int x)) ∧ (Fld Z h a "com/example/probabilistic_event_models/probabilisticeventmodels/model/SourcePosition" "column" "I" (.int x'))
theorem d1_0 : decode prog_74_method_1_code 0 = .ok (.aload_n 0, 1) := by decide +kernel
theorem d1_1 : decode prog_74_method_1_code 1 = .ok (.invokespecial 1, 3) := by decide +kernel
theorem d1_4 : decode prog_74_method_1_code 4 = .ok (.aload_n 0, 1) := by decide +kernel
theorem d1_5 : decode prog_74_method_1_code 5 = .ok (.iload_n 1, 1) := by decide +kernel
theorem d1_6 : decode prog_74_method_1_code 6 = .ok (.putfield 7, 3) := by decide +kernel
theorem d1_9 : decode prog_74_method_1_code 9 = .ok (.aload_n 0, 1) := by decide +kernel
theorem d1_10 : decode prog_74_method_1_code 10 = .ok (.iload_n 2, 1) := by decide +kernel
theorem d1_11 : decode prog_74_method_1_code 11 = .ok (.putfield 13, 3) := by decide +kernel
theorem d1_14 : decode prog_74_method_1_code 14 = .ok (.return_, 1) := by decide +kernel
set_option maxRecDepth 65536 in
set_option maxHeartbeats 40000000 in
theorem rm_init (l : Launch) (Z : State) (a0 : Array Value) (hw : ∀ d ∈ tables_1, d.before a0 Z = true) (ws : List Jvm.Cond) (a : Addr) (x : Int32) (x' : Int32) (u : Value) (u' : Value) (h0 : Heap) (n0 : Nat) (Z0 : n0 ≤ h0.size) (E_a : Exa Z h0 a "com/example/probabilistic_event_models/probabilisticeventmodels/model/SourcePosition") (F_1 : Fld Z h0 a "com/example/probabilistic_event_models/probabilisticeventmodels/model/SourcePosition" "line" "I" u) (F_2 : Fld Z h0 a "com/example/probabilistic_event_models/probabilisticeventmodels/model/SourcePosition" "column" "I" u') (g_a : n0 ≤ a) :
    Con l Z (⟨"com/example/probabilistic_event_models/probabilisticeventmodels/model/SourcePosition", "<init>", "(II)V"⟩ : MethodName) prog_74_method_1_code 3 none ws ({ frames := 1, cells := 0, slots := 0, locals := 12 } : Room) #[(.ref a), (.int x), (.int x')] h0 (Q_rm_init Z a x x' u u' h0 n0) := by
  refine MetFree.of_bodySF (plainFor_of_name pn_SourcePosition) hisR ?_
  intro p e s m args below meth c s₁ Bd hml0 hP hK
  obtain ⟨rfl, hZ, hh⟩ := hP
  have hx := Bd.exec
  have hby := Bd.bytes
  have hml : c.maxLocals = 3 := hml0
  have hown : s.vm.findClass "com/example/probabilistic_event_models/probabilisticeventmodels/model/SourcePosition" = some m.cls := findClass_of_methodNamed Bd.named
  have hnm := (name_of_methodNamed Bd.named Bd.method).1
  have X0 : Stand p l e ({ frames := 1, cells := 0, slots := 0, locals := 12 } : Room) s m #[(.ref a), (.int x), (.int x')] below meth c s₁ [] 0 0 := Stand.of_body Bd
  have e0 : s₁.heap = h0 := by rw [← hh, Bd.state]; rfl
  have N0 := Fr.nil n0
  have k0 : Rch p e below (s₁.setTop (entryFrame m #[(.ref a), (.int x), (.int x')] 3)) s₁ (mkF m 0 #[.val (.ref a), .val (.int x), .val (.int x')] []) := fun tg kg => castTop (ef_rm_init m a x x') kg
  have lt_E_a := E_a.lt
  have lt_F_1 := F_1.lt
  have lt_F_2 := F_2.lt
  have k1 : Rch p e below (s₁.setTop (entryFrame m #[(.ref a), (.int x), (.int x')] 3)) s₁ (mkF m 1 #[.val (.ref a), .val (.int x), .val (.int x')] [(.ref a)]) := fun tg kg => by
    refine k0 tg ?_
    show Steps p.tables e below (s₁.setTop (mkF m 0 #[.val (.ref a), .val (.int x), .val (.int x')] [])) tg
    refine XS.aloadN X0.here hx rfl (hb hby d1_0) rfl rfl ?_
    exact kg
  obtain ⟨T2, X2, e2, st2⟩ := initO X0 hx hZ hown (hw _ (List.mem_of_getElem? (i := 6) rfl)) (hw _ (List.mem_of_getElem? (i := 7) rfl)) (hw _ (List.mem_of_getElem? (i := 8) rfl)) e0 (g := (mkF m 1 #[.val (.ref a), .val (.int x), .val (.int x')] [(.ref a)])) rfl (by rw [hml]; rfl) rfl (hb hby d1_1) (by decide) (W := 0) (by show 2 * 0 + _ ≤ _; exact Nat.le_of_eq rfl) (by decide)
  have k3 : Rch p e below (s₁.setTop (entryFrame m #[(.ref a), (.int x), (.int x')] 3)) T2 (mkF m 4 #[.val (.ref a), .val (.int x), .val (.int x')] []) := fun tg kg => k1 tg (st2 tg kg)
  have k4 : Rch p e below (s₁.setTop (entryFrame m #[(.ref a), (.int x), (.int x')] 3)) T2 (mkF m 6 #[.val (.ref a), .val (.int x), .val (.int x')] [(.int x), (.ref a)]) := fun tg kg => by
    refine k3 tg ?_
    show Steps p.tables e below (T2.setTop (mkF m 4 #[.val (.ref a), .val (.int x), .val (.int x')] [])) tg
    refine XS.aloadN X2.here hx rfl (hb hby d1_4) rfl rfl ?_
    show Steps p.tables e below (T2.setTop (mkF m 5 #[.val (.ref a), .val (.int x), .val (.int x')] [(.ref a)])) tg
    refine XS.iloadN X2.here hx rfl (hb hby d1_5) rfl ?_
    exact kg
  obtain ⟨T5, h5, X5, e5, W5, st5⟩ := putF X2 hx hZ hown (host := "") (Or.inl (hw _ (List.mem_of_getElem? (i := 9) rfl))) Via.refl e2 F_1 E_a (Or.inr ⟨(hw _ (List.mem_of_getElem? (i := 10) rfl)), rfl, hnm⟩) (hw _ (List.mem_of_getElem? (i := 1) rfl)) (ty := .int) (by decide) rfl rfl (g := (mkF m 6 #[.val (.ref a), .val (.int x), .val (.int x')] [(.int x), (.ref a)])) rfl rfl (hb hby d1_6)
  have Fw5 := F_1.same W5
  have s5 : h5.size = h0.size := W5.size
  have N5 := Fr.snoc X5 N0 (by omega : n0 ≤ a)
  have k6 : Rch p e below (s₁.setTop (entryFrame m #[(.ref a), (.int x), (.int x')] 3)) T5 (mkF m 9 #[.val (.ref a), .val (.int x), .val (.int x')] []) := fun tg kg => k4 tg (st5 tg kg)
  have k7 : Rch p e below (s₁.setTop (entryFrame m #[(.ref a), (.int x), (.int x')] 3)) T5 (mkF m 11 #[.val (.ref a), .val (.int x), .val (.int x')] [(.int x'), (.ref a)]) := fun tg kg => by
    refine k6 tg ?_
    show Steps p.tables e below (T5.setTop (mkF m 9 #[.val (.ref a), .val (.int x), .val (.int x')] [])) tg
    refine XS.aloadN X5.here hx rfl (hb hby d1_9) rfl rfl ?_
    show Steps p.tables e below (T5.setTop (mkF m 10 #[.val (.ref a), .val (.int x), .val (.int x')] [(.ref a)])) tg
    refine XS.iloadN X5.here hx rfl (hb hby d1_10) rfl ?_
    exact kg
  have f8 : Fld Z h5 a "com/example/probabilistic_event_models/probabilisticeventmodels/model/SourcePosition" "column" "I" u' := (F_2.other W5 (Or.inr (slot_ne (Or.inr (hw _ (List.mem_of_getElem? (i := 12) rfl))) (Or.inr (hw _ (List.mem_of_getElem? (i := 10) rfl))) (by decide) (t := .int) (t' := .int) (by decide) (by decide))))
  have f9 : Exa Z h5 a "com/example/probabilistic_event_models/probabilisticeventmodels/model/SourcePosition" := (E_a.wr W5)
  obtain ⟨T10, h10, X10, e10, W10, st10⟩ := putF X5 hx hZ hown (host := "") (Or.inl (hw _ (List.mem_of_getElem? (i := 11) rfl))) Via.refl e5 f8 f9 (Or.inr ⟨(hw _ (List.mem_of_getElem? (i := 12) rfl)), rfl, hnm⟩) (hw _ (List.mem_of_getElem? (i := 1) rfl)) (ty := .int) (by decide) rfl rfl (g := (mkF m 11 #[.val (.ref a), .val (.int x), .val (.int x')] [(.int x'), (.ref a)])) rfl rfl (hb hby d1_11)
  have Fw10 := f8.same W10
  have s10 : h10.size = h5.size := W10.size
  have N10 := Fr.snoc X10 N5 (by omega : n0 ≤ a)
  have k11 : Rch p e below (s₁.setTop (entryFrame m #[(.ref a), (.int x), (.int x')] 3)) T10 (mkF m 14 #[.val (.ref a), .val (.int x), .val (.int x')] []) := fun tg kg => k7 tg (st10 tg kg)
  have f12 : Exa Z h10 a "com/example/probabilistic_event_models/probabilisticeventmodels/model/SourcePosition" := (f9.wr W10)
  have f13 : Fld Z h10 a "com/example/probabilistic_event_models/probabilisticeventmodels/model/SourcePosition" "line" "I" (.int x) := (Fw5.other W10 (Or.inr (slot_ne (Or.inr (hw _ (List.mem_of_getElem? (i := 10) rfl))) (Or.inr (hw _ (List.mem_of_getElem? (i := 12) rfl))) (by decide) (t := .int) (t' := .int) (by decide) (by decide))))
  obtain ⟨fs14, hr14, hrun14, hended14, hW14, hsame14⟩ := X10.leave (v := none) (fun _ => rfl)
  refine ⟨_, _, k11 _ ?_, hrun14, hended14, _, _, rfl, ?_, ⟨_, rfl⟩, hW14, hsame14.mono (by decide) (by decide)⟩
  · exact X10.returnOut hx Bd.returns (hb hby d1_14) hr14
  · show Q_rm_init Z a x x' u u' h0 n0 _ T10.heap _
    rw [e10]
    exact ⟨rfl, N10, (((Keep.refl h0 [a]).wr W5 (Or.inl (List.mem_of_getElem? (i := 0) rfl))).wr W10 (Or.inl (List.mem_of_getElem? (i := 0) rfl))), f12, f13, Fw10⟩
theorem ef_rm_eqSelf (m : MethodId) (x0 : Addr) (x1 : Addr) : entryFrame m #[(.ref x0), (.ref x1)] 3 = mkF m 0 #[.val (.ref x0), .val (.ref x1), .unset] [] := by first | (simp [entryFrame, mkF, argsToLocals, Value.category]; done) | rfl
def Q_rm_eqSelf (Z : State) (a : Addr) (a' : Addr) (h0 : Heap) (n0 : Nat) (v : Option Value) (h : Heap) (L : List Loc) : Prop := (v = some (.int (1 : Int32))) ∧ (Fr n0 L) ∧ (h = h0)
theorem d3_0 : decode prog_74_method_5_code 0 = .ok (.aload_n 0, 1) := by decide +kernel
theorem d3_1 : decode prog_74_method_5_code 1 = .ok (.aload_n 1, 1) := by decide +kernel
theorem d3_2 : decode prog_74_method_5_code 2 = .ok (.if_acmp .ne 5, 3) := by decide +kernel
theorem d3_5 : decode prog_74_method_5_code 5 = .ok (.iconst 1, 1) := by decide +kernel
theorem d3_6 : decode prog_74_method_5_code 6 = .ok (.ireturn, 1) := by decide +kernel
set_option maxRecDepth 65536 in
set_option maxHeartbeats 40000000 in
theorem rm_eqSelf (l : Launch) (Z : State) (a0 : Array Value) (hw : ∀ d ∈ tables_1, d.before a0 Z = true) (ws : List Jvm.Cond) (a : Addr) (a' : Addr) (h0 : Heap) (n0 : Nat) (Z0 : n0 ≤ h0.size) (haa : a = a') :
    Con l Z (⟨"com/example/probabilistic_event_models/probabilisticeventmodels/model/SourcePosition", "equals", "(Ljava/lang/Object;)Z"⟩ : MethodName) prog_74_method_5_code 3 (some .boolean) ws ({ frames := 0, cells := 0, slots := 0, locals := 0 } : Room) #[(.ref a), (.ref a')] h0 (Q_rm_eqSelf Z a a' h0 n0) := by
  refine MetFree.of_bodySF (plainFor_of_name pn_SourcePosition) hisR ?_
  intro p e s m args below meth c s₁ Bd hml0 hP hK
  obtain ⟨rfl, hZ, hh⟩ := hP
  have hx := Bd.exec
  have hby := Bd.bytes
  have hml : c.maxLocals = 3 := hml0
  have hown : s.vm.findClass "com/example/probabilistic_event_models/probabilisticeventmodels/model/SourcePosition" = some m.cls := findClass_of_methodNamed Bd.named
  have hnm := (name_of_methodNamed Bd.named Bd.method).1
  have X0 : Stand p l e ({ frames := 0, cells := 0, slots := 0, locals := 0 } : Room) s m #[(.ref a), (.ref a')] below meth c s₁ [] 0 0 := Stand.of_body Bd
  have e0 : s₁.heap = h0 := by rw [← hh, Bd.state]; rfl
  have N0 := Fr.nil n0
  have k0 : Rch p e below (s₁.setTop (entryFrame m #[(.ref a), (.ref a')] 3)) s₁ (mkF m 0 #[.val (.ref a), .val (.ref a'), .unset] []) := fun tg kg => castTop (ef_rm_eqSelf m a a') kg
  have k1 : Rch p e below (s₁.setTop (entryFrame m #[(.ref a), (.ref a')] 3)) s₁ (mkF m 6 #[.val (.ref a), .val (.ref a'), .unset] [(.int (1 : Int32))]) := fun tg kg => by
    refine k0 tg ?_
    show Steps p.tables e below (s₁.setTop (mkF m 0 #[.val (.ref a), .val (.ref a'), .unset] [])) tg
    refine XS.aloadN X0.here hx rfl (hb hby d3_0) rfl rfl ?_
    show Steps p.tables e below (s₁.setTop (mkF m 1 #[.val (.ref a), .val (.ref a'), .unset] [(.ref a)])) tg
    refine XS.aloadN X0.here hx rfl (hb hby d3_1) rfl rfl ?_
    show Steps p.tables e below (s₁.setTop (mkF m 2 #[.val (.ref a), .val (.ref a'), .unset] [(.ref a'), (.ref a)])) tg
    refine Jvm.RoadKit.acmp (g := (mkF m 2 #[.val (.ref a), .val (.ref a'), .unset] [(.ref a'), (.ref a)])) X0 hx rfl rfl rfl (pc0 := 2) (pc' := 5) (same := true) rfl (hb hby d3_2) rfl (decide_eq_true (congrArg Value.ref haa)) (by decide) (by decide) ?_
    show Steps p.tables e below (s₁.setTop (mkF m 5 #[.val (.ref a), .val (.ref a'), .unset] [])) tg
    refine XS.iconst X0.here hx rfl (hb hby d3_5) ?_
    exact kg
  obtain ⟨fs2, hr2, hrun2, hended2, hW2, hsame2⟩ := X0.leave (v := some (.int (nar .boolean (1 : Int32)))) (fun h => by rw [Bd.returns] at h; cases h)
  refine ⟨_, _, k1 _ ?_, hrun2, hended2, _, _, rfl, ?_, ⟨_, rfl⟩, hW2, hsame2.mono (by decide) (by decide)⟩
  · exact retN X0 hx (t := .boolean) Bd.returns (by simp) (hb hby d3_6) hr2
  · show Q_rm_eqSelf Z a a' h0 n0 _ s₁.heap _
    rw [e0]
    exact ⟨rfl, N0, rfl⟩
theorem ef_rm_eqNull (m : MethodId) (x0 : Addr) : entryFrame m #[(.ref x0), .null] 3 = mkF m 0 #[.val (.ref x0), .val .null, .unset] [] := by first | (simp [entryFrame, mkF, argsToLocals, Value.category]; done) | rfl
def Q_rm_eqNull (Z : State) (a : Addr) (h0 : Heap) (n0 : Nat) (v : Option Value) (h : Heap) (L : List Loc) : Prop := (v = some (.int (0 : Int32))) ∧ (Fr n0 L) ∧ (h = h0)
theorem d3_7 : decode prog_74_method_5_code 7 = .ok (.aload_n 1, 1) := by decide +kernel
theorem d3_8 : decode prog_74_method_5_code 8 = .ok (.instanceof 8, 3) := by decide +kernel
theorem d3_11 : decode prog_74_method_5_code 11 = .ok (.ifCond .ne 5, 3) := by decide +kernel
theorem d3_14 : decode prog_74_method_5_code 14 = .ok (.iconst 0, 1) := by decide +kernel
theorem d3_15 : decode prog_74_method_5_code 15 = .ok (.ireturn, 1) := by decide +kernel
set_option maxRecDepth 65536 in
set_option maxHeartbeats 40000000 in
theorem rm_eqNull (l : Launch) (Z : State) (a0 : Array Value) (hw : ∀ d ∈ tables_1, d.before a0 Z = true) (ws : List Jvm.Cond) (a : Addr) (h0 : Heap) (n0 : Nat) (Z0 : n0 ≤ h0.size)  :
    Con l Z (⟨"com/example/probabilistic_event_models/probabilisticeventmodels/model/SourcePosition", "equals", "(Ljava/lang/Object;)Z"⟩ : MethodName) prog_74_method_5_code 3 (some .boolean) ws ({ frames := 0, cells := 0, slots := 0, locals := 0 } : Room) #[(.ref a), .null] h0 (Q_rm_eqNull Z a h0 n0) := by
  refine MetFree.of_bodySF (plainFor_of_name pn_SourcePosition) hisR ?_
  intro p e s m args below meth c s₁ Bd hml0 hP hK
  obtain ⟨rfl, hZ, hh⟩ := hP
  have hx := Bd.exec
  have hby := Bd.bytes
  have hml : c.maxLocals = 3 := hml0
  have hown : s.vm.findClass "com/example/probabilistic_event_models/probabilisticeventmodels/model/SourcePosition" = some m.cls := findClass_of_methodNamed Bd.named
  have hnm := (name_of_methodNamed Bd.named Bd.method).1
  have X0 : Stand p l e ({ frames := 0, cells := 0, slots := 0, locals := 0 } : Room) s m #[(.ref a), .null] below meth c s₁ [] 0 0 := Stand.of_body Bd
  have e0 : s₁.heap = h0 := by rw [← hh, Bd.state]; rfl
  have N0 := Fr.nil n0
  have k0 : Rch p e below (s₁.setTop (entryFrame m #[(.ref a), .null] 3)) s₁ (mkF m 0 #[.val (.ref a), .val .null, .unset] []) := fun tg kg => castTop (ef_rm_eqNull m a) kg
  have k1 : Rch p e below (s₁.setTop (entryFrame m #[(.ref a), .null] 3)) s₁ (mkF m 15 #[.val (.ref a), .val .null, .unset] [(.int (0 : Int32))]) := fun tg kg => by
    refine k0 tg ?_
    show Steps p.tables e below (s₁.setTop (mkF m 0 #[.val (.ref a), .val .null, .unset] [])) tg
    refine XS.aloadN X0.here hx rfl (hb hby d3_0) rfl rfl ?_
    show Steps p.tables e below (s₁.setTop (mkF m 1 #[.val (.ref a), .val .null, .unset] [(.ref a)])) tg
    refine XS.aloadN X0.here hx rfl (hb hby d3_1) rfl rfl ?_
    show Steps p.tables e below (s₁.setTop (mkF m 2 #[.val (.ref a), .val .null, .unset] [.null, (.ref a)])) tg
    refine Jvm.RoadKit.acmp (g := (mkF m 2 #[.val (.ref a), .val .null, .unset] [.null, (.ref a)])) X0 hx rfl rfl rfl (pc0 := 2) (pc' := 7) (same := false) rfl (hb hby d3_2) rfl (decide_eq_false nofun) (by decide) (by decide) ?_
    show Steps p.tables e below (s₁.setTop (mkF m 7 #[.val (.ref a), .val .null, .unset] [])) tg
    refine XS.aloadN X0.here hx rfl (hb hby d3_7) rfl rfl ?_
    show Steps p.tables e below (s₁.setTop (mkF m 8 #[.val (.ref a), .val .null, .unset] [.null])) tg
    refine X0.instanceofNull hx (g := (mkF m 8 #[.val (.ref a), .val .null, .unset] [.null])) rfl rfl (hb hby d3_8) _ ?_
    show Steps p.tables e below (s₁.setTop (mkF m 11 #[.val (.ref a), .val .null, .unset] [(.int (0 : Int32))])) tg
    refine XS.ifNo X0.here hx rfl (hb hby d3_11) rfl ((if0 _ _).trans (teq rfl).2) ?_
    show Steps p.tables e below (s₁.setTop (mkF m 14 #[.val (.ref a), .val .null, .unset] [])) tg
    refine XS.iconst X0.here hx rfl (hb hby d3_14) ?_
    exact kg
  obtain ⟨fs2, hr2, hrun2, hended2, hW2, hsame2⟩ := X0.leave (v := some (.int (nar .boolean (0 : Int32)))) (fun h => by rw [Bd.returns] at h; cases h)
  refine ⟨_, _, k1 _ ?_, hrun2, hended2, _, _, rfl, ?_, ⟨_, rfl⟩, hW2, hsame2.mono (by decide) (by decide)⟩
  · exact retN X0 hx (t := .boolean) Bd.returns (by simp) (hb hby d3_15) hr2
  · show Q_rm_eqNull Z a h0 n0 _ s₁.heap _
    rw [e0]
    exact ⟨rfl, N0, rfl⟩
theorem ef_rm_eqStr (m : MethodId) (x0 : Addr) (x1 : Addr) : entryFrame m #[(.ref x0), (.ref x1)] 3 = mkF m 0 #[.val (.ref x0), .val (.ref x1), .unset] [] := by first | (simp [entryFrame, mkF, argsToLocals, Value.category]; done) | rfl
def Q_rm_eqStr (Z : State) (a : Addr) (b : Addr) (h0 : Heap) (n0 : Nat) (v : Option Value) (h : Heap) (L : List Loc) : Prop := (v = some (.int (0 : Int32))) ∧ (Fr n0 L) ∧ (h = h0)
set_option maxRecDepth 65536 in
set_option maxHeartbeats 40000000 in
theorem rm_eqStr (l : Launch) (Z : State) (a0 : Array Value) (hw : ∀ d ∈ tables_1, d.before a0 Z = true) (ws : List Jvm.Cond) (a : Addr) (b : Addr) (h0 : Heap) (n0 : Nat) (Z0 : n0 ≤ h0.size) (E_b : Exa Z h0 b "java/lang/String") (hab : a ≠ b) :
    Con l Z (⟨"com/example/probabilistic_event_models/probabilisticeventmodels/model/SourcePosition", "equals", "(Ljava/lang/Object;)Z"⟩ : MethodName) prog_74_method_5_code 3 (some .boolean) ws ({ frames := 0, cells := 0, slots := 0, locals := 0 } : Room) #[(.ref a), (.ref b)] h0 (Q_rm_eqStr Z a b h0 n0) := by
  refine MetFree.of_bodySF (plainFor_of_name pn_SourcePosition) hisR ?_
  intro p e s m args below meth c s₁ Bd hml0 hP hK
  obtain ⟨rfl, hZ, hh⟩ := hP
  have hx := Bd.exec
  have hby := Bd.bytes
  have hml : c.maxLocals = 3 := hml0
  have hown : s.vm.findClass "com/example/probabilistic_event_models/probabilisticeventmodels/model/SourcePosition" = some m.cls := findClass_of_methodNamed Bd.named
  have hnm := (name_of_methodNamed Bd.named Bd.method).1
  have X0 : Stand p l e ({ frames := 0, cells := 0, slots := 0, locals := 0 } : Room) s m #[(.ref a), (.ref b)] below meth c s₁ [] 0 0 := Stand.of_body Bd
  have e0 : s₁.heap = h0 := by rw [← hh, Bd.state]; rfl
  have N0 := Fr.nil n0
  have k0 : Rch p e below (s₁.setTop (entryFrame m #[(.ref a), (.ref b)] 3)) s₁ (mkF m 0 #[.val (.ref a), .val (.ref b), .unset] []) := fun tg kg => castTop (ef_rm_eqStr m a b) kg
  have lt_E_b := E_b.lt
  have k1 : Rch p e below (s₁.setTop (entryFrame m #[(.ref a), (.ref b)] 3)) s₁ (mkF m 8 #[.val (.ref a), .val (.ref b), .unset] [(.ref b)]) := fun tg kg => by
    refine k0 tg ?_
    show Steps p.tables e below (s₁.setTop (mkF m 0 #[.val (.ref a), .val (.ref b), .unset] [])) tg
    refine XS.aloadN X0.here hx rfl (hb hby d3_0) rfl rfl ?_
    show Steps p.tables e below (s₁.setTop (mkF m 1 #[.val (.ref a), .val (.ref b), .unset] [(.ref a)])) tg
    refine XS.aloadN X0.here hx rfl (hb hby d3_1) rfl rfl ?_
    show Steps p.tables e below (s₁.setTop (mkF m 2 #[.val (.ref a), .val (.ref b), .unset] [(.ref b), (.ref a)])) tg
    refine Jvm.RoadKit.acmp (g := (mkF m 2 #[.val (.ref a), .val (.ref b), .unset] [(.ref b), (.ref a)])) X0 hx rfl rfl rfl (pc0 := 2) (pc' := 7) (same := false) rfl (hb hby d3_2) rfl (decide_eq_false fun q => hab (Value.ref.inj q)) (by decide) (by decide) ?_
    show Steps p.tables e below (s₁.setTop (mkF m 7 #[.val (.ref a), .val (.ref b), .unset] [])) tg
    refine XS.aloadN X0.here hx rfl (hb hby d3_7) rfl rfl ?_
    exact kg
  obtain ⟨T2, X2, e2, st2⟩ := instNo X0 hx hZ hown (hw _ (List.mem_of_getElem? (i := 18) rfl)) e0 E_b (own_notInst (hw _ (List.mem_of_getElem? (i := 44) rfl)) (hw _ (List.mem_of_getElem? (i := 45) rfl)) (hw _ (List.mem_of_getElem? (i := 1) rfl)) (by decide) (by decide)) (g := (mkF m 8 #[.val (.ref a), .val (.ref b), .unset] [(.ref b)])) rfl rfl (hb hby d3_8)
  have k3 : Rch p e below (s₁.setTop (entryFrame m #[(.ref a), (.ref b)] 3)) T2 (mkF m 11 #[.val (.ref a), .val (.ref b), .unset] [(.int (0 : Int32))]) := fun tg kg => k1 tg (st2 tg kg)
  have k4 : Rch p e below (s₁.setTop (entryFrame m #[(.ref a), (.ref b)] 3)) T2 (mkF m 15 #[.val (.ref a), .val (.ref b), .unset] [(.int (0 : Int32))]) := fun tg kg => by
    refine k3 tg ?_
    show Steps p.tables e below (T2.setTop (mkF m 11 #[.val (.ref a), .val (.ref b), .unset] [(.int (0 : Int32))])) tg
    refine XS.ifNo X2.here hx rfl (hb hby d3_11) rfl ((if0 _ _).trans (teq rfl).2) ?_
    show Steps p.tables e below (T2.setTop (mkF m 14 #[.val (.ref a), .val (.ref b), .unset] [])) tg
    refine XS.iconst X2.here hx rfl (hb hby d3_14) ?_
    exact kg
  obtain ⟨fs5, hr5, hrun5, hended5, hW5, hsame5⟩ := X2.leave (v := some (.int (nar .boolean (0 : Int32)))) (fun h => by rw [Bd.returns] at h; cases h)
  refine ⟨_, _, k4 _ ?_, hrun5, hended5, _, _, rfl, ?_, ⟨_, rfl⟩, hW5, hsame5.mono (by decide) (by decide)⟩
  · exact retN X2 hx (t := .boolean) Bd.returns (by simp) (hb hby d3_15) hr5
  · show Q_rm_eqStr Z a b h0 n0 _ T2.heap _
    rw [e2]
    exact ⟨rfl, N0, rfl⟩
theorem ef_rm_eqPos (m : MethodId) (x0 : Addr) (x1 : Addr) : entryFrame m #[(.ref x0), (.ref x1)] 3 = mkF m 0 #[.val (.ref x0), .val (.ref x1), .unset] [] := by first | (simp [entryFrame, mkF, argsToLocals, Value.category]; done) | rfl
def Q_rm_eqPos (Z : State) (a : Addr) (b : Addr) (x : Int32) (x' : Int32) (z : Int32) (z' : Int32) (h0 : Heap) (n0 : Nat) (v : Option Value) (h : Heap) (L : List Loc) : Prop := (v = some (.int (own_b (x = z ∧ x' = z')))) ∧ (Fr n0 L) ∧ (h = h0)
theorem d3_16 : decode prog_74_method_5_code 16 = .ok (.aload_n 1, 1) := by decide +kernel
theorem d3_17 : decode prog_74_method_5_code 17 = .ok (.checkcast 8, 3) := by decide +kernel
theorem d3_20 : decode prog_74_method_5_code 20 = .ok (.astore_n 2, 1) := by decide +kernel
theorem d3_21 : decode prog_74_method_5_code 21 = .ok (.aload_n 0, 1) := by decide +kernel
theorem d3_22 : decode prog_74_method_5_code 22 = .ok (.getfield 7, 3) := by decide +kernel
theorem d3_25 : decode prog_74_method_5_code 25 = .ok (.aload_n 2, 1) := by decide +kernel
theorem d3_26 : decode prog_74_method_5_code 26 = .ok (.getfield 7, 3) := by decide +kernel
theorem d3_29 : decode prog_74_method_5_code 29 = .ok (.if_icmp .ne 18, 3) := by decide +kernel
theorem d3_32 : decode prog_74_method_5_code 32 = .ok (.aload_n 0, 1) := by decide +kernel
theorem d3_33 : decode prog_74_method_5_code 33 = .ok (.getfield 13, 3) := by decide +kernel
theorem d3_36 : decode prog_74_method_5_code 36 = .ok (.aload_n 2, 1) := by decide +kernel
theorem d3_37 : decode prog_74_method_5_code 37 = .ok (.getfield 13, 3) := by decide +kernel
theorem d3_40 : decode prog_74_method_5_code 40 = .ok (.if_icmp .ne 7, 3) := by decide +kernel
theorem d3_43 : decode prog_74_method_5_code 43 = .ok (.iconst 1, 1) := by decide +kernel
theorem d3_44 : decode prog_74_method_5_code 44 = .ok (.goto 4, 3) := by decide +kernel
theorem d3_48 : decode prog_74_method_5_code 48 = .ok (.ireturn, 1) := by decide +kernel
theorem d3_47 : decode prog_74_method_5_code 47 = .ok (.iconst 0, 1) := by decide +kernel
set_option maxRecDepth 65536 in
set_option maxHeartbeats 40000000 in
theorem rm_eqPos (l : Launch) (Z : State) (a0 : Array Value) (hw : ∀ d ∈ tables_1, d.before a0 Z = true) (ws : List Jvm.Cond) (a : Addr) (b : Addr) (x : Int32) (x' : Int32) (z : Int32) (z' : Int32) (h0 : Heap) (n0 : Nat) (Z0 : n0 ≤ h0.size) (E_b : Exa Z h0 b "com/example/probabilistic_event_models/probabilisticeventmodels/model/SourcePosition") (hab : a ≠ b) (F_1 : Fld Z h0 a "com/example/probabilistic_event_models/probabilisticeventmodels/model/SourcePosition" "line" "I" (.int x)) (F_2 : Fld Z h0 a "com/example/probabilistic_event_models/probabilisticeventmodels/model/SourcePosition" "column" "I" (.int x')) (F_3 : Fld Z h0 b "com/example/probabilistic_event_models/probabilisticeventmodels/model/SourcePosition" "line" "I" (.int z)) (F_4 : Fld Z h0 b "com/example/probabilistic_event_models/probabilisticeventmodels/model/SourcePosition" "column" "I" (.int z')) :
    Con l Z (⟨"com/example/probabilistic_event_models/probabilisticeventmodels/model/SourcePosition", "equals", "(Ljava/lang/Object;)Z"⟩ : MethodName) prog_74_method_5_code 3 (some .boolean) ws ({ frames := 0, cells := 0, slots := 0, locals := 0 } : Room) #[(.ref a), (.ref b)] h0 (Q_rm_eqPos Z a b x x' z z' h0 n0) := by
  refine MetFree.of_bodySF (plainFor_of_name pn_SourcePosition) hisR ?_
  intro p e s m args below meth c s₁ Bd hml0 hP hK
  obtain ⟨rfl, hZ, hh⟩ := hP
  have hx := Bd.exec
  have hby := Bd.bytes
  have hml : c.maxLocals = 3 := hml0
  have hown : s.vm.findClass "com/example/probabilistic_event_models/probabilisticeventmodels/model/SourcePosition" = some m.cls := findClass_of_methodNamed Bd.named
  have hnm := (name_of_methodNamed Bd.named Bd.method).1
  have X0 : Stand p l e ({ frames := 0, cells := 0, slots := 0, locals := 0 } : Room) s m #[(.ref a), (.ref b)] below meth c s₁ [] 0 0 := Stand.of_body Bd
  have e0 : s₁.heap = h0 := by rw [← hh, Bd.state]; rfl
  have N0 := Fr.nil n0
  have k0 : Rch p e below (s₁.setTop (entryFrame m #[(.ref a), (.ref b)] 3)) s₁ (mkF m 0 #[.val (.ref a), .val (.ref b), .unset] []) := fun tg kg => castTop (ef_rm_eqPos m a b) kg
  have lt_E_b := E_b.lt
  have lt_F_1 := F_1.lt
  have lt_F_2 := F_2.lt
  have lt_F_3 := F_3.lt
  have lt_F_4 := F_4.lt
  have k1 : Rch p e below (s₁.setTop (entryFrame m #[(.ref a), (.ref b)] 3)) s₁ (mkF m 8 #[.val (.ref a), .val (.ref b), .unset] [(.ref b)]) := fun tg kg => by
    refine k0 tg ?_
    show Steps p.tables e below (s₁.setTop (mkF m 0 #[.val (.ref a), .val (.ref b), .unset] [])) tg
    refine XS.aloadN X0.here hx rfl (hb hby d3_0) rfl rfl ?_
    show Steps p.tables e below (s₁.setTop (mkF m 1 #[.val (.ref a), .val (.ref b), .unset] [(.ref a)])) tg
    refine XS.aloadN X0.here hx rfl (hb hby d3_1) rfl rfl ?_
    show Steps p.tables e below (s₁.setTop (mkF m 2 #[.val (.ref a), .val (.ref b), .unset] [(.ref b), (.ref a)])) tg
    refine Jvm.RoadKit.acmp (g := (mkF m 2 #[.val (.ref a), .val (.ref b), .unset] [(.ref b), (.ref a)])) X0 hx rfl rfl rfl (pc0 := 2) (pc' := 7) (same := false) rfl (hb hby d3_2) rfl (decide_eq_false fun q => hab (Value.ref.inj q)) (by decide) (by decide) ?_
    show Steps p.tables e below (s₁.setTop (mkF m 7 #[.val (.ref a), .val (.ref b), .unset] [])) tg
    refine XS.aloadN X0.here hx rfl (hb hby d3_7) rfl rfl ?_
    exact kg
  obtain ⟨T2, X2, e2, st2⟩ := instY X0 hx hZ hown (hw _ (List.mem_of_getElem? (i := 18) rfl)) e0 (Ins.self E_b) (g := (mkF m 8 #[.val (.ref a), .val (.ref b), .unset] [(.ref b)])) rfl rfl (hb hby d3_8)
  have k3 : Rch p e below (s₁.setTop (entryFrame m #[(.ref a), (.ref b)] 3)) T2 (mkF m 11 #[.val (.ref a), .val (.ref b), .unset] [(.int (1 : Int32))]) := fun tg kg => k1 tg (st2 tg kg)
  have k4 : Rch p e below (s₁.setTop (entryFrame m #[(.ref a), (.ref b)] 3)) T2 (mkF m 17 #[.val (.ref a), .val (.ref b), .unset] [(.ref b)]) := fun tg kg => by
    refine k3 tg ?_
    show Steps p.tables e below (T2.setTop (mkF m 11 #[.val (.ref a), .val (.ref b), .unset] [(.int (1 : Int32))])) tg
    refine XS.ifYes X2.here hx rfl (pc0 := 11) (pc' := 16) rfl (hb hby d3_11) rfl ((if0 _ _).trans (feq (by decide)).2) (by decide) (by decide) ?_
    show Steps p.tables e below (T2.setTop (mkF m 16 #[.val (.ref a), .val (.ref b), .unset] [])) tg
    refine XS.aloadN X2.here hx rfl (hb hby d3_16) rfl rfl ?_
    exact kg
  obtain ⟨T5, X5, e5, st5⟩ := castY X2 hx hZ hown (hw _ (List.mem_of_getElem? (i := 18) rfl)) e2 (Ins.self E_b) (g := (mkF m 17 #[.val (.ref a), .val (.ref b), .unset] [(.ref b)])) rfl rfl (hb hby d3_17)
  have k6 : Rch p e below (s₁.setTop (entryFrame m #[(.ref a), (.ref b)] 3)) T5 (mkF m 20 #[.val (.ref a), .val (.ref b), .unset] [(.ref b)]) := fun tg kg => k4 tg (st5 tg kg)
  have k7 : Rch p e below (s₁.setTop (entryFrame m #[(.ref a), (.ref b)] 3)) T5 (mkF m 22 #[.val (.ref a), .val (.ref b), .val (.ref b)] [(.ref a)]) := fun tg kg => by
    refine k6 tg ?_
    show Steps p.tables e below (T5.setTop (mkF m 20 #[.val (.ref a), .val (.ref b), .unset] [(.ref b)])) tg
    refine XS.astoreN X5.here hx rfl (hb hby d3_20) rfl rfl (l' := #[.val (.ref a), .val (.ref b), .val (.ref b)]) rfl ?_
    show Steps p.tables e below (T5.setTop (mkF m 21 #[.val (.ref a), .val (.ref b), .val (.ref b)] [])) tg
    refine XS.aloadN X5.here hx rfl (hb hby d3_21) rfl rfl ?_
    exact kg
  obtain ⟨T8, X8, e8, st8⟩ := getF X5 hx hZ hown (host := "") (Or.inl (hw _ (List.mem_of_getElem? (i := 9) rfl))) Via.refl e5 F_1 (g := (mkF m 22 #[.val (.ref a), .val (.ref b), .val (.ref b)] [(.ref a)])) rfl rfl (hb hby d3_22)
  have k9 : Rch p e below (s₁.setTop (entryFrame m #[(.ref a), (.ref b)] 3)) T8 (mkF m 25 #[.val (.ref a), .val (.ref b), .val (.ref b)] [(.int x)]) := fun tg kg => k7 tg (st8 tg kg)
  have k10 : Rch p e below (s₁.setTop (entryFrame m #[(.ref a), (.ref b)] 3)) T8 (mkF m 26 #[.val (.ref a), .val (.ref b), .val (.ref b)] [(.ref b), (.int x)]) := fun tg kg => by
    refine k9 tg ?_
    show Steps p.tables e below (T8.setTop (mkF m 25 #[.val (.ref a), .val (.ref b), .val (.ref b)] [(.int x)])) tg
    refine XS.aloadN X8.here hx rfl (hb hby d3_25) rfl rfl ?_
    exact kg
  obtain ⟨T11, X11, e11, st11⟩ := getF X8 hx hZ hown (host := "") (Or.inl (hw _ (List.mem_of_getElem? (i := 9) rfl))) Via.refl e8 F_3 (g := (mkF m 26 #[.val (.ref a), .val (.ref b), .val (.ref b)] [(.ref b), (.int x)])) rfl rfl (hb hby d3_26)
  have k12 : Rch p e below (s₁.setTop (entryFrame m #[(.ref a), (.ref b)] 3)) T11 (mkF m 29 #[.val (.ref a), .val (.ref b), .val (.ref b)] [(.int z), (.int x)]) := fun tg kg => k10 tg (st11 tg kg)
  by_cases hc29_13 : x = z
  · have k14 : Rch p e below (s₁.setTop (entryFrame m #[(.ref a), (.ref b)] 3)) T11 (mkF m 33 #[.val (.ref a), .val (.ref b), .val (.ref b)] [(.ref a)]) := fun tg kg => by
      refine k12 tg ?_
      show Steps p.tables e below (T11.setTop (mkF m 29 #[.val (.ref a), .val (.ref b), .val (.ref b)] [(.int z), (.int x)])) tg
      refine XS.icmpNo X11.here hx rfl (hb hby d3_29) rfl (teq hc29_13).2 ?_
      show Steps p.tables e below (T11.setTop (mkF m 32 #[.val (.ref a), .val (.ref b), .val (.ref b)] [])) tg
      refine XS.aloadN X11.here hx rfl (hb hby d3_32) rfl rfl ?_
      exact kg
    obtain ⟨T15, X15, e15, st15⟩ := getF X11 hx hZ hown (host := "") (Or.inl (hw _ (List.mem_of_getElem? (i := 11) rfl))) Via.refl e11 F_2 (g := (mkF m 33 #[.val (.ref a), .val (.ref b), .val (.ref b)] [(.ref a)])) rfl rfl (hb hby d3_33)
    have k16 : Rch p e below (s₁.setTop (entryFrame m #[(.ref a), (.ref b)] 3)) T15 (mkF m 36 #[.val (.ref a), .val (.ref b), .val (.ref b)] [(.int x')]) := fun tg kg => k14 tg (st15 tg kg)
    have k17 : Rch p e below (s₁.setTop (entryFrame m #[(.ref a), (.ref b)] 3)) T15 (mkF m 37 #[.val (.ref a), .val (.ref b), .val (.ref b)] [(.ref b), (.int x')]) := fun tg kg => by
      refine k16 tg ?_
      show Steps p.tables e below (T15.setTop (mkF m 36 #[.val (.ref a), .val (.ref b), .val (.ref b)] [(.int x')])) tg
      refine XS.aloadN X15.here hx rfl (hb hby d3_36) rfl rfl ?_
      exact kg
    obtain ⟨T18, X18, e18, st18⟩ := getF X15 hx hZ hown (host := "") (Or.inl (hw _ (List.mem_of_getElem? (i := 11) rfl))) Via.refl e15 F_4 (g := (mkF m 37 #[.val (.ref a), .val (.ref b), .val (.ref b)] [(.ref b), (.int x')])) rfl rfl (hb hby d3_37)
    have k19 : Rch p e below (s₁.setTop (entryFrame m #[(.ref a), (.ref b)] 3)) T18 (mkF m 40 #[.val (.ref a), .val (.ref b), .val (.ref b)] [(.int z'), (.int x')]) := fun tg kg => k17 tg (st18 tg kg)
    by_cases hc40_20 : x' = z'
    · have k21 : Rch p e below (s₁.setTop (entryFrame m #[(.ref a), (.ref b)] 3)) T18 (mkF m 48 #[.val (.ref a), .val (.ref b), .val (.ref b)] [(.int (1 : Int32))]) := fun tg kg => by
        refine k19 tg ?_
        show Steps p.tables e below (T18.setTop (mkF m 40 #[.val (.ref a), .val (.ref b), .val (.ref b)] [(.int z'), (.int x')])) tg
        refine XS.icmpNo X18.here hx rfl (hb hby d3_40) rfl (teq hc40_20).2 ?_
        show Steps p.tables e below (T18.setTop (mkF m 43 #[.val (.ref a), .val (.ref b), .val (.ref b)] [])) tg
        refine XS.iconst X18.here hx rfl (hb hby d3_43) ?_
        show Steps p.tables e below (T18.setTop (mkF m 44 #[.val (.ref a), .val (.ref b), .val (.ref b)] [(.int (1 : Int32))])) tg
        refine XS.goto X18.here hx rfl (pc0 := 44) (pc' := 48) rfl (hb hby d3_44) (by decide) (by decide) ?_
        exact kg
      obtain ⟨fs22, hr22, hrun22, hended22, hW22, hsame22⟩ := X18.leave (v := some (.int (nar .boolean (1 : Int32)))) (fun h => by rw [Bd.returns] at h; cases h)
      refine ⟨_, _, k21 _ ?_, hrun22, hended22, _, _, rfl, ?_, ⟨_, rfl⟩, hW22, hsame22.mono (by decide) (by decide)⟩
      · exact retN X18 hx (t := .boolean) Bd.returns (by simp) (hb hby d3_48) hr22
      · show Q_rm_eqPos Z a b x x' z z' h0 n0 _ T18.heap _
        rw [e18]
        exact ⟨(by rw [own_bT ⟨hc29_13, hc40_20⟩]; rfl), N0, rfl⟩
    · have k23 : Rch p e below (s₁.setTop (entryFrame m #[(.ref a), (.ref b)] 3)) T18 (mkF m 48 #[.val (.ref a), .val (.ref b), .val (.ref b)] [(.int (0 : Int32))]) := fun tg kg => by
        refine k19 tg ?_
        show Steps p.tables e below (T18.setTop (mkF m 40 #[.val (.ref a), .val (.ref b), .val (.ref b)] [(.int z'), (.int x')])) tg
        refine XS.icmpYes X18.here hx rfl (pc0 := 40) (pc' := 47) rfl (hb hby d3_40) rfl (feq hc40_20).2 (by decide) (by decide) ?_
        show Steps p.tables e below (T18.setTop (mkF m 47 #[.val (.ref a), .val (.ref b), .val (.ref b)] [])) tg
        refine XS.iconst X18.here hx rfl (hb hby d3_47) ?_
        exact kg
      obtain ⟨fs24, hr24, hrun24, hended24, hW24, hsame24⟩ := X18.leave (v := some (.int (nar .boolean (0 : Int32)))) (fun h => by rw [Bd.returns] at h; cases h)
      refine ⟨_, _, k23 _ ?_, hrun24, hended24, _, _, rfl, ?_, ⟨_, rfl⟩, hW24, hsame24.mono (by decide) (by decide)⟩
      · exact retN X18 hx (t := .boolean) Bd.returns (by simp) (hb hby d3_48) hr24
      · show Q_rm_eqPos Z a b x x' z z' h0 n0 _ T18.heap _
        rw [e18]
        exact ⟨(by rw [own_bF (fun q => hc40_20 q.2)]; rfl), N0, rfl⟩
  · have k25 : Rch p e below (s₁.setTop (entryFrame m #[(.ref a), (.ref b)] 3)) T11 (mkF m 48 #[.val (.ref a), .val (.ref b), .val (.ref b)] [(.int (0 : Int32))]) := fun tg kg => by
      refine k12 tg ?_
      show Steps p.tables e below (T11.setTop (mkF m 29 #[.val (.ref a), .val (.ref b), .val (.ref b)] [(.int z), (.int x)])) tg
      refine XS.icmpYes X11.here hx rfl (pc0 := 29) (pc' := 47) rfl (hb hby d3_29) rfl (feq hc29_13).2 (by decide) (by decide) ?_
      show Steps p.tables e below (T11.setTop (mkF m 47 #[.val (.ref a), .val (.ref b), .val (.ref b)] [])) tg
      refine XS.iconst X11.here hx rfl (hb hby d3_47) ?_
      exact kg
    obtain ⟨fs26, hr26, hrun26, hended26, hW26, hsame26⟩ := X11.leave (v := some (.int (nar .boolean (0 : Int32)))) (fun h => by rw [Bd.returns] at h; cases h)
    refine ⟨_, _, k25 _ ?_, hrun26, hended26, _, _, rfl, ?_, ⟨_, rfl⟩, hW26, hsame26.mono (by decide) (by decide)⟩
    · exact retN X11 hx (t := .boolean) Bd.returns (by simp) (hb hby d3_48) hr26
    · show Q_rm_eqPos Z a b x x' z z' h0 n0 _ T11.heap _
      rw [e11]
      exact ⟨(by rw [own_bF (fun q => hc29_13 q.1)]; rfl), N0, rfl⟩
theorem pn_SourcePositionEqualsPinLaw : plainName "com/example/probabilistic_event_models/probabilisticeventmodels/model/SourcePositionEqualsPinLaw" = true := by first | (simp [plainName, overriddenIn]; done) | decide +kernel
theorem ef_rm0 (m : MethodId) (x0 : Int32) (x1 : Int32) (x2 : Int32) (x3 : Int32) (x4 : Int32) : entryFrame m #[(.int x0), (.int x1), (.int x2), (.int x3), (.int x4)] maxLocals = mkF m 0 #[.val (.int x0), .val (.int x1), .val (.int x2), .val (.int x3), .val (.int x4), .unset, .unset, .unset, .unset, .unset, .unset, .unset] [] := by first | (simp [entryFrame, mkF, argsToLocals, Value.category, maxLocals]; done) | rfl
def Q_rm0 (Z : State) (i1 : Int32) (i2 : Int32) (i3 : Int32) (i4 : Int32) (i5 : Int32) (cs : Int32) (h0 : Heap) (n0 : Nat) (v : Option Value) (h : Heap) (L : List Loc) : Prop := (v = some (.int 1)) ∧ (Fr n0 L)
theorem pd_3 : parseMethodDescriptor "(II)V" = some ⟨[.int, .int], none⟩ := by decide +kernel
theorem pd_4 : parseMethodDescriptor "(Ljava/lang/Object;)Z" = some ⟨[(.object "java/lang/Object")], some .boolean⟩ := by decide +kernel
theorem pd_5 : parseMethodDescriptor "(C)Ljava/lang/String;" = some ⟨[.char], some (.object "java/lang/String")⟩ := by decide +kernel
set_option maxRecDepth 65536 in
set_option maxHeartbeats 40000000 in
theorem rm0 (l : Launch) (Z : State) (a0 : Array Value) (hw : ∀ d ∈ tables_1, d.before a0 Z = true) (ws : List Jvm.Cond) (i1 : Int32) (i2 : Int32) (i3 : Int32) (i4 : Int32) (i5 : Int32) (cs : Int32) (h0 : Heap) (n0 : Nat) (Z0 : n0 ≤ h0.size) (S_cs : Sta Z Z.heap "java/lang/String" "COMPACT_STRINGS" "Z" (.int cs)) (OL : Old Z n0 h0) (hcs : ¬ (cs = (0 : Int32))) :
    Con l Z x code maxLocals ret ws room_1 #[(.int i1), (.int i2), (.int i3), (.int i4), (.int i5)] h0 (Q_rm0 Z i1 i2 i3 i4 i5 cs h0 n0) := by
  refine MetFree.of_bodySF (plainFor_of_name pn_SourcePositionEqualsPinLaw) hisR ?_
  intro p e s m args below meth c s₁ Bd hml0 hP hK
  obtain ⟨rfl, hZ, hh⟩ := hP
  have hx := Bd.exec
  have hby := Bd.bytes
  have hml : c.maxLocals = 12 := hml0
  have hown : s.vm.findClass "com/example/probabilistic_event_models/probabilisticeventmodels/model/SourcePositionEqualsPinLaw" = some m.cls := findClass_of_methodNamed Bd.named
  have hnm := (name_of_methodNamed Bd.named Bd.method).1
  have X0 : Stand p l e room_1 s m #[(.int i1), (.int i2), (.int i3), (.int i4), (.int i5)] below meth c s₁ [] 0 0 := Stand.of_body Bd
  have e0 : s₁.heap = h0 := by rw [← hh, Bd.state]; rfl
  have N0 := Fr.nil n0
  have k0 : Rch p e below (s₁.setTop (entryFrame m #[(.int i1), (.int i2), (.int i3), (.int i4), (.int i5)] maxLocals)) s₁ (mkF m 0 #[.val (.int i1), .val (.int i2), .val (.int i3), .val (.int i4), .val (.int i5), .unset, .unset, .unset, .unset, .unset, .unset, .unset] []) := fun tg kg => castTop (ef_rm0 m i1 i2 i3 i4 i5) kg
  obtain ⟨T1, h1, X1, e1, E1, A1, D1, -, st1⟩ := newO X0 hx hZ hown (hw _ (List.mem_of_getElem? (i := 0) rfl)) (hw _ (List.mem_of_getElem? (i := 1) rfl)) (hw _ (List.mem_of_getElem? (i := 2) rfl)) e0 (g := (mkF m 0 #[.val (.int i1), .val (.int i2), .val (.int i3), .val (.int i4), .val (.int i5), .unset, .unset, .unset, .unset, .unset, .unset, .unset] [])) rfl (hb hby at_0) (by decide) (by decide)
  obtain ⟨b1, g1⟩ : ∃ z, z = h0.size := ⟨_, rfl⟩
  rw [← g1] at A1 D1 st1
  have s1 : h0.size ≤ h1.size := E1.1
  have lt1 : b1 < h1.size := A1.lt
  have k2 : Rch p e below (s₁.setTop (entryFrame m #[(.int i1), (.int i2), (.int i3), (.int i4), (.int i5)] maxLocals)) T1 (mkF m 3 #[.val (.int i1), .val (.int i2), .val (.int i3), .val (.int i4), .val (.int i5), .unset, .unset, .unset, .unset, .unset, .unset, .unset] [(.ref b1)]) := fun tg kg => k0 tg (st1 tg kg)
  have F1_line : Fld Z h1 b1 "com/example/probabilistic_event_models/probabilisticeventmodels/model/SourcePosition" "line" "I" (.int (0 : Int32)) := D1 (Or.inr (hw _ (List.mem_of_getElem? (i := 10) rfl))) (ty := .int) (by decide)
  have F1_column : Fld Z h1 b1 "com/example/probabilistic_event_models/probabilisticeventmodels/model/SourcePosition" "column" "I" (.int (0 : Int32)) := D1 (Or.inr (hw _ (List.mem_of_getElem? (i := 12) rfl))) (ty := .int) (by decide)
  have k3 : Rch p e below (s₁.setTop (entryFrame m #[(.int i1), (.int i2), (.int i3), (.int i4), (.int i5)] maxLocals)) T1 (mkF m 6 #[.val (.int i1), .val (.int i2), .val (.int i3), .val (.int i4), .val (.int i5), .unset, .unset, .unset, .unset, .unset, .unset, .unset] [(.int i2), (.int i1), (.ref b1), (.ref b1)]) := fun tg kg => by
    refine k2 tg ?_
    show Steps p.tables e below (T1.setTop (mkF m 3 #[.val (.int i1), .val (.int i2), .val (.int i3), .val (.int i4), .val (.int i5), .unset, .unset, .unset, .unset, .unset, .unset, .unset] [(.ref b1)])) tg
    refine XS.dup X1.here hx rfl (hb hby at_3) rfl rfl ?_
    show Steps p.tables e below (T1.setTop (mkF m 4 #[.val (.int i1), .val (.int i2), .val (.int i3), .val (.int i4), .val (.int i5), .unset, .unset, .unset, .unset, .unset, .unset, .unset] [(.ref b1), (.ref b1)])) tg
    refine XS.iloadN X1.here hx rfl (hb hby at_4) rfl ?_
    show Steps p.tables e below (T1.setTop (mkF m 5 #[.val (.int i1), .val (.int i2), .val (.int i3), .val (.int i4), .val (.int i5), .unset, .unset, .unset, .unset, .unset, .unset, .unset] [(.int i1), (.ref b1), (.ref b1)])) tg
    refine XS.iloadN X1.here hx rfl (hb hby at_5) rfl ?_
    exact kg
  obtain ⟨v4, T4, h4, Lc4, X4, e4, hQ4, st4⟩ := own_callC X1 hx hZ rfl hown (hw _ (List.mem_of_getElem? (i := 3) rfl)) (hw _ (List.mem_of_getElem? (i := 4) rfl)) (hw _ (List.mem_of_getElem? (i := 2) rfl)) (hw _ (List.mem_of_getElem? (i := 5) rfl)) (by decide) (rm_init l Z a0 hw [] b1 i1 i2 (.int (0 : Int32)) (.int (0 : Int32)) h1 n0 (by omega) A1 F1_line F1_column (by omega)) e1 (a := b1) (g := (mkF m 6 #[.val (.int i1), .val (.int i2), .val (.int i3), .val (.int i4), .val (.int i5), .unset, .unset, .unset, .unset, .unset, .unset, .unset] [(.int i2), (.int i1), (.ref b1), (.ref b1)])) rfl (by rw [hml]; rfl) (argsL := [(.int i1), (.int i2)]) (rest := [(.ref b1)]) rfl (lenOf pd_3 rfl) rfl (W := 1) (by show 2 * 0 + _ ≤ _; exact Nat.le_of_eq rfl) (hb hby at_6) (by decide) (by decide) (by decide) (by decide)
  obtain ⟨rfl, Nq4, K4, fq4_3, fq4_4, fq4_5⟩ := hQ4
  have N4 := Fr.app N0 Nq4
  have s4 : h1.size ≤ h4.size := K4.1
  have k5 : Rch p e below (s₁.setTop (entryFrame m #[(.int i1), (.int i2), (.int i3), (.int i4), (.int i5)] maxLocals)) T4 (mkF m 9 #[.val (.int i1), .val (.int i2), .val (.int i3), .val (.int i4), .val (.int i5), .unset, .unset, .unset, .unset, .unset, .unset, .unset] [(.ref b1)]) := fun tg kg => k3 tg (st4 tg kg)
  have lt_fq4_3 := fq4_3.lt
  have lt_fq4_4 := fq4_4.lt
  have lt_fq4_5 := fq4_5.lt
  have k6 : Rch p e below (s₁.setTop (entryFrame m #[(.int i1), (.int i2), (.int i3), (.int i4), (.int i5)] maxLocals)) T4 (mkF m 17 #[.val (.int i1), .val (.int i2), .val (.int i3), .val (.int i4), .val (.int i5), .val (.ref b1), .val (.int (i5 &&& (3 : Int32))), .unset, .unset, .unset, .unset, .unset] []) := fun tg kg => by
    refine k5 tg ?_
    show Steps p.tables e below (T4.setTop (mkF m 9 #[.val (.int i1), .val (.int i2), .val (.int i3), .val (.int i4), .val (.int i5), .unset, .unset, .unset, .unset, .unset, .unset, .unset] [(.ref b1)])) tg
    refine XS.astore X4.here hx rfl (hb hby at_9) rfl rfl (l' := #[.val (.int i1), .val (.int i2), .val (.int i3), .val (.int i4), .val (.int i5), .val (.ref b1), .unset, .unset, .unset, .unset, .unset, .unset]) rfl ?_
    show Steps p.tables e below (T4.setTop (mkF m 11 #[.val (.int i1), .val (.int i2), .val (.int i3), .val (.int i4), .val (.int i5), .val (.ref b1), .unset, .unset, .unset, .unset, .unset, .unset] [])) tg
    refine XS.iload X4.here hx rfl (hb hby at_11) rfl ?_
    show Steps p.tables e below (T4.setTop (mkF m 13 #[.val (.int i1), .val (.int i2), .val (.int i3), .val (.int i4), .val (.int i5), .val (.ref b1), .unset, .unset, .unset, .unset, .unset, .unset] [(.int i5)])) tg
    refine XS.iconst X4.here hx rfl (hb hby at_13) ?_
    show Steps p.tables e below (T4.setTop (mkF m 14 #[.val (.int i1), .val (.int i2), .val (.int i3), .val (.int i4), .val (.int i5), .val (.ref b1), .unset, .unset, .unset, .unset, .unset, .unset] [(.int (3 : Int32)), (.int i5)])) tg
    refine XS.iand X4.here hx rfl (hb hby at_14) rfl ?_
    show Steps p.tables e below (T4.setTop (mkF m 15 #[.val (.int i1), .val (.int i2), .val (.int i3), .val (.int i4), .val (.int i5), .val (.ref b1), .unset, .unset, .unset, .unset, .unset, .unset] [(.int (i5 &&& (3 : Int32)))])) tg
    refine XS.istore X4.here hx rfl (hb hby at_15) rfl (l' := #[.val (.int i1), .val (.int i2), .val (.int i3), .val (.int i4), .val (.int i5), .val (.ref b1), .val (.int (i5 &&& (3 : Int32))), .unset, .unset, .unset, .unset, .unset]) rfl ?_
    exact kg
  obtain ⟨n7, hn7, k8⟩ : ∃ n7 : Int32, n7 = (i5 &&& (3 : Int32)) ∧ Rch p e below (s₁.setTop (entryFrame m #[(.int i1), (.int i2), (.int i3), (.int i4), (.int i5)] maxLocals)) T4 (mkF m 17 #[.val (.int i1), .val (.int i2), .val (.int i3), .val (.int i4), .val (.int i5), .val (.ref b1), .val (.int n7), .unset, .unset, .unset, .unset, .unset] []) := ⟨_, rfl, k6⟩
  have k9 : Rch p e below (s₁.setTop (entryFrame m #[(.int i1), (.int i2), (.int i3), (.int i4), (.int i5)] maxLocals)) T4 (mkF m 21 #[.val (.int i1), .val (.int i2), .val (.int i3), .val (.int i4), .val (.int i5), .val (.ref b1), .val (.int n7), .unset, .unset, .unset, .unset, .unset] [(.int (i5 &&& (4 : Int32)))]) := fun tg kg => by
    refine k8 tg ?_
    show Steps p.tables e below (T4.setTop (mkF m 17 #[.val (.int i1), .val (.int i2), .val (.int i3), .val (.int i4), .val (.int i5), .val (.ref b1), .val (.int n7), .unset, .unset, .unset, .unset, .unset] [])) tg
    refine XS.iload X4.here hx rfl (hb hby at_17) rfl ?_
    show Steps p.tables e below (T4.setTop (mkF m 19 #[.val (.int i1), .val (.int i2), .val (.int i3), .val (.int i4), .val (.int i5), .val (.ref b1), .val (.int n7), .unset, .unset, .unset, .unset, .unset] [(.int i5)])) tg
    refine XS.iconst X4.here hx rfl (hb hby at_19) ?_
    show Steps p.tables e below (T4.setTop (mkF m 20 #[.val (.int i1), .val (.int i2), .val (.int i3), .val (.int i4), .val (.int i5), .val (.ref b1), .val (.int n7), .unset, .unset, .unset, .unset, .unset] [(.int (4 : Int32)), (.int i5)])) tg
    refine XS.iand X4.here hx rfl (hb hby at_20) rfl ?_
    exact kg
  obtain ⟨lb, ht_lb, k10⟩ : ∃ (lb : Int32), (True) ∧ Rch p e below (s₁.setTop (entryFrame m #[(.int i1), (.int i2), (.int i3), (.int i4), (.int i5)] maxLocals)) T4 (mkF m 31 #[.val (.int i1), .val (.int i2), .val (.int i3), .val (.int i4), .val (.int i5), .val (.ref b1), .val (.int n7), .val (.int lb), .unset, .unset, .unset, .unset] []) := by
    by_cases hc21_11 : (i5 &&& (4 : Int32)) = (0 : Int32)
    · have k12 : Rch p e below (s₁.setTop (entryFrame m #[(.int i1), (.int i2), (.int i3), (.int i4), (.int i5)] maxLocals)) T4 (mkF m 31 #[.val (.int i1), .val (.int i2), .val (.int i3), .val (.int i4), .val (.int i5), .val (.ref b1), .val (.int n7), .val (.int i3), .unset, .unset, .unset, .unset] []) := fun tg kg => by
        refine k9 tg ?_
        show Steps p.tables e below (T4.setTop (mkF m 21 #[.val (.int i1), .val (.int i2), .val (.int i3), .val (.int i4), .val (.int i5), .val (.ref b1), .val (.int n7), .unset, .unset, .unset, .unset, .unset] [(.int (i5 &&& (4 : Int32)))])) tg
        refine XS.ifYes X4.here hx rfl (pc0 := 21) (pc' := 28) rfl (hb hby at_21) rfl ((if0 _ _).trans (teq hc21_11).1) (by decide) (by decide) ?_
        show Steps p.tables e below (T4.setTop (mkF m 28 #[.val (.int i1), .val (.int i2), .val (.int i3), .val (.int i4), .val (.int i5), .val (.ref b1), .val (.int n7), .unset, .unset, .unset, .unset, .unset] [])) tg
        refine XS.iloadN X4.here hx rfl (hb hby at_28) rfl ?_
        show Steps p.tables e below (T4.setTop (mkF m 29 #[.val (.int i1), .val (.int i2), .val (.int i3), .val (.int i4), .val (.int i5), .val (.ref b1), .val (.int n7), .unset, .unset, .unset, .unset, .unset] [(.int i3)])) tg
        refine XS.istore X4.here hx rfl (hb hby at_29) rfl (l' := #[.val (.int i1), .val (.int i2), .val (.int i3), .val (.int i4), .val (.int i5), .val (.ref b1), .val (.int n7), .val (.int i3), .unset, .unset, .unset, .unset]) rfl ?_
        exact kg
      exact ⟨_, trivial, k12⟩
    · have k13 : Rch p e below (s₁.setTop (entryFrame m #[(.int i1), (.int i2), (.int i3), (.int i4), (.int i5)] maxLocals)) T4 (mkF m 31 #[.val (.int i1), .val (.int i2), .val (.int i3), .val (.int i4), .val (.int i5), .val (.ref b1), .val (.int n7), .val (.int i1), .unset, .unset, .unset, .unset] []) := fun tg kg => by
        refine k9 tg ?_
        show Steps p.tables e below (T4.setTop (mkF m 21 #[.val (.int i1), .val (.int i2), .val (.int i3), .val (.int i4), .val (.int i5), .val (.ref b1), .val (.int n7), .unset, .unset, .unset, .unset, .unset] [(.int (i5 &&& (4 : Int32)))])) tg
        refine XS.ifNo X4.here hx rfl (hb hby at_21) rfl ((if0 _ _).trans (feq hc21_11).1) ?_
        show Steps p.tables e below (T4.setTop (mkF m 24 #[.val (.int i1), .val (.int i2), .val (.int i3), .val (.int i4), .val (.int i5), .val (.ref b1), .val (.int n7), .unset, .unset, .unset, .unset, .unset] [])) tg
        refine XS.iloadN X4.here hx rfl (hb hby at_24) rfl ?_
        show Steps p.tables e below (T4.setTop (mkF m 25 #[.val (.int i1), .val (.int i2), .val (.int i3), .val (.int i4), .val (.int i5), .val (.ref b1), .val (.int n7), .unset, .unset, .unset, .unset, .unset] [(.int i1)])) tg
        refine XS.goto X4.here hx rfl (pc0 := 25) (pc' := 29) rfl (hb hby at_25) (by decide) (by decide) ?_
        show Steps p.tables e below (T4.setTop (mkF m 29 #[.val (.int i1), .val (.int i2), .val (.int i3), .val (.int i4), .val (.int i5), .val (.ref b1), .val (.int n7), .unset, .unset, .unset, .unset, .unset] [(.int i1)])) tg
        refine XS.istore X4.here hx rfl (hb hby at_29) rfl (l' := #[.val (.int i1), .val (.int i2), .val (.int i3), .val (.int i4), .val (.int i5), .val (.ref b1), .val (.int n7), .val (.int i1), .unset, .unset, .unset, .unset]) rfl ?_
        exact kg
      exact ⟨_, trivial, k13⟩
  have k14 : Rch p e below (s₁.setTop (entryFrame m #[(.int i1), (.int i2), (.int i3), (.int i4), (.int i5)] maxLocals)) T4 (mkF m 36 #[.val (.int i1), .val (.int i2), .val (.int i3), .val (.int i4), .val (.int i5), .val (.ref b1), .val (.int n7), .val (.int lb), .unset, .unset, .unset, .unset] [(.int (i5 &&& (8 : Int32)))]) := fun tg kg => by
    refine k10 tg ?_
    show Steps p.tables e below (T4.setTop (mkF m 31 #[.val (.int i1), .val (.int i2), .val (.int i3), .val (.int i4), .val (.int i5), .val (.ref b1), .val (.int n7), .val (.int lb), .unset, .unset, .unset, .unset] [])) tg
    refine XS.iload X4.here hx rfl (hb hby at_31) rfl ?_
    show Steps p.tables e below (T4.setTop (mkF m 33 #[.val (.int i1), .val (.int i2), .val (.int i3), .val (.int i4), .val (.int i5), .val (.ref b1), .val (.int n7), .val (.int lb), .unset, .unset, .unset, .unset] [(.int i5)])) tg
    refine XS.bipush X4.here hx rfl (hb hby at_33) ?_
    show Steps p.tables e below (T4.setTop (mkF m 35 #[.val (.int i1), .val (.int i2), .val (.int i3), .val (.int i4), .val (.int i5), .val (.ref b1), .val (.int n7), .val (.int lb), .unset, .unset, .unset, .unset] [(.int (8 : Int32)), (.int i5)])) tg
    refine XS.iand X4.here hx rfl (hb hby at_35) rfl ?_
    exact kg
  obtain ⟨cb, ht_cb, k15⟩ : ∃ (cb : Int32), (True) ∧ Rch p e below (s₁.setTop (entryFrame m #[(.int i1), (.int i2), (.int i3), (.int i4), (.int i5)] maxLocals)) T4 (mkF m 46 #[.val (.int i1), .val (.int i2), .val (.int i3), .val (.int i4), .val (.int i5), .val (.ref b1), .val (.int n7), .val (.int lb), .val (.int cb), .unset, .unset, .unset] []) := by
    by_cases hc36_16 : (i5 &&& (8 : Int32)) = (0 : Int32)
    · have k17 : Rch p e below (s₁.setTop (entryFrame m #[(.int i1), (.int i2), (.int i3), (.int i4), (.int i5)] maxLocals)) T4 (mkF m 46 #[.val (.int i1), .val (.int i2), .val (.int i3), .val (.int i4), .val (.int i5), .val (.ref b1), .val (.int n7), .val (.int lb), .val (.int i4), .unset, .unset, .unset] []) := fun tg kg => by
        refine k14 tg ?_
        show Steps p.tables e below (T4.setTop (mkF m 36 #[.val (.int i1), .val (.int i2), .val (.int i3), .val (.int i4), .val (.int i5), .val (.ref b1), .val (.int n7), .val (.int lb), .unset, .unset, .unset, .unset] [(.int (i5 &&& (8 : Int32)))])) tg
        refine XS.ifYes X4.here hx rfl (pc0 := 36) (pc' := 43) rfl (hb hby at_36) rfl ((if0 _ _).trans (teq hc36_16).1) (by decide) (by decide) ?_
        show Steps p.tables e below (T4.setTop (mkF m 43 #[.val (.int i1), .val (.int i2), .val (.int i3), .val (.int i4), .val (.int i5), .val (.ref b1), .val (.int n7), .val (.int lb), .unset, .unset, .unset, .unset] [])) tg
        refine XS.iloadN X4.here hx rfl (hb hby at_43) rfl ?_
        show Steps p.tables e below (T4.setTop (mkF m 44 #[.val (.int i1), .val (.int i2), .val (.int i3), .val (.int i4), .val (.int i5), .val (.ref b1), .val (.int n7), .val (.int lb), .unset, .unset, .unset, .unset] [(.int i4)])) tg
        refine XS.istore X4.here hx rfl (hb hby at_44) rfl (l' := #[.val (.int i1), .val (.int i2), .val (.int i3), .val (.int i4), .val (.int i5), .val (.ref b1), .val (.int n7), .val (.int lb), .val (.int i4), .unset, .unset, .unset]) rfl ?_
        exact kg
      exact ⟨_, trivial, k17⟩
    · have k18 : Rch p e below (s₁.setTop (entryFrame m #[(.int i1), (.int i2), (.int i3), (.int i4), (.int i5)] maxLocals)) T4 (mkF m 46 #[.val (.int i1), .val (.int i2), .val (.int i3), .val (.int i4), .val (.int i5), .val (.ref b1), .val (.int n7), .val (.int lb), .val (.int i2), .unset, .unset, .unset] []) := fun tg kg => by
        refine k14 tg ?_
        show Steps p.tables e below (T4.setTop (mkF m 36 #[.val (.int i1), .val (.int i2), .val (.int i3), .val (.int i4), .val (.int i5), .val (.ref b1), .val (.int n7), .val (.int lb), .unset, .unset, .unset, .unset] [(.int (i5 &&& (8 : Int32)))])) tg
        refine XS.ifNo X4.here hx rfl (hb hby at_36) rfl ((if0 _ _).trans (feq hc36_16).1) ?_
        show Steps p.tables e below (T4.setTop (mkF m 39 #[.val (.int i1), .val (.int i2), .val (.int i3), .val (.int i4), .val (.int i5), .val (.ref b1), .val (.int n7), .val (.int lb), .unset, .unset, .unset, .unset] [])) tg
        refine XS.iloadN X4.here hx rfl (hb hby at_39) rfl ?_
        show Steps p.tables e below (T4.setTop (mkF m 40 #[.val (.int i1), .val (.int i2), .val (.int i3), .val (.int i4), .val (.int i5), .val (.ref b1), .val (.int n7), .val (.int lb), .unset, .unset, .unset, .unset] [(.int i2)])) tg
        refine XS.goto X4.here hx rfl (pc0 := 40) (pc' := 44) rfl (hb hby at_40) (by decide) (by decide) ?_
        show Steps p.tables e below (T4.setTop (mkF m 44 #[.val (.int i1), .val (.int i2), .val (.int i3), .val (.int i4), .val (.int i5), .val (.ref b1), .val (.int n7), .val (.int lb), .unset, .unset, .unset, .unset] [(.int i2)])) tg
        refine XS.istore X4.here hx rfl (hb hby at_44) rfl (l' := #[.val (.int i1), .val (.int i2), .val (.int i3), .val (.int i4), .val (.int i5), .val (.ref b1), .val (.int n7), .val (.int lb), .val (.int i2), .unset, .unset, .unset]) rfl ?_
        exact kg
      exact ⟨_, trivial, k18⟩
  obtain ⟨T19, h19, X19, e19, E19, A19, D19, -, st19⟩ := newO X4 hx hZ hown (hw _ (List.mem_of_getElem? (i := 0) rfl)) (hw _ (List.mem_of_getElem? (i := 1) rfl)) (hw _ (List.mem_of_getElem? (i := 2) rfl)) e4 (g := (mkF m 46 #[.val (.int i1), .val (.int i2), .val (.int i3), .val (.int i4), .val (.int i5), .val (.ref b1), .val (.int n7), .val (.int lb), .val (.int cb), .unset, .unset, .unset] [])) rfl (hb hby at_46) (by decide) (by decide)
  obtain ⟨b19, g19⟩ : ∃ z, z = h4.size := ⟨_, rfl⟩
  rw [← g19] at A19 D19 st19
  have s19 : h4.size ≤ h19.size := E19.1
  have lt19 : b19 < h19.size := A19.lt
  have k20 : Rch p e below (s₁.setTop (entryFrame m #[(.int i1), (.int i2), (.int i3), (.int i4), (.int i5)] maxLocals)) T19 (mkF m 49 #[.val (.int i1), .val (.int i2), .val (.int i3), .val (.int i4), .val (.int i5), .val (.ref b1), .val (.int n7), .val (.int lb), .val (.int cb), .unset, .unset, .unset] [(.ref b19)]) := fun tg kg => k15 tg (st19 tg kg)
  have F19_line : Fld Z h19 b19 "com/example/probabilistic_event_models/probabilisticeventmodels/model/SourcePosition" "line" "I" (.int (0 : Int32)) := D19 (Or.inr (hw _ (List.mem_of_getElem? (i := 10) rfl))) (ty := .int) (by decide)
  have F19_column : Fld Z h19 b19 "com/example/probabilistic_event_models/probabilisticeventmodels/model/SourcePosition" "column" "I" (.int (0 : Int32)) := D19 (Or.inr (hw _ (List.mem_of_getElem? (i := 12) rfl))) (ty := .int) (by decide)
  have k21 : Rch p e below (s₁.setTop (entryFrame m #[(.int i1), (.int i2), (.int i3), (.int i4), (.int i5)] maxLocals)) T19 (mkF m 54 #[.val (.int i1), .val (.int i2), .val (.int i3), .val (.int i4), .val (.int i5), .val (.ref b1), .val (.int n7), .val (.int lb), .val (.int cb), .unset, .unset, .unset] [(.int cb), (.int lb), (.ref b19), (.ref b19)]) := fun tg kg => by
    refine k20 tg ?_
    show Steps p.tables e below (T19.setTop (mkF m 49 #[.val (.int i1), .val (.int i2), .val (.int i3), .val (.int i4), .val (.int i5), .val (.ref b1), .val (.int n7), .val (.int lb), .val (.int cb), .unset, .unset, .unset] [(.ref b19)])) tg
    refine XS.dup X19.here hx rfl (hb hby at_49) rfl rfl ?_
    show Steps p.tables e below (T19.setTop (mkF m 50 #[.val (.int i1), .val (.int i2), .val (.int i3), .val (.int i4), .val (.int i5), .val (.ref b1), .val (.int n7), .val (.int lb), .val (.int cb), .unset, .unset, .unset] [(.ref b19), (.ref b19)])) tg
    refine XS.iload X19.here hx rfl (hb hby at_50) rfl ?_
    show Steps p.tables e below (T19.setTop (mkF m 52 #[.val (.int i1), .val (.int i2), .val (.int i3), .val (.int i4), .val (.int i5), .val (.ref b1), .val (.int n7), .val (.int lb), .val (.int cb), .unset, .unset, .unset] [(.int lb), (.ref b19), (.ref b19)])) tg
    refine XS.iload X19.here hx rfl (hb hby at_52) rfl ?_
    exact kg
  obtain ⟨v22, T22, h22, Lc22, X22, e22, hQ22, st22⟩ := own_callC X19 hx hZ rfl hown (hw _ (List.mem_of_getElem? (i := 3) rfl)) (hw _ (List.mem_of_getElem? (i := 4) rfl)) (hw _ (List.mem_of_getElem? (i := 2) rfl)) (hw _ (List.mem_of_getElem? (i := 5) rfl)) (by decide) (rm_init l Z a0 hw [] b19 lb cb (.int (0 : Int32)) (.int (0 : Int32)) h19 n0 (by omega) A19 F19_line F19_column (by omega)) e19 (a := b19) (g := (mkF m 54 #[.val (.int i1), .val (.int i2), .val (.int i3), .val (.int i4), .val (.int i5), .val (.ref b1), .val (.int n7), .val (.int lb), .val (.int cb), .unset, .unset, .unset] [(.int cb), (.int lb), (.ref b19), (.ref b19)])) rfl (by rw [hml]; rfl) (argsL := [(.int lb), (.int cb)]) (rest := [(.ref b19)]) rfl (lenOf pd_3 rfl) rfl (W := 1) (by show 2 * 0 + _ ≤ _; exact Nat.le_of_eq rfl) (hb hby at_54) (by decide) (by decide) (by decide) (by decide)
  obtain ⟨rfl, Nq22, K22, fq22_3, fq22_4, fq22_5⟩ := hQ22
  have N22 := Fr.app N4 Nq22
  have s22 : h19.size ≤ h22.size := K22.1
  have k23 : Rch p e below (s₁.setTop (entryFrame m #[(.int i1), (.int i2), (.int i3), (.int i4), (.int i5)] maxLocals)) T22 (mkF m 57 #[.val (.int i1), .val (.int i2), .val (.int i3), .val (.int i4), .val (.int i5), .val (.ref b1), .val (.int n7), .val (.int lb), .val (.int cb), .unset, .unset, .unset] [(.ref b19)]) := fun tg kg => k21 tg (st22 tg kg)
  have lt_fq22_3 := fq22_3.lt
  have lt_fq22_4 := fq22_4.lt
  have lt_fq22_5 := fq22_5.lt
  have k24 : Rch p e below (s₁.setTop (entryFrame m #[(.int i1), (.int i2), (.int i3), (.int i4), (.int i5)] maxLocals)) T22 (mkF m 61 #[.val (.int i1), .val (.int i2), .val (.int i3), .val (.int i4), .val (.int i5), .val (.ref b1), .val (.int n7), .val (.int lb), .val (.int cb), .val (.ref b19), .unset, .unset] [(.int n7)]) := fun tg kg => by
    refine k23 tg ?_
    show Steps p.tables e below (T22.setTop (mkF m 57 #[.val (.int i1), .val (.int i2), .val (.int i3), .val (.int i4), .val (.int i5), .val (.ref b1), .val (.int n7), .val (.int lb), .val (.int cb), .unset, .unset, .unset] [(.ref b19)])) tg
    refine XS.astore X22.here hx rfl (hb hby at_57) rfl rfl (l' := #[.val (.int i1), .val (.int i2), .val (.int i3), .val (.int i4), .val (.int i5), .val (.ref b1), .val (.int n7), .val (.int lb), .val (.int cb), .val (.ref b19), .unset, .unset]) rfl ?_
    show Steps p.tables e below (T22.setTop (mkF m 59 #[.val (.int i1), .val (.int i2), .val (.int i3), .val (.int i4), .val (.int i5), .val (.ref b1), .val (.int n7), .val (.int lb), .val (.int cb), .val (.ref b19), .unset, .unset] [])) tg
    refine XS.iload X22.here hx rfl (hb hby at_59) rfl ?_
    exact kg
  by_cases hc61_25 : n7 = (0 : Int32)
  · have k26 : Rch p e below (s₁.setTop (entryFrame m #[(.int i1), (.int i2), (.int i3), (.int i4), (.int i5)] maxLocals)) T22 (mkF m 139 #[.val (.int i1), .val (.int i2), .val (.int i3), .val (.int i4), .val (.int i5), .val (.ref b1), .val (.int n7), .val (.int lb), .val (.int cb), .val (.ref b19), .val (.ref b1), .val (.int (1 : Int32))] [(.ref b1), (.ref b1)]) := fun tg kg => by
      refine k24 tg ?_
      show Steps p.tables e below (T22.setTop (mkF m 61 #[.val (.int i1), .val (.int i2), .val (.int i3), .val (.int i4), .val (.int i5), .val (.ref b1), .val (.int n7), .val (.int lb), .val (.int cb), .val (.ref b19), .unset, .unset] [(.int n7)])) tg
      refine XS.ifNo X22.here hx rfl (hb hby at_61) rfl ((if0 _ _).trans (teq hc61_25).2) ?_
      show Steps p.tables e below (T22.setTop (mkF m 64 #[.val (.int i1), .val (.int i2), .val (.int i3), .val (.int i4), .val (.int i5), .val (.ref b1), .val (.int n7), .val (.int lb), .val (.int cb), .val (.ref b19), .unset, .unset] [])) tg
      refine XS.aload X22.here hx rfl (hb hby at_64) rfl rfl ?_
      show Steps p.tables e below (T22.setTop (mkF m 66 #[.val (.int i1), .val (.int i2), .val (.int i3), .val (.int i4), .val (.int i5), .val (.ref b1), .val (.int n7), .val (.int lb), .val (.int cb), .val (.ref b19), .unset, .unset] [(.ref b1)])) tg
      refine XS.astore X22.here hx rfl (hb hby at_66) rfl rfl (l' := #[.val (.int i1), .val (.int i2), .val (.int i3), .val (.int i4), .val (.int i5), .val (.ref b1), .val (.int n7), .val (.int lb), .val (.int cb), .val (.ref b19), .val (.ref b1), .unset]) rfl ?_
      show Steps p.tables e below (T22.setTop (mkF m 68 #[.val (.int i1), .val (.int i2), .val (.int i3), .val (.int i4), .val (.int i5), .val (.ref b1), .val (.int n7), .val (.int lb), .val (.int cb), .val (.ref b19), .val (.ref b1), .unset] [])) tg
      refine XS.iconst X22.here hx rfl (hb hby at_68) ?_
      show Steps p.tables e below (T22.setTop (mkF m 69 #[.val (.int i1), .val (.int i2), .val (.int i3), .val (.int i4), .val (.int i5), .val (.ref b1), .val (.int n7), .val (.int lb), .val (.int cb), .val (.ref b19), .val (.ref b1), .unset] [(.int (1 : Int32))])) tg
      refine XS.istore X22.here hx rfl (hb hby at_69) rfl (l' := #[.val (.int i1), .val (.int i2), .val (.int i3), .val (.int i4), .val (.int i5), .val (.ref b1), .val (.int n7), .val (.int lb), .val (.int cb), .val (.ref b19), .val (.ref b1), .val (.int (1 : Int32))]) rfl ?_
      show Steps p.tables e below (T22.setTop (mkF m 71 #[.val (.int i1), .val (.int i2), .val (.int i3), .val (.int i4), .val (.int i5), .val (.ref b1), .val (.int n7), .val (.int lb), .val (.int cb), .val (.ref b19), .val (.ref b1), .val (.int (1 : Int32))] [])) tg
      refine XS.goto X22.here hx rfl (pc0 := 71) (pc' := 135) rfl (hb hby at_71) (by decide) (by decide) ?_
      show Steps p.tables e below (T22.setTop (mkF m 135 #[.val (.int i1), .val (.int i2), .val (.int i3), .val (.int i4), .val (.int i5), .val (.ref b1), .val (.int n7), .val (.int lb), .val (.int cb), .val (.ref b19), .val (.ref b1), .val (.int (1 : Int32))] [])) tg
      refine XS.aload X22.here hx rfl (hb hby at_135) rfl rfl ?_
      show Steps p.tables e below (T22.setTop (mkF m 137 #[.val (.int i1), .val (.int i2), .val (.int i3), .val (.int i4), .val (.int i5), .val (.ref b1), .val (.int n7), .val (.int lb), .val (.int cb), .val (.ref b19), .val (.ref b1), .val (.int (1 : Int32))] [(.ref b1)])) tg
      refine XS.aload X22.here hx rfl (hb hby at_137) rfl rfl ?_
      exact kg
    have f28 : Exa Z h22 b1 "com/example/probabilistic_event_models/probabilisticeventmodels/model/SourcePosition" := ((fq4_3.ext E19).keep K22)
    obtain ⟨v27, T27, h27, Lc27, X27, e27, hQ27, st27⟩ := own_callV X22 hx hZ hown (hw _ (List.mem_of_getElem? (i := 13) rfl)) (hw _ (List.mem_of_getElem? (i := 14) rfl)) (notFace_of_selects (args := #[]) (mvT hZ (hw _ (List.mem_of_getElem? (i := 16) rfl)))) (hw _ (List.mem_of_getElem? (i := 16) rfl)) (hw _ (List.mem_of_getElem? (i := 15) rfl)) (hw _ (List.mem_of_getElem? (i := 17) rfl)) (hw _ (List.mem_of_getElem? (i := 2) rfl)) (by decide) (rm_eqSelf l Z a0 hw [] b1 b1 h22 n0 (by omega) rfl) e22 f28 (g := (mkF m 139 #[.val (.int i1), .val (.int i2), .val (.int i3), .val (.int i4), .val (.int i5), .val (.ref b1), .val (.int n7), .val (.int lb), .val (.int cb), .val (.ref b19), .val (.ref b1), .val (.int (1 : Int32))] [(.ref b1), (.ref b1)])) rfl (by rw [hml]; rfl) (argsL := [(.ref b1)]) (rest := []) rfl (lenOf pd_4 rfl) rfl (W := 0) (by show 2 * 0 + _ ≤ _; exact Nat.le_of_eq rfl) (hb hby at_139) (by decide) (by decide) (by decide) (by decide)
    obtain ⟨rfl, Nq27, hs27⟩ := hQ27
    have N27 := Fr.app N22 Nq27
    have e27' : T27.heap = h22 := e27.trans hs27
    have k29 : Rch p e below (s₁.setTop (entryFrame m #[(.int i1), (.int i2), (.int i3), (.int i4), (.int i5)] maxLocals)) T27 (mkF m 142 #[.val (.int i1), .val (.int i2), .val (.int i3), .val (.int i4), .val (.int i5), .val (.ref b1), .val (.int n7), .val (.int lb), .val (.int cb), .val (.ref b19), .val (.ref b1), .val (.int (1 : Int32))] [(.int (1 : Int32))]) := fun tg kg => k26 tg (st27 tg kg)
    have k30 : Rch p e below (s₁.setTop (entryFrame m #[(.int i1), (.int i2), (.int i3), (.int i4), (.int i5)] maxLocals)) T27 (mkF m 170 #[.val (.int i1), .val (.int i2), .val (.int i3), .val (.int i4), .val (.int i5), .val (.ref b1), .val (.int n7), .val (.int lb), .val (.int cb), .val (.ref b19), .val (.ref b1), .val (.int (1 : Int32))] [(.int (1 : Int32))]) := fun tg kg => by
      refine k29 tg ?_
      show Steps p.tables e below (T27.setTop (mkF m 142 #[.val (.int i1), .val (.int i2), .val (.int i3), .val (.int i4), .val (.int i5), .val (.ref b1), .val (.int n7), .val (.int lb), .val (.int cb), .val (.ref b19), .val (.ref b1), .val (.int (1 : Int32))] [(.int (1 : Int32))])) tg
      refine XS.iload X27.here hx rfl (hb hby at_142) rfl ?_
      show Steps p.tables e below (T27.setTop (mkF m 144 #[.val (.int i1), .val (.int i2), .val (.int i3), .val (.int i4), .val (.int i5), .val (.ref b1), .val (.int n7), .val (.int lb), .val (.int cb), .val (.ref b19), .val (.ref b1), .val (.int (1 : Int32))] [(.int (1 : Int32)), (.int (1 : Int32))])) tg
      refine XS.icmpYes X27.here hx rfl (pc0 := 144) (pc' := 149) rfl (hb hby at_144) rfl (teq rfl).1 (by decide) (by decide) ?_
      show Steps p.tables e below (T27.setTop (mkF m 149 #[.val (.int i1), .val (.int i2), .val (.int i3), .val (.int i4), .val (.int i5), .val (.ref b1), .val (.int n7), .val (.int lb), .val (.int cb), .val (.ref b19), .val (.ref b1), .val (.int (1 : Int32))] [])) tg
      refine XS.iload X27.here hx rfl (hb hby at_149) rfl ?_
      show Steps p.tables e below (T27.setTop (mkF m 151 #[.val (.int i1), .val (.int i2), .val (.int i3), .val (.int i4), .val (.int i5), .val (.ref b1), .val (.int n7), .val (.int lb), .val (.int cb), .val (.ref b19), .val (.ref b1), .val (.int (1 : Int32))] [(.int n7)])) tg
      refine XS.iconst X27.here hx rfl (hb hby at_151) ?_
      show Steps p.tables e below (T27.setTop (mkF m 152 #[.val (.int i1), .val (.int i2), .val (.int i3), .val (.int i4), .val (.int i5), .val (.ref b1), .val (.int n7), .val (.int lb), .val (.int cb), .val (.ref b19), .val (.ref b1), .val (.int (1 : Int32))] [(.int (3 : Int32)), (.int n7)])) tg
      refine XS.icmpYes X27.here hx rfl (pc0 := 152) (pc' := 169) rfl (hb hby at_152) rfl (feq (by rw [hc61_25]; decide)).2 (by decide) (by decide) ?_
      show Steps p.tables e below (T27.setTop (mkF m 169 #[.val (.int i1), .val (.int i2), .val (.int i3), .val (.int i4), .val (.int i5), .val (.ref b1), .val (.int n7), .val (.int lb), .val (.int cb), .val (.ref b19), .val (.ref b1), .val (.int (1 : Int32))] [])) tg
      refine XS.iconst X27.here hx rfl (hb hby at_169) ?_
      exact kg
    obtain ⟨fs31, hr31, hrun31, hended31, hW31, hsame31⟩ := X27.leave (v := some (.int (nar .boolean (1 : Int32)))) (fun h => by rw [Bd.returns] at h; cases h)
    refine ⟨_, _, k30 _ ?_, hrun31, hended31, _, _, rfl, ?_, ⟨_, rfl⟩, hW31, hsame31.mono (by decide) (by decide)⟩
    · exact retN X27 hx (t := .boolean) Bd.returns (by simp) (hb hby at_170) hr31
    · show Q_rm0 Z i1 i2 i3 i4 i5 cs h0 n0 _ T27.heap _
      rw [e27']
      exact ⟨rfl, N27⟩
  · have k32 : Rch p e below (s₁.setTop (entryFrame m #[(.int i1), (.int i2), (.int i3), (.int i4), (.int i5)] maxLocals)) T22 (mkF m 77 #[.val (.int i1), .val (.int i2), .val (.int i3), .val (.int i4), .val (.int i5), .val (.ref b1), .val (.int n7), .val (.int lb), .val (.int cb), .val (.ref b19), .unset, .unset] [(.int (1 : Int32)), (.int n7)]) := fun tg kg => by
      refine k24 tg ?_
      show Steps p.tables e below (T22.setTop (mkF m 61 #[.val (.int i1), .val (.int i2), .val (.int i3), .val (.int i4), .val (.int i5), .val (.ref b1), .val (.int n7), .val (.int lb), .val (.int cb), .val (.ref b19), .unset, .unset] [(.int n7)])) tg
      refine XS.ifYes X22.here hx rfl (pc0 := 61) (pc' := 74) rfl (hb hby at_61) rfl ((if0 _ _).trans (feq hc61_25).2) (by decide) (by decide) ?_
      show Steps p.tables e below (T22.setTop (mkF m 74 #[.val (.int i1), .val (.int i2), .val (.int i3), .val (.int i4), .val (.int i5), .val (.ref b1), .val (.int n7), .val (.int lb), .val (.int cb), .val (.ref b19), .unset, .unset] [])) tg
      refine XS.iload X22.here hx rfl (hb hby at_74) rfl ?_
      show Steps p.tables e below (T22.setTop (mkF m 76 #[.val (.int i1), .val (.int i2), .val (.int i3), .val (.int i4), .val (.int i5), .val (.ref b1), .val (.int n7), .val (.int lb), .val (.int cb), .val (.ref b19), .unset, .unset] [(.int n7)])) tg
      refine XS.iconst X22.here hx rfl (hb hby at_76) ?_
      exact kg
    by_cases hc77_33 : n7 = (1 : Int32)
    · have k34 : Rch p e below (s₁.setTop (entryFrame m #[(.int i1), (.int i2), (.int i3), (.int i4), (.int i5)] maxLocals)) T22 (mkF m 139 #[.val (.int i1), .val (.int i2), .val (.int i3), .val (.int i4), .val (.int i5), .val (.ref b1), .val (.int n7), .val (.int lb), .val (.int cb), .val (.ref b19), .val .null, .val (.int (0 : Int32))] [.null, (.ref b1)]) := fun tg kg => by
        refine k32 tg ?_
        show Steps p.tables e below (T22.setTop (mkF m 77 #[.val (.int i1), .val (.int i2), .val (.int i3), .val (.int i4), .val (.int i5), .val (.ref b1), .val (.int n7), .val (.int lb), .val (.int cb), .val (.ref b19), .unset, .unset] [(.int (1 : Int32)), (.int n7)])) tg
        refine XS.icmpNo X22.here hx rfl (hb hby at_77) rfl (teq hc77_33).2 ?_
        show Steps p.tables e below (T22.setTop (mkF m 80 #[.val (.int i1), .val (.int i2), .val (.int i3), .val (.int i4), .val (.int i5), .val (.ref b1), .val (.int n7), .val (.int lb), .val (.int cb), .val (.ref b19), .unset, .unset] [])) tg
        refine XS.aconstNull X22.here hx rfl (hb hby at_80) ?_
        show Steps p.tables e below (T22.setTop (mkF m 81 #[.val (.int i1), .val (.int i2), .val (.int i3), .val (.int i4), .val (.int i5), .val (.ref b1), .val (.int n7), .val (.int lb), .val (.int cb), .val (.ref b19), .unset, .unset] [.null])) tg
        refine XS.astore X22.here hx rfl (hb hby at_81) rfl rfl (l' := #[.val (.int i1), .val (.int i2), .val (.int i3), .val (.int i4), .val (.int i5), .val (.ref b1), .val (.int n7), .val (.int lb), .val (.int cb), .val (.ref b19), .val .null, .unset]) rfl ?_
        show Steps p.tables e below (T22.setTop (mkF m 83 #[.val (.int i1), .val (.int i2), .val (.int i3), .val (.int i4), .val (.int i5), .val (.ref b1), .val (.int n7), .val (.int lb), .val (.int cb), .val (.ref b19), .val .null, .unset] [])) tg
        refine XS.iconst X22.here hx rfl (hb hby at_83) ?_
        show Steps p.tables e below (T22.setTop (mkF m 84 #[.val (.int i1), .val (.int i2), .val (.int i3), .val (.int i4), .val (.int i5), .val (.ref b1), .val (.int n7), .val (.int lb), .val (.int cb), .val (.ref b19), .val .null, .unset] [(.int (0 : Int32))])) tg
        refine XS.istore X22.here hx rfl (hb hby at_84) rfl (l' := #[.val (.int i1), .val (.int i2), .val (.int i3), .val (.int i4), .val (.int i5), .val (.ref b1), .val (.int n7), .val (.int lb), .val (.int cb), .val (.ref b19), .val .null, .val (.int (0 : Int32))]) rfl ?_
        show Steps p.tables e below (T22.setTop (mkF m 86 #[.val (.int i1), .val (.int i2), .val (.int i3), .val (.int i4), .val (.int i5), .val (.ref b1), .val (.int n7), .val (.int lb), .val (.int cb), .val (.ref b19), .val .null, .val (.int (0 : Int32))] [])) tg
        refine XS.goto X22.here hx rfl (pc0 := 86) (pc' := 135) rfl (hb hby at_86) (by decide) (by decide) ?_
        show Steps p.tables e below (T22.setTop (mkF m 135 #[.val (.int i1), .val (.int i2), .val (.int i3), .val (.int i4), .val (.int i5), .val (.ref b1), .val (.int n7), .val (.int lb), .val (.int cb), .val (.ref b19), .val .null, .val (.int (0 : Int32))] [])) tg
        refine XS.aload X22.here hx rfl (hb hby at_135) rfl rfl ?_
        show Steps p.tables e below (T22.setTop (mkF m 137 #[.val (.int i1), .val (.int i2), .val (.int i3), .val (.int i4), .val (.int i5), .val (.ref b1), .val (.int n7), .val (.int lb), .val (.int cb), .val (.ref b19), .val .null, .val (.int (0 : Int32))] [(.ref b1)])) tg
        refine XS.aload X22.here hx rfl (hb hby at_137) rfl rfl ?_
        exact kg
      have f36 : Exa Z h22 b1 "com/example/probabilistic_event_models/probabilisticeventmodels/model/SourcePosition" := ((fq4_3.ext E19).keep K22)
      obtain ⟨v35, T35, h35, Lc35, X35, e35, hQ35, st35⟩ := own_callV X22 hx hZ hown (hw _ (List.mem_of_getElem? (i := 13) rfl)) (hw _ (List.mem_of_getElem? (i := 14) rfl)) (notFace_of_selects (args := #[]) (mvT hZ (hw _ (List.mem_of_getElem? (i := 16) rfl)))) (hw _ (List.mem_of_getElem? (i := 16) rfl)) (hw _ (List.mem_of_getElem? (i := 15) rfl)) (hw _ (List.mem_of_getElem? (i := 17) rfl)) (hw _ (List.mem_of_getElem? (i := 2) rfl)) (by decide) (rm_eqNull l Z a0 hw [] b1 h22 n0 (by omega) ) e22 f36 (g := (mkF m 139 #[.val (.int i1), .val (.int i2), .val (.int i3), .val (.int i4), .val (.int i5), .val (.ref b1), .val (.int n7), .val (.int lb), .val (.int cb), .val (.ref b19), .val .null, .val (.int (0 : Int32))] [.null, (.ref b1)])) rfl (by rw [hml]; rfl) (argsL := [.null]) (rest := []) rfl (lenOf pd_4 rfl) rfl (W := 0) (by show 2 * 0 + _ ≤ _; exact Nat.le_of_eq rfl) (hb hby at_139) (by decide) (by decide) (by decide) (by decide)
      obtain ⟨rfl, Nq35, hs35⟩ := hQ35
      have N35 := Fr.app N22 Nq35
      have e35' : T35.heap = h22 := e35.trans hs35
      have k37 : Rch p e below (s₁.setTop (entryFrame m #[(.int i1), (.int i2), (.int i3), (.int i4), (.int i5)] maxLocals)) T35 (mkF m 142 #[.val (.int i1), .val (.int i2), .val (.int i3), .val (.int i4), .val (.int i5), .val (.ref b1), .val (.int n7), .val (.int lb), .val (.int cb), .val (.ref b19), .val .null, .val (.int (0 : Int32))] [(.int (0 : Int32))]) := fun tg kg => k34 tg (st35 tg kg)
      have k38 : Rch p e below (s₁.setTop (entryFrame m #[(.int i1), (.int i2), (.int i3), (.int i4), (.int i5)] maxLocals)) T35 (mkF m 170 #[.val (.int i1), .val (.int i2), .val (.int i3), .val (.int i4), .val (.int i5), .val (.ref b1), .val (.int n7), .val (.int lb), .val (.int cb), .val (.ref b19), .val .null, .val (.int (0 : Int32))] [(.int (1 : Int32))]) := fun tg kg => by
        refine k37 tg ?_
        show Steps p.tables e below (T35.setTop (mkF m 142 #[.val (.int i1), .val (.int i2), .val (.int i3), .val (.int i4), .val (.int i5), .val (.ref b1), .val (.int n7), .val (.int lb), .val (.int cb), .val (.ref b19), .val .null, .val (.int (0 : Int32))] [(.int (0 : Int32))])) tg
        refine XS.iload X35.here hx rfl (hb hby at_142) rfl ?_
        show Steps p.tables e below (T35.setTop (mkF m 144 #[.val (.int i1), .val (.int i2), .val (.int i3), .val (.int i4), .val (.int i5), .val (.ref b1), .val (.int n7), .val (.int lb), .val (.int cb), .val (.ref b19), .val .null, .val (.int (0 : Int32))] [(.int (0 : Int32)), (.int (0 : Int32))])) tg
        refine XS.icmpYes X35.here hx rfl (pc0 := 144) (pc' := 149) rfl (hb hby at_144) rfl (teq rfl).1 (by decide) (by decide) ?_
        show Steps p.tables e below (T35.setTop (mkF m 149 #[.val (.int i1), .val (.int i2), .val (.int i3), .val (.int i4), .val (.int i5), .val (.ref b1), .val (.int n7), .val (.int lb), .val (.int cb), .val (.ref b19), .val .null, .val (.int (0 : Int32))] [])) tg
        refine XS.iload X35.here hx rfl (hb hby at_149) rfl ?_
        show Steps p.tables e below (T35.setTop (mkF m 151 #[.val (.int i1), .val (.int i2), .val (.int i3), .val (.int i4), .val (.int i5), .val (.ref b1), .val (.int n7), .val (.int lb), .val (.int cb), .val (.ref b19), .val .null, .val (.int (0 : Int32))] [(.int n7)])) tg
        refine XS.iconst X35.here hx rfl (hb hby at_151) ?_
        show Steps p.tables e below (T35.setTop (mkF m 152 #[.val (.int i1), .val (.int i2), .val (.int i3), .val (.int i4), .val (.int i5), .val (.ref b1), .val (.int n7), .val (.int lb), .val (.int cb), .val (.ref b19), .val .null, .val (.int (0 : Int32))] [(.int (3 : Int32)), (.int n7)])) tg
        refine XS.icmpYes X35.here hx rfl (pc0 := 152) (pc' := 169) rfl (hb hby at_152) rfl (feq (by rw [hc77_33]; decide)).2 (by decide) (by decide) ?_
        show Steps p.tables e below (T35.setTop (mkF m 169 #[.val (.int i1), .val (.int i2), .val (.int i3), .val (.int i4), .val (.int i5), .val (.ref b1), .val (.int n7), .val (.int lb), .val (.int cb), .val (.ref b19), .val .null, .val (.int (0 : Int32))] [])) tg
        refine XS.iconst X35.here hx rfl (hb hby at_169) ?_
        exact kg
      obtain ⟨fs39, hr39, hrun39, hended39, hW39, hsame39⟩ := X35.leave (v := some (.int (nar .boolean (1 : Int32)))) (fun h => by rw [Bd.returns] at h; cases h)
      refine ⟨_, _, k38 _ ?_, hrun39, hended39, _, _, rfl, ?_, ⟨_, rfl⟩, hW39, hsame39.mono (by decide) (by decide)⟩
      · exact retN X35 hx (t := .boolean) Bd.returns (by simp) (hb hby at_170) hr39
      · show Q_rm0 Z i1 i2 i3 i4 i5 cs h0 n0 _ T35.heap _
        rw [e35']
        exact ⟨rfl, N35⟩
    · have k40 : Rch p e below (s₁.setTop (entryFrame m #[(.int i1), (.int i2), (.int i3), (.int i4), (.int i5)] maxLocals)) T22 (mkF m 92 #[.val (.int i1), .val (.int i2), .val (.int i3), .val (.int i4), .val (.int i5), .val (.ref b1), .val (.int n7), .val (.int lb), .val (.int cb), .val (.ref b19), .unset, .unset] [(.int (2 : Int32)), (.int n7)]) := fun tg kg => by
        refine k32 tg ?_
        show Steps p.tables e below (T22.setTop (mkF m 77 #[.val (.int i1), .val (.int i2), .val (.int i3), .val (.int i4), .val (.int i5), .val (.ref b1), .val (.int n7), .val (.int lb), .val (.int cb), .val (.ref b19), .unset, .unset] [(.int (1 : Int32)), (.int n7)])) tg
        refine XS.icmpYes X22.here hx rfl (pc0 := 77) (pc' := 89) rfl (hb hby at_77) rfl (feq hc77_33).2 (by decide) (by decide) ?_
        show Steps p.tables e below (T22.setTop (mkF m 89 #[.val (.int i1), .val (.int i2), .val (.int i3), .val (.int i4), .val (.int i5), .val (.ref b1), .val (.int n7), .val (.int lb), .val (.int cb), .val (.ref b19), .unset, .unset] [])) tg
        refine XS.iload X22.here hx rfl (hb hby at_89) rfl ?_
        show Steps p.tables e below (T22.setTop (mkF m 91 #[.val (.int i1), .val (.int i2), .val (.int i3), .val (.int i4), .val (.int i5), .val (.ref b1), .val (.int n7), .val (.int lb), .val (.int cb), .val (.ref b19), .unset, .unset] [(.int n7)])) tg
        refine XS.iconst X22.here hx rfl (hb hby at_91) ?_
        exact kg
      by_cases hc92_41 : n7 = (2 : Int32)
      · have h255 : ¬ (255 : Int32) < (i4 &&& (255 : Int32)).toUInt32.toUInt16.toUInt32.toInt32 := by
          rw [i2c_mask]
          have q := c_and i4 255 (by decide)
          rw [Int32.lt_iff_toInt_lt]
          have : (255 : Int32).toInt = 255 := by decide
          omega
        have k42 : Rch p e below (s₁.setTop (entryFrame m #[(.int i1), (.int i2), (.int i3), (.int i4), (.int i5)] maxLocals)) T22 (mkF m 101 #[.val (.int i1), .val (.int i2), .val (.int i3), .val (.int i4), .val (.int i5), .val (.ref b1), .val (.int n7), .val (.int lb), .val (.int cb), .val (.ref b19), .unset, .unset] [(.int ((i4 &&& (255 : Int32)).toUInt32.toUInt16.toUInt32.toInt32))]) := fun tg kg => by
          refine k40 tg ?_
          show Steps p.tables e below (T22.setTop (mkF m 92 #[.val (.int i1), .val (.int i2), .val (.int i3), .val (.int i4), .val (.int i5), .val (.ref b1), .val (.int n7), .val (.int lb), .val (.int cb), .val (.ref b19), .unset, .unset] [(.int (2 : Int32)), (.int n7)])) tg
          refine XS.icmpNo X22.here hx rfl (hb hby at_92) rfl (teq hc92_41).2 ?_
          show Steps p.tables e below (T22.setTop (mkF m 95 #[.val (.int i1), .val (.int i2), .val (.int i3), .val (.int i4), .val (.int i5), .val (.ref b1), .val (.int n7), .val (.int lb), .val (.int cb), .val (.ref b19), .unset, .unset] [])) tg
          refine XS.iloadN X22.here hx rfl (hb hby at_95) rfl ?_
          show Steps p.tables e below (T22.setTop (mkF m 96 #[.val (.int i1), .val (.int i2), .val (.int i3), .val (.int i4), .val (.int i5), .val (.ref b1), .val (.int n7), .val (.int lb), .val (.int cb), .val (.ref b19), .unset, .unset] [(.int i4)])) tg
          refine XS.sipush X22.here hx rfl (hb hby at_96) ?_
          show Steps p.tables e below (T22.setTop (mkF m 99 #[.val (.int i1), .val (.int i2), .val (.int i3), .val (.int i4), .val (.int i5), .val (.ref b1), .val (.int n7), .val (.int lb), .val (.int cb), .val (.ref b19), .unset, .unset] [(.int (255 : Int32)), (.int i4)])) tg
          refine XS.iand X22.here hx rfl (hb hby at_99) rfl ?_
          show Steps p.tables e below (T22.setTop (mkF m 100 #[.val (.int i1), .val (.int i2), .val (.int i3), .val (.int i4), .val (.int i5), .val (.ref b1), .val (.int n7), .val (.int lb), .val (.int cb), .val (.ref b19), .unset, .unset] [(.int (i4 &&& (255 : Int32)))])) tg
          refine XS.i2c X22.here hx rfl (hb hby at_100) rfl ?_
          exact kg
        have f44 : Old Z n0 h22 := ((((OL.ext E1).keep K4 (allS (by omega) all0)).ext E19).keep K22 (allS (by omega) all0))
        obtain ⟨v43, T43, h43, Lc43, X43, e43, hQ43, st43⟩ := own_callS X22 hx hZ hown (hw _ (List.mem_of_getElem? (i := 20) rfl)) (hw _ (List.mem_of_getElem? (i := 21) rfl)) (hw _ (List.mem_of_getElem? (i := 22) rfl)) (hw _ (List.mem_of_getElem? (i := 23) rfl)) (by decide) (rm_valC l Z a0 hw [] ((i4 &&& (255 : Int32)).toUInt32.toUInt16.toUInt32.toInt32) cs h22 n0 (by omega) S_cs f44 hcs h255) e22 (g := (mkF m 101 #[.val (.int i1), .val (.int i2), .val (.int i3), .val (.int i4), .val (.int i5), .val (.ref b1), .val (.int n7), .val (.int lb), .val (.int cb), .val (.ref b19), .unset, .unset] [(.int ((i4 &&& (255 : Int32)).toUInt32.toUInt16.toUInt32.toInt32))])) rfl (by rw [hml]; rfl) (argsL := [(.int ((i4 &&& (255 : Int32)).toUInt32.toUInt16.toUInt32.toInt32))]) (rest := []) rfl (lenOf pd_5 rfl) rfl (W := 0) (by show 2 * 0 + _ ≤ _; exact Nat.le_of_eq rfl) (hb hby at_101) (by decide) (by decide) (by decide) (by decide)
        obtain ⟨b_43, t_43, k_43, rfl, Nq43, K43, ge43_3, fq43_4, fq43_5, fq43_6, fq43_7, ge43_8⟩ := hQ43
        have N43 := Fr.app N22 Nq43
        have s43 : h22.size ≤ h43.size := K43.1
        have k45 : Rch p e below (s₁.setTop (entryFrame m #[(.int i1), (.int i2), (.int i3), (.int i4), (.int i5)] maxLocals)) T43 (mkF m 104 #[.val (.int i1), .val (.int i2), .val (.int i3), .val (.int i4), .val (.int i5), .val (.ref b1), .val (.int n7), .val (.int lb), .val (.int cb), .val (.ref b19), .unset, .unset] [(.ref b_43)]) := fun tg kg => k42 tg (st43 tg kg)
        have lt_fq43_4 := fq43_4.lt
        have lt_fq43_5 := fq43_5.lt
        have lt_fq43_6 := fq43_6.lt
        have lt_fq43_7 := fq43_7.lt
        have k46 : Rch p e below (s₁.setTop (entryFrame m #[(.int i1), (.int i2), (.int i3), (.int i4), (.int i5)] maxLocals)) T43 (mkF m 139 #[.val (.int i1), .val (.int i2), .val (.int i3), .val (.int i4), .val (.int i5), .val (.ref b1), .val (.int n7), .val (.int lb), .val (.int cb), .val (.ref b19), .val (.ref b_43), .val (.int (0 : Int32))] [(.ref b_43), (.ref b1)]) := fun tg kg => by
          refine k45 tg ?_
          show Steps p.tables e below (T43.setTop (mkF m 104 #[.val (.int i1), .val (.int i2), .val (.int i3), .val (.int i4), .val (.int i5), .val (.ref b1), .val (.int n7), .val (.int lb), .val (.int cb), .val (.ref b19), .unset, .unset] [(.ref b_43)])) tg
          refine XS.astore X43.here hx rfl (hb hby at_104) rfl rfl (l' := #[.val (.int i1), .val (.int i2), .val (.int i3), .val (.int i4), .val (.int i5), .val (.ref b1), .val (.int n7), .val (.int lb), .val (.int cb), .val (.ref b19), .val (.ref b_43), .unset]) rfl ?_
          show Steps p.tables e below (T43.setTop (mkF m 106 #[.val (.int i1), .val (.int i2), .val (.int i3), .val (.int i4), .val (.int i5), .val (.ref b1), .val (.int n7), .val (.int lb), .val (.int cb), .val (.ref b19), .val (.ref b_43), .unset] [])) tg
          refine XS.iconst X43.here hx rfl (hb hby at_106) ?_
          show Steps p.tables e below (T43.setTop (mkF m 107 #[.val (.int i1), .val (.int i2), .val (.int i3), .val (.int i4), .val (.int i5), .val (.ref b1), .val (.int n7), .val (.int lb), .val (.int cb), .val (.ref b19), .val (.ref b_43), .unset] [(.int (0 : Int32))])) tg
          refine XS.istore X43.here hx rfl (hb hby at_107) rfl (l' := #[.val (.int i1), .val (.int i2), .val (.int i3), .val (.int i4), .val (.int i5), .val (.ref b1), .val (.int n7), .val (.int lb), .val (.int cb), .val (.ref b19), .val (.ref b_43), .val (.int (0 : Int32))]) rfl ?_
          show Steps p.tables e below (T43.setTop (mkF m 109 #[.val (.int i1), .val (.int i2), .val (.int i3), .val (.int i4), .val (.int i5), .val (.ref b1), .val (.int n7), .val (.int lb), .val (.int cb), .val (.ref b19), .val (.ref b_43), .val (.int (0 : Int32))] [])) tg
          refine XS.goto X43.here hx rfl (pc0 := 109) (pc' := 135) rfl (hb hby at_109) (by decide) (by decide) ?_
          show Steps p.tables e below (T43.setTop (mkF m 135 #[.val (.int i1), .val (.int i2), .val (.int i3), .val (.int i4), .val (.int i5), .val (.ref b1), .val (.int n7), .val (.int lb), .val (.int cb), .val (.ref b19), .val (.ref b_43), .val (.int (0 : Int32))] [])) tg
          refine XS.aload X43.here hx rfl (hb hby at_135) rfl rfl ?_
          show Steps p.tables e below (T43.setTop (mkF m 137 #[.val (.int i1), .val (.int i2), .val (.int i3), .val (.int i4), .val (.int i5), .val (.ref b1), .val (.int n7), .val (.int lb), .val (.int cb), .val (.ref b19), .val (.ref b_43), .val (.int (0 : Int32))] [(.ref b1)])) tg
          refine XS.aload X43.here hx rfl (hb hby at_137) rfl rfl ?_
          exact kg
        have f48 : Exa Z h43 b1 "com/example/probabilistic_event_models/probabilisticeventmodels/model/SourcePosition" := (((fq4_3.ext E19).keep K22).keep K43)
        obtain ⟨v47, T47, h47, Lc47, X47, e47, hQ47, st47⟩ := own_callV X43 hx hZ hown (hw _ (List.mem_of_getElem? (i := 13) rfl)) (hw _ (List.mem_of_getElem? (i := 14) rfl)) (notFace_of_selects (args := #[]) (mvT hZ (hw _ (List.mem_of_getElem? (i := 16) rfl)))) (hw _ (List.mem_of_getElem? (i := 16) rfl)) (hw _ (List.mem_of_getElem? (i := 15) rfl)) (hw _ (List.mem_of_getElem? (i := 17) rfl)) (hw _ (List.mem_of_getElem? (i := 2) rfl)) (by decide) (rm_eqStr l Z a0 hw [] b1 b_43 h43 n0 (by omega) fq43_4 (own_ne (by omega))) e43 f48 (g := (mkF m 139 #[.val (.int i1), .val (.int i2), .val (.int i3), .val (.int i4), .val (.int i5), .val (.ref b1), .val (.int n7), .val (.int lb), .val (.int cb), .val (.ref b19), .val (.ref b_43), .val (.int (0 : Int32))] [(.ref b_43), (.ref b1)])) rfl (by rw [hml]; rfl) (argsL := [(.ref b_43)]) (rest := []) rfl (lenOf pd_4 rfl) rfl (W := 0) (by show 2 * 0 + _ ≤ _; exact Nat.le_of_eq rfl) (hb hby at_139) (by decide) (by decide) (by decide) (by decide)
        obtain ⟨rfl, Nq47, hs47⟩ := hQ47
        have N47 := Fr.app N43 Nq47
        have e47' : T47.heap = h43 := e47.trans hs47
        have k49 : Rch p e below (s₁.setTop (entryFrame m #[(.int i1), (.int i2), (.int i3), (.int i4), (.int i5)] maxLocals)) T47 (mkF m 142 #[.val (.int i1), .val (.int i2), .val (.int i3), .val (.int i4), .val (.int i5), .val (.ref b1), .val (.int n7), .val (.int lb), .val (.int cb), .val (.ref b19), .val (.ref b_43), .val (.int (0 : Int32))] [(.int (0 : Int32))]) := fun tg kg => k46 tg (st47 tg kg)
        have k50 : Rch p e below (s₁.setTop (entryFrame m #[(.int i1), (.int i2), (.int i3), (.int i4), (.int i5)] maxLocals)) T47 (mkF m 170 #[.val (.int i1), .val (.int i2), .val (.int i3), .val (.int i4), .val (.int i5), .val (.ref b1), .val (.int n7), .val (.int lb), .val (.int cb), .val (.ref b19), .val (.ref b_43), .val (.int (0 : Int32))] [(.int (1 : Int32))]) := fun tg kg => by
          refine k49 tg ?_
          show Steps p.tables e below (T47.setTop (mkF m 142 #[.val (.int i1), .val (.int i2), .val (.int i3), .val (.int i4), .val (.int i5), .val (.ref b1), .val (.int n7), .val (.int lb), .val (.int cb), .val (.ref b19), .val (.ref b_43), .val (.int (0 : Int32))] [(.int (0 : Int32))])) tg
          refine XS.iload X47.here hx rfl (hb hby at_142) rfl ?_
          show Steps p.tables e below (T47.setTop (mkF m 144 #[.val (.int i1), .val (.int i2), .val (.int i3), .val (.int i4), .val (.int i5), .val (.ref b1), .val (.int n7), .val (.int lb), .val (.int cb), .val (.ref b19), .val (.ref b_43), .val (.int (0 : Int32))] [(.int (0 : Int32)), (.int (0 : Int32))])) tg
          refine XS.icmpYes X47.here hx rfl (pc0 := 144) (pc' := 149) rfl (hb hby at_144) rfl (teq rfl).1 (by decide) (by decide) ?_
          show Steps p.tables e below (T47.setTop (mkF m 149 #[.val (.int i1), .val (.int i2), .val (.int i3), .val (.int i4), .val (.int i5), .val (.ref b1), .val (.int n7), .val (.int lb), .val (.int cb), .val (.ref b19), .val (.ref b_43), .val (.int (0 : Int32))] [])) tg
          refine XS.iload X47.here hx rfl (hb hby at_149) rfl ?_
          show Steps p.tables e below (T47.setTop (mkF m 151 #[.val (.int i1), .val (.int i2), .val (.int i3), .val (.int i4), .val (.int i5), .val (.ref b1), .val (.int n7), .val (.int lb), .val (.int cb), .val (.ref b19), .val (.ref b_43), .val (.int (0 : Int32))] [(.int n7)])) tg
          refine XS.iconst X47.here hx rfl (hb hby at_151) ?_
          show Steps p.tables e below (T47.setTop (mkF m 152 #[.val (.int i1), .val (.int i2), .val (.int i3), .val (.int i4), .val (.int i5), .val (.ref b1), .val (.int n7), .val (.int lb), .val (.int cb), .val (.ref b19), .val (.ref b_43), .val (.int (0 : Int32))] [(.int (3 : Int32)), (.int n7)])) tg
          refine XS.icmpYes X47.here hx rfl (pc0 := 152) (pc' := 169) rfl (hb hby at_152) rfl (feq (by rw [hc92_41]; decide)).2 (by decide) (by decide) ?_
          show Steps p.tables e below (T47.setTop (mkF m 169 #[.val (.int i1), .val (.int i2), .val (.int i3), .val (.int i4), .val (.int i5), .val (.ref b1), .val (.int n7), .val (.int lb), .val (.int cb), .val (.ref b19), .val (.ref b_43), .val (.int (0 : Int32))] [])) tg
          refine XS.iconst X47.here hx rfl (hb hby at_169) ?_
          exact kg
        obtain ⟨fs51, hr51, hrun51, hended51, hW51, hsame51⟩ := X47.leave (v := some (.int (nar .boolean (1 : Int32)))) (fun h => by rw [Bd.returns] at h; cases h)
        refine ⟨_, _, k50 _ ?_, hrun51, hended51, _, _, rfl, ?_, ⟨_, rfl⟩, hW51, hsame51.mono (by decide) (by decide)⟩
        · exact retN X47 hx (t := .boolean) Bd.returns (by simp) (hb hby at_170) hr51
        · show Q_rm0 Z i1 i2 i3 i4 i5 cs h0 n0 _ T47.heap _
          rw [e47']
          exact ⟨rfl, N47⟩
      · have hk3 : n7 = 3 := by
          have q := c_and i5 3 (by decide)
          have h3 : (3 : Int32).toInt = 3 := by decide
          rw [← hn7, h3] at q
          rw [← Int32.toInt_inj] at hc61_25 hc77_33 hc92_41 ⊢
          have z0 : (0 : Int32).toInt = 0 := by decide
          have z1 : (1 : Int32).toInt = 1 := by decide
          have z2 : (2 : Int32).toInt = 2 := by decide
          omega
        have k52 : Rch p e below (s₁.setTop (entryFrame m #[(.int i1), (.int i2), (.int i3), (.int i4), (.int i5)] maxLocals)) T22 (mkF m 119 #[.val (.int i1), .val (.int i2), .val (.int i3), .val (.int i4), .val (.int i5), .val (.ref b1), .val (.int n7), .val (.int lb), .val (.int cb), .val (.ref b19), .val (.ref b19), .unset] [(.int i1), (.int lb)]) := fun tg kg => by
          refine k40 tg ?_
          show Steps p.tables e below (T22.setTop (mkF m 92 #[.val (.int i1), .val (.int i2), .val (.int i3), .val (.int i4), .val (.int i5), .val (.ref b1), .val (.int n7), .val (.int lb), .val (.int cb), .val (.ref b19), .unset, .unset] [(.int (2 : Int32)), (.int n7)])) tg
          refine XS.icmpYes X22.here hx rfl (pc0 := 92) (pc' := 112) rfl (hb hby at_92) rfl (feq hc92_41).2 (by decide) (by decide) ?_
          show Steps p.tables e below (T22.setTop (mkF m 112 #[.val (.int i1), .val (.int i2), .val (.int i3), .val (.int i4), .val (.int i5), .val (.ref b1), .val (.int n7), .val (.int lb), .val (.int cb), .val (.ref b19), .unset, .unset] [])) tg
          refine XS.aload X22.here hx rfl (hb hby at_112) rfl rfl ?_
          show Steps p.tables e below (T22.setTop (mkF m 114 #[.val (.int i1), .val (.int i2), .val (.int i3), .val (.int i4), .val (.int i5), .val (.ref b1), .val (.int n7), .val (.int lb), .val (.int cb), .val (.ref b19), .unset, .unset] [(.ref b19)])) tg
          refine XS.astore X22.here hx rfl (hb hby at_114) rfl rfl (l' := #[.val (.int i1), .val (.int i2), .val (.int i3), .val (.int i4), .val (.int i5), .val (.ref b1), .val (.int n7), .val (.int lb), .val (.int cb), .val (.ref b19), .val (.ref b19), .unset]) rfl ?_
          show Steps p.tables e below (T22.setTop (mkF m 116 #[.val (.int i1), .val (.int i2), .val (.int i3), .val (.int i4), .val (.int i5), .val (.ref b1), .val (.int n7), .val (.int lb), .val (.int cb), .val (.ref b19), .val (.ref b19), .unset] [])) tg
          refine XS.iload X22.here hx rfl (hb hby at_116) rfl ?_
          show Steps p.tables e below (T22.setTop (mkF m 118 #[.val (.int i1), .val (.int i2), .val (.int i3), .val (.int i4), .val (.int i5), .val (.ref b1), .val (.int n7), .val (.int lb), .val (.int cb), .val (.ref b19), .val (.ref b19), .unset] [(.int lb)])) tg
          refine XS.iloadN X22.here hx rfl (hb hby at_118) rfl ?_
          exact kg
        by_cases hc119_53 : lb = i1
        · have k54 : Rch p e below (s₁.setTop (entryFrame m #[(.int i1), (.int i2), (.int i3), (.int i4), (.int i5)] maxLocals)) T22 (mkF m 125 #[.val (.int i1), .val (.int i2), .val (.int i3), .val (.int i4), .val (.int i5), .val (.ref b1), .val (.int n7), .val (.int lb), .val (.int cb), .val (.ref b19), .val (.ref b19), .unset] [(.int i2), (.int cb)]) := fun tg kg => by
            refine k52 tg ?_
            show Steps p.tables e below (T22.setTop (mkF m 119 #[.val (.int i1), .val (.int i2), .val (.int i3), .val (.int i4), .val (.int i5), .val (.ref b1), .val (.int n7), .val (.int lb), .val (.int cb), .val (.ref b19), .val (.ref b19), .unset] [(.int i1), (.int lb)])) tg
            refine XS.icmpNo X22.here hx rfl (hb hby at_119) rfl (teq hc119_53).2 ?_
            show Steps p.tables e below (T22.setTop (mkF m 122 #[.val (.int i1), .val (.int i2), .val (.int i3), .val (.int i4), .val (.int i5), .val (.ref b1), .val (.int n7), .val (.int lb), .val (.int cb), .val (.ref b19), .val (.ref b19), .unset] [])) tg
            refine XS.iload X22.here hx rfl (hb hby at_122) rfl ?_
            show Steps p.tables e below (T22.setTop (mkF m 124 #[.val (.int i1), .val (.int i2), .val (.int i3), .val (.int i4), .val (.int i5), .val (.ref b1), .val (.int n7), .val (.int lb), .val (.int cb), .val (.ref b19), .val (.ref b19), .unset] [(.int cb)])) tg
            refine XS.iloadN X22.here hx rfl (hb hby at_124) rfl ?_
            exact kg
          by_cases hc125_55 : cb = i2
          · have k56 : Rch p e below (s₁.setTop (entryFrame m #[(.int i1), (.int i2), (.int i3), (.int i4), (.int i5)] maxLocals)) T22 (mkF m 139 #[.val (.int i1), .val (.int i2), .val (.int i3), .val (.int i4), .val (.int i5), .val (.ref b1), .val (.int n7), .val (.int lb), .val (.int cb), .val (.ref b19), .val (.ref b19), .val (.int (1 : Int32))] [(.ref b19), (.ref b1)]) := fun tg kg => by
              refine k54 tg ?_
              show Steps p.tables e below (T22.setTop (mkF m 125 #[.val (.int i1), .val (.int i2), .val (.int i3), .val (.int i4), .val (.int i5), .val (.ref b1), .val (.int n7), .val (.int lb), .val (.int cb), .val (.ref b19), .val (.ref b19), .unset] [(.int i2), (.int cb)])) tg
              refine XS.icmpNo X22.here hx rfl (hb hby at_125) rfl (teq hc125_55).2 ?_
              show Steps p.tables e below (T22.setTop (mkF m 128 #[.val (.int i1), .val (.int i2), .val (.int i3), .val (.int i4), .val (.int i5), .val (.ref b1), .val (.int n7), .val (.int lb), .val (.int cb), .val (.ref b19), .val (.ref b19), .unset] [])) tg
              refine XS.iconst X22.here hx rfl (hb hby at_128) ?_
              show Steps p.tables e below (T22.setTop (mkF m 129 #[.val (.int i1), .val (.int i2), .val (.int i3), .val (.int i4), .val (.int i5), .val (.ref b1), .val (.int n7), .val (.int lb), .val (.int cb), .val (.ref b19), .val (.ref b19), .unset] [(.int (1 : Int32))])) tg
              refine XS.goto X22.here hx rfl (pc0 := 129) (pc' := 133) rfl (hb hby at_129) (by decide) (by decide) ?_
              show Steps p.tables e below (T22.setTop (mkF m 133 #[.val (.int i1), .val (.int i2), .val (.int i3), .val (.int i4), .val (.int i5), .val (.ref b1), .val (.int n7), .val (.int lb), .val (.int cb), .val (.ref b19), .val (.ref b19), .unset] [(.int (1 : Int32))])) tg
              refine XS.istore X22.here hx rfl (hb hby at_133) rfl (l' := #[.val (.int i1), .val (.int i2), .val (.int i3), .val (.int i4), .val (.int i5), .val (.ref b1), .val (.int n7), .val (.int lb), .val (.int cb), .val (.ref b19), .val (.ref b19), .val (.int (1 : Int32))]) rfl ?_
              show Steps p.tables e below (T22.setTop (mkF m 135 #[.val (.int i1), .val (.int i2), .val (.int i3), .val (.int i4), .val (.int i5), .val (.ref b1), .val (.int n7), .val (.int lb), .val (.int cb), .val (.ref b19), .val (.ref b19), .val (.int (1 : Int32))] [])) tg
              refine XS.aload X22.here hx rfl (hb hby at_135) rfl rfl ?_
              show Steps p.tables e below (T22.setTop (mkF m 137 #[.val (.int i1), .val (.int i2), .val (.int i3), .val (.int i4), .val (.int i5), .val (.ref b1), .val (.int n7), .val (.int lb), .val (.int cb), .val (.ref b19), .val (.ref b19), .val (.int (1 : Int32))] [(.ref b1)])) tg
              refine XS.aload X22.here hx rfl (hb hby at_137) rfl rfl ?_
              exact kg
            have f58 : Fld Z h22 b1 "com/example/probabilistic_event_models/probabilisticeventmodels/model/SourcePosition" "line" "I" (.int i1) := ((fq4_4.ext E19).keep K22 (ninS (by first | exact own_ne (by omega) | assumption | (apply Ne.symm; assumption)) nin0))
            have f59 : Fld Z h22 b1 "com/example/probabilistic_event_models/probabilisticeventmodels/model/SourcePosition" "column" "I" (.int i2) := ((fq4_5.ext E19).keep K22 (ninS (by first | exact own_ne (by omega) | assumption | (apply Ne.symm; assumption)) nin0))
            have f60 : Exa Z h22 b1 "com/example/probabilistic_event_models/probabilisticeventmodels/model/SourcePosition" := ((fq4_3.ext E19).keep K22)
            obtain ⟨v57, T57, h57, Lc57, X57, e57, hQ57, st57⟩ := own_callV X22 hx hZ hown (hw _ (List.mem_of_getElem? (i := 13) rfl)) (hw _ (List.mem_of_getElem? (i := 14) rfl)) (notFace_of_selects (args := #[]) (mvT hZ (hw _ (List.mem_of_getElem? (i := 16) rfl)))) (hw _ (List.mem_of_getElem? (i := 16) rfl)) (hw _ (List.mem_of_getElem? (i := 15) rfl)) (hw _ (List.mem_of_getElem? (i := 17) rfl)) (hw _ (List.mem_of_getElem? (i := 2) rfl)) (by decide) (rm_eqPos l Z a0 hw [] b1 b19 i1 i2 lb cb h22 n0 (by omega) fq22_3 (own_ne (by omega)) f58 f59 fq22_4 fq22_5) e22 f60 (g := (mkF m 139 #[.val (.int i1), .val (.int i2), .val (.int i3), .val (.int i4), .val (.int i5), .val (.ref b1), .val (.int n7), .val (.int lb), .val (.int cb), .val (.ref b19), .val (.ref b19), .val (.int (1 : Int32))] [(.ref b19), (.ref b1)])) rfl (by rw [hml]; rfl) (argsL := [(.ref b19)]) (rest := []) rfl (lenOf pd_4 rfl) rfl (W := 0) (by show 2 * 0 + _ ≤ _; exact Nat.le_of_eq rfl) (hb hby at_139) (by decide) (by decide) (by decide) (by decide)
            obtain ⟨rfl, Nq57, hs57⟩ := hQ57
            have N57 := Fr.app N22 Nq57
            have e57' : T57.heap = h22 := e57.trans hs57
            have k61 : Rch p e below (s₁.setTop (entryFrame m #[(.int i1), (.int i2), (.int i3), (.int i4), (.int i5)] maxLocals)) T57 (mkF m 142 #[.val (.int i1), .val (.int i2), .val (.int i3), .val (.int i4), .val (.int i5), .val (.ref b1), .val (.int n7), .val (.int lb), .val (.int cb), .val (.ref b19), .val (.ref b19), .val (.int (1 : Int32))] [(.int (own_b (i1 = lb ∧ i2 = cb)))]) := fun tg kg => k56 tg (st57 tg kg)
            have k62 : Rch p e below (s₁.setTop (entryFrame m #[(.int i1), (.int i2), (.int i3), (.int i4), (.int i5)] maxLocals)) T57 (mkF m 159 #[.val (.int i1), .val (.int i2), .val (.int i3), .val (.int i4), .val (.int i5), .val (.ref b1), .val (.int n7), .val (.int lb), .val (.int cb), .val (.ref b19), .val (.ref b19), .val (.int (1 : Int32))] [(.ref b1), (.ref b19)]) := fun tg kg => by
              refine k61 tg ?_
              show Steps p.tables e below (T57.setTop (mkF m 142 #[.val (.int i1), .val (.int i2), .val (.int i3), .val (.int i4), .val (.int i5), .val (.ref b1), .val (.int n7), .val (.int lb), .val (.int cb), .val (.ref b19), .val (.ref b19), .val (.int (1 : Int32))] [(.int (own_b (i1 = lb ∧ i2 = cb)))])) tg
              refine XS.iload X57.here hx rfl (hb hby at_142) rfl ?_
              show Steps p.tables e below (T57.setTop (mkF m 144 #[.val (.int i1), .val (.int i2), .val (.int i3), .val (.int i4), .val (.int i5), .val (.ref b1), .val (.int n7), .val (.int lb), .val (.int cb), .val (.ref b19), .val (.ref b19), .val (.int (1 : Int32))] [(.int (1 : Int32)), (.int (own_b (i1 = lb ∧ i2 = cb)))])) tg
              refine XS.icmpYes X57.here hx rfl (pc0 := 144) (pc' := 149) rfl (hb hby at_144) rfl (teq (own_bT ⟨hc119_53.symm, hc125_55.symm⟩)).1 (by decide) (by decide) ?_
              show Steps p.tables e below (T57.setTop (mkF m 149 #[.val (.int i1), .val (.int i2), .val (.int i3), .val (.int i4), .val (.int i5), .val (.ref b1), .val (.int n7), .val (.int lb), .val (.int cb), .val (.ref b19), .val (.ref b19), .val (.int (1 : Int32))] [])) tg
              refine XS.iload X57.here hx rfl (hb hby at_149) rfl ?_
              show Steps p.tables e below (T57.setTop (mkF m 151 #[.val (.int i1), .val (.int i2), .val (.int i3), .val (.int i4), .val (.int i5), .val (.ref b1), .val (.int n7), .val (.int lb), .val (.int cb), .val (.ref b19), .val (.ref b19), .val (.int (1 : Int32))] [(.int n7)])) tg
              refine XS.iconst X57.here hx rfl (hb hby at_151) ?_
              show Steps p.tables e below (T57.setTop (mkF m 152 #[.val (.int i1), .val (.int i2), .val (.int i3), .val (.int i4), .val (.int i5), .val (.ref b1), .val (.int n7), .val (.int lb), .val (.int cb), .val (.ref b19), .val (.ref b19), .val (.int (1 : Int32))] [(.int (3 : Int32)), (.int n7)])) tg
              refine XS.icmpNo X57.here hx rfl (hb hby at_152) rfl (teq hk3).2 ?_
              show Steps p.tables e below (T57.setTop (mkF m 155 #[.val (.int i1), .val (.int i2), .val (.int i3), .val (.int i4), .val (.int i5), .val (.ref b1), .val (.int n7), .val (.int lb), .val (.int cb), .val (.ref b19), .val (.ref b19), .val (.int (1 : Int32))] [])) tg
              refine XS.aload X57.here hx rfl (hb hby at_155) rfl rfl ?_
              show Steps p.tables e below (T57.setTop (mkF m 157 #[.val (.int i1), .val (.int i2), .val (.int i3), .val (.int i4), .val (.int i5), .val (.ref b1), .val (.int n7), .val (.int lb), .val (.int cb), .val (.ref b19), .val (.ref b19), .val (.int (1 : Int32))] [(.ref b19)])) tg
              refine XS.aload X57.here hx rfl (hb hby at_157) rfl rfl ?_
              exact kg
            obtain ⟨v63, T63, h63, Lc63, X63, e63, hQ63, st63⟩ := own_callV X57 hx hZ hown (hw _ (List.mem_of_getElem? (i := 13) rfl)) (hw _ (List.mem_of_getElem? (i := 14) rfl)) (notFace_of_selects (args := #[]) (mvT hZ (hw _ (List.mem_of_getElem? (i := 16) rfl)))) (hw _ (List.mem_of_getElem? (i := 16) rfl)) (hw _ (List.mem_of_getElem? (i := 15) rfl)) (hw _ (List.mem_of_getElem? (i := 17) rfl)) (hw _ (List.mem_of_getElem? (i := 2) rfl)) (by decide) (rm_eqPos l Z a0 hw [] b19 b1 lb cb i1 i2 h22 n0 (by omega) f60 (own_ne (by omega)) fq22_4 fq22_5 f58 f59) e57' fq22_3 (g := (mkF m 159 #[.val (.int i1), .val (.int i2), .val (.int i3), .val (.int i4), .val (.int i5), .val (.ref b1), .val (.int n7), .val (.int lb), .val (.int cb), .val (.ref b19), .val (.ref b19), .val (.int (1 : Int32))] [(.ref b1), (.ref b19)])) rfl (by rw [hml]; rfl) (argsL := [(.ref b1)]) (rest := []) rfl (lenOf pd_4 rfl) rfl (W := 0) (by show 2 * 0 + _ ≤ _; exact Nat.le_of_eq rfl) (hb hby at_159) (by decide) (by decide) (by decide) (by decide)
            obtain ⟨rfl, Nq63, hs63⟩ := hQ63
            have N63 := Fr.app N57 Nq63
            have e63' : T63.heap = h22 := e63.trans hs63
            have k64 : Rch p e below (s₁.setTop (entryFrame m #[(.int i1), (.int i2), (.int i3), (.int i4), (.int i5)] maxLocals)) T63 (mkF m 162 #[.val (.int i1), .val (.int i2), .val (.int i3), .val (.int i4), .val (.int i5), .val (.ref b1), .val (.int n7), .val (.int lb), .val (.int cb), .val (.ref b19), .val (.ref b19), .val (.int (1 : Int32))] [(.int (own_b (lb = i1 ∧ cb = i2)))]) := fun tg kg => k62 tg (st63 tg kg)
            have k65 : Rch p e below (s₁.setTop (entryFrame m #[(.int i1), (.int i2), (.int i3), (.int i4), (.int i5)] maxLocals)) T63 (mkF m 170 #[.val (.int i1), .val (.int i2), .val (.int i3), .val (.int i4), .val (.int i5), .val (.ref b1), .val (.int n7), .val (.int lb), .val (.int cb), .val (.ref b19), .val (.ref b19), .val (.int (1 : Int32))] [(.int (1 : Int32))]) := fun tg kg => by
              refine k64 tg ?_
              show Steps p.tables e below (T63.setTop (mkF m 162 #[.val (.int i1), .val (.int i2), .val (.int i3), .val (.int i4), .val (.int i5), .val (.ref b1), .val (.int n7), .val (.int lb), .val (.int cb), .val (.ref b19), .val (.ref b19), .val (.int (1 : Int32))] [(.int (own_b (lb = i1 ∧ cb = i2)))])) tg
              refine XS.iload X63.here hx rfl (hb hby at_162) rfl ?_
              show Steps p.tables e below (T63.setTop (mkF m 164 #[.val (.int i1), .val (.int i2), .val (.int i3), .val (.int i4), .val (.int i5), .val (.ref b1), .val (.int n7), .val (.int lb), .val (.int cb), .val (.ref b19), .val (.ref b19), .val (.int (1 : Int32))] [(.int (1 : Int32)), (.int (own_b (lb = i1 ∧ cb = i2)))])) tg
              refine XS.icmpYes X63.here hx rfl (pc0 := 164) (pc' := 169) rfl (hb hby at_164) rfl (teq (own_bT ⟨hc119_53, hc125_55⟩)).1 (by decide) (by decide) ?_
              show Steps p.tables e below (T63.setTop (mkF m 169 #[.val (.int i1), .val (.int i2), .val (.int i3), .val (.int i4), .val (.int i5), .val (.ref b1), .val (.int n7), .val (.int lb), .val (.int cb), .val (.ref b19), .val (.ref b19), .val (.int (1 : Int32))] [])) tg
              refine XS.iconst X63.here hx rfl (hb hby at_169) ?_
              exact kg
            obtain ⟨fs66, hr66, hrun66, hended66, hW66, hsame66⟩ := X63.leave (v := some (.int (nar .boolean (1 : Int32)))) (fun h => by rw [Bd.returns] at h; cases h)
            refine ⟨_, _, k65 _ ?_, hrun66, hended66, _, _, rfl, ?_, ⟨_, rfl⟩, hW66, hsame66.mono (by decide) (by decide)⟩
            · exact retN X63 hx (t := .boolean) Bd.returns (by simp) (hb hby at_170) hr66
            · show Q_rm0 Z i1 i2 i3 i4 i5 cs h0 n0 _ T63.heap _
              rw [e63']
              exact ⟨rfl, N63⟩
          · have k67 : Rch p e below (s₁.setTop (entryFrame m #[(.int i1), (.int i2), (.int i3), (.int i4), (.int i5)] maxLocals)) T22 (mkF m 139 #[.val (.int i1), .val (.int i2), .val (.int i3), .val (.int i4), .val (.int i5), .val (.ref b1), .val (.int n7), .val (.int lb), .val (.int cb), .val (.ref b19), .val (.ref b19), .val (.int (0 : Int32))] [(.ref b19), (.ref b1)]) := fun tg kg => by
              refine k54 tg ?_
              show Steps p.tables e below (T22.setTop (mkF m 125 #[.val (.int i1), .val (.int i2), .val (.int i3), .val (.int i4), .val (.int i5), .val (.ref b1), .val (.int n7), .val (.int lb), .val (.int cb), .val (.ref b19), .val (.ref b19), .unset] [(.int i2), (.int cb)])) tg
              refine XS.icmpYes X22.here hx rfl (pc0 := 125) (pc' := 132) rfl (hb hby at_125) rfl (feq hc125_55).2 (by decide) (by decide) ?_
              show Steps p.tables e below (T22.setTop (mkF m 132 #[.val (.int i1), .val (.int i2), .val (.int i3), .val (.int i4), .val (.int i5), .val (.ref b1), .val (.int n7), .val (.int lb), .val (.int cb), .val (.ref b19), .val (.ref b19), .unset] [])) tg
              refine XS.iconst X22.here hx rfl (hb hby at_132) ?_
              show Steps p.tables e below (T22.setTop (mkF m 133 #[.val (.int i1), .val (.int i2), .val (.int i3), .val (.int i4), .val (.int i5), .val (.ref b1), .val (.int n7), .val (.int lb), .val (.int cb), .val (.ref b19), .val (.ref b19), .unset] [(.int (0 : Int32))])) tg
              refine XS.istore X22.here hx rfl (hb hby at_133) rfl (l' := #[.val (.int i1), .val (.int i2), .val (.int i3), .val (.int i4), .val (.int i5), .val (.ref b1), .val (.int n7), .val (.int lb), .val (.int cb), .val (.ref b19), .val (.ref b19), .val (.int (0 : Int32))]) rfl ?_
              show Steps p.tables e below (T22.setTop (mkF m 135 #[.val (.int i1), .val (.int i2), .val (.int i3), .val (.int i4), .val (.int i5), .val (.ref b1), .val (.int n7), .val (.int lb), .val (.int cb), .val (.ref b19), .val (.ref b19), .val (.int (0 : Int32))] [])) tg
              refine XS.aload X22.here hx rfl (hb hby at_135) rfl rfl ?_
              show Steps p.tables e below (T22.setTop (mkF m 137 #[.val (.int i1), .val (.int i2), .val (.int i3), .val (.int i4), .val (.int i5), .val (.ref b1), .val (.int n7), .val (.int lb), .val (.int cb), .val (.ref b19), .val (.ref b19), .val (.int (0 : Int32))] [(.ref b1)])) tg
              refine XS.aload X22.here hx rfl (hb hby at_137) rfl rfl ?_
              exact kg
            have f69 : Fld Z h22 b1 "com/example/probabilistic_event_models/probabilisticeventmodels/model/SourcePosition" "line" "I" (.int i1) := ((fq4_4.ext E19).keep K22 (ninS (by first | exact own_ne (by omega) | assumption | (apply Ne.symm; assumption)) nin0))
            have f70 : Fld Z h22 b1 "com/example/probabilistic_event_models/probabilisticeventmodels/model/SourcePosition" "column" "I" (.int i2) := ((fq4_5.ext E19).keep K22 (ninS (by first | exact own_ne (by omega) | assumption | (apply Ne.symm; assumption)) nin0))
            have f71 : Exa Z h22 b1 "com/example/probabilistic_event_models/probabilisticeventmodels/model/SourcePosition" := ((fq4_3.ext E19).keep K22)
            obtain ⟨v68, T68, h68, Lc68, X68, e68, hQ68, st68⟩ := own_callV X22 hx hZ hown (hw _ (List.mem_of_getElem? (i := 13) rfl)) (hw _ (List.mem_of_getElem? (i := 14) rfl)) (notFace_of_selects (args := #[]) (mvT hZ (hw _ (List.mem_of_getElem? (i := 16) rfl)))) (hw _ (List.mem_of_getElem? (i := 16) rfl)) (hw _ (List.mem_of_getElem? (i := 15) rfl)) (hw _ (List.mem_of_getElem? (i := 17) rfl)) (hw _ (List.mem_of_getElem? (i := 2) rfl)) (by decide) (rm_eqPos l Z a0 hw [] b1 b19 i1 i2 lb cb h22 n0 (by omega) fq22_3 (own_ne (by omega)) f69 f70 fq22_4 fq22_5) e22 f71 (g := (mkF m 139 #[.val (.int i1), .val (.int i2), .val (.int i3), .val (.int i4), .val (.int i5), .val (.ref b1), .val (.int n7), .val (.int lb), .val (.int cb), .val (.ref b19), .val (.ref b19), .val (.int (0 : Int32))] [(.ref b19), (.ref b1)])) rfl (by rw [hml]; rfl) (argsL := [(.ref b19)]) (rest := []) rfl (lenOf pd_4 rfl) rfl (W := 0) (by show 2 * 0 + _ ≤ _; exact Nat.le_of_eq rfl) (hb hby at_139) (by decide) (by decide) (by decide) (by decide)
            obtain ⟨rfl, Nq68, hs68⟩ := hQ68
            have N68 := Fr.app N22 Nq68
            have e68' : T68.heap = h22 := e68.trans hs68
            have k72 : Rch p e below (s₁.setTop (entryFrame m #[(.int i1), (.int i2), (.int i3), (.int i4), (.int i5)] maxLocals)) T68 (mkF m 142 #[.val (.int i1), .val (.int i2), .val (.int i3), .val (.int i4), .val (.int i5), .val (.ref b1), .val (.int n7), .val (.int lb), .val (.int cb), .val (.ref b19), .val (.ref b19), .val (.int (0 : Int32))] [(.int (own_b (i1 = lb ∧ i2 = cb)))]) := fun tg kg => k67 tg (st68 tg kg)
            have k73 : Rch p e below (s₁.setTop (entryFrame m #[(.int i1), (.int i2), (.int i3), (.int i4), (.int i5)] maxLocals)) T68 (mkF m 159 #[.val (.int i1), .val (.int i2), .val (.int i3), .val (.int i4), .val (.int i5), .val (.ref b1), .val (.int n7), .val (.int lb), .val (.int cb), .val (.ref b19), .val (.ref b19), .val (.int (0 : Int32))] [(.ref b1), (.ref b19)]) := fun tg kg => by
              refine k72 tg ?_
              show Steps p.tables e below (T68.setTop (mkF m 142 #[.val (.int i1), .val (.int i2), .val (.int i3), .val (.int i4), .val (.int i5), .val (.ref b1), .val (.int n7), .val (.int lb), .val (.int cb), .val (.ref b19), .val (.ref b19), .val (.int (0 : Int32))] [(.int (own_b (i1 = lb ∧ i2 = cb)))])) tg
              refine XS.iload X68.here hx rfl (hb hby at_142) rfl ?_
              show Steps p.tables e below (T68.setTop (mkF m 144 #[.val (.int i1), .val (.int i2), .val (.int i3), .val (.int i4), .val (.int i5), .val (.ref b1), .val (.int n7), .val (.int lb), .val (.int cb), .val (.ref b19), .val (.ref b19), .val (.int (0 : Int32))] [(.int (0 : Int32)), (.int (own_b (i1 = lb ∧ i2 = cb)))])) tg
              refine XS.icmpYes X68.here hx rfl (pc0 := 144) (pc' := 149) rfl (hb hby at_144) rfl (teq (own_bF (fun q => hc125_55 q.2.symm))).1 (by decide) (by decide) ?_
              show Steps p.tables e below (T68.setTop (mkF m 149 #[.val (.int i1), .val (.int i2), .val (.int i3), .val (.int i4), .val (.int i5), .val (.ref b1), .val (.int n7), .val (.int lb), .val (.int cb), .val (.ref b19), .val (.ref b19), .val (.int (0 : Int32))] [])) tg
              refine XS.iload X68.here hx rfl (hb hby at_149) rfl ?_
              show Steps p.tables e below (T68.setTop (mkF m 151 #[.val (.int i1), .val (.int i2), .val (.int i3), .val (.int i4), .val (.int i5), .val (.ref b1), .val (.int n7), .val (.int lb), .val (.int cb), .val (.ref b19), .val (.ref b19), .val (.int (0 : Int32))] [(.int n7)])) tg
              refine XS.iconst X68.here hx rfl (hb hby at_151) ?_
              show Steps p.tables e below (T68.setTop (mkF m 152 #[.val (.int i1), .val (.int i2), .val (.int i3), .val (.int i4), .val (.int i5), .val (.ref b1), .val (.int n7), .val (.int lb), .val (.int cb), .val (.ref b19), .val (.ref b19), .val (.int (0 : Int32))] [(.int (3 : Int32)), (.int n7)])) tg
              refine XS.icmpNo X68.here hx rfl (hb hby at_152) rfl (teq hk3).2 ?_
              show Steps p.tables e below (T68.setTop (mkF m 155 #[.val (.int i1), .val (.int i2), .val (.int i3), .val (.int i4), .val (.int i5), .val (.ref b1), .val (.int n7), .val (.int lb), .val (.int cb), .val (.ref b19), .val (.ref b19), .val (.int (0 : Int32))] [])) tg
              refine XS.aload X68.here hx rfl (hb hby at_155) rfl rfl ?_
              show Steps p.tables e below (T68.setTop (mkF m 157 #[.val (.int i1), .val (.int i2), .val (.int i3), .val (.int i4), .val (.int i5), .val (.ref b1), .val (.int n7), .val (.int lb), .val (.int cb), .val (.ref b19), .val (.ref b19), .val (.int (0 : Int32))] [(.ref b19)])) tg
              refine XS.aload X68.here hx rfl (hb hby at_157) rfl rfl ?_
              exact kg
            obtain ⟨v74, T74, h74, Lc74, X74, e74, hQ74, st74⟩ := own_callV X68 hx hZ hown (hw _ (List.mem_of_getElem? (i := 13) rfl)) (hw _ (List.mem_of_getElem? (i := 14) rfl)) (notFace_of_selects (args := #[]) (mvT hZ (hw _ (List.mem_of_getElem? (i := 16) rfl)))) (hw _ (List.mem_of_getElem? (i := 16) rfl)) (hw _ (List.mem_of_getElem? (i := 15) rfl)) (hw _ (List.mem_of_getElem? (i := 17) rfl)) (hw _ (List.mem_of_getElem? (i := 2) rfl)) (by decide) (rm_eqPos l Z a0 hw [] b19 b1 lb cb i1 i2 h22 n0 (by omega) f71 (own_ne (by omega)) fq22_4 fq22_5 f69 f70) e68' fq22_3 (g := (mkF m 159 #[.val (.int i1), .val (.int i2), .val (.int i3), .val (.int i4), .val (.int i5), .val (.ref b1), .val (.int n7), .val (.int lb), .val (.int cb), .val (.ref b19), .val (.ref b19), .val (.int (0 : Int32))] [(.ref b1), (.ref b19)])) rfl (by rw [hml]; rfl) (argsL := [(.ref b1)]) (rest := []) rfl (lenOf pd_4 rfl) rfl (W := 0) (by show 2 * 0 + _ ≤ _; exact Nat.le_of_eq rfl) (hb hby at_159) (by decide) (by decide) (by decide) (by decide)
            obtain ⟨rfl, Nq74, hs74⟩ := hQ74
            have N74 := Fr.app N68 Nq74
            have e74' : T74.heap = h22 := e74.trans hs74
            have k75 : Rch p e below (s₁.setTop (entryFrame m #[(.int i1), (.int i2), (.int i3), (.int i4), (.int i5)] maxLocals)) T74 (mkF m 162 #[.val (.int i1), .val (.int i2), .val (.int i3), .val (.int i4), .val (.int i5), .val (.ref b1), .val (.int n7), .val (.int lb), .val (.int cb), .val (.ref b19), .val (.ref b19), .val (.int (0 : Int32))] [(.int (own_b (lb = i1 ∧ cb = i2)))]) := fun tg kg => k73 tg (st74 tg kg)
            have k76 : Rch p e below (s₁.setTop (entryFrame m #[(.int i1), (.int i2), (.int i3), (.int i4), (.int i5)] maxLocals)) T74 (mkF m 170 #[.val (.int i1), .val (.int i2), .val (.int i3), .val (.int i4), .val (.int i5), .val (.ref b1), .val (.int n7), .val (.int lb), .val (.int cb), .val (.ref b19), .val (.ref b19), .val (.int (0 : Int32))] [(.int (1 : Int32))]) := fun tg kg => by
              refine k75 tg ?_
              show Steps p.tables e below (T74.setTop (mkF m 162 #[.val (.int i1), .val (.int i2), .val (.int i3), .val (.int i4), .val (.int i5), .val (.ref b1), .val (.int n7), .val (.int lb), .val (.int cb), .val (.ref b19), .val (.ref b19), .val (.int (0 : Int32))] [(.int (own_b (lb = i1 ∧ cb = i2)))])) tg
              refine XS.iload X74.here hx rfl (hb hby at_162) rfl ?_
              show Steps p.tables e below (T74.setTop (mkF m 164 #[.val (.int i1), .val (.int i2), .val (.int i3), .val (.int i4), .val (.int i5), .val (.ref b1), .val (.int n7), .val (.int lb), .val (.int cb), .val (.ref b19), .val (.ref b19), .val (.int (0 : Int32))] [(.int (0 : Int32)), (.int (own_b (lb = i1 ∧ cb = i2)))])) tg
              refine XS.icmpYes X74.here hx rfl (pc0 := 164) (pc' := 169) rfl (hb hby at_164) rfl (teq (own_bF (fun q => hc125_55 q.2))).1 (by decide) (by decide) ?_
              show Steps p.tables e below (T74.setTop (mkF m 169 #[.val (.int i1), .val (.int i2), .val (.int i3), .val (.int i4), .val (.int i5), .val (.ref b1), .val (.int n7), .val (.int lb), .val (.int cb), .val (.ref b19), .val (.ref b19), .val (.int (0 : Int32))] [])) tg
              refine XS.iconst X74.here hx rfl (hb hby at_169) ?_
              exact kg
            obtain ⟨fs77, hr77, hrun77, hended77, hW77, hsame77⟩ := X74.leave (v := some (.int (nar .boolean (1 : Int32)))) (fun h => by rw [Bd.returns] at h; cases h)
            refine ⟨_, _, k76 _ ?_, hrun77, hended77, _, _, rfl, ?_, ⟨_, rfl⟩, hW77, hsame77.mono (by decide) (by decide)⟩
            · exact retN X74 hx (t := .boolean) Bd.returns (by simp) (hb hby at_170) hr77
            · show Q_rm0 Z i1 i2 i3 i4 i5 cs h0 n0 _ T74.heap _
              rw [e74']
              exact ⟨rfl, N74⟩
        · have k78 : Rch p e below (s₁.setTop (entryFrame m #[(.int i1), (.int i2), (.int i3), (.int i4), (.int i5)] maxLocals)) T22 (mkF m 139 #[.val (.int i1), .val (.int i2), .val (.int i3), .val (.int i4), .val (.int i5), .val (.ref b1), .val (.int n7), .val (.int lb), .val (.int cb), .val (.ref b19), .val (.ref b19), .val (.int (0 : Int32))] [(.ref b19), (.ref b1)]) := fun tg kg => by
            refine k52 tg ?_
            show Steps p.tables e below (T22.setTop (mkF m 119 #[.val (.int i1), .val (.int i2), .val (.int i3), .val (.int i4), .val (.int i5), .val (.ref b1), .val (.int n7), .val (.int lb), .val (.int cb), .val (.ref b19), .val (.ref b19), .unset] [(.int i1), (.int lb)])) tg
            refine XS.icmpYes X22.here hx rfl (pc0 := 119) (pc' := 132) rfl (hb hby at_119) rfl (feq hc119_53).2 (by decide) (by decide) ?_
            show Steps p.tables e below (T22.setTop (mkF m 132 #[.val (.int i1), .val (.int i2), .val (.int i3), .val (.int i4), .val (.int i5), .val (.ref b1), .val (.int n7), .val (.int lb), .val (.int cb), .val (.ref b19), .val (.ref b19), .unset] [])) tg
            refine XS.iconst X22.here hx rfl (hb hby at_132) ?_
            show Steps p.tables e below (T22.setTop (mkF m 133 #[.val (.int i1), .val (.int i2), .val (.int i3), .val (.int i4), .val (.int i5), .val (.ref b1), .val (.int n7), .val (.int lb), .val (.int cb), .val (.ref b19), .val (.ref b19), .unset] [(.int (0 : Int32))])) tg
            refine XS.istore X22.here hx rfl (hb hby at_133) rfl (l' := #[.val (.int i1), .val (.int i2), .val (.int i3), .val (.int i4), .val (.int i5), .val (.ref b1), .val (.int n7), .val (.int lb), .val (.int cb), .val (.ref b19), .val (.ref b19), .val (.int (0 : Int32))]) rfl ?_
            show Steps p.tables e below (T22.setTop (mkF m 135 #[.val (.int i1), .val (.int i2), .val (.int i3), .val (.int i4), .val (.int i5), .val (.ref b1), .val (.int n7), .val (.int lb), .val (.int cb), .val (.ref b19), .val (.ref b19), .val (.int (0 : Int32))] [])) tg
            refine XS.aload X22.here hx rfl (hb hby at_135) rfl rfl ?_
            show Steps p.tables e below (T22.setTop (mkF m 137 #[.val (.int i1), .val (.int i2), .val (.int i3), .val (.int i4), .val (.int i5), .val (.ref b1), .val (.int n7), .val (.int lb), .val (.int cb), .val (.ref b19), .val (.ref b19), .val (.int (0 : Int32))] [(.ref b1)])) tg
            refine XS.aload X22.here hx rfl (hb hby at_137) rfl rfl ?_
            exact kg
          have f80 : Fld Z h22 b1 "com/example/probabilistic_event_models/probabilisticeventmodels/model/SourcePosition" "line" "I" (.int i1) := ((fq4_4.ext E19).keep K22 (ninS (by first | exact own_ne (by omega) | assumption | (apply Ne.symm; assumption)) nin0))
          have f81 : Fld Z h22 b1 "com/example/probabilistic_event_models/probabilisticeventmodels/model/SourcePosition" "column" "I" (.int i2) := ((fq4_5.ext E19).keep K22 (ninS (by first | exact own_ne (by omega) | assumption | (apply Ne.symm; assumption)) nin0))
          have f82 : Exa Z h22 b1 "com/example/probabilistic_event_models/probabilisticeventmodels/model/SourcePosition" := ((fq4_3.ext E19).keep K22)
          obtain ⟨v79, T79, h79, Lc79, X79, e79, hQ79, st79⟩ := own_callV X22 hx hZ hown (hw _ (List.mem_of_getElem? (i := 13) rfl)) (hw _ (List.mem_of_getElem? (i := 14) rfl)) (notFace_of_selects (args := #[]) (mvT hZ (hw _ (List.mem_of_getElem? (i := 16) rfl)))) (hw _ (List.mem_of_getElem? (i := 16) rfl)) (hw _ (List.mem_of_getElem? (i := 15) rfl)) (hw _ (List.mem_of_getElem? (i := 17) rfl)) (hw _ (List.mem_of_getElem? (i := 2) rfl)) (by decide) (rm_eqPos l Z a0 hw [] b1 b19 i1 i2 lb cb h22 n0 (by omega) fq22_3 (own_ne (by omega)) f80 f81 fq22_4 fq22_5) e22 f82 (g := (mkF m 139 #[.val (.int i1), .val (.int i2), .val (.int i3), .val (.int i4), .val (.int i5), .val (.ref b1), .val (.int n7), .val (.int lb), .val (.int cb), .val (.ref b19), .val (.ref b19), .val (.int (0 : Int32))] [(.ref b19), (.ref b1)])) rfl (by rw [hml]; rfl) (argsL := [(.ref b19)]) (rest := []) rfl (lenOf pd_4 rfl) rfl (W := 0) (by show 2 * 0 + _ ≤ _; exact Nat.le_of_eq rfl) (hb hby at_139) (by decide) (by decide) (by decide) (by decide)
          obtain ⟨rfl, Nq79, hs79⟩ := hQ79
          have N79 := Fr.app N22 Nq79
          have e79' : T79.heap = h22 := e79.trans hs79
          have k83 : Rch p e below (s₁.setTop (entryFrame m #[(.int i1), (.int i2), (.int i3), (.int i4), (.int i5)] maxLocals)) T79 (mkF m 142 #[.val (.int i1), .val (.int i2), .val (.int i3), .val (.int i4), .val (.int i5), .val (.ref b1), .val (.int n7), .val (.int lb), .val (.int cb), .val (.ref b19), .val (.ref b19), .val (.int (0 : Int32))] [(.int (own_b (i1 = lb ∧ i2 = cb)))]) := fun tg kg => k78 tg (st79 tg kg)
          have k84 : Rch p e below (s₁.setTop (entryFrame m #[(.int i1), (.int i2), (.int i3), (.int i4), (.int i5)] maxLocals)) T79 (mkF m 159 #[.val (.int i1), .val (.int i2), .val (.int i3), .val (.int i4), .val (.int i5), .val (.ref b1), .val (.int n7), .val (.int lb), .val (.int cb), .val (.ref b19), .val (.ref b19), .val (.int (0 : Int32))] [(.ref b1), (.ref b19)]) := fun tg kg => by
            refine k83 tg ?_
            show Steps p.tables e below (T79.setTop (mkF m 142 #[.val (.int i1), .val (.int i2), .val (.int i3), .val (.int i4), .val (.int i5), .val (.ref b1), .val (.int n7), .val (.int lb), .val (.int cb), .val (.ref b19), .val (.ref b19), .val (.int (0 : Int32))] [(.int (own_b (i1 = lb ∧ i2 = cb)))])) tg
            refine XS.iload X79.here hx rfl (hb hby at_142) rfl ?_
            show Steps p.tables e below (T79.setTop (mkF m 144 #[.val (.int i1), .val (.int i2), .val (.int i3), .val (.int i4), .val (.int i5), .val (.ref b1), .val (.int n7), .val (.int lb), .val (.int cb), .val (.ref b19), .val (.ref b19), .val (.int (0 : Int32))] [(.int (0 : Int32)), (.int (own_b (i1 = lb ∧ i2 = cb)))])) tg
            refine XS.icmpYes X79.here hx rfl (pc0 := 144) (pc' := 149) rfl (hb hby at_144) rfl (teq (own_bF (fun q => hc119_53 q.1.symm))).1 (by decide) (by decide) ?_
            show Steps p.tables e below (T79.setTop (mkF m 149 #[.val (.int i1), .val (.int i2), .val (.int i3), .val (.int i4), .val (.int i5), .val (.ref b1), .val (.int n7), .val (.int lb), .val (.int cb), .val (.ref b19), .val (.ref b19), .val (.int (0 : Int32))] [])) tg
            refine XS.iload X79.here hx rfl (hb hby at_149) rfl ?_
            show Steps p.tables e below (T79.setTop (mkF m 151 #[.val (.int i1), .val (.int i2), .val (.int i3), .val (.int i4), .val (.int i5), .val (.ref b1), .val (.int n7), .val (.int lb), .val (.int cb), .val (.ref b19), .val (.ref b19), .val (.int (0 : Int32))] [(.int n7)])) tg
            refine XS.iconst X79.here hx rfl (hb hby at_151) ?_
            show Steps p.tables e below (T79.setTop (mkF m 152 #[.val (.int i1), .val (.int i2), .val (.int i3), .val (.int i4), .val (.int i5), .val (.ref b1), .val (.int n7), .val (.int lb), .val (.int cb), .val (.ref b19), .val (.ref b19), .val (.int (0 : Int32))] [(.int (3 : Int32)), (.int n7)])) tg
            refine XS.icmpNo X79.here hx rfl (hb hby at_152) rfl (teq hk3).2 ?_
            show Steps p.tables e below (T79.setTop (mkF m 155 #[.val (.int i1), .val (.int i2), .val (.int i3), .val (.int i4), .val (.int i5), .val (.ref b1), .val (.int n7), .val (.int lb), .val (.int cb), .val (.ref b19), .val (.ref b19), .val (.int (0 : Int32))] [])) tg
            refine XS.aload X79.here hx rfl (hb hby at_155) rfl rfl ?_
            show Steps p.tables e below (T79.setTop (mkF m 157 #[.val (.int i1), .val (.int i2), .val (.int i3), .val (.int i4), .val (.int i5), .val (.ref b1), .val (.int n7), .val (.int lb), .val (.int cb), .val (.ref b19), .val (.ref b19), .val (.int (0 : Int32))] [(.ref b19)])) tg
            refine XS.aload X79.here hx rfl (hb hby at_157) rfl rfl ?_
            exact kg
          obtain ⟨v85, T85, h85, Lc85, X85, e85, hQ85, st85⟩ := own_callV X79 hx hZ hown (hw _ (List.mem_of_getElem? (i := 13) rfl)) (hw _ (List.mem_of_getElem? (i := 14) rfl)) (notFace_of_selects (args := #[]) (mvT hZ (hw _ (List.mem_of_getElem? (i := 16) rfl)))) (hw _ (List.mem_of_getElem? (i := 16) rfl)) (hw _ (List.mem_of_getElem? (i := 15) rfl)) (hw _ (List.mem_of_getElem? (i := 17) rfl)) (hw _ (List.mem_of_getElem? (i := 2) rfl)) (by decide) (rm_eqPos l Z a0 hw [] b19 b1 lb cb i1 i2 h22 n0 (by omega) f82 (own_ne (by omega)) fq22_4 fq22_5 f80 f81) e79' fq22_3 (g := (mkF m 159 #[.val (.int i1), .val (.int i2), .val (.int i3), .val (.int i4), .val (.int i5), .val (.ref b1), .val (.int n7), .val (.int lb), .val (.int cb), .val (.ref b19), .val (.ref b19), .val (.int (0 : Int32))] [(.ref b1), (.ref b19)])) rfl (by rw [hml]; rfl) (argsL := [(.ref b1)]) (rest := []) rfl (lenOf pd_4 rfl) rfl (W := 0) (by show 2 * 0 + _ ≤ _; exact Nat.le_of_eq rfl) (hb hby at_159) (by decide) (by decide) (by decide) (by decide)
          obtain ⟨rfl, Nq85, hs85⟩ := hQ85
          have N85 := Fr.app N79 Nq85
          have e85' : T85.heap = h22 := e85.trans hs85
          have k86 : Rch p e below (s₁.setTop (entryFrame m #[(.int i1), (.int i2), (.int i3), (.int i4), (.int i5)] maxLocals)) T85 (mkF m 162 #[.val (.int i1), .val (.int i2), .val (.int i3), .val (.int i4), .val (.int i5), .val (.ref b1), .val (.int n7), .val (.int lb), .val (.int cb), .val (.ref b19), .val (.ref b19), .val (.int (0 : Int32))] [(.int (own_b (lb = i1 ∧ cb = i2)))]) := fun tg kg => k84 tg (st85 tg kg)
          have k87 : Rch p e below (s₁.setTop (entryFrame m #[(.int i1), (.int i2), (.int i3), (.int i4), (.int i5)] maxLocals)) T85 (mkF m 170 #[.val (.int i1), .val (.int i2), .val (.int i3), .val (.int i4), .val (.int i5), .val (.ref b1), .val (.int n7), .val (.int lb), .val (.int cb), .val (.ref b19), .val (.ref b19), .val (.int (0 : Int32))] [(.int (1 : Int32))]) := fun tg kg => by
            refine k86 tg ?_
            show Steps p.tables e below (T85.setTop (mkF m 162 #[.val (.int i1), .val (.int i2), .val (.int i3), .val (.int i4), .val (.int i5), .val (.ref b1), .val (.int n7), .val (.int lb), .val (.int cb), .val (.ref b19), .val (.ref b19), .val (.int (0 : Int32))] [(.int (own_b (lb = i1 ∧ cb = i2)))])) tg
            refine XS.iload X85.here hx rfl (hb hby at_162) rfl ?_
            show Steps p.tables e below (T85.setTop (mkF m 164 #[.val (.int i1), .val (.int i2), .val (.int i3), .val (.int i4), .val (.int i5), .val (.ref b1), .val (.int n7), .val (.int lb), .val (.int cb), .val (.ref b19), .val (.ref b19), .val (.int (0 : Int32))] [(.int (0 : Int32)), (.int (own_b (lb = i1 ∧ cb = i2)))])) tg
            refine XS.icmpYes X85.here hx rfl (pc0 := 164) (pc' := 169) rfl (hb hby at_164) rfl (teq (own_bF (fun q => hc119_53 q.1))).1 (by decide) (by decide) ?_
            show Steps p.tables e below (T85.setTop (mkF m 169 #[.val (.int i1), .val (.int i2), .val (.int i3), .val (.int i4), .val (.int i5), .val (.ref b1), .val (.int n7), .val (.int lb), .val (.int cb), .val (.ref b19), .val (.ref b19), .val (.int (0 : Int32))] [])) tg
            refine XS.iconst X85.here hx rfl (hb hby at_169) ?_
            exact kg
          obtain ⟨fs88, hr88, hrun88, hended88, hW88, hsame88⟩ := X85.leave (v := some (.int (nar .boolean (1 : Int32)))) (fun h => by rw [Bd.returns] at h; cases h)
          refine ⟨_, _, k87 _ ?_, hrun88, hended88, _, _, rfl, ?_, ⟨_, rfl⟩, hW88, hsame88.mono (by decide) (by decide)⟩
          · exact retN X85 hx (t := .boolean) Bd.returns (by simp) (hb hby at_170) hr88
          · show Q_rm0 Z i1 i2 i3 i4 i5 cs h0 n0 _ T85.heap _
            rw [e85']
            exact ⟨rfl, N85⟩
set_option maxRecDepth 65536 in
set_option maxHeartbeats 40000000 in
theorem comes_1 {Post : Tables → Env → Array Value → State → Outcome → State → Prop} (hpost : ∀ tb e args s v u, (limb_1_1.after args s (.returned v) u = true ∧ limb_1_2.after args s (.returned v) u = true ∧ True) → FrameEnd s (.returned v) u (Jvm.fieldLocs frame_1_writes args s ++ Jvm.arrayLocs frame_1_arrays args s ++ Jvm.staticLocs frame_1_statics s) 16 128 → Post tb e args s (.returned v) u) :
    ArmFor flags0 classFile x code maxLocals ret World_1 tables_1 room_1 Calls_1 rest_1 Pre_1 Post := by
  intro l hfl _ _ p e ha hc hk s m args below hf hA hF happ hP
  obtain ⟨hcalls, hrest, hpre⟩ := hP
  obtain ⟨-, -, -, hnamed, -, -, -, hat⟩ := (Spec.applies_iff hf).mp happ
  obtain ⟨hg, hn⟩ := and_e (Cond.before_iff.mp (show (Jvm.Cond.and given_1 narrow_1).before args s = true from hpre))
  obtain ⟨g1, g2⟩ := and_e hg
  obtain ⟨g3, g4⟩ := and_e g2
  obtain ⟨g5, g6⟩ := and_e g4
  obtain ⟨g7, g8⟩ := and_e g6
  obtain ⟨g9, g10⟩ := and_e g8
  obtain ⟨w0, w1, w2, w3, w4, rfl⟩ : ∃ w0 w1 w2 w3 w4 : Value, args = #[w0, w1, w2, w3, w4] := by
    have hs : args.size = 5 := by simpa [Cond.value, given_1] using g1
    obtain ⟨L⟩ := args
    match L, hs with
    | [w0, w1, w2, w3, w4], _ => exact ⟨w0, w1, w2, w3, w4, rfl⟩
  have hw := fun d (hd : d ∈ tables_1) => atoms_spec (ws := Jvm.Cond.code x code maxLocals ret :: tables_1) hat d (List.mem_cons_of_mem _ hd)
  have hfit : Fit s := fun {y c} hc i hi => by
    obtain ⟨ha, rfl⟩ := Array.getElem?_eq_some_iff.mp hc
    have q := List.all_eq_true.mp ((Array.all_eq_true_iff_forall_mem.mp hF) _ (Array.getElem_mem ha)) i (List.mem_range.mpr hi)
    simpa [Array.getElem?_eq_getElem hi] using q
  obtain ⟨hsets, hown0⟩ := atoms_of _ (rest_1_c_eq ▸ (show rest_1_c.before _ s = true from hrest))
  have hr0 := Cond.before_iff.mp hown0
  obtain ⟨i0, ei0⟩ := is_v g3
  obtain rfl : w0 = (.int i0) := Option.some.inj ei0
  obtain ⟨i1, ei1⟩ := is_v g5
  obtain rfl : w1 = (.int i1) := Option.some.inj ei1
  obtain ⟨i2, ei2⟩ := is_v g7
  obtain rfl : w2 = (.int i2) := Option.some.inj ei2
  obtain ⟨i3, ei3⟩ := is_v g9
  obtain rfl : w3 = (.int i3) := Option.some.inj ei3
  obtain ⟨i4, ei4⟩ := is_v g10
  obtain rfl : w4 = (.int i4) := Option.some.inj ei4
  have nCS := not_v (Cond.before_iff.mp (hsets _ (List.mem_of_getElem? (i := 2) rfl)))
  obtain ⟨cs, eCS⟩ := is_v (Cond.before_iff.mp (hsets _ (List.mem_of_getElem? (i := 1) rfl)))
  have S_cs : Sta s s.heap "java/lang/String" "COMPACT_STRINGS" "Z" (.int cs) := Sta.start eCS (Or.inl (hsets _ (List.mem_of_getElem? (i := 0) rfl)))
  have hcs : ¬ (cs = (0 : Int32)) := gotF (Cond.eq_ints eCS (Term.int_eval (0))) nCS
  obtain ⟨n, o, h1, h2, h3, _, L, rfl, ⟨rfl, N⟩, hq⟩ := rm0 l s _ hw tables_1 i0 i1 i2 i3 i4 cs s.heap s.heap.size (Nat.le_refl _) S_cs (Old.start s) hcs p e ha hc hk s m _ below hf ((Spec.applies_iff_loose hf).mp happ).1 ⟨rfl, State.Warmed39.refl s, rfl⟩ trivial
  refine ⟨n, _, h1, h2, h3, hpost _ _ _ _ _ _ ⟨Cond.after_iff.mpr rfl, Cond.after_iff.mpr (eq_i res_at (Term.int_eval (1)) rfl), trivial⟩ ⟨hq.1, hq.2.1, (hq.2.2.sift fun y hy => Or.inr (N y hy)).mono (by decide) (by decide)⟩⟩
theorem main_1_1 : Claimed_1_1 := comes_1 fun _ _ _ _ _ _ h hF => ⟨h.1, hF⟩
theorem main_1_2 : Claimed_1_2 := comes_1 fun _ _ _ _ _ _ h hF => ⟨h.2.1, hF⟩
end Jvm.Pilot.@@N@@
namespace Jvm.Pilot.@@N@@
open Jvm Jvm.ClassFile Sem Op Lib Jvm.Free Jvm.Stand Jvm.Pilot.@@N@@.Jvm.D
/-! MADE BY PROGRAM (witnessworld.py) out of the Statement's table words and the real class files: 17 classes; the members and pool entries that the words name. The judged class is class 1, her method 1. -/
namespace start1
open Jvm.ClassFile
def u (s : String) : CpInfo := .utf8 (stringToUtf16 s)
/-- a pool by its gaps: so many unusable entries, then the entry; so many at the end -/
def gap : Nat → List CpInfo → List CpInfo
  | 0, r => r
  | n + 1, r => .unusable :: gap n r
def poolList (es : List (Nat × CpInfo)) (last : Nat) : List CpInfo := es.foldr (fun e r => gap e.1 (e.2 :: r)) (gap last [])
def pool (es : List (Nat × CpInfo)) (last : Nat) : Array CpInfo := ⟨poolList es last⟩
def fileOf (pool : Array CpInfo) (this : Nat) (attrs : Array Attribute := #[]) (ms : Array MethodInfo := #[]) (fl : Nat := 33) (sup : Nat := 0) (ifs : Array Nat := #[]) (fds : Array FieldInfo := #[]) : ClassFile where
  minorVersion := 0
  majorVersion := 65
  constantPool := pool
  accessFlags := fl
  thisClass := this
  superClass := sup
  interfaces := ifs
  fields := fds
  methods := ms
  attributes := attrs
def plain (name : String) (sup : Option ClassId) : Class where
  name := name
  kind := .ordinary
  loader := none
  accessFlags := 33
  super := sup
  interfaces := #[]
  cf := none
  fields := #[]
  methods := #[]
  instanceTypes := #[]
  staticTypes := #[]
  resolved := #[]
  callSites := []
  init := .initialized
  statics := none
  mirror := none

def pool0 : Array CpInfo := pool [(5, u "<init>"), (0, u "()V"), (1, .class_ 10), (1, u "java/lang/Object")] 113

def k0c0 : Code := { maxStack := 0, maxLocals := 1, code := object_method_1_code, exceptionTable := #[], attributes := #[] }
def k0m0 : Method := { name := "<init>", desc := "()V", sig := { parameters := [], returnType := none }, accessFlags := 1, code := some k0c0 }
/-- java/lang/Object -/
def k0 : Class := { plain "java/lang/Object" none with
  accessFlags := 33
  interfaces := #[]
  cf := some (fileOf pool0 8 #[] #[{ accessFlags := 1, nameIndex := 5, descriptorIndex := 6, attributes := #[] }] 33 0 #[] #[])
  fields := #[]
  methods := #[k0m0]
  instanceTypes := #[]
  staticTypes := #[]
  resolved := Array.replicate 124 none
  statics := none }

def pool1 : Array CpInfo := pool [(2, .class_ 4), (1, u "java/lang/Object"), (0, u "<init>"), (0, u "()V"), (0, .class_ 8), (0, u "com/example/probabilistic_event_models/probabilisticeventmodels/model/SourcePosition"), (0, .methodref 7 10), (0, .nameAndType 5 11), (0, u "(II)V"), (0, .methodref 13 14), (0, .class_ 15), (0, .nameAndType 16 17), (0, u "java/lang/String"), (0, u "valueOf"), (0, u "(C)Ljava/lang/String;"), (0, .methodref 7 19), (0, .nameAndType 20 21), (0, u "equals"), (0, u "(Ljava/lang/Object;)Z"), (0, .class_ 23), (0, u "com/example/probabilistic_event_models/probabilisticeventmodels/model/SourcePositionEqualsPinLaw"), (2, u "law"), (0, u "(IIIII)Z")] 3

def k1m0 : Method := { name := "<init>", desc := "()V", sig := { parameters := [], returnType := none }, accessFlags := 1, code := none }
def k1c1 : Code := { maxStack := 4, maxLocals := 12, code := code, exceptionTable := #[], attributes := #[] }
def k1m1 : Method := { name := "law", desc := "(IIIII)Z", sig := { parameters := [.int, .int, .int, .int, .int], returnType := some .boolean }, accessFlags := 9, code := some k1c1 }
/-- com/example/probabilistic_event_models/probabilisticeventmodels/model/SourcePositionEqualsPinLaw -/
def k1 : Class := { plain "com/example/probabilistic_event_models/probabilisticeventmodels/model/SourcePositionEqualsPinLaw" (some 0) with
  accessFlags := 49
  interfaces := #[]
  cf := some (fileOf pool1 22 #[] #[{ accessFlags := 1, nameIndex := 5, descriptorIndex := 6, attributes := #[] }, { accessFlags := 9, nameIndex := 26, descriptorIndex := 27, attributes := #[] }] 49 2 #[] #[])
  fields := #[]
  methods := #[k1m0, k1m1]
  instanceTypes := #[]
  staticTypes := #[]
  resolved := Array.replicate 31 none
  statics := none }

def pool2 : Array CpInfo := pool [(1, .class_ 2), (0, u "java/lang/Comparable"), (0, .class_ 4), (0, u "java/lang/Object")] 7

/-- java/lang/Comparable -/
def k2 : Class := { plain "java/lang/Comparable" (some 0) with
  accessFlags := 1537
  interfaces := #[]
  cf := some (fileOf pool2 1 #[] #[] 1537 3 #[] #[])
  fields := #[]
  methods := #[]
  instanceTypes := #[]
  staticTypes := #[]
  resolved := Array.replicate 12 none
  statics := none }

def pool3 : Array CpInfo := pool [(1, .methodref 2 3), (0, .class_ 4), (0, .nameAndType 5 6), (0, u "java/lang/Object"), (0, u "<init>"), (0, u "()V"), (0, .fieldref 8 9), (0, .class_ 10), (0, .nameAndType 11 12), (0, u "com/example/probabilistic_event_models/probabilisticeventmodels/model/SourcePosition"), (0, u "line"), (0, u "I"), (0, .fieldref 8 14), (0, .nameAndType 15 12), (0, u "column"), (14, .class_ 31), (0, u "java/lang/Comparable"), (0, u "(II)V"), (4, u "equals"), (0, u "(Ljava/lang/Object;)Z")] 24

def k3c0 : Code := { maxStack := 2, maxLocals := 3, code := prog_74_method_1_code, exceptionTable := #[], attributes := #[] }
def k3m0 : Method := { name := "<init>", desc := "(II)V", sig := { parameters := [.int, .int], returnType := none }, accessFlags := 1, code := some k3c0 }
def k3c1 : Code := { maxStack := 2, maxLocals := 3, code := prog_74_method_5_code, exceptionTable := #[], attributes := #[] }
def k3m1 : Method := { name := "equals", desc := "(Ljava/lang/Object;)Z", sig := { parameters := [(.object "java/lang/Object")], returnType := some .boolean }, accessFlags := 1, code := some k3c1 }
/-- com/example/probabilistic_event_models/probabilisticeventmodels/model/SourcePosition -/
def k3 : Class := { plain "com/example/probabilistic_event_models/probabilisticeventmodels/model/SourcePosition" (some 0) with
  accessFlags := 49
  interfaces := #[2]
  cf := some (fileOf pool3 8 #[] #[{ accessFlags := 1, nameIndex := 5, descriptorIndex := 32, attributes := #[] }, { accessFlags := 1, nameIndex := 37, descriptorIndex := 38, attributes := #[] }] 49 2 #[30] #[{ accessFlags := 18, nameIndex := 11, descriptorIndex := 12, attributes := #[] }, { accessFlags := 18, nameIndex := 15, descriptorIndex := 12, attributes := #[] }])
  fields := #[{ name := "line", type := .int, accessFlags := 18, slot := 0, constantValue := 0 }, { name := "column", type := .int, accessFlags := 18, slot := 1, constantValue := 0 }]
  methods := #[k3m0, k3m1]
  instanceTypes := #[.int, .int]
  staticTypes := #[]
  resolved := Array.replicate 63 none
  statics := none }

def pool4 : Array CpInfo := pool [(1, .class_ 2), (0, u "java/io/Serializable"), (0, .class_ 4), (0, u "java/lang/Object")] 2

/-- java/io/Serializable -/
def k4 : Class := { plain "java/io/Serializable" (some 0) with
  accessFlags := 1537
  interfaces := #[]
  cf := some (fileOf pool4 1 #[] #[] 1537 3 #[] #[])
  fields := #[]
  methods := #[]
  instanceTypes := #[]
  staticTypes := #[]
  resolved := Array.replicate 7 none
  statics := none }

def pool5 : Array CpInfo := pool [(2, .class_ 4), (1, u "java/lang/CharSequence"), (42, .class_ 48), (0, u "java/lang/CharSequence$1CodePointIterator"), (10, .class_ 60), (0, u "java/lang/CharSequence$1CharIterator"), (5, .class_ 67), (0, u "java/lang/Object")] 63

/-- java/lang/CharSequence -/
def k5 : Class := { plain "java/lang/CharSequence" (some 0) with
  accessFlags := 1537
  interfaces := #[]
  cf := some (fileOf pool5 2 #[.nestMembers #[47, 59]] #[] 1537 66 #[] #[])
  fields := #[]
  methods := #[]
  instanceTypes := #[]
  staticTypes := #[]
  resolved := Array.replicate 131 none
  statics := none }

def pool6 : Array CpInfo := pool [(1, .class_ 2), (0, u "java/lang/constant/Constable"), (0, .class_ 4), (0, u "java/lang/Object")] 6

/-- java/lang/constant/Constable -/
def k6 : Class := { plain "java/lang/constant/Constable" (some 0) with
  accessFlags := 1537
  interfaces := #[]
  cf := some (fileOf pool6 1 #[] #[] 1537 3 #[] #[])
  fields := #[]
  methods := #[]
  instanceTypes := #[]
  staticTypes := #[]
  resolved := Array.replicate 11 none
  statics := none }

def pool7 : Array CpInfo := pool [(1, .class_ 2), (0, u "java/lang/constant/ConstantDesc"), (0, .class_ 4), (0, u "java/lang/Object")] 32

/-- java/lang/constant/ConstantDesc -/
def k7 : Class := { plain "java/lang/constant/ConstantDesc" (some 0) with
  accessFlags := 1537
  interfaces := #[]
  cf := some (fileOf pool7 1 #[] #[] 1537 3 #[] #[])
  fields := #[]
  methods := #[]
  instanceTypes := #[]
  staticTypes := #[]
  resolved := Array.replicate 37 none
  statics := none }

def pool8 : Array CpInfo := pool [(1, .methodref 2 3), (0, .class_ 4), (0, .nameAndType 5 6), (0, u "java/lang/Object"), (0, u "<init>"), (0, u "()V"), (2, .fieldref 10 11), (0, .class_ 12), (0, .nameAndType 13 14), (0, u "java/lang/String"), (0, u "value"), (0, u "[B"), (0, .fieldref 10 16), (0, .nameAndType 17 18), (0, u "coder"), (0, u "B"), (2, u "hash"), (0, u "I"), (2, u "hashIsZero"), (0, u "Z"), (11, .fieldref 10 39), (0, .nameAndType 40 26), (0, u "COMPACT_STRINGS"), (12, u "toBytes"), (53, .class_ 109), (1, u "java/lang/StringLatin1"), (99, .methodref 10 210), (0, .nameAndType 5 211), (0, u "([BB)V"), (157, u "(C)Z"), (205, .class_ 576), (0, u "java/lang/CharSequence"), (22, u "CASE_INSENSITIVE_ORDER"), (0, u "Ljava/util/Comparator;"), (181, u "valueOf"), (0, u "(C)Ljava/lang/String;"), (231, .methodref 107 1016), (0, .nameAndType 1017 369), (0, u "canEncode"), (0, .methodref 107 1019), (0, .nameAndType 53 1020), (0, u "(C)[B"), (80, u "serialPersistentFields"), (0, u "[Ljava/io/ObjectStreamField;"), (0, .class_ 1104), (0, u "java/lang/String$CaseInsensitiveComparator"), (1, .class_ 1107), (0, u "java/io/Serializable"), (0, .class_ 1109), (0, u "java/lang/Comparable"), (0, .class_ 1111), (0, u "java/lang/constant/Constable"), (0, .class_ 1113), (0, u "java/lang/constant/ConstantDesc"), (2, u "serialVersionUID"), (0, u "J"), (3, u "REPL"), (0, u "C"), (2, u "LATIN1"), (1, u "UTF16")] 323

def k8m0 : Method := { name := "<init>", desc := "()V", sig := { parameters := [], returnType := none }, accessFlags := 1, code := none }
def k8c1 : Code := { maxStack := 4, maxLocals := 1, code := jdk_42_method_139_code, exceptionTable := #[], attributes := #[] }
def k8m1 : Method := { name := "valueOf", desc := "(C)Ljava/lang/String;", sig := { parameters := [.char], returnType := some (.object "java/lang/String") }, accessFlags := 9, code := some k8c1 }
def k8c2 : Code := { maxStack := 2, maxLocals := 3, code := jdk_42_method_151_code, exceptionTable := #[], attributes := #[] }
def k8m2 : Method := { name := "<init>", desc := "([BB)V", sig := { parameters := [(.array .byte), .byte], returnType := none }, accessFlags := 0, code := some k8c2 }
/-- java/lang/String -/
def k8 : Class := { plain "java/lang/String" (some 0) with
  accessFlags := 49
  interfaces := #[4, 2, 5, 6, 7]
  cf := some (fileOf pool8 10 #[.nestMembers #[1103]] #[{ accessFlags := 1, nameIndex := 5, descriptorIndex := 6, attributes := #[] }, { accessFlags := 9, nameIndex := 782, descriptorIndex := 783, attributes := #[] }, { accessFlags := 0, nameIndex := 5, descriptorIndex := 211, attributes := #[] }] 49 2 #[1106, 1108, 575, 1110, 1112] #[{ accessFlags := 18, nameIndex := 13, descriptorIndex := 14, attributes := #[] }, { accessFlags := 18, nameIndex := 17, descriptorIndex := 18, attributes := #[] }, { accessFlags := 2, nameIndex := 21, descriptorIndex := 22, attributes := #[] }, { accessFlags := 2, nameIndex := 25, descriptorIndex := 26, attributes := #[] }, { accessFlags := 26, nameIndex := 1116, descriptorIndex := 1117, attributes := #[] }, { accessFlags := 24, nameIndex := 40, descriptorIndex := 26, attributes := #[] }, { accessFlags := 26, nameIndex := 1101, descriptorIndex := 1102, attributes := #[] }, { accessFlags := 26, nameIndex := 1121, descriptorIndex := 1122, attributes := #[] }, { accessFlags := 25, nameIndex := 599, descriptorIndex := 600, attributes := #[] }, { accessFlags := 24, nameIndex := 1125, descriptorIndex := 18, attributes := #[] }, { accessFlags := 24, nameIndex := 1127, descriptorIndex := 18, attributes := #[] }])
  fields := #[{ name := "value", type := (.array .byte), accessFlags := 18, slot := 0, constantValue := 0 }, { name := "coder", type := .byte, accessFlags := 18, slot := 1, constantValue := 0 }, { name := "hash", type := .int, accessFlags := 2, slot := 2, constantValue := 0 }, { name := "hashIsZero", type := .boolean, accessFlags := 2, slot := 3, constantValue := 0 }, { name := "serialVersionUID", type := .long, accessFlags := 26, slot := 0, constantValue := 0 }, { name := "COMPACT_STRINGS", type := .boolean, accessFlags := 24, slot := 1, constantValue := 0 }, { name := "serialPersistentFields", type := (.array (.object "java/io/ObjectStreamField")), accessFlags := 26, slot := 2, constantValue := 0 }, { name := "REPL", type := .char, accessFlags := 26, slot := 3, constantValue := 0 }, { name := "CASE_INSENSITIVE_ORDER", type := (.object "java/util/Comparator"), accessFlags := 25, slot := 4, constantValue := 0 }, { name := "LATIN1", type := .byte, accessFlags := 24, slot := 5, constantValue := 0 }, { name := "UTF16", type := .byte, accessFlags := 24, slot := 6, constantValue := 0 }]
  methods := #[k8m0, k8m1, k8m2]
  instanceTypes := #[(.array .byte), .byte, .int, .boolean]
  staticTypes := #[.long, .boolean, (.array (.object "java/io/ObjectStreamField")), .char, (.object "java/util/Comparator"), .byte, .byte]
  resolved := Array.replicate 1451 none
  statics := some 0 }

def pool9 : Array CpInfo := pool [(4, .class_ 6), (1, u "java/lang/Object"), (0, u "<init>"), (0, u "()V"), (5, .class_ 16), (1, u "java/lang/StringLatin1"), (73, u "canEncode"), (14, u "(C)Z"), (15, u "$assertionsDisabled"), (0, u "Z"), (98, .class_ 223), (1, u "java/lang/StringLatin1$LinesSpliterator"), (156, u "toBytes"), (1, u "(C)[B"), (7, .class_ 391), (0, u "java/lang/StringLatin1$CharsSpliterator")] 3

def k9m0 : Method := { name := "<init>", desc := "()V", sig := { parameters := [], returnType := none }, accessFlags := 0, code := none }
def k9c1 : Code := { maxStack := 2, maxLocals := 1, code := jdk_43_method_3_code, exceptionTable := #[], attributes := #[] }
def k9m1 : Method := { name := "canEncode", desc := "(C)Z", sig := { parameters := [.char], returnType := some .boolean }, accessFlags := 9, code := some k9c1 }
def k9c2 : Code := { maxStack := 4, maxLocals := 1, code := jdk_43_method_46_code, exceptionTable := #[], attributes := #[] }
def k9m2 : Method := { name := "toBytes", desc := "(C)[B", sig := { parameters := [.char], returnType := some (.array .byte) }, accessFlags := 9, code := some k9c2 }
/-- java/lang/StringLatin1 -/
def k9 : Class := { plain "java/lang/StringLatin1" (some 0) with
  accessFlags := 48
  interfaces := #[]
  cf := some (fileOf pool9 14 #[.nestMembers #[390, 221]] #[{ accessFlags := 0, nameIndex := 7, descriptorIndex := 8, attributes := #[] }, { accessFlags := 9, nameIndex := 90, descriptorIndex := 105, attributes := #[] }, { accessFlags := 9, nameIndex := 380, descriptorIndex := 382, attributes := #[] }] 48 4 #[] #[{ accessFlags := 4120, nameIndex := 121, descriptorIndex := 122, attributes := #[] }])
  fields := #[{ name := "$assertionsDisabled", type := .boolean, accessFlags := 4120, slot := 0, constantValue := 0 }]
  methods := #[k9m0, k9m1, k9m2]
  instanceTypes := #[]
  staticTypes := #[.boolean]
  resolved := Array.replicate 395 none
  statics := none }

def pool10 : Array CpInfo := pool [(2, .class_ 4), (1, u "java/lang/Object"), (0, u "<init>"), (0, u "()V"), (17, .class_ 26), (1, u "jdk/internal/util/Preconditions"), (28, .class_ 56), (0, u "jdk/internal/util/Preconditions$4"), (57, .class_ 115), (0, u "jdk/internal/util/Preconditions$1"), (7, u "SIOOBE_FORMATTER"), (0, u "Ljava/util/function/BiFunction;"), (0, .class_ 126), (0, u "jdk/internal/util/Preconditions$2"), (3, u "AIOOBE_FORMATTER"), (0, .class_ 132), (0, u "jdk/internal/util/Preconditions$3"), (3, u "IOOBE_FORMATTER")] 57

def k10m0 : Method := { name := "<init>", desc := "()V", sig := { parameters := [], returnType := none }, accessFlags := 1, code := none }
/-- jdk/internal/util/Preconditions -/
def k10 : Class := { plain "jdk/internal/util/Preconditions" (some 0) with
  accessFlags := 33
  interfaces := #[]
  cf := some (fileOf pool10 24 #[.nestMembers #[55, 131, 125, 114]] #[{ accessFlags := 1, nameIndex := 5, descriptorIndex := 6, attributes := #[] }] 33 2 #[] #[{ accessFlags := 25, nameIndex := 123, descriptorIndex := 124, attributes := #[] }, { accessFlags := 25, nameIndex := 130, descriptorIndex := 124, attributes := #[] }, { accessFlags := 25, nameIndex := 136, descriptorIndex := 124, attributes := #[] }])
  fields := #[{ name := "SIOOBE_FORMATTER", type := (.object "java/util/function/BiFunction"), accessFlags := 25, slot := 0, constantValue := 0 }, { name := "AIOOBE_FORMATTER", type := (.object "java/util/function/BiFunction"), accessFlags := 25, slot := 1, constantValue := 0 }, { name := "IOOBE_FORMATTER", type := (.object "java/util/function/BiFunction"), accessFlags := 25, slot := 2, constantValue := 0 }]
  methods := #[k10m0]
  instanceTypes := #[]
  staticTypes := #[(.object "java/util/function/BiFunction"), (.object "java/util/function/BiFunction"), (.object "java/util/function/BiFunction")]
  resolved := Array.replicate 194 none
  statics := some 1 }

def pool11 : Array CpInfo := pool [(9, u "<init>"), (6, .class_ 18), (1, u "java/lang/Object"), (0, u "()V"), (1, .class_ 23), (1, u "jdk/internal/util/ArraysSupport"), (0, u "LOG2_ARRAY_LONG_INDEX_SCALE"), (0, u "I"), (2, u "U"), (0, u "Ljdk/internal/misc/Unsafe;"), (8, u "BIG_ENDIAN"), (0, u "Z"), (8, u "LOG2_BYTE_BIT_SIZE"), (4, u "LOG2_ARRAY_INT_INDEX_SCALE"), (54, u "JLA"), (0, u "Ljdk/internal/access/JavaLangAccess;"), (11, u "LOG2_ARRAY_BOOLEAN_INDEX_SCALE"), (9, u "LOG2_ARRAY_BYTE_INDEX_SCALE"), (5, u "LOG2_ARRAY_CHAR_INDEX_SCALE"), (5, u "LOG2_ARRAY_SHORT_INDEX_SCALE"), (18, u "LOG2_ARRAY_FLOAT_INDEX_SCALE"), (24, u "LOG2_ARRAY_DOUBLE_INDEX_SCALE"), (89, u "T_BOOLEAN"), (2, u "T_CHAR"), (1, u "T_FLOAT"), (1, u "T_DOUBLE"), (1, u "T_BYTE"), (1, u "T_SHORT"), (1, u "T_INT"), (1, u "T_LONG"), (1, u "SOFT_MAX_ARRAY_LENGTH")] 83

def k11m0 : Method := { name := "<init>", desc := "()V", sig := { parameters := [], returnType := none }, accessFlags := 2, code := none }
/-- jdk/internal/util/ArraysSupport -/
def k11 : Class := { plain "jdk/internal/util/ArraysSupport" (some 0) with
  accessFlags := 33
  interfaces := #[]
  cf := some (fileOf pool11 21 #[] #[{ accessFlags := 2, nameIndex := 9, descriptorIndex := 19, attributes := #[] }] 33 16 #[] #[{ accessFlags := 24, nameIndex := 28, descriptorIndex := 29, attributes := #[] }, { accessFlags := 26, nameIndex := 38, descriptorIndex := 39, attributes := #[] }, { accessFlags := 25, nameIndex := 121, descriptorIndex := 25, attributes := #[] }, { accessFlags := 25, nameIndex := 131, descriptorIndex := 25, attributes := #[] }, { accessFlags := 25, nameIndex := 137, descriptorIndex := 25, attributes := #[] }, { accessFlags := 25, nameIndex := 143, descriptorIndex := 25, attributes := #[] }, { accessFlags := 25, nameIndex := 53, descriptorIndex := 25, attributes := #[] }, { accessFlags := 25, nameIndex := 24, descriptorIndex := 25, attributes := #[] }, { accessFlags := 25, nameIndex := 162, descriptorIndex := 25, attributes := #[] }, { accessFlags := 25, nameIndex := 187, descriptorIndex := 25, attributes := #[] }, { accessFlags := 26, nameIndex := 48, descriptorIndex := 25, attributes := #[] }, { accessFlags := 25, nameIndex := 277, descriptorIndex := 25, attributes := #[] }, { accessFlags := 25, nameIndex := 280, descriptorIndex := 25, attributes := #[] }, { accessFlags := 25, nameIndex := 282, descriptorIndex := 25, attributes := #[] }, { accessFlags := 25, nameIndex := 284, descriptorIndex := 25, attributes := #[] }, { accessFlags := 25, nameIndex := 286, descriptorIndex := 25, attributes := #[] }, { accessFlags := 25, nameIndex := 288, descriptorIndex := 25, attributes := #[] }, { accessFlags := 25, nameIndex := 290, descriptorIndex := 25, attributes := #[] }, { accessFlags := 25, nameIndex := 292, descriptorIndex := 25, attributes := #[] }, { accessFlags := 26, nameIndex := 108, descriptorIndex := 109, attributes := #[] }, { accessFlags := 25, nameIndex := 294, descriptorIndex := 25, attributes := #[] }])
  fields := #[{ name := "U", type := (.object "jdk/internal/misc/Unsafe"), accessFlags := 24, slot := 0, constantValue := 0 }, { name := "BIG_ENDIAN", type := .boolean, accessFlags := 26, slot := 1, constantValue := 0 }, { name := "LOG2_ARRAY_BOOLEAN_INDEX_SCALE", type := .int, accessFlags := 25, slot := 2, constantValue := 0 }, { name := "LOG2_ARRAY_BYTE_INDEX_SCALE", type := .int, accessFlags := 25, slot := 3, constantValue := 0 }, { name := "LOG2_ARRAY_CHAR_INDEX_SCALE", type := .int, accessFlags := 25, slot := 4, constantValue := 0 }, { name := "LOG2_ARRAY_SHORT_INDEX_SCALE", type := .int, accessFlags := 25, slot := 5, constantValue := 0 }, { name := "LOG2_ARRAY_INT_INDEX_SCALE", type := .int, accessFlags := 25, slot := 6, constantValue := 0 }, { name := "LOG2_ARRAY_LONG_INDEX_SCALE", type := .int, accessFlags := 25, slot := 7, constantValue := 0 }, { name := "LOG2_ARRAY_FLOAT_INDEX_SCALE", type := .int, accessFlags := 25, slot := 8, constantValue := 0 }, { name := "LOG2_ARRAY_DOUBLE_INDEX_SCALE", type := .int, accessFlags := 25, slot := 9, constantValue := 0 }, { name := "LOG2_BYTE_BIT_SIZE", type := .int, accessFlags := 26, slot := 10, constantValue := 0 }, { name := "T_BOOLEAN", type := .int, accessFlags := 25, slot := 11, constantValue := 0 }, { name := "T_CHAR", type := .int, accessFlags := 25, slot := 12, constantValue := 0 }, { name := "T_FLOAT", type := .int, accessFlags := 25, slot := 13, constantValue := 0 }, { name := "T_DOUBLE", type := .int, accessFlags := 25, slot := 14, constantValue := 0 }, { name := "T_BYTE", type := .int, accessFlags := 25, slot := 15, constantValue := 0 }, { name := "T_SHORT", type := .int, accessFlags := 25, slot := 16, constantValue := 0 }, { name := "T_INT", type := .int, accessFlags := 25, slot := 17, constantValue := 0 }, { name := "T_LONG", type := .int, accessFlags := 25, slot := 18, constantValue := 0 }, { name := "JLA", type := (.object "jdk/internal/access/JavaLangAccess"), accessFlags := 26, slot := 19, constantValue := 0 }, { name := "SOFT_MAX_ARRAY_LENGTH", type := .int, accessFlags := 25, slot := 20, constantValue := 0 }]
  methods := #[k11m0]
  instanceTypes := #[]
  staticTypes := #[(.object "jdk/internal/misc/Unsafe"), .boolean, .int, .int, .int, .int, .int, .int, .int, .int, .int, .int, .int, .int, .int, .int, .int, .int, .int, (.object "jdk/internal/access/JavaLangAccess"), .int]
  resolved := Array.replicate 378 none
  statics := none }

def pool12 : Array CpInfo := pool [(1, u "java/lang/Cloneable"), (0, .class_ 1), (0, u "java/lang/Object"), (0, .class_ 3)] 3

/-- java/lang/Cloneable -/
def k12 : Class := { plain "java/lang/Cloneable" (some 0) with
  accessFlags := 1537
  interfaces := #[]
  cf := some (fileOf pool12 2 #[] #[] 1537 4 #[] #[])
  fields := #[]
  methods := #[]
  instanceTypes := #[]
  staticTypes := #[]
  resolved := Array.replicate 8 none
  statics := none }

/-- the primitive byte -/
def k13 : Class := { plain "byte" none with kind := .primitive 'B', accessFlags := 0x411 }
/-- [B -/
def k14 : Class := { plain "[B" (some 0) with kind := .array 13 .byte, interfaces := #[12, 4], accessFlags := 1041 }

/-- the primitive int -/
def k15 : Class := { plain "int" none with kind := .primitive 'I', accessFlags := 0x411 }
/-- [I -/
def k16 : Class := { plain "[I" (some 0) with kind := .array 15 .int, interfaces := #[12, 4], accessFlags := 1041 }

def heap : Heap := #[{ cls := 8, slots := #[.long 0, .int 1, .null, .int 0, .null, .int 0, .int 0], vm := .statics 8 },
  { cls := 10, slots := #[.null, .null, .null], vm := .statics 10 }]
def classes : Array Class := #[k0, k1, k2, k3, k4, k5, k6, k7, k8, k9, k10, k11, k12, k13, k14, k15, k16]
def interned : List (Array UInt16 × Addr) := []
def slotsUsed : Nat := 10
def theMethod : MethodId := ⟨1, 1⟩
def args0 : Array Value := #[.int 5, .int 3, .int 5, .int 3, .int 2]
def aboutOver (below : List Frame) : State where
  vm := { classes := classes, interned := interned.toArray }
  heap := heap
  slotsUsed := slotsUsed
  threads := #[{ frames := .invoking theMethod args0 :: below }]
def below0 : List Frame := [.native { method := ⟨0, 0⟩, args := #[] }]
def about1 : State := aboutOver below0
def p0 : Program := .bare "" "" ""
def e0 : Env := launch0.env 0 0 0
theorem w_frames : about1.frames = Frame.invoking theMethod args0 :: below0 := rfl
set_option maxRecDepth 65536 in
theorem w_args : argsFit about1.vm theMethod args0 = true := by decide +kernel
set_option maxRecDepth 65536 in
theorem w_heap : heapFits about1 = true := by decide +kernel
set_option maxRecDepth 65536 in
theorem w_runnable : about1.curStatus? = some .runnable := by decide +kernel
set_option maxRecDepth 65536 in
theorem w_alone : about1.alone = true := by decide +kernel
set_option maxRecDepth 65536 in
theorem w_named : about1.methodNamed? x = some theMethod := by decide +kernel
set_option maxRecDepth 65536 in
theorem w_hears : about1.hears theMethod below0 = true := by decide +kernel
set_option maxRecDepth 65536 in
theorem w_ripe : about1.ripe theMethod args0 below0 = true := by decide +kernel
theorem w_running : about1.status = .running := rfl
set_option maxRecDepth 65536 in
theorem w_room : about1.hasRoom e0.platform room_1 = true :=
  launch0.hasRoom_least _ room_1 (by decide +kernel) (by decide +kernel) (by decide +kernel) (by decide +kernel) (by decide +kernel) (by decide +kernel)
theorem allAtoms_all (ts : List Jvm.Cond) (a : Array Jvm.Value) (st : Jvm.State) : (allAtoms ts).before a st = ts.all (fun c => c.before a st) := by
  induction ts with
  | nil => rfl
  | cons c t ih =>
    show (Jvm.Cond.and c (allAtoms t)).before a st = _
    rw [Jvm.Cond.before_and, ih, List.all_cons]
def words1 : List Jvm.Cond := Jvm.Cond.code x code maxLocals ret :: tables_1
/-- a 'code' word, met by the world's own term for the bytes: nothing is compared byte by byte -/
theorem code_word {y : MethodName} {bytes : ByteArray} {mx : Nat} {rt : Option FieldType} {a : Array Value} {s : State} {m : MethodId} {meth : Method} {c : Code} (h1 : s.methodNamed? y = some m) (h2 : s.vm.method? m = some meth) (h3 : meth.code = some c) (h4 : c.code = bytes)
    (h5 : (c.maxLocals == mx && c.exceptionTable.isEmpty && decide (c.maxStack ≤ mostOperands) && decide (meth.sig.returnType = rt) && !meth.locks && decide (parseMethodDescriptor y.desc = some meth.sig)) = true) : (Jvm.Cond.code y bytes mx rt).before a s = true := by
  simp only [Bool.and_eq_true, beq_iff_eq, Bool.not_eq_true', decide_eq_true_eq] at h5
  obtain ⟨⟨⟨⟨⟨g1, g2⟩, g3⟩, g4⟩, g5⟩, g6⟩ := h5
  simp [Cond.before, Cond.holds, Cond.value, h1, h2, h3, h4, g1, g2, g3, g4, g5, g6]
def isCode : Jvm.Cond → Bool
  | .code _ _ _ _ => true
  | _ => false
theorem all_split {L : List Jvm.Cond} {P : Jvm.Cond → Bool} (h1 : L.all (fun c => isCode c || P c) = true) (h2 : ∀ c ∈ L.filter isCode, P c = true) : L.all P = true := by
  refine List.all_eq_true.mpr fun c hc => ?_
  have h := List.all_eq_true.mp h1 c hc
  rcases Bool.eq_false_or_eq_true (isCode c) with hi | hi
  · exact h2 c (List.mem_filter.mpr ⟨hc, hi⟩)
  · simpa [hi] using h
set_option maxRecDepth 65536 in
theorem w_c0 : (Jvm.Cond.code x code maxLocals ret).before args0 about1 = true := code_word (m := ⟨1, 1⟩) (meth := k1m1) (c := k1c1) (by decide +kernel) rfl rfl rfl (by decide +kernel)
set_option maxRecDepth 65536 in
theorem w_c1 : (Jvm.Cond.code ({ cls := "com/example/probabilistic_event_models/probabilisticeventmodels/model/SourcePosition", name := "<init>", desc := "(II)V" } : Jvm.MethodName) prog_74_method_1_code (3 : Nat) (Option.none : Option Jvm.ClassFile.FieldType)).before args0 about1 = true := code_word (m := ⟨3, 0⟩) (meth := k3m0) (c := k3c0) (by decide +kernel) rfl rfl rfl (by decide +kernel)
set_option maxRecDepth 65536 in
theorem w_c2 : (Jvm.Cond.code ({ cls := "java/lang/Object", name := "<init>", desc := "()V" } : Jvm.MethodName) object_method_1_code (1 : Nat) (Option.none : Option Jvm.ClassFile.FieldType)).before args0 about1 = true := code_word (m := ⟨0, 0⟩) (meth := k0m0) (c := k0c0) (by decide +kernel) rfl rfl rfl (by decide +kernel)
set_option maxRecDepth 65536 in
theorem w_c3 : (Jvm.Cond.code ({ cls := "com/example/probabilistic_event_models/probabilisticeventmodels/model/SourcePosition", name := "equals", desc := "(Ljava/lang/Object;)Z" } : Jvm.MethodName) prog_74_method_5_code (3 : Nat) (Option.some Jvm.ClassFile.FieldType.boolean)).before args0 about1 = true := code_word (m := ⟨3, 1⟩) (meth := k3m1) (c := k3c1) (by decide +kernel) rfl rfl rfl (by decide +kernel)
set_option maxRecDepth 65536 in
theorem w_c4 : (Jvm.Cond.code ({ cls := "java/lang/String", name := "valueOf", desc := "(C)Ljava/lang/String;" } : Jvm.MethodName) jdk_42_method_139_code (1 : Nat) (Option.some (Jvm.ClassFile.FieldType.object "java/lang/String"))).before args0 about1 = true := code_word (m := ⟨8, 1⟩) (meth := k8m1) (c := k8c1) (by decide +kernel) rfl rfl rfl (by decide +kernel)
set_option maxRecDepth 65536 in
theorem w_c5 : (Jvm.Cond.code ({ cls := "java/lang/StringLatin1", name := "canEncode", desc := "(C)Z" } : Jvm.MethodName) jdk_43_method_3_code (1 : Nat) (Option.some Jvm.ClassFile.FieldType.boolean)).before args0 about1 = true := code_word (m := ⟨9, 1⟩) (meth := k9m1) (c := k9c1) (by decide +kernel) rfl rfl rfl (by decide +kernel)
set_option maxRecDepth 65536 in
theorem w_c6 : (Jvm.Cond.code ({ cls := "java/lang/StringLatin1", name := "toBytes", desc := "(C)[B" } : Jvm.MethodName) jdk_43_method_46_code (1 : Nat) (Option.some (Jvm.ClassFile.FieldType.array Jvm.ClassFile.FieldType.byte))).before args0 about1 = true := code_word (m := ⟨9, 2⟩) (meth := k9m2) (c := k9c2) (by decide +kernel) rfl rfl rfl (by decide +kernel)
set_option maxRecDepth 65536 in
theorem w_c7 : (Jvm.Cond.code ({ cls := "java/lang/String", name := "<init>", desc := "([BB)V" } : Jvm.MethodName) jdk_42_method_151_code (3 : Nat) (Option.none : Option Jvm.ClassFile.FieldType)).before args0 about1 = true := code_word (m := ⟨8, 2⟩) (meth := k8m2) (c := k8c2) (by decide +kernel) rfl rfl rfl (by decide +kernel)
def codes1 : List Jvm.Cond := [Jvm.Cond.code x code maxLocals ret, Jvm.Cond.code ({ cls := "com/example/probabilistic_event_models/probabilisticeventmodels/model/SourcePosition", name := "<init>", desc := "(II)V" } : Jvm.MethodName) prog_74_method_1_code (3 : Nat) (Option.none : Option Jvm.ClassFile.FieldType), Jvm.Cond.code ({ cls := "java/lang/Object", name := "<init>", desc := "()V" } : Jvm.MethodName) object_method_1_code (1 : Nat) (Option.none : Option Jvm.ClassFile.FieldType), Jvm.Cond.code ({ cls := "com/example/probabilistic_event_models/probabilisticeventmodels/model/SourcePosition", name := "equals", desc := "(Ljava/lang/Object;)Z" } : Jvm.MethodName) prog_74_method_5_code (3 : Nat) (Option.some Jvm.ClassFile.FieldType.boolean), Jvm.Cond.code ({ cls := "java/lang/String", name := "valueOf", desc := "(C)Ljava/lang/String;" } : Jvm.MethodName) jdk_42_method_139_code (1 : Nat) (Option.some (Jvm.ClassFile.FieldType.object "java/lang/String")), Jvm.Cond.code ({ cls := "java/lang/StringLatin1", name := "canEncode", desc := "(C)Z" } : Jvm.MethodName) jdk_43_method_3_code (1 : Nat) (Option.some Jvm.ClassFile.FieldType.boolean), Jvm.Cond.code ({ cls := "java/lang/StringLatin1", name := "toBytes", desc := "(C)[B" } : Jvm.MethodName) jdk_43_method_46_code (1 : Nat) (Option.some (Jvm.ClassFile.FieldType.array Jvm.ClassFile.FieldType.byte)), Jvm.Cond.code ({ cls := "java/lang/String", name := "<init>", desc := "([BB)V" } : Jvm.MethodName) jdk_42_method_151_code (3 : Nat) (Option.none : Option Jvm.ClassFile.FieldType)]
set_option maxRecDepth 65536 in
theorem codes_eq : words1.filter isCode = codes1 := rfl
theorem w_codes : ∀ c ∈ words1.filter isCode, c.before args0 about1 = true := by
  rw [codes_eq]
  intro c hc
  simp only [codes1, List.mem_cons, List.not_mem_nil, or_false] at hc
  rcases hc with rfl | rfl | rfl | rfl | rfl | rfl | rfl | rfl
  · exact w_c0
  · exact w_c1
  · exact w_c2
  · exact w_c3
  · exact w_c4
  · exact w_c5
  · exact w_c6
  · exact w_c7
set_option maxRecDepth 65536 in
theorem w_t1 : (words1.take 24).all (fun c => isCode c || c.before args0 about1) = true := by decide +kernel
set_option maxRecDepth 65536 in
theorem w_t2 : (words1.drop 24).all (fun c => isCode c || c.before args0 about1) = true := by decide +kernel
theorem w_tables : (allAtoms (Jvm.Cond.code x code maxLocals ret :: tables_1)).before args0 about1 = true := by
  rw [allAtoms_all]
  show words1.all (fun c => c.before args0 about1) = true
  refine all_split ?_ w_codes
  rw [← List.take_append_drop 24 words1, List.all_append, w_t1, w_t2]
  rfl
set_option maxRecDepth 65536 in
theorem w_rest : rest_1_c.before args0 about1 = true := by decide +kernel
set_option maxRecDepth 65536 in
theorem w_case : (Jvm.Cond.and given_1 narrow_1).before args0 about1 = true := by decide +kernel
theorem w_applies : (headSpec (Jvm.Cond.code x code maxLocals ret :: tables_1) room_1).applies x e0.platform about1 = true :=
  (Spec.applies_iff w_frames).mpr ⟨w_running, w_runnable, w_alone, w_named, w_hears, w_ripe, w_room, w_tables⟩
theorem atStart : AtStart classFile x code maxLocals ret World_1 tables_1 room_1 Calls_1 rest_1 Pre_1 launch0 p0 e0 about1 theMethod args0 below0 :=
  ⟨lists_1, trivial, launch0.admits_env _ _ _, launch0.least_env, fairChoices_fair.cas, fairChoices_fair.clock, w_frames, w_args, w_heap, w_applies, trivial, w_rest, w_case⟩
end start1
theorem witness_1 : WitnessClaimed_1 := ⟨start1.p0, start1.e0, start1.about1, start1.theMethod, start1.args0, start1.below0, start1.atStart⟩
end Jvm.Pilot.@@N@@
