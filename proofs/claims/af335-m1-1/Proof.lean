import JvmDerived
import JvmDerived.Pilot.@@N@@Statement
import JvmDerived.Pilot.@@N@@Code
set_option linter.unusedVariables false
set_option linter.unusedSimpArgs false
namespace Jvm.Pilot.@@N@@
open Jvm Jvm.ClassFile Sem Op Lib Jvm.Free Jvm.Stand Jvm.LawKit Jvm.RoadKit Bundle Jvm.Pilot.@@N@@.Jvm.D
/-- from S0 the run comes to T with the frame g -/
abbrev Rch (p : Program) (e : Env) (below : List Frame) (S0 T : State) (g : JFrame) : Prop := ∀ t, Steps p.tables e below (T.setTop g) t → Steps p.tables e below S0 t
abbrev Con (l : Launch) (Z : State) (y : MethodName) (bytes : ByteArray) (maxL : Nat) (ret : Option FieldType) (ws : List Jvm.Cond) (rm : Room) (as' : Array Value) (h : Heap) (Q : Option Value → Heap → List Loc → Prop) : Prop :=
  MetFree l y (head1 (Jvm.Cond.code y bytes maxL ret :: ws) rm) (fun a U => a = as' ∧ Z.Warmed39 U.vm ∧ U.heap = h) (fun _ _ _ _ _ => True) (fun _ U o U' => ∃ v L, o = .returned v ∧ Q v U'.heap L ∧ FrameEnd U o U' L rm.cells rm.slots)
section OwnKit
variable {p : Program} {l : Launch} {e : Env} {R : Room} {s : State} {m : MethodId} {args : Array Value} {below : List Frame} {meth : Method} {c : Code} {T : State} {locs : List Loc} {cells slots : Nat} {Z : State} {a0 : Array Value} {h : Heap}
theorem own_callS (X : Stand p l e R s m args below meth c T locs cells slots) (hx : p.tables.exec = Jvm.exec) (hZ : Z.Warmed39 s.vm) {own : String} {index : Nat} {y : MethodName} {bytes : ByteArray} {maxL : Nat} {ret : Option FieldType} {rm : Room} {as' : Array Value} {Q : Option Value → Heap → List Loc → Prop}
    (hown : s.vm.findClass own = some m.cls) (w1 : (Cond.methodLink own index y).before a0 Z = true) (w2 : (Cond.static y).before a0 Z = true) (w3 : (Cond.initialized y.cls).before a0 Z = true) (w4 : (Cond.code y bytes maxL ret).before a0 Z = true)
    (hy : y.cls ≠ "java/lang/invoke/MethodHandle" ∧ y.cls ≠ "java/lang/invoke/VarHandle") (hM : Con l Z y bytes maxL ret [] rm as' h Q) (eT : T.heap = h)
    {g : JFrame} (hg : g.method = m) (hsize : g.locals.size = c.maxLocals) {argsL rest : List Value} (has : as' = argsL.toArray) (hlen : ∀ sig, parseMethodDescriptor y.desc = some sig → argsL.length = sig.parameters.length) (hs : g.stack = argsL.reverse ++ rest) {W : Nat} (hW : 2 * g.monitorRoom + (rest.map fun v => v.category).sum ≤ W)
    (hd : decode c.code g.pc = .ok (.invokestatic index, 3)) (hf : rm.frames + 1 ≤ R.frames) (hl : W + (maxL + 11) + rm.locals ≤ R.locals) (hc : cells + rm.cells ≤ R.cells) (hsl : slots + rm.slots ≤ R.slots) :
    ∃ (v : Option Value) (T' : State) (h' : Heap) (Lc : List Loc), Stand p l e R s m args below meth c T' (locs ++ Lc) (cells + rm.cells) (slots + rm.slots) ∧ T'.heap = h' ∧ Q v h' Lc ∧
      ∀ target, Steps p.tables e below (T'.setTop { g with pc := g.pc + 3, stack := v.toList ++ rest }) target → Steps p.tables e below (T.setTop g) target := by
  obtain ⟨v, _, ⟨T', L', k', n'⟩, -, X', ⟨Lc, hQ, hl', hk', hn'⟩, st⟩ := Jvm.LawKit.callS X hx (y := y) hown (mvT hZ w1) (mvT hZ w2) (mvT hZ w3) (mvT hZ w4) hy (backOf (W := W) hM hZ w4 w3 hf hl) hg hsize hlen hs hW hd (fun _ _ => ⟨has.symm, eT, hc, hsl⟩)
  dsimp only [Pt.U, Pt.locs, Pt.cells, Pt.slots] at X' hl' hk' hn' st hQ
  subst hl' hk' hn'
  exact ⟨v, T', _, Lc, X', rfl, hQ, st⟩
theorem own_callV (X : Stand p l e R s m args below meth c T locs cells slots) (hx : p.tables.exec = Jvm.exec) (hZ : Z.Warmed39 s.vm) {own C : String} {index : Nat} {y z : MethodName} {bytes : ByteArray} {maxL : Nat} {ret : Option FieldType} {rm : Room} {as' : Array Value} {Q : Option Value → Heap → List Loc → Prop}
    (hown : s.vm.findClass own = some m.cls) (w1 : (Cond.methodLink own index y).before a0 Z = true) (w2 : (Cond.declares y).before a0 Z = true) (nf : NotFace s y) (w3 : (Cond.selects C y z).before a0 Z = true) (w4 : (Cond.instanceMethod z).before a0 Z = true) (w5 : (Cond.code z bytes maxL ret).before a0 Z = true) (w6 : (Cond.initialized z.cls).before a0 Z = true)
    (hy : y.cls ≠ "java/lang/invoke/MethodHandle" ∧ y.cls ≠ "java/lang/invoke/VarHandle") (hM : Con l Z z bytes maxL ret [] rm as' h Q) (eT : T.heap = h) {a : Addr} (E : Exa Z h a C)
    {g : JFrame} (hg : g.method = m) (hsize : g.locals.size = c.maxLocals) {argsL rest : List Value} (has : as' = (Value.ref a :: argsL).toArray) (hlen : ∀ sig, parseMethodDescriptor y.desc = some sig → argsL.length = sig.parameters.length) (hs : g.stack = argsL.reverse ++ .ref a :: rest) {W : Nat} (hW : 2 * g.monitorRoom + (rest.map fun v => v.category).sum ≤ W)
    (hd : decode c.code g.pc = .ok (.invokevirtual index, 3)) (hf : rm.frames + 1 ≤ R.frames) (hl : W + (maxL + 11) + rm.locals ≤ R.locals) (hc : cells + rm.cells ≤ R.cells) (hsl : slots + rm.slots ≤ R.slots) :
    ∃ (v : Option Value) (T' : State) (h' : Heap) (Lc : List Loc), Stand p l e R s m args below meth c T' (locs ++ Lc) (cells + rm.cells) (slots + rm.slots) ∧ T'.heap = h' ∧ Q v h' Lc ∧
      ∀ target, Steps p.tables e below (T'.setTop { g with pc := g.pc + 3, stack := v.toList ++ rest }) target → Steps p.tables e below (T.setTop g) target := by
  obtain ⟨cq, kq, qa, qb, qc⟩ := isOf hZ eT E
  obtain ⟨v, _, ⟨T', L', k', n'⟩, -, X', ⟨Lc, hQ, hl', hk', hn'⟩, st⟩ := X.virtualBack hx (y := y) (z := z) hown (mvT hZ w1) (mvT hZ w2) nf (mvT hZ w3) (mvT hZ w4) hy (backOf (W := W) hM hZ w5 w6 hf hl) qa qc hg hsize (Steps.refl _) hlen hs hW hd (fun _ _ => ⟨has.symm, eT, hc, hsl⟩)
  dsimp only [Pt.U, Pt.locs, Pt.cells, Pt.slots] at X' hl' hk' hn' st hQ
  subst hl' hk' hn'
  exact ⟨v, T', _, Lc, X', rfl, hQ, fun t k => st.trans k⟩
theorem own_callC (X : Stand p l e R s m args below meth c T locs cells slots) (hx : p.tables.exec = Jvm.exec) (hZ : Z.Warmed39 s.vm) {own : String} {index : Nat} {y : MethodName} {bytes : ByteArray} {maxL : Nat} {rm : Room} {as' : Array Value} {Q : Option Value → Heap → List Loc → Prop} (hy1 : y.name = "<init>")
    (hown : s.vm.findClass own = some m.cls) (w1 : (Cond.methodLink own index y).before a0 Z = true) (w2 : (Cond.instanceMethod y).before a0 Z = true) (w3 : (Cond.initialized y.cls).before a0 Z = true) (w4 : (Cond.code y bytes maxL none).before a0 Z = true)
    (hy : y.cls ≠ "java/lang/invoke/MethodHandle" ∧ y.cls ≠ "java/lang/invoke/VarHandle") (hM : Con l Z y bytes maxL none [] rm as' h Q) (eT : T.heap = h) {a : Addr}
    {g : JFrame} (hg : g.method = m) (hsize : g.locals.size = c.maxLocals) {argsL rest : List Value} (has : as' = (Value.ref a :: argsL).toArray) (hlen : ∀ sig, parseMethodDescriptor y.desc = some sig → argsL.length = sig.parameters.length) (hs : g.stack = argsL.reverse ++ .ref a :: rest) {W : Nat} (hW : 2 * g.monitorRoom + (rest.map fun v => v.category).sum ≤ W)
    (hd : decode c.code g.pc = .ok (.invokespecial index, 3)) (hf : rm.frames + 1 ≤ R.frames) (hl : W + (maxL + 11) + rm.locals ≤ R.locals) (hc : cells + rm.cells ≤ R.cells) (hsl : slots + rm.slots ≤ R.slots) :
    ∃ (v : Option Value) (T' : State) (h' : Heap) (Lc : List Loc), Stand p l e R s m args below meth c T' (locs ++ Lc) (cells + rm.cells) (slots + rm.slots) ∧ T'.heap = h' ∧ Q v h' Lc ∧
      ∀ target, Steps p.tables e below (T'.setTop { g with pc := g.pc + 3, stack := v.toList ++ rest }) target → Steps p.tables e below (T.setTop g) target := by
  obtain ⟨v, _, ⟨T', L', k', n'⟩, -, X', ⟨Lc, hQ, hl', hk', hn'⟩, st⟩ := X.specialBack hx (y := y) hy1 hown (mvT hZ w1) (mvT hZ w2) (mvT hZ w4) hy (backOf (W := W) hM hZ w4 w3 hf hl) hg hsize (Steps.refl _) (a := a) hlen hs hW hd (fun _ _ => ⟨has.symm, eT, hc, hsl⟩)
  dsimp only [Pt.U, Pt.locs, Pt.cells, Pt.slots] at X' hl' hk' hn' st hQ
  subst hl' hk' hn'
  exact ⟨v, T', _, Lc, X', rfl, hQ, fun t k => st.trans k⟩
theorem own_callU (X : Stand p l e R s m args below meth c T locs cells slots) (hx : p.tables.exec = Jvm.exec) (hZ : Z.Warmed39 s.vm) {own C owner : String} {index : Nat} {x y : MethodName} {bytes : ByteArray} {maxL : Nat} {ret : Option FieldType} {rm : Room} {as' : Array Value} {Q : Option Value → Heap → List Loc → Prop}
    (hown : s.vm.findClass own = some m.cls) (w1 : (Cond.methodLink own index x).before a0 Z = true) (w2 : (Cond.sameMethod x.cls owner x.name x.desc).before a0 Z = true) (w2' : (Cond.declares ⟨owner, x.name, x.desc⟩).before a0 Z = true) (hy : owner ≠ "java/lang/invoke/MethodHandle" ∧ owner ≠ "java/lang/invoke/VarHandle") (w3 : (Cond.selects C x y).before a0 Z = true) (w4 : (Cond.instanceMethod y).before a0 Z = true) (w5 : (Cond.code y bytes maxL ret).before a0 Z = true) (w6 : (Cond.initialized y.cls).before a0 Z = true)
    (hM : Con l Z y bytes maxL ret [] rm as' h Q) (eT : T.heap = h) {a : Addr} (E : Exa Z h a C)
    {g : JFrame} (hg : g.method = m) (hsize : g.locals.size = c.maxLocals) {argsL rest : List Value} (has : as' = (Value.ref a :: argsL).toArray) (hlen : ∀ sig, parseMethodDescriptor x.desc = some sig → argsL.length = sig.parameters.length) (hs : g.stack = argsL.reverse ++ .ref a :: rest) {W : Nat} (hW : 2 * g.monitorRoom + (rest.map fun v => v.category).sum ≤ W)
    (hd : decode c.code g.pc = .ok (.invokevirtual index, 3)) (hf : rm.frames + 1 ≤ R.frames) (hl : W + (maxL + 11) + rm.locals ≤ R.locals) (hc : cells + rm.cells ≤ R.cells) (hsl : slots + rm.slots ≤ R.slots) :
    ∃ (v : Option Value) (T' : State) (h' : Heap) (Lc : List Loc), Stand p l e R s m args below meth c T' (locs ++ Lc) (cells + rm.cells) (slots + rm.slots) ∧ T'.heap = h' ∧ Q v h' Lc ∧
      ∀ target, Steps p.tables e below (T'.setTop { g with pc := g.pc + 3, stack := v.toList ++ rest }) target → Steps p.tables e below (T.setTop g) target := by
  obtain ⟨cq, kq, qa, qb, qc⟩ := isOf hZ eT E
  obtain ⟨v, _, ⟨T', L', k', n'⟩, -, X', ⟨Lc, hQ, hl', hk', hn'⟩, st⟩ := X.virtualBackUp hx (x := x) (y := y) hown (mvT hZ w1) (mvT hZ w2) (mvT hZ w2') hy (mvT hZ w3) (mvT hZ w4) (backOf (W := W) hM hZ w5 w6 hf hl) qa qc hg hsize (Steps.refl _) hlen hs hW hd (fun _ _ => ⟨has.symm, eT, hc, hsl⟩)
  dsimp only [Pt.U, Pt.locs, Pt.cells, Pt.slots] at X' hl' hk' hn' st hQ
  subst hl' hk' hn'
  exact ⟨v, T', _, Lc, X', rfl, hQ, fun t k => st.trans k⟩
theorem own_ne {a b : Nat} (h : a < b ∨ b < a) : a ≠ b := by omega
theorem own_fldL {args : Array Value} {t : Term} {a : Addr} {C n d : String} {k : Int64} (ev : t.eval args Z none [] Z = some (.ref a)) (q : (Cond.eq (.field t C n d) (.long k)).value args Z none Z [] = some true) : Fld Z Z.heap a C n d (.long k) := by
  apply Fld.start
  cases hv : Z.fieldOf? a C n d with
  | none => simp [Cond.value, fld_at ev, hv] at q
  | some v => cases v <;> simp only [Cond.value, fld_at ev, hv, long_at] at q <;> simp at q <;> subst q <;> rfl
theorem own_fldI {args : Array Value} {t : Term} {a : Addr} {C n d : String} {k : Int32} (ev : t.eval args Z none [] Z = some (.ref a)) (q : (Cond.eq (.field t C n d) (.int k)).value args Z none Z [] = some true) : Fld Z Z.heap a C n d (.int k) := by
  apply Fld.start
  cases hv : Z.fieldOf? a C n d with
  | none => simp [Cond.value, fld_at ev, hv] at q
  | some v => cases v <;> simp only [Cond.value, fld_at ev, hv, Term.int_eval] at q <;> simp at q <;> subst q <;> rfl
variable {vm0 : Vm}
abbrev ConW (l : Launch) (Z : State) (y : MethodName) (bytes : ByteArray) (maxL : Nat) (ret : Option FieldType) (ws : List Jvm.Cond) (rm : Room) (as' : Array Value) (h : Heap) (Q : Option Value → Heap → List Loc → Prop) : Prop :=
  MetFree l y (head1 (Jvm.Cond.code y bytes maxL ret :: ws) rm) (fun a U => a = as' ∧ Z.Warmed39 U.vm ∧ U.heap = h) (fun _ _ _ _ _ => True) (fun _ U o U' => ∃ v L, o = .returned v ∧ Q v U'.heap L ∧ ReturnedEndW U o U' L rm.cells rm.slots)
theorem own_callSW (X : Stand p l e R (s.setVm vm0) m args below meth c T locs cells slots) (hx : p.tables.exec = Jvm.exec) (hZ : Z.Warmed39 vm0) {own : String} {index : Nat} {y : MethodName} {bytes : ByteArray} {maxL : Nat} {ret : Option FieldType} {rm : Room} {as' : Array Value} {Q : Option Value → Heap → List Loc → Prop}
    (hown : vm0.findClass own = some m.cls) (w1 : (Cond.methodLink own index y).before a0 Z = true) (w2 : (Cond.static y).before a0 Z = true) (w3 : (Cond.initialized y.cls).before a0 Z = true) (w4 : (Cond.code y bytes maxL ret).before a0 Z = true)
    (hy : y.cls ≠ "java/lang/invoke/MethodHandle" ∧ y.cls ≠ "java/lang/invoke/VarHandle") (hM : ConW l Z y bytes maxL ret [] rm as' h Q) (eT : T.heap = h) {k0 : Nat} (hS : s.Since vm0 k0) (hk : k0 ≤ h.size)
    {g : JFrame} (hg : g.method = m) (hsize : g.locals.size = c.maxLocals) {argsL rest : List Value} (has : as' = argsL.toArray) (hlen : ∀ sig, parseMethodDescriptor y.desc = some sig → argsL.length = sig.parameters.length) (hs : g.stack = argsL.reverse ++ rest) {W : Nat} (hW : 2 * g.monitorRoom + (rest.map fun v => v.category).sum ≤ W)
    (hd : decode c.code g.pc = .ok (.invokestatic index, 3)) (hf : rm.frames + 1 ≤ R.frames) (hl : W + (maxL + 11) + rm.locals ≤ R.locals) (hc : cells + rm.cells ≤ R.cells) (hsl : slots + rm.slots ≤ R.slots) :
    ∃ (v : Option Value) (T' : State) (h' : Heap) (Lc : List Loc), Stand p l e R (s.setVm T'.vm) m args below meth c T' (locs ++ Lc) (cells + rm.cells) (slots + rm.slots) ∧ T'.heap = h' ∧ Q v h' Lc ∧ s.Since T'.vm h'.size ∧ Z.Warmed39 T'.vm ∧ T'.vm.findClass own = some m.cls ∧
      ∀ target, Steps p.tables e below (T'.setTop { g with pc := g.pc + 3, stack := v.toList ++ rest }) target → Steps p.tables e below (T.setTop g) target := by
  subst eT
  obtain ⟨v, vm₁, ⟨T', L', k', n'⟩, -, X', hS', hgr, ⟨Lc, hQ, hl', hk', hn'⟩, st⟩ := callSS (s := s.setVm vm0) X hx (y := y) hown (mvT (s := s.setVm vm0) hZ w1) (mvT (s := s.setVm vm0) hZ w2) (mvT (s := s.setVm vm0) hZ w3) (mvT (s := s.setVm vm0) hZ w4) hy (backOfS (s := s.setVm vm0) (W := W) hM hZ w4 w3 hf hl) hg hsize hlen hs hW hd (fun _ _ => ⟨has.symm, rfl, hc, hsl⟩)
  dsimp only [Pt.U, Pt.locs, Pt.cells, Pt.slots] at X' hl' hk' hn' st hQ hS' hgr
  subst hl' hk' hn'
  exact ⟨v, T', _, Lc, X', rfl, hQ, hS.trans hS' (Nat.le_trans hk hgr), State.Warmed39.trans (t := s.setVm vm0) hZ hS'.1, by rw [hS'.1.alike.findClass]; exact hown, fun t k => st.trans k⟩
theorem own_callCW (X : Stand p l e R (s.setVm vm0) m args below meth c T locs cells slots) (hx : p.tables.exec = Jvm.exec) (hZ : Z.Warmed39 vm0) {own : String} {index : Nat} {y : MethodName} {bytes : ByteArray} {maxL : Nat} {rm : Room} {as' : Array Value} {Q : Option Value → Heap → List Loc → Prop} (hy1 : y.name = "<init>")
    (hown : vm0.findClass own = some m.cls) (w1 : (Cond.methodLink own index y).before a0 Z = true) (w2 : (Cond.instanceMethod y).before a0 Z = true) (w3 : (Cond.initialized y.cls).before a0 Z = true) (w4 : (Cond.code y bytes maxL none).before a0 Z = true)
    (hy : y.cls ≠ "java/lang/invoke/MethodHandle" ∧ y.cls ≠ "java/lang/invoke/VarHandle") (hM : ConW l Z y bytes maxL none [] rm as' h Q) (eT : T.heap = h) {k0 : Nat} (hS : s.Since vm0 k0) (hk : k0 ≤ h.size) {a : Addr}
    {g : JFrame} (hg : g.method = m) (hsize : g.locals.size = c.maxLocals) {argsL rest : List Value} (has : as' = (Value.ref a :: argsL).toArray) (hlen : ∀ sig, parseMethodDescriptor y.desc = some sig → argsL.length = sig.parameters.length) (hs : g.stack = argsL.reverse ++ .ref a :: rest) {W : Nat} (hW : 2 * g.monitorRoom + (rest.map fun v => v.category).sum ≤ W)
    (hd : decode c.code g.pc = .ok (.invokespecial index, 3)) (hf : rm.frames + 1 ≤ R.frames) (hl : W + (maxL + 11) + rm.locals ≤ R.locals) (hc : cells + rm.cells ≤ R.cells) (hsl : slots + rm.slots ≤ R.slots) :
    ∃ (v : Option Value) (T' : State) (h' : Heap) (Lc : List Loc), Stand p l e R (s.setVm T'.vm) m args below meth c T' (locs ++ Lc) (cells + rm.cells) (slots + rm.slots) ∧ T'.heap = h' ∧ Q v h' Lc ∧ s.Since T'.vm h'.size ∧ Z.Warmed39 T'.vm ∧ T'.vm.findClass own = some m.cls ∧
      ∀ target, Steps p.tables e below (T'.setTop { g with pc := g.pc + 3, stack := v.toList ++ rest }) target → Steps p.tables e below (T.setTop g) target := by
  subst eT
  obtain ⟨v, vm₁, ⟨T', L', k', n'⟩, -, X', hS', hgr, ⟨Lc, hQ, hl', hk', hn'⟩, st⟩ := Jvm.Stand.specialBackS (s := s.setVm vm0) X hx (y := y) hy1 hown (mvT (s := s.setVm vm0) hZ w1) (mvT (s := s.setVm vm0) hZ w2) (mvT (s := s.setVm vm0) hZ w4) hy (backOfS (s := s.setVm vm0) (W := W) hM hZ w4 w3 hf hl) hg hsize (Steps.refl _) (a := a) hlen hs hW hd (fun _ _ => ⟨has.symm, rfl, hc, hsl⟩)
  dsimp only [Pt.U, Pt.locs, Pt.cells, Pt.slots] at X' hl' hk' hn' st hQ hS' hgr
  subst hl' hk' hn'
  exact ⟨v, T', _, Lc, X', rfl, hQ, hS.trans hS' (Nat.le_trans hk hgr), State.Warmed39.trans (t := s.setVm vm0) hZ hS'.1, by rw [hS'.1.alike.findClass]; exact hown, fun t k => st.trans k⟩
theorem own_callVW (X : Stand p l e R (s.setVm vm0) m args below meth c T locs cells slots) (hx : p.tables.exec = Jvm.exec) (hZ : Z.Warmed39 vm0) {own C : String} {index : Nat} {y z : MethodName} {bytes : ByteArray} {maxL : Nat} {ret : Option FieldType} {rm : Room} {as' : Array Value} {Q : Option Value → Heap → List Loc → Prop}
    (hown : vm0.findClass own = some m.cls) (w1 : (Cond.methodLink own index y).before a0 Z = true) (w2 : (Cond.declares y).before a0 Z = true) (nf : NotFace (s.setVm vm0) y) (w3 : (Cond.selects C y z).before a0 Z = true) (w4 : (Cond.instanceMethod z).before a0 Z = true) (w5 : (Cond.code z bytes maxL ret).before a0 Z = true) (w6 : (Cond.initialized z.cls).before a0 Z = true)
    (hy : y.cls ≠ "java/lang/invoke/MethodHandle" ∧ y.cls ≠ "java/lang/invoke/VarHandle") (hM : ConW l Z z bytes maxL ret [] rm as' h Q) (eT : T.heap = h) {k0 : Nat} (hS : s.Since vm0 k0) (hk : k0 ≤ h.size) {a : Addr} (E : Exa Z h a C)
    {g : JFrame} (hg : g.method = m) (hsize : g.locals.size = c.maxLocals) {argsL rest : List Value} (has : as' = (Value.ref a :: argsL).toArray) (hlen : ∀ sig, parseMethodDescriptor y.desc = some sig → argsL.length = sig.parameters.length) (hs : g.stack = argsL.reverse ++ .ref a :: rest) {W : Nat} (hW : 2 * g.monitorRoom + (rest.map fun v => v.category).sum ≤ W)
    (hd : decode c.code g.pc = .ok (.invokevirtual index, 3)) (hf : rm.frames + 1 ≤ R.frames) (hl : W + (maxL + 11) + rm.locals ≤ R.locals) (hc : cells + rm.cells ≤ R.cells) (hsl : slots + rm.slots ≤ R.slots) :
    ∃ (v : Option Value) (T' : State) (h' : Heap) (Lc : List Loc), Stand p l e R (s.setVm T'.vm) m args below meth c T' (locs ++ Lc) (cells + rm.cells) (slots + rm.slots) ∧ T'.heap = h' ∧ Q v h' Lc ∧ s.Since T'.vm h'.size ∧ Z.Warmed39 T'.vm ∧ T'.vm.findClass own = some m.cls ∧
      ∀ target, Steps p.tables e below (T'.setTop { g with pc := g.pc + 3, stack := v.toList ++ rest }) target → Steps p.tables e below (T.setTop g) target := by
  subst eT
  obtain ⟨cq, kq, qa, qb, qc⟩ := isOf (s := s.setVm vm0) hZ rfl E
  obtain ⟨v, vm₁, ⟨T', L', k', n'⟩, -, X', hS', hgr, ⟨Lc, hQ, hl', hk', hn'⟩, st⟩ := Jvm.Stand.virtualBackS (s := s.setVm vm0) X hx (y := y) (z := z) hown (mvT (s := s.setVm vm0) hZ w1) (mvT (s := s.setVm vm0) hZ w2) nf (mvT (s := s.setVm vm0) hZ w3) (mvT (s := s.setVm vm0) hZ w4) hy (backOfS (s := s.setVm vm0) (W := W) hM hZ w5 w6 hf hl) qa qc hg hsize (Steps.refl _) hlen hs hW hd (fun _ _ => ⟨has.symm, rfl, hc, hsl⟩)
  dsimp only [Pt.U, Pt.locs, Pt.cells, Pt.slots] at X' hl' hk' hn' st hQ hS' hgr
  subst hl' hk' hn'
  exact ⟨v, T', _, Lc, X', rfl, hQ, hS.trans hS' (Nat.le_trans hk hgr), State.Warmed39.trans (t := s.setVm vm0) hZ hS'.1, by rw [hS'.1.alike.findClass]; exact hown, fun t k => st.trans k⟩
theorem own_more {cells' slots' : Nat} (X : Stand p l e R s m args below meth c T locs cells slots) (h1 : cells ≤ cells') (h2 : slots ≤ slots') : Stand p l e R s m args below meth c T locs cells' slots' := { X with same := X.same.mono h1 h2 }
theorem own_arrKeep {h h' : Heap} {a : Addr} {cl : Cell} {ty : FieldType} {ws : List Addr} (A : Arr Z h a cl ty) (K : Keep h h' ws) (q : a ∉ ws) : Arr Z h' a cl ty := ⟨K.2.1 a cl A.1 q, A.2⟩
end OwnKit
def own_sh (x : Int64) (k : Int32) : Int64 := ((x.toUInt64 >>> (k &&& 0x3f).toInt64.toUInt64).toInt64)
def own_m1 (z : Int64) : Int64 := ((z ^^^ own_sh z (30 : Int32)) * (-4658895280553007687 : Int64))
def own_m2 (z : Int64) : Int64 := ((z ^^^ own_sh z (27 : Int32)) * (-7723592293110705685 : Int64))
def own_m3 (z : Int64) : Int64 := (z ^^^ own_sh z (31 : Int32))
def own_mix (z : Int64) : Int64 := own_m3 (own_m2 (own_m1 z))
theorem own_xs (k : Nat) (hk : 0 < k) (x y : BitVec 64) (h : x ^^^ (x >>> k) = y ^^^ (y >>> k)) : x = y := by
  have H : ∀ n i, 64 ≤ i + n → x.getLsbD i = y.getLsbD i := by
    intro n
    induction n with
    | zero => intro i hi; rw [BitVec.getLsbD_of_ge x i (by omega), BitVec.getLsbD_of_ge y i (by omega)]
    | succ n ih =>
      intro i hi
      have q := congrArg (fun z => z.getLsbD i) h
      simp only [BitVec.getLsbD_xor, BitVec.getLsbD_ushiftRight] at q
      have r := ih (k + i) (by omega)
      rw [r] at q
      revert q
      cases x.getLsbD i <;> cases y.getLsbD i <;> cases y.getLsbD (k + i) <;> decide
  apply BitVec.eq_of_getLsbD_eq
  intro i hi
  exact H 64 i (by omega)
theorem own_sh_bv (x : Int64) (k : Int32) (n : Nat) (hn : (k &&& 0x3f).toInt64.toUInt64.toNat = n) (hl : n < 64) : (own_sh x k).toBitVec = x.toBitVec >>> n := by
  apply BitVec.eq_of_toNat_eq
  show (x.toUInt64 >>> (k &&& 0x3f).toInt64.toUInt64).toNat = _
  rw [UInt64.toNat_shiftRight, hn, Nat.mod_eq_of_lt hl, BitVec.toNat_ushiftRight]
  rfl
theorem own_xsI (k : Int32) (n : Nat) (hn : (k &&& 0x3f).toInt64.toUInt64.toNat = n) (hl : n < 64) (h0 : 0 < n) (x y : Int64) (h : x ^^^ own_sh x k = y ^^^ own_sh y k) : x = y := by
  apply Int64.toBitVec_inj.mp
  apply own_xs n h0
  have q := congrArg Int64.toBitVec h
  simpa only [Int64.toBitVec_xor, own_sh_bv _ k n hn hl] using q
theorem own_mulI (c d : Int64) (hc : c * d = 1) (x y : Int64) (h : x * c = y * c) : x = y := by
  have q := congrArg (· * d) h
  simp only [Int64.mul_assoc, hc, Int64.mul_one] at q
  exact q
theorem own_mix_inj (x y : Int64) (h : own_mix x = own_mix y) : x = y := by
  have h1 := own_xsI 31 31 (by decide) (by decide) (by decide) _ _ h
  have h2 := own_xsI 27 27 (by decide) (by decide) (by decide) _ _ (own_mulI _ (3573116690164977347 : Int64) (by decide +kernel) _ _ h1)
  exact own_xsI 30 30 (by decide) (by decide) (by decide) _ _ (own_mulI _ (-7575587736534282103 : Int64) (by decide +kernel) _ _ h2)
theorem own_differ (s d : Int64) : ¬ own_mix (s + (-7046029254386353131 : Int64)) = own_mix ((s ^^^ (d ||| (1 : Int64))) + (-7046029254386353131 : Int64)) := fun h => by
  have h1 := own_mix_inj _ _ h
  have h2 : s = s ^^^ (d ||| (1 : Int64)) := by
    have q := congrArg (· - (-7046029254386353131 : Int64)) h1
    simpa only [Int64.add_sub_cancel] using q
  have h3 : (d ||| (1 : Int64)) = 0 := by
    have q := congrArg (s ^^^ ·) h2
    simp only [← Int64.xor_assoc, Int64.xor_self, Int64.zero_xor] at q
    exact q.symm
  have h4 := congrArg (fun z : Int64 => z.toBitVec.getLsbD 0) h3
  simp at h4
theorem pn_SplitMix64 : plainName "com/example/lightweave/lightweave/SplitMix64" = true := by first | (simp [plainName, overriddenIn]; done) | decide +kernel
theorem ef_rm_init (m : MethodId) (x0 : Addr) (x1 : Int64) : entryFrame m #[(.ref x0), (.long x1)] 3 = mkF m 0 #[.val (.ref x0), .val (.long x1), .second] [] := by first | (simp [entryFrame, mkF, argsToLocals, Value.category]; done) | rfl
def Q_rm_init (Z : State) (a : Addr) (q : Int64) (u : Value) (h0 : Heap) (n0 : Nat) (v : Option Value) (h : Heap) (L : List Loc) : Prop := (v = none) ∧ (Fr n0 L) ∧ (Keep h0 h [a]) ∧ (Exa Z h a "com/example/lightweave/lightweave/SplitMix64") ∧ (Fld Z h a "com/example/lightweave/lightweave/SplitMix64" "state" "J" (.long q))
theorem d1_0 : decode prog_29_method_1_code 0 = .ok (.aload_n 0, 1) := by decide +kernel
theorem d1_1 : decode prog_29_method_1_code 1 = .ok (.invokespecial 1, 3) := by decide +kernel
theorem d1_4 : decode prog_29_method_1_code 4 = .ok (.aload_n 0, 1) := by decide +kernel
theorem d1_5 : decode prog_29_method_1_code 5 = .ok (.lload_n 1, 1) := by decide +kernel
theorem d1_6 : decode prog_29_method_1_code 6 = .ok (.putfield 7, 3) := by decide +kernel
theorem d1_9 : decode prog_29_method_1_code 9 = .ok (.return_, 1) := by decide +kernel
set_option maxRecDepth 65536 in
set_option maxHeartbeats 40000000 in
theorem rm_init (l : Launch) (Z : State) (a0 : Array Value) (hw : ∀ d ∈ tables_1, d.before a0 Z = true) (ws : List Jvm.Cond) (a : Addr) (q : Int64) (u : Value) (h0 : Heap) (n0 : Nat) (Z0 : n0 ≤ h0.size) (E_a : Exa Z h0 a "com/example/lightweave/lightweave/SplitMix64") (F_a : Fld Z h0 a "com/example/lightweave/lightweave/SplitMix64" "state" "J" u) (g_a : n0 ≤ a) :
    Con l Z (⟨"com/example/lightweave/lightweave/SplitMix64", "<init>", "(J)V"⟩ : MethodName) prog_29_method_1_code 3 none ws ({ frames := 1, cells := 0, slots := 0, locals := 12 } : Room) #[(.ref a), (.long q)] h0 (Q_rm_init Z a q u h0 n0) := by
  refine MetFree.of_bodySF (plainFor_of_name pn_SplitMix64) hisR ?_
  intro p e s m args below meth c s₁ Bd hml0 hP hK
  obtain ⟨rfl, hZ, hh⟩ := hP
  have hx := Bd.exec
  have hby := Bd.bytes
  have hml : c.maxLocals = 3 := hml0
  have hown : s.vm.findClass "com/example/lightweave/lightweave/SplitMix64" = some m.cls := findClass_of_methodNamed Bd.named
  have hnm := (name_of_methodNamed Bd.named Bd.method).1
  have X0 : Stand p l e ({ frames := 1, cells := 0, slots := 0, locals := 12 } : Room) s m #[(.ref a), (.long q)] below meth c s₁ [] 0 0 := Stand.of_body Bd
  have e0 : s₁.heap = h0 := by rw [← hh, Bd.state]; rfl
  have N0 := Fr.nil n0
  have k0 : Rch p e below (s₁.setTop (entryFrame m #[(.ref a), (.long q)] 3)) s₁ (mkF m 0 #[.val (.ref a), .val (.long q), .second] []) := fun tg kg => castTop (ef_rm_init m a q) kg
  have lt_E_a := E_a.lt
  have lt_F_a := F_a.lt
  have k1 : Rch p e below (s₁.setTop (entryFrame m #[(.ref a), (.long q)] 3)) s₁ (mkF m 1 #[.val (.ref a), .val (.long q), .second] [(.ref a)]) := fun tg kg => by
    refine k0 tg ?_
    show Steps p.tables e below (s₁.setTop (mkF m 0 #[.val (.ref a), .val (.long q), .second] [])) tg
    refine XS.aloadN X0.here hx rfl (hb hby d1_0) rfl rfl ?_
    exact kg
  obtain ⟨T2, X2, e2, st2⟩ := initO X0 hx hZ hown (hw _ (List.mem_of_getElem? (i := 7) rfl)) (hw _ (List.mem_of_getElem? (i := 8) rfl)) (hw _ (List.mem_of_getElem? (i := 9) rfl)) e0 (g := (mkF m 1 #[.val (.ref a), .val (.long q), .second] [(.ref a)])) rfl (by rw [hml]; rfl) rfl (hb hby d1_1) (by decide) (W := 0) (by show 2 * 0 + _ ≤ _; exact Nat.le_of_eq rfl) (by decide)
  have k3 : Rch p e below (s₁.setTop (entryFrame m #[(.ref a), (.long q)] 3)) T2 (mkF m 4 #[.val (.ref a), .val (.long q), .second] []) := fun tg kg => k1 tg (st2 tg kg)
  have k4 : Rch p e below (s₁.setTop (entryFrame m #[(.ref a), (.long q)] 3)) T2 (mkF m 6 #[.val (.ref a), .val (.long q), .second] [(.long q), (.ref a)]) := fun tg kg => by
    refine k3 tg ?_
    show Steps p.tables e below (T2.setTop (mkF m 4 #[.val (.ref a), .val (.long q), .second] [])) tg
    refine XS.aloadN X2.here hx rfl (hb hby d1_4) rfl rfl ?_
    show Steps p.tables e below (T2.setTop (mkF m 5 #[.val (.ref a), .val (.long q), .second] [(.ref a)])) tg
    refine XS.lloadN X2.here hx rfl (hb hby d1_5) rfl ?_
    exact kg
  obtain ⟨T5, h5, X5, e5, W5, st5⟩ := putF X2 hx hZ hown (host := "") (Or.inl (hw _ (List.mem_of_getElem? (i := 10) rfl))) Via.refl e2 F_a E_a (Or.inl (hw _ (List.mem_of_getElem? (i := 11) rfl))) (hw _ (List.mem_of_getElem? (i := 2) rfl)) (ty := .long) (by decide) rfl rfl (g := (mkF m 6 #[.val (.ref a), .val (.long q), .second] [(.long q), (.ref a)])) rfl rfl (hb hby d1_6)
  have Fw5 := F_a.same W5
  have s5 : h5.size = h0.size := W5.size
  have N5 := Fr.snoc X5 N0 (by omega : n0 ≤ a)
  have k6 : Rch p e below (s₁.setTop (entryFrame m #[(.ref a), (.long q)] 3)) T5 (mkF m 9 #[.val (.ref a), .val (.long q), .second] []) := fun tg kg => k4 tg (st5 tg kg)
  have f7 : Exa Z h5 a "com/example/lightweave/lightweave/SplitMix64" := (E_a.wr W5)
  obtain ⟨fs8, hr8, hrun8, hended8, hW8, hsame8⟩ := X5.leave (v := none) (fun _ => rfl)
  refine ⟨_, _, k6 _ ?_, hrun8, hended8, _, _, rfl, ?_, ⟨_, rfl⟩, hW8, hsame8.mono (by decide) (by decide)⟩
  · exact X5.returnOut hx Bd.returns (hb hby d1_9) hr8
  · show Q_rm_init Z a q u h0 n0 _ T5.heap _
    rw [e5]
    exact ⟨rfl, N5, ((Keep.refl h0 [a]).wr W5 (Or.inl (List.mem_of_getElem? (i := 0) rfl))), f7, Fw5⟩
theorem ef_rm_next (m : MethodId) (x0 : Addr) : entryFrame m #[(.ref x0)] 3 = mkF m 0 #[.val (.ref x0), .unset, .unset] [] := by first | (simp [entryFrame, mkF, argsToLocals, Value.category]; done) | rfl
def Q_rm_next (Z : State) (a : Addr) (w0 : Int64) (h0 : Heap) (n0 : Nat) (v : Option Value) (h : Heap) (L : List Loc) : Prop := (v = some (.long (own_mix (w0 + (-7046029254386353131 : Int64))))) ∧ (Fr n0 L) ∧ (Keep h0 h [a]) ∧ (Exa Z h a "com/example/lightweave/lightweave/SplitMix64") ∧ (Fld Z h a "com/example/lightweave/lightweave/SplitMix64" "state" "J" (.long (w0 + (-7046029254386353131 : Int64))))
theorem d3_0 : decode prog_29_method_2_code 0 = .ok (.aload_n 0, 1) := by decide +kernel
theorem d3_1 : decode prog_29_method_2_code 1 = .ok (.dup, 1) := by decide +kernel
theorem d3_2 : decode prog_29_method_2_code 2 = .ok (.getfield 7, 3) := by decide +kernel
theorem d3_5 : decode prog_29_method_2_code 5 = .ok (.ldc2_w 13, 3) := by decide +kernel
theorem d3_8 : decode prog_29_method_2_code 8 = .ok (.ladd, 1) := by decide +kernel
theorem d3_9 : decode prog_29_method_2_code 9 = .ok (.putfield 7, 3) := by decide +kernel
theorem d3_12 : decode prog_29_method_2_code 12 = .ok (.aload_n 0, 1) := by decide +kernel
theorem d3_13 : decode prog_29_method_2_code 13 = .ok (.getfield 7, 3) := by decide +kernel
theorem d3_16 : decode prog_29_method_2_code 16 = .ok (.lstore_n 1, 1) := by decide +kernel
theorem d3_17 : decode prog_29_method_2_code 17 = .ok (.lload_n 1, 1) := by decide +kernel
theorem d3_18 : decode prog_29_method_2_code 18 = .ok (.lload_n 1, 1) := by decide +kernel
theorem d3_19 : decode prog_29_method_2_code 19 = .ok (.bipush 30, 2) := by decide +kernel
theorem d3_21 : decode prog_29_method_2_code 21 = .ok (.lushr, 1) := by decide +kernel
theorem d3_22 : decode prog_29_method_2_code 22 = .ok (.lxor, 1) := by decide +kernel
theorem d3_23 : decode prog_29_method_2_code 23 = .ok (.ldc2_w 15, 3) := by decide +kernel
theorem d3_26 : decode prog_29_method_2_code 26 = .ok (.lmul, 1) := by decide +kernel
theorem d3_27 : decode prog_29_method_2_code 27 = .ok (.lstore_n 1, 1) := by decide +kernel
theorem d3_28 : decode prog_29_method_2_code 28 = .ok (.lload_n 1, 1) := by decide +kernel
theorem d3_29 : decode prog_29_method_2_code 29 = .ok (.lload_n 1, 1) := by decide +kernel
theorem d3_30 : decode prog_29_method_2_code 30 = .ok (.bipush 27, 2) := by decide +kernel
theorem d3_32 : decode prog_29_method_2_code 32 = .ok (.lushr, 1) := by decide +kernel
theorem d3_33 : decode prog_29_method_2_code 33 = .ok (.lxor, 1) := by decide +kernel
theorem d3_34 : decode prog_29_method_2_code 34 = .ok (.ldc2_w 17, 3) := by decide +kernel
theorem d3_37 : decode prog_29_method_2_code 37 = .ok (.lmul, 1) := by decide +kernel
theorem d3_38 : decode prog_29_method_2_code 38 = .ok (.lstore_n 1, 1) := by decide +kernel
theorem d3_39 : decode prog_29_method_2_code 39 = .ok (.lload_n 1, 1) := by decide +kernel
theorem d3_40 : decode prog_29_method_2_code 40 = .ok (.lload_n 1, 1) := by decide +kernel
theorem d3_41 : decode prog_29_method_2_code 41 = .ok (.bipush 31, 2) := by decide +kernel
theorem d3_43 : decode prog_29_method_2_code 43 = .ok (.lushr, 1) := by decide +kernel
theorem d3_44 : decode prog_29_method_2_code 44 = .ok (.lxor, 1) := by decide +kernel
theorem d3_45 : decode prog_29_method_2_code 45 = .ok (.lreturn, 1) := by decide +kernel
set_option maxRecDepth 65536 in
set_option maxHeartbeats 40000000 in
theorem rm_next (l : Launch) (Z : State) (a0 : Array Value) (hw : ∀ d ∈ tables_1, d.before a0 Z = true) (ws : List Jvm.Cond) (a : Addr) (w0 : Int64) (h0 : Heap) (n0 : Nat) (Z0 : n0 ≤ h0.size) (E_a : Exa Z h0 a "com/example/lightweave/lightweave/SplitMix64") (F_a : Fld Z h0 a "com/example/lightweave/lightweave/SplitMix64" "state" "J" (.long w0)) (g_a : n0 ≤ a) :
    Con l Z (⟨"com/example/lightweave/lightweave/SplitMix64", "nextLong", "()J"⟩ : MethodName) prog_29_method_2_code 3 (some .long) ws ({ frames := 0, cells := 0, slots := 0, locals := 0 } : Room) #[(.ref a)] h0 (Q_rm_next Z a w0 h0 n0) := by
  refine MetFree.of_bodySF (plainFor_of_name pn_SplitMix64) hisR ?_
  intro p e s m args below meth c s₁ Bd hml0 hP hK
  obtain ⟨rfl, hZ, hh⟩ := hP
  have hx := Bd.exec
  have hby := Bd.bytes
  have hml : c.maxLocals = 3 := hml0
  have hown : s.vm.findClass "com/example/lightweave/lightweave/SplitMix64" = some m.cls := findClass_of_methodNamed Bd.named
  have hnm := (name_of_methodNamed Bd.named Bd.method).1
  have X0 : Stand p l e ({ frames := 0, cells := 0, slots := 0, locals := 0 } : Room) s m #[(.ref a)] below meth c s₁ [] 0 0 := Stand.of_body Bd
  have e0 : s₁.heap = h0 := by rw [← hh, Bd.state]; rfl
  have N0 := Fr.nil n0
  have k0 : Rch p e below (s₁.setTop (entryFrame m #[(.ref a)] 3)) s₁ (mkF m 0 #[.val (.ref a), .unset, .unset] []) := fun tg kg => castTop (ef_rm_next m a) kg
  have lt_E_a := E_a.lt
  have lt_F_a := F_a.lt
  have k1 : Rch p e below (s₁.setTop (entryFrame m #[(.ref a)] 3)) s₁ (mkF m 2 #[.val (.ref a), .unset, .unset] [(.ref a), (.ref a)]) := fun tg kg => by
    refine k0 tg ?_
    show Steps p.tables e below (s₁.setTop (mkF m 0 #[.val (.ref a), .unset, .unset] [])) tg
    refine XS.aloadN X0.here hx rfl (hb hby d3_0) rfl rfl ?_
    show Steps p.tables e below (s₁.setTop (mkF m 1 #[.val (.ref a), .unset, .unset] [(.ref a)])) tg
    refine XS.dup X0.here hx rfl (hb hby d3_1) rfl rfl ?_
    exact kg
  obtain ⟨T2, X2, e2, st2⟩ := getF X0 hx hZ hown (host := "") (Or.inl (hw _ (List.mem_of_getElem? (i := 10) rfl))) Via.refl e0 F_a (g := (mkF m 2 #[.val (.ref a), .unset, .unset] [(.ref a), (.ref a)])) rfl rfl (hb hby d3_2)
  have k3 : Rch p e below (s₁.setTop (entryFrame m #[(.ref a)] 3)) T2 (mkF m 5 #[.val (.ref a), .unset, .unset] [(.long w0), (.ref a)]) := fun tg kg => k1 tg (st2 tg kg)
  have k4 : Rch p e below (s₁.setTop (entryFrame m #[(.ref a)] 3)) T2 (mkF m 9 #[.val (.ref a), .unset, .unset] [(.long (w0 + (-7046029254386353131 : Int64))), (.ref a)]) := fun tg kg => by
    refine k3 tg ?_
    show Steps p.tables e below (T2.setTop (mkF m 5 #[.val (.ref a), .unset, .unset] [(.long w0), (.ref a)])) tg
    refine X2.ldc2Long hx hown (mvT hZ (hw _ (List.mem_of_getElem? (i := 17) rfl))) (g := (mkF m 5 #[.val (.ref a), .unset, .unset] [(.long w0), (.ref a)])) rfl (hb hby d3_5) _ ?_
    show Steps p.tables e below (T2.setTop (mkF m 8 #[.val (.ref a), .unset, .unset] [(.long (-7046029254386353131 : Int64)), (.long w0), (.ref a)])) tg
    refine XS.ladd X2.here hx rfl (hb hby d3_8) rfl ?_
    exact kg
  obtain ⟨T5, h5, X5, e5, W5, st5⟩ := putF X2 hx hZ hown (host := "") (Or.inl (hw _ (List.mem_of_getElem? (i := 10) rfl))) Via.refl e2 F_a E_a (Or.inl (hw _ (List.mem_of_getElem? (i := 11) rfl))) (hw _ (List.mem_of_getElem? (i := 2) rfl)) (ty := .long) (by decide) rfl rfl (g := (mkF m 9 #[.val (.ref a), .unset, .unset] [(.long (w0 + (-7046029254386353131 : Int64))), (.ref a)])) rfl rfl (hb hby d3_9)
  have Fw5 := F_a.same W5
  have s5 : h5.size = h0.size := W5.size
  have N5 := Fr.snoc X5 N0 (by omega : n0 ≤ a)
  have k6 : Rch p e below (s₁.setTop (entryFrame m #[(.ref a)] 3)) T5 (mkF m 12 #[.val (.ref a), .unset, .unset] []) := fun tg kg => k4 tg (st5 tg kg)
  have k7 : Rch p e below (s₁.setTop (entryFrame m #[(.ref a)] 3)) T5 (mkF m 13 #[.val (.ref a), .unset, .unset] [(.ref a)]) := fun tg kg => by
    refine k6 tg ?_
    show Steps p.tables e below (T5.setTop (mkF m 12 #[.val (.ref a), .unset, .unset] [])) tg
    refine XS.aloadN X5.here hx rfl (hb hby d3_12) rfl rfl ?_
    exact kg
  obtain ⟨T8, X8, e8, st8⟩ := getF X5 hx hZ hown (host := "") (Or.inl (hw _ (List.mem_of_getElem? (i := 10) rfl))) Via.refl e5 Fw5 (g := (mkF m 13 #[.val (.ref a), .unset, .unset] [(.ref a)])) rfl rfl (hb hby d3_13)
  have k9 : Rch p e below (s₁.setTop (entryFrame m #[(.ref a)] 3)) T8 (mkF m 16 #[.val (.ref a), .unset, .unset] [(.long (w0 + (-7046029254386353131 : Int64)))]) := fun tg kg => k7 tg (st8 tg kg)
  have k10 : Rch p e below (s₁.setTop (entryFrame m #[(.ref a)] 3)) T8 (mkF m 17 #[.val (.ref a), .val (.long (w0 + (-7046029254386353131 : Int64))), .second] []) := fun tg kg => by
    refine k9 tg ?_
    show Steps p.tables e below (T8.setTop (mkF m 16 #[.val (.ref a), .unset, .unset] [(.long (w0 + (-7046029254386353131 : Int64)))])) tg
    refine XS.lstoreN X8.here hx rfl (hb hby d3_16) rfl (l' := #[.val (.ref a), .val (.long (w0 + (-7046029254386353131 : Int64))), .second]) rfl ?_
    exact kg
  obtain ⟨n11, hn11, k12⟩ : ∃ n11 : Int64, n11 = (w0 + (-7046029254386353131 : Int64)) ∧ Rch p e below (s₁.setTop (entryFrame m #[(.ref a)] 3)) T8 (mkF m 17 #[.val (.ref a), .val (.long n11), .second] []) := ⟨_, rfl, k10⟩
  have k13 : Rch p e below (s₁.setTop (entryFrame m #[(.ref a)] 3)) T8 (mkF m 28 #[.val (.ref a), .val (.long ((n11 ^^^ ((n11.toUInt64 >>> ((30 : Int32) &&& 0x3f).toInt64.toUInt64).toInt64)) * (-4658895280553007687 : Int64))), .second] []) := fun tg kg => by
    refine k12 tg ?_
    show Steps p.tables e below (T8.setTop (mkF m 17 #[.val (.ref a), .val (.long n11), .second] [])) tg
    refine XS.lloadN X8.here hx rfl (hb hby d3_17) rfl ?_
    show Steps p.tables e below (T8.setTop (mkF m 18 #[.val (.ref a), .val (.long n11), .second] [(.long n11)])) tg
    refine XS.lloadN X8.here hx rfl (hb hby d3_18) rfl ?_
    show Steps p.tables e below (T8.setTop (mkF m 19 #[.val (.ref a), .val (.long n11), .second] [(.long n11), (.long n11)])) tg
    refine XS.bipush X8.here hx rfl (hb hby d3_19) ?_
    show Steps p.tables e below (T8.setTop (mkF m 21 #[.val (.ref a), .val (.long n11), .second] [(.int (30 : Int32)), (.long n11), (.long n11)])) tg
    refine XS.lushr X8.here hx rfl (hb hby d3_21) rfl ?_
    show Steps p.tables e below (T8.setTop (mkF m 22 #[.val (.ref a), .val (.long n11), .second] [(.long ((n11.toUInt64 >>> ((30 : Int32) &&& 0x3f).toInt64.toUInt64).toInt64)), (.long n11)])) tg
    refine XS.lxor X8.here hx rfl (hb hby d3_22) rfl ?_
    show Steps p.tables e below (T8.setTop (mkF m 23 #[.val (.ref a), .val (.long n11), .second] [(.long (n11 ^^^ ((n11.toUInt64 >>> ((30 : Int32) &&& 0x3f).toInt64.toUInt64).toInt64)))])) tg
    refine X8.ldc2Long hx hown (mvT hZ (hw _ (List.mem_of_getElem? (i := 18) rfl))) (g := (mkF m 23 #[.val (.ref a), .val (.long n11), .second] [(.long (n11 ^^^ ((n11.toUInt64 >>> ((30 : Int32) &&& 0x3f).toInt64.toUInt64).toInt64)))])) rfl (hb hby d3_23) _ ?_
    show Steps p.tables e below (T8.setTop (mkF m 26 #[.val (.ref a), .val (.long n11), .second] [(.long (-4658895280553007687 : Int64)), (.long (n11 ^^^ ((n11.toUInt64 >>> ((30 : Int32) &&& 0x3f).toInt64.toUInt64).toInt64)))])) tg
    refine XS.lmul X8.here hx rfl (hb hby d3_26) rfl ?_
    show Steps p.tables e below (T8.setTop (mkF m 27 #[.val (.ref a), .val (.long n11), .second] [(.long ((n11 ^^^ ((n11.toUInt64 >>> ((30 : Int32) &&& 0x3f).toInt64.toUInt64).toInt64)) * (-4658895280553007687 : Int64)))])) tg
    refine XS.lstoreN X8.here hx rfl (hb hby d3_27) rfl (l' := #[.val (.ref a), .val (.long ((n11 ^^^ ((n11.toUInt64 >>> ((30 : Int32) &&& 0x3f).toInt64.toUInt64).toInt64)) * (-4658895280553007687 : Int64))), .second]) rfl ?_
    exact kg
  obtain ⟨n14, hn14, k15⟩ : ∃ n14 : Int64, n14 = ((n11 ^^^ ((n11.toUInt64 >>> ((30 : Int32) &&& 0x3f).toInt64.toUInt64).toInt64)) * (-4658895280553007687 : Int64)) ∧ Rch p e below (s₁.setTop (entryFrame m #[(.ref a)] 3)) T8 (mkF m 28 #[.val (.ref a), .val (.long n14), .second] []) := ⟨_, rfl, k13⟩
  have k16 : Rch p e below (s₁.setTop (entryFrame m #[(.ref a)] 3)) T8 (mkF m 39 #[.val (.ref a), .val (.long ((n14 ^^^ ((n14.toUInt64 >>> ((27 : Int32) &&& 0x3f).toInt64.toUInt64).toInt64)) * (-7723592293110705685 : Int64))), .second] []) := fun tg kg => by
    refine k15 tg ?_
    show Steps p.tables e below (T8.setTop (mkF m 28 #[.val (.ref a), .val (.long n14), .second] [])) tg
    refine XS.lloadN X8.here hx rfl (hb hby d3_28) rfl ?_
    show Steps p.tables e below (T8.setTop (mkF m 29 #[.val (.ref a), .val (.long n14), .second] [(.long n14)])) tg
    refine XS.lloadN X8.here hx rfl (hb hby d3_29) rfl ?_
    show Steps p.tables e below (T8.setTop (mkF m 30 #[.val (.ref a), .val (.long n14), .second] [(.long n14), (.long n14)])) tg
    refine XS.bipush X8.here hx rfl (hb hby d3_30) ?_
    show Steps p.tables e below (T8.setTop (mkF m 32 #[.val (.ref a), .val (.long n14), .second] [(.int (27 : Int32)), (.long n14), (.long n14)])) tg
    refine XS.lushr X8.here hx rfl (hb hby d3_32) rfl ?_
    show Steps p.tables e below (T8.setTop (mkF m 33 #[.val (.ref a), .val (.long n14), .second] [(.long ((n14.toUInt64 >>> ((27 : Int32) &&& 0x3f).toInt64.toUInt64).toInt64)), (.long n14)])) tg
    refine XS.lxor X8.here hx rfl (hb hby d3_33) rfl ?_
    show Steps p.tables e below (T8.setTop (mkF m 34 #[.val (.ref a), .val (.long n14), .second] [(.long (n14 ^^^ ((n14.toUInt64 >>> ((27 : Int32) &&& 0x3f).toInt64.toUInt64).toInt64)))])) tg
    refine X8.ldc2Long hx hown (mvT hZ (hw _ (List.mem_of_getElem? (i := 19) rfl))) (g := (mkF m 34 #[.val (.ref a), .val (.long n14), .second] [(.long (n14 ^^^ ((n14.toUInt64 >>> ((27 : Int32) &&& 0x3f).toInt64.toUInt64).toInt64)))])) rfl (hb hby d3_34) _ ?_
    show Steps p.tables e below (T8.setTop (mkF m 37 #[.val (.ref a), .val (.long n14), .second] [(.long (-7723592293110705685 : Int64)), (.long (n14 ^^^ ((n14.toUInt64 >>> ((27 : Int32) &&& 0x3f).toInt64.toUInt64).toInt64)))])) tg
    refine XS.lmul X8.here hx rfl (hb hby d3_37) rfl ?_
    show Steps p.tables e below (T8.setTop (mkF m 38 #[.val (.ref a), .val (.long n14), .second] [(.long ((n14 ^^^ ((n14.toUInt64 >>> ((27 : Int32) &&& 0x3f).toInt64.toUInt64).toInt64)) * (-7723592293110705685 : Int64)))])) tg
    refine XS.lstoreN X8.here hx rfl (hb hby d3_38) rfl (l' := #[.val (.ref a), .val (.long ((n14 ^^^ ((n14.toUInt64 >>> ((27 : Int32) &&& 0x3f).toInt64.toUInt64).toInt64)) * (-7723592293110705685 : Int64))), .second]) rfl ?_
    exact kg
  obtain ⟨n17, hn17, k18⟩ : ∃ n17 : Int64, n17 = ((n14 ^^^ ((n14.toUInt64 >>> ((27 : Int32) &&& 0x3f).toInt64.toUInt64).toInt64)) * (-7723592293110705685 : Int64)) ∧ Rch p e below (s₁.setTop (entryFrame m #[(.ref a)] 3)) T8 (mkF m 39 #[.val (.ref a), .val (.long n17), .second] []) := ⟨_, rfl, k16⟩
  have k19 : Rch p e below (s₁.setTop (entryFrame m #[(.ref a)] 3)) T8 (mkF m 45 #[.val (.ref a), .val (.long n17), .second] [(.long (n17 ^^^ ((n17.toUInt64 >>> ((31 : Int32) &&& 0x3f).toInt64.toUInt64).toInt64)))]) := fun tg kg => by
    refine k18 tg ?_
    show Steps p.tables e below (T8.setTop (mkF m 39 #[.val (.ref a), .val (.long n17), .second] [])) tg
    refine XS.lloadN X8.here hx rfl (hb hby d3_39) rfl ?_
    show Steps p.tables e below (T8.setTop (mkF m 40 #[.val (.ref a), .val (.long n17), .second] [(.long n17)])) tg
    refine XS.lloadN X8.here hx rfl (hb hby d3_40) rfl ?_
    show Steps p.tables e below (T8.setTop (mkF m 41 #[.val (.ref a), .val (.long n17), .second] [(.long n17), (.long n17)])) tg
    refine XS.bipush X8.here hx rfl (hb hby d3_41) ?_
    show Steps p.tables e below (T8.setTop (mkF m 43 #[.val (.ref a), .val (.long n17), .second] [(.int (31 : Int32)), (.long n17), (.long n17)])) tg
    refine XS.lushr X8.here hx rfl (hb hby d3_43) rfl ?_
    show Steps p.tables e below (T8.setTop (mkF m 44 #[.val (.ref a), .val (.long n17), .second] [(.long ((n17.toUInt64 >>> ((31 : Int32) &&& 0x3f).toInt64.toUInt64).toInt64)), (.long n17)])) tg
    refine XS.lxor X8.here hx rfl (hb hby d3_44) rfl ?_
    exact kg
  have f20 : Exa Z h5 a "com/example/lightweave/lightweave/SplitMix64" := (E_a.wr W5)
  obtain ⟨fs21, hr21, hrun21, hended21, hW21, hsame21⟩ := X8.leave (v := some (.long (n17 ^^^ ((n17.toUInt64 >>> ((31 : Int32) &&& 0x3f).toInt64.toUInt64).toInt64)))) (fun h => by rw [Bd.returns] at h; cases h)
  refine ⟨_, _, k19 _ ?_, hrun21, hended21, _, _, rfl, ?_, ⟨_, rfl⟩, hW21, hsame21.mono (by decide) (by decide)⟩
  · exact retOut X8 hx Bd.returns rfl (Or.inr (Or.inl ⟨rfl, rfl, _, rfl⟩)) (hb hby d3_45) hr21
  · show Q_rm_next Z a w0 h0 n0 _ T8.heap _
    rw [e8]
    exact ⟨(by rw [hn17, hn14, hn11]; rfl), N5, ((Keep.refl h0 [a]).wr W5 (Or.inl (List.mem_of_getElem? (i := 0) rfl))), f20, Fw5⟩
theorem pn_SplitMix64NextLongPinLaw : plainName "com/example/lightweave/lightweave/SplitMix64NextLongPinLaw" = true := by first | (simp [plainName, overriddenIn]; done) | decide +kernel
theorem ef_rm0 (m : MethodId) (x0 : Int64) (x1 : Int64) : entryFrame m #[(.long x0), (.long x1)] maxLocals = mkF m 0 #[.val (.long x0), .second, .val (.long x1), .second, .unset, .unset, .unset, .unset, .unset, .unset, .unset, .unset, .unset, .unset, .unset, .unset, .unset, .unset, .unset, .unset, .unset, .unset, .unset, .unset, .unset] [] := by first | (simp [entryFrame, mkF, argsToLocals, Value.category, maxLocals]; done) | rfl
def Q_rm0 (Z : State) (q1 : Int64) (q2 : Int64) (h0 : Heap) (n0 : Nat) (v : Option Value) (h : Heap) (L : List Loc) : Prop := (v = some (.int 1)) ∧ (Fr n0 L)
theorem pd_0 : parseMethodDescriptor "(J)V" = some ⟨[.long], none⟩ := by decide +kernel
theorem pd_1 : parseMethodDescriptor "()J" = some ⟨[], some .long⟩ := by decide +kernel
set_option maxRecDepth 65536 in
set_option maxHeartbeats 40000000 in
theorem rm0 (l : Launch) (Z : State) (a0 : Array Value) (hw : ∀ d ∈ tables_1, d.before a0 Z = true) (ws : List Jvm.Cond) (q1 : Int64) (q2 : Int64) (h0 : Heap) (n0 : Nat) (Z0 : n0 ≤ h0.size)  :
    Con l Z x code maxLocals ret ws room_1 #[(.long q1), (.long q2)] h0 (Q_rm0 Z q1 q2 h0 n0) := by
  refine MetFree.of_bodySF (plainFor_of_name pn_SplitMix64NextLongPinLaw) hisR ?_
  intro p e s m args below meth c s₁ Bd hml0 hP hK
  obtain ⟨rfl, hZ, hh⟩ := hP
  have hx := Bd.exec
  have hby := Bd.bytes
  have hml : c.maxLocals = 25 := hml0
  have hown : s.vm.findClass "com/example/lightweave/lightweave/SplitMix64NextLongPinLaw" = some m.cls := findClass_of_methodNamed Bd.named
  have hnm := (name_of_methodNamed Bd.named Bd.method).1
  have X0 : Stand p l e room_1 s m #[(.long q1), (.long q2)] below meth c s₁ [] 0 0 := Stand.of_body Bd
  have e0 : s₁.heap = h0 := by rw [← hh, Bd.state]; rfl
  have N0 := Fr.nil n0
  have k0 : Rch p e below (s₁.setTop (entryFrame m #[(.long q1), (.long q2)] maxLocals)) s₁ (mkF m 0 #[.val (.long q1), .second, .val (.long q2), .second, .unset, .unset, .unset, .unset, .unset, .unset, .unset, .unset, .unset, .unset, .unset, .unset, .unset, .unset, .unset, .unset, .unset, .unset, .unset, .unset, .unset] []) := fun tg kg => castTop (ef_rm0 m q1 q2) kg
  have k1 : Rch p e below (s₁.setTop (entryFrame m #[(.long q1), (.long q2)] maxLocals)) s₁ (mkF m 12 #[.val (.long q1), .second, .val (.long q2), .second, .val (.long (-7046029254386353131 : Int64)), .second, .val (.long (q1 ^^^ (q2 ||| (1 : Int64)))), .second, .unset, .unset, .unset, .unset, .unset, .unset, .unset, .unset, .unset, .unset, .unset, .unset, .unset, .unset, .unset, .unset, .unset] []) := fun tg kg => by
    refine k0 tg ?_
    show Steps p.tables e below (s₁.setTop (mkF m 0 #[.val (.long q1), .second, .val (.long q2), .second, .unset, .unset, .unset, .unset, .unset, .unset, .unset, .unset, .unset, .unset, .unset, .unset, .unset, .unset, .unset, .unset, .unset, .unset, .unset, .unset, .unset] [])) tg
    refine X0.ldc2Long hx hown (mvT hZ (hw _ (List.mem_of_getElem? (i := 0) rfl))) (g := (mkF m 0 #[.val (.long q1), .second, .val (.long q2), .second, .unset, .unset, .unset, .unset, .unset, .unset, .unset, .unset, .unset, .unset, .unset, .unset, .unset, .unset, .unset, .unset, .unset, .unset, .unset, .unset, .unset] [])) rfl (hb hby at_0) _ ?_
    show Steps p.tables e below (s₁.setTop (mkF m 3 #[.val (.long q1), .second, .val (.long q2), .second, .unset, .unset, .unset, .unset, .unset, .unset, .unset, .unset, .unset, .unset, .unset, .unset, .unset, .unset, .unset, .unset, .unset, .unset, .unset, .unset, .unset] [(.long (-7046029254386353131 : Int64))])) tg
    refine XS.lstore X0.here hx rfl (hb hby at_3) rfl (l' := #[.val (.long q1), .second, .val (.long q2), .second, .val (.long (-7046029254386353131 : Int64)), .second, .unset, .unset, .unset, .unset, .unset, .unset, .unset, .unset, .unset, .unset, .unset, .unset, .unset, .unset, .unset, .unset, .unset, .unset, .unset]) rfl ?_
    show Steps p.tables e below (s₁.setTop (mkF m 5 #[.val (.long q1), .second, .val (.long q2), .second, .val (.long (-7046029254386353131 : Int64)), .second, .unset, .unset, .unset, .unset, .unset, .unset, .unset, .unset, .unset, .unset, .unset, .unset, .unset, .unset, .unset, .unset, .unset, .unset, .unset] [])) tg
    refine XS.lloadN X0.here hx rfl (hb hby at_5) rfl ?_
    show Steps p.tables e below (s₁.setTop (mkF m 6 #[.val (.long q1), .second, .val (.long q2), .second, .val (.long (-7046029254386353131 : Int64)), .second, .unset, .unset, .unset, .unset, .unset, .unset, .unset, .unset, .unset, .unset, .unset, .unset, .unset, .unset, .unset, .unset, .unset, .unset, .unset] [(.long q1)])) tg
    refine XS.lloadN X0.here hx rfl (hb hby at_6) rfl ?_
    show Steps p.tables e below (s₁.setTop (mkF m 7 #[.val (.long q1), .second, .val (.long q2), .second, .val (.long (-7046029254386353131 : Int64)), .second, .unset, .unset, .unset, .unset, .unset, .unset, .unset, .unset, .unset, .unset, .unset, .unset, .unset, .unset, .unset, .unset, .unset, .unset, .unset] [(.long q2), (.long q1)])) tg
    refine XS.lconst X0.here hx rfl (hb hby at_7) ?_
    show Steps p.tables e below (s₁.setTop (mkF m 8 #[.val (.long q1), .second, .val (.long q2), .second, .val (.long (-7046029254386353131 : Int64)), .second, .unset, .unset, .unset, .unset, .unset, .unset, .unset, .unset, .unset, .unset, .unset, .unset, .unset, .unset, .unset, .unset, .unset, .unset, .unset] [(.long (1 : Int64)), (.long q2), (.long q1)])) tg
    refine XS.lor X0.here hx rfl (hb hby at_8) rfl ?_
    show Steps p.tables e below (s₁.setTop (mkF m 9 #[.val (.long q1), .second, .val (.long q2), .second, .val (.long (-7046029254386353131 : Int64)), .second, .unset, .unset, .unset, .unset, .unset, .unset, .unset, .unset, .unset, .unset, .unset, .unset, .unset, .unset, .unset, .unset, .unset, .unset, .unset] [(.long (q2 ||| (1 : Int64))), (.long q1)])) tg
    refine XS.lxor X0.here hx rfl (hb hby at_9) rfl ?_
    show Steps p.tables e below (s₁.setTop (mkF m 10 #[.val (.long q1), .second, .val (.long q2), .second, .val (.long (-7046029254386353131 : Int64)), .second, .unset, .unset, .unset, .unset, .unset, .unset, .unset, .unset, .unset, .unset, .unset, .unset, .unset, .unset, .unset, .unset, .unset, .unset, .unset] [(.long (q1 ^^^ (q2 ||| (1 : Int64))))])) tg
    refine XS.lstore X0.here hx rfl (hb hby at_10) rfl (l' := #[.val (.long q1), .second, .val (.long q2), .second, .val (.long (-7046029254386353131 : Int64)), .second, .val (.long (q1 ^^^ (q2 ||| (1 : Int64)))), .second, .unset, .unset, .unset, .unset, .unset, .unset, .unset, .unset, .unset, .unset, .unset, .unset, .unset, .unset, .unset, .unset, .unset]) rfl ?_
    exact kg
  obtain ⟨T2, h2, X2, e2, E2, A2, D2, -, st2⟩ := newO X0 hx hZ hown (hw _ (List.mem_of_getElem? (i := 1) rfl)) (hw _ (List.mem_of_getElem? (i := 2) rfl)) (hw _ (List.mem_of_getElem? (i := 3) rfl)) e0 (g := (mkF m 12 #[.val (.long q1), .second, .val (.long q2), .second, .val (.long (-7046029254386353131 : Int64)), .second, .val (.long (q1 ^^^ (q2 ||| (1 : Int64)))), .second, .unset, .unset, .unset, .unset, .unset, .unset, .unset, .unset, .unset, .unset, .unset, .unset, .unset, .unset, .unset, .unset, .unset] [])) rfl (hb hby at_12) (by decide) (by decide)
  obtain ⟨b2, g2⟩ : ∃ z, z = h0.size := ⟨_, rfl⟩
  rw [← g2] at A2 D2 st2
  have s2 : h0.size ≤ h2.size := E2.1
  have lt2 : b2 < h2.size := A2.lt
  have k3 : Rch p e below (s₁.setTop (entryFrame m #[(.long q1), (.long q2)] maxLocals)) T2 (mkF m 15 #[.val (.long q1), .second, .val (.long q2), .second, .val (.long (-7046029254386353131 : Int64)), .second, .val (.long (q1 ^^^ (q2 ||| (1 : Int64)))), .second, .unset, .unset, .unset, .unset, .unset, .unset, .unset, .unset, .unset, .unset, .unset, .unset, .unset, .unset, .unset, .unset, .unset] [(.ref b2)]) := fun tg kg => k1 tg (st2 tg kg)
  have F2_state : Fld Z h2 b2 "com/example/lightweave/lightweave/SplitMix64" "state" "J" (.long (0 : Int64)) := D2 (Or.inl (hw _ (List.mem_of_getElem? (i := 11) rfl))) (ty := .long) (by decide)
  have k4 : Rch p e below (s₁.setTop (entryFrame m #[(.long q1), (.long q2)] maxLocals)) T2 (mkF m 17 #[.val (.long q1), .second, .val (.long q2), .second, .val (.long (-7046029254386353131 : Int64)), .second, .val (.long (q1 ^^^ (q2 ||| (1 : Int64)))), .second, .unset, .unset, .unset, .unset, .unset, .unset, .unset, .unset, .unset, .unset, .unset, .unset, .unset, .unset, .unset, .unset, .unset] [(.long q1), (.ref b2), (.ref b2)]) := fun tg kg => by
    refine k3 tg ?_
    show Steps p.tables e below (T2.setTop (mkF m 15 #[.val (.long q1), .second, .val (.long q2), .second, .val (.long (-7046029254386353131 : Int64)), .second, .val (.long (q1 ^^^ (q2 ||| (1 : Int64)))), .second, .unset, .unset, .unset, .unset, .unset, .unset, .unset, .unset, .unset, .unset, .unset, .unset, .unset, .unset, .unset, .unset, .unset] [(.ref b2)])) tg
    refine XS.dup X2.here hx rfl (hb hby at_15) rfl rfl ?_
    show Steps p.tables e below (T2.setTop (mkF m 16 #[.val (.long q1), .second, .val (.long q2), .second, .val (.long (-7046029254386353131 : Int64)), .second, .val (.long (q1 ^^^ (q2 ||| (1 : Int64)))), .second, .unset, .unset, .unset, .unset, .unset, .unset, .unset, .unset, .unset, .unset, .unset, .unset, .unset, .unset, .unset, .unset, .unset] [(.ref b2), (.ref b2)])) tg
    refine XS.lloadN X2.here hx rfl (hb hby at_16) rfl ?_
    exact kg
  obtain ⟨v5, T5, h5, Lc5, X5, e5, hQ5, st5⟩ := own_callC X2 hx hZ rfl hown (hw _ (List.mem_of_getElem? (i := 4) rfl)) (hw _ (List.mem_of_getElem? (i := 5) rfl)) (hw _ (List.mem_of_getElem? (i := 3) rfl)) (hw _ (List.mem_of_getElem? (i := 6) rfl)) (by decide) (rm_init l Z a0 hw [] b2 q1 (.long (0 : Int64)) h2 n0 (by omega) A2 F2_state (by omega)) e2 (a := b2) (g := (mkF m 17 #[.val (.long q1), .second, .val (.long q2), .second, .val (.long (-7046029254386353131 : Int64)), .second, .val (.long (q1 ^^^ (q2 ||| (1 : Int64)))), .second, .unset, .unset, .unset, .unset, .unset, .unset, .unset, .unset, .unset, .unset, .unset, .unset, .unset, .unset, .unset, .unset, .unset] [(.long q1), (.ref b2), (.ref b2)])) rfl (by rw [hml]; rfl) (argsL := [(.long q1)]) (rest := [(.ref b2)]) rfl (lenOf pd_0 rfl) rfl (W := 1) (by show 2 * 0 + _ ≤ _; exact Nat.le_of_eq rfl) (hb hby at_17) (by decide) (by decide) (by decide) (by decide)
  obtain ⟨rfl, Nq5, K5, fq5_3, fq5_4⟩ := hQ5
  have N5 := Fr.app N0 Nq5
  have s5 : h2.size ≤ h5.size := K5.1
  have k6 : Rch p e below (s₁.setTop (entryFrame m #[(.long q1), (.long q2)] maxLocals)) T5 (mkF m 20 #[.val (.long q1), .second, .val (.long q2), .second, .val (.long (-7046029254386353131 : Int64)), .second, .val (.long (q1 ^^^ (q2 ||| (1 : Int64)))), .second, .unset, .unset, .unset, .unset, .unset, .unset, .unset, .unset, .unset, .unset, .unset, .unset, .unset, .unset, .unset, .unset, .unset] [(.ref b2)]) := fun tg kg => k4 tg (st5 tg kg)
  have lt_fq5_3 := fq5_3.lt
  have lt_fq5_4 := fq5_4.lt
  have k7 : Rch p e below (s₁.setTop (entryFrame m #[(.long q1), (.long q2)] maxLocals)) T5 (mkF m 22 #[.val (.long q1), .second, .val (.long q2), .second, .val (.long (-7046029254386353131 : Int64)), .second, .val (.long (q1 ^^^ (q2 ||| (1 : Int64)))), .second, .val (.ref b2), .unset, .unset, .unset, .unset, .unset, .unset, .unset, .unset, .unset, .unset, .unset, .unset, .unset, .unset, .unset, .unset] []) := fun tg kg => by
    refine k6 tg ?_
    show Steps p.tables e below (T5.setTop (mkF m 20 #[.val (.long q1), .second, .val (.long q2), .second, .val (.long (-7046029254386353131 : Int64)), .second, .val (.long (q1 ^^^ (q2 ||| (1 : Int64)))), .second, .unset, .unset, .unset, .unset, .unset, .unset, .unset, .unset, .unset, .unset, .unset, .unset, .unset, .unset, .unset, .unset, .unset] [(.ref b2)])) tg
    refine XS.astore X5.here hx rfl (hb hby at_20) rfl rfl (l' := #[.val (.long q1), .second, .val (.long q2), .second, .val (.long (-7046029254386353131 : Int64)), .second, .val (.long (q1 ^^^ (q2 ||| (1 : Int64)))), .second, .val (.ref b2), .unset, .unset, .unset, .unset, .unset, .unset, .unset, .unset, .unset, .unset, .unset, .unset, .unset, .unset, .unset, .unset]) rfl ?_
    exact kg
  obtain ⟨T8, h8, X8, e8, E8, A8, D8, -, st8⟩ := newO X5 hx hZ hown (hw _ (List.mem_of_getElem? (i := 1) rfl)) (hw _ (List.mem_of_getElem? (i := 2) rfl)) (hw _ (List.mem_of_getElem? (i := 3) rfl)) e5 (g := (mkF m 22 #[.val (.long q1), .second, .val (.long q2), .second, .val (.long (-7046029254386353131 : Int64)), .second, .val (.long (q1 ^^^ (q2 ||| (1 : Int64)))), .second, .val (.ref b2), .unset, .unset, .unset, .unset, .unset, .unset, .unset, .unset, .unset, .unset, .unset, .unset, .unset, .unset, .unset, .unset] [])) rfl (hb hby at_22) (by decide) (by decide)
  obtain ⟨b8, g8⟩ : ∃ z, z = h5.size := ⟨_, rfl⟩
  rw [← g8] at A8 D8 st8
  have s8 : h5.size ≤ h8.size := E8.1
  have lt8 : b8 < h8.size := A8.lt
  have k9 : Rch p e below (s₁.setTop (entryFrame m #[(.long q1), (.long q2)] maxLocals)) T8 (mkF m 25 #[.val (.long q1), .second, .val (.long q2), .second, .val (.long (-7046029254386353131 : Int64)), .second, .val (.long (q1 ^^^ (q2 ||| (1 : Int64)))), .second, .val (.ref b2), .unset, .unset, .unset, .unset, .unset, .unset, .unset, .unset, .unset, .unset, .unset, .unset, .unset, .unset, .unset, .unset] [(.ref b8)]) := fun tg kg => k7 tg (st8 tg kg)
  have F8_state : Fld Z h8 b8 "com/example/lightweave/lightweave/SplitMix64" "state" "J" (.long (0 : Int64)) := D8 (Or.inl (hw _ (List.mem_of_getElem? (i := 11) rfl))) (ty := .long) (by decide)
  have k10 : Rch p e below (s₁.setTop (entryFrame m #[(.long q1), (.long q2)] maxLocals)) T8 (mkF m 30 #[.val (.long q1), .second, .val (.long q2), .second, .val (.long (-7046029254386353131 : Int64)), .second, .val (.long (q1 ^^^ (q2 ||| (1 : Int64)))), .second, .val (.ref b2), .unset, .unset, .unset, .unset, .unset, .unset, .unset, .unset, .unset, .unset, .unset, .unset, .unset, .unset, .unset, .unset] [(.long (q1 + (-7046029254386353131 : Int64))), (.ref b8), (.ref b8)]) := fun tg kg => by
    refine k9 tg ?_
    show Steps p.tables e below (T8.setTop (mkF m 25 #[.val (.long q1), .second, .val (.long q2), .second, .val (.long (-7046029254386353131 : Int64)), .second, .val (.long (q1 ^^^ (q2 ||| (1 : Int64)))), .second, .val (.ref b2), .unset, .unset, .unset, .unset, .unset, .unset, .unset, .unset, .unset, .unset, .unset, .unset, .unset, .unset, .unset, .unset] [(.ref b8)])) tg
    refine XS.dup X8.here hx rfl (hb hby at_25) rfl rfl ?_
    show Steps p.tables e below (T8.setTop (mkF m 26 #[.val (.long q1), .second, .val (.long q2), .second, .val (.long (-7046029254386353131 : Int64)), .second, .val (.long (q1 ^^^ (q2 ||| (1 : Int64)))), .second, .val (.ref b2), .unset, .unset, .unset, .unset, .unset, .unset, .unset, .unset, .unset, .unset, .unset, .unset, .unset, .unset, .unset, .unset] [(.ref b8), (.ref b8)])) tg
    refine XS.lloadN X8.here hx rfl (hb hby at_26) rfl ?_
    show Steps p.tables e below (T8.setTop (mkF m 27 #[.val (.long q1), .second, .val (.long q2), .second, .val (.long (-7046029254386353131 : Int64)), .second, .val (.long (q1 ^^^ (q2 ||| (1 : Int64)))), .second, .val (.ref b2), .unset, .unset, .unset, .unset, .unset, .unset, .unset, .unset, .unset, .unset, .unset, .unset, .unset, .unset, .unset, .unset] [(.long q1), (.ref b8), (.ref b8)])) tg
    refine XS.lload X8.here hx rfl (hb hby at_27) rfl ?_
    show Steps p.tables e below (T8.setTop (mkF m 29 #[.val (.long q1), .second, .val (.long q2), .second, .val (.long (-7046029254386353131 : Int64)), .second, .val (.long (q1 ^^^ (q2 ||| (1 : Int64)))), .second, .val (.ref b2), .unset, .unset, .unset, .unset, .unset, .unset, .unset, .unset, .unset, .unset, .unset, .unset, .unset, .unset, .unset, .unset] [(.long (-7046029254386353131 : Int64)), (.long q1), (.ref b8), (.ref b8)])) tg
    refine XS.ladd X8.here hx rfl (hb hby at_29) rfl ?_
    exact kg
  obtain ⟨v11, T11, h11, Lc11, X11, e11, hQ11, st11⟩ := own_callC X8 hx hZ rfl hown (hw _ (List.mem_of_getElem? (i := 4) rfl)) (hw _ (List.mem_of_getElem? (i := 5) rfl)) (hw _ (List.mem_of_getElem? (i := 3) rfl)) (hw _ (List.mem_of_getElem? (i := 6) rfl)) (by decide) (rm_init l Z a0 hw [] b8 (q1 + (-7046029254386353131 : Int64)) (.long (0 : Int64)) h8 n0 (by omega) A8 F8_state (by omega)) e8 (a := b8) (g := (mkF m 30 #[.val (.long q1), .second, .val (.long q2), .second, .val (.long (-7046029254386353131 : Int64)), .second, .val (.long (q1 ^^^ (q2 ||| (1 : Int64)))), .second, .val (.ref b2), .unset, .unset, .unset, .unset, .unset, .unset, .unset, .unset, .unset, .unset, .unset, .unset, .unset, .unset, .unset, .unset] [(.long (q1 + (-7046029254386353131 : Int64))), (.ref b8), (.ref b8)])) rfl (by rw [hml]; rfl) (argsL := [(.long (q1 + (-7046029254386353131 : Int64)))]) (rest := [(.ref b8)]) rfl (lenOf pd_0 rfl) rfl (W := 1) (by show 2 * 0 + _ ≤ _; exact Nat.le_of_eq rfl) (hb hby at_30) (by decide) (by decide) (by decide) (by decide)
  obtain ⟨rfl, Nq11, K11, fq11_3, fq11_4⟩ := hQ11
  have N11 := Fr.app N5 Nq11
  have s11 : h8.size ≤ h11.size := K11.1
  have k12 : Rch p e below (s₁.setTop (entryFrame m #[(.long q1), (.long q2)] maxLocals)) T11 (mkF m 33 #[.val (.long q1), .second, .val (.long q2), .second, .val (.long (-7046029254386353131 : Int64)), .second, .val (.long (q1 ^^^ (q2 ||| (1 : Int64)))), .second, .val (.ref b2), .unset, .unset, .unset, .unset, .unset, .unset, .unset, .unset, .unset, .unset, .unset, .unset, .unset, .unset, .unset, .unset] [(.ref b8)]) := fun tg kg => k10 tg (st11 tg kg)
  have lt_fq11_3 := fq11_3.lt
  have lt_fq11_4 := fq11_4.lt
  have k13 : Rch p e below (s₁.setTop (entryFrame m #[(.long q1), (.long q2)] maxLocals)) T11 (mkF m 35 #[.val (.long q1), .second, .val (.long q2), .second, .val (.long (-7046029254386353131 : Int64)), .second, .val (.long (q1 ^^^ (q2 ||| (1 : Int64)))), .second, .val (.ref b2), .val (.ref b8), .unset, .unset, .unset, .unset, .unset, .unset, .unset, .unset, .unset, .unset, .unset, .unset, .unset, .unset, .unset] []) := fun tg kg => by
    refine k12 tg ?_
    show Steps p.tables e below (T11.setTop (mkF m 33 #[.val (.long q1), .second, .val (.long q2), .second, .val (.long (-7046029254386353131 : Int64)), .second, .val (.long (q1 ^^^ (q2 ||| (1 : Int64)))), .second, .val (.ref b2), .unset, .unset, .unset, .unset, .unset, .unset, .unset, .unset, .unset, .unset, .unset, .unset, .unset, .unset, .unset, .unset] [(.ref b8)])) tg
    refine XS.astore X11.here hx rfl (hb hby at_33) rfl rfl (l' := #[.val (.long q1), .second, .val (.long q2), .second, .val (.long (-7046029254386353131 : Int64)), .second, .val (.long (q1 ^^^ (q2 ||| (1 : Int64)))), .second, .val (.ref b2), .val (.ref b8), .unset, .unset, .unset, .unset, .unset, .unset, .unset, .unset, .unset, .unset, .unset, .unset, .unset, .unset, .unset]) rfl ?_
    exact kg
  obtain ⟨T14, h14, X14, e14, E14, A14, D14, -, st14⟩ := newO X11 hx hZ hown (hw _ (List.mem_of_getElem? (i := 1) rfl)) (hw _ (List.mem_of_getElem? (i := 2) rfl)) (hw _ (List.mem_of_getElem? (i := 3) rfl)) e11 (g := (mkF m 35 #[.val (.long q1), .second, .val (.long q2), .second, .val (.long (-7046029254386353131 : Int64)), .second, .val (.long (q1 ^^^ (q2 ||| (1 : Int64)))), .second, .val (.ref b2), .val (.ref b8), .unset, .unset, .unset, .unset, .unset, .unset, .unset, .unset, .unset, .unset, .unset, .unset, .unset, .unset, .unset] [])) rfl (hb hby at_35) (by decide) (by decide)
  obtain ⟨b14, g14⟩ : ∃ z, z = h11.size := ⟨_, rfl⟩
  rw [← g14] at A14 D14 st14
  have s14 : h11.size ≤ h14.size := E14.1
  have lt14 : b14 < h14.size := A14.lt
  have k15 : Rch p e below (s₁.setTop (entryFrame m #[(.long q1), (.long q2)] maxLocals)) T14 (mkF m 38 #[.val (.long q1), .second, .val (.long q2), .second, .val (.long (-7046029254386353131 : Int64)), .second, .val (.long (q1 ^^^ (q2 ||| (1 : Int64)))), .second, .val (.ref b2), .val (.ref b8), .unset, .unset, .unset, .unset, .unset, .unset, .unset, .unset, .unset, .unset, .unset, .unset, .unset, .unset, .unset] [(.ref b14)]) := fun tg kg => k13 tg (st14 tg kg)
  have F14_state : Fld Z h14 b14 "com/example/lightweave/lightweave/SplitMix64" "state" "J" (.long (0 : Int64)) := D14 (Or.inl (hw _ (List.mem_of_getElem? (i := 11) rfl))) (ty := .long) (by decide)
  have k16 : Rch p e below (s₁.setTop (entryFrame m #[(.long q1), (.long q2)] maxLocals)) T14 (mkF m 41 #[.val (.long q1), .second, .val (.long q2), .second, .val (.long (-7046029254386353131 : Int64)), .second, .val (.long (q1 ^^^ (q2 ||| (1 : Int64)))), .second, .val (.ref b2), .val (.ref b8), .unset, .unset, .unset, .unset, .unset, .unset, .unset, .unset, .unset, .unset, .unset, .unset, .unset, .unset, .unset] [(.long (q1 ^^^ (q2 ||| (1 : Int64)))), (.ref b14), (.ref b14)]) := fun tg kg => by
    refine k15 tg ?_
    show Steps p.tables e below (T14.setTop (mkF m 38 #[.val (.long q1), .second, .val (.long q2), .second, .val (.long (-7046029254386353131 : Int64)), .second, .val (.long (q1 ^^^ (q2 ||| (1 : Int64)))), .second, .val (.ref b2), .val (.ref b8), .unset, .unset, .unset, .unset, .unset, .unset, .unset, .unset, .unset, .unset, .unset, .unset, .unset, .unset, .unset] [(.ref b14)])) tg
    refine XS.dup X14.here hx rfl (hb hby at_38) rfl rfl ?_
    show Steps p.tables e below (T14.setTop (mkF m 39 #[.val (.long q1), .second, .val (.long q2), .second, .val (.long (-7046029254386353131 : Int64)), .second, .val (.long (q1 ^^^ (q2 ||| (1 : Int64)))), .second, .val (.ref b2), .val (.ref b8), .unset, .unset, .unset, .unset, .unset, .unset, .unset, .unset, .unset, .unset, .unset, .unset, .unset, .unset, .unset] [(.ref b14), (.ref b14)])) tg
    refine XS.lload X14.here hx rfl (hb hby at_39) rfl ?_
    exact kg
  obtain ⟨v17, T17, h17, Lc17, X17, e17, hQ17, st17⟩ := own_callC X14 hx hZ rfl hown (hw _ (List.mem_of_getElem? (i := 4) rfl)) (hw _ (List.mem_of_getElem? (i := 5) rfl)) (hw _ (List.mem_of_getElem? (i := 3) rfl)) (hw _ (List.mem_of_getElem? (i := 6) rfl)) (by decide) (rm_init l Z a0 hw [] b14 (q1 ^^^ (q2 ||| (1 : Int64))) (.long (0 : Int64)) h14 n0 (by omega) A14 F14_state (by omega)) e14 (a := b14) (g := (mkF m 41 #[.val (.long q1), .second, .val (.long q2), .second, .val (.long (-7046029254386353131 : Int64)), .second, .val (.long (q1 ^^^ (q2 ||| (1 : Int64)))), .second, .val (.ref b2), .val (.ref b8), .unset, .unset, .unset, .unset, .unset, .unset, .unset, .unset, .unset, .unset, .unset, .unset, .unset, .unset, .unset] [(.long (q1 ^^^ (q2 ||| (1 : Int64)))), (.ref b14), (.ref b14)])) rfl (by rw [hml]; rfl) (argsL := [(.long (q1 ^^^ (q2 ||| (1 : Int64))))]) (rest := [(.ref b14)]) rfl (lenOf pd_0 rfl) rfl (W := 1) (by show 2 * 0 + _ ≤ _; exact Nat.le_of_eq rfl) (hb hby at_41) (by decide) (by decide) (by decide) (by decide)
  obtain ⟨rfl, Nq17, K17, fq17_3, fq17_4⟩ := hQ17
  have N17 := Fr.app N11 Nq17
  have s17 : h14.size ≤ h17.size := K17.1
  have k18 : Rch p e below (s₁.setTop (entryFrame m #[(.long q1), (.long q2)] maxLocals)) T17 (mkF m 44 #[.val (.long q1), .second, .val (.long q2), .second, .val (.long (-7046029254386353131 : Int64)), .second, .val (.long (q1 ^^^ (q2 ||| (1 : Int64)))), .second, .val (.ref b2), .val (.ref b8), .unset, .unset, .unset, .unset, .unset, .unset, .unset, .unset, .unset, .unset, .unset, .unset, .unset, .unset, .unset] [(.ref b14)]) := fun tg kg => k16 tg (st17 tg kg)
  have lt_fq17_3 := fq17_3.lt
  have lt_fq17_4 := fq17_4.lt
  have k19 : Rch p e below (s₁.setTop (entryFrame m #[(.long q1), (.long q2)] maxLocals)) T17 (mkF m 46 #[.val (.long q1), .second, .val (.long q2), .second, .val (.long (-7046029254386353131 : Int64)), .second, .val (.long (q1 ^^^ (q2 ||| (1 : Int64)))), .second, .val (.ref b2), .val (.ref b8), .val (.ref b14), .unset, .unset, .unset, .unset, .unset, .unset, .unset, .unset, .unset, .unset, .unset, .unset, .unset, .unset] []) := fun tg kg => by
    refine k18 tg ?_
    show Steps p.tables e below (T17.setTop (mkF m 44 #[.val (.long q1), .second, .val (.long q2), .second, .val (.long (-7046029254386353131 : Int64)), .second, .val (.long (q1 ^^^ (q2 ||| (1 : Int64)))), .second, .val (.ref b2), .val (.ref b8), .unset, .unset, .unset, .unset, .unset, .unset, .unset, .unset, .unset, .unset, .unset, .unset, .unset, .unset, .unset] [(.ref b14)])) tg
    refine XS.astore X17.here hx rfl (hb hby at_44) rfl rfl (l' := #[.val (.long q1), .second, .val (.long q2), .second, .val (.long (-7046029254386353131 : Int64)), .second, .val (.long (q1 ^^^ (q2 ||| (1 : Int64)))), .second, .val (.ref b2), .val (.ref b8), .val (.ref b14), .unset, .unset, .unset, .unset, .unset, .unset, .unset, .unset, .unset, .unset, .unset, .unset, .unset, .unset]) rfl ?_
    exact kg
  obtain ⟨T20, h20, X20, e20, E20, A20, D20, -, st20⟩ := newO X17 hx hZ hown (hw _ (List.mem_of_getElem? (i := 1) rfl)) (hw _ (List.mem_of_getElem? (i := 2) rfl)) (hw _ (List.mem_of_getElem? (i := 3) rfl)) e17 (g := (mkF m 46 #[.val (.long q1), .second, .val (.long q2), .second, .val (.long (-7046029254386353131 : Int64)), .second, .val (.long (q1 ^^^ (q2 ||| (1 : Int64)))), .second, .val (.ref b2), .val (.ref b8), .val (.ref b14), .unset, .unset, .unset, .unset, .unset, .unset, .unset, .unset, .unset, .unset, .unset, .unset, .unset, .unset] [])) rfl (hb hby at_46) (by decide) (by decide)
  obtain ⟨b20, g20⟩ : ∃ z, z = h17.size := ⟨_, rfl⟩
  rw [← g20] at A20 D20 st20
  have s20 : h17.size ≤ h20.size := E20.1
  have lt20 : b20 < h20.size := A20.lt
  have k21 : Rch p e below (s₁.setTop (entryFrame m #[(.long q1), (.long q2)] maxLocals)) T20 (mkF m 49 #[.val (.long q1), .second, .val (.long q2), .second, .val (.long (-7046029254386353131 : Int64)), .second, .val (.long (q1 ^^^ (q2 ||| (1 : Int64)))), .second, .val (.ref b2), .val (.ref b8), .val (.ref b14), .unset, .unset, .unset, .unset, .unset, .unset, .unset, .unset, .unset, .unset, .unset, .unset, .unset, .unset] [(.ref b20)]) := fun tg kg => k19 tg (st20 tg kg)
  have F20_state : Fld Z h20 b20 "com/example/lightweave/lightweave/SplitMix64" "state" "J" (.long (0 : Int64)) := D20 (Or.inl (hw _ (List.mem_of_getElem? (i := 11) rfl))) (ty := .long) (by decide)
  have k22 : Rch p e below (s₁.setTop (entryFrame m #[(.long q1), (.long q2)] maxLocals)) T20 (mkF m 51 #[.val (.long q1), .second, .val (.long q2), .second, .val (.long (-7046029254386353131 : Int64)), .second, .val (.long (q1 ^^^ (q2 ||| (1 : Int64)))), .second, .val (.ref b2), .val (.ref b8), .val (.ref b14), .unset, .unset, .unset, .unset, .unset, .unset, .unset, .unset, .unset, .unset, .unset, .unset, .unset, .unset] [(.long (0 : Int64)), (.ref b20), (.ref b20)]) := fun tg kg => by
    refine k21 tg ?_
    show Steps p.tables e below (T20.setTop (mkF m 49 #[.val (.long q1), .second, .val (.long q2), .second, .val (.long (-7046029254386353131 : Int64)), .second, .val (.long (q1 ^^^ (q2 ||| (1 : Int64)))), .second, .val (.ref b2), .val (.ref b8), .val (.ref b14), .unset, .unset, .unset, .unset, .unset, .unset, .unset, .unset, .unset, .unset, .unset, .unset, .unset, .unset] [(.ref b20)])) tg
    refine XS.dup X20.here hx rfl (hb hby at_49) rfl rfl ?_
    show Steps p.tables e below (T20.setTop (mkF m 50 #[.val (.long q1), .second, .val (.long q2), .second, .val (.long (-7046029254386353131 : Int64)), .second, .val (.long (q1 ^^^ (q2 ||| (1 : Int64)))), .second, .val (.ref b2), .val (.ref b8), .val (.ref b14), .unset, .unset, .unset, .unset, .unset, .unset, .unset, .unset, .unset, .unset, .unset, .unset, .unset, .unset] [(.ref b20), (.ref b20)])) tg
    refine XS.lconst X20.here hx rfl (hb hby at_50) ?_
    exact kg
  obtain ⟨v23, T23, h23, Lc23, X23, e23, hQ23, st23⟩ := own_callC X20 hx hZ rfl hown (hw _ (List.mem_of_getElem? (i := 4) rfl)) (hw _ (List.mem_of_getElem? (i := 5) rfl)) (hw _ (List.mem_of_getElem? (i := 3) rfl)) (hw _ (List.mem_of_getElem? (i := 6) rfl)) (by decide) (rm_init l Z a0 hw [] b20 (0 : Int64) (.long (0 : Int64)) h20 n0 (by omega) A20 F20_state (by omega)) e20 (a := b20) (g := (mkF m 51 #[.val (.long q1), .second, .val (.long q2), .second, .val (.long (-7046029254386353131 : Int64)), .second, .val (.long (q1 ^^^ (q2 ||| (1 : Int64)))), .second, .val (.ref b2), .val (.ref b8), .val (.ref b14), .unset, .unset, .unset, .unset, .unset, .unset, .unset, .unset, .unset, .unset, .unset, .unset, .unset, .unset] [(.long (0 : Int64)), (.ref b20), (.ref b20)])) rfl (by rw [hml]; rfl) (argsL := [(.long (0 : Int64))]) (rest := [(.ref b20)]) rfl (lenOf pd_0 rfl) rfl (W := 1) (by show 2 * 0 + _ ≤ _; exact Nat.le_of_eq rfl) (hb hby at_51) (by decide) (by decide) (by decide) (by decide)
  obtain ⟨rfl, Nq23, K23, fq23_3, fq23_4⟩ := hQ23
  have N23 := Fr.app N17 Nq23
  have s23 : h20.size ≤ h23.size := K23.1
  have k24 : Rch p e below (s₁.setTop (entryFrame m #[(.long q1), (.long q2)] maxLocals)) T23 (mkF m 54 #[.val (.long q1), .second, .val (.long q2), .second, .val (.long (-7046029254386353131 : Int64)), .second, .val (.long (q1 ^^^ (q2 ||| (1 : Int64)))), .second, .val (.ref b2), .val (.ref b8), .val (.ref b14), .unset, .unset, .unset, .unset, .unset, .unset, .unset, .unset, .unset, .unset, .unset, .unset, .unset, .unset] [(.ref b20)]) := fun tg kg => k22 tg (st23 tg kg)
  have lt_fq23_3 := fq23_3.lt
  have lt_fq23_4 := fq23_4.lt
  have k25 : Rch p e below (s₁.setTop (entryFrame m #[(.long q1), (.long q2)] maxLocals)) T23 (mkF m 58 #[.val (.long q1), .second, .val (.long q2), .second, .val (.long (-7046029254386353131 : Int64)), .second, .val (.long (q1 ^^^ (q2 ||| (1 : Int64)))), .second, .val (.ref b2), .val (.ref b8), .val (.ref b14), .val (.ref b20), .unset, .unset, .unset, .unset, .unset, .unset, .unset, .unset, .unset, .unset, .unset, .unset, .unset] [(.ref b2)]) := fun tg kg => by
    refine k24 tg ?_
    show Steps p.tables e below (T23.setTop (mkF m 54 #[.val (.long q1), .second, .val (.long q2), .second, .val (.long (-7046029254386353131 : Int64)), .second, .val (.long (q1 ^^^ (q2 ||| (1 : Int64)))), .second, .val (.ref b2), .val (.ref b8), .val (.ref b14), .unset, .unset, .unset, .unset, .unset, .unset, .unset, .unset, .unset, .unset, .unset, .unset, .unset, .unset] [(.ref b20)])) tg
    refine XS.astore X23.here hx rfl (hb hby at_54) rfl rfl (l' := #[.val (.long q1), .second, .val (.long q2), .second, .val (.long (-7046029254386353131 : Int64)), .second, .val (.long (q1 ^^^ (q2 ||| (1 : Int64)))), .second, .val (.ref b2), .val (.ref b8), .val (.ref b14), .val (.ref b20), .unset, .unset, .unset, .unset, .unset, .unset, .unset, .unset, .unset, .unset, .unset, .unset, .unset]) rfl ?_
    show Steps p.tables e below (T23.setTop (mkF m 56 #[.val (.long q1), .second, .val (.long q2), .second, .val (.long (-7046029254386353131 : Int64)), .second, .val (.long (q1 ^^^ (q2 ||| (1 : Int64)))), .second, .val (.ref b2), .val (.ref b8), .val (.ref b14), .val (.ref b20), .unset, .unset, .unset, .unset, .unset, .unset, .unset, .unset, .unset, .unset, .unset, .unset, .unset] [])) tg
    refine XS.aload X23.here hx rfl (hb hby at_56) rfl rfl ?_
    exact kg
  have f27 : Exa Z h23 b2 "com/example/lightweave/lightweave/SplitMix64" := ((((((fq5_3.ext E8).keep K11).ext E14).keep K17).ext E20).keep K23)
  have f28 : Fld Z h23 b2 "com/example/lightweave/lightweave/SplitMix64" "state" "J" (.long q1) := ((((((fq5_4.ext E8).keep K11 (ninS (by first | exact own_ne (by omega) | assumption | (apply Ne.symm; assumption)) nin0)).ext E14).keep K17 (ninS (by first | exact own_ne (by omega) | assumption | (apply Ne.symm; assumption)) nin0)).ext E20).keep K23 (ninS (by first | exact own_ne (by omega) | assumption | (apply Ne.symm; assumption)) nin0))
  obtain ⟨v26, T26, h26, Lc26, X26, e26, hQ26, st26⟩ := own_callV X23 hx hZ hown (hw _ (List.mem_of_getElem? (i := 12) rfl)) (hw _ (List.mem_of_getElem? (i := 13) rfl)) (notFace_of_selects (args := #[]) (mvT hZ (hw _ (List.mem_of_getElem? (i := 15) rfl)))) (hw _ (List.mem_of_getElem? (i := 15) rfl)) (hw _ (List.mem_of_getElem? (i := 14) rfl)) (hw _ (List.mem_of_getElem? (i := 16) rfl)) (hw _ (List.mem_of_getElem? (i := 3) rfl)) (by decide) (rm_next l Z a0 hw [] b2 q1 h23 n0 (by omega) f27 f28 (by omega)) e23 f27 (g := (mkF m 58 #[.val (.long q1), .second, .val (.long q2), .second, .val (.long (-7046029254386353131 : Int64)), .second, .val (.long (q1 ^^^ (q2 ||| (1 : Int64)))), .second, .val (.ref b2), .val (.ref b8), .val (.ref b14), .val (.ref b20), .unset, .unset, .unset, .unset, .unset, .unset, .unset, .unset, .unset, .unset, .unset, .unset, .unset] [(.ref b2)])) rfl (by rw [hml]; rfl) (argsL := []) (rest := []) rfl (lenOf pd_1 rfl) rfl (W := 0) (by show 2 * 0 + _ ≤ _; exact Nat.le_of_eq rfl) (hb hby at_58) (by decide) (by decide) (by decide) (by decide)
  obtain ⟨rfl, Nq26, K26, fq26_3, fq26_4⟩ := hQ26
  have N26 := Fr.app N23 Nq26
  have s26 : h23.size ≤ h26.size := K26.1
  have k29 : Rch p e below (s₁.setTop (entryFrame m #[(.long q1), (.long q2)] maxLocals)) T26 (mkF m 61 #[.val (.long q1), .second, .val (.long q2), .second, .val (.long (-7046029254386353131 : Int64)), .second, .val (.long (q1 ^^^ (q2 ||| (1 : Int64)))), .second, .val (.ref b2), .val (.ref b8), .val (.ref b14), .val (.ref b20), .unset, .unset, .unset, .unset, .unset, .unset, .unset, .unset, .unset, .unset, .unset, .unset, .unset] [(.long (own_mix (q1 + (-7046029254386353131 : Int64))))]) := fun tg kg => k25 tg (st26 tg kg)
  have lt_fq26_3 := fq26_3.lt
  have lt_fq26_4 := fq26_4.lt
  have k30 : Rch p e below (s₁.setTop (entryFrame m #[(.long q1), (.long q2)] maxLocals)) T26 (mkF m 65 #[.val (.long q1), .second, .val (.long q2), .second, .val (.long (-7046029254386353131 : Int64)), .second, .val (.long (q1 ^^^ (q2 ||| (1 : Int64)))), .second, .val (.ref b2), .val (.ref b8), .val (.ref b14), .val (.ref b20), .val (.long (own_mix (q1 + (-7046029254386353131 : Int64)))), .second, .unset, .unset, .unset, .unset, .unset, .unset, .unset, .unset, .unset, .unset, .unset] [(.ref b2)]) := fun tg kg => by
    refine k29 tg ?_
    show Steps p.tables e below (T26.setTop (mkF m 61 #[.val (.long q1), .second, .val (.long q2), .second, .val (.long (-7046029254386353131 : Int64)), .second, .val (.long (q1 ^^^ (q2 ||| (1 : Int64)))), .second, .val (.ref b2), .val (.ref b8), .val (.ref b14), .val (.ref b20), .unset, .unset, .unset, .unset, .unset, .unset, .unset, .unset, .unset, .unset, .unset, .unset, .unset] [(.long (own_mix (q1 + (-7046029254386353131 : Int64))))])) tg
    refine XS.lstore X26.here hx rfl (hb hby at_61) rfl (l' := #[.val (.long q1), .second, .val (.long q2), .second, .val (.long (-7046029254386353131 : Int64)), .second, .val (.long (q1 ^^^ (q2 ||| (1 : Int64)))), .second, .val (.ref b2), .val (.ref b8), .val (.ref b14), .val (.ref b20), .val (.long (own_mix (q1 + (-7046029254386353131 : Int64)))), .second, .unset, .unset, .unset, .unset, .unset, .unset, .unset, .unset, .unset, .unset, .unset]) rfl ?_
    show Steps p.tables e below (T26.setTop (mkF m 63 #[.val (.long q1), .second, .val (.long q2), .second, .val (.long (-7046029254386353131 : Int64)), .second, .val (.long (q1 ^^^ (q2 ||| (1 : Int64)))), .second, .val (.ref b2), .val (.ref b8), .val (.ref b14), .val (.ref b20), .val (.long (own_mix (q1 + (-7046029254386353131 : Int64)))), .second, .unset, .unset, .unset, .unset, .unset, .unset, .unset, .unset, .unset, .unset, .unset] [])) tg
    refine XS.aload X26.here hx rfl (hb hby at_63) rfl rfl ?_
    exact kg
  obtain ⟨v31, T31, h31, Lc31, X31, e31, hQ31, st31⟩ := own_callV X26 hx hZ hown (hw _ (List.mem_of_getElem? (i := 12) rfl)) (hw _ (List.mem_of_getElem? (i := 13) rfl)) (notFace_of_selects (args := #[]) (mvT hZ (hw _ (List.mem_of_getElem? (i := 15) rfl)))) (hw _ (List.mem_of_getElem? (i := 15) rfl)) (hw _ (List.mem_of_getElem? (i := 14) rfl)) (hw _ (List.mem_of_getElem? (i := 16) rfl)) (hw _ (List.mem_of_getElem? (i := 3) rfl)) (by decide) (rm_next l Z a0 hw [] b2 (q1 + (-7046029254386353131 : Int64)) h26 n0 (by omega) fq26_3 fq26_4 (by omega)) e26 fq26_3 (g := (mkF m 65 #[.val (.long q1), .second, .val (.long q2), .second, .val (.long (-7046029254386353131 : Int64)), .second, .val (.long (q1 ^^^ (q2 ||| (1 : Int64)))), .second, .val (.ref b2), .val (.ref b8), .val (.ref b14), .val (.ref b20), .val (.long (own_mix (q1 + (-7046029254386353131 : Int64)))), .second, .unset, .unset, .unset, .unset, .unset, .unset, .unset, .unset, .unset, .unset, .unset] [(.ref b2)])) rfl (by rw [hml]; rfl) (argsL := []) (rest := []) rfl (lenOf pd_1 rfl) rfl (W := 0) (by show 2 * 0 + _ ≤ _; exact Nat.le_of_eq rfl) (hb hby at_65) (by decide) (by decide) (by decide) (by decide)
  obtain ⟨rfl, Nq31, K31, fq31_3, fq31_4⟩ := hQ31
  have N31 := Fr.app N26 Nq31
  have s31 : h26.size ≤ h31.size := K31.1
  have k32 : Rch p e below (s₁.setTop (entryFrame m #[(.long q1), (.long q2)] maxLocals)) T31 (mkF m 68 #[.val (.long q1), .second, .val (.long q2), .second, .val (.long (-7046029254386353131 : Int64)), .second, .val (.long (q1 ^^^ (q2 ||| (1 : Int64)))), .second, .val (.ref b2), .val (.ref b8), .val (.ref b14), .val (.ref b20), .val (.long (own_mix (q1 + (-7046029254386353131 : Int64)))), .second, .unset, .unset, .unset, .unset, .unset, .unset, .unset, .unset, .unset, .unset, .unset] [(.long (own_mix ((q1 + (-7046029254386353131 : Int64)) + (-7046029254386353131 : Int64))))]) := fun tg kg => k30 tg (st31 tg kg)
  have lt_fq31_3 := fq31_3.lt
  have lt_fq31_4 := fq31_4.lt
  have k33 : Rch p e below (s₁.setTop (entryFrame m #[(.long q1), (.long q2)] maxLocals)) T31 (mkF m 72 #[.val (.long q1), .second, .val (.long q2), .second, .val (.long (-7046029254386353131 : Int64)), .second, .val (.long (q1 ^^^ (q2 ||| (1 : Int64)))), .second, .val (.ref b2), .val (.ref b8), .val (.ref b14), .val (.ref b20), .val (.long (own_mix (q1 + (-7046029254386353131 : Int64)))), .second, .val (.long (own_mix ((q1 + (-7046029254386353131 : Int64)) + (-7046029254386353131 : Int64)))), .second, .unset, .unset, .unset, .unset, .unset, .unset, .unset, .unset, .unset] [(.ref b8)]) := fun tg kg => by
    refine k32 tg ?_
    show Steps p.tables e below (T31.setTop (mkF m 68 #[.val (.long q1), .second, .val (.long q2), .second, .val (.long (-7046029254386353131 : Int64)), .second, .val (.long (q1 ^^^ (q2 ||| (1 : Int64)))), .second, .val (.ref b2), .val (.ref b8), .val (.ref b14), .val (.ref b20), .val (.long (own_mix (q1 + (-7046029254386353131 : Int64)))), .second, .unset, .unset, .unset, .unset, .unset, .unset, .unset, .unset, .unset, .unset, .unset] [(.long (own_mix ((q1 + (-7046029254386353131 : Int64)) + (-7046029254386353131 : Int64))))])) tg
    refine XS.lstore X31.here hx rfl (hb hby at_68) rfl (l' := #[.val (.long q1), .second, .val (.long q2), .second, .val (.long (-7046029254386353131 : Int64)), .second, .val (.long (q1 ^^^ (q2 ||| (1 : Int64)))), .second, .val (.ref b2), .val (.ref b8), .val (.ref b14), .val (.ref b20), .val (.long (own_mix (q1 + (-7046029254386353131 : Int64)))), .second, .val (.long (own_mix ((q1 + (-7046029254386353131 : Int64)) + (-7046029254386353131 : Int64)))), .second, .unset, .unset, .unset, .unset, .unset, .unset, .unset, .unset, .unset]) rfl ?_
    show Steps p.tables e below (T31.setTop (mkF m 70 #[.val (.long q1), .second, .val (.long q2), .second, .val (.long (-7046029254386353131 : Int64)), .second, .val (.long (q1 ^^^ (q2 ||| (1 : Int64)))), .second, .val (.ref b2), .val (.ref b8), .val (.ref b14), .val (.ref b20), .val (.long (own_mix (q1 + (-7046029254386353131 : Int64)))), .second, .val (.long (own_mix ((q1 + (-7046029254386353131 : Int64)) + (-7046029254386353131 : Int64)))), .second, .unset, .unset, .unset, .unset, .unset, .unset, .unset, .unset, .unset] [])) tg
    refine XS.aload X31.here hx rfl (hb hby at_70) rfl rfl ?_
    exact kg
  have f35 : Exa Z h31 b8 "com/example/lightweave/lightweave/SplitMix64" := ((((((fq11_3.ext E14).keep K17).ext E20).keep K23).keep K26).keep K31)
  have f36 : Fld Z h31 b8 "com/example/lightweave/lightweave/SplitMix64" "state" "J" (.long (q1 + (-7046029254386353131 : Int64))) := ((((((fq11_4.ext E14).keep K17 (ninS (by first | exact own_ne (by omega) | assumption | (apply Ne.symm; assumption)) nin0)).ext E20).keep K23 (ninS (by first | exact own_ne (by omega) | assumption | (apply Ne.symm; assumption)) nin0)).keep K26 (ninS (by first | exact own_ne (by omega) | assumption | (apply Ne.symm; assumption)) nin0)).keep K31 (ninS (by first | exact own_ne (by omega) | assumption | (apply Ne.symm; assumption)) nin0))
  obtain ⟨v34, T34, h34, Lc34, X34, e34, hQ34, st34⟩ := own_callV X31 hx hZ hown (hw _ (List.mem_of_getElem? (i := 12) rfl)) (hw _ (List.mem_of_getElem? (i := 13) rfl)) (notFace_of_selects (args := #[]) (mvT hZ (hw _ (List.mem_of_getElem? (i := 15) rfl)))) (hw _ (List.mem_of_getElem? (i := 15) rfl)) (hw _ (List.mem_of_getElem? (i := 14) rfl)) (hw _ (List.mem_of_getElem? (i := 16) rfl)) (hw _ (List.mem_of_getElem? (i := 3) rfl)) (by decide) (rm_next l Z a0 hw [] b8 (q1 + (-7046029254386353131 : Int64)) h31 n0 (by omega) f35 f36 (by omega)) e31 f35 (g := (mkF m 72 #[.val (.long q1), .second, .val (.long q2), .second, .val (.long (-7046029254386353131 : Int64)), .second, .val (.long (q1 ^^^ (q2 ||| (1 : Int64)))), .second, .val (.ref b2), .val (.ref b8), .val (.ref b14), .val (.ref b20), .val (.long (own_mix (q1 + (-7046029254386353131 : Int64)))), .second, .val (.long (own_mix ((q1 + (-7046029254386353131 : Int64)) + (-7046029254386353131 : Int64)))), .second, .unset, .unset, .unset, .unset, .unset, .unset, .unset, .unset, .unset] [(.ref b8)])) rfl (by rw [hml]; rfl) (argsL := []) (rest := []) rfl (lenOf pd_1 rfl) rfl (W := 0) (by show 2 * 0 + _ ≤ _; exact Nat.le_of_eq rfl) (hb hby at_72) (by decide) (by decide) (by decide) (by decide)
  obtain ⟨rfl, Nq34, K34, fq34_3, fq34_4⟩ := hQ34
  have N34 := Fr.app N31 Nq34
  have s34 : h31.size ≤ h34.size := K34.1
  have k37 : Rch p e below (s₁.setTop (entryFrame m #[(.long q1), (.long q2)] maxLocals)) T34 (mkF m 75 #[.val (.long q1), .second, .val (.long q2), .second, .val (.long (-7046029254386353131 : Int64)), .second, .val (.long (q1 ^^^ (q2 ||| (1 : Int64)))), .second, .val (.ref b2), .val (.ref b8), .val (.ref b14), .val (.ref b20), .val (.long (own_mix (q1 + (-7046029254386353131 : Int64)))), .second, .val (.long (own_mix ((q1 + (-7046029254386353131 : Int64)) + (-7046029254386353131 : Int64)))), .second, .unset, .unset, .unset, .unset, .unset, .unset, .unset, .unset, .unset] [(.long (own_mix ((q1 + (-7046029254386353131 : Int64)) + (-7046029254386353131 : Int64))))]) := fun tg kg => k33 tg (st34 tg kg)
  have lt_fq34_3 := fq34_3.lt
  have lt_fq34_4 := fq34_4.lt
  have k38 : Rch p e below (s₁.setTop (entryFrame m #[(.long q1), (.long q2)] maxLocals)) T34 (mkF m 79 #[.val (.long q1), .second, .val (.long q2), .second, .val (.long (-7046029254386353131 : Int64)), .second, .val (.long (q1 ^^^ (q2 ||| (1 : Int64)))), .second, .val (.ref b2), .val (.ref b8), .val (.ref b14), .val (.ref b20), .val (.long (own_mix (q1 + (-7046029254386353131 : Int64)))), .second, .val (.long (own_mix ((q1 + (-7046029254386353131 : Int64)) + (-7046029254386353131 : Int64)))), .second, .val (.long (own_mix ((q1 + (-7046029254386353131 : Int64)) + (-7046029254386353131 : Int64)))), .second, .unset, .unset, .unset, .unset, .unset, .unset, .unset] [(.ref b14)]) := fun tg kg => by
    refine k37 tg ?_
    show Steps p.tables e below (T34.setTop (mkF m 75 #[.val (.long q1), .second, .val (.long q2), .second, .val (.long (-7046029254386353131 : Int64)), .second, .val (.long (q1 ^^^ (q2 ||| (1 : Int64)))), .second, .val (.ref b2), .val (.ref b8), .val (.ref b14), .val (.ref b20), .val (.long (own_mix (q1 + (-7046029254386353131 : Int64)))), .second, .val (.long (own_mix ((q1 + (-7046029254386353131 : Int64)) + (-7046029254386353131 : Int64)))), .second, .unset, .unset, .unset, .unset, .unset, .unset, .unset, .unset, .unset] [(.long (own_mix ((q1 + (-7046029254386353131 : Int64)) + (-7046029254386353131 : Int64))))])) tg
    refine XS.lstore X34.here hx rfl (hb hby at_75) rfl (l' := #[.val (.long q1), .second, .val (.long q2), .second, .val (.long (-7046029254386353131 : Int64)), .second, .val (.long (q1 ^^^ (q2 ||| (1 : Int64)))), .second, .val (.ref b2), .val (.ref b8), .val (.ref b14), .val (.ref b20), .val (.long (own_mix (q1 + (-7046029254386353131 : Int64)))), .second, .val (.long (own_mix ((q1 + (-7046029254386353131 : Int64)) + (-7046029254386353131 : Int64)))), .second, .val (.long (own_mix ((q1 + (-7046029254386353131 : Int64)) + (-7046029254386353131 : Int64)))), .second, .unset, .unset, .unset, .unset, .unset, .unset, .unset]) rfl ?_
    show Steps p.tables e below (T34.setTop (mkF m 77 #[.val (.long q1), .second, .val (.long q2), .second, .val (.long (-7046029254386353131 : Int64)), .second, .val (.long (q1 ^^^ (q2 ||| (1 : Int64)))), .second, .val (.ref b2), .val (.ref b8), .val (.ref b14), .val (.ref b20), .val (.long (own_mix (q1 + (-7046029254386353131 : Int64)))), .second, .val (.long (own_mix ((q1 + (-7046029254386353131 : Int64)) + (-7046029254386353131 : Int64)))), .second, .val (.long (own_mix ((q1 + (-7046029254386353131 : Int64)) + (-7046029254386353131 : Int64)))), .second, .unset, .unset, .unset, .unset, .unset, .unset, .unset] [])) tg
    refine XS.aload X34.here hx rfl (hb hby at_77) rfl rfl ?_
    exact kg
  have f40 : Exa Z h34 b14 "com/example/lightweave/lightweave/SplitMix64" := (((((fq17_3.ext E20).keep K23).keep K26).keep K31).keep K34)
  have f41 : Fld Z h34 b14 "com/example/lightweave/lightweave/SplitMix64" "state" "J" (.long (q1 ^^^ (q2 ||| (1 : Int64)))) := (((((fq17_4.ext E20).keep K23 (ninS (by first | exact own_ne (by omega) | assumption | (apply Ne.symm; assumption)) nin0)).keep K26 (ninS (by first | exact own_ne (by omega) | assumption | (apply Ne.symm; assumption)) nin0)).keep K31 (ninS (by first | exact own_ne (by omega) | assumption | (apply Ne.symm; assumption)) nin0)).keep K34 (ninS (by first | exact own_ne (by omega) | assumption | (apply Ne.symm; assumption)) nin0))
  obtain ⟨v39, T39, h39, Lc39, X39, e39, hQ39, st39⟩ := own_callV X34 hx hZ hown (hw _ (List.mem_of_getElem? (i := 12) rfl)) (hw _ (List.mem_of_getElem? (i := 13) rfl)) (notFace_of_selects (args := #[]) (mvT hZ (hw _ (List.mem_of_getElem? (i := 15) rfl)))) (hw _ (List.mem_of_getElem? (i := 15) rfl)) (hw _ (List.mem_of_getElem? (i := 14) rfl)) (hw _ (List.mem_of_getElem? (i := 16) rfl)) (hw _ (List.mem_of_getElem? (i := 3) rfl)) (by decide) (rm_next l Z a0 hw [] b14 (q1 ^^^ (q2 ||| (1 : Int64))) h34 n0 (by omega) f40 f41 (by omega)) e34 f40 (g := (mkF m 79 #[.val (.long q1), .second, .val (.long q2), .second, .val (.long (-7046029254386353131 : Int64)), .second, .val (.long (q1 ^^^ (q2 ||| (1 : Int64)))), .second, .val (.ref b2), .val (.ref b8), .val (.ref b14), .val (.ref b20), .val (.long (own_mix (q1 + (-7046029254386353131 : Int64)))), .second, .val (.long (own_mix ((q1 + (-7046029254386353131 : Int64)) + (-7046029254386353131 : Int64)))), .second, .val (.long (own_mix ((q1 + (-7046029254386353131 : Int64)) + (-7046029254386353131 : Int64)))), .second, .unset, .unset, .unset, .unset, .unset, .unset, .unset] [(.ref b14)])) rfl (by rw [hml]; rfl) (argsL := []) (rest := []) rfl (lenOf pd_1 rfl) rfl (W := 0) (by show 2 * 0 + _ ≤ _; exact Nat.le_of_eq rfl) (hb hby at_79) (by decide) (by decide) (by decide) (by decide)
  obtain ⟨rfl, Nq39, K39, fq39_3, fq39_4⟩ := hQ39
  have N39 := Fr.app N34 Nq39
  have s39 : h34.size ≤ h39.size := K39.1
  have k42 : Rch p e below (s₁.setTop (entryFrame m #[(.long q1), (.long q2)] maxLocals)) T39 (mkF m 82 #[.val (.long q1), .second, .val (.long q2), .second, .val (.long (-7046029254386353131 : Int64)), .second, .val (.long (q1 ^^^ (q2 ||| (1 : Int64)))), .second, .val (.ref b2), .val (.ref b8), .val (.ref b14), .val (.ref b20), .val (.long (own_mix (q1 + (-7046029254386353131 : Int64)))), .second, .val (.long (own_mix ((q1 + (-7046029254386353131 : Int64)) + (-7046029254386353131 : Int64)))), .second, .val (.long (own_mix ((q1 + (-7046029254386353131 : Int64)) + (-7046029254386353131 : Int64)))), .second, .unset, .unset, .unset, .unset, .unset, .unset, .unset] [(.long (own_mix ((q1 ^^^ (q2 ||| (1 : Int64))) + (-7046029254386353131 : Int64))))]) := fun tg kg => k38 tg (st39 tg kg)
  have lt_fq39_3 := fq39_3.lt
  have lt_fq39_4 := fq39_4.lt
  have k43 : Rch p e below (s₁.setTop (entryFrame m #[(.long q1), (.long q2)] maxLocals)) T39 (mkF m 86 #[.val (.long q1), .second, .val (.long q2), .second, .val (.long (-7046029254386353131 : Int64)), .second, .val (.long (q1 ^^^ (q2 ||| (1 : Int64)))), .second, .val (.ref b2), .val (.ref b8), .val (.ref b14), .val (.ref b20), .val (.long (own_mix (q1 + (-7046029254386353131 : Int64)))), .second, .val (.long (own_mix ((q1 + (-7046029254386353131 : Int64)) + (-7046029254386353131 : Int64)))), .second, .val (.long (own_mix ((q1 + (-7046029254386353131 : Int64)) + (-7046029254386353131 : Int64)))), .second, .val (.long (own_mix ((q1 ^^^ (q2 ||| (1 : Int64))) + (-7046029254386353131 : Int64)))), .second, .unset, .unset, .unset, .unset, .unset] [(.ref b20)]) := fun tg kg => by
    refine k42 tg ?_
    show Steps p.tables e below (T39.setTop (mkF m 82 #[.val (.long q1), .second, .val (.long q2), .second, .val (.long (-7046029254386353131 : Int64)), .second, .val (.long (q1 ^^^ (q2 ||| (1 : Int64)))), .second, .val (.ref b2), .val (.ref b8), .val (.ref b14), .val (.ref b20), .val (.long (own_mix (q1 + (-7046029254386353131 : Int64)))), .second, .val (.long (own_mix ((q1 + (-7046029254386353131 : Int64)) + (-7046029254386353131 : Int64)))), .second, .val (.long (own_mix ((q1 + (-7046029254386353131 : Int64)) + (-7046029254386353131 : Int64)))), .second, .unset, .unset, .unset, .unset, .unset, .unset, .unset] [(.long (own_mix ((q1 ^^^ (q2 ||| (1 : Int64))) + (-7046029254386353131 : Int64))))])) tg
    refine XS.lstore X39.here hx rfl (hb hby at_82) rfl (l' := #[.val (.long q1), .second, .val (.long q2), .second, .val (.long (-7046029254386353131 : Int64)), .second, .val (.long (q1 ^^^ (q2 ||| (1 : Int64)))), .second, .val (.ref b2), .val (.ref b8), .val (.ref b14), .val (.ref b20), .val (.long (own_mix (q1 + (-7046029254386353131 : Int64)))), .second, .val (.long (own_mix ((q1 + (-7046029254386353131 : Int64)) + (-7046029254386353131 : Int64)))), .second, .val (.long (own_mix ((q1 + (-7046029254386353131 : Int64)) + (-7046029254386353131 : Int64)))), .second, .val (.long (own_mix ((q1 ^^^ (q2 ||| (1 : Int64))) + (-7046029254386353131 : Int64)))), .second, .unset, .unset, .unset, .unset, .unset]) rfl ?_
    show Steps p.tables e below (T39.setTop (mkF m 84 #[.val (.long q1), .second, .val (.long q2), .second, .val (.long (-7046029254386353131 : Int64)), .second, .val (.long (q1 ^^^ (q2 ||| (1 : Int64)))), .second, .val (.ref b2), .val (.ref b8), .val (.ref b14), .val (.ref b20), .val (.long (own_mix (q1 + (-7046029254386353131 : Int64)))), .second, .val (.long (own_mix ((q1 + (-7046029254386353131 : Int64)) + (-7046029254386353131 : Int64)))), .second, .val (.long (own_mix ((q1 + (-7046029254386353131 : Int64)) + (-7046029254386353131 : Int64)))), .second, .val (.long (own_mix ((q1 ^^^ (q2 ||| (1 : Int64))) + (-7046029254386353131 : Int64)))), .second, .unset, .unset, .unset, .unset, .unset] [])) tg
    refine XS.aload X39.here hx rfl (hb hby at_84) rfl rfl ?_
    exact kg
  have f45 : Exa Z h39 b20 "com/example/lightweave/lightweave/SplitMix64" := ((((fq23_3.keep K26).keep K31).keep K34).keep K39)
  have f46 : Fld Z h39 b20 "com/example/lightweave/lightweave/SplitMix64" "state" "J" (.long (0 : Int64)) := ((((fq23_4.keep K26 (ninS (by first | exact own_ne (by omega) | assumption | (apply Ne.symm; assumption)) nin0)).keep K31 (ninS (by first | exact own_ne (by omega) | assumption | (apply Ne.symm; assumption)) nin0)).keep K34 (ninS (by first | exact own_ne (by omega) | assumption | (apply Ne.symm; assumption)) nin0)).keep K39 (ninS (by first | exact own_ne (by omega) | assumption | (apply Ne.symm; assumption)) nin0))
  obtain ⟨v44, T44, h44, Lc44, X44, e44, hQ44, st44⟩ := own_callV X39 hx hZ hown (hw _ (List.mem_of_getElem? (i := 12) rfl)) (hw _ (List.mem_of_getElem? (i := 13) rfl)) (notFace_of_selects (args := #[]) (mvT hZ (hw _ (List.mem_of_getElem? (i := 15) rfl)))) (hw _ (List.mem_of_getElem? (i := 15) rfl)) (hw _ (List.mem_of_getElem? (i := 14) rfl)) (hw _ (List.mem_of_getElem? (i := 16) rfl)) (hw _ (List.mem_of_getElem? (i := 3) rfl)) (by decide) (rm_next l Z a0 hw [] b20 (0 : Int64) h39 n0 (by omega) f45 f46 (by omega)) e39 f45 (g := (mkF m 86 #[.val (.long q1), .second, .val (.long q2), .second, .val (.long (-7046029254386353131 : Int64)), .second, .val (.long (q1 ^^^ (q2 ||| (1 : Int64)))), .second, .val (.ref b2), .val (.ref b8), .val (.ref b14), .val (.ref b20), .val (.long (own_mix (q1 + (-7046029254386353131 : Int64)))), .second, .val (.long (own_mix ((q1 + (-7046029254386353131 : Int64)) + (-7046029254386353131 : Int64)))), .second, .val (.long (own_mix ((q1 + (-7046029254386353131 : Int64)) + (-7046029254386353131 : Int64)))), .second, .val (.long (own_mix ((q1 ^^^ (q2 ||| (1 : Int64))) + (-7046029254386353131 : Int64)))), .second, .unset, .unset, .unset, .unset, .unset] [(.ref b20)])) rfl (by rw [hml]; rfl) (argsL := []) (rest := []) rfl (lenOf pd_1 rfl) rfl (W := 0) (by show 2 * 0 + _ ≤ _; exact Nat.le_of_eq rfl) (hb hby at_86) (by decide) (by decide) (by decide) (by decide)
  obtain ⟨rfl, Nq44, K44, fq44_3, fq44_4⟩ := hQ44
  have N44 := Fr.app N39 Nq44
  have s44 : h39.size ≤ h44.size := K44.1
  have k47 : Rch p e below (s₁.setTop (entryFrame m #[(.long q1), (.long q2)] maxLocals)) T44 (mkF m 89 #[.val (.long q1), .second, .val (.long q2), .second, .val (.long (-7046029254386353131 : Int64)), .second, .val (.long (q1 ^^^ (q2 ||| (1 : Int64)))), .second, .val (.ref b2), .val (.ref b8), .val (.ref b14), .val (.ref b20), .val (.long (own_mix (q1 + (-7046029254386353131 : Int64)))), .second, .val (.long (own_mix ((q1 + (-7046029254386353131 : Int64)) + (-7046029254386353131 : Int64)))), .second, .val (.long (own_mix ((q1 + (-7046029254386353131 : Int64)) + (-7046029254386353131 : Int64)))), .second, .val (.long (own_mix ((q1 ^^^ (q2 ||| (1 : Int64))) + (-7046029254386353131 : Int64)))), .second, .unset, .unset, .unset, .unset, .unset] [(.long (own_mix ((0 : Int64) + (-7046029254386353131 : Int64))))]) := fun tg kg => k43 tg (st44 tg kg)
  have lt_fq44_3 := fq44_3.lt
  have lt_fq44_4 := fq44_4.lt
  have k48 : Rch p e below (s₁.setTop (entryFrame m #[(.long q1), (.long q2)] maxLocals)) T44 (mkF m 157 #[.val (.long q1), .second, .val (.long q2), .second, .val (.long (-7046029254386353131 : Int64)), .second, .val (.long (q1 ^^^ (q2 ||| (1 : Int64)))), .second, .val (.ref b2), .val (.ref b8), .val (.ref b14), .val (.ref b20), .val (.long (own_mix (q1 + (-7046029254386353131 : Int64)))), .second, .val (.long (own_mix ((q1 + (-7046029254386353131 : Int64)) + (-7046029254386353131 : Int64)))), .second, .val (.long (own_mix ((q1 + (-7046029254386353131 : Int64)) + (-7046029254386353131 : Int64)))), .second, .val (.long (own_mix ((q1 ^^^ (q2 ||| (1 : Int64))) + (-7046029254386353131 : Int64)))), .second, .val (.long (own_mix ((0 : Int64) + (-7046029254386353131 : Int64)))), .second, .val (.int (1 : Int32)), .val (.int (1 : Int32)), .val (.int (1 : Int32))] [(.int (1 : Int32))]) := fun tg kg => by
    refine k47 tg ?_
    show Steps p.tables e below (T44.setTop (mkF m 89 #[.val (.long q1), .second, .val (.long q2), .second, .val (.long (-7046029254386353131 : Int64)), .second, .val (.long (q1 ^^^ (q2 ||| (1 : Int64)))), .second, .val (.ref b2), .val (.ref b8), .val (.ref b14), .val (.ref b20), .val (.long (own_mix (q1 + (-7046029254386353131 : Int64)))), .second, .val (.long (own_mix ((q1 + (-7046029254386353131 : Int64)) + (-7046029254386353131 : Int64)))), .second, .val (.long (own_mix ((q1 + (-7046029254386353131 : Int64)) + (-7046029254386353131 : Int64)))), .second, .val (.long (own_mix ((q1 ^^^ (q2 ||| (1 : Int64))) + (-7046029254386353131 : Int64)))), .second, .unset, .unset, .unset, .unset, .unset] [(.long (own_mix ((0 : Int64) + (-7046029254386353131 : Int64))))])) tg
    refine XS.lstore X44.here hx rfl (hb hby at_89) rfl (l' := #[.val (.long q1), .second, .val (.long q2), .second, .val (.long (-7046029254386353131 : Int64)), .second, .val (.long (q1 ^^^ (q2 ||| (1 : Int64)))), .second, .val (.ref b2), .val (.ref b8), .val (.ref b14), .val (.ref b20), .val (.long (own_mix (q1 + (-7046029254386353131 : Int64)))), .second, .val (.long (own_mix ((q1 + (-7046029254386353131 : Int64)) + (-7046029254386353131 : Int64)))), .second, .val (.long (own_mix ((q1 + (-7046029254386353131 : Int64)) + (-7046029254386353131 : Int64)))), .second, .val (.long (own_mix ((q1 ^^^ (q2 ||| (1 : Int64))) + (-7046029254386353131 : Int64)))), .second, .val (.long (own_mix ((0 : Int64) + (-7046029254386353131 : Int64)))), .second, .unset, .unset, .unset]) rfl ?_
    show Steps p.tables e below (T44.setTop (mkF m 91 #[.val (.long q1), .second, .val (.long q2), .second, .val (.long (-7046029254386353131 : Int64)), .second, .val (.long (q1 ^^^ (q2 ||| (1 : Int64)))), .second, .val (.ref b2), .val (.ref b8), .val (.ref b14), .val (.ref b20), .val (.long (own_mix (q1 + (-7046029254386353131 : Int64)))), .second, .val (.long (own_mix ((q1 + (-7046029254386353131 : Int64)) + (-7046029254386353131 : Int64)))), .second, .val (.long (own_mix ((q1 + (-7046029254386353131 : Int64)) + (-7046029254386353131 : Int64)))), .second, .val (.long (own_mix ((q1 ^^^ (q2 ||| (1 : Int64))) + (-7046029254386353131 : Int64)))), .second, .val (.long (own_mix ((0 : Int64) + (-7046029254386353131 : Int64)))), .second, .unset, .unset, .unset] [])) tg
    refine XS.lload X44.here hx rfl (hb hby at_91) rfl ?_
    show Steps p.tables e below (T44.setTop (mkF m 93 #[.val (.long q1), .second, .val (.long q2), .second, .val (.long (-7046029254386353131 : Int64)), .second, .val (.long (q1 ^^^ (q2 ||| (1 : Int64)))), .second, .val (.ref b2), .val (.ref b8), .val (.ref b14), .val (.ref b20), .val (.long (own_mix (q1 + (-7046029254386353131 : Int64)))), .second, .val (.long (own_mix ((q1 + (-7046029254386353131 : Int64)) + (-7046029254386353131 : Int64)))), .second, .val (.long (own_mix ((q1 + (-7046029254386353131 : Int64)) + (-7046029254386353131 : Int64)))), .second, .val (.long (own_mix ((q1 ^^^ (q2 ||| (1 : Int64))) + (-7046029254386353131 : Int64)))), .second, .val (.long (own_mix ((0 : Int64) + (-7046029254386353131 : Int64)))), .second, .unset, .unset, .unset] [(.long (own_mix ((q1 + (-7046029254386353131 : Int64)) + (-7046029254386353131 : Int64))))])) tg
    refine XS.lload X44.here hx rfl (hb hby at_93) rfl ?_
    show Steps p.tables e below (T44.setTop (mkF m 95 #[.val (.long q1), .second, .val (.long q2), .second, .val (.long (-7046029254386353131 : Int64)), .second, .val (.long (q1 ^^^ (q2 ||| (1 : Int64)))), .second, .val (.ref b2), .val (.ref b8), .val (.ref b14), .val (.ref b20), .val (.long (own_mix (q1 + (-7046029254386353131 : Int64)))), .second, .val (.long (own_mix ((q1 + (-7046029254386353131 : Int64)) + (-7046029254386353131 : Int64)))), .second, .val (.long (own_mix ((q1 + (-7046029254386353131 : Int64)) + (-7046029254386353131 : Int64)))), .second, .val (.long (own_mix ((q1 ^^^ (q2 ||| (1 : Int64))) + (-7046029254386353131 : Int64)))), .second, .val (.long (own_mix ((0 : Int64) + (-7046029254386353131 : Int64)))), .second, .unset, .unset, .unset] [(.long (own_mix ((q1 + (-7046029254386353131 : Int64)) + (-7046029254386353131 : Int64)))), (.long (own_mix ((q1 + (-7046029254386353131 : Int64)) + (-7046029254386353131 : Int64))))])) tg
    refine XS.lcmp X44.here hx rfl (hb hby at_95) rfl ?_
    show Steps p.tables e below (T44.setTop (mkF m 96 #[.val (.long q1), .second, .val (.long q2), .second, .val (.long (-7046029254386353131 : Int64)), .second, .val (.long (q1 ^^^ (q2 ||| (1 : Int64)))), .second, .val (.ref b2), .val (.ref b8), .val (.ref b14), .val (.ref b20), .val (.long (own_mix (q1 + (-7046029254386353131 : Int64)))), .second, .val (.long (own_mix ((q1 + (-7046029254386353131 : Int64)) + (-7046029254386353131 : Int64)))), .second, .val (.long (own_mix ((q1 + (-7046029254386353131 : Int64)) + (-7046029254386353131 : Int64)))), .second, .val (.long (own_mix ((q1 ^^^ (q2 ||| (1 : Int64))) + (-7046029254386353131 : Int64)))), .second, .val (.long (own_mix ((0 : Int64) + (-7046029254386353131 : Int64)))), .second, .unset, .unset, .unset] [(.int (lcmpW (own_mix ((q1 + (-7046029254386353131 : Int64)) + (-7046029254386353131 : Int64))) (own_mix ((q1 + (-7046029254386353131 : Int64)) + (-7046029254386353131 : Int64)))))])) tg
    refine XS.ifNo X44.here hx rfl (hb hby at_96) rfl ((if0 _ _).trans (teq ((lw_eq _ _).mpr rfl)).2) ?_
    show Steps p.tables e below (T44.setTop (mkF m 99 #[.val (.long q1), .second, .val (.long q2), .second, .val (.long (-7046029254386353131 : Int64)), .second, .val (.long (q1 ^^^ (q2 ||| (1 : Int64)))), .second, .val (.ref b2), .val (.ref b8), .val (.ref b14), .val (.ref b20), .val (.long (own_mix (q1 + (-7046029254386353131 : Int64)))), .second, .val (.long (own_mix ((q1 + (-7046029254386353131 : Int64)) + (-7046029254386353131 : Int64)))), .second, .val (.long (own_mix ((q1 + (-7046029254386353131 : Int64)) + (-7046029254386353131 : Int64)))), .second, .val (.long (own_mix ((q1 ^^^ (q2 ||| (1 : Int64))) + (-7046029254386353131 : Int64)))), .second, .val (.long (own_mix ((0 : Int64) + (-7046029254386353131 : Int64)))), .second, .unset, .unset, .unset] [])) tg
    refine XS.iconst X44.here hx rfl (hb hby at_99) ?_
    show Steps p.tables e below (T44.setTop (mkF m 100 #[.val (.long q1), .second, .val (.long q2), .second, .val (.long (-7046029254386353131 : Int64)), .second, .val (.long (q1 ^^^ (q2 ||| (1 : Int64)))), .second, .val (.ref b2), .val (.ref b8), .val (.ref b14), .val (.ref b20), .val (.long (own_mix (q1 + (-7046029254386353131 : Int64)))), .second, .val (.long (own_mix ((q1 + (-7046029254386353131 : Int64)) + (-7046029254386353131 : Int64)))), .second, .val (.long (own_mix ((q1 + (-7046029254386353131 : Int64)) + (-7046029254386353131 : Int64)))), .second, .val (.long (own_mix ((q1 ^^^ (q2 ||| (1 : Int64))) + (-7046029254386353131 : Int64)))), .second, .val (.long (own_mix ((0 : Int64) + (-7046029254386353131 : Int64)))), .second, .unset, .unset, .unset] [(.int (1 : Int32))])) tg
    refine XS.goto X44.here hx rfl (pc0 := 100) (pc' := 104) rfl (hb hby at_100) (by decide) (by decide) ?_
    show Steps p.tables e below (T44.setTop (mkF m 104 #[.val (.long q1), .second, .val (.long q2), .second, .val (.long (-7046029254386353131 : Int64)), .second, .val (.long (q1 ^^^ (q2 ||| (1 : Int64)))), .second, .val (.ref b2), .val (.ref b8), .val (.ref b14), .val (.ref b20), .val (.long (own_mix (q1 + (-7046029254386353131 : Int64)))), .second, .val (.long (own_mix ((q1 + (-7046029254386353131 : Int64)) + (-7046029254386353131 : Int64)))), .second, .val (.long (own_mix ((q1 + (-7046029254386353131 : Int64)) + (-7046029254386353131 : Int64)))), .second, .val (.long (own_mix ((q1 ^^^ (q2 ||| (1 : Int64))) + (-7046029254386353131 : Int64)))), .second, .val (.long (own_mix ((0 : Int64) + (-7046029254386353131 : Int64)))), .second, .unset, .unset, .unset] [(.int (1 : Int32))])) tg
    refine XS.istore X44.here hx rfl (hb hby at_104) rfl (l' := #[.val (.long q1), .second, .val (.long q2), .second, .val (.long (-7046029254386353131 : Int64)), .second, .val (.long (q1 ^^^ (q2 ||| (1 : Int64)))), .second, .val (.ref b2), .val (.ref b8), .val (.ref b14), .val (.ref b20), .val (.long (own_mix (q1 + (-7046029254386353131 : Int64)))), .second, .val (.long (own_mix ((q1 + (-7046029254386353131 : Int64)) + (-7046029254386353131 : Int64)))), .second, .val (.long (own_mix ((q1 + (-7046029254386353131 : Int64)) + (-7046029254386353131 : Int64)))), .second, .val (.long (own_mix ((q1 ^^^ (q2 ||| (1 : Int64))) + (-7046029254386353131 : Int64)))), .second, .val (.long (own_mix ((0 : Int64) + (-7046029254386353131 : Int64)))), .second, .val (.int (1 : Int32)), .unset, .unset]) rfl ?_
    show Steps p.tables e below (T44.setTop (mkF m 106 #[.val (.long q1), .second, .val (.long q2), .second, .val (.long (-7046029254386353131 : Int64)), .second, .val (.long (q1 ^^^ (q2 ||| (1 : Int64)))), .second, .val (.ref b2), .val (.ref b8), .val (.ref b14), .val (.ref b20), .val (.long (own_mix (q1 + (-7046029254386353131 : Int64)))), .second, .val (.long (own_mix ((q1 + (-7046029254386353131 : Int64)) + (-7046029254386353131 : Int64)))), .second, .val (.long (own_mix ((q1 + (-7046029254386353131 : Int64)) + (-7046029254386353131 : Int64)))), .second, .val (.long (own_mix ((q1 ^^^ (q2 ||| (1 : Int64))) + (-7046029254386353131 : Int64)))), .second, .val (.long (own_mix ((0 : Int64) + (-7046029254386353131 : Int64)))), .second, .val (.int (1 : Int32)), .unset, .unset] [])) tg
    refine XS.lload X44.here hx rfl (hb hby at_106) rfl ?_
    show Steps p.tables e below (T44.setTop (mkF m 108 #[.val (.long q1), .second, .val (.long q2), .second, .val (.long (-7046029254386353131 : Int64)), .second, .val (.long (q1 ^^^ (q2 ||| (1 : Int64)))), .second, .val (.ref b2), .val (.ref b8), .val (.ref b14), .val (.ref b20), .val (.long (own_mix (q1 + (-7046029254386353131 : Int64)))), .second, .val (.long (own_mix ((q1 + (-7046029254386353131 : Int64)) + (-7046029254386353131 : Int64)))), .second, .val (.long (own_mix ((q1 + (-7046029254386353131 : Int64)) + (-7046029254386353131 : Int64)))), .second, .val (.long (own_mix ((q1 ^^^ (q2 ||| (1 : Int64))) + (-7046029254386353131 : Int64)))), .second, .val (.long (own_mix ((0 : Int64) + (-7046029254386353131 : Int64)))), .second, .val (.int (1 : Int32)), .unset, .unset] [(.long (own_mix (q1 + (-7046029254386353131 : Int64))))])) tg
    refine XS.lload X44.here hx rfl (hb hby at_108) rfl ?_
    show Steps p.tables e below (T44.setTop (mkF m 110 #[.val (.long q1), .second, .val (.long q2), .second, .val (.long (-7046029254386353131 : Int64)), .second, .val (.long (q1 ^^^ (q2 ||| (1 : Int64)))), .second, .val (.ref b2), .val (.ref b8), .val (.ref b14), .val (.ref b20), .val (.long (own_mix (q1 + (-7046029254386353131 : Int64)))), .second, .val (.long (own_mix ((q1 + (-7046029254386353131 : Int64)) + (-7046029254386353131 : Int64)))), .second, .val (.long (own_mix ((q1 + (-7046029254386353131 : Int64)) + (-7046029254386353131 : Int64)))), .second, .val (.long (own_mix ((q1 ^^^ (q2 ||| (1 : Int64))) + (-7046029254386353131 : Int64)))), .second, .val (.long (own_mix ((0 : Int64) + (-7046029254386353131 : Int64)))), .second, .val (.int (1 : Int32)), .unset, .unset] [(.long (own_mix ((q1 ^^^ (q2 ||| (1 : Int64))) + (-7046029254386353131 : Int64)))), (.long (own_mix (q1 + (-7046029254386353131 : Int64))))])) tg
    refine XS.lcmp X44.here hx rfl (hb hby at_110) rfl ?_
    show Steps p.tables e below (T44.setTop (mkF m 111 #[.val (.long q1), .second, .val (.long q2), .second, .val (.long (-7046029254386353131 : Int64)), .second, .val (.long (q1 ^^^ (q2 ||| (1 : Int64)))), .second, .val (.ref b2), .val (.ref b8), .val (.ref b14), .val (.ref b20), .val (.long (own_mix (q1 + (-7046029254386353131 : Int64)))), .second, .val (.long (own_mix ((q1 + (-7046029254386353131 : Int64)) + (-7046029254386353131 : Int64)))), .second, .val (.long (own_mix ((q1 + (-7046029254386353131 : Int64)) + (-7046029254386353131 : Int64)))), .second, .val (.long (own_mix ((q1 ^^^ (q2 ||| (1 : Int64))) + (-7046029254386353131 : Int64)))), .second, .val (.long (own_mix ((0 : Int64) + (-7046029254386353131 : Int64)))), .second, .val (.int (1 : Int32)), .unset, .unset] [(.int (lcmpW (own_mix (q1 + (-7046029254386353131 : Int64))) (own_mix ((q1 ^^^ (q2 ||| (1 : Int64))) + (-7046029254386353131 : Int64)))))])) tg
    refine XS.ifNo X44.here hx rfl (hb hby at_111) rfl ((if0 _ _).trans (feq (fun q => own_differ _ _ ((lw_eq _ _).mp q))).1) ?_
    show Steps p.tables e below (T44.setTop (mkF m 114 #[.val (.long q1), .second, .val (.long q2), .second, .val (.long (-7046029254386353131 : Int64)), .second, .val (.long (q1 ^^^ (q2 ||| (1 : Int64)))), .second, .val (.ref b2), .val (.ref b8), .val (.ref b14), .val (.ref b20), .val (.long (own_mix (q1 + (-7046029254386353131 : Int64)))), .second, .val (.long (own_mix ((q1 + (-7046029254386353131 : Int64)) + (-7046029254386353131 : Int64)))), .second, .val (.long (own_mix ((q1 + (-7046029254386353131 : Int64)) + (-7046029254386353131 : Int64)))), .second, .val (.long (own_mix ((q1 ^^^ (q2 ||| (1 : Int64))) + (-7046029254386353131 : Int64)))), .second, .val (.long (own_mix ((0 : Int64) + (-7046029254386353131 : Int64)))), .second, .val (.int (1 : Int32)), .unset, .unset] [])) tg
    refine XS.iconst X44.here hx rfl (hb hby at_114) ?_
    show Steps p.tables e below (T44.setTop (mkF m 115 #[.val (.long q1), .second, .val (.long q2), .second, .val (.long (-7046029254386353131 : Int64)), .second, .val (.long (q1 ^^^ (q2 ||| (1 : Int64)))), .second, .val (.ref b2), .val (.ref b8), .val (.ref b14), .val (.ref b20), .val (.long (own_mix (q1 + (-7046029254386353131 : Int64)))), .second, .val (.long (own_mix ((q1 + (-7046029254386353131 : Int64)) + (-7046029254386353131 : Int64)))), .second, .val (.long (own_mix ((q1 + (-7046029254386353131 : Int64)) + (-7046029254386353131 : Int64)))), .second, .val (.long (own_mix ((q1 ^^^ (q2 ||| (1 : Int64))) + (-7046029254386353131 : Int64)))), .second, .val (.long (own_mix ((0 : Int64) + (-7046029254386353131 : Int64)))), .second, .val (.int (1 : Int32)), .unset, .unset] [(.int (1 : Int32))])) tg
    refine XS.goto X44.here hx rfl (pc0 := 115) (pc' := 119) rfl (hb hby at_115) (by decide) (by decide) ?_
    show Steps p.tables e below (T44.setTop (mkF m 119 #[.val (.long q1), .second, .val (.long q2), .second, .val (.long (-7046029254386353131 : Int64)), .second, .val (.long (q1 ^^^ (q2 ||| (1 : Int64)))), .second, .val (.ref b2), .val (.ref b8), .val (.ref b14), .val (.ref b20), .val (.long (own_mix (q1 + (-7046029254386353131 : Int64)))), .second, .val (.long (own_mix ((q1 + (-7046029254386353131 : Int64)) + (-7046029254386353131 : Int64)))), .second, .val (.long (own_mix ((q1 + (-7046029254386353131 : Int64)) + (-7046029254386353131 : Int64)))), .second, .val (.long (own_mix ((q1 ^^^ (q2 ||| (1 : Int64))) + (-7046029254386353131 : Int64)))), .second, .val (.long (own_mix ((0 : Int64) + (-7046029254386353131 : Int64)))), .second, .val (.int (1 : Int32)), .unset, .unset] [(.int (1 : Int32))])) tg
    refine XS.istore X44.here hx rfl (hb hby at_119) rfl (l' := #[.val (.long q1), .second, .val (.long q2), .second, .val (.long (-7046029254386353131 : Int64)), .second, .val (.long (q1 ^^^ (q2 ||| (1 : Int64)))), .second, .val (.ref b2), .val (.ref b8), .val (.ref b14), .val (.ref b20), .val (.long (own_mix (q1 + (-7046029254386353131 : Int64)))), .second, .val (.long (own_mix ((q1 + (-7046029254386353131 : Int64)) + (-7046029254386353131 : Int64)))), .second, .val (.long (own_mix ((q1 + (-7046029254386353131 : Int64)) + (-7046029254386353131 : Int64)))), .second, .val (.long (own_mix ((q1 ^^^ (q2 ||| (1 : Int64))) + (-7046029254386353131 : Int64)))), .second, .val (.long (own_mix ((0 : Int64) + (-7046029254386353131 : Int64)))), .second, .val (.int (1 : Int32)), .val (.int (1 : Int32)), .unset]) rfl ?_
    show Steps p.tables e below (T44.setTop (mkF m 121 #[.val (.long q1), .second, .val (.long q2), .second, .val (.long (-7046029254386353131 : Int64)), .second, .val (.long (q1 ^^^ (q2 ||| (1 : Int64)))), .second, .val (.ref b2), .val (.ref b8), .val (.ref b14), .val (.ref b20), .val (.long (own_mix (q1 + (-7046029254386353131 : Int64)))), .second, .val (.long (own_mix ((q1 + (-7046029254386353131 : Int64)) + (-7046029254386353131 : Int64)))), .second, .val (.long (own_mix ((q1 + (-7046029254386353131 : Int64)) + (-7046029254386353131 : Int64)))), .second, .val (.long (own_mix ((q1 ^^^ (q2 ||| (1 : Int64))) + (-7046029254386353131 : Int64)))), .second, .val (.long (own_mix ((0 : Int64) + (-7046029254386353131 : Int64)))), .second, .val (.int (1 : Int32)), .val (.int (1 : Int32)), .unset] [])) tg
    refine XS.lload X44.here hx rfl (hb hby at_121) rfl ?_
    show Steps p.tables e below (T44.setTop (mkF m 123 #[.val (.long q1), .second, .val (.long q2), .second, .val (.long (-7046029254386353131 : Int64)), .second, .val (.long (q1 ^^^ (q2 ||| (1 : Int64)))), .second, .val (.ref b2), .val (.ref b8), .val (.ref b14), .val (.ref b20), .val (.long (own_mix (q1 + (-7046029254386353131 : Int64)))), .second, .val (.long (own_mix ((q1 + (-7046029254386353131 : Int64)) + (-7046029254386353131 : Int64)))), .second, .val (.long (own_mix ((q1 + (-7046029254386353131 : Int64)) + (-7046029254386353131 : Int64)))), .second, .val (.long (own_mix ((q1 ^^^ (q2 ||| (1 : Int64))) + (-7046029254386353131 : Int64)))), .second, .val (.long (own_mix ((0 : Int64) + (-7046029254386353131 : Int64)))), .second, .val (.int (1 : Int32)), .val (.int (1 : Int32)), .unset] [(.long (own_mix ((0 : Int64) + (-7046029254386353131 : Int64))))])) tg
    refine X44.ldc2Long hx hown (mvT hZ (hw _ (List.mem_of_getElem? (i := 20) rfl))) (g := (mkF m 123 #[.val (.long q1), .second, .val (.long q2), .second, .val (.long (-7046029254386353131 : Int64)), .second, .val (.long (q1 ^^^ (q2 ||| (1 : Int64)))), .second, .val (.ref b2), .val (.ref b8), .val (.ref b14), .val (.ref b20), .val (.long (own_mix (q1 + (-7046029254386353131 : Int64)))), .second, .val (.long (own_mix ((q1 + (-7046029254386353131 : Int64)) + (-7046029254386353131 : Int64)))), .second, .val (.long (own_mix ((q1 + (-7046029254386353131 : Int64)) + (-7046029254386353131 : Int64)))), .second, .val (.long (own_mix ((q1 ^^^ (q2 ||| (1 : Int64))) + (-7046029254386353131 : Int64)))), .second, .val (.long (own_mix ((0 : Int64) + (-7046029254386353131 : Int64)))), .second, .val (.int (1 : Int32)), .val (.int (1 : Int32)), .unset] [(.long (own_mix ((0 : Int64) + (-7046029254386353131 : Int64))))])) rfl (hb hby at_123) _ ?_
    show Steps p.tables e below (T44.setTop (mkF m 126 #[.val (.long q1), .second, .val (.long q2), .second, .val (.long (-7046029254386353131 : Int64)), .second, .val (.long (q1 ^^^ (q2 ||| (1 : Int64)))), .second, .val (.ref b2), .val (.ref b8), .val (.ref b14), .val (.ref b20), .val (.long (own_mix (q1 + (-7046029254386353131 : Int64)))), .second, .val (.long (own_mix ((q1 + (-7046029254386353131 : Int64)) + (-7046029254386353131 : Int64)))), .second, .val (.long (own_mix ((q1 + (-7046029254386353131 : Int64)) + (-7046029254386353131 : Int64)))), .second, .val (.long (own_mix ((q1 ^^^ (q2 ||| (1 : Int64))) + (-7046029254386353131 : Int64)))), .second, .val (.long (own_mix ((0 : Int64) + (-7046029254386353131 : Int64)))), .second, .val (.int (1 : Int32)), .val (.int (1 : Int32)), .unset] [(.long (-2152535657050944081 : Int64)), (.long (own_mix ((0 : Int64) + (-7046029254386353131 : Int64))))])) tg
    refine XS.lcmp X44.here hx rfl (hb hby at_126) rfl ?_
    show Steps p.tables e below (T44.setTop (mkF m 127 #[.val (.long q1), .second, .val (.long q2), .second, .val (.long (-7046029254386353131 : Int64)), .second, .val (.long (q1 ^^^ (q2 ||| (1 : Int64)))), .second, .val (.ref b2), .val (.ref b8), .val (.ref b14), .val (.ref b20), .val (.long (own_mix (q1 + (-7046029254386353131 : Int64)))), .second, .val (.long (own_mix ((q1 + (-7046029254386353131 : Int64)) + (-7046029254386353131 : Int64)))), .second, .val (.long (own_mix ((q1 + (-7046029254386353131 : Int64)) + (-7046029254386353131 : Int64)))), .second, .val (.long (own_mix ((q1 ^^^ (q2 ||| (1 : Int64))) + (-7046029254386353131 : Int64)))), .second, .val (.long (own_mix ((0 : Int64) + (-7046029254386353131 : Int64)))), .second, .val (.int (1 : Int32)), .val (.int (1 : Int32)), .unset] [(.int (lcmpW (own_mix ((0 : Int64) + (-7046029254386353131 : Int64))) (-2152535657050944081 : Int64)))])) tg
    refine XS.ifNo X44.here hx rfl (hb hby at_127) rfl ((if0 _ _).trans (teq ((lw_eq _ _).mpr (by decide +kernel))).2) ?_
    show Steps p.tables e below (T44.setTop (mkF m 130 #[.val (.long q1), .second, .val (.long q2), .second, .val (.long (-7046029254386353131 : Int64)), .second, .val (.long (q1 ^^^ (q2 ||| (1 : Int64)))), .second, .val (.ref b2), .val (.ref b8), .val (.ref b14), .val (.ref b20), .val (.long (own_mix (q1 + (-7046029254386353131 : Int64)))), .second, .val (.long (own_mix ((q1 + (-7046029254386353131 : Int64)) + (-7046029254386353131 : Int64)))), .second, .val (.long (own_mix ((q1 + (-7046029254386353131 : Int64)) + (-7046029254386353131 : Int64)))), .second, .val (.long (own_mix ((q1 ^^^ (q2 ||| (1 : Int64))) + (-7046029254386353131 : Int64)))), .second, .val (.long (own_mix ((0 : Int64) + (-7046029254386353131 : Int64)))), .second, .val (.int (1 : Int32)), .val (.int (1 : Int32)), .unset] [])) tg
    refine XS.iconst X44.here hx rfl (hb hby at_130) ?_
    show Steps p.tables e below (T44.setTop (mkF m 131 #[.val (.long q1), .second, .val (.long q2), .second, .val (.long (-7046029254386353131 : Int64)), .second, .val (.long (q1 ^^^ (q2 ||| (1 : Int64)))), .second, .val (.ref b2), .val (.ref b8), .val (.ref b14), .val (.ref b20), .val (.long (own_mix (q1 + (-7046029254386353131 : Int64)))), .second, .val (.long (own_mix ((q1 + (-7046029254386353131 : Int64)) + (-7046029254386353131 : Int64)))), .second, .val (.long (own_mix ((q1 + (-7046029254386353131 : Int64)) + (-7046029254386353131 : Int64)))), .second, .val (.long (own_mix ((q1 ^^^ (q2 ||| (1 : Int64))) + (-7046029254386353131 : Int64)))), .second, .val (.long (own_mix ((0 : Int64) + (-7046029254386353131 : Int64)))), .second, .val (.int (1 : Int32)), .val (.int (1 : Int32)), .unset] [(.int (1 : Int32))])) tg
    refine XS.goto X44.here hx rfl (pc0 := 131) (pc' := 135) rfl (hb hby at_131) (by decide) (by decide) ?_
    show Steps p.tables e below (T44.setTop (mkF m 135 #[.val (.long q1), .second, .val (.long q2), .second, .val (.long (-7046029254386353131 : Int64)), .second, .val (.long (q1 ^^^ (q2 ||| (1 : Int64)))), .second, .val (.ref b2), .val (.ref b8), .val (.ref b14), .val (.ref b20), .val (.long (own_mix (q1 + (-7046029254386353131 : Int64)))), .second, .val (.long (own_mix ((q1 + (-7046029254386353131 : Int64)) + (-7046029254386353131 : Int64)))), .second, .val (.long (own_mix ((q1 + (-7046029254386353131 : Int64)) + (-7046029254386353131 : Int64)))), .second, .val (.long (own_mix ((q1 ^^^ (q2 ||| (1 : Int64))) + (-7046029254386353131 : Int64)))), .second, .val (.long (own_mix ((0 : Int64) + (-7046029254386353131 : Int64)))), .second, .val (.int (1 : Int32)), .val (.int (1 : Int32)), .unset] [(.int (1 : Int32))])) tg
    refine XS.istore X44.here hx rfl (hb hby at_135) rfl (l' := #[.val (.long q1), .second, .val (.long q2), .second, .val (.long (-7046029254386353131 : Int64)), .second, .val (.long (q1 ^^^ (q2 ||| (1 : Int64)))), .second, .val (.ref b2), .val (.ref b8), .val (.ref b14), .val (.ref b20), .val (.long (own_mix (q1 + (-7046029254386353131 : Int64)))), .second, .val (.long (own_mix ((q1 + (-7046029254386353131 : Int64)) + (-7046029254386353131 : Int64)))), .second, .val (.long (own_mix ((q1 + (-7046029254386353131 : Int64)) + (-7046029254386353131 : Int64)))), .second, .val (.long (own_mix ((q1 ^^^ (q2 ||| (1 : Int64))) + (-7046029254386353131 : Int64)))), .second, .val (.long (own_mix ((0 : Int64) + (-7046029254386353131 : Int64)))), .second, .val (.int (1 : Int32)), .val (.int (1 : Int32)), .val (.int (1 : Int32))]) rfl ?_
    show Steps p.tables e below (T44.setTop (mkF m 137 #[.val (.long q1), .second, .val (.long q2), .second, .val (.long (-7046029254386353131 : Int64)), .second, .val (.long (q1 ^^^ (q2 ||| (1 : Int64)))), .second, .val (.ref b2), .val (.ref b8), .val (.ref b14), .val (.ref b20), .val (.long (own_mix (q1 + (-7046029254386353131 : Int64)))), .second, .val (.long (own_mix ((q1 + (-7046029254386353131 : Int64)) + (-7046029254386353131 : Int64)))), .second, .val (.long (own_mix ((q1 + (-7046029254386353131 : Int64)) + (-7046029254386353131 : Int64)))), .second, .val (.long (own_mix ((q1 ^^^ (q2 ||| (1 : Int64))) + (-7046029254386353131 : Int64)))), .second, .val (.long (own_mix ((0 : Int64) + (-7046029254386353131 : Int64)))), .second, .val (.int (1 : Int32)), .val (.int (1 : Int32)), .val (.int (1 : Int32))] [])) tg
    refine XS.iload X44.here hx rfl (hb hby at_137) rfl ?_
    show Steps p.tables e below (T44.setTop (mkF m 139 #[.val (.long q1), .second, .val (.long q2), .second, .val (.long (-7046029254386353131 : Int64)), .second, .val (.long (q1 ^^^ (q2 ||| (1 : Int64)))), .second, .val (.ref b2), .val (.ref b8), .val (.ref b14), .val (.ref b20), .val (.long (own_mix (q1 + (-7046029254386353131 : Int64)))), .second, .val (.long (own_mix ((q1 + (-7046029254386353131 : Int64)) + (-7046029254386353131 : Int64)))), .second, .val (.long (own_mix ((q1 + (-7046029254386353131 : Int64)) + (-7046029254386353131 : Int64)))), .second, .val (.long (own_mix ((q1 ^^^ (q2 ||| (1 : Int64))) + (-7046029254386353131 : Int64)))), .second, .val (.long (own_mix ((0 : Int64) + (-7046029254386353131 : Int64)))), .second, .val (.int (1 : Int32)), .val (.int (1 : Int32)), .val (.int (1 : Int32))] [(.int (1 : Int32))])) tg
    refine XS.ifNo X44.here hx rfl (hb hby at_139) rfl ((if0 _ _).trans (feq (by decide)).1) ?_
    show Steps p.tables e below (T44.setTop (mkF m 142 #[.val (.long q1), .second, .val (.long q2), .second, .val (.long (-7046029254386353131 : Int64)), .second, .val (.long (q1 ^^^ (q2 ||| (1 : Int64)))), .second, .val (.ref b2), .val (.ref b8), .val (.ref b14), .val (.ref b20), .val (.long (own_mix (q1 + (-7046029254386353131 : Int64)))), .second, .val (.long (own_mix ((q1 + (-7046029254386353131 : Int64)) + (-7046029254386353131 : Int64)))), .second, .val (.long (own_mix ((q1 + (-7046029254386353131 : Int64)) + (-7046029254386353131 : Int64)))), .second, .val (.long (own_mix ((q1 ^^^ (q2 ||| (1 : Int64))) + (-7046029254386353131 : Int64)))), .second, .val (.long (own_mix ((0 : Int64) + (-7046029254386353131 : Int64)))), .second, .val (.int (1 : Int32)), .val (.int (1 : Int32)), .val (.int (1 : Int32))] [])) tg
    refine XS.iload X44.here hx rfl (hb hby at_142) rfl ?_
    show Steps p.tables e below (T44.setTop (mkF m 144 #[.val (.long q1), .second, .val (.long q2), .second, .val (.long (-7046029254386353131 : Int64)), .second, .val (.long (q1 ^^^ (q2 ||| (1 : Int64)))), .second, .val (.ref b2), .val (.ref b8), .val (.ref b14), .val (.ref b20), .val (.long (own_mix (q1 + (-7046029254386353131 : Int64)))), .second, .val (.long (own_mix ((q1 + (-7046029254386353131 : Int64)) + (-7046029254386353131 : Int64)))), .second, .val (.long (own_mix ((q1 + (-7046029254386353131 : Int64)) + (-7046029254386353131 : Int64)))), .second, .val (.long (own_mix ((q1 ^^^ (q2 ||| (1 : Int64))) + (-7046029254386353131 : Int64)))), .second, .val (.long (own_mix ((0 : Int64) + (-7046029254386353131 : Int64)))), .second, .val (.int (1 : Int32)), .val (.int (1 : Int32)), .val (.int (1 : Int32))] [(.int (1 : Int32))])) tg
    refine XS.ifNo X44.here hx rfl (hb hby at_144) rfl ((if0 _ _).trans (feq (by decide)).1) ?_
    show Steps p.tables e below (T44.setTop (mkF m 147 #[.val (.long q1), .second, .val (.long q2), .second, .val (.long (-7046029254386353131 : Int64)), .second, .val (.long (q1 ^^^ (q2 ||| (1 : Int64)))), .second, .val (.ref b2), .val (.ref b8), .val (.ref b14), .val (.ref b20), .val (.long (own_mix (q1 + (-7046029254386353131 : Int64)))), .second, .val (.long (own_mix ((q1 + (-7046029254386353131 : Int64)) + (-7046029254386353131 : Int64)))), .second, .val (.long (own_mix ((q1 + (-7046029254386353131 : Int64)) + (-7046029254386353131 : Int64)))), .second, .val (.long (own_mix ((q1 ^^^ (q2 ||| (1 : Int64))) + (-7046029254386353131 : Int64)))), .second, .val (.long (own_mix ((0 : Int64) + (-7046029254386353131 : Int64)))), .second, .val (.int (1 : Int32)), .val (.int (1 : Int32)), .val (.int (1 : Int32))] [])) tg
    refine XS.iload X44.here hx rfl (hb hby at_147) rfl ?_
    show Steps p.tables e below (T44.setTop (mkF m 149 #[.val (.long q1), .second, .val (.long q2), .second, .val (.long (-7046029254386353131 : Int64)), .second, .val (.long (q1 ^^^ (q2 ||| (1 : Int64)))), .second, .val (.ref b2), .val (.ref b8), .val (.ref b14), .val (.ref b20), .val (.long (own_mix (q1 + (-7046029254386353131 : Int64)))), .second, .val (.long (own_mix ((q1 + (-7046029254386353131 : Int64)) + (-7046029254386353131 : Int64)))), .second, .val (.long (own_mix ((q1 + (-7046029254386353131 : Int64)) + (-7046029254386353131 : Int64)))), .second, .val (.long (own_mix ((q1 ^^^ (q2 ||| (1 : Int64))) + (-7046029254386353131 : Int64)))), .second, .val (.long (own_mix ((0 : Int64) + (-7046029254386353131 : Int64)))), .second, .val (.int (1 : Int32)), .val (.int (1 : Int32)), .val (.int (1 : Int32))] [(.int (1 : Int32))])) tg
    refine XS.ifNo X44.here hx rfl (hb hby at_149) rfl ((if0 _ _).trans (feq (by decide)).1) ?_
    show Steps p.tables e below (T44.setTop (mkF m 152 #[.val (.long q1), .second, .val (.long q2), .second, .val (.long (-7046029254386353131 : Int64)), .second, .val (.long (q1 ^^^ (q2 ||| (1 : Int64)))), .second, .val (.ref b2), .val (.ref b8), .val (.ref b14), .val (.ref b20), .val (.long (own_mix (q1 + (-7046029254386353131 : Int64)))), .second, .val (.long (own_mix ((q1 + (-7046029254386353131 : Int64)) + (-7046029254386353131 : Int64)))), .second, .val (.long (own_mix ((q1 + (-7046029254386353131 : Int64)) + (-7046029254386353131 : Int64)))), .second, .val (.long (own_mix ((q1 ^^^ (q2 ||| (1 : Int64))) + (-7046029254386353131 : Int64)))), .second, .val (.long (own_mix ((0 : Int64) + (-7046029254386353131 : Int64)))), .second, .val (.int (1 : Int32)), .val (.int (1 : Int32)), .val (.int (1 : Int32))] [])) tg
    refine XS.iconst X44.here hx rfl (hb hby at_152) ?_
    show Steps p.tables e below (T44.setTop (mkF m 153 #[.val (.long q1), .second, .val (.long q2), .second, .val (.long (-7046029254386353131 : Int64)), .second, .val (.long (q1 ^^^ (q2 ||| (1 : Int64)))), .second, .val (.ref b2), .val (.ref b8), .val (.ref b14), .val (.ref b20), .val (.long (own_mix (q1 + (-7046029254386353131 : Int64)))), .second, .val (.long (own_mix ((q1 + (-7046029254386353131 : Int64)) + (-7046029254386353131 : Int64)))), .second, .val (.long (own_mix ((q1 + (-7046029254386353131 : Int64)) + (-7046029254386353131 : Int64)))), .second, .val (.long (own_mix ((q1 ^^^ (q2 ||| (1 : Int64))) + (-7046029254386353131 : Int64)))), .second, .val (.long (own_mix ((0 : Int64) + (-7046029254386353131 : Int64)))), .second, .val (.int (1 : Int32)), .val (.int (1 : Int32)), .val (.int (1 : Int32))] [(.int (1 : Int32))])) tg
    refine XS.goto X44.here hx rfl (pc0 := 153) (pc' := 157) rfl (hb hby at_153) (by decide) (by decide) ?_
    exact kg
  obtain ⟨fs49, hr49, hrun49, hended49, hW49, hsame49⟩ := X44.leave (v := some (.int (nar .boolean (1 : Int32)))) (fun h => by rw [Bd.returns] at h; cases h)
  refine ⟨_, _, k48 _ ?_, hrun49, hended49, _, _, rfl, ?_, ⟨_, rfl⟩, hW49, hsame49.mono (by decide) (by decide)⟩
  · exact retN X44 hx (t := .boolean) Bd.returns (by simp) (hb hby at_157) hr49
  · show Q_rm0 Z q1 q2 h0 n0 _ T44.heap _
    rw [e44]
    exact ⟨rfl, N44⟩
set_option maxRecDepth 65536 in
set_option maxHeartbeats 40000000 in
theorem comes_1 {Post : Tables → Env → Array Value → State → Outcome → State → Prop} (hpost : ∀ tb e args s v u, (limb_1_1.after args s (.returned v) u = true ∧ limb_1_2.after args s (.returned v) u = true ∧ True) → FrameEnd s (.returned v) u (Jvm.fieldLocs frame_1_writes args s ++ Jvm.arrayLocs frame_1_arrays args s ++ Jvm.staticLocs frame_1_statics s) 16 128 → Post tb e args s (.returned v) u) :
    ArmFor flags0 classFile x code maxLocals ret World_1 tables_1 room_1 Calls_1 rest_1 Pre_1 Post := by
  intro l hfl _ _ p e ha hc hk s m args below hf hA hF happ hP
  obtain ⟨hcalls, hrest, hpre⟩ := hP
  obtain ⟨-, -, -, hnamed, -, -, -, hat⟩ := (Spec.applies_iff hf).mp happ
  obtain ⟨hg, hn⟩ := and_e (Cond.before_iff.mp (show (Jvm.Cond.and given_1 narrow_1).before args s = true from hpre))
  obtain ⟨g1, g2⟩ := and_e hg
  obtain ⟨g3, g4⟩ := and_e g2
  obtain ⟨w0, w1, rfl⟩ : ∃ w0 w1 : Value, args = #[w0, w1] := by
    have hs : args.size = 2 := by simpa [Cond.value, given_1] using g1
    obtain ⟨L⟩ := args
    match L, hs with
    | [w0, w1], _ => exact ⟨w0, w1, rfl⟩
  have hw := fun d (hd : d ∈ tables_1) => atoms_spec (ws := Jvm.Cond.code x code maxLocals ret :: tables_1) hat d (List.mem_cons_of_mem _ hd)
  have hfit : Fit s := fun {y c} hc i hi => by
    obtain ⟨ha, rfl⟩ := Array.getElem?_eq_some_iff.mp hc
    have q := List.all_eq_true.mp ((Array.all_eq_true_iff_forall_mem.mp hF) _ (Array.getElem_mem ha)) i (List.mem_range.mpr hi)
    simpa [Array.getElem?_eq_getElem hi] using q
  obtain ⟨i0, ei0⟩ := isL_v g3
  obtain rfl : w0 = (.long i0) := Option.some.inj ei0
  obtain ⟨i1, ei1⟩ := isL_v g4
  obtain rfl : w1 = (.long i1) := Option.some.inj ei1
  obtain ⟨n, o, h1, h2, h3, _, L, rfl, ⟨rfl, N⟩, hq⟩ := rm0 l s _ hw tables_1 i0 i1 s.heap s.heap.size (Nat.le_refl _)  p e ha hc hk s m _ below hf ((Spec.applies_iff_loose hf).mp happ).1 ⟨rfl, State.Warmed39.refl s, rfl⟩ trivial
  refine ⟨n, _, h1, h2, h3, hpost _ _ _ _ _ _ ⟨Cond.after_iff.mpr rfl, Cond.after_iff.mpr (eq_i res_at (Term.int_eval (1)) rfl), trivial⟩ ⟨hq.1, hq.2.1, (hq.2.2.sift fun y hy => Or.inr (N y hy)).mono (by decide) (by decide)⟩⟩
theorem main_1_1 : Claimed_1_1 := comes_1 fun _ _ _ _ _ _ h hF => ⟨h.1, hF⟩
theorem main_1_2 : Claimed_1_2 := comes_1 fun _ _ _ _ _ _ h hF => ⟨h.2.1, hF⟩
end Jvm.Pilot.@@N@@
namespace Jvm.Pilot.@@N@@
open Jvm Jvm.ClassFile Sem Op Lib Jvm.Free Jvm.Stand Jvm.Pilot.@@N@@.Jvm.D
/-! MADE BY PROGRAM (witnessworld.py) out of the Statement's table words and the real class files: 9 classes; the members and pool entries that the words name. The judged class is class 1, her method 1. -/
namespace start1
open Jvm.ClassFile
def u (s : String) : CpInfo := .utf8 (stringToUtf16 s)
/-- a pool by its gaps: so many unusable entries, then the entry; so many at the end -/
def gap : Nat → List CpInfo → List CpInfo
  | 0, r => r
  | n + 1, r => .unusable :: gap n r
def poolList (es : List (Nat × CpInfo)) (last : Nat) : List CpInfo := es.foldr (fun e r => gap e.1 (e.2 :: r)) (gap last [])
def pool (es : List (Nat × CpInfo)) (last : Nat) : Array CpInfo := ⟨poolList es last⟩
def fileOf (pool : Array CpInfo) (this : Nat) (attrs : Array Attribute := #[]) (ms : Array MethodInfo := #[]) (fl : Nat := 33) (sup : Nat := 0) (ifs : Array Nat := #[]) (fds : Array FieldInfo := #[]) : ClassFile where
  minorVersion := 0
  majorVersion := 65
  constantPool := pool
  accessFlags := fl
  thisClass := this
  superClass := sup
  interfaces := ifs
  fields := fds
  methods := ms
  attributes := attrs
def plain (name : String) (sup : Option ClassId) : Class where
  name := name
  kind := .ordinary
  loader := none
  accessFlags := 33
  super := sup
  interfaces := #[]
  cf := none
  fields := #[]
  methods := #[]
  instanceTypes := #[]
  staticTypes := #[]
  resolved := #[]
  callSites := []
  init := .initialized
  statics := none
  mirror := none

def pool0 : Array CpInfo := pool [(5, u "<init>"), (0, u "()V"), (1, .class_ 10), (1, u "java/lang/Object")] 113

def k0c0 : Code := { maxStack := 0, maxLocals := 1, code := object_method_1_code, exceptionTable := #[], attributes := #[] }
def k0m0 : Method := { name := "<init>", desc := "()V", sig := { parameters := [], returnType := none }, accessFlags := 1, code := some k0c0 }
/-- java/lang/Object -/
def k0 : Class := { plain "java/lang/Object" none with
  accessFlags := 33
  interfaces := #[]
  cf := some (fileOf pool0 8 #[] #[{ accessFlags := 1, nameIndex := 5, descriptorIndex := 6, attributes := #[] }] 33 0 #[] #[])
  fields := #[]
  methods := #[k0m0]
  instanceTypes := #[]
  staticTypes := #[]
  resolved := Array.replicate 124 none
  statics := none }

def pool1 : Array CpInfo := pool [(2, .class_ 4), (1, u "java/lang/Object"), (0, u "<init>"), (0, u "()V"), (0, .long 11400714819323198485), (1, .class_ 10), (0, u "com/example/lightweave/lightweave/SplitMix64"), (0, .methodref 9 12), (0, .nameAndType 5 13), (0, u "(J)V"), (0, .methodref 9 15), (0, .nameAndType 16 17), (0, u "nextLong"), (0, u "()J"), (0, .long 16294208416658607535), (1, .class_ 21), (0, u "com/example/lightweave/lightweave/SplitMix64NextLongPinLaw"), (2, u "law"), (0, u "(JJ)Z")] 3

def k1m0 : Method := { name := "<init>", desc := "()V", sig := { parameters := [], returnType := none }, accessFlags := 2, code := none }
def k1c1 : Code := { maxStack := 6, maxLocals := 25, code := code, exceptionTable := #[], attributes := #[] }
def k1m1 : Method := { name := "law", desc := "(JJ)Z", sig := { parameters := [.long, .long], returnType := some .boolean }, accessFlags := 9, code := some k1c1 }
/-- com/example/lightweave/lightweave/SplitMix64NextLongPinLaw -/
def k1 : Class := { plain "com/example/lightweave/lightweave/SplitMix64NextLongPinLaw" (some 0) with
  accessFlags := 49
  interfaces := #[]
  cf := some (fileOf pool1 20 #[] #[{ accessFlags := 2, nameIndex := 5, descriptorIndex := 6, attributes := #[] }, { accessFlags := 9, nameIndex := 24, descriptorIndex := 25, attributes := #[] }] 49 2 #[] #[])
  fields := #[]
  methods := #[k1m0, k1m1]
  instanceTypes := #[]
  staticTypes := #[]
  resolved := Array.replicate 29 none
  statics := none }

def pool2 : Array CpInfo := pool [(1, .methodref 2 3), (0, .class_ 4), (0, .nameAndType 5 6), (0, u "java/lang/Object"), (0, u "<init>"), (0, u "()V"), (0, .fieldref 8 9), (0, .class_ 10), (0, .nameAndType 11 12), (0, u "com/example/lightweave/lightweave/SplitMix64"), (0, u "state"), (0, u "J"), (0, .long 11400714819323198485), (1, .long 13787848793156543929), (1, .long 10723151780598845931), (3, u "nextLong"), (0, u "()J"), (11, u "STEP"), (1, u "(J)V")] 24

def k2c0 : Code := { maxStack := 3, maxLocals := 3, code := prog_29_method_1_code, exceptionTable := #[], attributes := #[] }
def k2m0 : Method := { name := "<init>", desc := "(J)V", sig := { parameters := [.long], returnType := none }, accessFlags := 0, code := some k2c0 }
def k2c1 : Code := { maxStack := 5, maxLocals := 3, code := prog_29_method_2_code, exceptionTable := #[], attributes := #[] }
def k2m1 : Method := { name := "nextLong", desc := "()J", sig := { parameters := [], returnType := some .long }, accessFlags := 0, code := some k2c1 }
/-- com/example/lightweave/lightweave/SplitMix64 -/
def k2 : Class := { plain "com/example/lightweave/lightweave/SplitMix64" (some 0) with
  accessFlags := 48
  interfaces := #[]
  cf := some (fileOf pool2 8 #[] #[{ accessFlags := 0, nameIndex := 5, descriptorIndex := 36, attributes := #[] }, { accessFlags := 0, nameIndex := 21, descriptorIndex := 22, attributes := #[] }] 48 2 #[] #[{ accessFlags := 26, nameIndex := 34, descriptorIndex := 12, attributes := #[] }, { accessFlags := 2, nameIndex := 11, descriptorIndex := 12, attributes := #[] }])
  fields := #[{ name := "STEP", type := .long, accessFlags := 26, slot := 0, constantValue := 0 }, { name := "state", type := .long, accessFlags := 2, slot := 0, constantValue := 0 }]
  methods := #[k2m0, k2m1]
  instanceTypes := #[.long]
  staticTypes := #[.long]
  resolved := Array.replicate 61 none
  statics := none }

def pool3 : Array CpInfo := pool [(1, u "java/lang/Cloneable"), (0, .class_ 1), (0, u "java/lang/Object"), (0, .class_ 3)] 3

/-- java/lang/Cloneable -/
def k3 : Class := { plain "java/lang/Cloneable" (some 0) with
  accessFlags := 1537
  interfaces := #[]
  cf := some (fileOf pool3 2 #[] #[] 1537 4 #[] #[])
  fields := #[]
  methods := #[]
  instanceTypes := #[]
  staticTypes := #[]
  resolved := Array.replicate 8 none
  statics := none }

def pool4 : Array CpInfo := pool [(1, u "java/io/Serializable"), (0, .class_ 1), (0, u "java/lang/Object"), (0, .class_ 3)] 3

/-- java/io/Serializable -/
def k4 : Class := { plain "java/io/Serializable" (some 0) with
  accessFlags := 1537
  interfaces := #[]
  cf := some (fileOf pool4 2 #[] #[] 1537 4 #[] #[])
  fields := #[]
  methods := #[]
  instanceTypes := #[]
  staticTypes := #[]
  resolved := Array.replicate 8 none
  statics := none }

/-- the primitive byte -/
def k5 : Class := { plain "byte" none with kind := .primitive 'B', accessFlags := 0x411 }
/-- [B -/
def k6 : Class := { plain "[B" (some 0) with kind := .array 5 .byte, interfaces := #[3, 4], accessFlags := 1041 }

/-- the primitive int -/
def k7 : Class := { plain "int" none with kind := .primitive 'I', accessFlags := 0x411 }
/-- [I -/
def k8 : Class := { plain "[I" (some 0) with kind := .array 7 .int, interfaces := #[3, 4], accessFlags := 1041 }

def heap : Heap := #[]
def classes : Array Class := #[k0, k1, k2, k3, k4, k5, k6, k7, k8]
def interned : List (Array UInt16 × Addr) := []
def slotsUsed : Nat := 0
def theMethod : MethodId := ⟨1, 1⟩
def args0 : Array Value := #[.long 5, .long 7]
def aboutOver (below : List Frame) : State where
  vm := { classes := classes, interned := interned.toArray }
  heap := heap
  slotsUsed := slotsUsed
  threads := #[{ frames := .invoking theMethod args0 :: below }]
def below0 : List Frame := [.native { method := ⟨0, 0⟩, args := #[] }]
def about1 : State := aboutOver below0
def p0 : Program := .bare "" "" ""
def e0 : Env := launch0.env 0 0 0
theorem w_frames : about1.frames = Frame.invoking theMethod args0 :: below0 := rfl
set_option maxRecDepth 65536 in
theorem w_args : argsFit about1.vm theMethod args0 = true := by decide +kernel
set_option maxRecDepth 65536 in
theorem w_heap : heapFits about1 = true := by decide +kernel
set_option maxRecDepth 65536 in
theorem w_runnable : about1.curStatus? = some .runnable := by decide +kernel
set_option maxRecDepth 65536 in
theorem w_alone : about1.alone = true := by decide +kernel
set_option maxRecDepth 65536 in
theorem w_named : about1.methodNamed? x = some theMethod := by decide +kernel
set_option maxRecDepth 65536 in
theorem w_hears : about1.hears theMethod below0 = true := by decide +kernel
set_option maxRecDepth 65536 in
theorem w_ripe : about1.ripe theMethod args0 below0 = true := by decide +kernel
theorem w_running : about1.status = .running := rfl
set_option maxRecDepth 65536 in
theorem w_room : about1.hasRoom e0.platform room_1 = true :=
  launch0.hasRoom_least _ room_1 (by decide +kernel) (by decide +kernel) (by decide +kernel) (by decide +kernel) (by decide +kernel) (by decide +kernel)
theorem allAtoms_all (ts : List Jvm.Cond) (a : Array Jvm.Value) (st : Jvm.State) : (allAtoms ts).before a st = ts.all (fun c => c.before a st) := by
  induction ts with
  | nil => rfl
  | cons c t ih =>
    show (Jvm.Cond.and c (allAtoms t)).before a st = _
    rw [Jvm.Cond.before_and, ih, List.all_cons]
def words1 : List Jvm.Cond := Jvm.Cond.code x code maxLocals ret :: tables_1
/-- a 'code' word, met by the world's own term for the bytes: nothing is compared byte by byte -/
theorem code_word {y : MethodName} {bytes : ByteArray} {mx : Nat} {rt : Option FieldType} {a : Array Value} {s : State} {m : MethodId} {meth : Method} {c : Code} (h1 : s.methodNamed? y = some m) (h2 : s.vm.method? m = some meth) (h3 : meth.code = some c) (h4 : c.code = bytes)
    (h5 : (c.maxLocals == mx && c.exceptionTable.isEmpty && decide (c.maxStack ≤ mostOperands) && decide (meth.sig.returnType = rt) && !meth.locks && decide (parseMethodDescriptor y.desc = some meth.sig)) = true) : (Jvm.Cond.code y bytes mx rt).before a s = true := by
  simp only [Bool.and_eq_true, beq_iff_eq, Bool.not_eq_true', decide_eq_true_eq] at h5
  obtain ⟨⟨⟨⟨⟨g1, g2⟩, g3⟩, g4⟩, g5⟩, g6⟩ := h5
  simp [Cond.before, Cond.holds, Cond.value, h1, h2, h3, h4, g1, g2, g3, g4, g5, g6]
def isCode : Jvm.Cond → Bool
  | .code _ _ _ _ => true
  | _ => false
theorem all_split {L : List Jvm.Cond} {P : Jvm.Cond → Bool} (h1 : L.all (fun c => isCode c || P c) = true) (h2 : ∀ c ∈ L.filter isCode, P c = true) : L.all P = true := by
  refine List.all_eq_true.mpr fun c hc => ?_
  have h := List.all_eq_true.mp h1 c hc
  rcases Bool.eq_false_or_eq_true (isCode c) with hi | hi
  · exact h2 c (List.mem_filter.mpr ⟨hc, hi⟩)
  · simpa [hi] using h
set_option maxRecDepth 65536 in
theorem w_c0 : (Jvm.Cond.code x code maxLocals ret).before args0 about1 = true := code_word (m := ⟨1, 1⟩) (meth := k1m1) (c := k1c1) (by decide +kernel) rfl rfl rfl (by decide +kernel)
set_option maxRecDepth 65536 in
theorem w_c1 : (Jvm.Cond.code ({ cls := "com/example/lightweave/lightweave/SplitMix64", name := "<init>", desc := "(J)V" } : Jvm.MethodName) prog_29_method_1_code (3 : Nat) (Option.none : Option Jvm.ClassFile.FieldType)).before args0 about1 = true := code_word (m := ⟨2, 0⟩) (meth := k2m0) (c := k2c0) (by decide +kernel) rfl rfl rfl (by decide +kernel)
set_option maxRecDepth 65536 in
theorem w_c2 : (Jvm.Cond.code ({ cls := "java/lang/Object", name := "<init>", desc := "()V" } : Jvm.MethodName) object_method_1_code (1 : Nat) (Option.none : Option Jvm.ClassFile.FieldType)).before args0 about1 = true := code_word (m := ⟨0, 0⟩) (meth := k0m0) (c := k0c0) (by decide +kernel) rfl rfl rfl (by decide +kernel)
set_option maxRecDepth 65536 in
theorem w_c3 : (Jvm.Cond.code ({ cls := "com/example/lightweave/lightweave/SplitMix64", name := "nextLong", desc := "()J" } : Jvm.MethodName) prog_29_method_2_code (3 : Nat) (Option.some Jvm.ClassFile.FieldType.long)).before args0 about1 = true := code_word (m := ⟨2, 1⟩) (meth := k2m1) (c := k2c1) (by decide +kernel) rfl rfl rfl (by decide +kernel)
def codes1 : List Jvm.Cond := [Jvm.Cond.code x code maxLocals ret, Jvm.Cond.code ({ cls := "com/example/lightweave/lightweave/SplitMix64", name := "<init>", desc := "(J)V" } : Jvm.MethodName) prog_29_method_1_code (3 : Nat) (Option.none : Option Jvm.ClassFile.FieldType), Jvm.Cond.code ({ cls := "java/lang/Object", name := "<init>", desc := "()V" } : Jvm.MethodName) object_method_1_code (1 : Nat) (Option.none : Option Jvm.ClassFile.FieldType), Jvm.Cond.code ({ cls := "com/example/lightweave/lightweave/SplitMix64", name := "nextLong", desc := "()J" } : Jvm.MethodName) prog_29_method_2_code (3 : Nat) (Option.some Jvm.ClassFile.FieldType.long)]
set_option maxRecDepth 65536 in
theorem codes_eq : words1.filter isCode = codes1 := rfl
theorem w_codes : ∀ c ∈ words1.filter isCode, c.before args0 about1 = true := by
  rw [codes_eq]
  intro c hc
  simp only [codes1, List.mem_cons, List.not_mem_nil, or_false] at hc
  rcases hc with rfl | rfl | rfl | rfl
  · exact w_c0
  · exact w_c1
  · exact w_c2
  · exact w_c3
set_option maxRecDepth 65536 in
theorem w_t1 : words1.all (fun c => isCode c || c.before args0 about1) = true := by decide +kernel
theorem w_tables : (allAtoms (Jvm.Cond.code x code maxLocals ret :: tables_1)).before args0 about1 = true := by
  rw [allAtoms_all]
  show words1.all (fun c => c.before args0 about1) = true
  refine all_split ?_ w_codes
  rw [w_t1]
set_option maxRecDepth 65536 in
theorem w_case : (Jvm.Cond.and given_1 narrow_1).before args0 about1 = true := by decide +kernel
theorem w_applies : (headSpec (Jvm.Cond.code x code maxLocals ret :: tables_1) room_1).applies x e0.platform about1 = true :=
  (Spec.applies_iff w_frames).mpr ⟨w_running, w_runnable, w_alone, w_named, w_hears, w_ripe, w_room, w_tables⟩
theorem atStart : AtStart classFile x code maxLocals ret World_1 tables_1 room_1 Calls_1 rest_1 Pre_1 launch0 p0 e0 about1 theMethod args0 below0 :=
  ⟨lists_1, trivial, launch0.admits_env _ _ _, launch0.least_env, fairChoices_fair.cas, fairChoices_fair.clock, w_frames, w_args, w_heap, w_applies, trivial, trivial, w_case⟩
end start1
theorem witness_1 : WitnessClaimed_1 := ⟨start1.p0, start1.e0, start1.about1, start1.theMethod, start1.args0, start1.below0, start1.atStart⟩
end Jvm.Pilot.@@N@@
