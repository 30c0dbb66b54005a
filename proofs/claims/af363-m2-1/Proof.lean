import JvmDerived
import JvmDerived.Pilot.@@N@@Statement
import JvmDerived.Pilot.@@N@@Code
set_option linter.unusedVariables false
set_option linter.unusedSimpArgs false
namespace Jvm.Pilot.@@N@@
open Jvm Jvm.ClassFile Sem Op Lib Jvm.Free Jvm.Stand Jvm.LawKit Jvm.RoadKit Bundle Jvm.Pilot.@@N@@.Jvm.D
/-- from S0 the run comes to T with the frame g -/
abbrev Rch (p : Program) (e : Env) (below : List Frame) (S0 T : State) (g : JFrame) : Prop := ∀ t, Steps p.tables e below (T.setTop g) t → Steps p.tables e below S0 t
abbrev Con (l : Launch) (Z : State) (y : MethodName) (bytes : ByteArray) (maxL : Nat) (ret : Option FieldType) (ws : List Jvm.Cond) (rm : Room) (as' : Array Value) (h : Heap) (Q : Option Value → Heap → List Loc → Prop) : Prop :=
  MetFree l y (head1 (Jvm.Cond.code y bytes maxL ret :: ws) rm) (fun a U => a = as' ∧ Z.Warmed39 U.vm ∧ U.heap = h) (fun _ _ _ _ _ => True) (fun _ U o U' => ∃ v L, o = .returned v ∧ Q v U'.heap L ∧ FrameEnd U o U' L rm.cells rm.slots)
section OwnKit
variable {p : Program} {l : Launch} {e : Env} {R : Room} {s : State} {m : MethodId} {args : Array Value} {below : List Frame} {meth : Method} {c : Code} {T : State} {locs : List Loc} {cells slots : Nat} {Z : State} {a0 : Array Value} {h : Heap}
theorem own_callS (X : Stand p l e R s m args below meth c T locs cells slots) (hx : p.tables.exec = Jvm.exec) (hZ : Z.Warmed39 s.vm) {own : String} {index : Nat} {y : MethodName} {bytes : ByteArray} {maxL : Nat} {ret : Option FieldType} {rm : Room} {as' : Array Value} {Q : Option Value → Heap → List Loc → Prop}
    (hown : s.vm.findClass own = some m.cls) (w1 : (Cond.methodLink own index y).before a0 Z = true) (w2 : (Cond.static y).before a0 Z = true) (w3 : (Cond.initialized y.cls).before a0 Z = true) (w4 : (Cond.code y bytes maxL ret).before a0 Z = true)
    (hy : y.cls ≠ "java/lang/invoke/MethodHandle" ∧ y.cls ≠ "java/lang/invoke/VarHandle") (hM : Con l Z y bytes maxL ret [] rm as' h Q) (eT : T.heap = h)
    {g : JFrame} (hg : g.method = m) (hsize : g.locals.size = c.maxLocals) {argsL rest : List Value} (has : as' = argsL.toArray) (hlen : ∀ sig, parseMethodDescriptor y.desc = some sig → argsL.length = sig.parameters.length) (hs : g.stack = argsL.reverse ++ rest) {W : Nat} (hW : 2 * g.monitorRoom + (rest.map fun v => v.category).sum ≤ W)
    (hd : decode c.code g.pc = .ok (.invokestatic index, 3)) (hf : rm.frames + 1 ≤ R.frames) (hl : W + (maxL + 11) + rm.locals ≤ R.locals) (hc : cells + rm.cells ≤ R.cells) (hsl : slots + rm.slots ≤ R.slots) :
    ∃ (v : Option Value) (T' : State) (h' : Heap) (Lc : List Loc), Stand p l e R s m args below meth c T' (locs ++ Lc) (cells + rm.cells) (slots + rm.slots) ∧ T'.heap = h' ∧ Q v h' Lc ∧
      ∀ target, Steps p.tables e below (T'.setTop { g with pc := g.pc + 3, stack := v.toList ++ rest }) target → Steps p.tables e below (T.setTop g) target := by
  obtain ⟨v, _, ⟨T', L', k', n'⟩, -, X', ⟨Lc, hQ, hl', hk', hn'⟩, st⟩ := Jvm.LawKit.callS X hx (y := y) hown (mvT hZ w1) (mvT hZ w2) (mvT hZ w3) (mvT hZ w4) hy (backOf (W := W) hM hZ w4 w3 hf hl) hg hsize hlen hs hW hd (fun _ _ => ⟨has.symm, eT, hc, hsl⟩)
  dsimp only [Pt.U, Pt.locs, Pt.cells, Pt.slots] at X' hl' hk' hn' st hQ
  subst hl' hk' hn'
  exact ⟨v, T', _, Lc, X', rfl, hQ, st⟩
theorem own_callV (X : Stand p l e R s m args below meth c T locs cells slots) (hx : p.tables.exec = Jvm.exec) (hZ : Z.Warmed39 s.vm) {own C : String} {index : Nat} {y z : MethodName} {bytes : ByteArray} {maxL : Nat} {ret : Option FieldType} {rm : Room} {as' : Array Value} {Q : Option Value → Heap → List Loc → Prop}
    (hown : s.vm.findClass own = some m.cls) (w1 : (Cond.methodLink own index y).before a0 Z = true) (w2 : (Cond.declares y).before a0 Z = true) (nf : NotFace s y) (w3 : (Cond.selects C y z).before a0 Z = true) (w4 : (Cond.instanceMethod z).before a0 Z = true) (w5 : (Cond.code z bytes maxL ret).before a0 Z = true) (w6 : (Cond.initialized z.cls).before a0 Z = true)
    (hy : y.cls ≠ "java/lang/invoke/MethodHandle" ∧ y.cls ≠ "java/lang/invoke/VarHandle") (hM : Con l Z z bytes maxL ret [] rm as' h Q) (eT : T.heap = h) {a : Addr} (E : Exa Z h a C)
    {g : JFrame} (hg : g.method = m) (hsize : g.locals.size = c.maxLocals) {argsL rest : List Value} (has : as' = (Value.ref a :: argsL).toArray) (hlen : ∀ sig, parseMethodDescriptor y.desc = some sig → argsL.length = sig.parameters.length) (hs : g.stack = argsL.reverse ++ .ref a :: rest) {W : Nat} (hW : 2 * g.monitorRoom + (rest.map fun v => v.category).sum ≤ W)
    (hd : decode c.code g.pc = .ok (.invokevirtual index, 3)) (hf : rm.frames + 1 ≤ R.frames) (hl : W + (maxL + 11) + rm.locals ≤ R.locals) (hc : cells + rm.cells ≤ R.cells) (hsl : slots + rm.slots ≤ R.slots) :
    ∃ (v : Option Value) (T' : State) (h' : Heap) (Lc : List Loc), Stand p l e R s m args below meth c T' (locs ++ Lc) (cells + rm.cells) (slots + rm.slots) ∧ T'.heap = h' ∧ Q v h' Lc ∧
      ∀ target, Steps p.tables e below (T'.setTop { g with pc := g.pc + 3, stack := v.toList ++ rest }) target → Steps p.tables e below (T.setTop g) target := by
  obtain ⟨cq, kq, qa, qb, qc⟩ := isOf hZ eT E
  obtain ⟨v, _, ⟨T', L', k', n'⟩, -, X', ⟨Lc, hQ, hl', hk', hn'⟩, st⟩ := X.virtualBack hx (y := y) (z := z) hown (mvT hZ w1) (mvT hZ w2) nf (mvT hZ w3) (mvT hZ w4) hy (backOf (W := W) hM hZ w5 w6 hf hl) qa qc hg hsize (Steps.refl _) hlen hs hW hd (fun _ _ => ⟨has.symm, eT, hc, hsl⟩)
  dsimp only [Pt.U, Pt.locs, Pt.cells, Pt.slots] at X' hl' hk' hn' st hQ
  subst hl' hk' hn'
  exact ⟨v, T', _, Lc, X', rfl, hQ, fun t k => st.trans k⟩
theorem own_callC (X : Stand p l e R s m args below meth c T locs cells slots) (hx : p.tables.exec = Jvm.exec) (hZ : Z.Warmed39 s.vm) {own : String} {index : Nat} {y : MethodName} {bytes : ByteArray} {maxL : Nat} {rm : Room} {as' : Array Value} {Q : Option Value → Heap → List Loc → Prop} (hy1 : y.name = "<init>")
    (hown : s.vm.findClass own = some m.cls) (w1 : (Cond.methodLink own index y).before a0 Z = true) (w2 : (Cond.instanceMethod y).before a0 Z = true) (w3 : (Cond.initialized y.cls).before a0 Z = true) (w4 : (Cond.code y bytes maxL none).before a0 Z = true)
    (hy : y.cls ≠ "java/lang/invoke/MethodHandle" ∧ y.cls ≠ "java/lang/invoke/VarHandle") (hM : Con l Z y bytes maxL none [] rm as' h Q) (eT : T.heap = h) {a : Addr}
    {g : JFrame} (hg : g.method = m) (hsize : g.locals.size = c.maxLocals) {argsL rest : List Value} (has : as' = (Value.ref a :: argsL).toArray) (hlen : ∀ sig, parseMethodDescriptor y.desc = some sig → argsL.length = sig.parameters.length) (hs : g.stack = argsL.reverse ++ .ref a :: rest) {W : Nat} (hW : 2 * g.monitorRoom + (rest.map fun v => v.category).sum ≤ W)
    (hd : decode c.code g.pc = .ok (.invokespecial index, 3)) (hf : rm.frames + 1 ≤ R.frames) (hl : W + (maxL + 11) + rm.locals ≤ R.locals) (hc : cells + rm.cells ≤ R.cells) (hsl : slots + rm.slots ≤ R.slots) :
    ∃ (v : Option Value) (T' : State) (h' : Heap) (Lc : List Loc), Stand p l e R s m args below meth c T' (locs ++ Lc) (cells + rm.cells) (slots + rm.slots) ∧ T'.heap = h' ∧ Q v h' Lc ∧
      ∀ target, Steps p.tables e below (T'.setTop { g with pc := g.pc + 3, stack := v.toList ++ rest }) target → Steps p.tables e below (T.setTop g) target := by
  obtain ⟨v, _, ⟨T', L', k', n'⟩, -, X', ⟨Lc, hQ, hl', hk', hn'⟩, st⟩ := X.specialBack hx (y := y) hy1 hown (mvT hZ w1) (mvT hZ w2) (mvT hZ w4) hy (backOf (W := W) hM hZ w4 w3 hf hl) hg hsize (Steps.refl _) (a := a) hlen hs hW hd (fun _ _ => ⟨has.symm, eT, hc, hsl⟩)
  dsimp only [Pt.U, Pt.locs, Pt.cells, Pt.slots] at X' hl' hk' hn' st hQ
  subst hl' hk' hn'
  exact ⟨v, T', _, Lc, X', rfl, hQ, fun t k => st.trans k⟩
theorem own_callU (X : Stand p l e R s m args below meth c T locs cells slots) (hx : p.tables.exec = Jvm.exec) (hZ : Z.Warmed39 s.vm) {own C owner : String} {index : Nat} {x y : MethodName} {bytes : ByteArray} {maxL : Nat} {ret : Option FieldType} {rm : Room} {as' : Array Value} {Q : Option Value → Heap → List Loc → Prop}
    (hown : s.vm.findClass own = some m.cls) (w1 : (Cond.methodLink own index x).before a0 Z = true) (w2 : (Cond.sameMethod x.cls owner x.name x.desc).before a0 Z = true) (w2' : (Cond.declares ⟨owner, x.name, x.desc⟩).before a0 Z = true) (hy : owner ≠ "java/lang/invoke/MethodHandle" ∧ owner ≠ "java/lang/invoke/VarHandle") (w3 : (Cond.selects C x y).before a0 Z = true) (w4 : (Cond.instanceMethod y).before a0 Z = true) (w5 : (Cond.code y bytes maxL ret).before a0 Z = true) (w6 : (Cond.initialized y.cls).before a0 Z = true)
    (hM : Con l Z y bytes maxL ret [] rm as' h Q) (eT : T.heap = h) {a : Addr} (E : Exa Z h a C)
    {g : JFrame} (hg : g.method = m) (hsize : g.locals.size = c.maxLocals) {argsL rest : List Value} (has : as' = (Value.ref a :: argsL).toArray) (hlen : ∀ sig, parseMethodDescriptor x.desc = some sig → argsL.length = sig.parameters.length) (hs : g.stack = argsL.reverse ++ .ref a :: rest) {W : Nat} (hW : 2 * g.monitorRoom + (rest.map fun v => v.category).sum ≤ W)
    (hd : decode c.code g.pc = .ok (.invokevirtual index, 3)) (hf : rm.frames + 1 ≤ R.frames) (hl : W + (maxL + 11) + rm.locals ≤ R.locals) (hc : cells + rm.cells ≤ R.cells) (hsl : slots + rm.slots ≤ R.slots) :
    ∃ (v : Option Value) (T' : State) (h' : Heap) (Lc : List Loc), Stand p l e R s m args below meth c T' (locs ++ Lc) (cells + rm.cells) (slots + rm.slots) ∧ T'.heap = h' ∧ Q v h' Lc ∧
      ∀ target, Steps p.tables e below (T'.setTop { g with pc := g.pc + 3, stack := v.toList ++ rest }) target → Steps p.tables e below (T.setTop g) target := by
  obtain ⟨cq, kq, qa, qb, qc⟩ := isOf hZ eT E
  obtain ⟨v, _, ⟨T', L', k', n'⟩, -, X', ⟨Lc, hQ, hl', hk', hn'⟩, st⟩ := X.virtualBackUp hx (x := x) (y := y) hown (mvT hZ w1) (mvT hZ w2) (mvT hZ w2') hy (mvT hZ w3) (mvT hZ w4) (backOf (W := W) hM hZ w5 w6 hf hl) qa qc hg hsize (Steps.refl _) hlen hs hW hd (fun _ _ => ⟨has.symm, eT, hc, hsl⟩)
  dsimp only [Pt.U, Pt.locs, Pt.cells, Pt.slots] at X' hl' hk' hn' st hQ
  subst hl' hk' hn'
  exact ⟨v, T', _, Lc, X', rfl, hQ, fun t k => st.trans k⟩
theorem own_ne {a b : Nat} (h : a < b ∨ b < a) : a ≠ b := by omega
theorem own_fldL {args : Array Value} {t : Term} {a : Addr} {C n d : String} {k : Int64} (ev : t.eval args Z none [] Z = some (.ref a)) (q : (Cond.eq (.field t C n d) (.long k)).value args Z none Z [] = some true) : Fld Z Z.heap a C n d (.long k) := by
  apply Fld.start
  cases hv : Z.fieldOf? a C n d with
  | none => simp [Cond.value, fld_at ev, hv] at q
  | some v => cases v <;> simp only [Cond.value, fld_at ev, hv, long_at] at q <;> simp at q <;> subst q <;> rfl
theorem own_fldI {args : Array Value} {t : Term} {a : Addr} {C n d : String} {k : Int32} (ev : t.eval args Z none [] Z = some (.ref a)) (q : (Cond.eq (.field t C n d) (.int k)).value args Z none Z [] = some true) : Fld Z Z.heap a C n d (.int k) := by
  apply Fld.start
  cases hv : Z.fieldOf? a C n d with
  | none => simp [Cond.value, fld_at ev, hv] at q
  | some v => cases v <;> simp only [Cond.value, fld_at ev, hv, Term.int_eval] at q <;> simp at q <;> subst q <;> rfl
variable {vm0 : Vm}
abbrev ConW (l : Launch) (Z : State) (y : MethodName) (bytes : ByteArray) (maxL : Nat) (ret : Option FieldType) (ws : List Jvm.Cond) (rm : Room) (as' : Array Value) (h : Heap) (Q : Option Value → Heap → List Loc → Prop) : Prop :=
  MetFree l y (head1 (Jvm.Cond.code y bytes maxL ret :: ws) rm) (fun a U => a = as' ∧ Z.Warmed39 U.vm ∧ U.heap = h) (fun _ _ _ _ _ => True) (fun _ U o U' => ∃ v L, o = .returned v ∧ Q v U'.heap L ∧ ReturnedEndW U o U' L rm.cells rm.slots)
theorem own_callSW (X : Stand p l e R (s.setVm vm0) m args below meth c T locs cells slots) (hx : p.tables.exec = Jvm.exec) (hZ : Z.Warmed39 vm0) {own : String} {index : Nat} {y : MethodName} {bytes : ByteArray} {maxL : Nat} {ret : Option FieldType} {rm : Room} {as' : Array Value} {Q : Option Value → Heap → List Loc → Prop}
    (hown : vm0.findClass own = some m.cls) (w1 : (Cond.methodLink own index y).before a0 Z = true) (w2 : (Cond.static y).before a0 Z = true) (w3 : (Cond.initialized y.cls).before a0 Z = true) (w4 : (Cond.code y bytes maxL ret).before a0 Z = true)
    (hy : y.cls ≠ "java/lang/invoke/MethodHandle" ∧ y.cls ≠ "java/lang/invoke/VarHandle") (hM : ConW l Z y bytes maxL ret [] rm as' h Q) (eT : T.heap = h) {k0 : Nat} (hS : s.Since vm0 k0) (hk : k0 ≤ h.size)
    {g : JFrame} (hg : g.method = m) (hsize : g.locals.size = c.maxLocals) {argsL rest : List Value} (has : as' = argsL.toArray) (hlen : ∀ sig, parseMethodDescriptor y.desc = some sig → argsL.length = sig.parameters.length) (hs : g.stack = argsL.reverse ++ rest) {W : Nat} (hW : 2 * g.monitorRoom + (rest.map fun v => v.category).sum ≤ W)
    (hd : decode c.code g.pc = .ok (.invokestatic index, 3)) (hf : rm.frames + 1 ≤ R.frames) (hl : W + (maxL + 11) + rm.locals ≤ R.locals) (hc : cells + rm.cells ≤ R.cells) (hsl : slots + rm.slots ≤ R.slots) :
    ∃ (v : Option Value) (T' : State) (h' : Heap) (Lc : List Loc), Stand p l e R (s.setVm T'.vm) m args below meth c T' (locs ++ Lc) (cells + rm.cells) (slots + rm.slots) ∧ T'.heap = h' ∧ Q v h' Lc ∧ s.Since T'.vm h'.size ∧ Z.Warmed39 T'.vm ∧ T'.vm.findClass own = some m.cls ∧
      ∀ target, Steps p.tables e below (T'.setTop { g with pc := g.pc + 3, stack := v.toList ++ rest }) target → Steps p.tables e below (T.setTop g) target := by
  subst eT
  obtain ⟨v, vm₁, ⟨T', L', k', n'⟩, -, X', hS', hgr, ⟨Lc, hQ, hl', hk', hn'⟩, st⟩ := callSS (s := s.setVm vm0) X hx (y := y) hown (mvT (s := s.setVm vm0) hZ w1) (mvT (s := s.setVm vm0) hZ w2) (mvT (s := s.setVm vm0) hZ w3) (mvT (s := s.setVm vm0) hZ w4) hy (backOfS (s := s.setVm vm0) (W := W) hM hZ w4 w3 hf hl) hg hsize hlen hs hW hd (fun _ _ => ⟨has.symm, rfl, hc, hsl⟩)
  dsimp only [Pt.U, Pt.locs, Pt.cells, Pt.slots] at X' hl' hk' hn' st hQ hS' hgr
  subst hl' hk' hn'
  exact ⟨v, T', _, Lc, X', rfl, hQ, hS.trans hS' (Nat.le_trans hk hgr), State.Warmed39.trans (t := s.setVm vm0) hZ hS'.1, by rw [hS'.1.alike.findClass]; exact hown, fun t k => st.trans k⟩
theorem own_callCW (X : Stand p l e R (s.setVm vm0) m args below meth c T locs cells slots) (hx : p.tables.exec = Jvm.exec) (hZ : Z.Warmed39 vm0) {own : String} {index : Nat} {y : MethodName} {bytes : ByteArray} {maxL : Nat} {rm : Room} {as' : Array Value} {Q : Option Value → Heap → List Loc → Prop} (hy1 : y.name = "<init>")
    (hown : vm0.findClass own = some m.cls) (w1 : (Cond.methodLink own index y).before a0 Z = true) (w2 : (Cond.instanceMethod y).before a0 Z = true) (w3 : (Cond.initialized y.cls).before a0 Z = true) (w4 : (Cond.code y bytes maxL none).before a0 Z = true)
    (hy : y.cls ≠ "java/lang/invoke/MethodHandle" ∧ y.cls ≠ "java/lang/invoke/VarHandle") (hM : ConW l Z y bytes maxL none [] rm as' h Q) (eT : T.heap = h) {k0 : Nat} (hS : s.Since vm0 k0) (hk : k0 ≤ h.size) {a : Addr}
    {g : JFrame} (hg : g.method = m) (hsize : g.locals.size = c.maxLocals) {argsL rest : List Value} (has : as' = (Value.ref a :: argsL).toArray) (hlen : ∀ sig, parseMethodDescriptor y.desc = some sig → argsL.length = sig.parameters.length) (hs : g.stack = argsL.reverse ++ .ref a :: rest) {W : Nat} (hW : 2 * g.monitorRoom + (rest.map fun v => v.category).sum ≤ W)
    (hd : decode c.code g.pc = .ok (.invokespecial index, 3)) (hf : rm.frames + 1 ≤ R.frames) (hl : W + (maxL + 11) + rm.locals ≤ R.locals) (hc : cells + rm.cells ≤ R.cells) (hsl : slots + rm.slots ≤ R.slots) :
    ∃ (v : Option Value) (T' : State) (h' : Heap) (Lc : List Loc), Stand p l e R (s.setVm T'.vm) m args below meth c T' (locs ++ Lc) (cells + rm.cells) (slots + rm.slots) ∧ T'.heap = h' ∧ Q v h' Lc ∧ s.Since T'.vm h'.size ∧ Z.Warmed39 T'.vm ∧ T'.vm.findClass own = some m.cls ∧
      ∀ target, Steps p.tables e below (T'.setTop { g with pc := g.pc + 3, stack := v.toList ++ rest }) target → Steps p.tables e below (T.setTop g) target := by
  subst eT
  obtain ⟨v, vm₁, ⟨T', L', k', n'⟩, -, X', hS', hgr, ⟨Lc, hQ, hl', hk', hn'⟩, st⟩ := Jvm.Stand.specialBackS (s := s.setVm vm0) X hx (y := y) hy1 hown (mvT (s := s.setVm vm0) hZ w1) (mvT (s := s.setVm vm0) hZ w2) (mvT (s := s.setVm vm0) hZ w4) hy (backOfS (s := s.setVm vm0) (W := W) hM hZ w4 w3 hf hl) hg hsize (Steps.refl _) (a := a) hlen hs hW hd (fun _ _ => ⟨has.symm, rfl, hc, hsl⟩)
  dsimp only [Pt.U, Pt.locs, Pt.cells, Pt.slots] at X' hl' hk' hn' st hQ hS' hgr
  subst hl' hk' hn'
  exact ⟨v, T', _, Lc, X', rfl, hQ, hS.trans hS' (Nat.le_trans hk hgr), State.Warmed39.trans (t := s.setVm vm0) hZ hS'.1, by rw [hS'.1.alike.findClass]; exact hown, fun t k => st.trans k⟩
theorem own_callVW (X : Stand p l e R (s.setVm vm0) m args below meth c T locs cells slots) (hx : p.tables.exec = Jvm.exec) (hZ : Z.Warmed39 vm0) {own C : String} {index : Nat} {y z : MethodName} {bytes : ByteArray} {maxL : Nat} {ret : Option FieldType} {rm : Room} {as' : Array Value} {Q : Option Value → Heap → List Loc → Prop}
    (hown : vm0.findClass own = some m.cls) (w1 : (Cond.methodLink own index y).before a0 Z = true) (w2 : (Cond.declares y).before a0 Z = true) (nf : NotFace (s.setVm vm0) y) (w3 : (Cond.selects C y z).before a0 Z = true) (w4 : (Cond.instanceMethod z).before a0 Z = true) (w5 : (Cond.code z bytes maxL ret).before a0 Z = true) (w6 : (Cond.initialized z.cls).before a0 Z = true)
    (hy : y.cls ≠ "java/lang/invoke/MethodHandle" ∧ y.cls ≠ "java/lang/invoke/VarHandle") (hM : ConW l Z z bytes maxL ret [] rm as' h Q) (eT : T.heap = h) {k0 : Nat} (hS : s.Since vm0 k0) (hk : k0 ≤ h.size) {a : Addr} (E : Exa Z h a C)
    {g : JFrame} (hg : g.method = m) (hsize : g.locals.size = c.maxLocals) {argsL rest : List Value} (has : as' = (Value.ref a :: argsL).toArray) (hlen : ∀ sig, parseMethodDescriptor y.desc = some sig → argsL.length = sig.parameters.length) (hs : g.stack = argsL.reverse ++ .ref a :: rest) {W : Nat} (hW : 2 * g.monitorRoom + (rest.map fun v => v.category).sum ≤ W)
    (hd : decode c.code g.pc = .ok (.invokevirtual index, 3)) (hf : rm.frames + 1 ≤ R.frames) (hl : W + (maxL + 11) + rm.locals ≤ R.locals) (hc : cells + rm.cells ≤ R.cells) (hsl : slots + rm.slots ≤ R.slots) :
    ∃ (v : Option Value) (T' : State) (h' : Heap) (Lc : List Loc), Stand p l e R (s.setVm T'.vm) m args below meth c T' (locs ++ Lc) (cells + rm.cells) (slots + rm.slots) ∧ T'.heap = h' ∧ Q v h' Lc ∧ s.Since T'.vm h'.size ∧ Z.Warmed39 T'.vm ∧ T'.vm.findClass own = some m.cls ∧
      ∀ target, Steps p.tables e below (T'.setTop { g with pc := g.pc + 3, stack := v.toList ++ rest }) target → Steps p.tables e below (T.setTop g) target := by
  subst eT
  obtain ⟨cq, kq, qa, qb, qc⟩ := isOf (s := s.setVm vm0) hZ rfl E
  obtain ⟨v, vm₁, ⟨T', L', k', n'⟩, -, X', hS', hgr, ⟨Lc, hQ, hl', hk', hn'⟩, st⟩ := Jvm.Stand.virtualBackS (s := s.setVm vm0) X hx (y := y) (z := z) hown (mvT (s := s.setVm vm0) hZ w1) (mvT (s := s.setVm vm0) hZ w2) nf (mvT (s := s.setVm vm0) hZ w3) (mvT (s := s.setVm vm0) hZ w4) hy (backOfS (s := s.setVm vm0) (W := W) hM hZ w5 w6 hf hl) qa qc hg hsize (Steps.refl _) hlen hs hW hd (fun _ _ => ⟨has.symm, rfl, hc, hsl⟩)
  dsimp only [Pt.U, Pt.locs, Pt.cells, Pt.slots] at X' hl' hk' hn' st hQ hS' hgr
  subst hl' hk' hn'
  exact ⟨v, T', _, Lc, X', rfl, hQ, hS.trans hS' (Nat.le_trans hk hgr), State.Warmed39.trans (t := s.setVm vm0) hZ hS'.1, by rw [hS'.1.alike.findClass]; exact hown, fun t k => st.trans k⟩
theorem own_more {cells' slots' : Nat} (X : Stand p l e R s m args below meth c T locs cells slots) (h1 : cells ≤ cells') (h2 : slots ≤ slots') : Stand p l e R s m args below meth c T locs cells' slots' := { X with same := X.same.mono h1 h2 }
theorem own_arrKeep {h h' : Heap} {a : Addr} {cl : Cell} {ty : FieldType} {ws : List Addr} (A : Arr Z h a cl ty) (K : Keep h h' ws) (q : a ∉ ws) : Arr Z h' a cl ty := ⟨K.2.1 a cl A.1 q, A.2⟩
end OwnKit
def own_byte (c : Int64) (i : Int32) : Int32 := ((((c.toUInt64 >>> (((8 : Int32) * i) &&& 0x3f).toInt64.toUInt64).toInt64).toInt32).toInt8.toInt32)
theorem own_nb (x : Int32) : nar .byte (x.toInt8.toInt32) = x.toInt8.toInt32 := by
  show (x.toInt8.toInt32).toInt8.toInt32 = _
  rw [Int8.toInt8_toInt32]
theorem own_setOut {Z : State} {h : Heap} {a : Addr} {k : ClassId} {n i : Int32} {vs : List Value} {v : Value} (V : Arv Z h a k .byte n vs (.int (0 : Int32))) (hi : ¬ i < 0) (q : ¬ i < n) : Arv Z h a k .byte n (vs.set i.toNatClampNeg v) (.int (0 : Int32)) := by
  obtain ⟨c, A, q1, S, M, H, G⟩ := V
  have key : ∀ j, j < c.slots.size → (vs.set i.toNatClampNeg v).getD j (.int (0 : Int32)) = vs.getD j (.int (0 : Int32)) := fun j hj => by
    rw [S] at hj
    have : i.toNatClampNeg ≠ j := fun e => by
      have a1 := nat_of hi
      have a2 := nat_of M
      rw [Int32.lt_iff_toInt_lt] at q
      omega
    simp only [List.getD_eq_getElem?_getD, List.getElem?_set_ne this]
  exact ⟨c, A, q1, S, M, fun j hj => by rw [key j hj]; exact H j hj, fun j hj => by rw [key j hj]; exact G j hj⟩
theorem own_and7 (x : Int32) : 0 ≤ (x &&& (7 : Int32)).toInt ∧ (x &&& (7 : Int32)).toInt ≤ 7 := by
  have q := c_and x 7 (by decide)
  have : (7 : Int32).toInt = 7 := by decide
  exact ⟨by omega, by omega⟩
theorem pn_FrameBinaryPinLaw : plainName "com/example/blindhop/blindhop/wamp/FrameBinaryPinLaw" = true := by first | (simp [plainName, overriddenIn]; done) | decide +kernel
theorem ef_rm_byte (m : MethodId) (x0 : Int64) (x1 : Int32) : entryFrame m #[(.long x0), (.int x1)] 3 = mkF m 0 #[.val (.long x0), .second, .val (.int x1)] [] := by first | (simp [entryFrame, mkF, argsToLocals, Value.category]; done) | rfl
def Q_rm_byte (Z : State) (q : Int64) (i : Int32) (h0 : Heap) (n0 : Nat) (v : Option Value) (h : Heap) (L : List Loc) : Prop := (v = some (.int (own_byte q i))) ∧ (Fr n0 L) ∧ (h = h0)
theorem d10_0 : decode method_3_code 0 = .ok (.lload_n 0, 1) := by decide +kernel
theorem d10_1 : decode method_3_code 1 = .ok (.bipush 8, 2) := by decide +kernel
theorem d10_3 : decode method_3_code 3 = .ok (.iload_n 2, 1) := by decide +kernel
theorem d10_4 : decode method_3_code 4 = .ok (.imul, 1) := by decide +kernel
theorem d10_5 : decode method_3_code 5 = .ok (.lushr, 1) := by decide +kernel
theorem d10_6 : decode method_3_code 6 = .ok (.l2i, 1) := by decide +kernel
theorem d10_7 : decode method_3_code 7 = .ok (.i2b, 1) := by decide +kernel
theorem d10_8 : decode method_3_code 8 = .ok (.ireturn, 1) := by decide +kernel
set_option maxRecDepth 65536 in
set_option maxHeartbeats 40000000 in
theorem rm_byte (l : Launch) (Z : State) (a0 : Array Value) (hw : ∀ d ∈ tables_1, d.before a0 Z = true) (ws : List Jvm.Cond) (q : Int64) (i : Int32) (h0 : Heap) (n0 : Nat) (Z0 : n0 ≤ h0.size)  :
    Con l Z (⟨"com/example/blindhop/blindhop/wamp/FrameBinaryPinLaw", "byteAt", "(JI)B"⟩ : MethodName) method_3_code 3 (some .byte) ws ({ frames := 0, cells := 0, slots := 0, locals := 0 } : Room) #[(.long q), (.int i)] h0 (Q_rm_byte Z q i h0 n0) := by
  refine MetFree.of_bodySF (plainFor_of_name pn_FrameBinaryPinLaw) hisR ?_
  intro p e s m args below meth c s₁ Bd hml0 hP hK
  obtain ⟨rfl, hZ, hh⟩ := hP
  have hx := Bd.exec
  have hby := Bd.bytes
  have hml : c.maxLocals = 3 := hml0
  have hown : s.vm.findClass "com/example/blindhop/blindhop/wamp/FrameBinaryPinLaw" = some m.cls := findClass_of_methodNamed Bd.named
  have hnm := (name_of_methodNamed Bd.named Bd.method).1
  have X0 : Stand p l e ({ frames := 0, cells := 0, slots := 0, locals := 0 } : Room) s m #[(.long q), (.int i)] below meth c s₁ [] 0 0 := Stand.of_body Bd
  have e0 : s₁.heap = h0 := by rw [← hh, Bd.state]; rfl
  have N0 := Fr.nil n0
  have k0 : Rch p e below (s₁.setTop (entryFrame m #[(.long q), (.int i)] 3)) s₁ (mkF m 0 #[.val (.long q), .second, .val (.int i)] []) := fun tg kg => castTop (ef_rm_byte m q i) kg
  have k1 : Rch p e below (s₁.setTop (entryFrame m #[(.long q), (.int i)] 3)) s₁ (mkF m 8 #[.val (.long q), .second, .val (.int i)] [(.int ((((q.toUInt64 >>> (((8 : Int32) * i) &&& 0x3f).toInt64.toUInt64).toInt64).toInt32).toInt8.toInt32))]) := fun tg kg => by
    refine k0 tg ?_
    show Steps p.tables e below (s₁.setTop (mkF m 0 #[.val (.long q), .second, .val (.int i)] [])) tg
    refine XS.lloadN X0.here hx rfl (hb hby d10_0) rfl ?_
    show Steps p.tables e below (s₁.setTop (mkF m 1 #[.val (.long q), .second, .val (.int i)] [(.long q)])) tg
    refine XS.bipush X0.here hx rfl (hb hby d10_1) ?_
    show Steps p.tables e below (s₁.setTop (mkF m 3 #[.val (.long q), .second, .val (.int i)] [(.int (8 : Int32)), (.long q)])) tg
    refine XS.iloadN X0.here hx rfl (hb hby d10_3) rfl ?_
    show Steps p.tables e below (s₁.setTop (mkF m 4 #[.val (.long q), .second, .val (.int i)] [(.int i), (.int (8 : Int32)), (.long q)])) tg
    refine XS.imul X0.here hx rfl (hb hby d10_4) rfl ?_
    show Steps p.tables e below (s₁.setTop (mkF m 5 #[.val (.long q), .second, .val (.int i)] [(.int ((8 : Int32) * i)), (.long q)])) tg
    refine XS.lushr X0.here hx rfl (hb hby d10_5) rfl ?_
    show Steps p.tables e below (s₁.setTop (mkF m 6 #[.val (.long q), .second, .val (.int i)] [(.long ((q.toUInt64 >>> (((8 : Int32) * i) &&& 0x3f).toInt64.toUInt64).toInt64))])) tg
    refine XS.l2i X0.here hx rfl (hb hby d10_6) rfl ?_
    show Steps p.tables e below (s₁.setTop (mkF m 7 #[.val (.long q), .second, .val (.int i)] [(.int (((q.toUInt64 >>> (((8 : Int32) * i) &&& 0x3f).toInt64.toUInt64).toInt64).toInt32))])) tg
    refine XS.i2b X0.here hx rfl (hb hby d10_7) rfl ?_
    exact kg
  obtain ⟨fs2, hr2, hrun2, hended2, hW2, hsame2⟩ := X0.leave (v := some (.int (nar .byte ((((q.toUInt64 >>> (((8 : Int32) * i) &&& 0x3f).toInt64.toUInt64).toInt64).toInt32).toInt8.toInt32)))) (fun h => by rw [Bd.returns] at h; cases h)
  refine ⟨_, _, k1 _ ?_, hrun2, hended2, _, _, rfl, ?_, ⟨_, rfl⟩, hW2, hsame2.mono (by decide) (by decide)⟩
  · exact retN X0 hx (t := .byte) Bd.returns (by simp) (hb hby d10_8) hr2
  · show Q_rm_byte Z q i h0 n0 _ s₁.heap _
    rw [e0]
    exact ⟨(by rw [own_nb]; rfl), N0, rfl⟩
theorem ef_rm_put (m : MethodId) (x0 : Addr) (x1 : Int32) (x2 : Int64) : entryFrame m #[(.ref x0), (.int x1), (.long x2)] 4 = mkF m 0 #[.val (.ref x0), .val (.int x1), .val (.long x2), .second] [] := by first | (simp [entryFrame, mkF, argsToLocals, Value.category]; done) | rfl
def Q_rm_put (Z : State) (a : Addr) (i : Int32) (q : Int64) (n : Int32) (k : ClassId) (vs : List Value) (h0 : Heap) (n0 : Nat) (v : Option Value) (h : Heap) (L : List Loc) : Prop := (v = none) ∧ (Fr n0 L) ∧ (Keep h0 h [a]) ∧ (Arv Z h a k .byte n (vs.set i.toNatClampNeg (.int (own_byte q i))) (.int (0 : Int32)))
theorem d1_0 : decode method_4_code 0 = .ok (.iload_n 1, 1) := by decide +kernel
theorem d1_1 : decode method_4_code 1 = .ok (.aload_n 0, 1) := by decide +kernel
theorem d1_2 : decode method_4_code 2 = .ok (.arraylength, 1) := by decide +kernel
theorem d1_3 : decode method_4_code 3 = .ok (.if_icmp .ge 11, 3) := by decide +kernel
theorem d1_6 : decode method_4_code 6 = .ok (.aload_n 0, 1) := by decide +kernel
theorem d1_7 : decode method_4_code 7 = .ok (.iload_n 1, 1) := by decide +kernel
theorem d1_8 : decode method_4_code 8 = .ok (.lload_n 2, 1) := by decide +kernel
theorem d1_9 : decode method_4_code 9 = .ok (.iload_n 1, 1) := by decide +kernel
theorem pd_0 : parseMethodDescriptor "(JI)B" = some ⟨[.long, .int], some .byte⟩ := by decide +kernel
theorem d1_10 : decode method_4_code 10 = .ok (.invokestatic 35, 3) := by decide +kernel
theorem d1_13 : decode method_4_code 13 = .ok (.bastore, 1) := by decide +kernel
theorem d1_14 : decode method_4_code 14 = .ok (.return_, 1) := by decide +kernel
set_option maxRecDepth 65536 in
set_option maxHeartbeats 40000000 in
theorem rm_put (l : Launch) (Z : State) (a0 : Array Value) (hw : ∀ d ∈ tables_1, d.before a0 Z = true) (ws : List Jvm.Cond) (a : Addr) (i : Int32) (q : Int64) (n : Int32) (k : ClassId) (vs : List Value) (h0 : Heap) (n0 : Nat) (Z0 : n0 ≤ h0.size) (V_a : Arv Z h0 a k .byte n vs (.int (0 : Int32))) (hi0 : ¬ i < 0) (hi1 : i.toNatClampNeg < vs.length) (g_a : n0 ≤ a) :
    Con l Z (⟨"com/example/blindhop/blindhop/wamp/FrameBinaryPinLaw", "put", "([BIJ)V"⟩ : MethodName) method_4_code 4 none ws ({ frames := 1, cells := 0, slots := 0, locals := 16 } : Room) #[(.ref a), (.int i), (.long q)] h0 (Q_rm_put Z a i q n k vs h0 n0) := by
  refine MetFree.of_bodySF (plainFor_of_name pn_FrameBinaryPinLaw) hisR ?_
  intro p e s m args below meth c s₁ Bd hml0 hP hK
  obtain ⟨rfl, hZ, hh⟩ := hP
  have hx := Bd.exec
  have hby := Bd.bytes
  have hml : c.maxLocals = 4 := hml0
  have hown : s.vm.findClass "com/example/blindhop/blindhop/wamp/FrameBinaryPinLaw" = some m.cls := findClass_of_methodNamed Bd.named
  have hnm := (name_of_methodNamed Bd.named Bd.method).1
  have X0 : Stand p l e ({ frames := 1, cells := 0, slots := 0, locals := 16 } : Room) s m #[(.ref a), (.int i), (.long q)] below meth c s₁ [] 0 0 := Stand.of_body Bd
  have e0 : s₁.heap = h0 := by rw [← hh, Bd.state]; rfl
  have N0 := Fr.nil n0
  have k0 : Rch p e below (s₁.setTop (entryFrame m #[(.ref a), (.int i), (.long q)] 4)) s₁ (mkF m 0 #[.val (.ref a), .val (.int i), .val (.long q), .second] []) := fun tg kg => castTop (ef_rm_put m a i q) kg
  have lt_V_a := V_a.lt
  have k1 : Rch p e below (s₁.setTop (entryFrame m #[(.ref a), (.int i), (.long q)] 4)) s₁ (mkF m 2 #[.val (.ref a), .val (.int i), .val (.long q), .second] [(.ref a), (.int i)]) := fun tg kg => by
    refine k0 tg ?_
    show Steps p.tables e below (s₁.setTop (mkF m 0 #[.val (.ref a), .val (.int i), .val (.long q), .second] [])) tg
    refine XS.iloadN X0.here hx rfl (hb hby d1_0) rfl ?_
    show Steps p.tables e below (s₁.setTop (mkF m 1 #[.val (.ref a), .val (.int i), .val (.long q), .second] [(.int i)])) tg
    refine XS.aloadN X0.here hx rfl (hb hby d1_1) rfl rfl ?_
    exact kg
  obtain ⟨cl2, Ar2, q2, S2, M2, H2, G2⟩ := id V_a
  have k3 : Rch p e below (s₁.setTop (entryFrame m #[(.ref a), (.int i), (.long q)] 4)) s₁ (mkF m 3 #[.val (.ref a), .val (.int i), .val (.long q), .second] [(.int n), (.int i)]) := fun tg kg => by
    refine k1 tg ?_
    show Steps p.tables e below (s₁.setTop (mkF m 2 #[.val (.ref a), .val (.int i), .val (.long q), .second] [(.ref a), (.int i)])) tg
    refine X0.arraylength hx (by rw [e0]; exact Ar2.1) (State.isArrayOf_alike hZ.alike Ar2.2.1) (g := (mkF m 2 #[.val (.ref a), .val (.int i), .val (.long q), .second] [(.ref a), (.int i)])) rfl rfl (hb hby d1_2) _ ?_
    rw [len_of S2 M2]
    exact kg
  by_cases hc3_4 : i < n
  · have k5 : Rch p e below (s₁.setTop (entryFrame m #[(.ref a), (.int i), (.long q)] 4)) s₁ (mkF m 10 #[.val (.ref a), .val (.int i), .val (.long q), .second] [(.int i), (.long q), (.int i), (.ref a)]) := fun tg kg => by
      refine k3 tg ?_
      show Steps p.tables e below (s₁.setTop (mkF m 3 #[.val (.ref a), .val (.int i), .val (.long q), .second] [(.int n), (.int i)])) tg
      refine XS.icmpNo X0.here hx rfl (hb hby d1_3) rfl (tlt hc3_4).2.1 ?_
      show Steps p.tables e below (s₁.setTop (mkF m 6 #[.val (.ref a), .val (.int i), .val (.long q), .second] [])) tg
      refine XS.aloadN X0.here hx rfl (hb hby d1_6) rfl rfl ?_
      show Steps p.tables e below (s₁.setTop (mkF m 7 #[.val (.ref a), .val (.int i), .val (.long q), .second] [(.ref a)])) tg
      refine XS.iloadN X0.here hx rfl (hb hby d1_7) rfl ?_
      show Steps p.tables e below (s₁.setTop (mkF m 8 #[.val (.ref a), .val (.int i), .val (.long q), .second] [(.int i), (.ref a)])) tg
      refine XS.lloadN X0.here hx rfl (hb hby d1_8) rfl ?_
      show Steps p.tables e below (s₁.setTop (mkF m 9 #[.val (.ref a), .val (.int i), .val (.long q), .second] [(.long q), (.int i), (.ref a)])) tg
      refine XS.iloadN X0.here hx rfl (hb hby d1_9) rfl ?_
      exact kg
    obtain ⟨v6, T6, h6, Lc6, X6, e6, hQ6, st6⟩ := own_callS X0 hx hZ hown (hw _ (List.mem_of_getElem? (i := 52) rfl)) (hw _ (List.mem_of_getElem? (i := 53) rfl)) (hw _ (List.mem_of_getElem? (i := 3) rfl)) (hw _ (List.mem_of_getElem? (i := 54) rfl)) (by decide) (rm_byte l Z a0 hw [] q i h0 n0 (by omega) ) e0 (g := (mkF m 10 #[.val (.ref a), .val (.int i), .val (.long q), .second] [(.int i), (.long q), (.int i), (.ref a)])) rfl (by rw [hml]; rfl) (argsL := [(.long q), (.int i)]) (rest := [(.int i), (.ref a)]) rfl (lenOf pd_0 rfl) rfl (W := 2) (by show 2 * 0 + _ ≤ _; exact Nat.le_of_eq rfl) (hb hby d1_10) (by decide) (by decide) (by decide) (by decide)
    obtain ⟨rfl, Nq6, hs6⟩ := hQ6
    have N6 := Fr.app N0 Nq6
    have e6' : T6.heap = h0 := e6.trans hs6
    have k7 : Rch p e below (s₁.setTop (entryFrame m #[(.ref a), (.int i), (.long q)] 4)) T6 (mkF m 13 #[.val (.ref a), .val (.int i), .val (.long q), .second] [(.int (own_byte q i)), (.int i), (.ref a)]) := fun tg kg => k5 tg (st6 tg kg)
    obtain ⟨cl8, Ar8, q8, S8, M8, H8, G8⟩ := V_a
    have hin8 : ¬ (i < 0 ∨ cl8.slots.size ≤ (i).toNatClampNeg) := inb_of S8 ⟨hi0, hc3_4⟩
    obtain ⟨T8, h8, X8, e8, W8, st8⟩ := stB X6 hx hZ e6' Ar8 (j := i) hin8 (g := (mkF m 13 #[.val (.ref a), .val (.int i), .val (.long q), .second] [(.int (own_byte q i)), (.int i), (.ref a)])) rfl rfl (hb hby d1_13)
    rw [show nar .byte (own_byte q i) = own_byte q i from own_nb _] at W8
    have s8 : h8.size = h0.size := W8.size
    have N8 := Fr.snoc X8 N6 g_a
    have k9 : Rch p e below (s₁.setTop (entryFrame m #[(.ref a), (.int i), (.long q)] 4)) T8 (mkF m 14 #[.val (.ref a), .val (.int i), .val (.long q), .second] []) := fun tg kg => k7 tg (st8 tg kg)
    have V8 : Arv Z h8 a k .byte n (vs.set i.toNatClampNeg (.int (own_byte q i))) (.int (0 : Int32)) := Arv.set Ar8 q8 S8 M8 H8 G8 (fits_nar_byte _) W8 _ rfl hi1
    obtain ⟨fs10, hr10, hrun10, hended10, hW10, hsame10⟩ := X8.leave (v := none) (fun _ => rfl)
    refine ⟨_, _, k9 _ ?_, hrun10, hended10, _, _, rfl, ?_, ⟨_, rfl⟩, hW10, hsame10.mono (by decide) (by decide)⟩
    · exact X8.returnOut hx Bd.returns (hb hby d1_14) hr10
    · show Q_rm_put Z a i q n k vs h0 n0 _ T8.heap _
      rw [e8]
      exact ⟨rfl, N8, ((Keep.refl h0 [a]).wr W8 (Or.inl (List.mem_of_getElem? (i := 0) rfl))), V8⟩
  · have f11 : Arv Z h0 a k .byte n (vs.set i.toNatClampNeg (.int (own_byte q i))) (.int (0 : Int32)) := own_setOut V_a hi0 hc3_4
    have k12 : Rch p e below (s₁.setTop (entryFrame m #[(.ref a), (.int i), (.long q)] 4)) s₁ (mkF m 14 #[.val (.ref a), .val (.int i), .val (.long q), .second] []) := fun tg kg => by
      refine k3 tg ?_
      show Steps p.tables e below (s₁.setTop (mkF m 3 #[.val (.ref a), .val (.int i), .val (.long q), .second] [(.int n), (.int i)])) tg
      refine XS.icmpYes X0.here hx rfl (pc0 := 3) (pc' := 14) rfl (hb hby d1_3) rfl (flt hc3_4).2.1 (by decide) (by decide) ?_
      exact kg
    obtain ⟨fs13, hr13, hrun13, hended13, hW13, hsame13⟩ := X0.leave (v := none) (fun _ => rfl)
    refine ⟨_, _, k12 _ ?_, hrun13, hended13, _, _, rfl, ?_, ⟨_, rfl⟩, hW13, hsame13.mono (by decide) (by decide)⟩
    · exact X0.returnOut hx Bd.returns (hb hby d1_14) hr13
    · show Q_rm_put Z a i q n k vs h0 n0 _ s₁.heap _
      rw [e0]
      exact ⟨rfl, N0, (Keep.refl h0 [a]), f11⟩
theorem ef_rm_at (m : MethodId) (x0 : Addr) (x1 : Int32) (x2 : Int64) : entryFrame m #[(.ref x0), (.int x1), (.long x2)] 4 = mkF m 0 #[.val (.ref x0), .val (.int x1), .val (.long x2), .second] [] := by first | (simp [entryFrame, mkF, argsToLocals, Value.category]; done) | rfl
def Q_rm_at (Z : State) (a : Addr) (i : Int32) (q : Int64) (n : Int32) (k : ClassId) (vs : List Value) (h0 : Heap) (n0 : Nat) (v : Option Value) (h : Heap) (L : List Loc) : Prop := (v = some (.int (1 : Int32))) ∧ (Fr n0 L) ∧ (h = h0)
theorem d9_0 : decode method_5_code 0 = .ok (.iload_n 1, 1) := by decide +kernel
theorem d9_1 : decode method_5_code 1 = .ok (.aload_n 0, 1) := by decide +kernel
theorem d9_2 : decode method_5_code 2 = .ok (.arraylength, 1) := by decide +kernel
theorem d9_3 : decode method_5_code 3 = .ok (.if_icmp .ge 14, 3) := by decide +kernel
theorem d9_6 : decode method_5_code 6 = .ok (.aload_n 0, 1) := by decide +kernel
theorem d9_7 : decode method_5_code 7 = .ok (.iload_n 1, 1) := by decide +kernel
theorem d9_8 : decode method_5_code 8 = .ok (.baload, 1) := by decide +kernel
theorem d9_9 : decode method_5_code 9 = .ok (.lload_n 2, 1) := by decide +kernel
theorem d9_10 : decode method_5_code 10 = .ok (.iload_n 1, 1) := by decide +kernel
theorem d9_11 : decode method_5_code 11 = .ok (.invokestatic 35, 3) := by decide +kernel
theorem d9_14 : decode method_5_code 14 = .ok (.if_icmp .ne 7, 3) := by decide +kernel
theorem d9_17 : decode method_5_code 17 = .ok (.iconst 1, 1) := by decide +kernel
theorem d9_18 : decode method_5_code 18 = .ok (.goto 4, 3) := by decide +kernel
theorem d9_22 : decode method_5_code 22 = .ok (.ireturn, 1) := by decide +kernel
set_option maxRecDepth 65536 in
set_option maxHeartbeats 40000000 in
theorem rm_at (l : Launch) (Z : State) (a0 : Array Value) (hw : ∀ d ∈ tables_1, d.before a0 Z = true) (ws : List Jvm.Cond) (a : Addr) (i : Int32) (q : Int64) (n : Int32) (k : ClassId) (vs : List Value) (h0 : Heap) (n0 : Nat) (Z0 : n0 ≤ h0.size) (V_a : Arv Z h0 a k .byte n vs (.int (0 : Int32))) (hi0 : ¬ i < 0) (hv : vs.getD i.toNatClampNeg (.int (0 : Int32)) = .int (own_byte q i)) :
    Con l Z (⟨"com/example/blindhop/blindhop/wamp/FrameBinaryPinLaw", "at", "([BIJ)Z"⟩ : MethodName) method_5_code 4 (some .boolean) ws ({ frames := 1, cells := 0, slots := 0, locals := 15 } : Room) #[(.ref a), (.int i), (.long q)] h0 (Q_rm_at Z a i q n k vs h0 n0) := by
  refine MetFree.of_bodySF (plainFor_of_name pn_FrameBinaryPinLaw) hisR ?_
  intro p e s m args below meth c s₁ Bd hml0 hP hK
  obtain ⟨rfl, hZ, hh⟩ := hP
  have hx := Bd.exec
  have hby := Bd.bytes
  have hml : c.maxLocals = 4 := hml0
  have hown : s.vm.findClass "com/example/blindhop/blindhop/wamp/FrameBinaryPinLaw" = some m.cls := findClass_of_methodNamed Bd.named
  have hnm := (name_of_methodNamed Bd.named Bd.method).1
  have X0 : Stand p l e ({ frames := 1, cells := 0, slots := 0, locals := 15 } : Room) s m #[(.ref a), (.int i), (.long q)] below meth c s₁ [] 0 0 := Stand.of_body Bd
  have e0 : s₁.heap = h0 := by rw [← hh, Bd.state]; rfl
  have N0 := Fr.nil n0
  have k0 : Rch p e below (s₁.setTop (entryFrame m #[(.ref a), (.int i), (.long q)] 4)) s₁ (mkF m 0 #[.val (.ref a), .val (.int i), .val (.long q), .second] []) := fun tg kg => castTop (ef_rm_at m a i q) kg
  have lt_V_a := V_a.lt
  have k1 : Rch p e below (s₁.setTop (entryFrame m #[(.ref a), (.int i), (.long q)] 4)) s₁ (mkF m 2 #[.val (.ref a), .val (.int i), .val (.long q), .second] [(.ref a), (.int i)]) := fun tg kg => by
    refine k0 tg ?_
    show Steps p.tables e below (s₁.setTop (mkF m 0 #[.val (.ref a), .val (.int i), .val (.long q), .second] [])) tg
    refine XS.iloadN X0.here hx rfl (hb hby d9_0) rfl ?_
    show Steps p.tables e below (s₁.setTop (mkF m 1 #[.val (.ref a), .val (.int i), .val (.long q), .second] [(.int i)])) tg
    refine XS.aloadN X0.here hx rfl (hb hby d9_1) rfl rfl ?_
    exact kg
  obtain ⟨cl2, Ar2, q2, S2, M2, H2, G2⟩ := id V_a
  have k3 : Rch p e below (s₁.setTop (entryFrame m #[(.ref a), (.int i), (.long q)] 4)) s₁ (mkF m 3 #[.val (.ref a), .val (.int i), .val (.long q), .second] [(.int n), (.int i)]) := fun tg kg => by
    refine k1 tg ?_
    show Steps p.tables e below (s₁.setTop (mkF m 2 #[.val (.ref a), .val (.int i), .val (.long q), .second] [(.ref a), (.int i)])) tg
    refine X0.arraylength hx (by rw [e0]; exact Ar2.1) (State.isArrayOf_alike hZ.alike Ar2.2.1) (g := (mkF m 2 #[.val (.ref a), .val (.int i), .val (.long q), .second] [(.ref a), (.int i)])) rfl rfl (hb hby d9_2) _ ?_
    rw [len_of S2 M2]
    exact kg
  by_cases hc3_4 : i < n
  · have k5 : Rch p e below (s₁.setTop (entryFrame m #[(.ref a), (.int i), (.long q)] 4)) s₁ (mkF m 8 #[.val (.ref a), .val (.int i), .val (.long q), .second] [(.int i), (.ref a)]) := fun tg kg => by
      refine k3 tg ?_
      show Steps p.tables e below (s₁.setTop (mkF m 3 #[.val (.ref a), .val (.int i), .val (.long q), .second] [(.int n), (.int i)])) tg
      refine XS.icmpNo X0.here hx rfl (hb hby d9_3) rfl (tlt hc3_4).2.1 ?_
      show Steps p.tables e below (s₁.setTop (mkF m 6 #[.val (.ref a), .val (.int i), .val (.long q), .second] [])) tg
      refine XS.aloadN X0.here hx rfl (hb hby d9_6) rfl rfl ?_
      show Steps p.tables e below (s₁.setTop (mkF m 7 #[.val (.ref a), .val (.int i), .val (.long q), .second] [(.ref a)])) tg
      refine XS.iloadN X0.here hx rfl (hb hby d9_7) rfl ?_
      exact kg
    have hin : ¬ (i < 0 ∨ cl2.slots.size ≤ (i).toNatClampNeg) := inb_of S2 ⟨hi0, hc3_4⟩
    have hat := Has.at H2 hin hv
    have k6 : Rch p e below (s₁.setTop (entryFrame m #[(.ref a), (.int i), (.long q)] 4)) s₁ (mkF m 11 #[.val (.ref a), .val (.int i), .val (.long q), .second] [(.int i), (.long q), (.int (own_byte q i))]) := fun tg kg => by
      refine k5 tg ?_
      show Steps p.tables e below (s₁.setTop (mkF m 8 #[.val (.ref a), .val (.int i), .val (.long q), .second] [(.int i), (.ref a)])) tg
      refine X0.baloadBytes hx (j := i) (v := (.int (own_byte q i))) (by rw [e0]; exact Ar2.1) (State.isArrayOf_alike hZ.alike Ar2.2.1) Ar2.2.2 hin hat (g := (mkF m 8 #[.val (.ref a), .val (.int i), .val (.long q), .second] [(.int i), (.ref a)])) rfl rfl (hb hby d9_8) _ ?_
      show Steps p.tables e below (s₁.setTop (mkF m 9 #[.val (.ref a), .val (.int i), .val (.long q), .second] [(.int (own_byte q i))])) tg
      refine XS.lloadN X0.here hx rfl (hb hby d9_9) rfl ?_
      show Steps p.tables e below (s₁.setTop (mkF m 10 #[.val (.ref a), .val (.int i), .val (.long q), .second] [(.long q), (.int (own_byte q i))])) tg
      refine XS.iloadN X0.here hx rfl (hb hby d9_10) rfl ?_
      exact kg
    obtain ⟨v7, T7, h7, Lc7, X7, e7, hQ7, st7⟩ := own_callS X0 hx hZ hown (hw _ (List.mem_of_getElem? (i := 52) rfl)) (hw _ (List.mem_of_getElem? (i := 53) rfl)) (hw _ (List.mem_of_getElem? (i := 3) rfl)) (hw _ (List.mem_of_getElem? (i := 54) rfl)) (by decide) (rm_byte l Z a0 hw [] q i h0 n0 (by omega) ) e0 (g := (mkF m 11 #[.val (.ref a), .val (.int i), .val (.long q), .second] [(.int i), (.long q), (.int (own_byte q i))])) rfl (by rw [hml]; rfl) (argsL := [(.long q), (.int i)]) (rest := [(.int (own_byte q i))]) rfl (lenOf pd_0 rfl) rfl (W := 1) (by show 2 * 0 + _ ≤ _; exact Nat.le_of_eq rfl) (hb hby d9_11) (by decide) (by decide) (by decide) (by decide)
    obtain ⟨rfl, Nq7, hs7⟩ := hQ7
    have N7 := Fr.app N0 Nq7
    have e7' : T7.heap = h0 := e7.trans hs7
    have k8 : Rch p e below (s₁.setTop (entryFrame m #[(.ref a), (.int i), (.long q)] 4)) T7 (mkF m 14 #[.val (.ref a), .val (.int i), .val (.long q), .second] [(.int (own_byte q i)), (.int (own_byte q i))]) := fun tg kg => k6 tg (st7 tg kg)
    have k9 : Rch p e below (s₁.setTop (entryFrame m #[(.ref a), (.int i), (.long q)] 4)) T7 (mkF m 22 #[.val (.ref a), .val (.int i), .val (.long q), .second] [(.int (1 : Int32))]) := fun tg kg => by
      refine k8 tg ?_
      show Steps p.tables e below (T7.setTop (mkF m 14 #[.val (.ref a), .val (.int i), .val (.long q), .second] [(.int (own_byte q i)), (.int (own_byte q i))])) tg
      refine XS.icmpNo X7.here hx rfl (hb hby d9_14) rfl (teq rfl).2 ?_
      show Steps p.tables e below (T7.setTop (mkF m 17 #[.val (.ref a), .val (.int i), .val (.long q), .second] [])) tg
      refine XS.iconst X7.here hx rfl (hb hby d9_17) ?_
      show Steps p.tables e below (T7.setTop (mkF m 18 #[.val (.ref a), .val (.int i), .val (.long q), .second] [(.int (1 : Int32))])) tg
      refine XS.goto X7.here hx rfl (pc0 := 18) (pc' := 22) rfl (hb hby d9_18) (by decide) (by decide) ?_
      exact kg
    obtain ⟨fs10, hr10, hrun10, hended10, hW10, hsame10⟩ := X7.leave (v := some (.int (nar .boolean (1 : Int32)))) (fun h => by rw [Bd.returns] at h; cases h)
    refine ⟨_, _, k9 _ ?_, hrun10, hended10, _, _, rfl, ?_, ⟨_, rfl⟩, hW10, hsame10.mono (by decide) (by decide)⟩
    · exact retN X7 hx (t := .boolean) Bd.returns (by simp) (hb hby d9_22) hr10
    · show Q_rm_at Z a i q n k vs h0 n0 _ T7.heap _
      rw [e7']
      exact ⟨rfl, N7, rfl⟩
  · have k11 : Rch p e below (s₁.setTop (entryFrame m #[(.ref a), (.int i), (.long q)] 4)) s₁ (mkF m 22 #[.val (.ref a), .val (.int i), .val (.long q), .second] [(.int (1 : Int32))]) := fun tg kg => by
      refine k3 tg ?_
      show Steps p.tables e below (s₁.setTop (mkF m 3 #[.val (.ref a), .val (.int i), .val (.long q), .second] [(.int n), (.int i)])) tg
      refine XS.icmpYes X0.here hx rfl (pc0 := 3) (pc' := 17) rfl (hb hby d9_3) rfl (flt hc3_4).2.1 (by decide) (by decide) ?_
      show Steps p.tables e below (s₁.setTop (mkF m 17 #[.val (.ref a), .val (.int i), .val (.long q), .second] [])) tg
      refine XS.iconst X0.here hx rfl (hb hby d9_17) ?_
      show Steps p.tables e below (s₁.setTop (mkF m 18 #[.val (.ref a), .val (.int i), .val (.long q), .second] [(.int (1 : Int32))])) tg
      refine XS.goto X0.here hx rfl (pc0 := 18) (pc' := 22) rfl (hb hby d9_18) (by decide) (by decide) ?_
      exact kg
    obtain ⟨fs12, hr12, hrun12, hended12, hW12, hsame12⟩ := X0.leave (v := some (.int (nar .boolean (1 : Int32)))) (fun h => by rw [Bd.returns] at h; cases h)
    refine ⟨_, _, k11 _ ?_, hrun12, hended12, _, _, rfl, ?_, ⟨_, rfl⟩, hW12, hsame12.mono (by decide) (by decide)⟩
    · exact retN X0 hx (t := .boolean) Bd.returns (by simp) (hb hby d9_22) hr12
    · show Q_rm_at Z a i q n k vs h0 n0 _ s₁.heap _
      rw [e0]
      exact ⟨rfl, N0, rfl⟩
theorem pn_Objects : plainName "java/util/Objects" = true := by first | (simp [plainName, overriddenIn]; done) | decide +kernel
theorem ef_rm_rnn (m : MethodId) (x0 : Addr) (x1 : Addr) : entryFrame m #[(.ref x0), (.ref x1)] 2 = mkF m 0 #[.val (.ref x0), .val (.ref x1)] [] := by first | (simp [entryFrame, mkF, argsToLocals, Value.category]; done) | rfl
def Q_rm_rnn (Z : State) (a : Addr) (t : Addr) (h0 : Heap) (n0 : Nat) (v : Option Value) (h : Heap) (L : List Loc) : Prop := (v = some (.ref a)) ∧ (Fr n0 L) ∧ (h = h0)
theorem d3_0 : decode jdk_31_method_11_code 0 = .ok (.aload_n 0, 1) := by decide +kernel
theorem d3_1 : decode jdk_31_method_11_code 1 = .ok (.ifnonnull 12, 3) := by decide +kernel
theorem d3_13 : decode jdk_31_method_11_code 13 = .ok (.aload_n 0, 1) := by decide +kernel
theorem d3_14 : decode jdk_31_method_11_code 14 = .ok (.areturn, 1) := by decide +kernel
set_option maxRecDepth 65536 in
set_option maxHeartbeats 40000000 in
theorem rm_rnn (l : Launch) (Z : State) (a0 : Array Value) (hw : ∀ d ∈ tables_1, d.before a0 Z = true) (ws : List Jvm.Cond) (a : Addr) (t : Addr) (h0 : Heap) (n0 : Nat) (Z0 : n0 ≤ h0.size)  :
    Con l Z (⟨"java/util/Objects", "requireNonNull", "(Ljava/lang/Object;Ljava/lang/String;)Ljava/lang/Object;"⟩ : MethodName) jdk_31_method_11_code 2 (some (.object "java/lang/Object")) ws ({ frames := 0, cells := 0, slots := 0, locals := 0 } : Room) #[(.ref a), (.ref t)] h0 (Q_rm_rnn Z a t h0 n0) := by
  refine MetFree.of_bodySF (plainFor_of_name pn_Objects) hisR ?_
  intro p e s m args below meth c s₁ Bd hml0 hP hK
  obtain ⟨rfl, hZ, hh⟩ := hP
  have hx := Bd.exec
  have hby := Bd.bytes
  have hml : c.maxLocals = 2 := hml0
  have hown : s.vm.findClass "java/util/Objects" = some m.cls := findClass_of_methodNamed Bd.named
  have hnm := (name_of_methodNamed Bd.named Bd.method).1
  have X0 : Stand p l e ({ frames := 0, cells := 0, slots := 0, locals := 0 } : Room) s m #[(.ref a), (.ref t)] below meth c s₁ [] 0 0 := Stand.of_body Bd
  have e0 : s₁.heap = h0 := by rw [← hh, Bd.state]; rfl
  have N0 := Fr.nil n0
  have k0 : Rch p e below (s₁.setTop (entryFrame m #[(.ref a), (.ref t)] 2)) s₁ (mkF m 0 #[.val (.ref a), .val (.ref t)] []) := fun tg kg => castTop (ef_rm_rnn m a t) kg
  have k1 : Rch p e below (s₁.setTop (entryFrame m #[(.ref a), (.ref t)] 2)) s₁ (mkF m 14 #[.val (.ref a), .val (.ref t)] [(.ref a)]) := fun tg kg => by
    refine k0 tg ?_
    show Steps p.tables e below (s₁.setTop (mkF m 0 #[.val (.ref a), .val (.ref t)] [])) tg
    refine XS.aloadN X0.here hx rfl (hb hby d3_0) rfl rfl ?_
    show Steps p.tables e below (s₁.setTop (mkF m 1 #[.val (.ref a), .val (.ref t)] [(.ref a)])) tg
    refine XS.ifnonnullYes X0.here hx rfl (pc0 := 1) (pc' := 13) rfl (hb hby d3_1) rfl (by decide) (by decide) ?_
    show Steps p.tables e below (s₁.setTop (mkF m 13 #[.val (.ref a), .val (.ref t)] [])) tg
    refine XS.aloadN X0.here hx rfl (hb hby d3_13) rfl rfl ?_
    exact kg
  obtain ⟨fs2, hr2, hrun2, hended2, hW2, hsame2⟩ := X0.leave (v := some (.ref a)) (fun h => by rw [Bd.returns] at h; cases h)
  refine ⟨_, _, k1 _ ?_, hrun2, hended2, _, _, rfl, ?_, ⟨_, rfl⟩, hW2, hsame2.mono (by decide) (by decide)⟩
  · exact retOut X0 hx Bd.returns rfl (Or.inr (Or.inr (Or.inr (Or.inr ⟨rfl, rfl, rfl⟩)))) (hb hby d3_14) hr2
  · show Q_rm_rnn Z a t h0 n0 _ s₁.heap _
    rw [e0]
    exact ⟨rfl, N0, rfl⟩
theorem pn_Frame : plainName "com/example/blindhop/blindhop/wamp/Frame" = true := by first | (simp [plainName, overriddenIn]; done) | decide +kernel
theorem ef_rm_init (m : MethodId) (x0 : Addr) (x2 : Addr) : entryFrame m #[(.ref x0), .null, (.ref x2)] 3 = mkF m 0 #[.val (.ref x0), .val .null, .val (.ref x2)] [] := by first | (simp [entryFrame, mkF, argsToLocals, Value.category]; done) | rfl
def Q_rm_init (Z : State) (a : Addr) (b : Addr) (u : Value) (u' : Value) (h0 : Heap) (n0 : Nat) (v : Option Value) (h : Heap) (L : List Loc) : Prop := (v = none) ∧ (Fr n0 L) ∧ (Keep h0 h [a]) ∧ (Exa Z h a "com/example/blindhop/blindhop/wamp/Frame") ∧ (Fld Z h a "com/example/blindhop/blindhop/wamp/Frame" "bytes" "[B" (.ref b))
theorem d4_0 : decode prog_15_method_1_code 0 = .ok (.aload_n 0, 1) := by decide +kernel
theorem d4_1 : decode prog_15_method_1_code 1 = .ok (.invokespecial 1, 3) := by decide +kernel
theorem d4_4 : decode prog_15_method_1_code 4 = .ok (.aload_n 0, 1) := by decide +kernel
theorem d4_5 : decode prog_15_method_1_code 5 = .ok (.aload_n 1, 1) := by decide +kernel
theorem d4_6 : decode prog_15_method_1_code 6 = .ok (.putfield 7, 3) := by decide +kernel
theorem d4_9 : decode prog_15_method_1_code 9 = .ok (.aload_n 0, 1) := by decide +kernel
theorem d4_10 : decode prog_15_method_1_code 10 = .ok (.aload_n 2, 1) := by decide +kernel
theorem d4_11 : decode prog_15_method_1_code 11 = .ok (.putfield 13, 3) := by decide +kernel
theorem d4_14 : decode prog_15_method_1_code 14 = .ok (.return_, 1) := by decide +kernel
set_option maxRecDepth 65536 in
set_option maxHeartbeats 40000000 in
theorem rm_init (l : Launch) (Z : State) (a0 : Array Value) (hw : ∀ d ∈ tables_1, d.before a0 Z = true) (ws : List Jvm.Cond) (a : Addr) (b : Addr) (u : Value) (u' : Value) (h0 : Heap) (n0 : Nat) (Z0 : n0 ≤ h0.size) (E_a : Exa Z h0 a "com/example/blindhop/blindhop/wamp/Frame") (F_1 : Fld Z h0 a "com/example/blindhop/blindhop/wamp/Frame" "text" "Ljava/lang/String;" u) (F_2 : Fld Z h0 a "com/example/blindhop/blindhop/wamp/Frame" "bytes" "[B" u') (g_a : n0 ≤ a) :
    Con l Z (⟨"com/example/blindhop/blindhop/wamp/Frame", "<init>", "(Ljava/lang/String;[B)V"⟩ : MethodName) prog_15_method_1_code 3 none ws ({ frames := 1, cells := 0, slots := 0, locals := 12 } : Room) #[(.ref a), .null, (.ref b)] h0 (Q_rm_init Z a b u u' h0 n0) := by
  refine MetFree.of_bodySF (plainFor_of_name pn_Frame) hisR ?_
  intro p e s m args below meth c s₁ Bd hml0 hP hK
  obtain ⟨rfl, hZ, hh⟩ := hP
  have hx := Bd.exec
  have hby := Bd.bytes
  have hml : c.maxLocals = 3 := hml0
  have hown : s.vm.findClass "com/example/blindhop/blindhop/wamp/Frame" = some m.cls := findClass_of_methodNamed Bd.named
  have hnm := (name_of_methodNamed Bd.named Bd.method).1
  have X0 : Stand p l e ({ frames := 1, cells := 0, slots := 0, locals := 12 } : Room) s m #[(.ref a), .null, (.ref b)] below meth c s₁ [] 0 0 := Stand.of_body Bd
  have e0 : s₁.heap = h0 := by rw [← hh, Bd.state]; rfl
  have N0 := Fr.nil n0
  have k0 : Rch p e below (s₁.setTop (entryFrame m #[(.ref a), .null, (.ref b)] 3)) s₁ (mkF m 0 #[.val (.ref a), .val .null, .val (.ref b)] []) := fun tg kg => castTop (ef_rm_init m a b) kg
  have lt_E_a := E_a.lt
  have lt_F_1 := F_1.lt
  have lt_F_2 := F_2.lt
  have k1 : Rch p e below (s₁.setTop (entryFrame m #[(.ref a), .null, (.ref b)] 3)) s₁ (mkF m 1 #[.val (.ref a), .val .null, .val (.ref b)] [(.ref a)]) := fun tg kg => by
    refine k0 tg ?_
    show Steps p.tables e below (s₁.setTop (mkF m 0 #[.val (.ref a), .val .null, .val (.ref b)] [])) tg
    refine XS.aloadN X0.here hx rfl (hb hby d4_0) rfl rfl ?_
    exact kg
  obtain ⟨T2, X2, e2, st2⟩ := initO X0 hx hZ hown (hw _ (List.mem_of_getElem? (i := 27) rfl)) (hw _ (List.mem_of_getElem? (i := 28) rfl)) (hw _ (List.mem_of_getElem? (i := 29) rfl)) e0 (g := (mkF m 1 #[.val (.ref a), .val .null, .val (.ref b)] [(.ref a)])) rfl (by rw [hml]; rfl) rfl (hb hby d4_1) (by decide) (W := 0) (by show 2 * 0 + _ ≤ _; exact Nat.le_of_eq rfl) (by decide)
  have k3 : Rch p e below (s₁.setTop (entryFrame m #[(.ref a), .null, (.ref b)] 3)) T2 (mkF m 4 #[.val (.ref a), .val .null, .val (.ref b)] []) := fun tg kg => k1 tg (st2 tg kg)
  have k4 : Rch p e below (s₁.setTop (entryFrame m #[(.ref a), .null, (.ref b)] 3)) T2 (mkF m 6 #[.val (.ref a), .val .null, .val (.ref b)] [.null, (.ref a)]) := fun tg kg => by
    refine k3 tg ?_
    show Steps p.tables e below (T2.setTop (mkF m 4 #[.val (.ref a), .val .null, .val (.ref b)] [])) tg
    refine XS.aloadN X2.here hx rfl (hb hby d4_4) rfl rfl ?_
    show Steps p.tables e below (T2.setTop (mkF m 5 #[.val (.ref a), .val .null, .val (.ref b)] [(.ref a)])) tg
    refine XS.aloadN X2.here hx rfl (hb hby d4_5) rfl rfl ?_
    exact kg
  obtain ⟨T5, h5, X5, e5, W5, st5⟩ := putF X2 hx hZ hown (host := "") (Or.inl (hw _ (List.mem_of_getElem? (i := 30) rfl))) Via.refl e2 F_1 E_a (Or.inr ⟨(hw _ (List.mem_of_getElem? (i := 31) rfl)), rfl, hnm⟩) (hw _ (List.mem_of_getElem? (i := 10) rfl)) (ty := (.object "java/lang/String")) (by decide) rfl rfl (g := (mkF m 6 #[.val (.ref a), .val .null, .val (.ref b)] [.null, (.ref a)])) rfl rfl (hb hby d4_6)
  have Fw5 := F_1.same W5
  have s5 : h5.size = h0.size := W5.size
  have N5 := Fr.snoc X5 N0 (by omega : n0 ≤ a)
  have k6 : Rch p e below (s₁.setTop (entryFrame m #[(.ref a), .null, (.ref b)] 3)) T5 (mkF m 9 #[.val (.ref a), .val .null, .val (.ref b)] []) := fun tg kg => k4 tg (st5 tg kg)
  have k7 : Rch p e below (s₁.setTop (entryFrame m #[(.ref a), .null, (.ref b)] 3)) T5 (mkF m 11 #[.val (.ref a), .val .null, .val (.ref b)] [(.ref b), (.ref a)]) := fun tg kg => by
    refine k6 tg ?_
    show Steps p.tables e below (T5.setTop (mkF m 9 #[.val (.ref a), .val .null, .val (.ref b)] [])) tg
    refine XS.aloadN X5.here hx rfl (hb hby d4_9) rfl rfl ?_
    show Steps p.tables e below (T5.setTop (mkF m 10 #[.val (.ref a), .val .null, .val (.ref b)] [(.ref a)])) tg
    refine XS.aloadN X5.here hx rfl (hb hby d4_10) rfl rfl ?_
    exact kg
  have f8 : Fld Z h5 a "com/example/blindhop/blindhop/wamp/Frame" "bytes" "[B" u' := (F_2.other W5 (Or.inr (slot_ne (Or.inr (hw _ (List.mem_of_getElem? (i := 33) rfl))) (Or.inr (hw _ (List.mem_of_getElem? (i := 31) rfl))) (by decide) (t := (.array .byte)) (t' := (.object "java/lang/String")) (by decide) (by decide))))
  have f9 : Exa Z h5 a "com/example/blindhop/blindhop/wamp/Frame" := (E_a.wr W5)
  obtain ⟨T10, h10, X10, e10, W10, st10⟩ := putF X5 hx hZ hown (host := "") (Or.inl (hw _ (List.mem_of_getElem? (i := 32) rfl))) Via.refl e5 f8 f9 (Or.inr ⟨(hw _ (List.mem_of_getElem? (i := 33) rfl)), rfl, hnm⟩) (hw _ (List.mem_of_getElem? (i := 10) rfl)) (ty := (.array .byte)) (by decide) rfl rfl (g := (mkF m 11 #[.val (.ref a), .val .null, .val (.ref b)] [(.ref b), (.ref a)])) rfl rfl (hb hby d4_11)
  have Fw10 := f8.same W10
  have s10 : h10.size = h5.size := W10.size
  have N10 := Fr.snoc X10 N5 (by omega : n0 ≤ a)
  have k11 : Rch p e below (s₁.setTop (entryFrame m #[(.ref a), .null, (.ref b)] 3)) T10 (mkF m 14 #[.val (.ref a), .val .null, .val (.ref b)] []) := fun tg kg => k7 tg (st10 tg kg)
  have f12 : Exa Z h10 a "com/example/blindhop/blindhop/wamp/Frame" := (f9.wr W10)
  obtain ⟨fs13, hr13, hrun13, hended13, hW13, hsame13⟩ := X10.leave (v := none) (fun _ => rfl)
  refine ⟨_, _, k11 _ ?_, hrun13, hended13, _, _, rfl, ?_, ⟨_, rfl⟩, hW13, hsame13.mono (by decide) (by decide)⟩
  · exact X10.returnOut hx Bd.returns (hb hby d4_14) hr13
  · show Q_rm_init Z a b u u' h0 n0 _ T10.heap _
    rw [e10]
    exact ⟨rfl, N10, (((Keep.refl h0 [a]).wr W5 (Or.inl (List.mem_of_getElem? (i := 0) rfl))).wr W10 (Or.inl (List.mem_of_getElem? (i := 0) rfl))), f12, Fw10⟩
theorem ef_rm_bin (m : MethodId) (x0 : Addr) : entryFrame m #[(.ref x0)] 1 = mkF m 0 #[.val (.ref x0)] [] := by first | (simp [entryFrame, mkF, argsToLocals, Value.category]; done) | rfl
def Q_rm_bin (Z : State) (b : Addr) (h0 : Heap) (n0 : Nat) (v : Option Value) (h : Heap) (L : List Loc) : Prop := ∃ (f : Addr), (v = some (.ref f)) ∧ (Fr n0 L) ∧ (Keep h0 h []) ∧ (h0.size ≤ f) ∧ (Exa Z h f "com/example/blindhop/blindhop/wamp/Frame") ∧ (Fld Z h f "com/example/blindhop/blindhop/wamp/Frame" "bytes" "[B" (.ref b))
theorem d2_0 : decode prog_15_method_3_code 0 = .ok (.new 8, 3) := by decide +kernel
theorem d2_3 : decode prog_15_method_3_code 3 = .ok (.dup, 1) := by decide +kernel
theorem d2_4 : decode prog_15_method_3_code 4 = .ok (.aconst_null, 1) := by decide +kernel
theorem d2_5 : decode prog_15_method_3_code 5 = .ok (.aload_n 0, 1) := by decide +kernel
theorem d2_6 : decode prog_15_method_3_code 6 = .ok (.ldc 29, 2) := by decide +kernel
theorem pd_1 : parseMethodDescriptor "(Ljava/lang/Object;Ljava/lang/String;)Ljava/lang/Object;" = some ⟨[(.object "java/lang/Object"), (.object "java/lang/String")], some (.object "java/lang/Object")⟩ := by decide +kernel
theorem d2_8 : decode prog_15_method_3_code 8 = .ok (.invokestatic 18, 3) := by decide +kernel
theorem d2_11 : decode prog_15_method_3_code 11 = .ok (.checkcast 30, 3) := by decide +kernel
theorem pd_2 : parseMethodDescriptor "(Ljava/lang/String;[B)V" = some ⟨[(.object "java/lang/String"), (.array .byte)], none⟩ := by decide +kernel
theorem d2_14 : decode prog_15_method_3_code 14 = .ok (.invokespecial 26, 3) := by decide +kernel
theorem d2_17 : decode prog_15_method_3_code 17 = .ok (.areturn, 1) := by decide +kernel
set_option maxRecDepth 65536 in
set_option maxHeartbeats 40000000 in
theorem rm_bin (l : Launch) (Z : State) (a0 : Array Value) (hw : ∀ d ∈ tables_1, d.before a0 Z = true) (ws : List Jvm.Cond) (b : Addr) (h0 : Heap) (n0 : Nat) (Z0 : n0 ≤ h0.size) (E_b : Exa Z h0 b "[B") :
    ConW l Z (⟨"com/example/blindhop/blindhop/wamp/Frame", "binary", "([B)Lcom/example/blindhop/blindhop/wamp/Frame;"⟩ : MethodName) prog_15_method_3_code 1 (some (.object "com/example/blindhop/blindhop/wamp/Frame")) ws ({ frames := 2, cells := 3, slots := 26, locals := 27 } : Room) #[(.ref b)] h0 (Q_rm_bin Z b h0 n0) := by
  refine MetFree.of_bodySF (plainFor_of_name pn_Frame) hisR ?_
  intro p e s m args below meth c s₁ Bd hml0 hP hK
  obtain ⟨rfl, hZ, hh⟩ := hP
  have hx := Bd.exec
  have hby := Bd.bytes
  have hml : c.maxLocals = 1 := hml0
  have hown : s.vm.findClass "com/example/blindhop/blindhop/wamp/Frame" = some m.cls := findClass_of_methodNamed Bd.named
  have hnm := (name_of_methodNamed Bd.named Bd.method).1
  have X0 : Stand p l e ({ frames := 2, cells := 3, slots := 26, locals := 27 } : Room) s m #[(.ref b)] below meth c s₁ [] 0 0 := Stand.of_body Bd
  have e0 : s₁.heap = h0 := by rw [← hh, Bd.state]; rfl
  have N0 := Fr.nil n0
  have X0' : Stand p l e ({ frames := 2, cells := 3, slots := 26, locals := 27 } : Room) (s.setVm s.vm) m #[(.ref b)] below meth c s₁ [] 0 0 := X0
  have hS0 : s.Since s.vm h0.size := State.WarmedH.since (State.WarmedH.refl s) _
  have wS : ∀ d ∈ Bundle.stringAtoms, d.before a0 Z = true := fun d hd => hw d ((by decide +kernel : ∀ d ∈ Bundle.stringAtoms, d ∈ tables_1) d hd)
  have k0 : Rch p e below (s₁.setTop (entryFrame m #[(.ref b)] 1)) s₁ (mkF m 0 #[.val (.ref b)] []) := fun tg kg => castTop (ef_rm_bin m b) kg
  have lt_E_b := E_b.lt
  obtain ⟨T1, h1, X1, e1, E1, A1, D1, -, st1⟩ := newO X0' hx hZ hown (hw _ (List.mem_of_getElem? (i := 9) rfl)) (hw _ (List.mem_of_getElem? (i := 10) rfl)) (hw _ (List.mem_of_getElem? (i := 7) rfl)) e0 (g := (mkF m 0 #[.val (.ref b)] [])) rfl (hb hby d2_0) (by decide) (by decide)
  obtain ⟨b1, g1⟩ : ∃ z, z = h0.size := ⟨_, rfl⟩
  rw [← g1] at A1 D1 st1
  have s1 : h0.size ≤ h1.size := E1.1
  have lt1 : b1 < h1.size := A1.lt
  have k2 : Rch p e below (s₁.setTop (entryFrame m #[(.ref b)] 1)) T1 (mkF m 3 #[.val (.ref b)] [(.ref b1)]) := fun tg kg => k0 tg (st1 tg kg)
  have F1_text : Fld Z h1 b1 "com/example/blindhop/blindhop/wamp/Frame" "text" "Ljava/lang/String;" .null := D1 (Or.inr (hw _ (List.mem_of_getElem? (i := 31) rfl))) (ty := (.object "java/lang/String")) (by decide)
  have F1_bytes : Fld Z h1 b1 "com/example/blindhop/blindhop/wamp/Frame" "bytes" "[B" .null := D1 (Or.inr (hw _ (List.mem_of_getElem? (i := 33) rfl))) (ty := (.array .byte)) (by decide)
  have k3 : Rch p e below (s₁.setTop (entryFrame m #[(.ref b)] 1)) T1 (mkF m 6 #[.val (.ref b)] [(.ref b), .null, (.ref b1), (.ref b1)]) := fun tg kg => by
    refine k2 tg ?_
    show Steps p.tables e below (T1.setTop (mkF m 3 #[.val (.ref b)] [(.ref b1)])) tg
    refine XS.dup X1.here hx rfl (hb hby d2_3) rfl rfl ?_
    show Steps p.tables e below (T1.setTop (mkF m 4 #[.val (.ref b)] [(.ref b1), (.ref b1)])) tg
    refine XS.aconstNull X1.here hx rfl (hb hby d2_4) ?_
    show Steps p.tables e below (T1.setTop (mkF m 5 #[.val (.ref b)] [.null, (.ref b1), (.ref b1)])) tg
    refine XS.aloadN X1.here hx rfl (hb hby d2_5) rfl rfl ?_
    exact kg
  obtain ⟨lit4, T4, h4, k1_4, X4, e4, E4, hS4, hk4, hZ4, hown4, st4⟩ := ldcS (s := s) X1 hx hZ hown (hw _ (List.mem_of_getElem? (i := 11) rfl)) wS e1 hS0 (by first | exact Nat.le_refl _ | omega) (g := (mkF m 6 #[.val (.ref b)] [(.ref b), .null, (.ref b1), (.ref b1)])) rfl (hb hby d2_6) (n := 20) (by decide) (by decide) (by decide) (by decide)
  have s4 : h1.size ≤ h4.size := E4.1
  have k5 : Rch p e below (s₁.setTop (entryFrame m #[(.ref b)] 1)) T4 (mkF m 8 #[.val (.ref b)] [(.ref lit4), (.ref b), .null, (.ref b1), (.ref b1)]) := fun tg kg => k3 tg (st4 tg kg)
  obtain ⟨v6, T6, h6, Lc6, X6, e6, hQ6, st6⟩ := own_callS X4 hx hZ4 hown4 (hw _ (List.mem_of_getElem? (i := 18) rfl)) (hw _ (List.mem_of_getElem? (i := 19) rfl)) (hw _ (List.mem_of_getElem? (i := 20) rfl)) (hw _ (List.mem_of_getElem? (i := 21) rfl)) (by decide) (rm_rnn l Z a0 hw [] b lit4 h4 n0 (by omega) ) e4 (g := (mkF m 8 #[.val (.ref b)] [(.ref lit4), (.ref b), .null, (.ref b1), (.ref b1)])) rfl (by rw [hml]; rfl) (argsL := [(.ref b), (.ref lit4)]) (rest := [.null, (.ref b1), (.ref b1)]) rfl (lenOf pd_1 rfl) rfl (W := 3) (by show 2 * 0 + _ ≤ _; exact Nat.le_of_eq rfl) (hb hby d2_8) (by decide) (by decide) (by decide) (by decide)
  obtain ⟨rfl, Nq6, hs6⟩ := hQ6
  have N6 := Fr.app N0 Nq6
  have e6' : T6.heap = h4 := e6.trans hs6
  have k7 : Rch p e below (s₁.setTop (entryFrame m #[(.ref b)] 1)) T6 (mkF m 11 #[.val (.ref b)] [(.ref b), .null, (.ref b1), (.ref b1)]) := fun tg kg => k5 tg (st6 tg kg)
  have f9 : Exa Z h4 b "[B" := ((E_b.ext E1).ext E4)
  obtain ⟨T8, X8, e8, st8⟩ := castY X6 hx hZ4 hown4 (hw _ (List.mem_of_getElem? (i := 22) rfl)) e6' (Ins.self f9) (g := (mkF m 11 #[.val (.ref b)] [(.ref b), .null, (.ref b1), (.ref b1)])) rfl rfl (hb hby d2_11)
  have k10 : Rch p e below (s₁.setTop (entryFrame m #[(.ref b)] 1)) T8 (mkF m 14 #[.val (.ref b)] [(.ref b), .null, (.ref b1), (.ref b1)]) := fun tg kg => k7 tg (st8 tg kg)
  have f12 : Exa Z h4 b1 "com/example/blindhop/blindhop/wamp/Frame" := (A1.ext E4)
  have f13 : Fld Z h4 b1 "com/example/blindhop/blindhop/wamp/Frame" "text" "Ljava/lang/String;" .null := (F1_text.ext E4)
  have f14 : Fld Z h4 b1 "com/example/blindhop/blindhop/wamp/Frame" "bytes" "[B" .null := (F1_bytes.ext E4)
  obtain ⟨v11, T11, h11, Lc11, X11, e11, hQ11, st11⟩ := own_callC X8 hx hZ4 rfl hown4 (hw _ (List.mem_of_getElem? (i := 24) rfl)) (hw _ (List.mem_of_getElem? (i := 25) rfl)) (hw _ (List.mem_of_getElem? (i := 7) rfl)) (hw _ (List.mem_of_getElem? (i := 26) rfl)) (by decide) (rm_init l Z a0 hw [] b1 b .null .null h4 n0 (by omega) f12 f13 f14 (by omega)) e8 (a := b1) (g := (mkF m 14 #[.val (.ref b)] [(.ref b), .null, (.ref b1), (.ref b1)])) rfl (by rw [hml]; rfl) (argsL := [.null, (.ref b)]) (rest := [(.ref b1)]) rfl (lenOf pd_2 rfl) rfl (W := 1) (by show 2 * 0 + _ ≤ _; exact Nat.le_of_eq rfl) (hb hby d2_14) (by decide) (by decide) (by decide) (by decide)
  obtain ⟨rfl, Nq11, K11, fq11_3, fq11_4⟩ := hQ11
  have N11 := Fr.app N6 Nq11
  have s11 : h4.size ≤ h11.size := K11.1
  have k15 : Rch p e below (s₁.setTop (entryFrame m #[(.ref b)] 1)) T11 (mkF m 17 #[.val (.ref b)] [(.ref b1)]) := fun tg kg => k10 tg (st11 tg kg)
  have lt_fq11_3 := fq11_3.lt
  have lt_fq11_4 := fq11_4.lt
  obtain ⟨fs16, hr16, hrun16, hended16, hEnd16⟩ := X11.leaveW hS4 (by rw [e11]; first | exact Nat.le_refl _ | omega) (v := some (.ref b1)) (fun h => by rw [Bd.returns] at h; cases h)
  refine ⟨_, _, k15 _ ?_, hrun16, hended16, _, _, rfl, ?_, hEnd16.1, hEnd16.2.1, hEnd16.2.2.1, hEnd16.2.2.2.mono (by decide) (by decide)⟩
  · exact retOut X11 hx Bd.returns rfl (Or.inr (Or.inr (Or.inr (Or.inr ⟨rfl, rfl, rfl⟩)))) (hb hby d2_17) hr16
  · show Q_rm_bin Z b h0 n0 _ T11.heap _
    rw [e11]
    exact ⟨b1, rfl, N11, ((((Keep.refl h0 []).ext E1).ext E4).trans K11 (allS (Or.inr (by omega)) all0)), (by omega), fq11_3, fq11_4⟩
theorem ef_rm_isBinary (m : MethodId) (x0 : Addr) : entryFrame m #[(.ref x0)] 1 = mkF m 0 #[.val (.ref x0)] [] := by first | (simp [entryFrame, mkF, argsToLocals, Value.category]; done) | rfl
def Q_rm_isBinary (Z : State) (a : Addr) (b : Addr) (n : Int32) (k : ClassId) (vs : List Value) (h0 : Heap) (n0 : Nat) (v : Option Value) (h : Heap) (L : List Loc) : Prop := (v = some (.int (1 : Int32))) ∧ (Fr n0 L) ∧ (h = h0)
theorem d6_0 : decode prog_15_method_4_code 0 = .ok (.aload_n 0, 1) := by decide +kernel
theorem d6_1 : decode prog_15_method_4_code 1 = .ok (.getfield 13, 3) := by decide +kernel
theorem d6_4 : decode prog_15_method_4_code 4 = .ok (.ifnull 7, 3) := by decide +kernel
theorem d6_7 : decode prog_15_method_4_code 7 = .ok (.iconst 1, 1) := by decide +kernel
theorem d6_8 : decode prog_15_method_4_code 8 = .ok (.goto 4, 3) := by decide +kernel
theorem d6_12 : decode prog_15_method_4_code 12 = .ok (.ireturn, 1) := by decide +kernel
set_option maxRecDepth 65536 in
set_option maxHeartbeats 40000000 in
theorem rm_isBinary (l : Launch) (Z : State) (a0 : Array Value) (hw : ∀ d ∈ tables_1, d.before a0 Z = true) (ws : List Jvm.Cond) (a : Addr) (b : Addr) (n : Int32) (k : ClassId) (vs : List Value) (h0 : Heap) (n0 : Nat) (Z0 : n0 ≤ h0.size) (F_2 : Fld Z h0 a "com/example/blindhop/blindhop/wamp/Frame" "bytes" "[B" (.ref b)) (V_b : Arv Z h0 b k .byte n vs (.int (0 : Int32))) :
    Con l Z (⟨"com/example/blindhop/blindhop/wamp/Frame", "isBinary", "()Z"⟩ : MethodName) prog_15_method_4_code 1 (some .boolean) ws ({ frames := 0, cells := 0, slots := 0, locals := 0 } : Room) #[(.ref a)] h0 (Q_rm_isBinary Z a b n k vs h0 n0) := by
  refine MetFree.of_bodySF (plainFor_of_name pn_Frame) hisR ?_
  intro p e s m args below meth c s₁ Bd hml0 hP hK
  obtain ⟨rfl, hZ, hh⟩ := hP
  have hx := Bd.exec
  have hby := Bd.bytes
  have hml : c.maxLocals = 1 := hml0
  have hown : s.vm.findClass "com/example/blindhop/blindhop/wamp/Frame" = some m.cls := findClass_of_methodNamed Bd.named
  have hnm := (name_of_methodNamed Bd.named Bd.method).1
  have X0 : Stand p l e ({ frames := 0, cells := 0, slots := 0, locals := 0 } : Room) s m #[(.ref a)] below meth c s₁ [] 0 0 := Stand.of_body Bd
  have e0 : s₁.heap = h0 := by rw [← hh, Bd.state]; rfl
  have N0 := Fr.nil n0
  have k0 : Rch p e below (s₁.setTop (entryFrame m #[(.ref a)] 1)) s₁ (mkF m 0 #[.val (.ref a)] []) := fun tg kg => castTop (ef_rm_isBinary m a) kg
  have lt_F_2 := F_2.lt
  have lt_V_b := V_b.lt
  have k1 : Rch p e below (s₁.setTop (entryFrame m #[(.ref a)] 1)) s₁ (mkF m 1 #[.val (.ref a)] [(.ref a)]) := fun tg kg => by
    refine k0 tg ?_
    show Steps p.tables e below (s₁.setTop (mkF m 0 #[.val (.ref a)] [])) tg
    refine XS.aloadN X0.here hx rfl (hb hby d6_0) rfl rfl ?_
    exact kg
  obtain ⟨T2, X2, e2, st2⟩ := getF X0 hx hZ hown (host := "") (Or.inl (hw _ (List.mem_of_getElem? (i := 32) rfl))) Via.refl e0 F_2 (g := (mkF m 1 #[.val (.ref a)] [(.ref a)])) rfl rfl (hb hby d6_1)
  have k3 : Rch p e below (s₁.setTop (entryFrame m #[(.ref a)] 1)) T2 (mkF m 4 #[.val (.ref a)] [(.ref b)]) := fun tg kg => k1 tg (st2 tg kg)
  have k4 : Rch p e below (s₁.setTop (entryFrame m #[(.ref a)] 1)) T2 (mkF m 12 #[.val (.ref a)] [(.int (1 : Int32))]) := fun tg kg => by
    refine k3 tg ?_
    show Steps p.tables e below (T2.setTop (mkF m 4 #[.val (.ref a)] [(.ref b)])) tg
    refine XS.ifnullNo X2.here hx rfl (hb hby d6_4) rfl ?_
    show Steps p.tables e below (T2.setTop (mkF m 7 #[.val (.ref a)] [])) tg
    refine XS.iconst X2.here hx rfl (hb hby d6_7) ?_
    show Steps p.tables e below (T2.setTop (mkF m 8 #[.val (.ref a)] [(.int (1 : Int32))])) tg
    refine XS.goto X2.here hx rfl (pc0 := 8) (pc' := 12) rfl (hb hby d6_8) (by decide) (by decide) ?_
    exact kg
  obtain ⟨fs5, hr5, hrun5, hended5, hW5, hsame5⟩ := X2.leave (v := some (.int (nar .boolean (1 : Int32)))) (fun h => by rw [Bd.returns] at h; cases h)
  refine ⟨_, _, k4 _ ?_, hrun5, hended5, _, _, rfl, ?_, ⟨_, rfl⟩, hW5, hsame5.mono (by decide) (by decide)⟩
  · exact retN X2 hx (t := .boolean) Bd.returns (by simp) (hb hby d6_12) hr5
  · show Q_rm_isBinary Z a b n k vs h0 n0 _ T2.heap _
    rw [e2]
    exact ⟨rfl, N0, rfl⟩
theorem ef_rm_size (m : MethodId) (x0 : Addr) : entryFrame m #[(.ref x0)] 1 = mkF m 0 #[.val (.ref x0)] [] := by first | (simp [entryFrame, mkF, argsToLocals, Value.category]; done) | rfl
def Q_rm_size (Z : State) (a : Addr) (b : Addr) (n : Int32) (k : ClassId) (vs : List Value) (h0 : Heap) (n0 : Nat) (v : Option Value) (h : Heap) (L : List Loc) : Prop := (v = some (.int n)) ∧ (Fr n0 L) ∧ (h = h0)
theorem d7_0 : decode prog_15_method_7_code 0 = .ok (.aload_n 0, 1) := by decide +kernel
theorem d7_1 : decode prog_15_method_7_code 1 = .ok (.getfield 13, 3) := by decide +kernel
theorem d7_4 : decode prog_15_method_7_code 4 = .ok (.ifnonnull 13, 3) := by decide +kernel
theorem d7_17 : decode prog_15_method_7_code 17 = .ok (.aload_n 0, 1) := by decide +kernel
theorem d7_18 : decode prog_15_method_7_code 18 = .ok (.getfield 13, 3) := by decide +kernel
theorem d7_21 : decode prog_15_method_7_code 21 = .ok (.arraylength, 1) := by decide +kernel
theorem d7_22 : decode prog_15_method_7_code 22 = .ok (.ireturn, 1) := by decide +kernel
set_option maxRecDepth 65536 in
set_option maxHeartbeats 40000000 in
theorem rm_size (l : Launch) (Z : State) (a0 : Array Value) (hw : ∀ d ∈ tables_1, d.before a0 Z = true) (ws : List Jvm.Cond) (a : Addr) (b : Addr) (n : Int32) (k : ClassId) (vs : List Value) (h0 : Heap) (n0 : Nat) (Z0 : n0 ≤ h0.size) (F_2 : Fld Z h0 a "com/example/blindhop/blindhop/wamp/Frame" "bytes" "[B" (.ref b)) (V_b : Arv Z h0 b k .byte n vs (.int (0 : Int32))) :
    Con l Z (⟨"com/example/blindhop/blindhop/wamp/Frame", "size", "()I"⟩ : MethodName) prog_15_method_7_code 1 (some .int) ws ({ frames := 0, cells := 0, slots := 0, locals := 0 } : Room) #[(.ref a)] h0 (Q_rm_size Z a b n k vs h0 n0) := by
  refine MetFree.of_bodySF (plainFor_of_name pn_Frame) hisR ?_
  intro p e s m args below meth c s₁ Bd hml0 hP hK
  obtain ⟨rfl, hZ, hh⟩ := hP
  have hx := Bd.exec
  have hby := Bd.bytes
  have hml : c.maxLocals = 1 := hml0
  have hown : s.vm.findClass "com/example/blindhop/blindhop/wamp/Frame" = some m.cls := findClass_of_methodNamed Bd.named
  have hnm := (name_of_methodNamed Bd.named Bd.method).1
  have X0 : Stand p l e ({ frames := 0, cells := 0, slots := 0, locals := 0 } : Room) s m #[(.ref a)] below meth c s₁ [] 0 0 := Stand.of_body Bd
  have e0 : s₁.heap = h0 := by rw [← hh, Bd.state]; rfl
  have N0 := Fr.nil n0
  have k0 : Rch p e below (s₁.setTop (entryFrame m #[(.ref a)] 1)) s₁ (mkF m 0 #[.val (.ref a)] []) := fun tg kg => castTop (ef_rm_size m a) kg
  have lt_F_2 := F_2.lt
  have lt_V_b := V_b.lt
  have k1 : Rch p e below (s₁.setTop (entryFrame m #[(.ref a)] 1)) s₁ (mkF m 1 #[.val (.ref a)] [(.ref a)]) := fun tg kg => by
    refine k0 tg ?_
    show Steps p.tables e below (s₁.setTop (mkF m 0 #[.val (.ref a)] [])) tg
    refine XS.aloadN X0.here hx rfl (hb hby d7_0) rfl rfl ?_
    exact kg
  obtain ⟨T2, X2, e2, st2⟩ := getF X0 hx hZ hown (host := "") (Or.inl (hw _ (List.mem_of_getElem? (i := 32) rfl))) Via.refl e0 F_2 (g := (mkF m 1 #[.val (.ref a)] [(.ref a)])) rfl rfl (hb hby d7_1)
  have k3 : Rch p e below (s₁.setTop (entryFrame m #[(.ref a)] 1)) T2 (mkF m 4 #[.val (.ref a)] [(.ref b)]) := fun tg kg => k1 tg (st2 tg kg)
  have k4 : Rch p e below (s₁.setTop (entryFrame m #[(.ref a)] 1)) T2 (mkF m 18 #[.val (.ref a)] [(.ref a)]) := fun tg kg => by
    refine k3 tg ?_
    show Steps p.tables e below (T2.setTop (mkF m 4 #[.val (.ref a)] [(.ref b)])) tg
    refine XS.ifnonnullYes X2.here hx rfl (pc0 := 4) (pc' := 17) rfl (hb hby d7_4) rfl (by decide) (by decide) ?_
    show Steps p.tables e below (T2.setTop (mkF m 17 #[.val (.ref a)] [])) tg
    refine XS.aloadN X2.here hx rfl (hb hby d7_17) rfl rfl ?_
    exact kg
  obtain ⟨T5, X5, e5, st5⟩ := getF X2 hx hZ hown (host := "") (Or.inl (hw _ (List.mem_of_getElem? (i := 32) rfl))) Via.refl e2 F_2 (g := (mkF m 18 #[.val (.ref a)] [(.ref a)])) rfl rfl (hb hby d7_18)
  have k6 : Rch p e below (s₁.setTop (entryFrame m #[(.ref a)] 1)) T5 (mkF m 21 #[.val (.ref a)] [(.ref b)]) := fun tg kg => k4 tg (st5 tg kg)
  obtain ⟨cl7, Ar7, q7, S7, M7, H7, G7⟩ := id V_b
  have k8 : Rch p e below (s₁.setTop (entryFrame m #[(.ref a)] 1)) T5 (mkF m 22 #[.val (.ref a)] [(.int n)]) := fun tg kg => by
    refine k6 tg ?_
    show Steps p.tables e below (T5.setTop (mkF m 21 #[.val (.ref a)] [(.ref b)])) tg
    refine X5.arraylength hx (by rw [e5]; exact Ar7.1) (State.isArrayOf_alike hZ.alike Ar7.2.1) (g := (mkF m 21 #[.val (.ref a)] [(.ref b)])) rfl rfl (hb hby d7_21) _ ?_
    rw [len_of S7 M7]
    exact kg
  obtain ⟨fs9, hr9, hrun9, hended9, hW9, hsame9⟩ := X5.leave (v := some (.int n)) (fun h => by rw [Bd.returns] at h; cases h)
  refine ⟨_, _, k8 _ ?_, hrun9, hended9, _, _, rfl, ?_, ⟨_, rfl⟩, hW9, hsame9.mono (by decide) (by decide)⟩
  · exact retOut X5 hx Bd.returns rfl (Or.inl ⟨rfl, Or.inl rfl, _, rfl⟩) (hb hby d7_22) hr9
  · show Q_rm_size Z a b n k vs h0 n0 _ T5.heap _
    rw [e5]
    exact ⟨rfl, N0, rfl⟩
theorem ef_rm_bytes (m : MethodId) (x0 : Addr) : entryFrame m #[(.ref x0)] 1 = mkF m 0 #[.val (.ref x0)] [] := by first | (simp [entryFrame, mkF, argsToLocals, Value.category]; done) | rfl
def Q_rm_bytes (Z : State) (a : Addr) (b : Addr) (n : Int32) (k : ClassId) (vs : List Value) (h0 : Heap) (n0 : Nat) (v : Option Value) (h : Heap) (L : List Loc) : Prop := (v = some (.ref b)) ∧ (Fr n0 L) ∧ (h = h0)
theorem d8_0 : decode prog_15_method_6_code 0 = .ok (.aload_n 0, 1) := by decide +kernel
theorem d8_1 : decode prog_15_method_6_code 1 = .ok (.getfield 13, 3) := by decide +kernel
theorem d8_4 : decode prog_15_method_6_code 4 = .ok (.ifnonnull 13, 3) := by decide +kernel
theorem d8_17 : decode prog_15_method_6_code 17 = .ok (.aload_n 0, 1) := by decide +kernel
theorem d8_18 : decode prog_15_method_6_code 18 = .ok (.getfield 13, 3) := by decide +kernel
theorem d8_21 : decode prog_15_method_6_code 21 = .ok (.areturn, 1) := by decide +kernel
set_option maxRecDepth 65536 in
set_option maxHeartbeats 40000000 in
theorem rm_bytes (l : Launch) (Z : State) (a0 : Array Value) (hw : ∀ d ∈ tables_1, d.before a0 Z = true) (ws : List Jvm.Cond) (a : Addr) (b : Addr) (n : Int32) (k : ClassId) (vs : List Value) (h0 : Heap) (n0 : Nat) (Z0 : n0 ≤ h0.size) (F_2 : Fld Z h0 a "com/example/blindhop/blindhop/wamp/Frame" "bytes" "[B" (.ref b)) (V_b : Arv Z h0 b k .byte n vs (.int (0 : Int32))) :
    Con l Z (⟨"com/example/blindhop/blindhop/wamp/Frame", "bytes", "()[B"⟩ : MethodName) prog_15_method_6_code 1 (some (.array .byte)) ws ({ frames := 0, cells := 0, slots := 0, locals := 0 } : Room) #[(.ref a)] h0 (Q_rm_bytes Z a b n k vs h0 n0) := by
  refine MetFree.of_bodySF (plainFor_of_name pn_Frame) hisR ?_
  intro p e s m args below meth c s₁ Bd hml0 hP hK
  obtain ⟨rfl, hZ, hh⟩ := hP
  have hx := Bd.exec
  have hby := Bd.bytes
  have hml : c.maxLocals = 1 := hml0
  have hown : s.vm.findClass "com/example/blindhop/blindhop/wamp/Frame" = some m.cls := findClass_of_methodNamed Bd.named
  have hnm := (name_of_methodNamed Bd.named Bd.method).1
  have X0 : Stand p l e ({ frames := 0, cells := 0, slots := 0, locals := 0 } : Room) s m #[(.ref a)] below meth c s₁ [] 0 0 := Stand.of_body Bd
  have e0 : s₁.heap = h0 := by rw [← hh, Bd.state]; rfl
  have N0 := Fr.nil n0
  have k0 : Rch p e below (s₁.setTop (entryFrame m #[(.ref a)] 1)) s₁ (mkF m 0 #[.val (.ref a)] []) := fun tg kg => castTop (ef_rm_bytes m a) kg
  have lt_F_2 := F_2.lt
  have lt_V_b := V_b.lt
  have k1 : Rch p e below (s₁.setTop (entryFrame m #[(.ref a)] 1)) s₁ (mkF m 1 #[.val (.ref a)] [(.ref a)]) := fun tg kg => by
    refine k0 tg ?_
    show Steps p.tables e below (s₁.setTop (mkF m 0 #[.val (.ref a)] [])) tg
    refine XS.aloadN X0.here hx rfl (hb hby d8_0) rfl rfl ?_
    exact kg
  obtain ⟨T2, X2, e2, st2⟩ := getF X0 hx hZ hown (host := "") (Or.inl (hw _ (List.mem_of_getElem? (i := 32) rfl))) Via.refl e0 F_2 (g := (mkF m 1 #[.val (.ref a)] [(.ref a)])) rfl rfl (hb hby d8_1)
  have k3 : Rch p e below (s₁.setTop (entryFrame m #[(.ref a)] 1)) T2 (mkF m 4 #[.val (.ref a)] [(.ref b)]) := fun tg kg => k1 tg (st2 tg kg)
  have k4 : Rch p e below (s₁.setTop (entryFrame m #[(.ref a)] 1)) T2 (mkF m 18 #[.val (.ref a)] [(.ref a)]) := fun tg kg => by
    refine k3 tg ?_
    show Steps p.tables e below (T2.setTop (mkF m 4 #[.val (.ref a)] [(.ref b)])) tg
    refine XS.ifnonnullYes X2.here hx rfl (pc0 := 4) (pc' := 17) rfl (hb hby d8_4) rfl (by decide) (by decide) ?_
    show Steps p.tables e below (T2.setTop (mkF m 17 #[.val (.ref a)] [])) tg
    refine XS.aloadN X2.here hx rfl (hb hby d8_17) rfl rfl ?_
    exact kg
  obtain ⟨T5, X5, e5, st5⟩ := getF X2 hx hZ hown (host := "") (Or.inl (hw _ (List.mem_of_getElem? (i := 32) rfl))) Via.refl e2 F_2 (g := (mkF m 18 #[.val (.ref a)] [(.ref a)])) rfl rfl (hb hby d8_18)
  have k6 : Rch p e below (s₁.setTop (entryFrame m #[(.ref a)] 1)) T5 (mkF m 21 #[.val (.ref a)] [(.ref b)]) := fun tg kg => k4 tg (st5 tg kg)
  obtain ⟨fs7, hr7, hrun7, hended7, hW7, hsame7⟩ := X5.leave (v := some (.ref b)) (fun h => by rw [Bd.returns] at h; cases h)
  refine ⟨_, _, k6 _ ?_, hrun7, hended7, _, _, rfl, ?_, ⟨_, rfl⟩, hW7, hsame7.mono (by decide) (by decide)⟩
  · exact retOut X5 hx Bd.returns rfl (Or.inr (Or.inr (Or.inr (Or.inr ⟨rfl, rfl, rfl⟩)))) (hb hby d8_21) hr7
  · show Q_rm_bytes Z a b n k vs h0 n0 _ T5.heap _
    rw [e5]
    exact ⟨rfl, N0, rfl⟩
theorem ef_rm0 (m : MethodId) (x0 : Int32) (x1 : Int64) : entryFrame m #[(.int x0), (.long x1)] maxLocals = mkF m 0 #[.val (.int x0), .val (.long x1), .second, .unset, .unset, .unset, .unset] [] := by first | (simp [entryFrame, mkF, argsToLocals, Value.category, maxLocals]; done) | rfl
def Q_rm0 (Z : State) (p1 : Int32) (q2 : Int64) (h0 : Heap) (n0 : Nat) (v : Option Value) (h : Heap) (L : List Loc) : Prop := (v = some (.int 1)) ∧ (Fr n0 L)
theorem pd_3 : parseMethodDescriptor "([BIJ)V" = some ⟨[(.array .byte), .int, .long], none⟩ := by decide +kernel
theorem pd_4 : parseMethodDescriptor "([B)Lcom/example/blindhop/blindhop/wamp/Frame;" = some ⟨[(.array .byte)], some (.object "com/example/blindhop/blindhop/wamp/Frame")⟩ := by decide +kernel
theorem pd_5 : parseMethodDescriptor "()Z" = some ⟨[], some .boolean⟩ := by decide +kernel
theorem pd_6 : parseMethodDescriptor "()I" = some ⟨[], some .int⟩ := by decide +kernel
theorem pd_7 : parseMethodDescriptor "()[B" = some ⟨[], some (.array .byte)⟩ := by decide +kernel
theorem pd_8 : parseMethodDescriptor "([BIJ)Z" = some ⟨[(.array .byte), .int, .long], some .boolean⟩ := by decide +kernel
set_option maxRecDepth 65536 in
set_option maxHeartbeats 40000000 in
theorem rm0 (l : Launch) (Z : State) (a0 : Array Value) (hw : ∀ d ∈ tables_1, d.before a0 Z = true) (ws : List Jvm.Cond) (p1 : Int32) (q2 : Int64) (h0 : Heap) (n0 : Nat) (Z0 : n0 ≤ h0.size)  :
    ConW l Z x code maxLocals ret ws room_1 #[(.int p1), (.long q2)] h0 (Q_rm0 Z p1 q2 h0 n0) := by
  refine MetFree.of_bodySF (plainFor_of_name pn_FrameBinaryPinLaw) hisR ?_
  intro p e s m args below meth c s₁ Bd hml0 hP hK
  obtain ⟨rfl, hZ, hh⟩ := hP
  have hx := Bd.exec
  have hby := Bd.bytes
  have hml : c.maxLocals = 7 := hml0
  have hown : s.vm.findClass "com/example/blindhop/blindhop/wamp/FrameBinaryPinLaw" = some m.cls := findClass_of_methodNamed Bd.named
  have hnm := (name_of_methodNamed Bd.named Bd.method).1
  have X0 : Stand p l e room_1 s m #[(.int p1), (.long q2)] below meth c s₁ [] 0 0 := Stand.of_body Bd
  have e0 : s₁.heap = h0 := by rw [← hh, Bd.state]; rfl
  have N0 := Fr.nil n0
  have X0' : Stand p l e room_1 (s.setVm s.vm) m #[(.int p1), (.long q2)] below meth c s₁ [] 0 0 := X0
  have hS0 : s.Since s.vm h0.size := State.WarmedH.since (State.WarmedH.refl s) _
  have wS : ∀ d ∈ Bundle.stringAtoms, d.before a0 Z = true := fun d hd => hw d ((by decide +kernel : ∀ d ∈ Bundle.stringAtoms, d ∈ tables_1) d hd)
  have k0 : Rch p e below (s₁.setTop (entryFrame m #[(.int p1), (.long q2)] maxLocals)) s₁ (mkF m 0 #[.val (.int p1), .val (.long q2), .second, .unset, .unset, .unset, .unset] []) := fun tg kg => castTop (ef_rm0 m p1 q2) kg
  have k1 : Rch p e below (s₁.setTop (entryFrame m #[(.int p1), (.long q2)] maxLocals)) s₁ (mkF m 5 #[.val (.int p1), .val (.long q2), .second, .val (.int (p1 &&& (7 : Int32))), .unset, .unset, .unset] []) := fun tg kg => by
    refine k0 tg ?_
    show Steps p.tables e below (s₁.setTop (mkF m 0 #[.val (.int p1), .val (.long q2), .second, .unset, .unset, .unset, .unset] [])) tg
    refine XS.iloadN X0'.here hx rfl (hb hby at_0) rfl ?_
    show Steps p.tables e below (s₁.setTop (mkF m 1 #[.val (.int p1), .val (.long q2), .second, .unset, .unset, .unset, .unset] [(.int p1)])) tg
    refine XS.bipush X0'.here hx rfl (hb hby at_1) ?_
    show Steps p.tables e below (s₁.setTop (mkF m 3 #[.val (.int p1), .val (.long q2), .second, .unset, .unset, .unset, .unset] [(.int (7 : Int32)), (.int p1)])) tg
    refine XS.iand X0'.here hx rfl (hb hby at_3) rfl ?_
    show Steps p.tables e below (s₁.setTop (mkF m 4 #[.val (.int p1), .val (.long q2), .second, .unset, .unset, .unset, .unset] [(.int (p1 &&& (7 : Int32)))])) tg
    refine XS.istoreN X0'.here hx rfl (hb hby at_4) rfl (l' := #[.val (.int p1), .val (.long q2), .second, .val (.int (p1 &&& (7 : Int32))), .unset, .unset, .unset]) rfl ?_
    exact kg
  obtain ⟨n, hn, k2⟩ : ∃ n : Int32, n = (p1 &&& (7 : Int32)) ∧ Rch p e below (s₁.setTop (entryFrame m #[(.int p1), (.long q2)] maxLocals)) s₁ (mkF m 5 #[.val (.int p1), .val (.long q2), .second, .val (.int n), .unset, .unset, .unset] []) := ⟨_, rfl, k1⟩
  have hn7 : 0 ≤ n.toInt ∧ n.toInt ≤ 7 := by rw [hn]; exact own_and7 _
  have hnn : ¬ n < 0 := by rw [Int32.lt_iff_toInt_lt, show (0 : Int32).toInt = 0 by decide]; omega
  have hnc : n.toNatClampNeg ≤ 7 := by have := nat_of hnn; omega
  have k3 : Rch p e below (s₁.setTop (entryFrame m #[(.int p1), (.long q2)] maxLocals)) s₁ (mkF m 6 #[.val (.int p1), .val (.long q2), .second, .val (.int n), .unset, .unset, .unset] [(.int n)]) := fun tg kg => by
    refine k2 tg ?_
    show Steps p.tables e below (s₁.setTop (mkF m 5 #[.val (.int p1), .val (.long q2), .second, .val (.int n), .unset, .unset, .unset] [])) tg
    refine XS.iloadN X0'.here hx rfl (hb hby at_5) rfl ?_
    exact kg
  obtain ⟨T4, h4, c4, X4, e4, E4, A4, Ea4, st4⟩ := newPE X0' hx hZ (hw _ (List.mem_of_getElem? (i := 0) rfl)) e0 (g := (mkF m 6 #[.val (.int p1), .val (.long q2), .second, .val (.int n), .unset, .unset, .unset] [(.int n)])) rfl (hb hby at_6) rfl hnn (cap := 7) hnc (by decide) (by decide) (by decide) (ad := "[B") rfl
  obtain ⟨b4, g4⟩ : ∃ z, z = h0.size := ⟨_, rfl⟩
  rw [← g4] at A4 st4 Ea4
  have s4 : h0.size ≤ h4.size := E4.1
  have lt4 : b4 < h4.size := A4.lt
  have k5 : Rch p e below (s₁.setTop (entryFrame m #[(.int p1), (.long q2)] maxLocals)) T4 (mkF m 8 #[.val (.int p1), .val (.long q2), .second, .val (.int n), .unset, .unset, .unset] [(.ref b4)]) := fun tg kg => k3 tg (st4 tg kg)
  have V4 : Arv Z h4 b4 c4 .byte n [(.int (0 : Int32)), (.int (0 : Int32)), (.int (0 : Int32)), (.int (0 : Int32)), (.int (0 : Int32)), (.int (0 : Int32)), (.int (0 : Int32))] (.int (0 : Int32)) := (Arv.new A4 hnn).pad (pad_rep [] (.int (0 : Int32)) 7)
  have k6 : Rch p e below (s₁.setTop (entryFrame m #[(.int p1), (.long q2)] maxLocals)) T4 (mkF m 14 #[.val (.int p1), .val (.long q2), .second, .val (.int n), .val (.ref b4), .unset, .unset] [(.long q2), (.int (0 : Int32)), (.ref b4)]) := fun tg kg => by
    refine k5 tg ?_
    show Steps p.tables e below (T4.setTop (mkF m 8 #[.val (.int p1), .val (.long q2), .second, .val (.int n), .unset, .unset, .unset] [(.ref b4)])) tg
    refine XS.astore X4.here hx rfl (hb hby at_8) rfl rfl (l' := #[.val (.int p1), .val (.long q2), .second, .val (.int n), .val (.ref b4), .unset, .unset]) rfl ?_
    show Steps p.tables e below (T4.setTop (mkF m 10 #[.val (.int p1), .val (.long q2), .second, .val (.int n), .val (.ref b4), .unset, .unset] [])) tg
    refine XS.aload X4.here hx rfl (hb hby at_10) rfl rfl ?_
    show Steps p.tables e below (T4.setTop (mkF m 12 #[.val (.int p1), .val (.long q2), .second, .val (.int n), .val (.ref b4), .unset, .unset] [(.ref b4)])) tg
    refine XS.iconst X4.here hx rfl (hb hby at_12) ?_
    show Steps p.tables e below (T4.setTop (mkF m 13 #[.val (.int p1), .val (.long q2), .second, .val (.int n), .val (.ref b4), .unset, .unset] [(.int (0 : Int32)), (.ref b4)])) tg
    refine XS.lloadN X4.here hx rfl (hb hby at_13) rfl ?_
    exact kg
  obtain ⟨v7, T7, h7, Lc7, X7, e7, hQ7, st7⟩ := own_callS X4 hx hZ hown (hw _ (List.mem_of_getElem? (i := 1) rfl)) (hw _ (List.mem_of_getElem? (i := 2) rfl)) (hw _ (List.mem_of_getElem? (i := 3) rfl)) (hw _ (List.mem_of_getElem? (i := 4) rfl)) (by decide) (rm_put l Z a0 hw [] b4 (0 : Int32) q2 n c4 ([(.int (0 : Int32)), (.int (0 : Int32)), (.int (0 : Int32)), (.int (0 : Int32)), (.int (0 : Int32)), (.int (0 : Int32)), (.int (0 : Int32))]) h4 n0 (by omega) V4 (by decide) (Nat.le_of_ble_eq_true rfl) (by omega)) e4 (g := (mkF m 14 #[.val (.int p1), .val (.long q2), .second, .val (.int n), .val (.ref b4), .unset, .unset] [(.long q2), (.int (0 : Int32)), (.ref b4)])) rfl (by rw [hml]; rfl) (argsL := [(.ref b4), (.int (0 : Int32)), (.long q2)]) (rest := []) rfl (lenOf pd_3 rfl) rfl (W := 0) (by show 2 * 0 + _ ≤ _; exact Nat.le_of_eq rfl) (hb hby at_14) (by decide) (by decide) (by decide) (by decide)
  obtain ⟨rfl, Nq7, K7, fq7_3⟩ := hQ7
  have N7 := Fr.app N0 Nq7
  have s7 : h4.size ≤ h7.size := K7.1
  have k8 : Rch p e below (s₁.setTop (entryFrame m #[(.int p1), (.long q2)] maxLocals)) T7 (mkF m 17 #[.val (.int p1), .val (.long q2), .second, .val (.int n), .val (.ref b4), .unset, .unset] []) := fun tg kg => k6 tg (st7 tg kg)
  have lt_fq7_3 := fq7_3.lt
  have f9 : Arv Z h7 b4 c4 .byte n [(.int (own_byte q2 (0 : Int32))), (.int (0 : Int32)), (.int (0 : Int32)), (.int (0 : Int32)), (.int (0 : Int32)), (.int (0 : Int32)), (.int (0 : Int32))] (.int (0 : Int32)) := fq7_3
  have k10 : Rch p e below (s₁.setTop (entryFrame m #[(.int p1), (.long q2)] maxLocals)) T7 (mkF m 21 #[.val (.int p1), .val (.long q2), .second, .val (.int n), .val (.ref b4), .unset, .unset] [(.long q2), (.int (1 : Int32)), (.ref b4)]) := fun tg kg => by
    refine k8 tg ?_
    show Steps p.tables e below (T7.setTop (mkF m 17 #[.val (.int p1), .val (.long q2), .second, .val (.int n), .val (.ref b4), .unset, .unset] [])) tg
    refine XS.aload X7.here hx rfl (hb hby at_17) rfl rfl ?_
    show Steps p.tables e below (T7.setTop (mkF m 19 #[.val (.int p1), .val (.long q2), .second, .val (.int n), .val (.ref b4), .unset, .unset] [(.ref b4)])) tg
    refine XS.iconst X7.here hx rfl (hb hby at_19) ?_
    show Steps p.tables e below (T7.setTop (mkF m 20 #[.val (.int p1), .val (.long q2), .second, .val (.int n), .val (.ref b4), .unset, .unset] [(.int (1 : Int32)), (.ref b4)])) tg
    refine XS.lloadN X7.here hx rfl (hb hby at_20) rfl ?_
    exact kg
  obtain ⟨v11, T11, h11, Lc11, X11, e11, hQ11, st11⟩ := own_callS X7 hx hZ hown (hw _ (List.mem_of_getElem? (i := 1) rfl)) (hw _ (List.mem_of_getElem? (i := 2) rfl)) (hw _ (List.mem_of_getElem? (i := 3) rfl)) (hw _ (List.mem_of_getElem? (i := 4) rfl)) (by decide) (rm_put l Z a0 hw [] b4 (1 : Int32) q2 n c4 ([(.int (own_byte q2 (0 : Int32))), (.int (0 : Int32)), (.int (0 : Int32)), (.int (0 : Int32)), (.int (0 : Int32)), (.int (0 : Int32)), (.int (0 : Int32))]) h7 n0 (by omega) f9 (by decide) (Nat.le_of_ble_eq_true rfl) (by omega)) e7 (g := (mkF m 21 #[.val (.int p1), .val (.long q2), .second, .val (.int n), .val (.ref b4), .unset, .unset] [(.long q2), (.int (1 : Int32)), (.ref b4)])) rfl (by rw [hml]; rfl) (argsL := [(.ref b4), (.int (1 : Int32)), (.long q2)]) (rest := []) rfl (lenOf pd_3 rfl) rfl (W := 0) (by show 2 * 0 + _ ≤ _; exact Nat.le_of_eq rfl) (hb hby at_21) (by decide) (by decide) (by decide) (by decide)
  obtain ⟨rfl, Nq11, K11, fq11_3⟩ := hQ11
  have N11 := Fr.app N7 Nq11
  have s11 : h7.size ≤ h11.size := K11.1
  have k12 : Rch p e below (s₁.setTop (entryFrame m #[(.int p1), (.long q2)] maxLocals)) T11 (mkF m 24 #[.val (.int p1), .val (.long q2), .second, .val (.int n), .val (.ref b4), .unset, .unset] []) := fun tg kg => k10 tg (st11 tg kg)
  have lt_fq11_3 := fq11_3.lt
  have f13 : Arv Z h11 b4 c4 .byte n [(.int (own_byte q2 (0 : Int32))), (.int (own_byte q2 (1 : Int32))), (.int (0 : Int32)), (.int (0 : Int32)), (.int (0 : Int32)), (.int (0 : Int32)), (.int (0 : Int32))] (.int (0 : Int32)) := fq11_3
  have k14 : Rch p e below (s₁.setTop (entryFrame m #[(.int p1), (.long q2)] maxLocals)) T11 (mkF m 28 #[.val (.int p1), .val (.long q2), .second, .val (.int n), .val (.ref b4), .unset, .unset] [(.long q2), (.int (2 : Int32)), (.ref b4)]) := fun tg kg => by
    refine k12 tg ?_
    show Steps p.tables e below (T11.setTop (mkF m 24 #[.val (.int p1), .val (.long q2), .second, .val (.int n), .val (.ref b4), .unset, .unset] [])) tg
    refine XS.aload X11.here hx rfl (hb hby at_24) rfl rfl ?_
    show Steps p.tables e below (T11.setTop (mkF m 26 #[.val (.int p1), .val (.long q2), .second, .val (.int n), .val (.ref b4), .unset, .unset] [(.ref b4)])) tg
    refine XS.iconst X11.here hx rfl (hb hby at_26) ?_
    show Steps p.tables e below (T11.setTop (mkF m 27 #[.val (.int p1), .val (.long q2), .second, .val (.int n), .val (.ref b4), .unset, .unset] [(.int (2 : Int32)), (.ref b4)])) tg
    refine XS.lloadN X11.here hx rfl (hb hby at_27) rfl ?_
    exact kg
  obtain ⟨v15, T15, h15, Lc15, X15, e15, hQ15, st15⟩ := own_callS X11 hx hZ hown (hw _ (List.mem_of_getElem? (i := 1) rfl)) (hw _ (List.mem_of_getElem? (i := 2) rfl)) (hw _ (List.mem_of_getElem? (i := 3) rfl)) (hw _ (List.mem_of_getElem? (i := 4) rfl)) (by decide) (rm_put l Z a0 hw [] b4 (2 : Int32) q2 n c4 ([(.int (own_byte q2 (0 : Int32))), (.int (own_byte q2 (1 : Int32))), (.int (0 : Int32)), (.int (0 : Int32)), (.int (0 : Int32)), (.int (0 : Int32)), (.int (0 : Int32))]) h11 n0 (by omega) f13 (by decide) (Nat.le_of_ble_eq_true rfl) (by omega)) e11 (g := (mkF m 28 #[.val (.int p1), .val (.long q2), .second, .val (.int n), .val (.ref b4), .unset, .unset] [(.long q2), (.int (2 : Int32)), (.ref b4)])) rfl (by rw [hml]; rfl) (argsL := [(.ref b4), (.int (2 : Int32)), (.long q2)]) (rest := []) rfl (lenOf pd_3 rfl) rfl (W := 0) (by show 2 * 0 + _ ≤ _; exact Nat.le_of_eq rfl) (hb hby at_28) (by decide) (by decide) (by decide) (by decide)
  obtain ⟨rfl, Nq15, K15, fq15_3⟩ := hQ15
  have N15 := Fr.app N11 Nq15
  have s15 : h11.size ≤ h15.size := K15.1
  have k16 : Rch p e below (s₁.setTop (entryFrame m #[(.int p1), (.long q2)] maxLocals)) T15 (mkF m 31 #[.val (.int p1), .val (.long q2), .second, .val (.int n), .val (.ref b4), .unset, .unset] []) := fun tg kg => k14 tg (st15 tg kg)
  have lt_fq15_3 := fq15_3.lt
  have f17 : Arv Z h15 b4 c4 .byte n [(.int (own_byte q2 (0 : Int32))), (.int (own_byte q2 (1 : Int32))), (.int (own_byte q2 (2 : Int32))), (.int (0 : Int32)), (.int (0 : Int32)), (.int (0 : Int32)), (.int (0 : Int32))] (.int (0 : Int32)) := fq15_3
  have k18 : Rch p e below (s₁.setTop (entryFrame m #[(.int p1), (.long q2)] maxLocals)) T15 (mkF m 35 #[.val (.int p1), .val (.long q2), .second, .val (.int n), .val (.ref b4), .unset, .unset] [(.long q2), (.int (3 : Int32)), (.ref b4)]) := fun tg kg => by
    refine k16 tg ?_
    show Steps p.tables e below (T15.setTop (mkF m 31 #[.val (.int p1), .val (.long q2), .second, .val (.int n), .val (.ref b4), .unset, .unset] [])) tg
    refine XS.aload X15.here hx rfl (hb hby at_31) rfl rfl ?_
    show Steps p.tables e below (T15.setTop (mkF m 33 #[.val (.int p1), .val (.long q2), .second, .val (.int n), .val (.ref b4), .unset, .unset] [(.ref b4)])) tg
    refine XS.iconst X15.here hx rfl (hb hby at_33) ?_
    show Steps p.tables e below (T15.setTop (mkF m 34 #[.val (.int p1), .val (.long q2), .second, .val (.int n), .val (.ref b4), .unset, .unset] [(.int (3 : Int32)), (.ref b4)])) tg
    refine XS.lloadN X15.here hx rfl (hb hby at_34) rfl ?_
    exact kg
  obtain ⟨v19, T19, h19, Lc19, X19, e19, hQ19, st19⟩ := own_callS X15 hx hZ hown (hw _ (List.mem_of_getElem? (i := 1) rfl)) (hw _ (List.mem_of_getElem? (i := 2) rfl)) (hw _ (List.mem_of_getElem? (i := 3) rfl)) (hw _ (List.mem_of_getElem? (i := 4) rfl)) (by decide) (rm_put l Z a0 hw [] b4 (3 : Int32) q2 n c4 ([(.int (own_byte q2 (0 : Int32))), (.int (own_byte q2 (1 : Int32))), (.int (own_byte q2 (2 : Int32))), (.int (0 : Int32)), (.int (0 : Int32)), (.int (0 : Int32)), (.int (0 : Int32))]) h15 n0 (by omega) f17 (by decide) (Nat.le_of_ble_eq_true rfl) (by omega)) e15 (g := (mkF m 35 #[.val (.int p1), .val (.long q2), .second, .val (.int n), .val (.ref b4), .unset, .unset] [(.long q2), (.int (3 : Int32)), (.ref b4)])) rfl (by rw [hml]; rfl) (argsL := [(.ref b4), (.int (3 : Int32)), (.long q2)]) (rest := []) rfl (lenOf pd_3 rfl) rfl (W := 0) (by show 2 * 0 + _ ≤ _; exact Nat.le_of_eq rfl) (hb hby at_35) (by decide) (by decide) (by decide) (by decide)
  obtain ⟨rfl, Nq19, K19, fq19_3⟩ := hQ19
  have N19 := Fr.app N15 Nq19
  have s19 : h15.size ≤ h19.size := K19.1
  have k20 : Rch p e below (s₁.setTop (entryFrame m #[(.int p1), (.long q2)] maxLocals)) T19 (mkF m 38 #[.val (.int p1), .val (.long q2), .second, .val (.int n), .val (.ref b4), .unset, .unset] []) := fun tg kg => k18 tg (st19 tg kg)
  have lt_fq19_3 := fq19_3.lt
  have f21 : Arv Z h19 b4 c4 .byte n [(.int (own_byte q2 (0 : Int32))), (.int (own_byte q2 (1 : Int32))), (.int (own_byte q2 (2 : Int32))), (.int (own_byte q2 (3 : Int32))), (.int (0 : Int32)), (.int (0 : Int32)), (.int (0 : Int32))] (.int (0 : Int32)) := fq19_3
  have k22 : Rch p e below (s₁.setTop (entryFrame m #[(.int p1), (.long q2)] maxLocals)) T19 (mkF m 42 #[.val (.int p1), .val (.long q2), .second, .val (.int n), .val (.ref b4), .unset, .unset] [(.long q2), (.int (4 : Int32)), (.ref b4)]) := fun tg kg => by
    refine k20 tg ?_
    show Steps p.tables e below (T19.setTop (mkF m 38 #[.val (.int p1), .val (.long q2), .second, .val (.int n), .val (.ref b4), .unset, .unset] [])) tg
    refine XS.aload X19.here hx rfl (hb hby at_38) rfl rfl ?_
    show Steps p.tables e below (T19.setTop (mkF m 40 #[.val (.int p1), .val (.long q2), .second, .val (.int n), .val (.ref b4), .unset, .unset] [(.ref b4)])) tg
    refine XS.iconst X19.here hx rfl (hb hby at_40) ?_
    show Steps p.tables e below (T19.setTop (mkF m 41 #[.val (.int p1), .val (.long q2), .second, .val (.int n), .val (.ref b4), .unset, .unset] [(.int (4 : Int32)), (.ref b4)])) tg
    refine XS.lloadN X19.here hx rfl (hb hby at_41) rfl ?_
    exact kg
  obtain ⟨v23, T23, h23, Lc23, X23, e23, hQ23, st23⟩ := own_callS X19 hx hZ hown (hw _ (List.mem_of_getElem? (i := 1) rfl)) (hw _ (List.mem_of_getElem? (i := 2) rfl)) (hw _ (List.mem_of_getElem? (i := 3) rfl)) (hw _ (List.mem_of_getElem? (i := 4) rfl)) (by decide) (rm_put l Z a0 hw [] b4 (4 : Int32) q2 n c4 ([(.int (own_byte q2 (0 : Int32))), (.int (own_byte q2 (1 : Int32))), (.int (own_byte q2 (2 : Int32))), (.int (own_byte q2 (3 : Int32))), (.int (0 : Int32)), (.int (0 : Int32)), (.int (0 : Int32))]) h19 n0 (by omega) f21 (by decide) (Nat.le_of_ble_eq_true rfl) (by omega)) e19 (g := (mkF m 42 #[.val (.int p1), .val (.long q2), .second, .val (.int n), .val (.ref b4), .unset, .unset] [(.long q2), (.int (4 : Int32)), (.ref b4)])) rfl (by rw [hml]; rfl) (argsL := [(.ref b4), (.int (4 : Int32)), (.long q2)]) (rest := []) rfl (lenOf pd_3 rfl) rfl (W := 0) (by show 2 * 0 + _ ≤ _; exact Nat.le_of_eq rfl) (hb hby at_42) (by decide) (by decide) (by decide) (by decide)
  obtain ⟨rfl, Nq23, K23, fq23_3⟩ := hQ23
  have N23 := Fr.app N19 Nq23
  have s23 : h19.size ≤ h23.size := K23.1
  have k24 : Rch p e below (s₁.setTop (entryFrame m #[(.int p1), (.long q2)] maxLocals)) T23 (mkF m 45 #[.val (.int p1), .val (.long q2), .second, .val (.int n), .val (.ref b4), .unset, .unset] []) := fun tg kg => k22 tg (st23 tg kg)
  have lt_fq23_3 := fq23_3.lt
  have f25 : Arv Z h23 b4 c4 .byte n [(.int (own_byte q2 (0 : Int32))), (.int (own_byte q2 (1 : Int32))), (.int (own_byte q2 (2 : Int32))), (.int (own_byte q2 (3 : Int32))), (.int (own_byte q2 (4 : Int32))), (.int (0 : Int32)), (.int (0 : Int32))] (.int (0 : Int32)) := fq23_3
  have k26 : Rch p e below (s₁.setTop (entryFrame m #[(.int p1), (.long q2)] maxLocals)) T23 (mkF m 49 #[.val (.int p1), .val (.long q2), .second, .val (.int n), .val (.ref b4), .unset, .unset] [(.long q2), (.int (5 : Int32)), (.ref b4)]) := fun tg kg => by
    refine k24 tg ?_
    show Steps p.tables e below (T23.setTop (mkF m 45 #[.val (.int p1), .val (.long q2), .second, .val (.int n), .val (.ref b4), .unset, .unset] [])) tg
    refine XS.aload X23.here hx rfl (hb hby at_45) rfl rfl ?_
    show Steps p.tables e below (T23.setTop (mkF m 47 #[.val (.int p1), .val (.long q2), .second, .val (.int n), .val (.ref b4), .unset, .unset] [(.ref b4)])) tg
    refine XS.iconst X23.here hx rfl (hb hby at_47) ?_
    show Steps p.tables e below (T23.setTop (mkF m 48 #[.val (.int p1), .val (.long q2), .second, .val (.int n), .val (.ref b4), .unset, .unset] [(.int (5 : Int32)), (.ref b4)])) tg
    refine XS.lloadN X23.here hx rfl (hb hby at_48) rfl ?_
    exact kg
  obtain ⟨v27, T27, h27, Lc27, X27, e27, hQ27, st27⟩ := own_callS X23 hx hZ hown (hw _ (List.mem_of_getElem? (i := 1) rfl)) (hw _ (List.mem_of_getElem? (i := 2) rfl)) (hw _ (List.mem_of_getElem? (i := 3) rfl)) (hw _ (List.mem_of_getElem? (i := 4) rfl)) (by decide) (rm_put l Z a0 hw [] b4 (5 : Int32) q2 n c4 ([(.int (own_byte q2 (0 : Int32))), (.int (own_byte q2 (1 : Int32))), (.int (own_byte q2 (2 : Int32))), (.int (own_byte q2 (3 : Int32))), (.int (own_byte q2 (4 : Int32))), (.int (0 : Int32)), (.int (0 : Int32))]) h23 n0 (by omega) f25 (by decide) (Nat.le_of_ble_eq_true rfl) (by omega)) e23 (g := (mkF m 49 #[.val (.int p1), .val (.long q2), .second, .val (.int n), .val (.ref b4), .unset, .unset] [(.long q2), (.int (5 : Int32)), (.ref b4)])) rfl (by rw [hml]; rfl) (argsL := [(.ref b4), (.int (5 : Int32)), (.long q2)]) (rest := []) rfl (lenOf pd_3 rfl) rfl (W := 0) (by show 2 * 0 + _ ≤ _; exact Nat.le_of_eq rfl) (hb hby at_49) (by decide) (by decide) (by decide) (by decide)
  obtain ⟨rfl, Nq27, K27, fq27_3⟩ := hQ27
  have N27 := Fr.app N23 Nq27
  have s27 : h23.size ≤ h27.size := K27.1
  have k28 : Rch p e below (s₁.setTop (entryFrame m #[(.int p1), (.long q2)] maxLocals)) T27 (mkF m 52 #[.val (.int p1), .val (.long q2), .second, .val (.int n), .val (.ref b4), .unset, .unset] []) := fun tg kg => k26 tg (st27 tg kg)
  have lt_fq27_3 := fq27_3.lt
  have f29 : Arv Z h27 b4 c4 .byte n [(.int (own_byte q2 (0 : Int32))), (.int (own_byte q2 (1 : Int32))), (.int (own_byte q2 (2 : Int32))), (.int (own_byte q2 (3 : Int32))), (.int (own_byte q2 (4 : Int32))), (.int (own_byte q2 (5 : Int32))), (.int (0 : Int32))] (.int (0 : Int32)) := fq27_3
  have k30 : Rch p e below (s₁.setTop (entryFrame m #[(.int p1), (.long q2)] maxLocals)) T27 (mkF m 57 #[.val (.int p1), .val (.long q2), .second, .val (.int n), .val (.ref b4), .unset, .unset] [(.long q2), (.int (6 : Int32)), (.ref b4)]) := fun tg kg => by
    refine k28 tg ?_
    show Steps p.tables e below (T27.setTop (mkF m 52 #[.val (.int p1), .val (.long q2), .second, .val (.int n), .val (.ref b4), .unset, .unset] [])) tg
    refine XS.aload X27.here hx rfl (hb hby at_52) rfl rfl ?_
    show Steps p.tables e below (T27.setTop (mkF m 54 #[.val (.int p1), .val (.long q2), .second, .val (.int n), .val (.ref b4), .unset, .unset] [(.ref b4)])) tg
    refine XS.bipush X27.here hx rfl (hb hby at_54) ?_
    show Steps p.tables e below (T27.setTop (mkF m 56 #[.val (.int p1), .val (.long q2), .second, .val (.int n), .val (.ref b4), .unset, .unset] [(.int (6 : Int32)), (.ref b4)])) tg
    refine XS.lloadN X27.here hx rfl (hb hby at_56) rfl ?_
    exact kg
  obtain ⟨v31, T31, h31, Lc31, X31, e31, hQ31, st31⟩ := own_callS X27 hx hZ hown (hw _ (List.mem_of_getElem? (i := 1) rfl)) (hw _ (List.mem_of_getElem? (i := 2) rfl)) (hw _ (List.mem_of_getElem? (i := 3) rfl)) (hw _ (List.mem_of_getElem? (i := 4) rfl)) (by decide) (rm_put l Z a0 hw [] b4 (6 : Int32) q2 n c4 ([(.int (own_byte q2 (0 : Int32))), (.int (own_byte q2 (1 : Int32))), (.int (own_byte q2 (2 : Int32))), (.int (own_byte q2 (3 : Int32))), (.int (own_byte q2 (4 : Int32))), (.int (own_byte q2 (5 : Int32))), (.int (0 : Int32))]) h27 n0 (by omega) f29 (by decide) (Nat.le_of_ble_eq_true rfl) (by omega)) e27 (g := (mkF m 57 #[.val (.int p1), .val (.long q2), .second, .val (.int n), .val (.ref b4), .unset, .unset] [(.long q2), (.int (6 : Int32)), (.ref b4)])) rfl (by rw [hml]; rfl) (argsL := [(.ref b4), (.int (6 : Int32)), (.long q2)]) (rest := []) rfl (lenOf pd_3 rfl) rfl (W := 0) (by show 2 * 0 + _ ≤ _; exact Nat.le_of_eq rfl) (hb hby at_57) (by decide) (by decide) (by decide) (by decide)
  obtain ⟨rfl, Nq31, K31, fq31_3⟩ := hQ31
  have N31 := Fr.app N27 Nq31
  have s31 : h27.size ≤ h31.size := K31.1
  have k32 : Rch p e below (s₁.setTop (entryFrame m #[(.int p1), (.long q2)] maxLocals)) T31 (mkF m 60 #[.val (.int p1), .val (.long q2), .second, .val (.int n), .val (.ref b4), .unset, .unset] []) := fun tg kg => k30 tg (st31 tg kg)
  have lt_fq31_3 := fq31_3.lt
  have f33 : Arv Z h31 b4 c4 .byte n [(.int (own_byte q2 (0 : Int32))), (.int (own_byte q2 (1 : Int32))), (.int (own_byte q2 (2 : Int32))), (.int (own_byte q2 (3 : Int32))), (.int (own_byte q2 (4 : Int32))), (.int (own_byte q2 (5 : Int32))), (.int (own_byte q2 (6 : Int32)))] (.int (0 : Int32)) := fq31_3
  have k34 : Rch p e below (s₁.setTop (entryFrame m #[(.int p1), (.long q2)] maxLocals)) T31 (mkF m 62 #[.val (.int p1), .val (.long q2), .second, .val (.int n), .val (.ref b4), .unset, .unset] [(.ref b4)]) := fun tg kg => by
    refine k32 tg ?_
    show Steps p.tables e below (T31.setTop (mkF m 60 #[.val (.int p1), .val (.long q2), .second, .val (.int n), .val (.ref b4), .unset, .unset] [])) tg
    refine XS.aload X31.here hx rfl (hb hby at_60) rfl rfl ?_
    exact kg
  have f36 : Exa Z h31 b4 "[B" := (((((((Ea4.keep K7).keep K11).keep K15).keep K19).keep K23).keep K27).keep K31)
  obtain ⟨v35, T35, h35, Lc35, X35, e35, hQ35, hS35, hZ35, hown35, st35⟩ := own_callSW X31 hx hZ hown (hw _ (List.mem_of_getElem? (i := 5) rfl)) (hw _ (List.mem_of_getElem? (i := 6) rfl)) (hw _ (List.mem_of_getElem? (i := 7) rfl)) (hw _ (List.mem_of_getElem? (i := 8) rfl)) (by decide) (rm_bin l Z a0 hw [] b4 h31 n0 (by omega) f36) e31 hS0 (by first | exact Nat.le_refl _ | omega) (g := (mkF m 62 #[.val (.int p1), .val (.long q2), .second, .val (.int n), .val (.ref b4), .unset, .unset] [(.ref b4)])) rfl (by rw [hml]; rfl) (argsL := [(.ref b4)]) (rest := []) rfl (lenOf pd_4 rfl) rfl (W := 0) (by show 2 * 0 + _ ≤ _; exact Nat.le_of_eq rfl) (hb hby at_62) (by decide) (by decide) (by decide) (by decide)
  obtain ⟨f0, rfl, Nq35, K35, ge35_3, fq35_4, fq35_5⟩ := hQ35
  have N35 := Fr.app N31 Nq35
  have s35 : h31.size ≤ h35.size := K35.1
  have k37 : Rch p e below (s₁.setTop (entryFrame m #[(.int p1), (.long q2)] maxLocals)) T35 (mkF m 65 #[.val (.int p1), .val (.long q2), .second, .val (.int n), .val (.ref b4), .unset, .unset] [(.ref f0)]) := fun tg kg => k34 tg (st35 tg kg)
  have lt_fq35_4 := fq35_4.lt
  have lt_fq35_5 := fq35_5.lt
  have k38 : Rch p e below (s₁.setTop (entryFrame m #[(.int p1), (.long q2)] maxLocals)) T35 (mkF m 69 #[.val (.int p1), .val (.long q2), .second, .val (.int n), .val (.ref b4), .val (.ref f0), .unset] [(.ref f0)]) := fun tg kg => by
    refine k37 tg ?_
    show Steps p.tables e below (T35.setTop (mkF m 65 #[.val (.int p1), .val (.long q2), .second, .val (.int n), .val (.ref b4), .unset, .unset] [(.ref f0)])) tg
    refine XS.astore X35.here hx rfl (hb hby at_65) rfl rfl (l' := #[.val (.int p1), .val (.long q2), .second, .val (.int n), .val (.ref b4), .val (.ref f0), .unset]) rfl ?_
    show Steps p.tables e below (T35.setTop (mkF m 67 #[.val (.int p1), .val (.long q2), .second, .val (.int n), .val (.ref b4), .val (.ref f0), .unset] [])) tg
    refine XS.aload X35.here hx rfl (hb hby at_67) rfl rfl ?_
    exact kg
  have f40 : Arv Z h35 b4 c4 .byte n [(.int (own_byte q2 (0 : Int32))), (.int (own_byte q2 (1 : Int32))), (.int (own_byte q2 (2 : Int32))), (.int (own_byte q2 (3 : Int32))), (.int (own_byte q2 (4 : Int32))), (.int (own_byte q2 (5 : Int32))), (.int (own_byte q2 (6 : Int32)))] (.int (0 : Int32)) := (f33.keep K35 nin0)
  obtain ⟨v39, T39, h39, Lc39, X39, e39, hQ39, st39⟩ := own_callV X35 hx hZ35 hown35 (hw _ (List.mem_of_getElem? (i := 34) rfl)) (hw _ (List.mem_of_getElem? (i := 35) rfl)) (notFace_of_selects (args := #[]) (mvT hZ35 (hw _ (List.mem_of_getElem? (i := 37) rfl)))) (hw _ (List.mem_of_getElem? (i := 37) rfl)) (hw _ (List.mem_of_getElem? (i := 36) rfl)) (hw _ (List.mem_of_getElem? (i := 38) rfl)) (hw _ (List.mem_of_getElem? (i := 7) rfl)) (by decide) (rm_isBinary l Z a0 hw [] f0 b4 n c4 ([(.int (own_byte q2 (0 : Int32))), (.int (own_byte q2 (1 : Int32))), (.int (own_byte q2 (2 : Int32))), (.int (own_byte q2 (3 : Int32))), (.int (own_byte q2 (4 : Int32))), (.int (own_byte q2 (5 : Int32))), (.int (own_byte q2 (6 : Int32)))]) h35 n0 (by omega) fq35_5 f40) e35 fq35_4 (g := (mkF m 69 #[.val (.int p1), .val (.long q2), .second, .val (.int n), .val (.ref b4), .val (.ref f0), .unset] [(.ref f0)])) rfl (by rw [hml]; rfl) (argsL := []) (rest := []) rfl (lenOf pd_5 rfl) rfl (W := 0) (by show 2 * 0 + _ ≤ _; exact Nat.le_of_eq rfl) (hb hby at_69) (by decide) (by decide) (by decide) (by decide)
  obtain ⟨rfl, Nq39, hs39⟩ := hQ39
  have N39 := Fr.app N35 Nq39
  have e39' : T39.heap = h35 := e39.trans hs39
  have k41 : Rch p e below (s₁.setTop (entryFrame m #[(.int p1), (.long q2)] maxLocals)) T39 (mkF m 72 #[.val (.int p1), .val (.long q2), .second, .val (.int n), .val (.ref b4), .val (.ref f0), .unset] [(.int (1 : Int32))]) := fun tg kg => k38 tg (st39 tg kg)
  have k42 : Rch p e below (s₁.setTop (entryFrame m #[(.int p1), (.long q2)] maxLocals)) T39 (mkF m 79 #[.val (.int p1), .val (.long q2), .second, .val (.int n), .val (.ref b4), .val (.ref f0), .unset] [(.ref f0)]) := fun tg kg => by
    refine k41 tg ?_
    show Steps p.tables e below (T39.setTop (mkF m 72 #[.val (.int p1), .val (.long q2), .second, .val (.int n), .val (.ref b4), .val (.ref f0), .unset] [(.int (1 : Int32))])) tg
    refine XS.ifYes X39.here hx rfl (pc0 := 72) (pc' := 77) rfl (hb hby at_72) rfl ((if0 _ _).trans (feq (by decide)).2) (by decide) (by decide) ?_
    show Steps p.tables e below (T39.setTop (mkF m 77 #[.val (.int p1), .val (.long q2), .second, .val (.int n), .val (.ref b4), .val (.ref f0), .unset] [])) tg
    refine XS.aload X39.here hx rfl (hb hby at_77) rfl rfl ?_
    exact kg
  obtain ⟨v43, T43, h43, Lc43, X43, e43, hQ43, st43⟩ := own_callV X39 hx hZ35 hown35 (hw _ (List.mem_of_getElem? (i := 39) rfl)) (hw _ (List.mem_of_getElem? (i := 40) rfl)) (notFace_of_selects (args := #[]) (mvT hZ35 (hw _ (List.mem_of_getElem? (i := 42) rfl)))) (hw _ (List.mem_of_getElem? (i := 42) rfl)) (hw _ (List.mem_of_getElem? (i := 41) rfl)) (hw _ (List.mem_of_getElem? (i := 43) rfl)) (hw _ (List.mem_of_getElem? (i := 7) rfl)) (by decide) (rm_size l Z a0 hw [] f0 b4 n c4 ([(.int (own_byte q2 (0 : Int32))), (.int (own_byte q2 (1 : Int32))), (.int (own_byte q2 (2 : Int32))), (.int (own_byte q2 (3 : Int32))), (.int (own_byte q2 (4 : Int32))), (.int (own_byte q2 (5 : Int32))), (.int (own_byte q2 (6 : Int32)))]) h35 n0 (by omega) fq35_5 f40) e39' fq35_4 (g := (mkF m 79 #[.val (.int p1), .val (.long q2), .second, .val (.int n), .val (.ref b4), .val (.ref f0), .unset] [(.ref f0)])) rfl (by rw [hml]; rfl) (argsL := []) (rest := []) rfl (lenOf pd_6 rfl) rfl (W := 0) (by show 2 * 0 + _ ≤ _; exact Nat.le_of_eq rfl) (hb hby at_79) (by decide) (by decide) (by decide) (by decide)
  obtain ⟨rfl, Nq43, hs43⟩ := hQ43
  have N43 := Fr.app N39 Nq43
  have e43' : T43.heap = h35 := e43.trans hs43
  have k44 : Rch p e below (s₁.setTop (entryFrame m #[(.int p1), (.long q2)] maxLocals)) T43 (mkF m 82 #[.val (.int p1), .val (.long q2), .second, .val (.int n), .val (.ref b4), .val (.ref f0), .unset] [(.int n)]) := fun tg kg => k42 tg (st43 tg kg)
  have k45 : Rch p e below (s₁.setTop (entryFrame m #[(.int p1), (.long q2)] maxLocals)) T43 (mkF m 90 #[.val (.int p1), .val (.long q2), .second, .val (.int n), .val (.ref b4), .val (.ref f0), .unset] [(.ref f0)]) := fun tg kg => by
    refine k44 tg ?_
    show Steps p.tables e below (T43.setTop (mkF m 82 #[.val (.int p1), .val (.long q2), .second, .val (.int n), .val (.ref b4), .val (.ref f0), .unset] [(.int n)])) tg
    refine XS.iloadN X43.here hx rfl (hb hby at_82) rfl ?_
    show Steps p.tables e below (T43.setTop (mkF m 83 #[.val (.int p1), .val (.long q2), .second, .val (.int n), .val (.ref b4), .val (.ref f0), .unset] [(.int n), (.int n)])) tg
    refine XS.icmpYes X43.here hx rfl (pc0 := 83) (pc' := 88) rfl (hb hby at_83) rfl (teq rfl).1 (by decide) (by decide) ?_
    show Steps p.tables e below (T43.setTop (mkF m 88 #[.val (.int p1), .val (.long q2), .second, .val (.int n), .val (.ref b4), .val (.ref f0), .unset] [])) tg
    refine XS.aload X43.here hx rfl (hb hby at_88) rfl rfl ?_
    exact kg
  obtain ⟨v46, T46, h46, Lc46, X46, e46, hQ46, st46⟩ := own_callV X43 hx hZ35 hown35 (hw _ (List.mem_of_getElem? (i := 44) rfl)) (hw _ (List.mem_of_getElem? (i := 45) rfl)) (notFace_of_selects (args := #[]) (mvT hZ35 (hw _ (List.mem_of_getElem? (i := 47) rfl)))) (hw _ (List.mem_of_getElem? (i := 47) rfl)) (hw _ (List.mem_of_getElem? (i := 46) rfl)) (hw _ (List.mem_of_getElem? (i := 48) rfl)) (hw _ (List.mem_of_getElem? (i := 7) rfl)) (by decide) (rm_bytes l Z a0 hw [] f0 b4 n c4 ([(.int (own_byte q2 (0 : Int32))), (.int (own_byte q2 (1 : Int32))), (.int (own_byte q2 (2 : Int32))), (.int (own_byte q2 (3 : Int32))), (.int (own_byte q2 (4 : Int32))), (.int (own_byte q2 (5 : Int32))), (.int (own_byte q2 (6 : Int32)))]) h35 n0 (by omega) fq35_5 f40) e43' fq35_4 (g := (mkF m 90 #[.val (.int p1), .val (.long q2), .second, .val (.int n), .val (.ref b4), .val (.ref f0), .unset] [(.ref f0)])) rfl (by rw [hml]; rfl) (argsL := []) (rest := []) rfl (lenOf pd_7 rfl) rfl (W := 0) (by show 2 * 0 + _ ≤ _; exact Nat.le_of_eq rfl) (hb hby at_90) (by decide) (by decide) (by decide) (by decide)
  obtain ⟨rfl, Nq46, hs46⟩ := hQ46
  have N46 := Fr.app N43 Nq46
  have e46' : T46.heap = h35 := e46.trans hs46
  have k47 : Rch p e below (s₁.setTop (entryFrame m #[(.int p1), (.long q2)] maxLocals)) T46 (mkF m 93 #[.val (.int p1), .val (.long q2), .second, .val (.int n), .val (.ref b4), .val (.ref f0), .unset] [(.ref b4)]) := fun tg kg => k45 tg (st46 tg kg)
  have k48 : Rch p e below (s₁.setTop (entryFrame m #[(.int p1), (.long q2)] maxLocals)) T46 (mkF m 106 #[.val (.int p1), .val (.long q2), .second, .val (.int n), .val (.ref b4), .val (.ref f0), .val (.ref b4)] [(.ref b4)]) := fun tg kg => by
    refine k47 tg ?_
    show Steps p.tables e below (T46.setTop (mkF m 93 #[.val (.int p1), .val (.long q2), .second, .val (.int n), .val (.ref b4), .val (.ref f0), .unset] [(.ref b4)])) tg
    refine XS.astore X46.here hx rfl (hb hby at_93) rfl rfl (l' := #[.val (.int p1), .val (.long q2), .second, .val (.int n), .val (.ref b4), .val (.ref f0), .val (.ref b4)]) rfl ?_
    show Steps p.tables e below (T46.setTop (mkF m 95 #[.val (.int p1), .val (.long q2), .second, .val (.int n), .val (.ref b4), .val (.ref f0), .val (.ref b4)] [])) tg
    refine XS.aload X46.here hx rfl (hb hby at_95) rfl rfl ?_
    show Steps p.tables e below (T46.setTop (mkF m 97 #[.val (.int p1), .val (.long q2), .second, .val (.int n), .val (.ref b4), .val (.ref f0), .val (.ref b4)] [(.ref b4)])) tg
    refine XS.aload X46.here hx rfl (hb hby at_97) rfl rfl ?_
    show Steps p.tables e below (T46.setTop (mkF m 99 #[.val (.int p1), .val (.long q2), .second, .val (.int n), .val (.ref b4), .val (.ref f0), .val (.ref b4)] [(.ref b4), (.ref b4)])) tg
    refine Jvm.RoadKit.acmp (g := (mkF m 99 #[.val (.int p1), .val (.long q2), .second, .val (.int n), .val (.ref b4), .val (.ref f0), .val (.ref b4)] [(.ref b4), (.ref b4)])) X46 hx rfl rfl rfl (pc0 := 99) (pc' := 104) (same := true) rfl (hb hby at_99) rfl (decide_eq_true rfl) (by decide) (by decide) ?_
    show Steps p.tables e below (T46.setTop (mkF m 104 #[.val (.int p1), .val (.long q2), .second, .val (.int n), .val (.ref b4), .val (.ref f0), .val (.ref b4)] [])) tg
    refine XS.aload X46.here hx rfl (hb hby at_104) rfl rfl ?_
    exact kg
  obtain ⟨cl49, Ar49, q49, S49, M49, H49, G49⟩ := id f40
  have k50 : Rch p e below (s₁.setTop (entryFrame m #[(.int p1), (.long q2)] maxLocals)) T46 (mkF m 117 #[.val (.int p1), .val (.long q2), .second, .val (.int n), .val (.ref b4), .val (.ref f0), .val (.ref b4)] [(.long q2), (.int (0 : Int32)), (.ref b4)]) := fun tg kg => by
    refine k48 tg ?_
    show Steps p.tables e below (T46.setTop (mkF m 106 #[.val (.int p1), .val (.long q2), .second, .val (.int n), .val (.ref b4), .val (.ref f0), .val (.ref b4)] [(.ref b4)])) tg
    refine X46.arraylength hx (by rw [e46']; exact Ar49.1) (State.isArrayOf_alike hZ35.alike Ar49.2.1) (g := (mkF m 106 #[.val (.int p1), .val (.long q2), .second, .val (.int n), .val (.ref b4), .val (.ref f0), .val (.ref b4)] [(.ref b4)])) rfl rfl (hb hby at_106) _ ?_
    rw [len_of S49 M49]
    show Steps p.tables e below (T46.setTop (mkF m 107 #[.val (.int p1), .val (.long q2), .second, .val (.int n), .val (.ref b4), .val (.ref f0), .val (.ref b4)] [(.int n)])) tg
    refine XS.iloadN X46.here hx rfl (hb hby at_107) rfl ?_
    show Steps p.tables e below (T46.setTop (mkF m 108 #[.val (.int p1), .val (.long q2), .second, .val (.int n), .val (.ref b4), .val (.ref f0), .val (.ref b4)] [(.int n), (.int n)])) tg
    refine XS.icmpYes X46.here hx rfl (pc0 := 108) (pc' := 113) rfl (hb hby at_108) rfl (teq rfl).1 (by decide) (by decide) ?_
    show Steps p.tables e below (T46.setTop (mkF m 113 #[.val (.int p1), .val (.long q2), .second, .val (.int n), .val (.ref b4), .val (.ref f0), .val (.ref b4)] [])) tg
    refine XS.aload X46.here hx rfl (hb hby at_113) rfl rfl ?_
    show Steps p.tables e below (T46.setTop (mkF m 115 #[.val (.int p1), .val (.long q2), .second, .val (.int n), .val (.ref b4), .val (.ref f0), .val (.ref b4)] [(.ref b4)])) tg
    refine XS.iconst X46.here hx rfl (hb hby at_115) ?_
    show Steps p.tables e below (T46.setTop (mkF m 116 #[.val (.int p1), .val (.long q2), .second, .val (.int n), .val (.ref b4), .val (.ref f0), .val (.ref b4)] [(.int (0 : Int32)), (.ref b4)])) tg
    refine XS.lloadN X46.here hx rfl (hb hby at_116) rfl ?_
    exact kg
  obtain ⟨v51, T51, h51, Lc51, X51, e51, hQ51, st51⟩ := own_callS X46 hx hZ35 hown35 (hw _ (List.mem_of_getElem? (i := 49) rfl)) (hw _ (List.mem_of_getElem? (i := 50) rfl)) (hw _ (List.mem_of_getElem? (i := 3) rfl)) (hw _ (List.mem_of_getElem? (i := 51) rfl)) (by decide) (rm_at l Z a0 hw [] b4 (0 : Int32) q2 n c4 ([(.int (own_byte q2 (0 : Int32))), (.int (own_byte q2 (1 : Int32))), (.int (own_byte q2 (2 : Int32))), (.int (own_byte q2 (3 : Int32))), (.int (own_byte q2 (4 : Int32))), (.int (own_byte q2 (5 : Int32))), (.int (own_byte q2 (6 : Int32)))]) h35 n0 (by omega) f40 (by decide) rfl) e46' (g := (mkF m 117 #[.val (.int p1), .val (.long q2), .second, .val (.int n), .val (.ref b4), .val (.ref f0), .val (.ref b4)] [(.long q2), (.int (0 : Int32)), (.ref b4)])) rfl (by rw [hml]; rfl) (argsL := [(.ref b4), (.int (0 : Int32)), (.long q2)]) (rest := []) rfl (lenOf pd_8 rfl) rfl (W := 0) (by show 2 * 0 + _ ≤ _; exact Nat.le_of_eq rfl) (hb hby at_117) (by decide) (by decide) (by decide) (by decide)
  obtain ⟨rfl, Nq51, hs51⟩ := hQ51
  have N51 := Fr.app N46 Nq51
  have e51' : T51.heap = h35 := e51.trans hs51
  have k52 : Rch p e below (s₁.setTop (entryFrame m #[(.int p1), (.long q2)] maxLocals)) T51 (mkF m 120 #[.val (.int p1), .val (.long q2), .second, .val (.int n), .val (.ref b4), .val (.ref f0), .val (.ref b4)] [(.int (1 : Int32))]) := fun tg kg => k50 tg (st51 tg kg)
  have k53 : Rch p e below (s₁.setTop (entryFrame m #[(.int p1), (.long q2)] maxLocals)) T51 (mkF m 127 #[.val (.int p1), .val (.long q2), .second, .val (.int n), .val (.ref b4), .val (.ref f0), .val (.ref b4)] [(.long q2), (.int (1 : Int32)), (.ref b4)]) := fun tg kg => by
    refine k52 tg ?_
    show Steps p.tables e below (T51.setTop (mkF m 120 #[.val (.int p1), .val (.long q2), .second, .val (.int n), .val (.ref b4), .val (.ref f0), .val (.ref b4)] [(.int (1 : Int32))])) tg
    refine XS.ifNo X51.here hx rfl (hb hby at_120) rfl ((if0 _ _).trans (feq (by decide)).1) ?_
    show Steps p.tables e below (T51.setTop (mkF m 123 #[.val (.int p1), .val (.long q2), .second, .val (.int n), .val (.ref b4), .val (.ref f0), .val (.ref b4)] [])) tg
    refine XS.aload X51.here hx rfl (hb hby at_123) rfl rfl ?_
    show Steps p.tables e below (T51.setTop (mkF m 125 #[.val (.int p1), .val (.long q2), .second, .val (.int n), .val (.ref b4), .val (.ref f0), .val (.ref b4)] [(.ref b4)])) tg
    refine XS.iconst X51.here hx rfl (hb hby at_125) ?_
    show Steps p.tables e below (T51.setTop (mkF m 126 #[.val (.int p1), .val (.long q2), .second, .val (.int n), .val (.ref b4), .val (.ref f0), .val (.ref b4)] [(.int (1 : Int32)), (.ref b4)])) tg
    refine XS.lloadN X51.here hx rfl (hb hby at_126) rfl ?_
    exact kg
  obtain ⟨v54, T54, h54, Lc54, X54, e54, hQ54, st54⟩ := own_callS X51 hx hZ35 hown35 (hw _ (List.mem_of_getElem? (i := 49) rfl)) (hw _ (List.mem_of_getElem? (i := 50) rfl)) (hw _ (List.mem_of_getElem? (i := 3) rfl)) (hw _ (List.mem_of_getElem? (i := 51) rfl)) (by decide) (rm_at l Z a0 hw [] b4 (1 : Int32) q2 n c4 ([(.int (own_byte q2 (0 : Int32))), (.int (own_byte q2 (1 : Int32))), (.int (own_byte q2 (2 : Int32))), (.int (own_byte q2 (3 : Int32))), (.int (own_byte q2 (4 : Int32))), (.int (own_byte q2 (5 : Int32))), (.int (own_byte q2 (6 : Int32)))]) h35 n0 (by omega) f40 (by decide) rfl) e51' (g := (mkF m 127 #[.val (.int p1), .val (.long q2), .second, .val (.int n), .val (.ref b4), .val (.ref f0), .val (.ref b4)] [(.long q2), (.int (1 : Int32)), (.ref b4)])) rfl (by rw [hml]; rfl) (argsL := [(.ref b4), (.int (1 : Int32)), (.long q2)]) (rest := []) rfl (lenOf pd_8 rfl) rfl (W := 0) (by show 2 * 0 + _ ≤ _; exact Nat.le_of_eq rfl) (hb hby at_127) (by decide) (by decide) (by decide) (by decide)
  obtain ⟨rfl, Nq54, hs54⟩ := hQ54
  have N54 := Fr.app N51 Nq54
  have e54' : T54.heap = h35 := e54.trans hs54
  have k55 : Rch p e below (s₁.setTop (entryFrame m #[(.int p1), (.long q2)] maxLocals)) T54 (mkF m 130 #[.val (.int p1), .val (.long q2), .second, .val (.int n), .val (.ref b4), .val (.ref f0), .val (.ref b4)] [(.int (1 : Int32))]) := fun tg kg => k53 tg (st54 tg kg)
  have k56 : Rch p e below (s₁.setTop (entryFrame m #[(.int p1), (.long q2)] maxLocals)) T54 (mkF m 137 #[.val (.int p1), .val (.long q2), .second, .val (.int n), .val (.ref b4), .val (.ref f0), .val (.ref b4)] [(.long q2), (.int (2 : Int32)), (.ref b4)]) := fun tg kg => by
    refine k55 tg ?_
    show Steps p.tables e below (T54.setTop (mkF m 130 #[.val (.int p1), .val (.long q2), .second, .val (.int n), .val (.ref b4), .val (.ref f0), .val (.ref b4)] [(.int (1 : Int32))])) tg
    refine XS.ifNo X54.here hx rfl (hb hby at_130) rfl ((if0 _ _).trans (feq (by decide)).1) ?_
    show Steps p.tables e below (T54.setTop (mkF m 133 #[.val (.int p1), .val (.long q2), .second, .val (.int n), .val (.ref b4), .val (.ref f0), .val (.ref b4)] [])) tg
    refine XS.aload X54.here hx rfl (hb hby at_133) rfl rfl ?_
    show Steps p.tables e below (T54.setTop (mkF m 135 #[.val (.int p1), .val (.long q2), .second, .val (.int n), .val (.ref b4), .val (.ref f0), .val (.ref b4)] [(.ref b4)])) tg
    refine XS.iconst X54.here hx rfl (hb hby at_135) ?_
    show Steps p.tables e below (T54.setTop (mkF m 136 #[.val (.int p1), .val (.long q2), .second, .val (.int n), .val (.ref b4), .val (.ref f0), .val (.ref b4)] [(.int (2 : Int32)), (.ref b4)])) tg
    refine XS.lloadN X54.here hx rfl (hb hby at_136) rfl ?_
    exact kg
  obtain ⟨v57, T57, h57, Lc57, X57, e57, hQ57, st57⟩ := own_callS X54 hx hZ35 hown35 (hw _ (List.mem_of_getElem? (i := 49) rfl)) (hw _ (List.mem_of_getElem? (i := 50) rfl)) (hw _ (List.mem_of_getElem? (i := 3) rfl)) (hw _ (List.mem_of_getElem? (i := 51) rfl)) (by decide) (rm_at l Z a0 hw [] b4 (2 : Int32) q2 n c4 ([(.int (own_byte q2 (0 : Int32))), (.int (own_byte q2 (1 : Int32))), (.int (own_byte q2 (2 : Int32))), (.int (own_byte q2 (3 : Int32))), (.int (own_byte q2 (4 : Int32))), (.int (own_byte q2 (5 : Int32))), (.int (own_byte q2 (6 : Int32)))]) h35 n0 (by omega) f40 (by decide) rfl) e54' (g := (mkF m 137 #[.val (.int p1), .val (.long q2), .second, .val (.int n), .val (.ref b4), .val (.ref f0), .val (.ref b4)] [(.long q2), (.int (2 : Int32)), (.ref b4)])) rfl (by rw [hml]; rfl) (argsL := [(.ref b4), (.int (2 : Int32)), (.long q2)]) (rest := []) rfl (lenOf pd_8 rfl) rfl (W := 0) (by show 2 * 0 + _ ≤ _; exact Nat.le_of_eq rfl) (hb hby at_137) (by decide) (by decide) (by decide) (by decide)
  obtain ⟨rfl, Nq57, hs57⟩ := hQ57
  have N57 := Fr.app N54 Nq57
  have e57' : T57.heap = h35 := e57.trans hs57
  have k58 : Rch p e below (s₁.setTop (entryFrame m #[(.int p1), (.long q2)] maxLocals)) T57 (mkF m 140 #[.val (.int p1), .val (.long q2), .second, .val (.int n), .val (.ref b4), .val (.ref f0), .val (.ref b4)] [(.int (1 : Int32))]) := fun tg kg => k56 tg (st57 tg kg)
  have k59 : Rch p e below (s₁.setTop (entryFrame m #[(.int p1), (.long q2)] maxLocals)) T57 (mkF m 147 #[.val (.int p1), .val (.long q2), .second, .val (.int n), .val (.ref b4), .val (.ref f0), .val (.ref b4)] [(.long q2), (.int (3 : Int32)), (.ref b4)]) := fun tg kg => by
    refine k58 tg ?_
    show Steps p.tables e below (T57.setTop (mkF m 140 #[.val (.int p1), .val (.long q2), .second, .val (.int n), .val (.ref b4), .val (.ref f0), .val (.ref b4)] [(.int (1 : Int32))])) tg
    refine XS.ifNo X57.here hx rfl (hb hby at_140) rfl ((if0 _ _).trans (feq (by decide)).1) ?_
    show Steps p.tables e below (T57.setTop (mkF m 143 #[.val (.int p1), .val (.long q2), .second, .val (.int n), .val (.ref b4), .val (.ref f0), .val (.ref b4)] [])) tg
    refine XS.aload X57.here hx rfl (hb hby at_143) rfl rfl ?_
    show Steps p.tables e below (T57.setTop (mkF m 145 #[.val (.int p1), .val (.long q2), .second, .val (.int n), .val (.ref b4), .val (.ref f0), .val (.ref b4)] [(.ref b4)])) tg
    refine XS.iconst X57.here hx rfl (hb hby at_145) ?_
    show Steps p.tables e below (T57.setTop (mkF m 146 #[.val (.int p1), .val (.long q2), .second, .val (.int n), .val (.ref b4), .val (.ref f0), .val (.ref b4)] [(.int (3 : Int32)), (.ref b4)])) tg
    refine XS.lloadN X57.here hx rfl (hb hby at_146) rfl ?_
    exact kg
  obtain ⟨v60, T60, h60, Lc60, X60, e60, hQ60, st60⟩ := own_callS X57 hx hZ35 hown35 (hw _ (List.mem_of_getElem? (i := 49) rfl)) (hw _ (List.mem_of_getElem? (i := 50) rfl)) (hw _ (List.mem_of_getElem? (i := 3) rfl)) (hw _ (List.mem_of_getElem? (i := 51) rfl)) (by decide) (rm_at l Z a0 hw [] b4 (3 : Int32) q2 n c4 ([(.int (own_byte q2 (0 : Int32))), (.int (own_byte q2 (1 : Int32))), (.int (own_byte q2 (2 : Int32))), (.int (own_byte q2 (3 : Int32))), (.int (own_byte q2 (4 : Int32))), (.int (own_byte q2 (5 : Int32))), (.int (own_byte q2 (6 : Int32)))]) h35 n0 (by omega) f40 (by decide) rfl) e57' (g := (mkF m 147 #[.val (.int p1), .val (.long q2), .second, .val (.int n), .val (.ref b4), .val (.ref f0), .val (.ref b4)] [(.long q2), (.int (3 : Int32)), (.ref b4)])) rfl (by rw [hml]; rfl) (argsL := [(.ref b4), (.int (3 : Int32)), (.long q2)]) (rest := []) rfl (lenOf pd_8 rfl) rfl (W := 0) (by show 2 * 0 + _ ≤ _; exact Nat.le_of_eq rfl) (hb hby at_147) (by decide) (by decide) (by decide) (by decide)
  obtain ⟨rfl, Nq60, hs60⟩ := hQ60
  have N60 := Fr.app N57 Nq60
  have e60' : T60.heap = h35 := e60.trans hs60
  have k61 : Rch p e below (s₁.setTop (entryFrame m #[(.int p1), (.long q2)] maxLocals)) T60 (mkF m 150 #[.val (.int p1), .val (.long q2), .second, .val (.int n), .val (.ref b4), .val (.ref f0), .val (.ref b4)] [(.int (1 : Int32))]) := fun tg kg => k59 tg (st60 tg kg)
  have k62 : Rch p e below (s₁.setTop (entryFrame m #[(.int p1), (.long q2)] maxLocals)) T60 (mkF m 157 #[.val (.int p1), .val (.long q2), .second, .val (.int n), .val (.ref b4), .val (.ref f0), .val (.ref b4)] [(.long q2), (.int (4 : Int32)), (.ref b4)]) := fun tg kg => by
    refine k61 tg ?_
    show Steps p.tables e below (T60.setTop (mkF m 150 #[.val (.int p1), .val (.long q2), .second, .val (.int n), .val (.ref b4), .val (.ref f0), .val (.ref b4)] [(.int (1 : Int32))])) tg
    refine XS.ifNo X60.here hx rfl (hb hby at_150) rfl ((if0 _ _).trans (feq (by decide)).1) ?_
    show Steps p.tables e below (T60.setTop (mkF m 153 #[.val (.int p1), .val (.long q2), .second, .val (.int n), .val (.ref b4), .val (.ref f0), .val (.ref b4)] [])) tg
    refine XS.aload X60.here hx rfl (hb hby at_153) rfl rfl ?_
    show Steps p.tables e below (T60.setTop (mkF m 155 #[.val (.int p1), .val (.long q2), .second, .val (.int n), .val (.ref b4), .val (.ref f0), .val (.ref b4)] [(.ref b4)])) tg
    refine XS.iconst X60.here hx rfl (hb hby at_155) ?_
    show Steps p.tables e below (T60.setTop (mkF m 156 #[.val (.int p1), .val (.long q2), .second, .val (.int n), .val (.ref b4), .val (.ref f0), .val (.ref b4)] [(.int (4 : Int32)), (.ref b4)])) tg
    refine XS.lloadN X60.here hx rfl (hb hby at_156) rfl ?_
    exact kg
  obtain ⟨v63, T63, h63, Lc63, X63, e63, hQ63, st63⟩ := own_callS X60 hx hZ35 hown35 (hw _ (List.mem_of_getElem? (i := 49) rfl)) (hw _ (List.mem_of_getElem? (i := 50) rfl)) (hw _ (List.mem_of_getElem? (i := 3) rfl)) (hw _ (List.mem_of_getElem? (i := 51) rfl)) (by decide) (rm_at l Z a0 hw [] b4 (4 : Int32) q2 n c4 ([(.int (own_byte q2 (0 : Int32))), (.int (own_byte q2 (1 : Int32))), (.int (own_byte q2 (2 : Int32))), (.int (own_byte q2 (3 : Int32))), (.int (own_byte q2 (4 : Int32))), (.int (own_byte q2 (5 : Int32))), (.int (own_byte q2 (6 : Int32)))]) h35 n0 (by omega) f40 (by decide) rfl) e60' (g := (mkF m 157 #[.val (.int p1), .val (.long q2), .second, .val (.int n), .val (.ref b4), .val (.ref f0), .val (.ref b4)] [(.long q2), (.int (4 : Int32)), (.ref b4)])) rfl (by rw [hml]; rfl) (argsL := [(.ref b4), (.int (4 : Int32)), (.long q2)]) (rest := []) rfl (lenOf pd_8 rfl) rfl (W := 0) (by show 2 * 0 + _ ≤ _; exact Nat.le_of_eq rfl) (hb hby at_157) (by decide) (by decide) (by decide) (by decide)
  obtain ⟨rfl, Nq63, hs63⟩ := hQ63
  have N63 := Fr.app N60 Nq63
  have e63' : T63.heap = h35 := e63.trans hs63
  have k64 : Rch p e below (s₁.setTop (entryFrame m #[(.int p1), (.long q2)] maxLocals)) T63 (mkF m 160 #[.val (.int p1), .val (.long q2), .second, .val (.int n), .val (.ref b4), .val (.ref f0), .val (.ref b4)] [(.int (1 : Int32))]) := fun tg kg => k62 tg (st63 tg kg)
  have k65 : Rch p e below (s₁.setTop (entryFrame m #[(.int p1), (.long q2)] maxLocals)) T63 (mkF m 167 #[.val (.int p1), .val (.long q2), .second, .val (.int n), .val (.ref b4), .val (.ref f0), .val (.ref b4)] [(.long q2), (.int (5 : Int32)), (.ref b4)]) := fun tg kg => by
    refine k64 tg ?_
    show Steps p.tables e below (T63.setTop (mkF m 160 #[.val (.int p1), .val (.long q2), .second, .val (.int n), .val (.ref b4), .val (.ref f0), .val (.ref b4)] [(.int (1 : Int32))])) tg
    refine XS.ifNo X63.here hx rfl (hb hby at_160) rfl ((if0 _ _).trans (feq (by decide)).1) ?_
    show Steps p.tables e below (T63.setTop (mkF m 163 #[.val (.int p1), .val (.long q2), .second, .val (.int n), .val (.ref b4), .val (.ref f0), .val (.ref b4)] [])) tg
    refine XS.aload X63.here hx rfl (hb hby at_163) rfl rfl ?_
    show Steps p.tables e below (T63.setTop (mkF m 165 #[.val (.int p1), .val (.long q2), .second, .val (.int n), .val (.ref b4), .val (.ref f0), .val (.ref b4)] [(.ref b4)])) tg
    refine XS.iconst X63.here hx rfl (hb hby at_165) ?_
    show Steps p.tables e below (T63.setTop (mkF m 166 #[.val (.int p1), .val (.long q2), .second, .val (.int n), .val (.ref b4), .val (.ref f0), .val (.ref b4)] [(.int (5 : Int32)), (.ref b4)])) tg
    refine XS.lloadN X63.here hx rfl (hb hby at_166) rfl ?_
    exact kg
  obtain ⟨v66, T66, h66, Lc66, X66, e66, hQ66, st66⟩ := own_callS X63 hx hZ35 hown35 (hw _ (List.mem_of_getElem? (i := 49) rfl)) (hw _ (List.mem_of_getElem? (i := 50) rfl)) (hw _ (List.mem_of_getElem? (i := 3) rfl)) (hw _ (List.mem_of_getElem? (i := 51) rfl)) (by decide) (rm_at l Z a0 hw [] b4 (5 : Int32) q2 n c4 ([(.int (own_byte q2 (0 : Int32))), (.int (own_byte q2 (1 : Int32))), (.int (own_byte q2 (2 : Int32))), (.int (own_byte q2 (3 : Int32))), (.int (own_byte q2 (4 : Int32))), (.int (own_byte q2 (5 : Int32))), (.int (own_byte q2 (6 : Int32)))]) h35 n0 (by omega) f40 (by decide) rfl) e63' (g := (mkF m 167 #[.val (.int p1), .val (.long q2), .second, .val (.int n), .val (.ref b4), .val (.ref f0), .val (.ref b4)] [(.long q2), (.int (5 : Int32)), (.ref b4)])) rfl (by rw [hml]; rfl) (argsL := [(.ref b4), (.int (5 : Int32)), (.long q2)]) (rest := []) rfl (lenOf pd_8 rfl) rfl (W := 0) (by show 2 * 0 + _ ≤ _; exact Nat.le_of_eq rfl) (hb hby at_167) (by decide) (by decide) (by decide) (by decide)
  obtain ⟨rfl, Nq66, hs66⟩ := hQ66
  have N66 := Fr.app N63 Nq66
  have e66' : T66.heap = h35 := e66.trans hs66
  have k67 : Rch p e below (s₁.setTop (entryFrame m #[(.int p1), (.long q2)] maxLocals)) T66 (mkF m 170 #[.val (.int p1), .val (.long q2), .second, .val (.int n), .val (.ref b4), .val (.ref f0), .val (.ref b4)] [(.int (1 : Int32))]) := fun tg kg => k65 tg (st66 tg kg)
  have k68 : Rch p e below (s₁.setTop (entryFrame m #[(.int p1), (.long q2)] maxLocals)) T66 (mkF m 178 #[.val (.int p1), .val (.long q2), .second, .val (.int n), .val (.ref b4), .val (.ref f0), .val (.ref b4)] [(.long q2), (.int (6 : Int32)), (.ref b4)]) := fun tg kg => by
    refine k67 tg ?_
    show Steps p.tables e below (T66.setTop (mkF m 170 #[.val (.int p1), .val (.long q2), .second, .val (.int n), .val (.ref b4), .val (.ref f0), .val (.ref b4)] [(.int (1 : Int32))])) tg
    refine XS.ifNo X66.here hx rfl (hb hby at_170) rfl ((if0 _ _).trans (feq (by decide)).1) ?_
    show Steps p.tables e below (T66.setTop (mkF m 173 #[.val (.int p1), .val (.long q2), .second, .val (.int n), .val (.ref b4), .val (.ref f0), .val (.ref b4)] [])) tg
    refine XS.aload X66.here hx rfl (hb hby at_173) rfl rfl ?_
    show Steps p.tables e below (T66.setTop (mkF m 175 #[.val (.int p1), .val (.long q2), .second, .val (.int n), .val (.ref b4), .val (.ref f0), .val (.ref b4)] [(.ref b4)])) tg
    refine XS.bipush X66.here hx rfl (hb hby at_175) ?_
    show Steps p.tables e below (T66.setTop (mkF m 177 #[.val (.int p1), .val (.long q2), .second, .val (.int n), .val (.ref b4), .val (.ref f0), .val (.ref b4)] [(.int (6 : Int32)), (.ref b4)])) tg
    refine XS.lloadN X66.here hx rfl (hb hby at_177) rfl ?_
    exact kg
  obtain ⟨v69, T69, h69, Lc69, X69, e69, hQ69, st69⟩ := own_callS X66 hx hZ35 hown35 (hw _ (List.mem_of_getElem? (i := 49) rfl)) (hw _ (List.mem_of_getElem? (i := 50) rfl)) (hw _ (List.mem_of_getElem? (i := 3) rfl)) (hw _ (List.mem_of_getElem? (i := 51) rfl)) (by decide) (rm_at l Z a0 hw [] b4 (6 : Int32) q2 n c4 ([(.int (own_byte q2 (0 : Int32))), (.int (own_byte q2 (1 : Int32))), (.int (own_byte q2 (2 : Int32))), (.int (own_byte q2 (3 : Int32))), (.int (own_byte q2 (4 : Int32))), (.int (own_byte q2 (5 : Int32))), (.int (own_byte q2 (6 : Int32)))]) h35 n0 (by omega) f40 (by decide) rfl) e66' (g := (mkF m 178 #[.val (.int p1), .val (.long q2), .second, .val (.int n), .val (.ref b4), .val (.ref f0), .val (.ref b4)] [(.long q2), (.int (6 : Int32)), (.ref b4)])) rfl (by rw [hml]; rfl) (argsL := [(.ref b4), (.int (6 : Int32)), (.long q2)]) (rest := []) rfl (lenOf pd_8 rfl) rfl (W := 0) (by show 2 * 0 + _ ≤ _; exact Nat.le_of_eq rfl) (hb hby at_178) (by decide) (by decide) (by decide) (by decide)
  obtain ⟨rfl, Nq69, hs69⟩ := hQ69
  have N69 := Fr.app N66 Nq69
  have e69' : T69.heap = h35 := e69.trans hs69
  have k70 : Rch p e below (s₁.setTop (entryFrame m #[(.int p1), (.long q2)] maxLocals)) T69 (mkF m 181 #[.val (.int p1), .val (.long q2), .second, .val (.int n), .val (.ref b4), .val (.ref f0), .val (.ref b4)] [(.int (1 : Int32))]) := fun tg kg => k68 tg (st69 tg kg)
  have k71 : Rch p e below (s₁.setTop (entryFrame m #[(.int p1), (.long q2)] maxLocals)) T69 (mkF m 189 #[.val (.int p1), .val (.long q2), .second, .val (.int n), .val (.ref b4), .val (.ref f0), .val (.ref b4)] [(.int (1 : Int32))]) := fun tg kg => by
    refine k70 tg ?_
    show Steps p.tables e below (T69.setTop (mkF m 181 #[.val (.int p1), .val (.long q2), .second, .val (.int n), .val (.ref b4), .val (.ref f0), .val (.ref b4)] [(.int (1 : Int32))])) tg
    refine XS.ifNo X69.here hx rfl (hb hby at_181) rfl ((if0 _ _).trans (feq (by decide)).1) ?_
    show Steps p.tables e below (T69.setTop (mkF m 184 #[.val (.int p1), .val (.long q2), .second, .val (.int n), .val (.ref b4), .val (.ref f0), .val (.ref b4)] [])) tg
    refine XS.iconst X69.here hx rfl (hb hby at_184) ?_
    show Steps p.tables e below (T69.setTop (mkF m 185 #[.val (.int p1), .val (.long q2), .second, .val (.int n), .val (.ref b4), .val (.ref f0), .val (.ref b4)] [(.int (1 : Int32))])) tg
    refine XS.goto X69.here hx rfl (pc0 := 185) (pc' := 189) rfl (hb hby at_185) (by decide) (by decide) ?_
    exact kg
  obtain ⟨fs72, hr72, hrun72, hended72, hEnd72⟩ := X69.leaveW hS35 (by rw [e69']; first | exact Nat.le_refl _ | omega) (v := some (.int (nar .boolean (1 : Int32)))) (fun h => by rw [Bd.returns] at h; cases h)
  refine ⟨_, _, k71 _ ?_, hrun72, hended72, _, _, rfl, ?_, hEnd72.1, hEnd72.2.1, hEnd72.2.2.1, hEnd72.2.2.2.mono (by decide) (by decide)⟩
  · exact retN X69 hx (t := .boolean) Bd.returns (by simp) (hb hby at_189) hr72
  · show Q_rm0 Z p1 q2 h0 n0 _ T69.heap _
    rw [e69']
    exact ⟨rfl, N69⟩
set_option maxRecDepth 65536 in
set_option maxHeartbeats 40000000 in
theorem comes_1 {Post : Tables → Env → Array Value → State → Outcome → State → Prop} (hpost : ∀ tb e args s v u, (limb_1_1.after args s (.returned v) u = true ∧ limb_1_2.after args s (.returned v) u = true ∧ True) → ReturnedEndW s (.returned v) u (Jvm.fieldLocs frame_1_writes args s ++ Jvm.arrayLocs frame_1_arrays args s ++ Jvm.staticLocs frame_1_statics s) 16 1152 → Post tb e args s (.returned v) u) :
    ArmFor flags0 classFile x code maxLocals ret World_1 tables_1 room_1 Calls_1 rest_1 Pre_1 Post := by
  intro l hfl _ _ p e ha hc hk s m args below hf hA hF happ hP
  obtain ⟨hcalls, hrest, hpre⟩ := hP
  obtain ⟨-, -, -, hnamed, -, -, -, hat⟩ := (Spec.applies_iff hf).mp happ
  obtain ⟨hg, hn⟩ := and_e (Cond.before_iff.mp (show (Jvm.Cond.and given_1 narrow_1).before args s = true from hpre))
  obtain ⟨g1, g2⟩ := and_e hg
  obtain ⟨g3, g4⟩ := and_e g2
  obtain ⟨w0, w1, rfl⟩ : ∃ w0 w1 : Value, args = #[w0, w1] := by
    have hs : args.size = 2 := by simpa [Cond.value, given_1] using g1
    obtain ⟨L⟩ := args
    match L, hs with
    | [w0, w1], _ => exact ⟨w0, w1, rfl⟩
  have hw := fun d (hd : d ∈ tables_1) => atoms_spec (ws := Jvm.Cond.code x code maxLocals ret :: tables_1) hat d (List.mem_cons_of_mem _ hd)
  have hfit : Fit s := fun {y c} hc i hi => by
    obtain ⟨ha, rfl⟩ := Array.getElem?_eq_some_iff.mp hc
    have q := List.all_eq_true.mp ((Array.all_eq_true_iff_forall_mem.mp hF) _ (Array.getElem_mem ha)) i (List.mem_range.mpr hi)
    simpa [Array.getElem?_eq_getElem hi] using q
  obtain ⟨i0, ei0⟩ := is_v g3
  obtain rfl : w0 = (.int i0) := Option.some.inj ei0
  obtain ⟨i1, ei1⟩ := isL_v g4
  obtain rfl : w1 = (.long i1) := Option.some.inj ei1
  obtain ⟨n, o, h1, h2, h3, _, L, rfl, ⟨rfl, N⟩, hq⟩ := rm0 l s _ hw tables_1 i0 i1 s.heap s.heap.size (Nat.le_refl _)  p e ha hc hk s m _ below hf ((Spec.applies_iff_loose hf).mp happ).1 ⟨rfl, State.Warmed39.refl s, rfl⟩ trivial
  refine ⟨n, _, h1, h2, h3, hpost _ _ _ _ _ _ ⟨Cond.after_iff.mpr rfl, Cond.after_iff.mpr (eq_i res_at (Term.int_eval (1)) rfl), trivial⟩ ⟨hq.1, hq.2.1, hq.2.2.1, (hq.2.2.2.sift fun y hy => Or.inr (N y hy)).mono (by decide) (by decide)⟩⟩
theorem main_1_1 : Claimed_1_1 := comes_1 fun _ _ _ _ _ _ h hF => ⟨h.1, hF⟩
theorem main_1_2 : Claimed_1_2 := comes_1 fun _ _ _ _ _ _ h hF => ⟨h.2.1, hF⟩
end Jvm.Pilot.@@N@@
namespace Jvm.Pilot.@@N@@
open Jvm Jvm.ClassFile Sem Op Lib Jvm.Free Jvm.Stand Jvm.Pilot.@@N@@.Jvm.D
/-! MADE BY PROGRAM (witnessworld.py) out of the Statement's table words and the real class files: 15 classes; the members and pool entries that the words name. The judged class is class 1, her method 1. -/
namespace start1
open Jvm.ClassFile
def u (s : String) : CpInfo := .utf8 (stringToUtf16 s)
/-- a pool by its gaps: so many unusable entries, then the entry; so many at the end -/
def gap : Nat → List CpInfo → List CpInfo
  | 0, r => r
  | n + 1, r => .unusable :: gap n r
def poolList (es : List (Nat × CpInfo)) (last : Nat) : List CpInfo := es.foldr (fun e r => gap e.1 (e.2 :: r)) (gap last [])
def pool (es : List (Nat × CpInfo)) (last : Nat) : Array CpInfo := ⟨poolList es last⟩
def fileOf (pool : Array CpInfo) (this : Nat) (attrs : Array Attribute := #[]) (ms : Array MethodInfo := #[]) (fl : Nat := 33) (sup : Nat := 0) (ifs : Array Nat := #[]) (fds : Array FieldInfo := #[]) : ClassFile where
  minorVersion := 0
  majorVersion := 65
  constantPool := pool
  accessFlags := fl
  thisClass := this
  superClass := sup
  interfaces := ifs
  fields := fds
  methods := ms
  attributes := attrs
def plain (name : String) (sup : Option ClassId) : Class where
  name := name
  kind := .ordinary
  loader := none
  accessFlags := 33
  super := sup
  interfaces := #[]
  cf := none
  fields := #[]
  methods := #[]
  instanceTypes := #[]
  staticTypes := #[]
  resolved := #[]
  callSites := []
  init := .initialized
  statics := none
  mirror := none

def pool0 : Array CpInfo := pool [(5, u "<init>"), (0, u "()V"), (1, .class_ 10), (1, u "java/lang/Object")] 113

def k0c0 : Code := { maxStack := 0, maxLocals := 1, code := object_method_1_code, exceptionTable := #[], attributes := #[] }
def k0m0 : Method := { name := "<init>", desc := "()V", sig := { parameters := [], returnType := none }, accessFlags := 1, code := some k0c0 }
/-- java/lang/Object -/
def k0 : Class := { plain "java/lang/Object" none with
  accessFlags := 33
  interfaces := #[]
  cf := some (fileOf pool0 8 #[] #[{ accessFlags := 1, nameIndex := 5, descriptorIndex := 6, attributes := #[] }] 33 0 #[] #[])
  fields := #[]
  methods := #[k0m0]
  instanceTypes := #[]
  staticTypes := #[]
  resolved := Array.replicate 124 none
  statics := none }

def pool1 : Array CpInfo := pool [(2, .class_ 4), (1, u "java/lang/Object"), (0, u "<init>"), (0, u "()V"), (0, .methodref 8 9), (0, .class_ 10), (0, .nameAndType 11 12), (0, u "com/example/blindhop/blindhop/wamp/FrameBinaryPinLaw"), (0, u "put"), (0, u "([BIJ)V"), (0, .methodref 14 15), (0, .class_ 16), (0, .nameAndType 17 18), (0, u "com/example/blindhop/blindhop/wamp/Frame"), (0, u "binary"), (0, u "([B)Lcom/example/blindhop/blindhop/wamp/Frame;"), (0, .methodref 14 20), (0, .nameAndType 21 22), (0, u "isBinary"), (0, u "()Z"), (0, .methodref 14 24), (0, .nameAndType 25 26), (0, u "size"), (0, u "()I"), (0, .methodref 14 28), (0, .nameAndType 29 30), (0, u "bytes"), (0, u "()[B"), (0, .methodref 8 32), (0, .nameAndType 33 34), (0, u "at"), (0, u "([BIJ)Z"), (0, .methodref 8 36), (0, .nameAndType 37 38), (0, u "byteAt"), (0, u "(JI)B"), (2, u "law"), (0, u "(IJ)Z")] 5

def k1m0 : Method := { name := "<init>", desc := "()V", sig := { parameters := [], returnType := none }, accessFlags := 1, code := none }
def k1c1 : Code := { maxStack := 4, maxLocals := 7, code := code, exceptionTable := #[], attributes := #[] }
def k1m1 : Method := { name := "law", desc := "(IJ)Z", sig := { parameters := [.int, .long], returnType := some .boolean }, accessFlags := 9, code := some k1c1 }
def k1c2 : Code := { maxStack := 4, maxLocals := 3, code := method_3_code, exceptionTable := #[], attributes := #[] }
def k1m2 : Method := { name := "byteAt", desc := "(JI)B", sig := { parameters := [.long, .int], returnType := some .byte }, accessFlags := 10, code := some k1c2 }
def k1c3 : Code := { maxStack := 5, maxLocals := 4, code := method_4_code, exceptionTable := #[], attributes := #[] }
def k1m3 : Method := { name := "put", desc := "([BIJ)V", sig := { parameters := [(.array .byte), .int, .long], returnType := none }, accessFlags := 10, code := some k1c3 }
def k1c4 : Code := { maxStack := 4, maxLocals := 4, code := method_5_code, exceptionTable := #[], attributes := #[] }
def k1m4 : Method := { name := "at", desc := "([BIJ)Z", sig := { parameters := [(.array .byte), .int, .long], returnType := some .boolean }, accessFlags := 10, code := some k1c4 }
/-- com/example/blindhop/blindhop/wamp/FrameBinaryPinLaw -/
def k1 : Class := { plain "com/example/blindhop/blindhop/wamp/FrameBinaryPinLaw" (some 0) with
  accessFlags := 49
  interfaces := #[]
  cf := some (fileOf pool1 8 #[] #[{ accessFlags := 1, nameIndex := 5, descriptorIndex := 6, attributes := #[] }, { accessFlags := 9, nameIndex := 41, descriptorIndex := 42, attributes := #[] }, { accessFlags := 10, nameIndex := 37, descriptorIndex := 38, attributes := #[] }, { accessFlags := 10, nameIndex := 11, descriptorIndex := 12, attributes := #[] }, { accessFlags := 10, nameIndex := 33, descriptorIndex := 34, attributes := #[] }] 49 2 #[] #[])
  fields := #[]
  methods := #[k1m0, k1m1, k1m2, k1m3, k1m4]
  instanceTypes := #[]
  staticTypes := #[]
  resolved := Array.replicate 48 none
  statics := none }

def pool2 : Array CpInfo := pool [(1, .methodref 2 3), (0, .class_ 4), (0, .nameAndType 5 6), (0, u "java/lang/Object"), (0, u "<init>"), (0, u "()V"), (0, .fieldref 8 9), (0, .class_ 10), (0, .nameAndType 11 12), (0, u "com/example/blindhop/blindhop/wamp/Frame"), (0, u "text"), (0, u "Ljava/lang/String;"), (0, .fieldref 8 14), (0, .nameAndType 15 16), (0, u "bytes"), (0, u "[B"), (1, .methodref 19 20), (0, .class_ 21), (0, .nameAndType 22 23), (0, u "java/util/Objects"), (0, u "requireNonNull"), (0, u "(Ljava/lang/Object;Ljava/lang/String;)Ljava/lang/Object;"), (2, .methodref 8 27), (0, .nameAndType 5 28), (0, u "(Ljava/lang/String;[B)V"), (0, .string 15), (0, .class_ 16), (12, u "()I"), (3, u "binary"), (0, u "([B)Lcom/example/blindhop/blindhop/wamp/Frame;"), (0, u "isBinary"), (0, u "()Z"), (2, u "()[B"), (0, u "size")] 2

def k2c0 : Code := { maxStack := 2, maxLocals := 3, code := prog_15_method_1_code, exceptionTable := #[], attributes := #[] }
def k2m0 : Method := { name := "<init>", desc := "(Ljava/lang/String;[B)V", sig := { parameters := [(.object "java/lang/String"), (.array .byte)], returnType := none }, accessFlags := 2, code := some k2c0 }
def k2c1 : Code := { maxStack := 5, maxLocals := 1, code := prog_15_method_3_code, exceptionTable := #[], attributes := #[] }
def k2m1 : Method := { name := "binary", desc := "([B)Lcom/example/blindhop/blindhop/wamp/Frame;", sig := { parameters := [(.array .byte)], returnType := some (.object "com/example/blindhop/blindhop/wamp/Frame") }, accessFlags := 9, code := some k2c1 }
def k2c2 : Code := { maxStack := 1, maxLocals := 1, code := prog_15_method_4_code, exceptionTable := #[], attributes := #[] }
def k2m2 : Method := { name := "isBinary", desc := "()Z", sig := { parameters := [], returnType := some .boolean }, accessFlags := 1, code := some k2c2 }
def k2c3 : Code := { maxStack := 3, maxLocals := 1, code := prog_15_method_6_code, exceptionTable := #[], attributes := #[] }
def k2m3 : Method := { name := "bytes", desc := "()[B", sig := { parameters := [], returnType := some (.array .byte) }, accessFlags := 1, code := some k2c3 }
def k2c4 : Code := { maxStack := 1, maxLocals := 1, code := prog_15_method_7_code, exceptionTable := #[], attributes := #[] }
def k2m4 : Method := { name := "size", desc := "()I", sig := { parameters := [], returnType := some .int }, accessFlags := 1, code := some k2c4 }
/-- com/example/blindhop/blindhop/wamp/Frame -/
def k2 : Class := { plain "com/example/blindhop/blindhop/wamp/Frame" (some 0) with
  accessFlags := 49
  interfaces := #[]
  cf := some (fileOf pool2 8 #[] #[{ accessFlags := 2, nameIndex := 5, descriptorIndex := 28, attributes := #[] }, { accessFlags := 9, nameIndex := 47, descriptorIndex := 48, attributes := #[] }, { accessFlags := 1, nameIndex := 49, descriptorIndex := 50, attributes := #[] }, { accessFlags := 1, nameIndex := 15, descriptorIndex := 53, attributes := #[] }, { accessFlags := 1, nameIndex := 54, descriptorIndex := 43, attributes := #[] }] 49 2 #[] #[{ accessFlags := 18, nameIndex := 11, descriptorIndex := 12, attributes := #[] }, { accessFlags := 18, nameIndex := 15, descriptorIndex := 16, attributes := #[] }])
  fields := #[{ name := "text", type := (.object "java/lang/String"), accessFlags := 18, slot := 0, constantValue := 0 }, { name := "bytes", type := (.array .byte), accessFlags := 18, slot := 1, constantValue := 0 }]
  methods := #[k2m0, k2m1, k2m2, k2m3, k2m4]
  instanceTypes := #[(.object "java/lang/String"), (.array .byte)]
  staticTypes := #[]
  resolved := Array.replicate 57 none
  statics := none }

def pool3 : Array CpInfo := pool [(1, .class_ 2), (0, u "java/io/Serializable"), (0, .class_ 4), (0, u "java/lang/Object")] 2

/-- java/io/Serializable -/
def k3 : Class := { plain "java/io/Serializable" (some 0) with
  accessFlags := 1537
  interfaces := #[]
  cf := some (fileOf pool3 1 #[] #[] 1537 3 #[] #[])
  fields := #[]
  methods := #[]
  instanceTypes := #[]
  staticTypes := #[]
  resolved := Array.replicate 7 none
  statics := none }

def pool4 : Array CpInfo := pool [(1, .class_ 2), (0, u "java/lang/Comparable"), (0, .class_ 4), (0, u "java/lang/Object")] 7

/-- java/lang/Comparable -/
def k4 : Class := { plain "java/lang/Comparable" (some 0) with
  accessFlags := 1537
  interfaces := #[]
  cf := some (fileOf pool4 1 #[] #[] 1537 3 #[] #[])
  fields := #[]
  methods := #[]
  instanceTypes := #[]
  staticTypes := #[]
  resolved := Array.replicate 12 none
  statics := none }

def pool5 : Array CpInfo := pool [(2, .class_ 4), (1, u "java/lang/CharSequence"), (42, .class_ 48), (0, u "java/lang/CharSequence$1CodePointIterator"), (10, .class_ 60), (0, u "java/lang/CharSequence$1CharIterator"), (5, .class_ 67), (0, u "java/lang/Object")] 63

/-- java/lang/CharSequence -/
def k5 : Class := { plain "java/lang/CharSequence" (some 0) with
  accessFlags := 1537
  interfaces := #[]
  cf := some (fileOf pool5 2 #[.nestMembers #[47, 59]] #[] 1537 66 #[] #[])
  fields := #[]
  methods := #[]
  instanceTypes := #[]
  staticTypes := #[]
  resolved := Array.replicate 131 none
  statics := none }

def pool6 : Array CpInfo := pool [(1, .class_ 2), (0, u "java/lang/constant/Constable"), (0, .class_ 4), (0, u "java/lang/Object")] 6

/-- java/lang/constant/Constable -/
def k6 : Class := { plain "java/lang/constant/Constable" (some 0) with
  accessFlags := 1537
  interfaces := #[]
  cf := some (fileOf pool6 1 #[] #[] 1537 3 #[] #[])
  fields := #[]
  methods := #[]
  instanceTypes := #[]
  staticTypes := #[]
  resolved := Array.replicate 11 none
  statics := none }

def pool7 : Array CpInfo := pool [(1, .class_ 2), (0, u "java/lang/constant/ConstantDesc"), (0, .class_ 4), (0, u "java/lang/Object")] 32

/-- java/lang/constant/ConstantDesc -/
def k7 : Class := { plain "java/lang/constant/ConstantDesc" (some 0) with
  accessFlags := 1537
  interfaces := #[]
  cf := some (fileOf pool7 1 #[] #[] 1537 3 #[] #[])
  fields := #[]
  methods := #[]
  instanceTypes := #[]
  staticTypes := #[]
  resolved := Array.replicate 37 none
  statics := none }

def pool8 : Array CpInfo := pool [(2, .class_ 4), (1, u "java/lang/Object"), (0, u "<init>"), (0, u "()V"), (3, .class_ 12), (1, u "java/lang/String"), (0, u "value"), (0, u "[B"), (2, u "coder"), (0, u "B"), (2, u "hash"), (0, u "I"), (2, u "hashIsZero"), (0, u "Z"), (13, u "COMPACT_STRINGS"), (534, .class_ 576), (0, u "java/lang/CharSequence"), (22, u "CASE_INSENSITIVE_ORDER"), (0, u "Ljava/util/Comparator;"), (500, u "serialPersistentFields"), (0, u "[Ljava/io/ObjectStreamField;"), (0, .class_ 1104), (0, u "java/lang/String$CaseInsensitiveComparator"), (1, .class_ 1107), (0, u "java/io/Serializable"), (0, .class_ 1109), (0, u "java/lang/Comparable"), (0, .class_ 1111), (0, u "java/lang/constant/Constable"), (0, .class_ 1113), (0, u "java/lang/constant/ConstantDesc"), (2, u "serialVersionUID"), (0, u "J"), (3, u "REPL"), (0, u "C"), (2, u "LATIN1"), (1, u "UTF16")] 323

def k8m0 : Method := { name := "<init>", desc := "()V", sig := { parameters := [], returnType := none }, accessFlags := 1, code := none }
/-- java/lang/String -/
def k8 : Class := { plain "java/lang/String" (some 0) with
  accessFlags := 49
  interfaces := #[3, 4, 5, 6, 7]
  cf := some (fileOf pool8 10 #[.nestMembers #[1103]] #[{ accessFlags := 1, nameIndex := 5, descriptorIndex := 6, attributes := #[] }] 49 2 #[1106, 1108, 575, 1110, 1112] #[{ accessFlags := 18, nameIndex := 13, descriptorIndex := 14, attributes := #[] }, { accessFlags := 18, nameIndex := 17, descriptorIndex := 18, attributes := #[] }, { accessFlags := 2, nameIndex := 21, descriptorIndex := 22, attributes := #[] }, { accessFlags := 2, nameIndex := 25, descriptorIndex := 26, attributes := #[] }, { accessFlags := 26, nameIndex := 1116, descriptorIndex := 1117, attributes := #[] }, { accessFlags := 24, nameIndex := 40, descriptorIndex := 26, attributes := #[] }, { accessFlags := 26, nameIndex := 1101, descriptorIndex := 1102, attributes := #[] }, { accessFlags := 26, nameIndex := 1121, descriptorIndex := 1122, attributes := #[] }, { accessFlags := 25, nameIndex := 599, descriptorIndex := 600, attributes := #[] }, { accessFlags := 24, nameIndex := 1125, descriptorIndex := 18, attributes := #[] }, { accessFlags := 24, nameIndex := 1127, descriptorIndex := 18, attributes := #[] }])
  fields := #[{ name := "value", type := (.array .byte), accessFlags := 18, slot := 0, constantValue := 0 }, { name := "coder", type := .byte, accessFlags := 18, slot := 1, constantValue := 0 }, { name := "hash", type := .int, accessFlags := 2, slot := 2, constantValue := 0 }, { name := "hashIsZero", type := .boolean, accessFlags := 2, slot := 3, constantValue := 0 }, { name := "serialVersionUID", type := .long, accessFlags := 26, slot := 0, constantValue := 0 }, { name := "COMPACT_STRINGS", type := .boolean, accessFlags := 24, slot := 1, constantValue := 0 }, { name := "serialPersistentFields", type := (.array (.object "java/io/ObjectStreamField")), accessFlags := 26, slot := 2, constantValue := 0 }, { name := "REPL", type := .char, accessFlags := 26, slot := 3, constantValue := 0 }, { name := "CASE_INSENSITIVE_ORDER", type := (.object "java/util/Comparator"), accessFlags := 25, slot := 4, constantValue := 0 }, { name := "LATIN1", type := .byte, accessFlags := 24, slot := 5, constantValue := 0 }, { name := "UTF16", type := .byte, accessFlags := 24, slot := 6, constantValue := 0 }]
  methods := #[k8m0]
  instanceTypes := #[(.array .byte), .byte, .int, .boolean]
  staticTypes := #[.long, .boolean, (.array (.object "java/io/ObjectStreamField")), .char, (.object "java/util/Comparator"), .byte, .byte]
  resolved := Array.replicate 1451 none
  statics := none }

def pool9 : Array CpInfo := pool [(2, .class_ 4), (1, u "java/lang/Object"), (0, u "<init>"), (0, u "()V"), (35, .class_ 44), (1, u "java/util/Objects"), (0, u "requireNonNull"), (48, u "(Ljava/lang/Object;Ljava/lang/String;)Ljava/lang/Object;")] 89

def k9m0 : Method := { name := "<init>", desc := "()V", sig := { parameters := [], returnType := none }, accessFlags := 2, code := none }
def k9c1 : Code := { maxStack := 3, maxLocals := 2, code := jdk_31_method_11_code, exceptionTable := #[], attributes := #[] }
def k9m1 : Method := { name := "requireNonNull", desc := "(Ljava/lang/Object;Ljava/lang/String;)Ljava/lang/Object;", sig := { parameters := [(.object "java/lang/Object"), (.object "java/lang/String")], returnType := some (.object "java/lang/Object") }, accessFlags := 9, code := some k9c1 }
/-- java/util/Objects -/
def k9 : Class := { plain "java/util/Objects" (some 0) with
  accessFlags := 49
  interfaces := #[]
  cf := some (fileOf pool9 42 #[] #[{ accessFlags := 2, nameIndex := 5, descriptorIndex := 6, attributes := #[] }, { accessFlags := 9, nameIndex := 45, descriptorIndex := 94, attributes := #[] }] 49 2 #[] #[])
  fields := #[]
  methods := #[k9m0, k9m1]
  instanceTypes := #[]
  staticTypes := #[]
  resolved := Array.replicate 184 none
  statics := none }

def pool10 : Array CpInfo := pool [(1, u "java/lang/Cloneable"), (0, .class_ 1), (0, u "java/lang/Object"), (0, .class_ 3)] 3

/-- java/lang/Cloneable -/
def k10 : Class := { plain "java/lang/Cloneable" (some 0) with
  accessFlags := 1537
  interfaces := #[]
  cf := some (fileOf pool10 2 #[] #[] 1537 4 #[] #[])
  fields := #[]
  methods := #[]
  instanceTypes := #[]
  staticTypes := #[]
  resolved := Array.replicate 8 none
  statics := none }

/-- the primitive byte -/
def k11 : Class := { plain "byte" none with kind := .primitive 'B', accessFlags := 0x411 }
/-- [B -/
def k12 : Class := { plain "[B" (some 0) with kind := .array 11 .byte, interfaces := #[10, 3], accessFlags := 1041 }

/-- the primitive int -/
def k13 : Class := { plain "int" none with kind := .primitive 'I', accessFlags := 0x411 }
/-- [I -/
def k14 : Class := { plain "[I" (some 0) with kind := .array 13 .int, interfaces := #[10, 3], accessFlags := 1041 }

def heap : Heap := #[]
def classes : Array Class := #[k0, k1, k2, k3, k4, k5, k6, k7, k8, k9, k10, k11, k12, k13, k14]
def interned : List (Array UInt16 × Addr) := []
def slotsUsed : Nat := 0
def theMethod : MethodId := ⟨1, 1⟩
def args0 : Array Value := #[.int 5, .long 3787667]
def aboutOver (below : List Frame) : State where
  vm := { classes := classes, interned := interned.toArray }
  heap := heap
  slotsUsed := slotsUsed
  threads := #[{ frames := .invoking theMethod args0 :: below }]
def below0 : List Frame := [.native { method := ⟨0, 0⟩, args := #[] }]
def about1 : State := aboutOver below0
def p0 : Program := .bare "" "" ""
def e0 : Env := launch0.env 0 0 0
theorem w_frames : about1.frames = Frame.invoking theMethod args0 :: below0 := rfl
set_option maxRecDepth 65536 in
theorem w_args : argsFit about1.vm theMethod args0 = true := by decide +kernel
set_option maxRecDepth 65536 in
theorem w_heap : heapFits about1 = true := by decide +kernel
set_option maxRecDepth 65536 in
theorem w_runnable : about1.curStatus? = some .runnable := by decide +kernel
set_option maxRecDepth 65536 in
theorem w_alone : about1.alone = true := by decide +kernel
set_option maxRecDepth 65536 in
theorem w_named : about1.methodNamed? x = some theMethod := by decide +kernel
set_option maxRecDepth 65536 in
theorem w_hears : about1.hears theMethod below0 = true := by decide +kernel
set_option maxRecDepth 65536 in
theorem w_ripe : about1.ripe theMethod args0 below0 = true := by decide +kernel
theorem w_running : about1.status = .running := rfl
set_option maxRecDepth 65536 in
theorem w_room : about1.hasRoom e0.platform room_1 = true :=
  launch0.hasRoom_least _ room_1 (by decide +kernel) (by decide +kernel) (by decide +kernel) (by decide +kernel) (by decide +kernel) (by decide +kernel)
theorem allAtoms_all (ts : List Jvm.Cond) (a : Array Jvm.Value) (st : Jvm.State) : (allAtoms ts).before a st = ts.all (fun c => c.before a st) := by
  induction ts with
  | nil => rfl
  | cons c t ih =>
    show (Jvm.Cond.and c (allAtoms t)).before a st = _
    rw [Jvm.Cond.before_and, ih, List.all_cons]
def words1 : List Jvm.Cond := Jvm.Cond.code x code maxLocals ret :: tables_1
/-- a 'code' word, met by the world's own term for the bytes: nothing is compared byte by byte -/
theorem code_word {y : MethodName} {bytes : ByteArray} {mx : Nat} {rt : Option FieldType} {a : Array Value} {s : State} {m : MethodId} {meth : Method} {c : Code} (h1 : s.methodNamed? y = some m) (h2 : s.vm.method? m = some meth) (h3 : meth.code = some c) (h4 : c.code = bytes)
    (h5 : (c.maxLocals == mx && c.exceptionTable.isEmpty && decide (c.maxStack ≤ mostOperands) && decide (meth.sig.returnType = rt) && !meth.locks && decide (parseMethodDescriptor y.desc = some meth.sig)) = true) : (Jvm.Cond.code y bytes mx rt).before a s = true := by
  simp only [Bool.and_eq_true, beq_iff_eq, Bool.not_eq_true', decide_eq_true_eq] at h5
  obtain ⟨⟨⟨⟨⟨g1, g2⟩, g3⟩, g4⟩, g5⟩, g6⟩ := h5
  simp [Cond.before, Cond.holds, Cond.value, h1, h2, h3, h4, g1, g2, g3, g4, g5, g6]
def isCode : Jvm.Cond → Bool
  | .code _ _ _ _ => true
  | _ => false
theorem all_split {L : List Jvm.Cond} {P : Jvm.Cond → Bool} (h1 : L.all (fun c => isCode c || P c) = true) (h2 : ∀ c ∈ L.filter isCode, P c = true) : L.all P = true := by
  refine List.all_eq_true.mpr fun c hc => ?_
  have h := List.all_eq_true.mp h1 c hc
  rcases Bool.eq_false_or_eq_true (isCode c) with hi | hi
  · exact h2 c (List.mem_filter.mpr ⟨hc, hi⟩)
  · simpa [hi] using h
set_option maxRecDepth 65536 in
theorem w_c0 : (Jvm.Cond.code x code maxLocals ret).before args0 about1 = true := code_word (m := ⟨1, 1⟩) (meth := k1m1) (c := k1c1) (by decide +kernel) rfl rfl rfl (by decide +kernel)
set_option maxRecDepth 65536 in
theorem w_c1 : (Jvm.Cond.code ({ cls := "com/example/blindhop/blindhop/wamp/FrameBinaryPinLaw", name := "put", desc := "([BIJ)V" } : Jvm.MethodName) method_4_code (4 : Nat) (Option.none : Option Jvm.ClassFile.FieldType)).before args0 about1 = true := code_word (m := ⟨1, 3⟩) (meth := k1m3) (c := k1c3) (by decide +kernel) rfl rfl rfl (by decide +kernel)
set_option maxRecDepth 65536 in
theorem w_c2 : (Jvm.Cond.code ({ cls := "com/example/blindhop/blindhop/wamp/Frame", name := "binary", desc := "([B)Lcom/example/blindhop/blindhop/wamp/Frame;" } : Jvm.MethodName) prog_15_method_3_code (1 : Nat) (Option.some (Jvm.ClassFile.FieldType.object "com/example/blindhop/blindhop/wamp/Frame"))).before args0 about1 = true := code_word (m := ⟨2, 1⟩) (meth := k2m1) (c := k2c1) (by decide +kernel) rfl rfl rfl (by decide +kernel)
set_option maxRecDepth 65536 in
theorem w_c3 : (Jvm.Cond.code ({ cls := "java/util/Objects", name := "requireNonNull", desc := "(Ljava/lang/Object;Ljava/lang/String;)Ljava/lang/Object;" } : Jvm.MethodName) jdk_31_method_11_code (2 : Nat) (Option.some (Jvm.ClassFile.FieldType.object "java/lang/Object"))).before args0 about1 = true := code_word (m := ⟨9, 1⟩) (meth := k9m1) (c := k9c1) (by decide +kernel) rfl rfl rfl (by decide +kernel)
set_option maxRecDepth 65536 in
theorem w_c4 : (Jvm.Cond.code ({ cls := "com/example/blindhop/blindhop/wamp/Frame", name := "<init>", desc := "(Ljava/lang/String;[B)V" } : Jvm.MethodName) prog_15_method_1_code (3 : Nat) (Option.none : Option Jvm.ClassFile.FieldType)).before args0 about1 = true := code_word (m := ⟨2, 0⟩) (meth := k2m0) (c := k2c0) (by decide +kernel) rfl rfl rfl (by decide +kernel)
set_option maxRecDepth 65536 in
theorem w_c5 : (Jvm.Cond.code ({ cls := "java/lang/Object", name := "<init>", desc := "()V" } : Jvm.MethodName) object_method_1_code (1 : Nat) (Option.none : Option Jvm.ClassFile.FieldType)).before args0 about1 = true := code_word (m := ⟨0, 0⟩) (meth := k0m0) (c := k0c0) (by decide +kernel) rfl rfl rfl (by decide +kernel)
set_option maxRecDepth 65536 in
theorem w_c6 : (Jvm.Cond.code ({ cls := "com/example/blindhop/blindhop/wamp/Frame", name := "isBinary", desc := "()Z" } : Jvm.MethodName) prog_15_method_4_code (1 : Nat) (Option.some Jvm.ClassFile.FieldType.boolean)).before args0 about1 = true := code_word (m := ⟨2, 2⟩) (meth := k2m2) (c := k2c2) (by decide +kernel) rfl rfl rfl (by decide +kernel)
set_option maxRecDepth 65536 in
theorem w_c7 : (Jvm.Cond.code ({ cls := "com/example/blindhop/blindhop/wamp/Frame", name := "size", desc := "()I" } : Jvm.MethodName) prog_15_method_7_code (1 : Nat) (Option.some Jvm.ClassFile.FieldType.int)).before args0 about1 = true := code_word (m := ⟨2, 4⟩) (meth := k2m4) (c := k2c4) (by decide +kernel) rfl rfl rfl (by decide +kernel)
set_option maxRecDepth 65536 in
theorem w_c8 : (Jvm.Cond.code ({ cls := "com/example/blindhop/blindhop/wamp/Frame", name := "bytes", desc := "()[B" } : Jvm.MethodName) prog_15_method_6_code (1 : Nat) (Option.some (Jvm.ClassFile.FieldType.array Jvm.ClassFile.FieldType.byte))).before args0 about1 = true := code_word (m := ⟨2, 3⟩) (meth := k2m3) (c := k2c3) (by decide +kernel) rfl rfl rfl (by decide +kernel)
set_option maxRecDepth 65536 in
theorem w_c9 : (Jvm.Cond.code ({ cls := "com/example/blindhop/blindhop/wamp/FrameBinaryPinLaw", name := "at", desc := "([BIJ)Z" } : Jvm.MethodName) method_5_code (4 : Nat) (Option.some Jvm.ClassFile.FieldType.boolean)).before args0 about1 = true := code_word (m := ⟨1, 4⟩) (meth := k1m4) (c := k1c4) (by decide +kernel) rfl rfl rfl (by decide +kernel)
set_option maxRecDepth 65536 in
theorem w_c10 : (Jvm.Cond.code ({ cls := "com/example/blindhop/blindhop/wamp/FrameBinaryPinLaw", name := "byteAt", desc := "(JI)B" } : Jvm.MethodName) method_3_code (3 : Nat) (Option.some Jvm.ClassFile.FieldType.byte)).before args0 about1 = true := code_word (m := ⟨1, 2⟩) (meth := k1m2) (c := k1c2) (by decide +kernel) rfl rfl rfl (by decide +kernel)
def codes1 : List Jvm.Cond := [Jvm.Cond.code x code maxLocals ret, Jvm.Cond.code ({ cls := "com/example/blindhop/blindhop/wamp/FrameBinaryPinLaw", name := "put", desc := "([BIJ)V" } : Jvm.MethodName) method_4_code (4 : Nat) (Option.none : Option Jvm.ClassFile.FieldType), Jvm.Cond.code ({ cls := "com/example/blindhop/blindhop/wamp/Frame", name := "binary", desc := "([B)Lcom/example/blindhop/blindhop/wamp/Frame;" } : Jvm.MethodName) prog_15_method_3_code (1 : Nat) (Option.some (Jvm.ClassFile.FieldType.object "com/example/blindhop/blindhop/wamp/Frame")), Jvm.Cond.code ({ cls := "java/util/Objects", name := "requireNonNull", desc := "(Ljava/lang/Object;Ljava/lang/String;)Ljava/lang/Object;" } : Jvm.MethodName) jdk_31_method_11_code (2 : Nat) (Option.some (Jvm.ClassFile.FieldType.object "java/lang/Object")), Jvm.Cond.code ({ cls := "com/example/blindhop/blindhop/wamp/Frame", name := "<init>", desc := "(Ljava/lang/String;[B)V" } : Jvm.MethodName) prog_15_method_1_code (3 : Nat) (Option.none : Option Jvm.ClassFile.FieldType), Jvm.Cond.code ({ cls := "java/lang/Object", name := "<init>", desc := "()V" } : Jvm.MethodName) object_method_1_code (1 : Nat) (Option.none : Option Jvm.ClassFile.FieldType), Jvm.Cond.code ({ cls := "com/example/blindhop/blindhop/wamp/Frame", name := "isBinary", desc := "()Z" } : Jvm.MethodName) prog_15_method_4_code (1 : Nat) (Option.some Jvm.ClassFile.FieldType.boolean), Jvm.Cond.code ({ cls := "com/example/blindhop/blindhop/wamp/Frame", name := "size", desc := "()I" } : Jvm.MethodName) prog_15_method_7_code (1 : Nat) (Option.some Jvm.ClassFile.FieldType.int), Jvm.Cond.code ({ cls := "com/example/blindhop/blindhop/wamp/Frame", name := "bytes", desc := "()[B" } : Jvm.MethodName) prog_15_method_6_code (1 : Nat) (Option.some (Jvm.ClassFile.FieldType.array Jvm.ClassFile.FieldType.byte)), Jvm.Cond.code ({ cls := "com/example/blindhop/blindhop/wamp/FrameBinaryPinLaw", name := "at", desc := "([BIJ)Z" } : Jvm.MethodName) method_5_code (4 : Nat) (Option.some Jvm.ClassFile.FieldType.boolean), Jvm.Cond.code ({ cls := "com/example/blindhop/blindhop/wamp/FrameBinaryPinLaw", name := "byteAt", desc := "(JI)B" } : Jvm.MethodName) method_3_code (3 : Nat) (Option.some Jvm.ClassFile.FieldType.byte)]
set_option maxRecDepth 65536 in
theorem codes_eq : words1.filter isCode = codes1 := rfl
theorem w_codes : ∀ c ∈ words1.filter isCode, c.before args0 about1 = true := by
  rw [codes_eq]
  intro c hc
  simp only [codes1, List.mem_cons, List.not_mem_nil, or_false] at hc
  rcases hc with rfl | rfl | rfl | rfl | rfl | rfl | rfl | rfl | rfl | rfl | rfl
  · exact w_c0
  · exact w_c1
  · exact w_c2
  · exact w_c3
  · exact w_c4
  · exact w_c5
  · exact w_c6
  · exact w_c7
  · exact w_c8
  · exact w_c9
  · exact w_c10
set_option maxRecDepth 65536 in
theorem w_t1 : (words1.take 24).all (fun c => isCode c || c.before args0 about1) = true := by decide +kernel
set_option maxRecDepth 65536 in
theorem w_t2 : ((words1.drop 24).take 24).all (fun c => isCode c || c.before args0 about1) = true := by decide +kernel
set_option maxRecDepth 65536 in
theorem w_t3 : ((words1.drop 24).drop 24).all (fun c => isCode c || c.before args0 about1) = true := by decide +kernel
theorem w_tables : (allAtoms (Jvm.Cond.code x code maxLocals ret :: tables_1)).before args0 about1 = true := by
  rw [allAtoms_all]
  show words1.all (fun c => c.before args0 about1) = true
  refine all_split ?_ w_codes
  rw [← List.take_append_drop 24 words1, List.all_append, w_t1, ← List.take_append_drop 24 (words1.drop 24), List.all_append, w_t2, w_t3]
  rfl
set_option maxRecDepth 65536 in
theorem w_case : (Jvm.Cond.and given_1 narrow_1).before args0 about1 = true := by decide +kernel
theorem w_applies : (headSpec (Jvm.Cond.code x code maxLocals ret :: tables_1) room_1).applies x e0.platform about1 = true :=
  (Spec.applies_iff w_frames).mpr ⟨w_running, w_runnable, w_alone, w_named, w_hears, w_ripe, w_room, w_tables⟩
theorem atStart : AtStart classFile x code maxLocals ret World_1 tables_1 room_1 Calls_1 rest_1 Pre_1 launch0 p0 e0 about1 theMethod args0 below0 :=
  ⟨lists_1, trivial, launch0.admits_env _ _ _, launch0.least_env, fairChoices_fair.cas, fairChoices_fair.clock, w_frames, w_args, w_heap, w_applies, trivial, trivial, w_case⟩
end start1
theorem witness_1 : WitnessClaimed_1 := ⟨start1.p0, start1.e0, start1.about1, start1.theMethod, start1.args0, start1.below0, start1.atStart⟩
end Jvm.Pilot.@@N@@
