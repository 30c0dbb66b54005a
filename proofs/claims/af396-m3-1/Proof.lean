import JvmDerived
import JvmDerived.Pilot.@@N@@Statement
import JvmDerived.Pilot.@@N@@Code
set_option linter.unusedVariables false
set_option linter.unusedSimpArgs false
namespace Jvm.Pilot.@@N@@
open Jvm Jvm.ClassFile Sem Op Lib Jvm.Free Jvm.Stand Jvm.LawKit Jvm.RoadKit Bundle Jvm.Pilot.@@N@@.Jvm.D
/-- from S0 the run comes to T with the frame g -/
abbrev Rch (p : Program) (e : Env) (below : List Frame) (S0 T : State) (g : JFrame) : Prop := ∀ t, Steps p.tables e below (T.setTop g) t → Steps p.tables e below S0 t
abbrev Con (l : Launch) (Z : State) (y : MethodName) (bytes : ByteArray) (maxL : Nat) (ret : Option FieldType) (ws : List Jvm.Cond) (rm : Room) (as' : Array Value) (h : Heap) (Q : Option Value → Heap → List Loc → Prop) : Prop :=
  MetFree l y (head1 (Jvm.Cond.code y bytes maxL ret :: ws) rm) (fun a U => a = as' ∧ Z.Warmed39 U.vm ∧ U.heap = h) (fun _ _ _ _ _ => True) (fun _ U o U' => ∃ v L, o = .returned v ∧ Q v U'.heap L ∧ FrameEnd U o U' L rm.cells rm.slots)
section OwnKit
variable {p : Program} {l : Launch} {e : Env} {R : Room} {s : State} {m : MethodId} {args : Array Value} {below : List Frame} {meth : Method} {c : Code} {T : State} {locs : List Loc} {cells slots : Nat} {Z : State} {a0 : Array Value} {h : Heap}
theorem own_callS (X : Stand p l e R s m args below meth c T locs cells slots) (hx : p.tables.exec = Jvm.exec) (hZ : Z.Warmed39 s.vm) {own : String} {index : Nat} {y : MethodName} {bytes : ByteArray} {maxL : Nat} {ret : Option FieldType} {rm : Room} {as' : Array Value} {Q : Option Value → Heap → List Loc → Prop}
    (hown : s.vm.findClass own = some m.cls) (w1 : (Cond.methodLink own index y).before a0 Z = true) (w2 : (Cond.static y).before a0 Z = true) (w3 : (Cond.initialized y.cls).before a0 Z = true) (w4 : (Cond.code y bytes maxL ret).before a0 Z = true)
    (hy : y.cls ≠ "java/lang/invoke/MethodHandle" ∧ y.cls ≠ "java/lang/invoke/VarHandle") (hM : Con l Z y bytes maxL ret [] rm as' h Q) (eT : T.heap = h)
    {g : JFrame} (hg : g.method = m) (hsize : g.locals.size = c.maxLocals) {argsL rest : List Value} (has : as' = argsL.toArray) (hlen : ∀ sig, parseMethodDescriptor y.desc = some sig → argsL.length = sig.parameters.length) (hs : g.stack = argsL.reverse ++ rest) {W : Nat} (hW : 2 * g.monitorRoom + (rest.map fun v => v.category).sum ≤ W)
    (hd : decode c.code g.pc = .ok (.invokestatic index, 3)) (hf : rm.frames + 1 ≤ R.frames) (hl : W + (maxL + 11) + rm.locals ≤ R.locals) (hc : cells + rm.cells ≤ R.cells) (hsl : slots + rm.slots ≤ R.slots) :
    ∃ (v : Option Value) (T' : State) (h' : Heap) (Lc : List Loc), Stand p l e R s m args below meth c T' (locs ++ Lc) (cells + rm.cells) (slots + rm.slots) ∧ T'.heap = h' ∧ Q v h' Lc ∧
      ∀ target, Steps p.tables e below (T'.setTop { g with pc := g.pc + 3, stack := v.toList ++ rest }) target → Steps p.tables e below (T.setTop g) target := by
  obtain ⟨v, _, ⟨T', L', k', n'⟩, -, X', ⟨Lc, hQ, hl', hk', hn'⟩, st⟩ := Jvm.LawKit.callS X hx (y := y) hown (mvT hZ w1) (mvT hZ w2) (mvT hZ w3) (mvT hZ w4) hy (backOf (W := W) hM hZ w4 w3 hf hl) hg hsize hlen hs hW hd (fun _ _ => ⟨has.symm, eT, hc, hsl⟩)
  dsimp only [Pt.U, Pt.locs, Pt.cells, Pt.slots] at X' hl' hk' hn' st hQ
  subst hl' hk' hn'
  exact ⟨v, T', _, Lc, X', rfl, hQ, st⟩
theorem own_callV (X : Stand p l e R s m args below meth c T locs cells slots) (hx : p.tables.exec = Jvm.exec) (hZ : Z.Warmed39 s.vm) {own C : String} {index : Nat} {y z : MethodName} {bytes : ByteArray} {maxL : Nat} {ret : Option FieldType} {rm : Room} {as' : Array Value} {Q : Option Value → Heap → List Loc → Prop}
    (hown : s.vm.findClass own = some m.cls) (w1 : (Cond.methodLink own index y).before a0 Z = true) (w2 : (Cond.declares y).before a0 Z = true) (nf : NotFace s y) (w3 : (Cond.selects C y z).before a0 Z = true) (w4 : (Cond.instanceMethod z).before a0 Z = true) (w5 : (Cond.code z bytes maxL ret).before a0 Z = true) (w6 : (Cond.initialized z.cls).before a0 Z = true)
    (hy : y.cls ≠ "java/lang/invoke/MethodHandle" ∧ y.cls ≠ "java/lang/invoke/VarHandle") (hM : Con l Z z bytes maxL ret [] rm as' h Q) (eT : T.heap = h) {a : Addr} (E : Exa Z h a C)
    {g : JFrame} (hg : g.method = m) (hsize : g.locals.size = c.maxLocals) {argsL rest : List Value} (has : as' = (Value.ref a :: argsL).toArray) (hlen : ∀ sig, parseMethodDescriptor y.desc = some sig → argsL.length = sig.parameters.length) (hs : g.stack = argsL.reverse ++ .ref a :: rest) {W : Nat} (hW : 2 * g.monitorRoom + (rest.map fun v => v.category).sum ≤ W)
    (hd : decode c.code g.pc = .ok (.invokevirtual index, 3)) (hf : rm.frames + 1 ≤ R.frames) (hl : W + (maxL + 11) + rm.locals ≤ R.locals) (hc : cells + rm.cells ≤ R.cells) (hsl : slots + rm.slots ≤ R.slots) :
    ∃ (v : Option Value) (T' : State) (h' : Heap) (Lc : List Loc), Stand p l e R s m args below meth c T' (locs ++ Lc) (cells + rm.cells) (slots + rm.slots) ∧ T'.heap = h' ∧ Q v h' Lc ∧
      ∀ target, Steps p.tables e below (T'.setTop { g with pc := g.pc + 3, stack := v.toList ++ rest }) target → Steps p.tables e below (T.setTop g) target := by
  obtain ⟨cq, kq, qa, qb, qc⟩ := isOf hZ eT E
  obtain ⟨v, _, ⟨T', L', k', n'⟩, -, X', ⟨Lc, hQ, hl', hk', hn'⟩, st⟩ := X.virtualBack hx (y := y) (z := z) hown (mvT hZ w1) (mvT hZ w2) nf (mvT hZ w3) (mvT hZ w4) hy (backOf (W := W) hM hZ w5 w6 hf hl) qa qc hg hsize (Steps.refl _) hlen hs hW hd (fun _ _ => ⟨has.symm, eT, hc, hsl⟩)
  dsimp only [Pt.U, Pt.locs, Pt.cells, Pt.slots] at X' hl' hk' hn' st hQ
  subst hl' hk' hn'
  exact ⟨v, T', _, Lc, X', rfl, hQ, fun t k => st.trans k⟩
theorem own_callC (X : Stand p l e R s m args below meth c T locs cells slots) (hx : p.tables.exec = Jvm.exec) (hZ : Z.Warmed39 s.vm) {own : String} {index : Nat} {y : MethodName} {bytes : ByteArray} {maxL : Nat} {rm : Room} {as' : Array Value} {Q : Option Value → Heap → List Loc → Prop} (hy1 : y.name = "<init>")
    (hown : s.vm.findClass own = some m.cls) (w1 : (Cond.methodLink own index y).before a0 Z = true) (w2 : (Cond.instanceMethod y).before a0 Z = true) (w3 : (Cond.initialized y.cls).before a0 Z = true) (w4 : (Cond.code y bytes maxL none).before a0 Z = true)
    (hy : y.cls ≠ "java/lang/invoke/MethodHandle" ∧ y.cls ≠ "java/lang/invoke/VarHandle") (hM : Con l Z y bytes maxL none [] rm as' h Q) (eT : T.heap = h) {a : Addr}
    {g : JFrame} (hg : g.method = m) (hsize : g.locals.size = c.maxLocals) {argsL rest : List Value} (has : as' = (Value.ref a :: argsL).toArray) (hlen : ∀ sig, parseMethodDescriptor y.desc = some sig → argsL.length = sig.parameters.length) (hs : g.stack = argsL.reverse ++ .ref a :: rest) {W : Nat} (hW : 2 * g.monitorRoom + (rest.map fun v => v.category).sum ≤ W)
    (hd : decode c.code g.pc = .ok (.invokespecial index, 3)) (hf : rm.frames + 1 ≤ R.frames) (hl : W + (maxL + 11) + rm.locals ≤ R.locals) (hc : cells + rm.cells ≤ R.cells) (hsl : slots + rm.slots ≤ R.slots) :
    ∃ (v : Option Value) (T' : State) (h' : Heap) (Lc : List Loc), Stand p l e R s m args below meth c T' (locs ++ Lc) (cells + rm.cells) (slots + rm.slots) ∧ T'.heap = h' ∧ Q v h' Lc ∧
      ∀ target, Steps p.tables e below (T'.setTop { g with pc := g.pc + 3, stack := v.toList ++ rest }) target → Steps p.tables e below (T.setTop g) target := by
  obtain ⟨v, _, ⟨T', L', k', n'⟩, -, X', ⟨Lc, hQ, hl', hk', hn'⟩, st⟩ := X.specialBack hx (y := y) hy1 hown (mvT hZ w1) (mvT hZ w2) (mvT hZ w4) hy (backOf (W := W) hM hZ w4 w3 hf hl) hg hsize (Steps.refl _) (a := a) hlen hs hW hd (fun _ _ => ⟨has.symm, eT, hc, hsl⟩)
  dsimp only [Pt.U, Pt.locs, Pt.cells, Pt.slots] at X' hl' hk' hn' st hQ
  subst hl' hk' hn'
  exact ⟨v, T', _, Lc, X', rfl, hQ, fun t k => st.trans k⟩
theorem own_callU (X : Stand p l e R s m args below meth c T locs cells slots) (hx : p.tables.exec = Jvm.exec) (hZ : Z.Warmed39 s.vm) {own C owner : String} {index : Nat} {x y : MethodName} {bytes : ByteArray} {maxL : Nat} {ret : Option FieldType} {rm : Room} {as' : Array Value} {Q : Option Value → Heap → List Loc → Prop}
    (hown : s.vm.findClass own = some m.cls) (w1 : (Cond.methodLink own index x).before a0 Z = true) (w2 : (Cond.sameMethod x.cls owner x.name x.desc).before a0 Z = true) (w2' : (Cond.declares ⟨owner, x.name, x.desc⟩).before a0 Z = true) (hy : owner ≠ "java/lang/invoke/MethodHandle" ∧ owner ≠ "java/lang/invoke/VarHandle") (w3 : (Cond.selects C x y).before a0 Z = true) (w4 : (Cond.instanceMethod y).before a0 Z = true) (w5 : (Cond.code y bytes maxL ret).before a0 Z = true) (w6 : (Cond.initialized y.cls).before a0 Z = true)
    (hM : Con l Z y bytes maxL ret [] rm as' h Q) (eT : T.heap = h) {a : Addr} (E : Exa Z h a C)
    {g : JFrame} (hg : g.method = m) (hsize : g.locals.size = c.maxLocals) {argsL rest : List Value} (has : as' = (Value.ref a :: argsL).toArray) (hlen : ∀ sig, parseMethodDescriptor x.desc = some sig → argsL.length = sig.parameters.length) (hs : g.stack = argsL.reverse ++ .ref a :: rest) {W : Nat} (hW : 2 * g.monitorRoom + (rest.map fun v => v.category).sum ≤ W)
    (hd : decode c.code g.pc = .ok (.invokevirtual index, 3)) (hf : rm.frames + 1 ≤ R.frames) (hl : W + (maxL + 11) + rm.locals ≤ R.locals) (hc : cells + rm.cells ≤ R.cells) (hsl : slots + rm.slots ≤ R.slots) :
    ∃ (v : Option Value) (T' : State) (h' : Heap) (Lc : List Loc), Stand p l e R s m args below meth c T' (locs ++ Lc) (cells + rm.cells) (slots + rm.slots) ∧ T'.heap = h' ∧ Q v h' Lc ∧
      ∀ target, Steps p.tables e below (T'.setTop { g with pc := g.pc + 3, stack := v.toList ++ rest }) target → Steps p.tables e below (T.setTop g) target := by
  obtain ⟨cq, kq, qa, qb, qc⟩ := isOf hZ eT E
  obtain ⟨v, _, ⟨T', L', k', n'⟩, -, X', ⟨Lc, hQ, hl', hk', hn'⟩, st⟩ := X.virtualBackUp hx (x := x) (y := y) hown (mvT hZ w1) (mvT hZ w2) (mvT hZ w2') hy (mvT hZ w3) (mvT hZ w4) (backOf (W := W) hM hZ w5 w6 hf hl) qa qc hg hsize (Steps.refl _) hlen hs hW hd (fun _ _ => ⟨has.symm, eT, hc, hsl⟩)
  dsimp only [Pt.U, Pt.locs, Pt.cells, Pt.slots] at X' hl' hk' hn' st hQ
  subst hl' hk' hn'
  exact ⟨v, T', _, Lc, X', rfl, hQ, fun t k => st.trans k⟩
theorem own_ne {a b : Nat} (h : a < b ∨ b < a) : a ≠ b := by omega
theorem own_fldL {args : Array Value} {t : Term} {a : Addr} {C n d : String} {k : Int64} (ev : t.eval args Z none [] Z = some (.ref a)) (q : (Cond.eq (.field t C n d) (.long k)).value args Z none Z [] = some true) : Fld Z Z.heap a C n d (.long k) := by
  apply Fld.start
  cases hv : Z.fieldOf? a C n d with
  | none => simp [Cond.value, fld_at ev, hv] at q
  | some v => cases v <;> simp only [Cond.value, fld_at ev, hv, long_at] at q <;> simp at q <;> subst q <;> rfl
theorem own_fldI {args : Array Value} {t : Term} {a : Addr} {C n d : String} {k : Int32} (ev : t.eval args Z none [] Z = some (.ref a)) (q : (Cond.eq (.field t C n d) (.int k)).value args Z none Z [] = some true) : Fld Z Z.heap a C n d (.int k) := by
  apply Fld.start
  cases hv : Z.fieldOf? a C n d with
  | none => simp [Cond.value, fld_at ev, hv] at q
  | some v => cases v <;> simp only [Cond.value, fld_at ev, hv, Term.int_eval] at q <;> simp at q <;> subst q <;> rfl
variable {vm0 : Vm}
abbrev ConW (l : Launch) (Z : State) (y : MethodName) (bytes : ByteArray) (maxL : Nat) (ret : Option FieldType) (ws : List Jvm.Cond) (rm : Room) (as' : Array Value) (h : Heap) (Q : Option Value → Heap → List Loc → Prop) : Prop :=
  MetFree l y (head1 (Jvm.Cond.code y bytes maxL ret :: ws) rm) (fun a U => a = as' ∧ Z.Warmed39 U.vm ∧ U.heap = h) (fun _ _ _ _ _ => True) (fun _ U o U' => ∃ v L, o = .returned v ∧ Q v U'.heap L ∧ ReturnedEndW U o U' L rm.cells rm.slots)
theorem own_callSW (X : Stand p l e R (s.setVm vm0) m args below meth c T locs cells slots) (hx : p.tables.exec = Jvm.exec) (hZ : Z.Warmed39 vm0) {own : String} {index : Nat} {y : MethodName} {bytes : ByteArray} {maxL : Nat} {ret : Option FieldType} {rm : Room} {as' : Array Value} {Q : Option Value → Heap → List Loc → Prop}
    (hown : vm0.findClass own = some m.cls) (w1 : (Cond.methodLink own index y).before a0 Z = true) (w2 : (Cond.static y).before a0 Z = true) (w3 : (Cond.initialized y.cls).before a0 Z = true) (w4 : (Cond.code y bytes maxL ret).before a0 Z = true)
    (hy : y.cls ≠ "java/lang/invoke/MethodHandle" ∧ y.cls ≠ "java/lang/invoke/VarHandle") (hM : ConW l Z y bytes maxL ret [] rm as' h Q) (eT : T.heap = h) {k0 : Nat} (hS : s.Since vm0 k0) (hk : k0 ≤ h.size)
    {g : JFrame} (hg : g.method = m) (hsize : g.locals.size = c.maxLocals) {argsL rest : List Value} (has : as' = argsL.toArray) (hlen : ∀ sig, parseMethodDescriptor y.desc = some sig → argsL.length = sig.parameters.length) (hs : g.stack = argsL.reverse ++ rest) {W : Nat} (hW : 2 * g.monitorRoom + (rest.map fun v => v.category).sum ≤ W)
    (hd : decode c.code g.pc = .ok (.invokestatic index, 3)) (hf : rm.frames + 1 ≤ R.frames) (hl : W + (maxL + 11) + rm.locals ≤ R.locals) (hc : cells + rm.cells ≤ R.cells) (hsl : slots + rm.slots ≤ R.slots) :
    ∃ (v : Option Value) (T' : State) (h' : Heap) (Lc : List Loc), Stand p l e R (s.setVm T'.vm) m args below meth c T' (locs ++ Lc) (cells + rm.cells) (slots + rm.slots) ∧ T'.heap = h' ∧ Q v h' Lc ∧ s.Since T'.vm h'.size ∧ Z.Warmed39 T'.vm ∧ T'.vm.findClass own = some m.cls ∧
      ∀ target, Steps p.tables e below (T'.setTop { g with pc := g.pc + 3, stack := v.toList ++ rest }) target → Steps p.tables e below (T.setTop g) target := by
  subst eT
  obtain ⟨v, vm₁, ⟨T', L', k', n'⟩, -, X', hS', hgr, ⟨Lc, hQ, hl', hk', hn'⟩, st⟩ := callSS (s := s.setVm vm0) X hx (y := y) hown (mvT (s := s.setVm vm0) hZ w1) (mvT (s := s.setVm vm0) hZ w2) (mvT (s := s.setVm vm0) hZ w3) (mvT (s := s.setVm vm0) hZ w4) hy (backOfS (s := s.setVm vm0) (W := W) hM hZ w4 w3 hf hl) hg hsize hlen hs hW hd (fun _ _ => ⟨has.symm, rfl, hc, hsl⟩)
  dsimp only [Pt.U, Pt.locs, Pt.cells, Pt.slots] at X' hl' hk' hn' st hQ hS' hgr
  subst hl' hk' hn'
  exact ⟨v, T', _, Lc, X', rfl, hQ, hS.trans hS' (Nat.le_trans hk hgr), State.Warmed39.trans (t := s.setVm vm0) hZ hS'.1, by rw [hS'.1.alike.findClass]; exact hown, fun t k => st.trans k⟩
theorem own_callCW (X : Stand p l e R (s.setVm vm0) m args below meth c T locs cells slots) (hx : p.tables.exec = Jvm.exec) (hZ : Z.Warmed39 vm0) {own : String} {index : Nat} {y : MethodName} {bytes : ByteArray} {maxL : Nat} {rm : Room} {as' : Array Value} {Q : Option Value → Heap → List Loc → Prop} (hy1 : y.name = "<init>")
    (hown : vm0.findClass own = some m.cls) (w1 : (Cond.methodLink own index y).before a0 Z = true) (w2 : (Cond.instanceMethod y).before a0 Z = true) (w3 : (Cond.initialized y.cls).before a0 Z = true) (w4 : (Cond.code y bytes maxL none).before a0 Z = true)
    (hy : y.cls ≠ "java/lang/invoke/MethodHandle" ∧ y.cls ≠ "java/lang/invoke/VarHandle") (hM : ConW l Z y bytes maxL none [] rm as' h Q) (eT : T.heap = h) {k0 : Nat} (hS : s.Since vm0 k0) (hk : k0 ≤ h.size) {a : Addr}
    {g : JFrame} (hg : g.method = m) (hsize : g.locals.size = c.maxLocals) {argsL rest : List Value} (has : as' = (Value.ref a :: argsL).toArray) (hlen : ∀ sig, parseMethodDescriptor y.desc = some sig → argsL.length = sig.parameters.length) (hs : g.stack = argsL.reverse ++ .ref a :: rest) {W : Nat} (hW : 2 * g.monitorRoom + (rest.map fun v => v.category).sum ≤ W)
    (hd : decode c.code g.pc = .ok (.invokespecial index, 3)) (hf : rm.frames + 1 ≤ R.frames) (hl : W + (maxL + 11) + rm.locals ≤ R.locals) (hc : cells + rm.cells ≤ R.cells) (hsl : slots + rm.slots ≤ R.slots) :
    ∃ (v : Option Value) (T' : State) (h' : Heap) (Lc : List Loc), Stand p l e R (s.setVm T'.vm) m args below meth c T' (locs ++ Lc) (cells + rm.cells) (slots + rm.slots) ∧ T'.heap = h' ∧ Q v h' Lc ∧ s.Since T'.vm h'.size ∧ Z.Warmed39 T'.vm ∧ T'.vm.findClass own = some m.cls ∧
      ∀ target, Steps p.tables e below (T'.setTop { g with pc := g.pc + 3, stack := v.toList ++ rest }) target → Steps p.tables e below (T.setTop g) target := by
  subst eT
  obtain ⟨v, vm₁, ⟨T', L', k', n'⟩, -, X', hS', hgr, ⟨Lc, hQ, hl', hk', hn'⟩, st⟩ := Jvm.Stand.specialBackS (s := s.setVm vm0) X hx (y := y) hy1 hown (mvT (s := s.setVm vm0) hZ w1) (mvT (s := s.setVm vm0) hZ w2) (mvT (s := s.setVm vm0) hZ w4) hy (backOfS (s := s.setVm vm0) (W := W) hM hZ w4 w3 hf hl) hg hsize (Steps.refl _) (a := a) hlen hs hW hd (fun _ _ => ⟨has.symm, rfl, hc, hsl⟩)
  dsimp only [Pt.U, Pt.locs, Pt.cells, Pt.slots] at X' hl' hk' hn' st hQ hS' hgr
  subst hl' hk' hn'
  exact ⟨v, T', _, Lc, X', rfl, hQ, hS.trans hS' (Nat.le_trans hk hgr), State.Warmed39.trans (t := s.setVm vm0) hZ hS'.1, by rw [hS'.1.alike.findClass]; exact hown, fun t k => st.trans k⟩
theorem own_callVW (X : Stand p l e R (s.setVm vm0) m args below meth c T locs cells slots) (hx : p.tables.exec = Jvm.exec) (hZ : Z.Warmed39 vm0) {own C : String} {index : Nat} {y z : MethodName} {bytes : ByteArray} {maxL : Nat} {ret : Option FieldType} {rm : Room} {as' : Array Value} {Q : Option Value → Heap → List Loc → Prop}
    (hown : vm0.findClass own = some m.cls) (w1 : (Cond.methodLink own index y).before a0 Z = true) (w2 : (Cond.declares y).before a0 Z = true) (nf : NotFace (s.setVm vm0) y) (w3 : (Cond.selects C y z).before a0 Z = true) (w4 : (Cond.instanceMethod z).before a0 Z = true) (w5 : (Cond.code z bytes maxL ret).before a0 Z = true) (w6 : (Cond.initialized z.cls).before a0 Z = true)
    (hy : y.cls ≠ "java/lang/invoke/MethodHandle" ∧ y.cls ≠ "java/lang/invoke/VarHandle") (hM : ConW l Z z bytes maxL ret [] rm as' h Q) (eT : T.heap = h) {k0 : Nat} (hS : s.Since vm0 k0) (hk : k0 ≤ h.size) {a : Addr} (E : Exa Z h a C)
    {g : JFrame} (hg : g.method = m) (hsize : g.locals.size = c.maxLocals) {argsL rest : List Value} (has : as' = (Value.ref a :: argsL).toArray) (hlen : ∀ sig, parseMethodDescriptor y.desc = some sig → argsL.length = sig.parameters.length) (hs : g.stack = argsL.reverse ++ .ref a :: rest) {W : Nat} (hW : 2 * g.monitorRoom + (rest.map fun v => v.category).sum ≤ W)
    (hd : decode c.code g.pc = .ok (.invokevirtual index, 3)) (hf : rm.frames + 1 ≤ R.frames) (hl : W + (maxL + 11) + rm.locals ≤ R.locals) (hc : cells + rm.cells ≤ R.cells) (hsl : slots + rm.slots ≤ R.slots) :
    ∃ (v : Option Value) (T' : State) (h' : Heap) (Lc : List Loc), Stand p l e R (s.setVm T'.vm) m args below meth c T' (locs ++ Lc) (cells + rm.cells) (slots + rm.slots) ∧ T'.heap = h' ∧ Q v h' Lc ∧ s.Since T'.vm h'.size ∧ Z.Warmed39 T'.vm ∧ T'.vm.findClass own = some m.cls ∧
      ∀ target, Steps p.tables e below (T'.setTop { g with pc := g.pc + 3, stack := v.toList ++ rest }) target → Steps p.tables e below (T.setTop g) target := by
  subst eT
  obtain ⟨cq, kq, qa, qb, qc⟩ := isOf (s := s.setVm vm0) hZ rfl E
  obtain ⟨v, vm₁, ⟨T', L', k', n'⟩, -, X', hS', hgr, ⟨Lc, hQ, hl', hk', hn'⟩, st⟩ := Jvm.Stand.virtualBackS (s := s.setVm vm0) X hx (y := y) (z := z) hown (mvT (s := s.setVm vm0) hZ w1) (mvT (s := s.setVm vm0) hZ w2) nf (mvT (s := s.setVm vm0) hZ w3) (mvT (s := s.setVm vm0) hZ w4) hy (backOfS (s := s.setVm vm0) (W := W) hM hZ w5 w6 hf hl) qa qc hg hsize (Steps.refl _) hlen hs hW hd (fun _ _ => ⟨has.symm, rfl, hc, hsl⟩)
  dsimp only [Pt.U, Pt.locs, Pt.cells, Pt.slots] at X' hl' hk' hn' st hQ hS' hgr
  subst hl' hk' hn'
  exact ⟨v, T', _, Lc, X', rfl, hQ, hS.trans hS' (Nat.le_trans hk hgr), State.Warmed39.trans (t := s.setVm vm0) hZ hS'.1, by rw [hS'.1.alike.findClass]; exact hown, fun t k => st.trans k⟩
theorem own_more {cells' slots' : Nat} (X : Stand p l e R s m args below meth c T locs cells slots) (h1 : cells ≤ cells') (h2 : slots ≤ slots') : Stand p l e R s m args below meth c T locs cells' slots' := { X with same := X.same.mono h1 h2 }
theorem own_arrKeep {h h' : Heap} {a : Addr} {cl : Cell} {ty : FieldType} {ws : List Addr} (A : Arr Z h a cl ty) (K : Keep h h' ws) (q : a ∉ ws) : Arr Z h' a cl ty := ⟨K.2.1 a cl A.1 q, A.2⟩
end OwnKit
theorem own_lit2 : (2 : Int64).toInt = 2 := by decide
theorem own_2e {e : Int64} (h : 0 ≤ e.toInt ∧ e.toInt ≤ 2147483648) : ((2 : Int64) * e).toInt = 2 * e.toInt := by
  have q := c_lmul 2 e; rw [own_lit2] at q
  have r := rng64 ((2 : Int64) * e); omega
theorem own_4e {e : Int64} (h : 0 ≤ e.toInt ∧ e.toInt ≤ 2147483648) : ((4 : Int64) * e).toInt = 4 * e.toInt := by
  have q := c_lmul 4 e; rw [show (4 : Int64).toInt = 4 by decide] at q
  have r := rng64 ((4 : Int64) * e); omega
def own_I (e : Int64) (n : Nat) (c : Int64) : Prop := ∃ i : Nat, i + n = 28 ∧ c.toInt = 16 * 2 ^ i ∧ (i = 0 ∨ c.toInt < 4 * e.toInt)
def own_J (e c : Int64) : Prop := ∃ i : Nat, i ≤ 28 ∧ c.toInt = 16 * 2 ^ i ∧ (i = 0 ∨ c.toInt < 4 * e.toInt) ∧ 2 * e.toInt ≤ c.toInt
theorem own_pow (i : Nat) (h : i ≤ 28) : (2 : Int) ^ i ≤ 268435456 := by
  have : ∀ i : Fin 29, (2 : Int) ^ i.1 ≤ 268435456 := by decide
  exact this ⟨i, by omega⟩
theorem own_pow0 (i : Nat) (h : i ≤ 28) : (0 : Int) ≤ 2 ^ i := by
  have : ∀ i : Fin 29, (0 : Int) ≤ 2 ^ i.1 := by decide
  exact this ⟨i, by omega⟩
theorem own_end {e c : Int64} (he : 0 ≤ e.toInt ∧ e.toInt ≤ 2147483648) (h : own_I e 0 c) : ¬ lcmpW c ((2 : Int64) * e) < (0 : Int32) := by
  obtain ⟨i, hi, hc, -⟩ := h
  obtain rfl : i = 28 := by omega
  rw [lw_lt, Int64.lt_iff_toInt_lt, own_2e he, hc]
  omega
theorem own_done {e c : Int64} {n : Nat} (he : 0 ≤ e.toInt ∧ e.toInt ≤ 2147483648) (h : own_I e n c) (q : ¬ lcmpW c ((2 : Int64) * e) < (0 : Int32)) : own_J e c := by
  obtain ⟨i, hi, hc, hl⟩ := h
  rw [lw_lt, Int64.lt_iff_toInt_lt, own_2e he] at q
  exact ⟨i, by omega, hc, hl, by omega⟩
theorem own_next {e c : Int64} {n : Nat} (he : 0 ≤ e.toInt ∧ e.toInt ≤ 2147483648) (h : own_I e (n + 1) c) (q : lcmpW c ((2 : Int64) * e) < (0 : Int32)) : own_I e n (c * (2 : Int64)) := by
  obtain ⟨i, hi, hc, hl⟩ := h
  rw [lw_lt, Int64.lt_iff_toInt_lt, own_2e he] at q
  have hp := own_pow i (by omega)
  have hp0 : (0 : Int) ≤ 2 ^ i := own_pow0 i (by omega)
  have r := c_lmul c 2; rw [own_lit2] at r
  have r2 := rng64 (c * (2 : Int64))
  have e2 : (c * (2 : Int64)).toInt = c.toInt * 2 := by omega
  refine ⟨i + 1, by omega, by rw [e2, hc, Int.pow_succ]; omega, Or.inr (by omega)⟩
theorem own_isI {i : Nat} {c : Int64} (hi : i ≤ 28) (hc : c.toInt = 16 * 2 ^ i) : c &&& (c - (1 : Int64)) = 0 := by
  have q : ∀ i : Fin 29, (Int64.ofInt (16 * 2 ^ i.1)) &&& (Int64.ofInt (16 * 2 ^ i.1) - (1 : Int64)) = 0 := by decide +kernel
  have r := q ⟨i, by omega⟩
  have e : Int64.ofInt (16 * 2 ^ i) = c := by rw [← hc, Int64.ofInt_toInt]
  rw [show ((⟨i, by omega⟩ : Fin 29)).1 = i from rfl, e] at r
  exact r
theorem own_e1 (x : Int64) : 0 ≤ (x &&& (127 : Int64)).toInt ∧ (x &&& (127 : Int64)).toInt ≤ 2147483648 := by
  have q := c_maskL x 127 7 (by decide) (by decide); omega
theorem own_e2 (x : Int64) : 0 ≤ ((x &&& (9223372036854775807 : Int64)) - ((x &&& (9223372036854775807 : Int64)) / (2147483649 : Int64)) * (2147483649 : Int64)).toInt ∧ ((x &&& (9223372036854775807 : Int64)) - ((x &&& (9223372036854775807 : Int64)) / (2147483649 : Int64)) * (2147483649 : Int64)).toInt ≤ 2147483648 := by
  have q := c_maskL x 9223372036854775807 63 (by decide) (by decide)
  have r := (c_lrem (x &&& (9223372036854775807 : Int64)) 2147483649 2147483649 (by decide)).1 (by omega)
  omega
theorem pn_HashSlots : plainName "com/example/verum/verum/HashSlots" = true := by first | (simp [plainName, overriddenIn]; done) | decide +kernel
theorem ef_rm_cap (m : MethodId) (x0 : Int64) : entryFrame m #[(.long x0)] 4 = mkF m 0 #[.val (.long x0), .second, .unset, .unset] [] := by first | (simp [entryFrame, mkF, argsToLocals, Value.category]; done) | rfl
def Q_rm_cap (Z : State) (q : Int64) (h0 : Heap) (n0 : Nat) (v : Option Value) (h : Heap) (L : List Loc) : Prop := ∃ (r : Int64), (v = some (.long r)) ∧ (Fr n0 L) ∧ (h = h0) ∧ (own_J q r)
theorem d1_0 : decode prog_36_method_5_code 0 = .ok (.ldc2_w 3, 3) := by decide +kernel
theorem d1_3 : decode prog_36_method_5_code 3 = .ok (.lstore_n 2, 1) := by decide +kernel
theorem d1_4 : decode prog_36_method_5_code 4 = .ok (.lload_n 2, 1) := by decide +kernel
theorem d1_5 : decode prog_36_method_5_code 5 = .ok (.ldc2_w 34, 3) := by decide +kernel
theorem d1_8 : decode prog_36_method_5_code 8 = .ok (.lload_n 0, 1) := by decide +kernel
theorem d1_9 : decode prog_36_method_5_code 9 = .ok (.lmul, 1) := by decide +kernel
theorem d1_10 : decode prog_36_method_5_code 10 = .ok (.lcmp, 1) := by decide +kernel
theorem d1_11 : decode prog_36_method_5_code 11 = .ok (.ifCond .ge 12, 3) := by decide +kernel
theorem d1_14 : decode prog_36_method_5_code 14 = .ok (.lload_n 2, 1) := by decide +kernel
theorem d1_15 : decode prog_36_method_5_code 15 = .ok (.ldc2_w 34, 3) := by decide +kernel
theorem d1_18 : decode prog_36_method_5_code 18 = .ok (.lmul, 1) := by decide +kernel
theorem d1_19 : decode prog_36_method_5_code 19 = .ok (.lstore_n 2, 1) := by decide +kernel
theorem d1_20 : decode prog_36_method_5_code 20 = .ok (.goto (-16), 3) := by decide +kernel
theorem d1_23 : decode prog_36_method_5_code 23 = .ok (.lload_n 2, 1) := by decide +kernel
theorem d1_24 : decode prog_36_method_5_code 24 = .ok (.lreturn, 1) := by decide +kernel
set_option maxRecDepth 65536 in
set_option maxHeartbeats 40000000 in
theorem rm_cap (l : Launch) (Z : State) (a0 : Array Value) (hw : ∀ d ∈ tables_1, d.before a0 Z = true) (ws : List Jvm.Cond) (q : Int64) (h0 : Heap) (n0 : Nat) (Z0 : n0 ≤ h0.size) (he : 0 ≤ q.toInt ∧ q.toInt ≤ 2147483648) :
    Con l Z (⟨"com/example/verum/verum/HashSlots", "capacityFor", "(J)J"⟩ : MethodName) prog_36_method_5_code 4 (some .long) ws ({ frames := 0, cells := 0, slots := 0, locals := 0 } : Room) #[(.long q)] h0 (Q_rm_cap Z q h0 n0) := by
  refine MetFree.of_bodySF (plainFor_of_name pn_HashSlots) hisR ?_
  intro p e s m args below meth c s₁ Bd hml0 hP hK
  obtain ⟨rfl, hZ, hh⟩ := hP
  have hx := Bd.exec
  have hby := Bd.bytes
  have hml : c.maxLocals = 4 := hml0
  have hown : s.vm.findClass "com/example/verum/verum/HashSlots" = some m.cls := findClass_of_methodNamed Bd.named
  have hnm := (name_of_methodNamed Bd.named Bd.method).1
  have X0 : Stand p l e ({ frames := 0, cells := 0, slots := 0, locals := 0 } : Room) s m #[(.long q)] below meth c s₁ [] 0 0 := Stand.of_body Bd
  have e0 : s₁.heap = h0 := by rw [← hh, Bd.state]; rfl
  have N0 := Fr.nil n0
  have k0 : Rch p e below (s₁.setTop (entryFrame m #[(.long q)] 4)) s₁ (mkF m 0 #[.val (.long q), .second, .unset, .unset] []) := fun tg kg => castTop (ef_rm_cap m q) kg
  have k1 : Rch p e below (s₁.setTop (entryFrame m #[(.long q)] 4)) s₁ (mkF m 4 #[.val (.long q), .second, .val (.long (16 : Int64)), .second] []) := fun tg kg => by
    refine k0 tg ?_
    show Steps p.tables e below (s₁.setTop (mkF m 0 #[.val (.long q), .second, .unset, .unset] [])) tg
    refine X0.ldc2Long hx hown (mvT hZ (hw _ (List.mem_of_getElem? (i := 6) rfl))) (g := (mkF m 0 #[.val (.long q), .second, .unset, .unset] [])) rfl (hb hby d1_0) _ ?_
    show Steps p.tables e below (s₁.setTop (mkF m 3 #[.val (.long q), .second, .unset, .unset] [(.long (16 : Int64))])) tg
    refine XS.lstoreN X0.here hx rfl (hb hby d1_3) rfl (l' := #[.val (.long q), .second, .val (.long (16 : Int64)), .second]) rfl ?_
    exact kg
  have loop : ∀ (n : Nat) (c : Int64), own_I q n c → Rch p e below (s₁.setTop (entryFrame m #[(.long q)] 4)) s₁ (mkF m 4 #[.val (.long q), .second, .val (.long c), .second] []) → ∃ c' : Int64, own_J q c' ∧ Rch p e below (s₁.setTop (entryFrame m #[(.long q)] 4)) s₁ (mkF m 23 #[.val (.long q), .second, .val (.long c'), .second] []) := by
    intro n
    induction n with
    | zero =>
      intro c hI kk
      have k2 : Rch p e below (s₁.setTop (entryFrame m #[(.long q)] 4)) s₁ (mkF m 23 #[.val (.long q), .second, .val (.long c), .second] []) := fun tg kg => by
        refine kk tg ?_
        show Steps p.tables e below (s₁.setTop (mkF m 4 #[.val (.long q), .second, .val (.long c), .second] [])) tg
        refine XS.lloadN X0.here hx rfl (hb hby d1_4) rfl ?_
        show Steps p.tables e below (s₁.setTop (mkF m 5 #[.val (.long q), .second, .val (.long c), .second] [(.long c)])) tg
        refine X0.ldc2Long hx hown (mvT hZ (hw _ (List.mem_of_getElem? (i := 7) rfl))) (g := (mkF m 5 #[.val (.long q), .second, .val (.long c), .second] [(.long c)])) rfl (hb hby d1_5) _ ?_
        show Steps p.tables e below (s₁.setTop (mkF m 8 #[.val (.long q), .second, .val (.long c), .second] [(.long (2 : Int64)), (.long c)])) tg
        refine XS.lloadN X0.here hx rfl (hb hby d1_8) rfl ?_
        show Steps p.tables e below (s₁.setTop (mkF m 9 #[.val (.long q), .second, .val (.long c), .second] [(.long q), (.long (2 : Int64)), (.long c)])) tg
        refine XS.lmul X0.here hx rfl (hb hby d1_9) rfl ?_
        show Steps p.tables e below (s₁.setTop (mkF m 10 #[.val (.long q), .second, .val (.long c), .second] [(.long ((2 : Int64) * q)), (.long c)])) tg
        refine XS.lcmp X0.here hx rfl (hb hby d1_10) rfl ?_
        show Steps p.tables e below (s₁.setTop (mkF m 11 #[.val (.long q), .second, .val (.long c), .second] [(.int (lcmpW c ((2 : Int64) * q)))])) tg
        refine XS.ifYes X0.here hx rfl (pc0 := 11) (pc' := 23) rfl (hb hby d1_11) rfl ((if0 _ _).trans (flt (own_end he hI)).2.1) (by decide) (by decide) ?_
        exact kg
      exact ⟨c, own_done he hI (own_end he hI), k2⟩
    | succ n ih =>
      intro c hI kk
      have k3 : Rch p e below (s₁.setTop (entryFrame m #[(.long q)] 4)) s₁ (mkF m 11 #[.val (.long q), .second, .val (.long c), .second] [(.int (lcmpW c ((2 : Int64) * q)))]) := fun tg kg => by
        refine kk tg ?_
        show Steps p.tables e below (s₁.setTop (mkF m 4 #[.val (.long q), .second, .val (.long c), .second] [])) tg
        refine XS.lloadN X0.here hx rfl (hb hby d1_4) rfl ?_
        show Steps p.tables e below (s₁.setTop (mkF m 5 #[.val (.long q), .second, .val (.long c), .second] [(.long c)])) tg
        refine X0.ldc2Long hx hown (mvT hZ (hw _ (List.mem_of_getElem? (i := 7) rfl))) (g := (mkF m 5 #[.val (.long q), .second, .val (.long c), .second] [(.long c)])) rfl (hb hby d1_5) _ ?_
        show Steps p.tables e below (s₁.setTop (mkF m 8 #[.val (.long q), .second, .val (.long c), .second] [(.long (2 : Int64)), (.long c)])) tg
        refine XS.lloadN X0.here hx rfl (hb hby d1_8) rfl ?_
        show Steps p.tables e below (s₁.setTop (mkF m 9 #[.val (.long q), .second, .val (.long c), .second] [(.long q), (.long (2 : Int64)), (.long c)])) tg
        refine XS.lmul X0.here hx rfl (hb hby d1_9) rfl ?_
        show Steps p.tables e below (s₁.setTop (mkF m 10 #[.val (.long q), .second, .val (.long c), .second] [(.long ((2 : Int64) * q)), (.long c)])) tg
        refine XS.lcmp X0.here hx rfl (hb hby d1_10) rfl ?_
        exact kg
      by_cases hc11_4 : (lcmpW c ((2 : Int64) * q)) < (0 : Int32)
      · have k5 : Rch p e below (s₁.setTop (entryFrame m #[(.long q)] 4)) s₁ (mkF m 4 #[.val (.long q), .second, .val (.long (c * (2 : Int64))), .second] []) := fun tg kg => by
          refine k3 tg ?_
          show Steps p.tables e below (s₁.setTop (mkF m 11 #[.val (.long q), .second, .val (.long c), .second] [(.int (lcmpW c ((2 : Int64) * q)))])) tg
          refine XS.ifNo X0.here hx rfl (hb hby d1_11) rfl ((if0 _ _).trans (tlt hc11_4).2.1) ?_
          show Steps p.tables e below (s₁.setTop (mkF m 14 #[.val (.long q), .second, .val (.long c), .second] [])) tg
          refine XS.lloadN X0.here hx rfl (hb hby d1_14) rfl ?_
          show Steps p.tables e below (s₁.setTop (mkF m 15 #[.val (.long q), .second, .val (.long c), .second] [(.long c)])) tg
          refine X0.ldc2Long hx hown (mvT hZ (hw _ (List.mem_of_getElem? (i := 7) rfl))) (g := (mkF m 15 #[.val (.long q), .second, .val (.long c), .second] [(.long c)])) rfl (hb hby d1_15) _ ?_
          show Steps p.tables e below (s₁.setTop (mkF m 18 #[.val (.long q), .second, .val (.long c), .second] [(.long (2 : Int64)), (.long c)])) tg
          refine XS.lmul X0.here hx rfl (hb hby d1_18) rfl ?_
          show Steps p.tables e below (s₁.setTop (mkF m 19 #[.val (.long q), .second, .val (.long c), .second] [(.long (c * (2 : Int64)))])) tg
          refine XS.lstoreN X0.here hx rfl (hb hby d1_19) rfl (l' := #[.val (.long q), .second, .val (.long (c * (2 : Int64))), .second]) rfl ?_
          show Steps p.tables e below (s₁.setTop (mkF m 20 #[.val (.long q), .second, .val (.long (c * (2 : Int64))), .second] [])) tg
          refine XS.goto X0.here hx rfl (pc0 := 20) (pc' := 4) rfl (hb hby d1_20) (by decide) (by decide) ?_
          exact kg
        exact ih _ (own_next he hI hc11_4) k5
      · have k6 : Rch p e below (s₁.setTop (entryFrame m #[(.long q)] 4)) s₁ (mkF m 23 #[.val (.long q), .second, .val (.long c), .second] []) := fun tg kg => by
          refine k3 tg ?_
          show Steps p.tables e below (s₁.setTop (mkF m 11 #[.val (.long q), .second, .val (.long c), .second] [(.int (lcmpW c ((2 : Int64) * q)))])) tg
          refine XS.ifYes X0.here hx rfl (pc0 := 11) (pc' := 23) rfl (hb hby d1_11) rfl ((if0 _ _).trans (flt hc11_4).2.1) (by decide) (by decide) ?_
          exact kg
        exact ⟨c, own_done he hI hc11_4, k6⟩
  obtain ⟨r, hJ, kL⟩ := loop 28 _ ⟨0, rfl, by decide, Or.inl rfl⟩ k1
  have k7 : Rch p e below (s₁.setTop (entryFrame m #[(.long q)] 4)) s₁ (mkF m 24 #[.val (.long q), .second, .val (.long r), .second] [(.long r)]) := fun tg kg => by
    refine kL tg ?_
    show Steps p.tables e below (s₁.setTop (mkF m 23 #[.val (.long q), .second, .val (.long r), .second] [])) tg
    refine XS.lloadN X0.here hx rfl (hb hby d1_23) rfl ?_
    exact kg
  obtain ⟨fs8, hr8, hrun8, hended8, hW8, hsame8⟩ := X0.leave (v := some (.long r)) (fun h => by rw [Bd.returns] at h; cases h)
  refine ⟨_, _, k7 _ ?_, hrun8, hended8, _, _, rfl, ?_, ⟨_, rfl⟩, hW8, hsame8.mono (by decide) (by decide)⟩
  · exact retOut X0 hx Bd.returns rfl (Or.inr (Or.inl ⟨rfl, rfl, _, rfl⟩)) (hb hby d1_24) hr8
  · show Q_rm_cap Z q h0 n0 _ s₁.heap _
    rw [e0]
    exact ⟨r, rfl, N0, rfl, hJ⟩
theorem pn_HashSlotsCapacityForPinLaw : plainName "com/example/verum/verum/HashSlotsCapacityForPinLaw" = true := by first | (simp [plainName, overriddenIn]; done) | decide +kernel
theorem ef_rm0 (m : MethodId) (x0 : Int64) (x1 : Int32) : entryFrame m #[(.long x0), (.int x1)] maxLocals = mkF m 0 #[.val (.long x0), .second, .val (.int x1), .unset, .unset, .unset, .unset, .unset, .unset, .unset, .unset, .unset] [] := by first | (simp [entryFrame, mkF, argsToLocals, Value.category, maxLocals]; done) | rfl
def Q_rm0 (Z : State) (q1 : Int64) (i2 : Int32) (h0 : Heap) (n0 : Nat) (v : Option Value) (h : Heap) (L : List Loc) : Prop := (v = some (.int 1)) ∧ (Fr n0 L)
theorem pd_0 : parseMethodDescriptor "(J)J" = some ⟨[.long], some .long⟩ := by decide +kernel
set_option maxRecDepth 65536 in
set_option maxHeartbeats 40000000 in
theorem rm0 (l : Launch) (Z : State) (a0 : Array Value) (hw : ∀ d ∈ tables_1, d.before a0 Z = true) (ws : List Jvm.Cond) (q1 : Int64) (i2 : Int32) (h0 : Heap) (n0 : Nat) (Z0 : n0 ≤ h0.size)  :
    Con l Z x code maxLocals ret ws room_1 #[(.long q1), (.int i2)] h0 (Q_rm0 Z q1 i2 h0 n0) := by
  refine MetFree.of_bodySF (plainFor_of_name pn_HashSlotsCapacityForPinLaw) hisR ?_
  intro p e s m args below meth c s₁ Bd hml0 hP hK
  obtain ⟨rfl, hZ, hh⟩ := hP
  have hx := Bd.exec
  have hby := Bd.bytes
  have hml : c.maxLocals = 12 := hml0
  have hown : s.vm.findClass "com/example/verum/verum/HashSlotsCapacityForPinLaw" = some m.cls := findClass_of_methodNamed Bd.named
  have hnm := (name_of_methodNamed Bd.named Bd.method).1
  have X0 : Stand p l e room_1 s m #[(.long q1), (.int i2)] below meth c s₁ [] 0 0 := Stand.of_body Bd
  have e0 : s₁.heap = h0 := by rw [← hh, Bd.state]; rfl
  have N0 := Fr.nil n0
  have k0 : Rch p e below (s₁.setTop (entryFrame m #[(.long q1), (.int i2)] maxLocals)) s₁ (mkF m 0 #[.val (.long q1), .second, .val (.int i2), .unset, .unset, .unset, .unset, .unset, .unset, .unset, .unset, .unset] []) := fun tg kg => castTop (ef_rm0 m q1 i2) kg
  have k1 : Rch p e below (s₁.setTop (entryFrame m #[(.long q1), (.int i2)] maxLocals)) s₁ (mkF m 3 #[.val (.long q1), .second, .val (.int i2), .unset, .unset, .unset, .unset, .unset, .unset, .unset, .unset, .unset] [(.int (i2 &&& (1 : Int32)))]) := fun tg kg => by
    refine k0 tg ?_
    show Steps p.tables e below (s₁.setTop (mkF m 0 #[.val (.long q1), .second, .val (.int i2), .unset, .unset, .unset, .unset, .unset, .unset, .unset, .unset, .unset] [])) tg
    refine XS.iloadN X0.here hx rfl (hb hby at_0) rfl ?_
    show Steps p.tables e below (s₁.setTop (mkF m 1 #[.val (.long q1), .second, .val (.int i2), .unset, .unset, .unset, .unset, .unset, .unset, .unset, .unset, .unset] [(.int i2)])) tg
    refine XS.iconst X0.here hx rfl (hb hby at_1) ?_
    show Steps p.tables e below (s₁.setTop (mkF m 2 #[.val (.long q1), .second, .val (.int i2), .unset, .unset, .unset, .unset, .unset, .unset, .unset, .unset, .unset] [(.int (1 : Int32)), (.int i2)])) tg
    refine XS.iand X0.here hx rfl (hb hby at_2) rfl ?_
    exact kg
  obtain ⟨e1, he, k2⟩ : ∃ (e1 : Int64), (0 ≤ e1.toInt ∧ e1.toInt ≤ 2147483648) ∧ Rch p e below (s₁.setTop (entryFrame m #[(.long q1), (.int i2)] maxLocals)) s₁ (mkF m 25 #[.val (.long q1), .second, .val (.int i2), .val (.long e1), .second, .unset, .unset, .unset, .unset, .unset, .unset, .unset] []) := by
    by_cases hc3_3 : (i2 &&& (1 : Int32)) = (0 : Int32)
    · have k4 : Rch p e below (s₁.setTop (entryFrame m #[(.long q1), (.int i2)] maxLocals)) s₁ (mkF m 25 #[.val (.long q1), .second, .val (.int i2), .val (.long ((q1 &&& (9223372036854775807 : Int64)) - ((q1 &&& (9223372036854775807 : Int64)) / (2147483649 : Int64)) * (2147483649 : Int64))), .second, .unset, .unset, .unset, .unset, .unset, .unset, .unset] []) := fun tg kg => by
        refine k1 tg ?_
        show Steps p.tables e below (s₁.setTop (mkF m 3 #[.val (.long q1), .second, .val (.int i2), .unset, .unset, .unset, .unset, .unset, .unset, .unset, .unset, .unset] [(.int (i2 &&& (1 : Int32)))])) tg
        refine XS.ifYes X0.here hx rfl (pc0 := 3) (pc' := 15) rfl (hb hby at_3) rfl ((if0 _ _).trans (teq hc3_3).1) (by decide) (by decide) ?_
        show Steps p.tables e below (s₁.setTop (mkF m 15 #[.val (.long q1), .second, .val (.int i2), .unset, .unset, .unset, .unset, .unset, .unset, .unset, .unset, .unset] [])) tg
        refine XS.lloadN X0.here hx rfl (hb hby at_15) rfl ?_
        show Steps p.tables e below (s₁.setTop (mkF m 16 #[.val (.long q1), .second, .val (.int i2), .unset, .unset, .unset, .unset, .unset, .unset, .unset, .unset, .unset] [(.long q1)])) tg
        refine X0.ldc2Long hx hown (mvT hZ (hw _ (List.mem_of_getElem? (i := 0) rfl))) (g := (mkF m 16 #[.val (.long q1), .second, .val (.int i2), .unset, .unset, .unset, .unset, .unset, .unset, .unset, .unset, .unset] [(.long q1)])) rfl (hb hby at_16) _ ?_
        show Steps p.tables e below (s₁.setTop (mkF m 19 #[.val (.long q1), .second, .val (.int i2), .unset, .unset, .unset, .unset, .unset, .unset, .unset, .unset, .unset] [(.long (9223372036854775807 : Int64)), (.long q1)])) tg
        refine XS.land X0.here hx rfl (hb hby at_19) rfl ?_
        show Steps p.tables e below (s₁.setTop (mkF m 20 #[.val (.long q1), .second, .val (.int i2), .unset, .unset, .unset, .unset, .unset, .unset, .unset, .unset, .unset] [(.long (q1 &&& (9223372036854775807 : Int64)))])) tg
        refine X0.ldc2Long hx hown (mvT hZ (hw _ (List.mem_of_getElem? (i := 1) rfl))) (g := (mkF m 20 #[.val (.long q1), .second, .val (.int i2), .unset, .unset, .unset, .unset, .unset, .unset, .unset, .unset, .unset] [(.long (q1 &&& (9223372036854775807 : Int64)))])) rfl (hb hby at_20) _ ?_
        show Steps p.tables e below (s₁.setTop (mkF m 23 #[.val (.long q1), .second, .val (.int i2), .unset, .unset, .unset, .unset, .unset, .unset, .unset, .unset, .unset] [(.long (2147483649 : Int64)), (.long (q1 &&& (9223372036854775807 : Int64)))])) tg
        refine XS.lrem X0.here hx rfl (hb hby at_23) rfl (by decide) ?_
        show Steps p.tables e below (s₁.setTop (mkF m 24 #[.val (.long q1), .second, .val (.int i2), .unset, .unset, .unset, .unset, .unset, .unset, .unset, .unset, .unset] [(.long ((q1 &&& (9223372036854775807 : Int64)) - ((q1 &&& (9223372036854775807 : Int64)) / (2147483649 : Int64)) * (2147483649 : Int64)))])) tg
        refine XS.lstoreN X0.here hx rfl (hb hby at_24) rfl (l' := #[.val (.long q1), .second, .val (.int i2), .val (.long ((q1 &&& (9223372036854775807 : Int64)) - ((q1 &&& (9223372036854775807 : Int64)) / (2147483649 : Int64)) * (2147483649 : Int64))), .second, .unset, .unset, .unset, .unset, .unset, .unset, .unset]) rfl ?_
        exact kg
      exact ⟨_, own_e2 _, k4⟩
    · have k5 : Rch p e below (s₁.setTop (entryFrame m #[(.long q1), (.int i2)] maxLocals)) s₁ (mkF m 25 #[.val (.long q1), .second, .val (.int i2), .val (.long (q1 &&& (127 : Int64))), .second, .unset, .unset, .unset, .unset, .unset, .unset, .unset] []) := fun tg kg => by
        refine k1 tg ?_
        show Steps p.tables e below (s₁.setTop (mkF m 3 #[.val (.long q1), .second, .val (.int i2), .unset, .unset, .unset, .unset, .unset, .unset, .unset, .unset, .unset] [(.int (i2 &&& (1 : Int32)))])) tg
        refine XS.ifNo X0.here hx rfl (hb hby at_3) rfl ((if0 _ _).trans (feq hc3_3).1) ?_
        show Steps p.tables e below (s₁.setTop (mkF m 6 #[.val (.long q1), .second, .val (.int i2), .unset, .unset, .unset, .unset, .unset, .unset, .unset, .unset, .unset] [])) tg
        refine XS.lloadN X0.here hx rfl (hb hby at_6) rfl ?_
        show Steps p.tables e below (s₁.setTop (mkF m 7 #[.val (.long q1), .second, .val (.int i2), .unset, .unset, .unset, .unset, .unset, .unset, .unset, .unset, .unset] [(.long q1)])) tg
        refine X0.ldc2Long hx hown (mvT hZ (hw _ (List.mem_of_getElem? (i := 12) rfl))) (g := (mkF m 7 #[.val (.long q1), .second, .val (.int i2), .unset, .unset, .unset, .unset, .unset, .unset, .unset, .unset, .unset] [(.long q1)])) rfl (hb hby at_7) _ ?_
        show Steps p.tables e below (s₁.setTop (mkF m 10 #[.val (.long q1), .second, .val (.int i2), .unset, .unset, .unset, .unset, .unset, .unset, .unset, .unset, .unset] [(.long (127 : Int64)), (.long q1)])) tg
        refine XS.land X0.here hx rfl (hb hby at_10) rfl ?_
        show Steps p.tables e below (s₁.setTop (mkF m 11 #[.val (.long q1), .second, .val (.int i2), .unset, .unset, .unset, .unset, .unset, .unset, .unset, .unset, .unset] [(.long (q1 &&& (127 : Int64)))])) tg
        refine XS.lstoreN X0.here hx rfl (hb hby at_11) rfl (l' := #[.val (.long q1), .second, .val (.int i2), .val (.long (q1 &&& (127 : Int64))), .second, .unset, .unset, .unset, .unset, .unset, .unset, .unset]) rfl ?_
        show Steps p.tables e below (s₁.setTop (mkF m 12 #[.val (.long q1), .second, .val (.int i2), .val (.long (q1 &&& (127 : Int64))), .second, .unset, .unset, .unset, .unset, .unset, .unset, .unset] [])) tg
        refine XS.goto X0.here hx rfl (pc0 := 12) (pc' := 25) rfl (hb hby at_12) (by decide) (by decide) ?_
        exact kg
      exact ⟨_, own_e1 _, k5⟩
  have k6 : Rch p e below (s₁.setTop (entryFrame m #[(.long q1), (.int i2)] maxLocals)) s₁ (mkF m 26 #[.val (.long q1), .second, .val (.int i2), .val (.long e1), .second, .unset, .unset, .unset, .unset, .unset, .unset, .unset] [(.long e1)]) := fun tg kg => by
    refine k2 tg ?_
    show Steps p.tables e below (s₁.setTop (mkF m 25 #[.val (.long q1), .second, .val (.int i2), .val (.long e1), .second, .unset, .unset, .unset, .unset, .unset, .unset, .unset] [])) tg
    refine XS.lloadN X0.here hx rfl (hb hby at_25) rfl ?_
    exact kg
  obtain ⟨v7, T7, h7, Lc7, X7, e7, hQ7, st7⟩ := own_callS X0 hx hZ hown (hw _ (List.mem_of_getElem? (i := 2) rfl)) (hw _ (List.mem_of_getElem? (i := 3) rfl)) (hw _ (List.mem_of_getElem? (i := 4) rfl)) (hw _ (List.mem_of_getElem? (i := 5) rfl)) (by decide) (rm_cap l Z a0 hw [] e1 h0 n0 (by omega) he) e0 (g := (mkF m 26 #[.val (.long q1), .second, .val (.int i2), .val (.long e1), .second, .unset, .unset, .unset, .unset, .unset, .unset, .unset] [(.long e1)])) rfl (by rw [hml]; rfl) (argsL := [(.long e1)]) (rest := []) rfl (lenOf pd_0 rfl) rfl (W := 0) (by show 2 * 0 + _ ≤ _; exact Nat.le_of_eq rfl) (hb hby at_26) (by decide) (by decide) (by decide) (by decide)
  obtain ⟨cc, rfl, Nq7, hs7, hp7_J⟩ := hQ7
  have N7 := Fr.app N0 Nq7
  have e7' : T7.heap = h0 := e7.trans hs7
  have k8 : Rch p e below (s₁.setTop (entryFrame m #[(.long q1), (.int i2)] maxLocals)) T7 (mkF m 29 #[.val (.long q1), .second, .val (.int i2), .val (.long e1), .second, .unset, .unset, .unset, .unset, .unset, .unset, .unset] [(.long cc)]) := fun tg kg => k6 tg (st7 tg kg)
  obtain ⟨i, hi, hc, hl, h2e⟩ := hp7_J
  have hpw := own_pow i hi
  have hp0 : (1 : Int) ≤ 2 ^ i := by have : ∀ i : Fin 29, (1 : Int) ≤ 2 ^ i.1 := by decide
                                     exact this ⟨i, by omega⟩
  have k9 : Rch p e below (s₁.setTop (entryFrame m #[(.long q1), (.int i2)] maxLocals)) T7 (mkF m 113 #[.val (.long q1), .second, .val (.int i2), .val (.long e1), .second, .val (.long cc), .second, .val (.int (1 : Int32)), .val (.int (1 : Int32)), .val (.int (1 : Int32)), .val (.int (1 : Int32)), .unset] [(.int (lcmpW cc (16 : Int64)))]) := fun tg kg => by
    refine k8 tg ?_
    show Steps p.tables e below (T7.setTop (mkF m 29 #[.val (.long q1), .second, .val (.int i2), .val (.long e1), .second, .unset, .unset, .unset, .unset, .unset, .unset, .unset] [(.long cc)])) tg
    refine XS.lstore X7.here hx rfl (hb hby at_29) rfl (l' := #[.val (.long q1), .second, .val (.int i2), .val (.long e1), .second, .val (.long cc), .second, .unset, .unset, .unset, .unset, .unset]) rfl ?_
    show Steps p.tables e below (T7.setTop (mkF m 31 #[.val (.long q1), .second, .val (.int i2), .val (.long e1), .second, .val (.long cc), .second, .unset, .unset, .unset, .unset, .unset] [])) tg
    refine XS.lload X7.here hx rfl (hb hby at_31) rfl ?_
    show Steps p.tables e below (T7.setTop (mkF m 33 #[.val (.long q1), .second, .val (.int i2), .val (.long e1), .second, .val (.long cc), .second, .unset, .unset, .unset, .unset, .unset] [(.long cc)])) tg
    refine XS.lconst X7.here hx rfl (hb hby at_33) ?_
    show Steps p.tables e below (T7.setTop (mkF m 34 #[.val (.long q1), .second, .val (.int i2), .val (.long e1), .second, .val (.long cc), .second, .unset, .unset, .unset, .unset, .unset] [(.long (0 : Int64)), (.long cc)])) tg
    refine XS.lcmp X7.here hx rfl (hb hby at_34) rfl ?_
    show Steps p.tables e below (T7.setTop (mkF m 35 #[.val (.long q1), .second, .val (.int i2), .val (.long e1), .second, .val (.long cc), .second, .unset, .unset, .unset, .unset, .unset] [(.int (lcmpW cc (0 : Int64)))])) tg
    refine XS.ifNo X7.here hx rfl (hb hby at_35) rfl ((if0 _ _).trans (tlt ((lw_gt _ _).mpr (by rw [Int64.lt_iff_toInt_lt, show (0 : Int64).toInt = 0 by decide]; omega))).2.2.2) ?_
    show Steps p.tables e below (T7.setTop (mkF m 38 #[.val (.long q1), .second, .val (.int i2), .val (.long e1), .second, .val (.long cc), .second, .unset, .unset, .unset, .unset, .unset] [])) tg
    refine XS.lload X7.here hx rfl (hb hby at_38) rfl ?_
    show Steps p.tables e below (T7.setTop (mkF m 40 #[.val (.long q1), .second, .val (.int i2), .val (.long e1), .second, .val (.long cc), .second, .unset, .unset, .unset, .unset, .unset] [(.long cc)])) tg
    refine XS.lload X7.here hx rfl (hb hby at_40) rfl ?_
    show Steps p.tables e below (T7.setTop (mkF m 42 #[.val (.long q1), .second, .val (.int i2), .val (.long e1), .second, .val (.long cc), .second, .unset, .unset, .unset, .unset, .unset] [(.long cc), (.long cc)])) tg
    refine XS.lconst X7.here hx rfl (hb hby at_42) ?_
    show Steps p.tables e below (T7.setTop (mkF m 43 #[.val (.long q1), .second, .val (.int i2), .val (.long e1), .second, .val (.long cc), .second, .unset, .unset, .unset, .unset, .unset] [(.long (1 : Int64)), (.long cc), (.long cc)])) tg
    refine XS.lsub X7.here hx rfl (hb hby at_43) rfl ?_
    show Steps p.tables e below (T7.setTop (mkF m 44 #[.val (.long q1), .second, .val (.int i2), .val (.long e1), .second, .val (.long cc), .second, .unset, .unset, .unset, .unset, .unset] [(.long (cc - (1 : Int64))), (.long cc)])) tg
    refine XS.land X7.here hx rfl (hb hby at_44) rfl ?_
    show Steps p.tables e below (T7.setTop (mkF m 45 #[.val (.long q1), .second, .val (.int i2), .val (.long e1), .second, .val (.long cc), .second, .unset, .unset, .unset, .unset, .unset] [(.long (cc &&& (cc - (1 : Int64))))])) tg
    refine XS.lconst X7.here hx rfl (hb hby at_45) ?_
    show Steps p.tables e below (T7.setTop (mkF m 46 #[.val (.long q1), .second, .val (.int i2), .val (.long e1), .second, .val (.long cc), .second, .unset, .unset, .unset, .unset, .unset] [(.long (0 : Int64)), (.long (cc &&& (cc - (1 : Int64))))])) tg
    refine XS.lcmp X7.here hx rfl (hb hby at_46) rfl ?_
    show Steps p.tables e below (T7.setTop (mkF m 47 #[.val (.long q1), .second, .val (.int i2), .val (.long e1), .second, .val (.long cc), .second, .unset, .unset, .unset, .unset, .unset] [(.int (lcmpW (cc &&& (cc - (1 : Int64))) (0 : Int64)))])) tg
    refine XS.ifNo X7.here hx rfl (hb hby at_47) rfl ((if0 _ _).trans (teq ((lw_eq _ _).mpr (own_isI hi hc))).2) ?_
    show Steps p.tables e below (T7.setTop (mkF m 50 #[.val (.long q1), .second, .val (.int i2), .val (.long e1), .second, .val (.long cc), .second, .unset, .unset, .unset, .unset, .unset] [])) tg
    refine XS.iconst X7.here hx rfl (hb hby at_50) ?_
    show Steps p.tables e below (T7.setTop (mkF m 51 #[.val (.long q1), .second, .val (.int i2), .val (.long e1), .second, .val (.long cc), .second, .unset, .unset, .unset, .unset, .unset] [(.int (1 : Int32))])) tg
    refine XS.goto X7.here hx rfl (pc0 := 51) (pc' := 55) rfl (hb hby at_51) (by decide) (by decide) ?_
    show Steps p.tables e below (T7.setTop (mkF m 55 #[.val (.long q1), .second, .val (.int i2), .val (.long e1), .second, .val (.long cc), .second, .unset, .unset, .unset, .unset, .unset] [(.int (1 : Int32))])) tg
    refine XS.istore X7.here hx rfl (hb hby at_55) rfl (l' := #[.val (.long q1), .second, .val (.int i2), .val (.long e1), .second, .val (.long cc), .second, .val (.int (1 : Int32)), .unset, .unset, .unset, .unset]) rfl ?_
    show Steps p.tables e below (T7.setTop (mkF m 57 #[.val (.long q1), .second, .val (.int i2), .val (.long e1), .second, .val (.long cc), .second, .val (.int (1 : Int32)), .unset, .unset, .unset, .unset] [])) tg
    refine XS.lload X7.here hx rfl (hb hby at_57) rfl ?_
    show Steps p.tables e below (T7.setTop (mkF m 59 #[.val (.long q1), .second, .val (.int i2), .val (.long e1), .second, .val (.long cc), .second, .val (.int (1 : Int32)), .unset, .unset, .unset, .unset] [(.long cc)])) tg
    refine X7.ldc2Long hx hown (mvT hZ (hw _ (List.mem_of_getElem? (i := 8) rfl))) (g := (mkF m 59 #[.val (.long q1), .second, .val (.int i2), .val (.long e1), .second, .val (.long cc), .second, .val (.int (1 : Int32)), .unset, .unset, .unset, .unset] [(.long cc)])) rfl (hb hby at_59) _ ?_
    show Steps p.tables e below (T7.setTop (mkF m 62 #[.val (.long q1), .second, .val (.int i2), .val (.long e1), .second, .val (.long cc), .second, .val (.int (1 : Int32)), .unset, .unset, .unset, .unset] [(.long (16 : Int64)), (.long cc)])) tg
    refine XS.lcmp X7.here hx rfl (hb hby at_62) rfl ?_
    show Steps p.tables e below (T7.setTop (mkF m 63 #[.val (.long q1), .second, .val (.int i2), .val (.long e1), .second, .val (.long cc), .second, .val (.int (1 : Int32)), .unset, .unset, .unset, .unset] [(.int (lcmpW cc (16 : Int64)))])) tg
    refine XS.ifNo X7.here hx rfl (hb hby at_63) rfl ((if0 _ _).trans (flt (fun q => by rw [lw_lt, Int64.lt_iff_toInt_lt, show (16 : Int64).toInt = 16 by decide] at q; omega)).1) ?_
    show Steps p.tables e below (T7.setTop (mkF m 66 #[.val (.long q1), .second, .val (.int i2), .val (.long e1), .second, .val (.long cc), .second, .val (.int (1 : Int32)), .unset, .unset, .unset, .unset] [])) tg
    refine XS.iconst X7.here hx rfl (hb hby at_66) ?_
    show Steps p.tables e below (T7.setTop (mkF m 67 #[.val (.long q1), .second, .val (.int i2), .val (.long e1), .second, .val (.long cc), .second, .val (.int (1 : Int32)), .unset, .unset, .unset, .unset] [(.int (1 : Int32))])) tg
    refine XS.goto X7.here hx rfl (pc0 := 67) (pc' := 71) rfl (hb hby at_67) (by decide) (by decide) ?_
    show Steps p.tables e below (T7.setTop (mkF m 71 #[.val (.long q1), .second, .val (.int i2), .val (.long e1), .second, .val (.long cc), .second, .val (.int (1 : Int32)), .unset, .unset, .unset, .unset] [(.int (1 : Int32))])) tg
    refine XS.istore X7.here hx rfl (hb hby at_71) rfl (l' := #[.val (.long q1), .second, .val (.int i2), .val (.long e1), .second, .val (.long cc), .second, .val (.int (1 : Int32)), .val (.int (1 : Int32)), .unset, .unset, .unset]) rfl ?_
    show Steps p.tables e below (T7.setTop (mkF m 73 #[.val (.long q1), .second, .val (.int i2), .val (.long e1), .second, .val (.long cc), .second, .val (.int (1 : Int32)), .val (.int (1 : Int32)), .unset, .unset, .unset] [])) tg
    refine XS.lload X7.here hx rfl (hb hby at_73) rfl ?_
    show Steps p.tables e below (T7.setTop (mkF m 75 #[.val (.long q1), .second, .val (.int i2), .val (.long e1), .second, .val (.long cc), .second, .val (.int (1 : Int32)), .val (.int (1 : Int32)), .unset, .unset, .unset] [(.long cc)])) tg
    refine X7.ldc2Long hx hown (mvT hZ (hw _ (List.mem_of_getElem? (i := 9) rfl))) (g := (mkF m 75 #[.val (.long q1), .second, .val (.int i2), .val (.long e1), .second, .val (.long cc), .second, .val (.int (1 : Int32)), .val (.int (1 : Int32)), .unset, .unset, .unset] [(.long cc)])) rfl (hb hby at_75) _ ?_
    show Steps p.tables e below (T7.setTop (mkF m 78 #[.val (.long q1), .second, .val (.int i2), .val (.long e1), .second, .val (.long cc), .second, .val (.int (1 : Int32)), .val (.int (1 : Int32)), .unset, .unset, .unset] [(.long (2 : Int64)), (.long cc)])) tg
    refine XS.lloadN X7.here hx rfl (hb hby at_78) rfl ?_
    show Steps p.tables e below (T7.setTop (mkF m 79 #[.val (.long q1), .second, .val (.int i2), .val (.long e1), .second, .val (.long cc), .second, .val (.int (1 : Int32)), .val (.int (1 : Int32)), .unset, .unset, .unset] [(.long e1), (.long (2 : Int64)), (.long cc)])) tg
    refine XS.lmul X7.here hx rfl (hb hby at_79) rfl ?_
    show Steps p.tables e below (T7.setTop (mkF m 80 #[.val (.long q1), .second, .val (.int i2), .val (.long e1), .second, .val (.long cc), .second, .val (.int (1 : Int32)), .val (.int (1 : Int32)), .unset, .unset, .unset] [(.long ((2 : Int64) * e1)), (.long cc)])) tg
    refine XS.lcmp X7.here hx rfl (hb hby at_80) rfl ?_
    show Steps p.tables e below (T7.setTop (mkF m 81 #[.val (.long q1), .second, .val (.int i2), .val (.long e1), .second, .val (.long cc), .second, .val (.int (1 : Int32)), .val (.int (1 : Int32)), .unset, .unset, .unset] [(.int (lcmpW cc ((2 : Int64) * e1)))])) tg
    refine XS.ifNo X7.here hx rfl (hb hby at_81) rfl ((if0 _ _).trans (flt (fun q => by rw [lw_lt, Int64.lt_iff_toInt_lt, own_2e he] at q; omega)).1) ?_
    show Steps p.tables e below (T7.setTop (mkF m 84 #[.val (.long q1), .second, .val (.int i2), .val (.long e1), .second, .val (.long cc), .second, .val (.int (1 : Int32)), .val (.int (1 : Int32)), .unset, .unset, .unset] [])) tg
    refine XS.iconst X7.here hx rfl (hb hby at_84) ?_
    show Steps p.tables e below (T7.setTop (mkF m 85 #[.val (.long q1), .second, .val (.int i2), .val (.long e1), .second, .val (.long cc), .second, .val (.int (1 : Int32)), .val (.int (1 : Int32)), .unset, .unset, .unset] [(.int (1 : Int32))])) tg
    refine XS.goto X7.here hx rfl (pc0 := 85) (pc' := 89) rfl (hb hby at_85) (by decide) (by decide) ?_
    show Steps p.tables e below (T7.setTop (mkF m 89 #[.val (.long q1), .second, .val (.int i2), .val (.long e1), .second, .val (.long cc), .second, .val (.int (1 : Int32)), .val (.int (1 : Int32)), .unset, .unset, .unset] [(.int (1 : Int32))])) tg
    refine XS.istore X7.here hx rfl (hb hby at_89) rfl (l' := #[.val (.long q1), .second, .val (.int i2), .val (.long e1), .second, .val (.long cc), .second, .val (.int (1 : Int32)), .val (.int (1 : Int32)), .val (.int (1 : Int32)), .unset, .unset]) rfl ?_
    show Steps p.tables e below (T7.setTop (mkF m 91 #[.val (.long q1), .second, .val (.int i2), .val (.long e1), .second, .val (.long cc), .second, .val (.int (1 : Int32)), .val (.int (1 : Int32)), .val (.int (1 : Int32)), .unset, .unset] [])) tg
    refine XS.lload X7.here hx rfl (hb hby at_91) rfl ?_
    show Steps p.tables e below (T7.setTop (mkF m 93 #[.val (.long q1), .second, .val (.int i2), .val (.long e1), .second, .val (.long cc), .second, .val (.int (1 : Int32)), .val (.int (1 : Int32)), .val (.int (1 : Int32)), .unset, .unset] [(.long cc)])) tg
    refine X7.ldc2Long hx hown (mvT hZ (hw _ (List.mem_of_getElem? (i := 10) rfl))) (g := (mkF m 93 #[.val (.long q1), .second, .val (.int i2), .val (.long e1), .second, .val (.long cc), .second, .val (.int (1 : Int32)), .val (.int (1 : Int32)), .val (.int (1 : Int32)), .unset, .unset] [(.long cc)])) rfl (hb hby at_93) _ ?_
    show Steps p.tables e below (T7.setTop (mkF m 96 #[.val (.long q1), .second, .val (.int i2), .val (.long e1), .second, .val (.long cc), .second, .val (.int (1 : Int32)), .val (.int (1 : Int32)), .val (.int (1 : Int32)), .unset, .unset] [(.long (4294967296 : Int64)), (.long cc)])) tg
    refine XS.lcmp X7.here hx rfl (hb hby at_96) rfl ?_
    show Steps p.tables e below (T7.setTop (mkF m 97 #[.val (.long q1), .second, .val (.int i2), .val (.long e1), .second, .val (.long cc), .second, .val (.int (1 : Int32)), .val (.int (1 : Int32)), .val (.int (1 : Int32)), .unset, .unset] [(.int (lcmpW cc (4294967296 : Int64)))])) tg
    refine XS.ifNo X7.here hx rfl (hb hby at_97) rfl ((if0 _ _).trans (flt (fun q => by rw [lw_gt, Int64.lt_iff_toInt_lt, show (4294967296 : Int64).toInt = 4294967296 by decide] at q; omega)).2.2.1) ?_
    show Steps p.tables e below (T7.setTop (mkF m 100 #[.val (.long q1), .second, .val (.int i2), .val (.long e1), .second, .val (.long cc), .second, .val (.int (1 : Int32)), .val (.int (1 : Int32)), .val (.int (1 : Int32)), .unset, .unset] [])) tg
    refine XS.iconst X7.here hx rfl (hb hby at_100) ?_
    show Steps p.tables e below (T7.setTop (mkF m 101 #[.val (.long q1), .second, .val (.int i2), .val (.long e1), .second, .val (.long cc), .second, .val (.int (1 : Int32)), .val (.int (1 : Int32)), .val (.int (1 : Int32)), .unset, .unset] [(.int (1 : Int32))])) tg
    refine XS.goto X7.here hx rfl (pc0 := 101) (pc' := 105) rfl (hb hby at_101) (by decide) (by decide) ?_
    show Steps p.tables e below (T7.setTop (mkF m 105 #[.val (.long q1), .second, .val (.int i2), .val (.long e1), .second, .val (.long cc), .second, .val (.int (1 : Int32)), .val (.int (1 : Int32)), .val (.int (1 : Int32)), .unset, .unset] [(.int (1 : Int32))])) tg
    refine XS.istore X7.here hx rfl (hb hby at_105) rfl (l' := #[.val (.long q1), .second, .val (.int i2), .val (.long e1), .second, .val (.long cc), .second, .val (.int (1 : Int32)), .val (.int (1 : Int32)), .val (.int (1 : Int32)), .val (.int (1 : Int32)), .unset]) rfl ?_
    show Steps p.tables e below (T7.setTop (mkF m 107 #[.val (.long q1), .second, .val (.int i2), .val (.long e1), .second, .val (.long cc), .second, .val (.int (1 : Int32)), .val (.int (1 : Int32)), .val (.int (1 : Int32)), .val (.int (1 : Int32)), .unset] [])) tg
    refine XS.lload X7.here hx rfl (hb hby at_107) rfl ?_
    show Steps p.tables e below (T7.setTop (mkF m 109 #[.val (.long q1), .second, .val (.int i2), .val (.long e1), .second, .val (.long cc), .second, .val (.int (1 : Int32)), .val (.int (1 : Int32)), .val (.int (1 : Int32)), .val (.int (1 : Int32)), .unset] [(.long cc)])) tg
    refine X7.ldc2Long hx hown (mvT hZ (hw _ (List.mem_of_getElem? (i := 8) rfl))) (g := (mkF m 109 #[.val (.long q1), .second, .val (.int i2), .val (.long e1), .second, .val (.long cc), .second, .val (.int (1 : Int32)), .val (.int (1 : Int32)), .val (.int (1 : Int32)), .val (.int (1 : Int32)), .unset] [(.long cc)])) rfl (hb hby at_109) _ ?_
    show Steps p.tables e below (T7.setTop (mkF m 112 #[.val (.long q1), .second, .val (.int i2), .val (.long e1), .second, .val (.long cc), .second, .val (.int (1 : Int32)), .val (.int (1 : Int32)), .val (.int (1 : Int32)), .val (.int (1 : Int32)), .unset] [(.long (16 : Int64)), (.long cc)])) tg
    refine XS.lcmp X7.here hx rfl (hb hby at_112) rfl ?_
    exact kg
  by_cases hc113_10 : (lcmpW cc (16 : Int64)) = (0 : Int32)
  · have k11 : Rch p e below (s₁.setTop (entryFrame m #[(.long q1), (.int i2)] maxLocals)) T7 (mkF m 164 #[.val (.long q1), .second, .val (.int i2), .val (.long e1), .second, .val (.long cc), .second, .val (.int (1 : Int32)), .val (.int (1 : Int32)), .val (.int (1 : Int32)), .val (.int (1 : Int32)), .val (.int (1 : Int32))] [(.int (1 : Int32))]) := fun tg kg => by
      refine k9 tg ?_
      show Steps p.tables e below (T7.setTop (mkF m 113 #[.val (.long q1), .second, .val (.int i2), .val (.long e1), .second, .val (.long cc), .second, .val (.int (1 : Int32)), .val (.int (1 : Int32)), .val (.int (1 : Int32)), .val (.int (1 : Int32)), .unset] [(.int (lcmpW cc (16 : Int64)))])) tg
      refine XS.ifYes X7.here hx rfl (pc0 := 113) (pc' := 127) rfl (hb hby at_113) rfl ((if0 _ _).trans (teq hc113_10).1) (by decide) (by decide) ?_
      show Steps p.tables e below (T7.setTop (mkF m 127 #[.val (.long q1), .second, .val (.int i2), .val (.long e1), .second, .val (.long cc), .second, .val (.int (1 : Int32)), .val (.int (1 : Int32)), .val (.int (1 : Int32)), .val (.int (1 : Int32)), .unset] [])) tg
      refine XS.iconst X7.here hx rfl (hb hby at_127) ?_
      show Steps p.tables e below (T7.setTop (mkF m 128 #[.val (.long q1), .second, .val (.int i2), .val (.long e1), .second, .val (.long cc), .second, .val (.int (1 : Int32)), .val (.int (1 : Int32)), .val (.int (1 : Int32)), .val (.int (1 : Int32)), .unset] [(.int (1 : Int32))])) tg
      refine XS.goto X7.here hx rfl (pc0 := 128) (pc' := 132) rfl (hb hby at_128) (by decide) (by decide) ?_
      show Steps p.tables e below (T7.setTop (mkF m 132 #[.val (.long q1), .second, .val (.int i2), .val (.long e1), .second, .val (.long cc), .second, .val (.int (1 : Int32)), .val (.int (1 : Int32)), .val (.int (1 : Int32)), .val (.int (1 : Int32)), .unset] [(.int (1 : Int32))])) tg
      refine XS.istore X7.here hx rfl (hb hby at_132) rfl (l' := #[.val (.long q1), .second, .val (.int i2), .val (.long e1), .second, .val (.long cc), .second, .val (.int (1 : Int32)), .val (.int (1 : Int32)), .val (.int (1 : Int32)), .val (.int (1 : Int32)), .val (.int (1 : Int32))]) rfl ?_
      show Steps p.tables e below (T7.setTop (mkF m 134 #[.val (.long q1), .second, .val (.int i2), .val (.long e1), .second, .val (.long cc), .second, .val (.int (1 : Int32)), .val (.int (1 : Int32)), .val (.int (1 : Int32)), .val (.int (1 : Int32)), .val (.int (1 : Int32))] [])) tg
      refine XS.iload X7.here hx rfl (hb hby at_134) rfl ?_
      show Steps p.tables e below (T7.setTop (mkF m 136 #[.val (.long q1), .second, .val (.int i2), .val (.long e1), .second, .val (.long cc), .second, .val (.int (1 : Int32)), .val (.int (1 : Int32)), .val (.int (1 : Int32)), .val (.int (1 : Int32)), .val (.int (1 : Int32))] [(.int (1 : Int32))])) tg
      refine XS.ifNo X7.here hx rfl (hb hby at_136) rfl ((if0 _ _).trans (feq (by decide)).1) ?_
      show Steps p.tables e below (T7.setTop (mkF m 139 #[.val (.long q1), .second, .val (.int i2), .val (.long e1), .second, .val (.long cc), .second, .val (.int (1 : Int32)), .val (.int (1 : Int32)), .val (.int (1 : Int32)), .val (.int (1 : Int32)), .val (.int (1 : Int32))] [])) tg
      refine XS.iload X7.here hx rfl (hb hby at_139) rfl ?_
      show Steps p.tables e below (T7.setTop (mkF m 141 #[.val (.long q1), .second, .val (.int i2), .val (.long e1), .second, .val (.long cc), .second, .val (.int (1 : Int32)), .val (.int (1 : Int32)), .val (.int (1 : Int32)), .val (.int (1 : Int32)), .val (.int (1 : Int32))] [(.int (1 : Int32))])) tg
      refine XS.ifNo X7.here hx rfl (hb hby at_141) rfl ((if0 _ _).trans (feq (by decide)).1) ?_
      show Steps p.tables e below (T7.setTop (mkF m 144 #[.val (.long q1), .second, .val (.int i2), .val (.long e1), .second, .val (.long cc), .second, .val (.int (1 : Int32)), .val (.int (1 : Int32)), .val (.int (1 : Int32)), .val (.int (1 : Int32)), .val (.int (1 : Int32))] [])) tg
      refine XS.iload X7.here hx rfl (hb hby at_144) rfl ?_
      show Steps p.tables e below (T7.setTop (mkF m 146 #[.val (.long q1), .second, .val (.int i2), .val (.long e1), .second, .val (.long cc), .second, .val (.int (1 : Int32)), .val (.int (1 : Int32)), .val (.int (1 : Int32)), .val (.int (1 : Int32)), .val (.int (1 : Int32))] [(.int (1 : Int32))])) tg
      refine XS.ifNo X7.here hx rfl (hb hby at_146) rfl ((if0 _ _).trans (feq (by decide)).1) ?_
      show Steps p.tables e below (T7.setTop (mkF m 149 #[.val (.long q1), .second, .val (.int i2), .val (.long e1), .second, .val (.long cc), .second, .val (.int (1 : Int32)), .val (.int (1 : Int32)), .val (.int (1 : Int32)), .val (.int (1 : Int32)), .val (.int (1 : Int32))] [])) tg
      refine XS.iload X7.here hx rfl (hb hby at_149) rfl ?_
      show Steps p.tables e below (T7.setTop (mkF m 151 #[.val (.long q1), .second, .val (.int i2), .val (.long e1), .second, .val (.long cc), .second, .val (.int (1 : Int32)), .val (.int (1 : Int32)), .val (.int (1 : Int32)), .val (.int (1 : Int32)), .val (.int (1 : Int32))] [(.int (1 : Int32))])) tg
      refine XS.ifNo X7.here hx rfl (hb hby at_151) rfl ((if0 _ _).trans (feq (by decide)).1) ?_
      show Steps p.tables e below (T7.setTop (mkF m 154 #[.val (.long q1), .second, .val (.int i2), .val (.long e1), .second, .val (.long cc), .second, .val (.int (1 : Int32)), .val (.int (1 : Int32)), .val (.int (1 : Int32)), .val (.int (1 : Int32)), .val (.int (1 : Int32))] [])) tg
      refine XS.iload X7.here hx rfl (hb hby at_154) rfl ?_
      show Steps p.tables e below (T7.setTop (mkF m 156 #[.val (.long q1), .second, .val (.int i2), .val (.long e1), .second, .val (.long cc), .second, .val (.int (1 : Int32)), .val (.int (1 : Int32)), .val (.int (1 : Int32)), .val (.int (1 : Int32)), .val (.int (1 : Int32))] [(.int (1 : Int32))])) tg
      refine XS.ifNo X7.here hx rfl (hb hby at_156) rfl ((if0 _ _).trans (feq (by decide)).1) ?_
      show Steps p.tables e below (T7.setTop (mkF m 159 #[.val (.long q1), .second, .val (.int i2), .val (.long e1), .second, .val (.long cc), .second, .val (.int (1 : Int32)), .val (.int (1 : Int32)), .val (.int (1 : Int32)), .val (.int (1 : Int32)), .val (.int (1 : Int32))] [])) tg
      refine XS.iconst X7.here hx rfl (hb hby at_159) ?_
      show Steps p.tables e below (T7.setTop (mkF m 160 #[.val (.long q1), .second, .val (.int i2), .val (.long e1), .second, .val (.long cc), .second, .val (.int (1 : Int32)), .val (.int (1 : Int32)), .val (.int (1 : Int32)), .val (.int (1 : Int32)), .val (.int (1 : Int32))] [(.int (1 : Int32))])) tg
      refine XS.goto X7.here hx rfl (pc0 := 160) (pc' := 164) rfl (hb hby at_160) (by decide) (by decide) ?_
      exact kg
    obtain ⟨fs12, hr12, hrun12, hended12, hW12, hsame12⟩ := X7.leave (v := some (.int (nar .boolean (1 : Int32)))) (fun h => by rw [Bd.returns] at h; cases h)
    refine ⟨_, _, k11 _ ?_, hrun12, hended12, _, _, rfl, ?_, ⟨_, rfl⟩, hW12, hsame12.mono (by decide) (by decide)⟩
    · exact retN X7 hx (t := .boolean) Bd.returns (by simp) (hb hby at_164) hr12
    · show Q_rm0 Z q1 i2 h0 n0 _ T7.heap _
      rw [e7']
      exact ⟨rfl, N7⟩
  · have k13 : Rch p e below (s₁.setTop (entryFrame m #[(.long q1), (.int i2)] maxLocals)) T7 (mkF m 164 #[.val (.long q1), .second, .val (.int i2), .val (.long e1), .second, .val (.long cc), .second, .val (.int (1 : Int32)), .val (.int (1 : Int32)), .val (.int (1 : Int32)), .val (.int (1 : Int32)), .val (.int (1 : Int32))] [(.int (1 : Int32))]) := fun tg kg => by
      refine k9 tg ?_
      show Steps p.tables e below (T7.setTop (mkF m 113 #[.val (.long q1), .second, .val (.int i2), .val (.long e1), .second, .val (.long cc), .second, .val (.int (1 : Int32)), .val (.int (1 : Int32)), .val (.int (1 : Int32)), .val (.int (1 : Int32)), .unset] [(.int (lcmpW cc (16 : Int64)))])) tg
      refine XS.ifNo X7.here hx rfl (hb hby at_113) rfl ((if0 _ _).trans (feq hc113_10).1) ?_
      show Steps p.tables e below (T7.setTop (mkF m 116 #[.val (.long q1), .second, .val (.int i2), .val (.long e1), .second, .val (.long cc), .second, .val (.int (1 : Int32)), .val (.int (1 : Int32)), .val (.int (1 : Int32)), .val (.int (1 : Int32)), .unset] [])) tg
      refine XS.lload X7.here hx rfl (hb hby at_116) rfl ?_
      show Steps p.tables e below (T7.setTop (mkF m 118 #[.val (.long q1), .second, .val (.int i2), .val (.long e1), .second, .val (.long cc), .second, .val (.int (1 : Int32)), .val (.int (1 : Int32)), .val (.int (1 : Int32)), .val (.int (1 : Int32)), .unset] [(.long cc)])) tg
      refine X7.ldc2Long hx hown (mvT hZ (hw _ (List.mem_of_getElem? (i := 11) rfl))) (g := (mkF m 118 #[.val (.long q1), .second, .val (.int i2), .val (.long e1), .second, .val (.long cc), .second, .val (.int (1 : Int32)), .val (.int (1 : Int32)), .val (.int (1 : Int32)), .val (.int (1 : Int32)), .unset] [(.long cc)])) rfl (hb hby at_118) _ ?_
      show Steps p.tables e below (T7.setTop (mkF m 121 #[.val (.long q1), .second, .val (.int i2), .val (.long e1), .second, .val (.long cc), .second, .val (.int (1 : Int32)), .val (.int (1 : Int32)), .val (.int (1 : Int32)), .val (.int (1 : Int32)), .unset] [(.long (4 : Int64)), (.long cc)])) tg
      refine XS.lloadN X7.here hx rfl (hb hby at_121) rfl ?_
      show Steps p.tables e below (T7.setTop (mkF m 122 #[.val (.long q1), .second, .val (.int i2), .val (.long e1), .second, .val (.long cc), .second, .val (.int (1 : Int32)), .val (.int (1 : Int32)), .val (.int (1 : Int32)), .val (.int (1 : Int32)), .unset] [(.long e1), (.long (4 : Int64)), (.long cc)])) tg
      refine XS.lmul X7.here hx rfl (hb hby at_122) rfl ?_
      show Steps p.tables e below (T7.setTop (mkF m 123 #[.val (.long q1), .second, .val (.int i2), .val (.long e1), .second, .val (.long cc), .second, .val (.int (1 : Int32)), .val (.int (1 : Int32)), .val (.int (1 : Int32)), .val (.int (1 : Int32)), .unset] [(.long ((4 : Int64) * e1)), (.long cc)])) tg
      refine XS.lcmp X7.here hx rfl (hb hby at_123) rfl ?_
      show Steps p.tables e below (T7.setTop (mkF m 124 #[.val (.long q1), .second, .val (.int i2), .val (.long e1), .second, .val (.long cc), .second, .val (.int (1 : Int32)), .val (.int (1 : Int32)), .val (.int (1 : Int32)), .val (.int (1 : Int32)), .unset] [(.int (lcmpW cc ((4 : Int64) * e1)))])) tg
      refine XS.ifNo X7.here hx rfl (hb hby at_124) rfl ((if0 _ _).trans (tlt ((lw_lt _ _).mpr (by
          have h16 : cc.toInt ≠ 16 := fun q => hc113_10 ((lw_eq _ _).mpr (Int64.toInt_inj.mp (by rw [q]; decide)))
          rw [Int64.lt_iff_toInt_lt, own_4e he]
          rcases hl with rfl | hl
          · simp at hc; omega
          · exact hl))).2.1) ?_
      show Steps p.tables e below (T7.setTop (mkF m 127 #[.val (.long q1), .second, .val (.int i2), .val (.long e1), .second, .val (.long cc), .second, .val (.int (1 : Int32)), .val (.int (1 : Int32)), .val (.int (1 : Int32)), .val (.int (1 : Int32)), .unset] [])) tg
      refine XS.iconst X7.here hx rfl (hb hby at_127) ?_
      show Steps p.tables e below (T7.setTop (mkF m 128 #[.val (.long q1), .second, .val (.int i2), .val (.long e1), .second, .val (.long cc), .second, .val (.int (1 : Int32)), .val (.int (1 : Int32)), .val (.int (1 : Int32)), .val (.int (1 : Int32)), .unset] [(.int (1 : Int32))])) tg
      refine XS.goto X7.here hx rfl (pc0 := 128) (pc' := 132) rfl (hb hby at_128) (by decide) (by decide) ?_
      show Steps p.tables e below (T7.setTop (mkF m 132 #[.val (.long q1), .second, .val (.int i2), .val (.long e1), .second, .val (.long cc), .second, .val (.int (1 : Int32)), .val (.int (1 : Int32)), .val (.int (1 : Int32)), .val (.int (1 : Int32)), .unset] [(.int (1 : Int32))])) tg
      refine XS.istore X7.here hx rfl (hb hby at_132) rfl (l' := #[.val (.long q1), .second, .val (.int i2), .val (.long e1), .second, .val (.long cc), .second, .val (.int (1 : Int32)), .val (.int (1 : Int32)), .val (.int (1 : Int32)), .val (.int (1 : Int32)), .val (.int (1 : Int32))]) rfl ?_
      show Steps p.tables e below (T7.setTop (mkF m 134 #[.val (.long q1), .second, .val (.int i2), .val (.long e1), .second, .val (.long cc), .second, .val (.int (1 : Int32)), .val (.int (1 : Int32)), .val (.int (1 : Int32)), .val (.int (1 : Int32)), .val (.int (1 : Int32))] [])) tg
      refine XS.iload X7.here hx rfl (hb hby at_134) rfl ?_
      show Steps p.tables e below (T7.setTop (mkF m 136 #[.val (.long q1), .second, .val (.int i2), .val (.long e1), .second, .val (.long cc), .second, .val (.int (1 : Int32)), .val (.int (1 : Int32)), .val (.int (1 : Int32)), .val (.int (1 : Int32)), .val (.int (1 : Int32))] [(.int (1 : Int32))])) tg
      refine XS.ifNo X7.here hx rfl (hb hby at_136) rfl ((if0 _ _).trans (feq (by decide)).1) ?_
      show Steps p.tables e below (T7.setTop (mkF m 139 #[.val (.long q1), .second, .val (.int i2), .val (.long e1), .second, .val (.long cc), .second, .val (.int (1 : Int32)), .val (.int (1 : Int32)), .val (.int (1 : Int32)), .val (.int (1 : Int32)), .val (.int (1 : Int32))] [])) tg
      refine XS.iload X7.here hx rfl (hb hby at_139) rfl ?_
      show Steps p.tables e below (T7.setTop (mkF m 141 #[.val (.long q1), .second, .val (.int i2), .val (.long e1), .second, .val (.long cc), .second, .val (.int (1 : Int32)), .val (.int (1 : Int32)), .val (.int (1 : Int32)), .val (.int (1 : Int32)), .val (.int (1 : Int32))] [(.int (1 : Int32))])) tg
      refine XS.ifNo X7.here hx rfl (hb hby at_141) rfl ((if0 _ _).trans (feq (by decide)).1) ?_
      show Steps p.tables e below (T7.setTop (mkF m 144 #[.val (.long q1), .second, .val (.int i2), .val (.long e1), .second, .val (.long cc), .second, .val (.int (1 : Int32)), .val (.int (1 : Int32)), .val (.int (1 : Int32)), .val (.int (1 : Int32)), .val (.int (1 : Int32))] [])) tg
      refine XS.iload X7.here hx rfl (hb hby at_144) rfl ?_
      show Steps p.tables e below (T7.setTop (mkF m 146 #[.val (.long q1), .second, .val (.int i2), .val (.long e1), .second, .val (.long cc), .second, .val (.int (1 : Int32)), .val (.int (1 : Int32)), .val (.int (1 : Int32)), .val (.int (1 : Int32)), .val (.int (1 : Int32))] [(.int (1 : Int32))])) tg
      refine XS.ifNo X7.here hx rfl (hb hby at_146) rfl ((if0 _ _).trans (feq (by decide)).1) ?_
      show Steps p.tables e below (T7.setTop (mkF m 149 #[.val (.long q1), .second, .val (.int i2), .val (.long e1), .second, .val (.long cc), .second, .val (.int (1 : Int32)), .val (.int (1 : Int32)), .val (.int (1 : Int32)), .val (.int (1 : Int32)), .val (.int (1 : Int32))] [])) tg
      refine XS.iload X7.here hx rfl (hb hby at_149) rfl ?_
      show Steps p.tables e below (T7.setTop (mkF m 151 #[.val (.long q1), .second, .val (.int i2), .val (.long e1), .second, .val (.long cc), .second, .val (.int (1 : Int32)), .val (.int (1 : Int32)), .val (.int (1 : Int32)), .val (.int (1 : Int32)), .val (.int (1 : Int32))] [(.int (1 : Int32))])) tg
      refine XS.ifNo X7.here hx rfl (hb hby at_151) rfl ((if0 _ _).trans (feq (by decide)).1) ?_
      show Steps p.tables e below (T7.setTop (mkF m 154 #[.val (.long q1), .second, .val (.int i2), .val (.long e1), .second, .val (.long cc), .second, .val (.int (1 : Int32)), .val (.int (1 : Int32)), .val (.int (1 : Int32)), .val (.int (1 : Int32)), .val (.int (1 : Int32))] [])) tg
      refine XS.iload X7.here hx rfl (hb hby at_154) rfl ?_
      show Steps p.tables e below (T7.setTop (mkF m 156 #[.val (.long q1), .second, .val (.int i2), .val (.long e1), .second, .val (.long cc), .second, .val (.int (1 : Int32)), .val (.int (1 : Int32)), .val (.int (1 : Int32)), .val (.int (1 : Int32)), .val (.int (1 : Int32))] [(.int (1 : Int32))])) tg
      refine XS.ifNo X7.here hx rfl (hb hby at_156) rfl ((if0 _ _).trans (feq (by decide)).1) ?_
      show Steps p.tables e below (T7.setTop (mkF m 159 #[.val (.long q1), .second, .val (.int i2), .val (.long e1), .second, .val (.long cc), .second, .val (.int (1 : Int32)), .val (.int (1 : Int32)), .val (.int (1 : Int32)), .val (.int (1 : Int32)), .val (.int (1 : Int32))] [])) tg
      refine XS.iconst X7.here hx rfl (hb hby at_159) ?_
      show Steps p.tables e below (T7.setTop (mkF m 160 #[.val (.long q1), .second, .val (.int i2), .val (.long e1), .second, .val (.long cc), .second, .val (.int (1 : Int32)), .val (.int (1 : Int32)), .val (.int (1 : Int32)), .val (.int (1 : Int32)), .val (.int (1 : Int32))] [(.int (1 : Int32))])) tg
      refine XS.goto X7.here hx rfl (pc0 := 160) (pc' := 164) rfl (hb hby at_160) (by decide) (by decide) ?_
      exact kg
    obtain ⟨fs14, hr14, hrun14, hended14, hW14, hsame14⟩ := X7.leave (v := some (.int (nar .boolean (1 : Int32)))) (fun h => by rw [Bd.returns] at h; cases h)
    refine ⟨_, _, k13 _ ?_, hrun14, hended14, _, _, rfl, ?_, ⟨_, rfl⟩, hW14, hsame14.mono (by decide) (by decide)⟩
    · exact retN X7 hx (t := .boolean) Bd.returns (by simp) (hb hby at_164) hr14
    · show Q_rm0 Z q1 i2 h0 n0 _ T7.heap _
      rw [e7']
      exact ⟨rfl, N7⟩
set_option maxRecDepth 65536 in
set_option maxHeartbeats 40000000 in
theorem comes_1 {Post : Tables → Env → Array Value → State → Outcome → State → Prop} (hpost : ∀ tb e args s v u, (limb_1_1.after args s (.returned v) u = true ∧ limb_1_2.after args s (.returned v) u = true ∧ True) → FrameEnd s (.returned v) u (Jvm.fieldLocs frame_1_writes args s ++ Jvm.arrayLocs frame_1_arrays args s ++ Jvm.staticLocs frame_1_statics s) 0 0 → Post tb e args s (.returned v) u) :
    ArmFor flags0 classFile x code maxLocals ret World_1 tables_1 room_1 Calls_1 rest_1 Pre_1 Post := by
  intro l hfl _ _ p e ha hc hk s m args below hf hA hF happ hP
  obtain ⟨hcalls, hrest, hpre⟩ := hP
  obtain ⟨-, -, -, hnamed, -, -, -, hat⟩ := (Spec.applies_iff hf).mp happ
  obtain ⟨hg, hn⟩ := and_e (Cond.before_iff.mp (show (Jvm.Cond.and given_1 narrow_1).before args s = true from hpre))
  obtain ⟨g1, g2⟩ := and_e hg
  obtain ⟨g3, g4⟩ := and_e g2
  obtain ⟨w0, w1, rfl⟩ : ∃ w0 w1 : Value, args = #[w0, w1] := by
    have hs : args.size = 2 := by simpa [Cond.value, given_1] using g1
    obtain ⟨L⟩ := args
    match L, hs with
    | [w0, w1], _ => exact ⟨w0, w1, rfl⟩
  have hw := fun d (hd : d ∈ tables_1) => atoms_spec (ws := Jvm.Cond.code x code maxLocals ret :: tables_1) hat d (List.mem_cons_of_mem _ hd)
  have hfit : Fit s := fun {y c} hc i hi => by
    obtain ⟨ha, rfl⟩ := Array.getElem?_eq_some_iff.mp hc
    have q := List.all_eq_true.mp ((Array.all_eq_true_iff_forall_mem.mp hF) _ (Array.getElem_mem ha)) i (List.mem_range.mpr hi)
    simpa [Array.getElem?_eq_getElem hi] using q
  obtain ⟨i0, ei0⟩ := isL_v g3
  obtain rfl : w0 = (.long i0) := Option.some.inj ei0
  obtain ⟨i1, ei1⟩ := is_v g4
  obtain rfl : w1 = (.int i1) := Option.some.inj ei1
  obtain ⟨n, o, h1, h2, h3, _, L, rfl, ⟨rfl, N⟩, hq⟩ := rm0 l s _ hw tables_1 i0 i1 s.heap s.heap.size (Nat.le_refl _)  p e ha hc hk s m _ below hf ((Spec.applies_iff_loose hf).mp happ).1 ⟨rfl, State.Warmed39.refl s, rfl⟩ trivial
  refine ⟨n, _, h1, h2, h3, hpost _ _ _ _ _ _ ⟨Cond.after_iff.mpr rfl, Cond.after_iff.mpr (eq_i res_at (Term.int_eval (1)) rfl), trivial⟩ ⟨hq.1, hq.2.1, (hq.2.2.sift fun y hy => Or.inr (N y hy)).mono (by decide) (by decide)⟩⟩
theorem main_1_1 : Claimed_1_1 := comes_1 fun _ _ _ _ _ _ h hF => ⟨h.1, hF⟩
theorem main_1_2 : Claimed_1_2 := comes_1 fun _ _ _ _ _ _ h hF => ⟨h.2.1, hF⟩
end Jvm.Pilot.@@N@@
namespace Jvm.Pilot.@@N@@
open Jvm Jvm.ClassFile Sem Op Lib Jvm.Free Jvm.Stand Jvm.Pilot.@@N@@.Jvm.D
/-! MADE BY PROGRAM (witnessworld.py) out of the Statement's table words and the real class files: 9 classes; the members and pool entries that the words name. The judged class is class 1, her method 1. -/
namespace start1
open Jvm.ClassFile
def u (s : String) : CpInfo := .utf8 (stringToUtf16 s)
/-- a pool by its gaps: so many unusable entries, then the entry; so many at the end -/
def gap : Nat → List CpInfo → List CpInfo
  | 0, r => r
  | n + 1, r => .unusable :: gap n r
def poolList (es : List (Nat × CpInfo)) (last : Nat) : List CpInfo := es.foldr (fun e r => gap e.1 (e.2 :: r)) (gap last [])
def pool (es : List (Nat × CpInfo)) (last : Nat) : Array CpInfo := ⟨poolList es last⟩
def fileOf (pool : Array CpInfo) (this : Nat) (attrs : Array Attribute := #[]) (ms : Array MethodInfo := #[]) (fl : Nat := 33) (sup : Nat := 0) (ifs : Array Nat := #[]) (fds : Array FieldInfo := #[]) : ClassFile where
  minorVersion := 0
  majorVersion := 65
  constantPool := pool
  accessFlags := fl
  thisClass := this
  superClass := sup
  interfaces := ifs
  fields := fds
  methods := ms
  attributes := attrs
def plain (name : String) (sup : Option ClassId) : Class where
  name := name
  kind := .ordinary
  loader := none
  accessFlags := 33
  super := sup
  interfaces := #[]
  cf := none
  fields := #[]
  methods := #[]
  instanceTypes := #[]
  staticTypes := #[]
  resolved := #[]
  callSites := []
  init := .initialized
  statics := none
  mirror := none

def pool0 : Array CpInfo := pool [(5, u "<init>"), (0, u "()V"), (1, .class_ 10), (1, u "java/lang/Object")] 113

def k0m0 : Method := { name := "<init>", desc := "()V", sig := { parameters := [], returnType := none }, accessFlags := 1, code := none }
/-- java/lang/Object -/
def k0 : Class := { plain "java/lang/Object" none with
  accessFlags := 33
  interfaces := #[]
  cf := some (fileOf pool0 8 #[] #[{ accessFlags := 1, nameIndex := 5, descriptorIndex := 6, attributes := #[] }] 33 0 #[] #[])
  fields := #[]
  methods := #[k0m0]
  instanceTypes := #[]
  staticTypes := #[]
  resolved := Array.replicate 124 none
  statics := none }

def pool1 : Array CpInfo := pool [(2, .class_ 4), (1, u "java/lang/Object"), (0, u "<init>"), (0, u "()V"), (0, .long 127), (3, .long 9223372036854775807), (1, .long 2147483649), (1, .methodref 16 17), (0, .class_ 18), (0, .nameAndType 19 20), (0, u "com/example/verum/verum/HashSlots"), (0, u "capacityFor"), (0, u "(J)J"), (0, .long 16), (1, .long 2), (1, .long 4294967296), (1, .long 4), (1, .class_ 30), (0, u "com/example/verum/verum/HashSlotsCapacityForPinLaw"), (2, u "law"), (0, u "(JI)Z")] 3

def k1m0 : Method := { name := "<init>", desc := "()V", sig := { parameters := [], returnType := none }, accessFlags := 2, code := none }
def k1c1 : Code := { maxStack := 6, maxLocals := 12, code := code, exceptionTable := #[], attributes := #[] }
def k1m1 : Method := { name := "law", desc := "(JI)Z", sig := { parameters := [.long, .int], returnType := some .boolean }, accessFlags := 9, code := some k1c1 }
/-- com/example/verum/verum/HashSlotsCapacityForPinLaw -/
def k1 : Class := { plain "com/example/verum/verum/HashSlotsCapacityForPinLaw" (some 0) with
  accessFlags := 49
  interfaces := #[]
  cf := some (fileOf pool1 29 #[] #[{ accessFlags := 2, nameIndex := 5, descriptorIndex := 6, attributes := #[] }, { accessFlags := 9, nameIndex := 33, descriptorIndex := 34, attributes := #[] }] 49 2 #[] #[])
  fields := #[]
  methods := #[k1m0, k1m1]
  instanceTypes := #[]
  staticTypes := #[]
  resolved := Array.replicate 38 none
  statics := none }

def pool2 : Array CpInfo := pool [(1, .class_ 2), (0, u "com/example/verum/verum/HashSlots"), (0, .long 16), (3, u "<init>"), (2, .class_ 12), (1, u "java/lang/Object"), (0, u "()V"), (4, u "pages"), (0, u "[[I"), (5, u "mask"), (0, u "I"), (2, u "shared"), (0, u "Z"), (3, .long 2), (33, u "LEAST_CAPACITY"), (2, u "PAGE_BITS"), (0, u "PAGE_SLOTS"), (4, u "capacityFor"), (0, u "(J)J")] 11

def k2m0 : Method := { name := "<init>", desc := "()V", sig := { parameters := [], returnType := none }, accessFlags := 0, code := none }
def k2c1 : Code := { maxStack := 6, maxLocals := 4, code := prog_36_method_5_code, exceptionTable := #[], attributes := #[] }
def k2m1 : Method := { name := "capacityFor", desc := "(J)J", sig := { parameters := [.long], returnType := some .long }, accessFlags := 8, code := some k2c1 }
/-- com/example/verum/verum/HashSlots -/
def k2 : Class := { plain "com/example/verum/verum/HashSlots" (some 0) with
  accessFlags := 48
  interfaces := #[]
  cf := some (fileOf pool2 1 #[] #[{ accessFlags := 0, nameIndex := 7, descriptorIndex := 13, attributes := #[] }, { accessFlags := 8, nameIndex := 77, descriptorIndex := 78, attributes := #[] }] 48 10 #[] #[{ accessFlags := 26, nameIndex := 68, descriptorIndex := 26, attributes := #[] }, { accessFlags := 26, nameIndex := 71, descriptorIndex := 26, attributes := #[] }, { accessFlags := 26, nameIndex := 72, descriptorIndex := 26, attributes := #[] }, { accessFlags := 2, nameIndex := 18, descriptorIndex := 19, attributes := #[] }, { accessFlags := 2, nameIndex := 25, descriptorIndex := 26, attributes := #[] }, { accessFlags := 2, nameIndex := 29, descriptorIndex := 30, attributes := #[] }])
  fields := #[{ name := "LEAST_CAPACITY", type := .int, accessFlags := 26, slot := 0, constantValue := 0 }, { name := "PAGE_BITS", type := .int, accessFlags := 26, slot := 1, constantValue := 0 }, { name := "PAGE_SLOTS", type := .int, accessFlags := 26, slot := 2, constantValue := 0 }, { name := "pages", type := (.array (.array .int)), accessFlags := 2, slot := 0, constantValue := 0 }, { name := "mask", type := .int, accessFlags := 2, slot := 1, constantValue := 0 }, { name := "shared", type := .boolean, accessFlags := 2, slot := 2, constantValue := 0 }]
  methods := #[k2m0, k2m1]
  instanceTypes := #[(.array (.array .int)), .int, .boolean]
  staticTypes := #[.int, .int, .int]
  resolved := Array.replicate 90 none
  statics := none }

def pool3 : Array CpInfo := pool [(1, u "java/lang/Cloneable"), (0, .class_ 1), (0, u "java/lang/Object"), (0, .class_ 3)] 3

/-- java/lang/Cloneable -/
def k3 : Class := { plain "java/lang/Cloneable" (some 0) with
  accessFlags := 1537
  interfaces := #[]
  cf := some (fileOf pool3 2 #[] #[] 1537 4 #[] #[])
  fields := #[]
  methods := #[]
  instanceTypes := #[]
  staticTypes := #[]
  resolved := Array.replicate 8 none
  statics := none }

def pool4 : Array CpInfo := pool [(1, u "java/io/Serializable"), (0, .class_ 1), (0, u "java/lang/Object"), (0, .class_ 3)] 3

/-- java/io/Serializable -/
def k4 : Class := { plain "java/io/Serializable" (some 0) with
  accessFlags := 1537
  interfaces := #[]
  cf := some (fileOf pool4 2 #[] #[] 1537 4 #[] #[])
  fields := #[]
  methods := #[]
  instanceTypes := #[]
  staticTypes := #[]
  resolved := Array.replicate 8 none
  statics := none }

/-- the primitive byte -/
def k5 : Class := { plain "byte" none with kind := .primitive 'B', accessFlags := 0x411 }
/-- [B -/
def k6 : Class := { plain "[B" (some 0) with kind := .array 5 .byte, interfaces := #[3, 4], accessFlags := 1041 }

/-- the primitive int -/
def k7 : Class := { plain "int" none with kind := .primitive 'I', accessFlags := 0x411 }
/-- [I -/
def k8 : Class := { plain "[I" (some 0) with kind := .array 7 .int, interfaces := #[3, 4], accessFlags := 1041 }

def heap : Heap := #[]
def classes : Array Class := #[k0, k1, k2, k3, k4, k5, k6, k7, k8]
def interned : List (Array UInt16 × Addr) := []
def slotsUsed : Nat := 0
def theMethod : MethodId := ⟨1, 1⟩
def args0 : Array Value := #[.long 5, .int 3]
def aboutOver (below : List Frame) : State where
  vm := { classes := classes, interned := interned.toArray }
  heap := heap
  slotsUsed := slotsUsed
  threads := #[{ frames := .invoking theMethod args0 :: below }]
def below0 : List Frame := [.native { method := ⟨0, 0⟩, args := #[] }]
def about1 : State := aboutOver below0
def p0 : Program := .bare "" "" ""
def e0 : Env := launch0.env 0 0 0
theorem w_frames : about1.frames = Frame.invoking theMethod args0 :: below0 := rfl
set_option maxRecDepth 65536 in
theorem w_args : argsFit about1.vm theMethod args0 = true := by decide +kernel
set_option maxRecDepth 65536 in
theorem w_heap : heapFits about1 = true := by decide +kernel
set_option maxRecDepth 65536 in
theorem w_runnable : about1.curStatus? = some .runnable := by decide +kernel
set_option maxRecDepth 65536 in
theorem w_alone : about1.alone = true := by decide +kernel
set_option maxRecDepth 65536 in
theorem w_named : about1.methodNamed? x = some theMethod := by decide +kernel
set_option maxRecDepth 65536 in
theorem w_hears : about1.hears theMethod below0 = true := by decide +kernel
set_option maxRecDepth 65536 in
theorem w_ripe : about1.ripe theMethod args0 below0 = true := by decide +kernel
theorem w_running : about1.status = .running := rfl
set_option maxRecDepth 65536 in
theorem w_room : about1.hasRoom e0.platform room_1 = true :=
  launch0.hasRoom_least _ room_1 (by decide +kernel) (by decide +kernel) (by decide +kernel) (by decide +kernel) (by decide +kernel) (by decide +kernel)
theorem allAtoms_all (ts : List Jvm.Cond) (a : Array Jvm.Value) (st : Jvm.State) : (allAtoms ts).before a st = ts.all (fun c => c.before a st) := by
  induction ts with
  | nil => rfl
  | cons c t ih =>
    show (Jvm.Cond.and c (allAtoms t)).before a st = _
    rw [Jvm.Cond.before_and, ih, List.all_cons]
def words1 : List Jvm.Cond := Jvm.Cond.code x code maxLocals ret :: tables_1
/-- a 'code' word, met by the world's own term for the bytes: nothing is compared byte by byte -/
theorem code_word {y : MethodName} {bytes : ByteArray} {mx : Nat} {rt : Option FieldType} {a : Array Value} {s : State} {m : MethodId} {meth : Method} {c : Code} (h1 : s.methodNamed? y = some m) (h2 : s.vm.method? m = some meth) (h3 : meth.code = some c) (h4 : c.code = bytes)
    (h5 : (c.maxLocals == mx && c.exceptionTable.isEmpty && decide (c.maxStack ≤ mostOperands) && decide (meth.sig.returnType = rt) && !meth.locks && decide (parseMethodDescriptor y.desc = some meth.sig)) = true) : (Jvm.Cond.code y bytes mx rt).before a s = true := by
  simp only [Bool.and_eq_true, beq_iff_eq, Bool.not_eq_true', decide_eq_true_eq] at h5
  obtain ⟨⟨⟨⟨⟨g1, g2⟩, g3⟩, g4⟩, g5⟩, g6⟩ := h5
  simp [Cond.before, Cond.holds, Cond.value, h1, h2, h3, h4, g1, g2, g3, g4, g5, g6]
def isCode : Jvm.Cond → Bool
  | .code _ _ _ _ => true
  | _ => false
theorem all_split {L : List Jvm.Cond} {P : Jvm.Cond → Bool} (h1 : L.all (fun c => isCode c || P c) = true) (h2 : ∀ c ∈ L.filter isCode, P c = true) : L.all P = true := by
  refine List.all_eq_true.mpr fun c hc => ?_
  have h := List.all_eq_true.mp h1 c hc
  rcases Bool.eq_false_or_eq_true (isCode c) with hi | hi
  · exact h2 c (List.mem_filter.mpr ⟨hc, hi⟩)
  · simpa [hi] using h
set_option maxRecDepth 65536 in
theorem w_c0 : (Jvm.Cond.code x code maxLocals ret).before args0 about1 = true := code_word (m := ⟨1, 1⟩) (meth := k1m1) (c := k1c1) (by decide +kernel) rfl rfl rfl (by decide +kernel)
set_option maxRecDepth 65536 in
theorem w_c1 : (Jvm.Cond.code ({ cls := "com/example/verum/verum/HashSlots", name := "capacityFor", desc := "(J)J" } : Jvm.MethodName) prog_36_method_5_code (4 : Nat) (Option.some Jvm.ClassFile.FieldType.long)).before args0 about1 = true := code_word (m := ⟨2, 1⟩) (meth := k2m1) (c := k2c1) (by decide +kernel) rfl rfl rfl (by decide +kernel)
def codes1 : List Jvm.Cond := [Jvm.Cond.code x code maxLocals ret, Jvm.Cond.code ({ cls := "com/example/verum/verum/HashSlots", name := "capacityFor", desc := "(J)J" } : Jvm.MethodName) prog_36_method_5_code (4 : Nat) (Option.some Jvm.ClassFile.FieldType.long)]
set_option maxRecDepth 65536 in
theorem codes_eq : words1.filter isCode = codes1 := rfl
theorem w_codes : ∀ c ∈ words1.filter isCode, c.before args0 about1 = true := by
  rw [codes_eq]
  intro c hc
  simp only [codes1, List.mem_cons, List.not_mem_nil, or_false] at hc
  rcases hc with rfl | rfl
  · exact w_c0
  · exact w_c1
set_option maxRecDepth 65536 in
theorem w_t1 : words1.all (fun c => isCode c || c.before args0 about1) = true := by decide +kernel
theorem w_tables : (allAtoms (Jvm.Cond.code x code maxLocals ret :: tables_1)).before args0 about1 = true := by
  rw [allAtoms_all]
  show words1.all (fun c => c.before args0 about1) = true
  refine all_split ?_ w_codes
  rw [w_t1]
set_option maxRecDepth 65536 in
theorem w_case : (Jvm.Cond.and given_1 narrow_1).before args0 about1 = true := by decide +kernel
theorem w_applies : (headSpec (Jvm.Cond.code x code maxLocals ret :: tables_1) room_1).applies x e0.platform about1 = true :=
  (Spec.applies_iff w_frames).mpr ⟨w_running, w_runnable, w_alone, w_named, w_hears, w_ripe, w_room, w_tables⟩
theorem atStart : AtStart classFile x code maxLocals ret World_1 tables_1 room_1 Calls_1 rest_1 Pre_1 launch0 p0 e0 about1 theMethod args0 below0 :=
  ⟨lists_1, trivial, launch0.admits_env _ _ _, launch0.least_env, fairChoices_fair.cas, fairChoices_fair.clock, w_frames, w_args, w_heap, w_applies, trivial, trivial, w_case⟩
end start1
theorem witness_1 : WitnessClaimed_1 := ⟨start1.p0, start1.e0, start1.about1, start1.theMethod, start1.args0, start1.below0, start1.atStart⟩
end Jvm.Pilot.@@N@@
