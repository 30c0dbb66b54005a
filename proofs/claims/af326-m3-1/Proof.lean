import JvmDerived
import JvmDerived.Pilot.@@N@@Statement
import JvmDerived.Pilot.@@N@@Code
set_option linter.unusedVariables false
set_option linter.unusedSimpArgs false
namespace Jvm.Pilot.@@N@@
open Jvm Jvm.ClassFile Sem Op Lib Jvm.Free Jvm.Stand Jvm.LawKit Jvm.RoadKit Bundle Jvm.Pilot.@@N@@.Jvm.D
/-- from S0 the run comes to T with the frame g -/
abbrev Rch (p : Program) (e : Env) (below : List Frame) (S0 T : State) (g : JFrame) : Prop := ∀ t, Steps p.tables e below (T.setTop g) t → Steps p.tables e below S0 t
abbrev Con (l : Launch) (Z : State) (y : MethodName) (bytes : ByteArray) (maxL : Nat) (ret : Option FieldType) (ws : List Jvm.Cond) (rm : Room) (as' : Array Value) (h : Heap) (Q : Option Value → Heap → List Loc → Prop) : Prop :=
  MetFree l y (head1 (Jvm.Cond.code y bytes maxL ret :: ws) rm) (fun a U => a = as' ∧ Z.Warmed39 U.vm ∧ U.heap = h) (fun _ _ _ _ _ => True) (fun _ U o U' => ∃ v L, o = .returned v ∧ Q v U'.heap L ∧ FrameEnd U o U' L rm.cells rm.slots)
section OwnKit
variable {p : Program} {l : Launch} {e : Env} {R : Room} {s : State} {m : MethodId} {args : Array Value} {below : List Frame} {meth : Method} {c : Code} {T : State} {locs : List Loc} {cells slots : Nat} {Z : State} {a0 : Array Value} {h : Heap}
theorem own_callS (X : Stand p l e R s m args below meth c T locs cells slots) (hx : p.tables.exec = Jvm.exec) (hZ : Z.Warmed39 s.vm) {own : String} {index : Nat} {y : MethodName} {bytes : ByteArray} {maxL : Nat} {ret : Option FieldType} {rm : Room} {as' : Array Value} {Q : Option Value → Heap → List Loc → Prop}
    (hown : s.vm.findClass own = some m.cls) (w1 : (Cond.methodLink own index y).before a0 Z = true) (w2 : (Cond.static y).before a0 Z = true) (w3 : (Cond.initialized y.cls).before a0 Z = true) (w4 : (Cond.code y bytes maxL ret).before a0 Z = true)
    (hy : y.cls ≠ "java/lang/invoke/MethodHandle" ∧ y.cls ≠ "java/lang/invoke/VarHandle") (hM : Con l Z y bytes maxL ret [] rm as' h Q) (eT : T.heap = h)
    {g : JFrame} (hg : g.method = m) (hsize : g.locals.size = c.maxLocals) {argsL rest : List Value} (has : as' = argsL.toArray) (hlen : ∀ sig, parseMethodDescriptor y.desc = some sig → argsL.length = sig.parameters.length) (hs : g.stack = argsL.reverse ++ rest) {W : Nat} (hW : 2 * g.monitorRoom + (rest.map fun v => v.category).sum ≤ W)
    (hd : decode c.code g.pc = .ok (.invokestatic index, 3)) (hf : rm.frames + 1 ≤ R.frames) (hl : W + (maxL + 11) + rm.locals ≤ R.locals) (hc : cells + rm.cells ≤ R.cells) (hsl : slots + rm.slots ≤ R.slots) :
    ∃ (v : Option Value) (T' : State) (h' : Heap) (Lc : List Loc), Stand p l e R s m args below meth c T' (locs ++ Lc) (cells + rm.cells) (slots + rm.slots) ∧ T'.heap = h' ∧ Q v h' Lc ∧
      ∀ target, Steps p.tables e below (T'.setTop { g with pc := g.pc + 3, stack := v.toList ++ rest }) target → Steps p.tables e below (T.setTop g) target := by
  obtain ⟨v, _, ⟨T', L', k', n'⟩, -, X', ⟨Lc, hQ, hl', hk', hn'⟩, st⟩ := Jvm.LawKit.callS X hx (y := y) hown (mvT hZ w1) (mvT hZ w2) (mvT hZ w3) (mvT hZ w4) hy (backOf (W := W) hM hZ w4 w3 hf hl) hg hsize hlen hs hW hd (fun _ _ => ⟨has.symm, eT, hc, hsl⟩)
  dsimp only [Pt.U, Pt.locs, Pt.cells, Pt.slots] at X' hl' hk' hn' st hQ
  subst hl' hk' hn'
  exact ⟨v, T', _, Lc, X', rfl, hQ, st⟩
theorem own_callV (X : Stand p l e R s m args below meth c T locs cells slots) (hx : p.tables.exec = Jvm.exec) (hZ : Z.Warmed39 s.vm) {own C : String} {index : Nat} {y z : MethodName} {bytes : ByteArray} {maxL : Nat} {ret : Option FieldType} {rm : Room} {as' : Array Value} {Q : Option Value → Heap → List Loc → Prop}
    (hown : s.vm.findClass own = some m.cls) (w1 : (Cond.methodLink own index y).before a0 Z = true) (w2 : (Cond.declares y).before a0 Z = true) (nf : NotFace s y) (w3 : (Cond.selects C y z).before a0 Z = true) (w4 : (Cond.instanceMethod z).before a0 Z = true) (w5 : (Cond.code z bytes maxL ret).before a0 Z = true) (w6 : (Cond.initialized z.cls).before a0 Z = true)
    (hy : y.cls ≠ "java/lang/invoke/MethodHandle" ∧ y.cls ≠ "java/lang/invoke/VarHandle") (hM : Con l Z z bytes maxL ret [] rm as' h Q) (eT : T.heap = h) {a : Addr} (E : Exa Z h a C)
    {g : JFrame} (hg : g.method = m) (hsize : g.locals.size = c.maxLocals) {argsL rest : List Value} (has : as' = (Value.ref a :: argsL).toArray) (hlen : ∀ sig, parseMethodDescriptor y.desc = some sig → argsL.length = sig.parameters.length) (hs : g.stack = argsL.reverse ++ .ref a :: rest) {W : Nat} (hW : 2 * g.monitorRoom + (rest.map fun v => v.category).sum ≤ W)
    (hd : decode c.code g.pc = .ok (.invokevirtual index, 3)) (hf : rm.frames + 1 ≤ R.frames) (hl : W + (maxL + 11) + rm.locals ≤ R.locals) (hc : cells + rm.cells ≤ R.cells) (hsl : slots + rm.slots ≤ R.slots) :
    ∃ (v : Option Value) (T' : State) (h' : Heap) (Lc : List Loc), Stand p l e R s m args below meth c T' (locs ++ Lc) (cells + rm.cells) (slots + rm.slots) ∧ T'.heap = h' ∧ Q v h' Lc ∧
      ∀ target, Steps p.tables e below (T'.setTop { g with pc := g.pc + 3, stack := v.toList ++ rest }) target → Steps p.tables e below (T.setTop g) target := by
  obtain ⟨cq, kq, qa, qb, qc⟩ := isOf hZ eT E
  obtain ⟨v, _, ⟨T', L', k', n'⟩, -, X', ⟨Lc, hQ, hl', hk', hn'⟩, st⟩ := X.virtualBack hx (y := y) (z := z) hown (mvT hZ w1) (mvT hZ w2) nf (mvT hZ w3) (mvT hZ w4) hy (backOf (W := W) hM hZ w5 w6 hf hl) qa qc hg hsize (Steps.refl _) hlen hs hW hd (fun _ _ => ⟨has.symm, eT, hc, hsl⟩)
  dsimp only [Pt.U, Pt.locs, Pt.cells, Pt.slots] at X' hl' hk' hn' st hQ
  subst hl' hk' hn'
  exact ⟨v, T', _, Lc, X', rfl, hQ, fun t k => st.trans k⟩
theorem own_callC (X : Stand p l e R s m args below meth c T locs cells slots) (hx : p.tables.exec = Jvm.exec) (hZ : Z.Warmed39 s.vm) {own : String} {index : Nat} {y : MethodName} {bytes : ByteArray} {maxL : Nat} {rm : Room} {as' : Array Value} {Q : Option Value → Heap → List Loc → Prop} (hy1 : y.name = "<init>")
    (hown : s.vm.findClass own = some m.cls) (w1 : (Cond.methodLink own index y).before a0 Z = true) (w2 : (Cond.instanceMethod y).before a0 Z = true) (w3 : (Cond.initialized y.cls).before a0 Z = true) (w4 : (Cond.code y bytes maxL none).before a0 Z = true)
    (hy : y.cls ≠ "java/lang/invoke/MethodHandle" ∧ y.cls ≠ "java/lang/invoke/VarHandle") (hM : Con l Z y bytes maxL none [] rm as' h Q) (eT : T.heap = h) {a : Addr}
    {g : JFrame} (hg : g.method = m) (hsize : g.locals.size = c.maxLocals) {argsL rest : List Value} (has : as' = (Value.ref a :: argsL).toArray) (hlen : ∀ sig, parseMethodDescriptor y.desc = some sig → argsL.length = sig.parameters.length) (hs : g.stack = argsL.reverse ++ .ref a :: rest) {W : Nat} (hW : 2 * g.monitorRoom + (rest.map fun v => v.category).sum ≤ W)
    (hd : decode c.code g.pc = .ok (.invokespecial index, 3)) (hf : rm.frames + 1 ≤ R.frames) (hl : W + (maxL + 11) + rm.locals ≤ R.locals) (hc : cells + rm.cells ≤ R.cells) (hsl : slots + rm.slots ≤ R.slots) :
    ∃ (v : Option Value) (T' : State) (h' : Heap) (Lc : List Loc), Stand p l e R s m args below meth c T' (locs ++ Lc) (cells + rm.cells) (slots + rm.slots) ∧ T'.heap = h' ∧ Q v h' Lc ∧
      ∀ target, Steps p.tables e below (T'.setTop { g with pc := g.pc + 3, stack := v.toList ++ rest }) target → Steps p.tables e below (T.setTop g) target := by
  obtain ⟨v, _, ⟨T', L', k', n'⟩, -, X', ⟨Lc, hQ, hl', hk', hn'⟩, st⟩ := X.specialBack hx (y := y) hy1 hown (mvT hZ w1) (mvT hZ w2) (mvT hZ w4) hy (backOf (W := W) hM hZ w4 w3 hf hl) hg hsize (Steps.refl _) (a := a) hlen hs hW hd (fun _ _ => ⟨has.symm, eT, hc, hsl⟩)
  dsimp only [Pt.U, Pt.locs, Pt.cells, Pt.slots] at X' hl' hk' hn' st hQ
  subst hl' hk' hn'
  exact ⟨v, T', _, Lc, X', rfl, hQ, fun t k => st.trans k⟩
theorem own_callU (X : Stand p l e R s m args below meth c T locs cells slots) (hx : p.tables.exec = Jvm.exec) (hZ : Z.Warmed39 s.vm) {own C owner : String} {index : Nat} {x y : MethodName} {bytes : ByteArray} {maxL : Nat} {ret : Option FieldType} {rm : Room} {as' : Array Value} {Q : Option Value → Heap → List Loc → Prop}
    (hown : s.vm.findClass own = some m.cls) (w1 : (Cond.methodLink own index x).before a0 Z = true) (w2 : (Cond.sameMethod x.cls owner x.name x.desc).before a0 Z = true) (w2' : (Cond.declares ⟨owner, x.name, x.desc⟩).before a0 Z = true) (hy : owner ≠ "java/lang/invoke/MethodHandle" ∧ owner ≠ "java/lang/invoke/VarHandle") (w3 : (Cond.selects C x y).before a0 Z = true) (w4 : (Cond.instanceMethod y).before a0 Z = true) (w5 : (Cond.code y bytes maxL ret).before a0 Z = true) (w6 : (Cond.initialized y.cls).before a0 Z = true)
    (hM : Con l Z y bytes maxL ret [] rm as' h Q) (eT : T.heap = h) {a : Addr} (E : Exa Z h a C)
    {g : JFrame} (hg : g.method = m) (hsize : g.locals.size = c.maxLocals) {argsL rest : List Value} (has : as' = (Value.ref a :: argsL).toArray) (hlen : ∀ sig, parseMethodDescriptor x.desc = some sig → argsL.length = sig.parameters.length) (hs : g.stack = argsL.reverse ++ .ref a :: rest) {W : Nat} (hW : 2 * g.monitorRoom + (rest.map fun v => v.category).sum ≤ W)
    (hd : decode c.code g.pc = .ok (.invokevirtual index, 3)) (hf : rm.frames + 1 ≤ R.frames) (hl : W + (maxL + 11) + rm.locals ≤ R.locals) (hc : cells + rm.cells ≤ R.cells) (hsl : slots + rm.slots ≤ R.slots) :
    ∃ (v : Option Value) (T' : State) (h' : Heap) (Lc : List Loc), Stand p l e R s m args below meth c T' (locs ++ Lc) (cells + rm.cells) (slots + rm.slots) ∧ T'.heap = h' ∧ Q v h' Lc ∧
      ∀ target, Steps p.tables e below (T'.setTop { g with pc := g.pc + 3, stack := v.toList ++ rest }) target → Steps p.tables e below (T.setTop g) target := by
  obtain ⟨cq, kq, qa, qb, qc⟩ := isOf hZ eT E
  obtain ⟨v, _, ⟨T', L', k', n'⟩, -, X', ⟨Lc, hQ, hl', hk', hn'⟩, st⟩ := X.virtualBackUp hx (x := x) (y := y) hown (mvT hZ w1) (mvT hZ w2) (mvT hZ w2') hy (mvT hZ w3) (mvT hZ w4) (backOf (W := W) hM hZ w5 w6 hf hl) qa qc hg hsize (Steps.refl _) hlen hs hW hd (fun _ _ => ⟨has.symm, eT, hc, hsl⟩)
  dsimp only [Pt.U, Pt.locs, Pt.cells, Pt.slots] at X' hl' hk' hn' st hQ
  subst hl' hk' hn'
  exact ⟨v, T', _, Lc, X', rfl, hQ, fun t k => st.trans k⟩
theorem own_ne {a b : Nat} (h : a < b ∨ b < a) : a ≠ b := by omega
theorem own_ltN {a b : Nat} (h : a < b) : a < b := h
theorem own_neN {a b : Nat} (h : a ≠ b) : a ≠ b := h
theorem own_fldL {args : Array Value} {t : Term} {a : Addr} {C n d : String} {k : Int64} (ev : t.eval args Z none [] Z = some (.ref a)) (q : (Cond.eq (.field t C n d) (.long k)).value args Z none Z [] = some true) : Fld Z Z.heap a C n d (.long k) := by
  apply Fld.start
  cases hv : Z.fieldOf? a C n d with
  | none => simp [Cond.value, fld_at ev, hv] at q
  | some v => cases v <;> simp only [Cond.value, fld_at ev, hv, long_at] at q <;> simp at q <;> subst q <;> rfl
theorem own_fldI {args : Array Value} {t : Term} {a : Addr} {C n d : String} {k : Int32} (ev : t.eval args Z none [] Z = some (.ref a)) (q : (Cond.eq (.field t C n d) (.int k)).value args Z none Z [] = some true) : Fld Z Z.heap a C n d (.int k) := by
  apply Fld.start
  cases hv : Z.fieldOf? a C n d with
  | none => simp [Cond.value, fld_at ev, hv] at q
  | some v => cases v <;> simp only [Cond.value, fld_at ev, hv, Term.int_eval] at q <;> simp at q <;> subst q <;> rfl
variable {vm0 : Vm}
abbrev ConW (l : Launch) (Z : State) (y : MethodName) (bytes : ByteArray) (maxL : Nat) (ret : Option FieldType) (ws : List Jvm.Cond) (rm : Room) (as' : Array Value) (h : Heap) (Q : Option Value → Heap → List Loc → Prop) : Prop :=
  MetFree l y (head1 (Jvm.Cond.code y bytes maxL ret :: ws) rm) (fun a U => a = as' ∧ Z.Warmed39 U.vm ∧ U.heap = h) (fun _ _ _ _ _ => True) (fun _ U o U' => ∃ v L, o = .returned v ∧ Q v U'.heap L ∧ ReturnedEndW U o U' L rm.cells rm.slots)
theorem own_callSW (X : Stand p l e R (s.setVm vm0) m args below meth c T locs cells slots) (hx : p.tables.exec = Jvm.exec) (hZ : Z.Warmed39 vm0) {own : String} {index : Nat} {y : MethodName} {bytes : ByteArray} {maxL : Nat} {ret : Option FieldType} {rm : Room} {as' : Array Value} {Q : Option Value → Heap → List Loc → Prop}
    (hown : vm0.findClass own = some m.cls) (w1 : (Cond.methodLink own index y).before a0 Z = true) (w2 : (Cond.static y).before a0 Z = true) (w3 : (Cond.initialized y.cls).before a0 Z = true) (w4 : (Cond.code y bytes maxL ret).before a0 Z = true)
    (hy : y.cls ≠ "java/lang/invoke/MethodHandle" ∧ y.cls ≠ "java/lang/invoke/VarHandle") (hM : ConW l Z y bytes maxL ret [] rm as' h Q) (eT : T.heap = h) {k0 : Nat} (hS : s.Since vm0 k0) (hk : k0 ≤ h.size)
    {g : JFrame} (hg : g.method = m) (hsize : g.locals.size = c.maxLocals) {argsL rest : List Value} (has : as' = argsL.toArray) (hlen : ∀ sig, parseMethodDescriptor y.desc = some sig → argsL.length = sig.parameters.length) (hs : g.stack = argsL.reverse ++ rest) {W : Nat} (hW : 2 * g.monitorRoom + (rest.map fun v => v.category).sum ≤ W)
    (hd : decode c.code g.pc = .ok (.invokestatic index, 3)) (hf : rm.frames + 1 ≤ R.frames) (hl : W + (maxL + 11) + rm.locals ≤ R.locals) (hc : cells + rm.cells ≤ R.cells) (hsl : slots + rm.slots ≤ R.slots) :
    ∃ (v : Option Value) (T' : State) (h' : Heap) (Lc : List Loc), Stand p l e R (s.setVm T'.vm) m args below meth c T' (locs ++ Lc) (cells + rm.cells) (slots + rm.slots) ∧ T'.heap = h' ∧ Q v h' Lc ∧ s.Since T'.vm h'.size ∧ Z.Warmed39 T'.vm ∧ T'.vm.findClass own = some m.cls ∧
      ∀ target, Steps p.tables e below (T'.setTop { g with pc := g.pc + 3, stack := v.toList ++ rest }) target → Steps p.tables e below (T.setTop g) target := by
  subst eT
  obtain ⟨v, vm₁, ⟨T', L', k', n'⟩, -, X', hS', hgr, ⟨Lc, hQ, hl', hk', hn'⟩, st⟩ := callSS (s := s.setVm vm0) X hx (y := y) hown (mvT (s := s.setVm vm0) hZ w1) (mvT (s := s.setVm vm0) hZ w2) (mvT (s := s.setVm vm0) hZ w3) (mvT (s := s.setVm vm0) hZ w4) hy (backOfS (s := s.setVm vm0) (W := W) hM hZ w4 w3 hf hl) hg hsize hlen hs hW hd (fun _ _ => ⟨has.symm, rfl, hc, hsl⟩)
  dsimp only [Pt.U, Pt.locs, Pt.cells, Pt.slots] at X' hl' hk' hn' st hQ hS' hgr
  subst hl' hk' hn'
  exact ⟨v, T', _, Lc, X', rfl, hQ, hS.trans hS' (Nat.le_trans hk hgr), State.Warmed39.trans (t := s.setVm vm0) hZ hS'.1, by rw [hS'.1.alike.findClass]; exact hown, fun t k => st.trans k⟩
theorem own_callCW (X : Stand p l e R (s.setVm vm0) m args below meth c T locs cells slots) (hx : p.tables.exec = Jvm.exec) (hZ : Z.Warmed39 vm0) {own : String} {index : Nat} {y : MethodName} {bytes : ByteArray} {maxL : Nat} {rm : Room} {as' : Array Value} {Q : Option Value → Heap → List Loc → Prop} (hy1 : y.name = "<init>")
    (hown : vm0.findClass own = some m.cls) (w1 : (Cond.methodLink own index y).before a0 Z = true) (w2 : (Cond.instanceMethod y).before a0 Z = true) (w3 : (Cond.initialized y.cls).before a0 Z = true) (w4 : (Cond.code y bytes maxL none).before a0 Z = true)
    (hy : y.cls ≠ "java/lang/invoke/MethodHandle" ∧ y.cls ≠ "java/lang/invoke/VarHandle") (hM : ConW l Z y bytes maxL none [] rm as' h Q) (eT : T.heap = h) {k0 : Nat} (hS : s.Since vm0 k0) (hk : k0 ≤ h.size) {a : Addr}
    {g : JFrame} (hg : g.method = m) (hsize : g.locals.size = c.maxLocals) {argsL rest : List Value} (has : as' = (Value.ref a :: argsL).toArray) (hlen : ∀ sig, parseMethodDescriptor y.desc = some sig → argsL.length = sig.parameters.length) (hs : g.stack = argsL.reverse ++ .ref a :: rest) {W : Nat} (hW : 2 * g.monitorRoom + (rest.map fun v => v.category).sum ≤ W)
    (hd : decode c.code g.pc = .ok (.invokespecial index, 3)) (hf : rm.frames + 1 ≤ R.frames) (hl : W + (maxL + 11) + rm.locals ≤ R.locals) (hc : cells + rm.cells ≤ R.cells) (hsl : slots + rm.slots ≤ R.slots) :
    ∃ (v : Option Value) (T' : State) (h' : Heap) (Lc : List Loc), Stand p l e R (s.setVm T'.vm) m args below meth c T' (locs ++ Lc) (cells + rm.cells) (slots + rm.slots) ∧ T'.heap = h' ∧ Q v h' Lc ∧ s.Since T'.vm h'.size ∧ Z.Warmed39 T'.vm ∧ T'.vm.findClass own = some m.cls ∧
      ∀ target, Steps p.tables e below (T'.setTop { g with pc := g.pc + 3, stack := v.toList ++ rest }) target → Steps p.tables e below (T.setTop g) target := by
  subst eT
  obtain ⟨v, vm₁, ⟨T', L', k', n'⟩, -, X', hS', hgr, ⟨Lc, hQ, hl', hk', hn'⟩, st⟩ := Jvm.Stand.specialBackS (s := s.setVm vm0) X hx (y := y) hy1 hown (mvT (s := s.setVm vm0) hZ w1) (mvT (s := s.setVm vm0) hZ w2) (mvT (s := s.setVm vm0) hZ w4) hy (backOfS (s := s.setVm vm0) (W := W) hM hZ w4 w3 hf hl) hg hsize (Steps.refl _) (a := a) hlen hs hW hd (fun _ _ => ⟨has.symm, rfl, hc, hsl⟩)
  dsimp only [Pt.U, Pt.locs, Pt.cells, Pt.slots] at X' hl' hk' hn' st hQ hS' hgr
  subst hl' hk' hn'
  exact ⟨v, T', _, Lc, X', rfl, hQ, hS.trans hS' (Nat.le_trans hk hgr), State.Warmed39.trans (t := s.setVm vm0) hZ hS'.1, by rw [hS'.1.alike.findClass]; exact hown, fun t k => st.trans k⟩
theorem own_callVW (X : Stand p l e R (s.setVm vm0) m args below meth c T locs cells slots) (hx : p.tables.exec = Jvm.exec) (hZ : Z.Warmed39 vm0) {own C : String} {index : Nat} {y z : MethodName} {bytes : ByteArray} {maxL : Nat} {ret : Option FieldType} {rm : Room} {as' : Array Value} {Q : Option Value → Heap → List Loc → Prop}
    (hown : vm0.findClass own = some m.cls) (w1 : (Cond.methodLink own index y).before a0 Z = true) (w2 : (Cond.declares y).before a0 Z = true) (nf : NotFace (s.setVm vm0) y) (w3 : (Cond.selects C y z).before a0 Z = true) (w4 : (Cond.instanceMethod z).before a0 Z = true) (w5 : (Cond.code z bytes maxL ret).before a0 Z = true) (w6 : (Cond.initialized z.cls).before a0 Z = true)
    (hy : y.cls ≠ "java/lang/invoke/MethodHandle" ∧ y.cls ≠ "java/lang/invoke/VarHandle") (hM : ConW l Z z bytes maxL ret [] rm as' h Q) (eT : T.heap = h) {k0 : Nat} (hS : s.Since vm0 k0) (hk : k0 ≤ h.size) {a : Addr} (E : Exa Z h a C)
    {g : JFrame} (hg : g.method = m) (hsize : g.locals.size = c.maxLocals) {argsL rest : List Value} (has : as' = (Value.ref a :: argsL).toArray) (hlen : ∀ sig, parseMethodDescriptor y.desc = some sig → argsL.length = sig.parameters.length) (hs : g.stack = argsL.reverse ++ .ref a :: rest) {W : Nat} (hW : 2 * g.monitorRoom + (rest.map fun v => v.category).sum ≤ W)
    (hd : decode c.code g.pc = .ok (.invokevirtual index, 3)) (hf : rm.frames + 1 ≤ R.frames) (hl : W + (maxL + 11) + rm.locals ≤ R.locals) (hc : cells + rm.cells ≤ R.cells) (hsl : slots + rm.slots ≤ R.slots) :
    ∃ (v : Option Value) (T' : State) (h' : Heap) (Lc : List Loc), Stand p l e R (s.setVm T'.vm) m args below meth c T' (locs ++ Lc) (cells + rm.cells) (slots + rm.slots) ∧ T'.heap = h' ∧ Q v h' Lc ∧ s.Since T'.vm h'.size ∧ Z.Warmed39 T'.vm ∧ T'.vm.findClass own = some m.cls ∧
      ∀ target, Steps p.tables e below (T'.setTop { g with pc := g.pc + 3, stack := v.toList ++ rest }) target → Steps p.tables e below (T.setTop g) target := by
  subst eT
  obtain ⟨cq, kq, qa, qb, qc⟩ := isOf (s := s.setVm vm0) hZ rfl E
  obtain ⟨v, vm₁, ⟨T', L', k', n'⟩, -, X', hS', hgr, ⟨Lc, hQ, hl', hk', hn'⟩, st⟩ := Jvm.Stand.virtualBackS (s := s.setVm vm0) X hx (y := y) (z := z) hown (mvT (s := s.setVm vm0) hZ w1) (mvT (s := s.setVm vm0) hZ w2) nf (mvT (s := s.setVm vm0) hZ w3) (mvT (s := s.setVm vm0) hZ w4) hy (backOfS (s := s.setVm vm0) (W := W) hM hZ w5 w6 hf hl) qa qc hg hsize (Steps.refl _) hlen hs hW hd (fun _ _ => ⟨has.symm, rfl, hc, hsl⟩)
  dsimp only [Pt.U, Pt.locs, Pt.cells, Pt.slots] at X' hl' hk' hn' st hQ hS' hgr
  subst hl' hk' hn'
  exact ⟨v, T', _, Lc, X', rfl, hQ, hS.trans hS' (Nat.le_trans hk hgr), State.Warmed39.trans (t := s.setVm vm0) hZ hS'.1, by rw [hS'.1.alike.findClass]; exact hown, fun t k => st.trans k⟩
theorem own_callCB (X : Stand p l e R s m args below meth c T locs cells slots) (hx : p.tables.exec = Jvm.exec) (hZ : Z.Warmed39 s.vm) {own : String} {index : Nat} {y : MethodName} {bytes : ByteArray} {maxL kc ks : Nat} {as' : Array Value} {Q : Option Value → Heap → List Loc → Prop} (hy1 : y.name = "<init>")
    (hown : s.vm.findClass own = some m.cls) (w1 : (Cond.methodLink own index y).before a0 Z = true) (w2 : (Cond.instanceMethod y).before a0 Z = true) (w4 : (Cond.code y bytes maxL none).before a0 Z = true)
    (hy : y.cls ≠ "java/lang/invoke/MethodHandle" ∧ y.cls ≠ "java/lang/invoke/VarHandle") {W : Nat} (hK : Back l R p e below s args y 3 W (fun A a => a = as' ∧ A.U.heap = h ∧ A.cells + kc ≤ R.cells ∧ A.slots + ks ≤ R.slots) (fun A _ v B => ∃ L, Q v B.U.heap L ∧ B.locs = A.locs ++ L ∧ B.cells = A.cells + kc ∧ B.slots = A.slots + ks)) (eT : T.heap = h) {a : Addr}
    {g : JFrame} (hg : g.method = m) (hsize : g.locals.size = c.maxLocals) {argsL rest : List Value} (has : as' = (Value.ref a :: argsL).toArray) (hlen : ∀ sig, parseMethodDescriptor y.desc = some sig → argsL.length = sig.parameters.length) (hs : g.stack = argsL.reverse ++ .ref a :: rest) (hW : 2 * g.monitorRoom + (rest.map fun v => v.category).sum ≤ W)
    (hd : decode c.code g.pc = .ok (.invokespecial index, 3)) (hc : cells + kc ≤ R.cells) (hsl : slots + ks ≤ R.slots) :
    ∃ (v : Option Value) (T' : State) (h' : Heap) (Lc : List Loc), Stand p l e R s m args below meth c T' (locs ++ Lc) (cells + kc) (slots + ks) ∧ T'.heap = h' ∧ Q v h' Lc ∧
      ∀ target, Steps p.tables e below (T'.setTop { g with pc := g.pc + 3, stack := v.toList ++ rest }) target → Steps p.tables e below (T.setTop g) target := by
  obtain ⟨v, _, ⟨T', L', k', n'⟩, -, X', ⟨Lc, hQ, hl', hk', hn'⟩, st⟩ := X.specialBack hx (y := y) hy1 hown (mvT hZ w1) (mvT hZ w2) (mvT hZ w4) hy hK hg hsize (Steps.refl _) (a := a) hlen hs hW hd (fun _ _ => ⟨has.symm, eT, hc, hsl⟩)
  dsimp only [Pt.U, Pt.locs, Pt.cells, Pt.slots] at X' hl' hk' hn' st hQ
  subst hl' hk' hn'
  exact ⟨v, T', _, Lc, X', rfl, hQ, fun t k => st.trans k⟩
theorem own_callVB (X : Stand p l e R s m args below meth c T locs cells slots) (hx : p.tables.exec = Jvm.exec) (hZ : Z.Warmed39 s.vm) {own C : String} {index kc ks : Nat} {y z : MethodName} {as' : Array Value} {Q : Option Value → Heap → List Loc → Prop}
    (hown : s.vm.findClass own = some m.cls) (w1 : (Cond.methodLink own index y).before a0 Z = true) (w2 : (Cond.declares y).before a0 Z = true) (nf : NotFace s y) (w3 : (Cond.selects C y z).before a0 Z = true) (w4 : (Cond.instanceMethod z).before a0 Z = true)
    (hy : y.cls ≠ "java/lang/invoke/MethodHandle" ∧ y.cls ≠ "java/lang/invoke/VarHandle") {W : Nat} (hK : Back l R p e below s args z 3 W (fun A a => a = as' ∧ A.U.heap = h ∧ A.cells + kc ≤ R.cells ∧ A.slots + ks ≤ R.slots) (fun A _ v B => ∃ L, Q v B.U.heap L ∧ B.locs = A.locs ++ L ∧ B.cells = A.cells + kc ∧ B.slots = A.slots + ks)) (eT : T.heap = h) {a : Addr} (E : Exa Z h a C)
    {g : JFrame} (hg : g.method = m) (hsize : g.locals.size = c.maxLocals) {argsL rest : List Value} (has : as' = (Value.ref a :: argsL).toArray) (hlen : ∀ sig, parseMethodDescriptor y.desc = some sig → argsL.length = sig.parameters.length) (hs : g.stack = argsL.reverse ++ .ref a :: rest) (hW : 2 * g.monitorRoom + (rest.map fun v => v.category).sum ≤ W)
    (hd : decode c.code g.pc = .ok (.invokevirtual index, 3)) (hc : cells + kc ≤ R.cells) (hsl : slots + ks ≤ R.slots) :
    ∃ (v : Option Value) (T' : State) (h' : Heap) (Lc : List Loc), Stand p l e R s m args below meth c T' (locs ++ Lc) (cells + kc) (slots + ks) ∧ T'.heap = h' ∧ Q v h' Lc ∧
      ∀ target, Steps p.tables e below (T'.setTop { g with pc := g.pc + 3, stack := v.toList ++ rest }) target → Steps p.tables e below (T.setTop g) target := by
  obtain ⟨cq, kq, qa, qb, qc⟩ := isOf hZ eT E
  obtain ⟨v, _, ⟨T', L', k', n'⟩, -, X', ⟨Lc, hQ, hl', hk', hn'⟩, st⟩ := X.virtualBack hx (y := y) (z := z) hown (mvT hZ w1) (mvT hZ w2) nf (mvT hZ w3) (mvT hZ w4) hy hK qa qc hg hsize (Steps.refl _) hlen hs hW hd (fun _ _ => ⟨has.symm, eT, hc, hsl⟩)
  dsimp only [Pt.U, Pt.locs, Pt.cells, Pt.slots] at X' hl' hk' hn' st hQ
  subst hl' hk' hn'
  exact ⟨v, T', _, Lc, X', rfl, hQ, fun t k => st.trans k⟩
theorem own_more {cells' slots' : Nat} (X : Stand p l e R s m args below meth c T locs cells slots) (h1 : cells ≤ cells') (h2 : slots ≤ slots') : Stand p l e R s m args below meth c T locs cells' slots' := { X with same := X.same.mono h1 h2 }
theorem own_arrKeep {h h' : Heap} {a : Addr} {cl : Cell} {ty : FieldType} {ws : List Addr} (A : Arr Z h a cl ty) (K : Keep h h' ws) (q : a ∉ ws) : Arr Z h' a cl ty := ⟨K.2.1 a cl A.1 q, A.2⟩
end OwnKit
section OwnRef
variable {p : Program} {l : Launch} {e : Env} {R : Room} {s : State} {m : MethodId} {args : Array Value} {below : List Frame} {meth : Method} {c : Code} {T : State} {locs : List Loc} {cells slots : Nat} {Z : State} {a0 : Array Value} {h : Heap}
theorem own_curT (X : Stand p l e R s m args below meth c T locs cells slots) {own : String} (hown : s.vm.findClass own = some m.cls) : T.vm.findClass own = some m.cls := by rw [X.warmed.alike.findClass]; exact hown
theorem own_fieldAt (X : Stand p l e R s m args below meth c T locs cells slots) (hZ : Z.Warmed39 s.vm) {own R0 n d : String} {index : Nat} (hown : s.vm.findClass own = some m.cls) (w : (Cond.fieldRef own index R0 n d).before a0 Z = true) {cf i : Nat} {k : Class} {f : Field} (hi : Z.fieldFound? R0 n d = some (cf, k, i, f)) : T.vm.fieldReady m.cls index cf f := by
  have hW : Z.Warmed39 T.vm := wtrans hZ X.warmed
  obtain ⟨c', k', i', f', q1, q2⟩ := Cond.fieldRef_spec (s := Z.setVm T.vm) (own_curT X hown) (Cond.fieldRef_warmed39 hW w)
  obtain ⟨k2, q3, -⟩ := State.fieldFound?_setVm (s := Z) hW.alike hi
  cases q1.symm.trans q3
  exact q2
theorem own_getFR (X : Stand p l e R s m args below meth c T locs cells slots) (hx : p.tables.exec = Jvm.exec) (hZ : Z.Warmed39 s.vm) {own R0 n d : String} {index : Nat} (hown : s.vm.findClass own = some m.cls) (w : (Cond.fieldRef own index R0 n d).before a0 Z = true)
    (eT : T.heap = h) {a : Addr} {v : Value} (F : Fld Z h a R0 n d v) {g : JFrame} (hg : g.method = m) {rest : List Value} (hs : g.stack = .ref a :: rest) (hd : decode c.code g.pc = .ok (.getfield index, 3)) :
    ∀ target, Steps p.tables e below (T.setTop { g with pc := g.pc + 3, stack := v :: rest }) target → Steps p.tables e below (T.setTop g) target := fun target k => by
  obtain ⟨cell, cf, kk, i, f, h1, h2, h3, h4, -, -, h7⟩ := F
  exact (X.getfieldR hx hg (own_fieldAt X hZ hown w h2) h3 hs (by rw [eT]; exact h1) h4 h7 hd (Steps.refl _)).trans k
theorem own_putFR (X : Stand p l e R s m args below meth c T locs cells slots) (hx : p.tables.exec = Jvm.exec) (hZ : Z.Warmed39 s.vm) {own R0 n d C : String} {index kk : Nat} {ty : FieldType} (hown : s.vm.findClass own = some m.cls) (w : (Cond.fieldRef own index R0 n d).before a0 Z = true)
    (eT : T.heap = h) {a : Addr} {v old : Value} (F : Fld Z h a R0 n d old) (E : Exa Z h a C) (L : (Cond.lays C R0 n d).before a0 Z = true) (wi : (Cond.instantiable C kk).before a0 Z = true)
    (hty : parseFieldDescriptor d = some ty) (hn : narrow ty v = v) (hf : fits ty v = true) {g : JFrame} (hg : g.method = m) {rest : List Value} (hs : g.stack = v :: .ref a :: rest) (hd : decode c.code g.pc = .ok (.putfield index, 3)) :
    ∃ T' h', Stand p l e R s m args below meth c T' (locs ++ [⟨a, RoadKit.slotOf Z R0 n d⟩]) cells slots ∧ T'.heap = h' ∧ Wr h h' a (RoadKit.slotOf Z R0 n d) v ∧ ∀ target, Steps p.tables e below (T'.setTop { g with pc := g.pc + 3, stack := rest }) target → Steps p.tables e below (T.setTop g) target := by
  obtain ⟨cell, cf, k, i, f, h1, h2, h3, h4, h5, -, h7⟩ := F
  obtain ⟨cell', kc, e1, e2, e3, -⟩ := E
  cases h1.symm.trans e1
  obtain ⟨c1, k1, cf1, kf1, i1, f1, a1, a2, a3, -, -, a6, -⟩ := Laid.spec (Or.inl L)
  cases h2.symm.trans a3
  cases e2.symm.trans a1
  obtain ⟨c2, k2, j1, j2, j3, -⟩ := Cond.instantiable_spec wi
  cases e2.symm.trans j1
  cases a2.symm.trans j2
  have ht := (State.fieldFound?_type h2 hty).2
  have hfit : Z.fitsSlot cell.cls cell.vm f.slot v = true := by
    have q : Z.slotType? cell.cls cell.vm f.slot = some ty := by
      simp only [State.slotType?, a2, Option.bind_eq_bind, Option.bind_some, j3]
      cases hq : cell.vm <;> first | (rw [hq] at h5; exact Bool.noConfusion h5) | (rw [a6, ht])
    simp [State.fitsSlot, q, hf]
  have hW : Z.Warmed39 T.vm := wtrans hZ X.warmed
  have hfitT : T.fitsSlot cell.cls cell.vm f.slot v = true := by
    show (Z.setVm T.vm).fitsSlot cell.cls cell.vm f.slot v = true
    rw [State.fitsSlot_setVm hW.alike]; exact hfit
  have hnf : hasFlag f.accessFlags Acc.final = false := by
    obtain ⟨_, _, _, _, _, _, -, -, b3, -, b5, -⟩ := Cond.lays_spec L
    cases h2.symm.trans b3
    exact b5
  have hsl : RoadKit.slotOf Z R0 n d = f.slot := by simp [RoadKit.slotOf, h2]
  have hlt : f.slot < cell.slots.size := (Array.getElem?_eq_some_iff.mp h7).1
  have hcT : T.heap[a]? = some cell := by rw [eT]; exact h1
  have hnar : narrow f.type v = v := by rw [ht]; exact hn
  refine ⟨T.setCell a (cell.setSlot f.slot v), _, ?_, rfl, ?_, fun target kt => ?_⟩
  · rw [hsl]; exact X.stored hcT f.slot v
  · rw [hsl]
    refine ⟨cell, h1, h5, hlt, ?_⟩
    show T.heap.setIfInBounds a _ = _
    rw [eT]
  · subst hg
    jvm_step X.here [hx, hd, putfield.wp_ready (e := e) (s := T) (f := g) (c := cf) (field := f) (a := a) (rest := rest) (cell := cell) (x := v) X.here.top (own_fieldAt X hZ hown w h2) h3 hnf hs hcT h4]
    rw [hnar]
    exact ⟨hlt, hfitT, kt⟩
theorem own_callCR (X : Stand p l e R s m args below meth c T locs cells slots) (hx : p.tables.exec = Jvm.exec) (hZ : Z.Warmed39 s.vm) {own : String} {index : Nat} {y : MethodName} {bytes : ByteArray} {maxL : Nat} {rm : Room} {as' : Array Value} {Q : Option Value → Heap → List Loc → Prop} (hy1 : y.name = "<init>")
    (hown : s.vm.findClass own = some m.cls) (w1 : (Cond.methodRef own index y).before a0 Z = true) (w2 : (Cond.instanceMethod y).before a0 Z = true) (w3 : (Cond.initialized y.cls).before a0 Z = true) (w4 : (Cond.code y bytes maxL none).before a0 Z = true)
    (hy : y.cls ≠ "java/lang/invoke/MethodHandle" ∧ y.cls ≠ "java/lang/invoke/VarHandle") (hM : Con l Z y bytes maxL none [] rm as' h Q) (eT : T.heap = h) {a : Addr}
    {g : JFrame} (hg : g.method = m) (hsize : g.locals.size = c.maxLocals) {argsL rest : List Value} (has : as' = (Value.ref a :: argsL).toArray) (hlen : ∀ sig, parseMethodDescriptor y.desc = some sig → argsL.length = sig.parameters.length) (hs : g.stack = argsL.reverse ++ .ref a :: rest) {W : Nat} (hW : 2 * g.monitorRoom + (rest.map fun v => v.category).sum ≤ W)
    (hd : decode c.code g.pc = .ok (.invokespecial index, 3)) (hf : rm.frames + 1 ≤ R.frames) (hl : W + (maxL + 11) + rm.locals ≤ R.locals) (hc : cells + rm.cells ≤ R.cells) (hsl : slots + rm.slots ≤ R.slots) :
    ∃ (v : Option Value) (T' : State) (h' : Heap) (Lc : List Loc), Stand p l e R s m args below meth c T' (locs ++ Lc) (cells + rm.cells) (slots + rm.slots) ∧ T'.heap = h' ∧ Q v h' Lc ∧
      ∀ target, Steps p.tables e below (T'.setTop { g with pc := g.pc + 3, stack := v.toList ++ rest }) target → Steps p.tables e below (T.setTop g) target := by
  have hWT : Z.Warmed39 T.vm := wtrans hZ X.warmed
  obtain ⟨mk, methM, hnamed, hmethM, hstM, habM⟩ := Cond.instanceMethod_spec (mv (s := s) (args := args) hZ w2)
  obtain ⟨methM', cM, hmethM', -, -, -, -, -, -, hsigM⟩ := Cond.code_spec hnamed (mv (s := s) (args := args) hZ w4)
  cases hmethM.symm.trans hmethM'
  obtain ⟨mkZ, methZ, hnZ, -, -, -⟩ := Cond.instanceMethod_spec w2
  obtain ⟨mr, c', hfo, hready, hfind, hres⟩ := Cond.methodRef_named (s := Z.setVm T.vm) e (own_curT X hown) (Cond.methodRef_warmed39 hWT hnZ hy w1)
  have hnT : T.methodNamed? y = some mk := X.named hnamed
  have hnT' : (Z.setVm T.vm).methodNamed? y = some mk := hnT
  cases (State.methodFound?_of_named hnT' hy).symm.trans hfo
  have hcls : c' = mk.cls := Option.some.inj (hfind.symm.trans (findClass_of_methodNamed hnT'))
  subst hcls
  obtain ⟨kT, hkT, -⟩ := className_of_methodNamed hnT'
  have hmT : T.vm.method? mk = some methM := by rw [X.warmed.alike.method?]; exact hmethM
  obtain ⟨hnm, hdm⟩ := name_of_methodNamed hnT' (show (Z.setVm T.vm).vm.method? mk = some methM from hmT)
  have hlook := lookupSpecial_of_named hnT' (show (Z.setVm T.vm).vm.method? mk = some methM from hmT) hstM
  obtain ⟨v, ⟨T', L', k', n'⟩, X', ⟨Lc, hQ, hl', hk', hn'⟩, hsteps⟩ := backOf (len := 3) (W := W) hM hZ w4 w3 hf hl m meth c ⟨T, locs, cells, slots⟩ { g with stack := rest } (.invokespecial index) mk (.ref a :: argsL).toArray X hg hsize hd hW hnT ⟨has.symm, eT, hc, hsl⟩
  dsimp only [Pt.U, Pt.locs, Pt.cells, Pt.slots] at X' hl' hk' hn' hsteps hQ
  subst hl' hk' hn'
  refine ⟨v, T', _, Lc, X', rfl, hQ, fun t k => ?_⟩
  refine Steps.trans ?_ k
  refine Steps.trans ?_ hsteps
  subst hg
  rw [hy1] at hnm hlook
  rw [← hdm] at hlook
  jvm_step X.here [hx, hd, invokespecial.wp_init (e := e) (s := T) (f := g) (m := mk) (k := kT) (meth := methM) (args := argsL) (rest := rest) (a := a) X.here.top hres hready hkT hmT hnm hstM habM hlook (hlen _ hsigM) hs]
  intro acts
  rw [doInvoke_state]
  exact Steps.refl _
theorem own_callPR (X : Stand p l e R s m args below meth c T locs cells slots) (hx : p.tables.exec = Jvm.exec) (hZ : Z.Warmed39 s.vm) {own : String} {index kI : Nat} {y : MethodName} {bytes : ByteArray} {maxL : Nat} {ret : Option FieldType} {rm : Room} {as' : Array Value} {Q : Option Value → Heap → List Loc → Prop}
    (hown : s.vm.findClass own = some m.cls) (w1 : (Cond.methodRef own index y).before a0 Z = true) (w2 : (Cond.instanceMethod y).before a0 Z = true) (wp : (Cond.privateMethod y).before a0 Z = true) (wi : (Cond.instantiable y.cls kI).before a0 Z = true) (w3 : (Cond.initialized y.cls).before a0 Z = true) (w4 : (Cond.code y bytes maxL ret).before a0 Z = true)
    (hy : y.cls ≠ "java/lang/invoke/MethodHandle" ∧ y.cls ≠ "java/lang/invoke/VarHandle") (hM : Con l Z y bytes maxL ret [] rm as' h Q) (eT : T.heap = h) {a : Addr} {C : String} (E : Exa Z h a C)
    {g : JFrame} (hg : g.method = m) (hsize : g.locals.size = c.maxLocals) {argsL rest : List Value} (has : as' = (Value.ref a :: argsL).toArray) (hlen : ∀ sig, parseMethodDescriptor y.desc = some sig → argsL.length = sig.parameters.length) (hs : g.stack = argsL.reverse ++ .ref a :: rest) {W : Nat} (hW : 2 * g.monitorRoom + (rest.map fun v => v.category).sum ≤ W)
    (hd : decode c.code g.pc = .ok (.invokevirtual index, 3)) (hf : rm.frames + 1 ≤ R.frames) (hl : W + (maxL + 11) + rm.locals ≤ R.locals) (hc : cells + rm.cells ≤ R.cells) (hsl : slots + rm.slots ≤ R.slots) :
    ∃ (v : Option Value) (T' : State) (h' : Heap) (Lc : List Loc), Stand p l e R s m args below meth c T' (locs ++ Lc) (cells + rm.cells) (slots + rm.slots) ∧ T'.heap = h' ∧ Q v h' Lc ∧
      ∀ target, Steps p.tables e below (T'.setTop { g with pc := g.pc + 3, stack := v.toList ++ rest }) target → Steps p.tables e below (T.setTop g) target := by
  have hWT : Z.Warmed39 T.vm := wtrans hZ X.warmed
  obtain ⟨mk, methM, hnamed, hmethM, hstM, habM⟩ := Cond.instanceMethod_spec (mv (s := s) (args := args) hZ w2)
  obtain ⟨methM', cM, hmethM', -, -, -, -, -, -, hsigM⟩ := Cond.code_spec hnamed (mv (s := s) (args := args) hZ w4)
  cases hmethM.symm.trans hmethM'
  obtain ⟨mkZ, methZ, hnZ, -, -, -⟩ := Cond.instanceMethod_spec w2
  obtain ⟨mr, c', hfo, hready, hfind, hres⟩ := Cond.methodRef_named (s := Z.setVm T.vm) e (own_curT X hown) (Cond.methodRef_warmed39 hWT hnZ hy w1)
  have hnT : T.methodNamed? y = some mk := X.named hnamed
  have hnT' : (Z.setVm T.vm).methodNamed? y = some mk := hnT
  cases (State.methodFound?_of_named hnT' hy).symm.trans hfo
  have hcls : c' = mk.cls := Option.some.inj (hfind.symm.trans (findClass_of_methodNamed hnT'))
  subst hcls
  obtain ⟨kT, hkT, hkn⟩ := className_of_methodNamed hnT'
  have hmT : T.vm.method? mk = some methM := by rw [X.warmed.alike.method?]; exact hmethM
  have hpoly : signaturePolymorphic kT methM = false := signaturePolymorphic_of_name (by rw [hkn]; exact hy) _
  have hpr : methM.isPrivate = true := (Cond.privateMethod_at (mvP (s := s) hZ wp (args := args))) mk methM hnamed hmethM
  obtain ⟨cell, hcell, hobj⟩ := E.cell
  have hni : kT.isInterface = false := by
    obtain ⟨t, kt, g1, g2, g3, g4, -⟩ := Cond.instantiable_spec (mv (s := T) (args := args) hWT wi)
    cases g1.symm.trans (findClass_of_methodNamed hnT)
    cases g2.symm.trans hkT
    revert g4; cases kT.isInterface <;> simp
  obtain ⟨v, ⟨T', L', k', n'⟩, X', ⟨Lc, hQ, hl', hk', hn'⟩, hsteps⟩ := backOf (len := 3) (W := W) hM hZ w4 w3 hf hl m meth c ⟨T, locs, cells, slots⟩ { g with stack := rest } (.invokevirtual index) mk (.ref a :: argsL).toArray X hg hsize hd hW hnT ⟨has.symm, eT, hc, hsl⟩
  dsimp only [Pt.U, Pt.locs, Pt.cells, Pt.slots] at X' hl' hk' hn' hsteps hQ
  subst hl' hk' hn'
  refine ⟨v, T', _, Lc, X', rfl, hQ, fun t k => ?_⟩
  refine Steps.trans ?_ k
  refine Steps.trans ?_ hsteps
  subst hg
  jvm_step X.here [hx, hd, invokevirtual.wp_named (e := e) (s := T) (r := mk) (m := mk) (c' := mk.cls) (k := kT) (k' := kT) (mk := kT) (rmeth := methM) (meth := methM) (a := a) (args := argsL) (rest := rest) (cell := cell) (f := g) X.here.top hres hkT hni hready hkT hmT hpoly hstM (hlen _ hsigM) hs (by rw [eT]; exact hcell) hobj (selectMethod_private hmT hpr) hmT habM hkT hni]
  intro acts
  rw [doInvoke_state]
  exact Steps.refl _
end OwnRef
def own_B (q : Int64) : Nat → Int32
  | 0 => ((q.toInt32).toInt8.toInt32)
  | 1 => ((((q.toUInt64 >>> ((8 : Int32) &&& 0x3f).toInt64.toUInt64).toInt64).toInt32).toInt8.toInt32)
  | 2 => ((((q.toUInt64 >>> ((16 : Int32) &&& 0x3f).toInt64.toUInt64).toInt64).toInt32).toInt8.toInt32)
  | 3 => ((((q.toUInt64 >>> ((24 : Int32) &&& 0x3f).toInt64.toUInt64).toInt64).toInt32).toInt8.toInt32)
  | 4 => ((((q.toUInt64 >>> ((32 : Int32) &&& 0x3f).toInt64.toUInt64).toInt64).toInt32).toInt8.toInt32)
  | _ => ((((q.toUInt64 >>> ((40 : Int32) &&& 0x3f).toInt64.toUInt64).toInt64).toInt32).toInt8.toInt32)
def own_dr (q : Int64) : List Value := (List.range 6).map fun i => .int (own_B q i)
theorem own_dr_at (q : Int64) {j : Nat} (h : j < 6) (d : Value) : (own_dr q).getD j d = .int (own_B q j) := by
  simp [own_dr, List.getD_eq_getElem?_getD, h]
theorem own_nb (x : Int32) : nar .byte (x.toInt8.toInt32) = x.toInt8.toInt32 := by
  show (x.toInt8.toInt32).toInt8.toInt32 = _
  rw [Int8.toInt8_toInt32]
def own_seg (q : Int64) (f l : Int32) : List Value := (List.range l.toNatClampNeg).map fun i => (own_dr q).getD (f.toNatClampNeg + i) (.int (0 : Int32))
theorem own_seg_len (q : Int64) (f l : Int32) : (own_seg q f l).length = l.toNatClampNeg := by simp [own_seg]
theorem own_seg_at {q : Int64} {f l : Int32} {i : Nat} (h : i < l.toNatClampNeg) (hb : f.toNatClampNeg + i < 6) (d : Value) : (own_seg q f l).getD i d = .int (own_B q (f.toNatClampNeg + i)) := by
  rw [← own_dr_at q hb (.int (0 : Int32))]
  simp [own_seg, List.getD_eq_getElem?_getD, h]
theorem own_seg0 (q : Int64) (f : Int32) : own_seg q f 0 = [] := rfl
def own_in3 (x : Int32) : Prop := 0 ≤ x.toInt ∧ x.toInt ≤ 3
theorem own_in3_and (x : Int32) : own_in3 (x &&& (3 : Int32)) := by
  have q := c_and x 3 (by decide)
  have : (3 : Int32).toInt = 3 := by decide
  exact ⟨by omega, by omega⟩
theorem own_nn {x : Int32} (h : 0 ≤ x.toInt) : ¬ x < 0 := by
  rw [Int32.lt_iff_toInt_lt, show (0 : Int32).toInt = 0 by decide]; omega
theorem own_in3_nat {x : Int32} (h : own_in3 x) : ¬ x < 0 ∧ (x.toNatClampNeg : Int) = x.toInt ∧ x.toNatClampNeg ≤ 3 := by
  obtain ⟨h1, h2⟩ := h
  have a := own_nn h1
  have b := nat_of a
  exact ⟨a, b.symm, by omega⟩
theorem own_asc (f l : Int32) : (f + l) - f = l := by
  rw [Int32.add_comm, Int32.add_sub_cancel]
theorem own_add {x y : Int32} (hx : 0 ≤ x.toInt) (hx2 : x.toInt ≤ 1000) (hy : 0 ≤ y.toInt) (hy2 : y.toInt ≤ 1000) : (x + y).toInt = x.toInt + y.toInt := by
  have a := c_iadd x y
  have b := rng32 (x + y)
  omega
theorem own_sub {x y : Int32} (hx : 0 ≤ x.toInt) (hx2 : x.toInt ≤ 1000) (hy : 0 ≤ y.toInt) (hy2 : y.toInt ≤ 1000) : (x - y).toInt = x.toInt - y.toInt := by
  have a := c_isub x y
  have b := rng32 (x - y)
  omega
theorem own_z : (0 : Int32).toInt = 0 := by decide
theorem own_cp0 {us : List Value} {d : Value} {N n dp : Nat} (h : dp = 0) : (List.replicate N d).take dp ++ us ++ (List.replicate N d).drop (dp + n) = us ++ List.replicate (N - n) d := by
  subst h; simp
theorem own_cpS {A us : List Value} {d : Value} {N k n dp : Nat} (hA : A.length = k) (h : dp = k) : (A ++ List.replicate (N - k) d).take dp ++ us ++ (A ++ List.replicate (N - k) d).drop (dp + n) = A ++ us ++ List.replicate (N - (k + n)) d := by
  subst h; subst hA
  rw [List.take_left', List.drop_append, List.drop_replicate]
  · rw [List.drop_eq_nil_of_le (by omega), List.nil_append, show N - A.length - (A.length + n - A.length) = N - (A.length + n) by omega]
  · rfl
theorem own_rep (n : Nat) (d : Value) (k : Nat) : (List.replicate n d).drop k = List.replicate (n - k) d := by simp
theorem pn_TextLinesBytesPinLaw : plainName "dev/triadic/policy/TextLinesBytesPinLaw" = true := by first | (simp [plainName, overriddenIn]; done) | decide +kernel
theorem ef_rm_drawn (m : MethodId) (x0 : Int64) : entryFrame m #[(.long x0)] 3 = mkF m 0 #[.val (.long x0), .second, .unset] [] := by first | (simp [entryFrame, mkF, argsToLocals, Value.category]; done) | rfl
def Q_rm_drawn (Z : State) (q : Int64) (h0 : Heap) (n0 : Nat) (v : Option Value) (h : Heap) (L : List Loc) : Prop := ∃ (t : Addr) (k : ClassId), (v = some (.ref t)) ∧ (Fr n0 L) ∧ (Keep h0 h []) ∧ (h0.size ≤ t) ∧ (Arv Z h t k .byte (6 : Int32) (own_dr q) (.int (0 : Int32)))
theorem d1_0 : decode method_3_code 0 = .ok (.bipush 6, 2) := by decide +kernel
theorem d1_2 : decode method_3_code 2 = .ok (.newarray .byte, 2) := by decide +kernel
theorem d1_4 : decode method_3_code 4 = .ok (.astore_n 2, 1) := by decide +kernel
theorem d1_5 : decode method_3_code 5 = .ok (.aload_n 2, 1) := by decide +kernel
theorem d1_6 : decode method_3_code 6 = .ok (.iconst 0, 1) := by decide +kernel
theorem d1_7 : decode method_3_code 7 = .ok (.lload_n 0, 1) := by decide +kernel
theorem d1_8 : decode method_3_code 8 = .ok (.l2i, 1) := by decide +kernel
theorem d1_9 : decode method_3_code 9 = .ok (.i2b, 1) := by decide +kernel
theorem d1_10 : decode method_3_code 10 = .ok (.bastore, 1) := by decide +kernel
theorem d1_11 : decode method_3_code 11 = .ok (.aload_n 2, 1) := by decide +kernel
theorem d1_12 : decode method_3_code 12 = .ok (.iconst 1, 1) := by decide +kernel
theorem d1_13 : decode method_3_code 13 = .ok (.lload_n 0, 1) := by decide +kernel
theorem d1_14 : decode method_3_code 14 = .ok (.bipush 8, 2) := by decide +kernel
theorem d1_16 : decode method_3_code 16 = .ok (.lushr, 1) := by decide +kernel
theorem d1_17 : decode method_3_code 17 = .ok (.l2i, 1) := by decide +kernel
theorem d1_18 : decode method_3_code 18 = .ok (.i2b, 1) := by decide +kernel
theorem d1_19 : decode method_3_code 19 = .ok (.bastore, 1) := by decide +kernel
theorem d1_20 : decode method_3_code 20 = .ok (.aload_n 2, 1) := by decide +kernel
theorem d1_21 : decode method_3_code 21 = .ok (.iconst 2, 1) := by decide +kernel
theorem d1_22 : decode method_3_code 22 = .ok (.lload_n 0, 1) := by decide +kernel
theorem d1_23 : decode method_3_code 23 = .ok (.bipush 16, 2) := by decide +kernel
theorem d1_25 : decode method_3_code 25 = .ok (.lushr, 1) := by decide +kernel
theorem d1_26 : decode method_3_code 26 = .ok (.l2i, 1) := by decide +kernel
theorem d1_27 : decode method_3_code 27 = .ok (.i2b, 1) := by decide +kernel
theorem d1_28 : decode method_3_code 28 = .ok (.bastore, 1) := by decide +kernel
theorem d1_29 : decode method_3_code 29 = .ok (.aload_n 2, 1) := by decide +kernel
theorem d1_30 : decode method_3_code 30 = .ok (.iconst 3, 1) := by decide +kernel
theorem d1_31 : decode method_3_code 31 = .ok (.lload_n 0, 1) := by decide +kernel
theorem d1_32 : decode method_3_code 32 = .ok (.bipush 24, 2) := by decide +kernel
theorem d1_34 : decode method_3_code 34 = .ok (.lushr, 1) := by decide +kernel
theorem d1_35 : decode method_3_code 35 = .ok (.l2i, 1) := by decide +kernel
theorem d1_36 : decode method_3_code 36 = .ok (.i2b, 1) := by decide +kernel
theorem d1_37 : decode method_3_code 37 = .ok (.bastore, 1) := by decide +kernel
theorem d1_38 : decode method_3_code 38 = .ok (.aload_n 2, 1) := by decide +kernel
theorem d1_39 : decode method_3_code 39 = .ok (.iconst 4, 1) := by decide +kernel
theorem d1_40 : decode method_3_code 40 = .ok (.lload_n 0, 1) := by decide +kernel
theorem d1_41 : decode method_3_code 41 = .ok (.bipush 32, 2) := by decide +kernel
theorem d1_43 : decode method_3_code 43 = .ok (.lushr, 1) := by decide +kernel
theorem d1_44 : decode method_3_code 44 = .ok (.l2i, 1) := by decide +kernel
theorem d1_45 : decode method_3_code 45 = .ok (.i2b, 1) := by decide +kernel
theorem d1_46 : decode method_3_code 46 = .ok (.bastore, 1) := by decide +kernel
theorem d1_47 : decode method_3_code 47 = .ok (.aload_n 2, 1) := by decide +kernel
theorem d1_48 : decode method_3_code 48 = .ok (.iconst 5, 1) := by decide +kernel
theorem d1_49 : decode method_3_code 49 = .ok (.lload_n 0, 1) := by decide +kernel
theorem d1_50 : decode method_3_code 50 = .ok (.bipush 40, 2) := by decide +kernel
theorem d1_52 : decode method_3_code 52 = .ok (.lushr, 1) := by decide +kernel
theorem d1_53 : decode method_3_code 53 = .ok (.l2i, 1) := by decide +kernel
theorem d1_54 : decode method_3_code 54 = .ok (.i2b, 1) := by decide +kernel
theorem d1_55 : decode method_3_code 55 = .ok (.bastore, 1) := by decide +kernel
theorem d1_56 : decode method_3_code 56 = .ok (.aload_n 2, 1) := by decide +kernel
theorem d1_57 : decode method_3_code 57 = .ok (.areturn, 1) := by decide +kernel
set_option maxRecDepth 65536 in
set_option maxHeartbeats 40000000 in
theorem rm_drawn (l : Launch) (Z : State) (a0 : Array Value) (hw : ∀ d ∈ tables_1, d.before a0 Z = true) (ws : List Jvm.Cond) (q : Int64) (h0 : Heap) (n0 : Nat) (Z0 : n0 ≤ h0.size)  :
    Con l Z (⟨"dev/triadic/policy/TextLinesBytesPinLaw", "drawn", "(J)[B"⟩ : MethodName) method_3_code 3 (some (.array .byte)) ws ({ frames := 0, cells := 1, slots := 6, locals := 0 } : Room) #[(.long q)] h0 (Q_rm_drawn Z q h0 n0) := by
  refine MetFree.of_bodySF (plainFor_of_name pn_TextLinesBytesPinLaw) hisR ?_
  intro p e s m args below meth c s₁ Bd hml0 hP hK
  obtain ⟨rfl, hZ, hh⟩ := hP
  have hx := Bd.exec
  have hby := Bd.bytes
  have hml : c.maxLocals = 3 := hml0
  have hown : s.vm.findClass "dev/triadic/policy/TextLinesBytesPinLaw" = some m.cls := findClass_of_methodNamed Bd.named
  have hnm := (name_of_methodNamed Bd.named Bd.method).1
  have X0 : Stand p l e ({ frames := 0, cells := 1, slots := 6, locals := 0 } : Room) s m #[(.long q)] below meth c s₁ [] 0 0 := Stand.of_body Bd
  have e0 : s₁.heap = h0 := by rw [← hh, Bd.state]; rfl
  have N0 := Fr.nil n0
  have k0 : Rch p e below (s₁.setTop (entryFrame m #[(.long q)] 3)) s₁ (mkF m 0 #[.val (.long q), .second, .unset] []) := fun tg kg => castTop (ef_rm_drawn m q) kg
  have k1 : Rch p e below (s₁.setTop (entryFrame m #[(.long q)] 3)) s₁ (mkF m 2 #[.val (.long q), .second, .unset] [(.int (6 : Int32))]) := fun tg kg => by
    refine k0 tg ?_
    show Steps p.tables e below (s₁.setTop (mkF m 0 #[.val (.long q), .second, .unset] [])) tg
    refine XS.bipush X0.here hx rfl (hb hby d1_0) ?_
    exact kg
  obtain ⟨T2, h2, c2, X2, e2, E2, A2, st2⟩ := newP X0 hx hZ (hw _ (List.mem_of_getElem? (i := 4) rfl)) e0 (g := (mkF m 2 #[.val (.long q), .second, .unset] [(.int (6 : Int32))])) rfl (hb hby d1_2) rfl (by decide) (cap := 6) (by decide) (by decide) (by decide) (by decide)
  obtain ⟨b2, g2⟩ : ∃ z, z = h0.size := ⟨_, rfl⟩
  rw [← g2] at A2 st2
  have s2 : h0.size ≤ h2.size := E2.1
  have lt2 : b2 < h2.size := A2.lt
  have k3 : Rch p e below (s₁.setTop (entryFrame m #[(.long q)] 3)) T2 (mkF m 4 #[.val (.long q), .second, .unset] [(.ref b2)]) := fun tg kg => k1 tg (st2 tg kg)
  have V2 : Arv Z h2 b2 c2 .byte (6 : Int32) [(.int (0 : Int32)), (.int (0 : Int32)), (.int (0 : Int32)), (.int (0 : Int32)), (.int (0 : Int32)), (.int (0 : Int32))] (.int (0 : Int32)) := (Arv.new A2 (by decide)).pad (pad_rep [] (.int (0 : Int32)) 6)
  have k4 : Rch p e below (s₁.setTop (entryFrame m #[(.long q)] 3)) T2 (mkF m 10 #[.val (.long q), .second, .val (.ref b2)] [(.int ((q.toInt32).toInt8.toInt32)), (.int (0 : Int32)), (.ref b2)]) := fun tg kg => by
    refine k3 tg ?_
    show Steps p.tables e below (T2.setTop (mkF m 4 #[.val (.long q), .second, .unset] [(.ref b2)])) tg
    refine XS.astoreN X2.here hx rfl (hb hby d1_4) rfl rfl (l' := #[.val (.long q), .second, .val (.ref b2)]) rfl ?_
    refine XS.aloadN X2.here hx rfl (hb hby d1_5) rfl rfl ?_
    refine XS.iconst X2.here hx rfl (hb hby d1_6) ?_
    refine XS.lloadN X2.here hx rfl (hb hby d1_7) rfl ?_
    show Steps p.tables e below (T2.setTop (mkF m 8 #[.val (.long q), .second, .val (.ref b2)] [(.long q), (.int (0 : Int32)), (.ref b2)])) tg
    refine XS.l2i X2.here hx rfl (hb hby d1_8) rfl ?_
    refine XS.i2b X2.here hx rfl (hb hby d1_9) rfl ?_
    exact kg
  obtain ⟨cl5, Ar5, q5, S5, N5', H5, G5⟩ := V2
  have hin5 : ¬ ((0 : Int32) < 0 ∨ cl5.slots.size ≤ ((0 : Int32)).toNatClampNeg) := inb_of S5 ⟨by decide, by decide⟩
  obtain ⟨T5, h5, X5, e5, W5, st5⟩ := stB X2 hx hZ e2 Ar5 (j := (0 : Int32)) hin5 (g := (mkF m 10 #[.val (.long q), .second, .val (.ref b2)] [(.int ((q.toInt32).toInt8.toInt32)), (.int (0 : Int32)), (.ref b2)])) rfl rfl (hb hby d1_10)
  have s5 : h5.size = h2.size := W5.size
  have N5 := Fr.snoc X5 N0 (by omega : n0 ≤ b2)
  have k6 : Rch p e below (s₁.setTop (entryFrame m #[(.long q)] 3)) T5 (mkF m 11 #[.val (.long q), .second, .val (.ref b2)] []) := fun tg kg => k4 tg (st5 tg kg)
  have V5 : Arv Z h5 b2 c2 .byte (6 : Int32) [(.int (nar .byte ((q.toInt32).toInt8.toInt32))), (.int (0 : Int32)), (.int (0 : Int32)), (.int (0 : Int32)), (.int (0 : Int32)), (.int (0 : Int32))] (.int (0 : Int32)) := Arv.set Ar5 q5 S5 N5' H5 G5 (fits_nar_byte _) W5 0 rfl (Nat.le_of_ble_eq_true rfl)
  have k7 : Rch p e below (s₁.setTop (entryFrame m #[(.long q)] 3)) T5 (mkF m 19 #[.val (.long q), .second, .val (.ref b2)] [(.int ((((q.toUInt64 >>> ((8 : Int32) &&& 0x3f).toInt64.toUInt64).toInt64).toInt32).toInt8.toInt32)), (.int (1 : Int32)), (.ref b2)]) := fun tg kg => by
    refine k6 tg ?_
    show Steps p.tables e below (T5.setTop (mkF m 11 #[.val (.long q), .second, .val (.ref b2)] [])) tg
    refine XS.aloadN X5.here hx rfl (hb hby d1_11) rfl rfl ?_
    refine XS.iconst X5.here hx rfl (hb hby d1_12) ?_
    refine XS.lloadN X5.here hx rfl (hb hby d1_13) rfl ?_
    refine XS.bipush X5.here hx rfl (hb hby d1_14) ?_
    show Steps p.tables e below (T5.setTop (mkF m 16 #[.val (.long q), .second, .val (.ref b2)] [(.int (8 : Int32)), (.long q), (.int (1 : Int32)), (.ref b2)])) tg
    refine XS.lushr X5.here hx rfl (hb hby d1_16) rfl ?_
    refine XS.l2i X5.here hx rfl (hb hby d1_17) rfl ?_
    refine XS.i2b X5.here hx rfl (hb hby d1_18) rfl ?_
    exact kg
  obtain ⟨cl8, Ar8, q8, S8, N8', H8, G8⟩ := V5
  have hin8 : ¬ ((1 : Int32) < 0 ∨ cl8.slots.size ≤ ((1 : Int32)).toNatClampNeg) := inb_of S8 ⟨by decide, by decide⟩
  obtain ⟨T8, h8, X8, e8, W8, st8⟩ := stB X5 hx hZ e5 Ar8 (j := (1 : Int32)) hin8 (g := (mkF m 19 #[.val (.long q), .second, .val (.ref b2)] [(.int ((((q.toUInt64 >>> ((8 : Int32) &&& 0x3f).toInt64.toUInt64).toInt64).toInt32).toInt8.toInt32)), (.int (1 : Int32)), (.ref b2)])) rfl rfl (hb hby d1_19)
  have s8 : h8.size = h5.size := W8.size
  have N8 := Fr.snoc X8 N5 (by omega : n0 ≤ b2)
  have k9 : Rch p e below (s₁.setTop (entryFrame m #[(.long q)] 3)) T8 (mkF m 20 #[.val (.long q), .second, .val (.ref b2)] []) := fun tg kg => k7 tg (st8 tg kg)
  have V8 : Arv Z h8 b2 c2 .byte (6 : Int32) [(.int (nar .byte ((q.toInt32).toInt8.toInt32))), (.int (nar .byte ((((q.toUInt64 >>> ((8 : Int32) &&& 0x3f).toInt64.toUInt64).toInt64).toInt32).toInt8.toInt32))), (.int (0 : Int32)), (.int (0 : Int32)), (.int (0 : Int32)), (.int (0 : Int32))] (.int (0 : Int32)) := Arv.set Ar8 q8 S8 N8' H8 G8 (fits_nar_byte _) W8 1 rfl (Nat.le_of_ble_eq_true rfl)
  have k10 : Rch p e below (s₁.setTop (entryFrame m #[(.long q)] 3)) T8 (mkF m 28 #[.val (.long q), .second, .val (.ref b2)] [(.int ((((q.toUInt64 >>> ((16 : Int32) &&& 0x3f).toInt64.toUInt64).toInt64).toInt32).toInt8.toInt32)), (.int (2 : Int32)), (.ref b2)]) := fun tg kg => by
    refine k9 tg ?_
    show Steps p.tables e below (T8.setTop (mkF m 20 #[.val (.long q), .second, .val (.ref b2)] [])) tg
    refine XS.aloadN X8.here hx rfl (hb hby d1_20) rfl rfl ?_
    refine XS.iconst X8.here hx rfl (hb hby d1_21) ?_
    refine XS.lloadN X8.here hx rfl (hb hby d1_22) rfl ?_
    show Steps p.tables e below (T8.setTop (mkF m 23 #[.val (.long q), .second, .val (.ref b2)] [(.long q), (.int (2 : Int32)), (.ref b2)])) tg
    refine XS.bipush X8.here hx rfl (hb hby d1_23) ?_
    refine XS.lushr X8.here hx rfl (hb hby d1_25) rfl ?_
    refine XS.l2i X8.here hx rfl (hb hby d1_26) rfl ?_
    refine XS.i2b X8.here hx rfl (hb hby d1_27) rfl ?_
    exact kg
  obtain ⟨cl11, Ar11, q11, S11, N11', H11, G11⟩ := V8
  have hin11 : ¬ ((2 : Int32) < 0 ∨ cl11.slots.size ≤ ((2 : Int32)).toNatClampNeg) := inb_of S11 ⟨by decide, by decide⟩
  obtain ⟨T11, h11, X11, e11, W11, st11⟩ := stB X8 hx hZ e8 Ar11 (j := (2 : Int32)) hin11 (g := (mkF m 28 #[.val (.long q), .second, .val (.ref b2)] [(.int ((((q.toUInt64 >>> ((16 : Int32) &&& 0x3f).toInt64.toUInt64).toInt64).toInt32).toInt8.toInt32)), (.int (2 : Int32)), (.ref b2)])) rfl rfl (hb hby d1_28)
  have s11 : h11.size = h8.size := W11.size
  have N11 := Fr.snoc X11 N8 (by omega : n0 ≤ b2)
  have k12 : Rch p e below (s₁.setTop (entryFrame m #[(.long q)] 3)) T11 (mkF m 29 #[.val (.long q), .second, .val (.ref b2)] []) := fun tg kg => k10 tg (st11 tg kg)
  have V11 : Arv Z h11 b2 c2 .byte (6 : Int32) [(.int (nar .byte ((q.toInt32).toInt8.toInt32))), (.int (nar .byte ((((q.toUInt64 >>> ((8 : Int32) &&& 0x3f).toInt64.toUInt64).toInt64).toInt32).toInt8.toInt32))), (.int (nar .byte ((((q.toUInt64 >>> ((16 : Int32) &&& 0x3f).toInt64.toUInt64).toInt64).toInt32).toInt8.toInt32))), (.int (0 : Int32)), (.int (0 : Int32)), (.int (0 : Int32))] (.int (0 : Int32)) := Arv.set Ar11 q11 S11 N11' H11 G11 (fits_nar_byte _) W11 2 rfl (Nat.le_of_ble_eq_true rfl)
  have k13 : Rch p e below (s₁.setTop (entryFrame m #[(.long q)] 3)) T11 (mkF m 37 #[.val (.long q), .second, .val (.ref b2)] [(.int ((((q.toUInt64 >>> ((24 : Int32) &&& 0x3f).toInt64.toUInt64).toInt64).toInt32).toInt8.toInt32)), (.int (3 : Int32)), (.ref b2)]) := fun tg kg => by
    refine k12 tg ?_
    show Steps p.tables e below (T11.setTop (mkF m 29 #[.val (.long q), .second, .val (.ref b2)] [])) tg
    refine XS.aloadN X11.here hx rfl (hb hby d1_29) rfl rfl ?_
    refine XS.iconst X11.here hx rfl (hb hby d1_30) ?_
    show Steps p.tables e below (T11.setTop (mkF m 31 #[.val (.long q), .second, .val (.ref b2)] [(.int (3 : Int32)), (.ref b2)])) tg
    refine XS.lloadN X11.here hx rfl (hb hby d1_31) rfl ?_
    refine XS.bipush X11.here hx rfl (hb hby d1_32) ?_
    refine XS.lushr X11.here hx rfl (hb hby d1_34) rfl ?_
    refine XS.l2i X11.here hx rfl (hb hby d1_35) rfl ?_
    refine XS.i2b X11.here hx rfl (hb hby d1_36) rfl ?_
    exact kg
  obtain ⟨cl14, Ar14, q14, S14, N14', H14, G14⟩ := V11
  have hin14 : ¬ ((3 : Int32) < 0 ∨ cl14.slots.size ≤ ((3 : Int32)).toNatClampNeg) := inb_of S14 ⟨by decide, by decide⟩
  obtain ⟨T14, h14, X14, e14, W14, st14⟩ := stB X11 hx hZ e11 Ar14 (j := (3 : Int32)) hin14 (g := (mkF m 37 #[.val (.long q), .second, .val (.ref b2)] [(.int ((((q.toUInt64 >>> ((24 : Int32) &&& 0x3f).toInt64.toUInt64).toInt64).toInt32).toInt8.toInt32)), (.int (3 : Int32)), (.ref b2)])) rfl rfl (hb hby d1_37)
  have s14 : h14.size = h11.size := W14.size
  have N14 := Fr.snoc X14 N11 (by omega : n0 ≤ b2)
  have k15 : Rch p e below (s₁.setTop (entryFrame m #[(.long q)] 3)) T14 (mkF m 38 #[.val (.long q), .second, .val (.ref b2)] []) := fun tg kg => k13 tg (st14 tg kg)
  have V14 : Arv Z h14 b2 c2 .byte (6 : Int32) [(.int (nar .byte ((q.toInt32).toInt8.toInt32))), (.int (nar .byte ((((q.toUInt64 >>> ((8 : Int32) &&& 0x3f).toInt64.toUInt64).toInt64).toInt32).toInt8.toInt32))), (.int (nar .byte ((((q.toUInt64 >>> ((16 : Int32) &&& 0x3f).toInt64.toUInt64).toInt64).toInt32).toInt8.toInt32))), (.int (nar .byte ((((q.toUInt64 >>> ((24 : Int32) &&& 0x3f).toInt64.toUInt64).toInt64).toInt32).toInt8.toInt32))), (.int (0 : Int32)), (.int (0 : Int32))] (.int (0 : Int32)) := Arv.set Ar14 q14 S14 N14' H14 G14 (fits_nar_byte _) W14 3 rfl (Nat.le_of_ble_eq_true rfl)
  have k16 : Rch p e below (s₁.setTop (entryFrame m #[(.long q)] 3)) T14 (mkF m 46 #[.val (.long q), .second, .val (.ref b2)] [(.int ((((q.toUInt64 >>> ((32 : Int32) &&& 0x3f).toInt64.toUInt64).toInt64).toInt32).toInt8.toInt32)), (.int (4 : Int32)), (.ref b2)]) := fun tg kg => by
    refine k15 tg ?_
    show Steps p.tables e below (T14.setTop (mkF m 38 #[.val (.long q), .second, .val (.ref b2)] [])) tg
    refine XS.aloadN X14.here hx rfl (hb hby d1_38) rfl rfl ?_
    show Steps p.tables e below (T14.setTop (mkF m 39 #[.val (.long q), .second, .val (.ref b2)] [(.ref b2)])) tg
    refine XS.iconst X14.here hx rfl (hb hby d1_39) ?_
    refine XS.lloadN X14.here hx rfl (hb hby d1_40) rfl ?_
    refine XS.bipush X14.here hx rfl (hb hby d1_41) ?_
    refine XS.lushr X14.here hx rfl (hb hby d1_43) rfl ?_
    refine XS.l2i X14.here hx rfl (hb hby d1_44) rfl ?_
    refine XS.i2b X14.here hx rfl (hb hby d1_45) rfl ?_
    exact kg
  obtain ⟨cl17, Ar17, q17, S17, N17', H17, G17⟩ := V14
  have hin17 : ¬ ((4 : Int32) < 0 ∨ cl17.slots.size ≤ ((4 : Int32)).toNatClampNeg) := inb_of S17 ⟨by decide, by decide⟩
  obtain ⟨T17, h17, X17, e17, W17, st17⟩ := stB X14 hx hZ e14 Ar17 (j := (4 : Int32)) hin17 (g := (mkF m 46 #[.val (.long q), .second, .val (.ref b2)] [(.int ((((q.toUInt64 >>> ((32 : Int32) &&& 0x3f).toInt64.toUInt64).toInt64).toInt32).toInt8.toInt32)), (.int (4 : Int32)), (.ref b2)])) rfl rfl (hb hby d1_46)
  have s17 : h17.size = h14.size := W17.size
  have N17 := Fr.snoc X17 N14 (by omega : n0 ≤ b2)
  have k18 : Rch p e below (s₁.setTop (entryFrame m #[(.long q)] 3)) T17 (mkF m 47 #[.val (.long q), .second, .val (.ref b2)] []) := fun tg kg => k16 tg (st17 tg kg)
  have V17 : Arv Z h17 b2 c2 .byte (6 : Int32) [(.int (nar .byte ((q.toInt32).toInt8.toInt32))), (.int (nar .byte ((((q.toUInt64 >>> ((8 : Int32) &&& 0x3f).toInt64.toUInt64).toInt64).toInt32).toInt8.toInt32))), (.int (nar .byte ((((q.toUInt64 >>> ((16 : Int32) &&& 0x3f).toInt64.toUInt64).toInt64).toInt32).toInt8.toInt32))), (.int (nar .byte ((((q.toUInt64 >>> ((24 : Int32) &&& 0x3f).toInt64.toUInt64).toInt64).toInt32).toInt8.toInt32))), (.int (nar .byte ((((q.toUInt64 >>> ((32 : Int32) &&& 0x3f).toInt64.toUInt64).toInt64).toInt32).toInt8.toInt32))), (.int (0 : Int32))] (.int (0 : Int32)) := Arv.set Ar17 q17 S17 N17' H17 G17 (fits_nar_byte _) W17 4 rfl (Nat.le_of_ble_eq_true rfl)
  have k19 : Rch p e below (s₁.setTop (entryFrame m #[(.long q)] 3)) T17 (mkF m 55 #[.val (.long q), .second, .val (.ref b2)] [(.int ((((q.toUInt64 >>> ((40 : Int32) &&& 0x3f).toInt64.toUInt64).toInt64).toInt32).toInt8.toInt32)), (.int (5 : Int32)), (.ref b2)]) := fun tg kg => by
    refine k18 tg ?_
    show Steps p.tables e below (T17.setTop (mkF m 47 #[.val (.long q), .second, .val (.ref b2)] [])) tg
    refine XS.aloadN X17.here hx rfl (hb hby d1_47) rfl rfl ?_
    refine XS.iconst X17.here hx rfl (hb hby d1_48) ?_
    refine XS.lloadN X17.here hx rfl (hb hby d1_49) rfl ?_
    refine XS.bipush X17.here hx rfl (hb hby d1_50) ?_
    refine XS.lushr X17.here hx rfl (hb hby d1_52) rfl ?_
    refine XS.l2i X17.here hx rfl (hb hby d1_53) rfl ?_
    show Steps p.tables e below (T17.setTop (mkF m 54 #[.val (.long q), .second, .val (.ref b2)] [(.int (((q.toUInt64 >>> ((40 : Int32) &&& 0x3f).toInt64.toUInt64).toInt64).toInt32)), (.int (5 : Int32)), (.ref b2)])) tg
    refine XS.i2b X17.here hx rfl (hb hby d1_54) rfl ?_
    exact kg
  obtain ⟨cl20, Ar20, q20, S20, N20', H20, G20⟩ := V17
  have hin20 : ¬ ((5 : Int32) < 0 ∨ cl20.slots.size ≤ ((5 : Int32)).toNatClampNeg) := inb_of S20 ⟨by decide, by decide⟩
  obtain ⟨T20, h20, X20, e20, W20, st20⟩ := stB X17 hx hZ e17 Ar20 (j := (5 : Int32)) hin20 (g := (mkF m 55 #[.val (.long q), .second, .val (.ref b2)] [(.int ((((q.toUInt64 >>> ((40 : Int32) &&& 0x3f).toInt64.toUInt64).toInt64).toInt32).toInt8.toInt32)), (.int (5 : Int32)), (.ref b2)])) rfl rfl (hb hby d1_55)
  have s20 : h20.size = h17.size := W20.size
  have N20 := Fr.snoc X20 N17 (by omega : n0 ≤ b2)
  have k21 : Rch p e below (s₁.setTop (entryFrame m #[(.long q)] 3)) T20 (mkF m 56 #[.val (.long q), .second, .val (.ref b2)] []) := fun tg kg => k19 tg (st20 tg kg)
  have V20 : Arv Z h20 b2 c2 .byte (6 : Int32) [(.int (nar .byte ((q.toInt32).toInt8.toInt32))), (.int (nar .byte ((((q.toUInt64 >>> ((8 : Int32) &&& 0x3f).toInt64.toUInt64).toInt64).toInt32).toInt8.toInt32))), (.int (nar .byte ((((q.toUInt64 >>> ((16 : Int32) &&& 0x3f).toInt64.toUInt64).toInt64).toInt32).toInt8.toInt32))), (.int (nar .byte ((((q.toUInt64 >>> ((24 : Int32) &&& 0x3f).toInt64.toUInt64).toInt64).toInt32).toInt8.toInt32))), (.int (nar .byte ((((q.toUInt64 >>> ((32 : Int32) &&& 0x3f).toInt64.toUInt64).toInt64).toInt32).toInt8.toInt32))), (.int (nar .byte ((((q.toUInt64 >>> ((40 : Int32) &&& 0x3f).toInt64.toUInt64).toInt64).toInt32).toInt8.toInt32)))] (.int (0 : Int32)) := Arv.set Ar20 q20 S20 N20' H20 G20 (fits_nar_byte _) W20 5 rfl (Nat.le_of_ble_eq_true rfl)
  have f22 : Arv Z h20 b2 c2 .byte (6 : Int32) (own_dr q) (.int (0 : Int32)) := (by have q1 := V20; simp only [own_nb] at q1; exact q1)
  have k23 : Rch p e below (s₁.setTop (entryFrame m #[(.long q)] 3)) T20 (mkF m 57 #[.val (.long q), .second, .val (.ref b2)] [(.ref b2)]) := fun tg kg => by
    refine k21 tg ?_
    show Steps p.tables e below (T20.setTop (mkF m 56 #[.val (.long q), .second, .val (.ref b2)] [])) tg
    refine XS.aloadN X20.here hx rfl (hb hby d1_56) rfl rfl ?_
    exact kg
  obtain ⟨fs24, hr24, hrun24, hended24, hW24, hsame24⟩ := X20.leave (v := some (.ref b2)) (fun h => by rw [Bd.returns] at h; cases h)
  refine ⟨_, _, k23 _ ?_, hrun24, hended24, _, _, rfl, ?_, ⟨_, rfl⟩, hW24, hsame24.mono (by decide) (by decide)⟩
  · exact retOut X20 hx Bd.returns rfl (Or.inr (Or.inr (Or.inr (Or.inr ⟨rfl, rfl, rfl⟩)))) (hb hby d1_57) hr24
  · show Q_rm_drawn Z q h0 n0 _ T20.heap _
    rw [e20]
    exact ⟨b2, c2, rfl, N20, ((((((((Keep.refl h0 []).ext E2).wr W5 (Or.inr (by omega))).wr W8 (Or.inr (by omega))).wr W11 (Or.inr (by omega))).wr W14 (Or.inr (by omega))).wr W17 (Or.inr (by omega))).wr W20 (Or.inr (by omega))), (by omega), f22⟩
theorem pn_TextLines : plainName "dev/triadic/policy/TextLines" = true := by first | (simp [plainName, overriddenIn]; done) | decide +kernel
theorem ef_rm_tl (m : MethodId) (x0 : Addr) : entryFrame m #[(.ref x0)] 1 = mkF m 0 #[.val (.ref x0)] [] := by first | (simp [entryFrame, mkF, argsToLocals, Value.category]; done) | rfl
def Q_rm_tl (Z : State) (a : Addr) (h0 : Heap) (n0 : Nat) (v : Option Value) (h : Heap) (L : List Loc) : Prop := (v = none) ∧ (Fr n0 L) ∧ (h = h0)
theorem d2_0 : decode prog_75_method_1_code 0 = .ok (.aload_n 0, 1) := by decide +kernel
theorem d2_1 : decode prog_75_method_1_code 1 = .ok (.invokespecial 5, 3) := by decide +kernel
theorem d2_4 : decode prog_75_method_1_code 4 = .ok (.return_, 1) := by decide +kernel
set_option maxRecDepth 65536 in
set_option maxHeartbeats 40000000 in
theorem rm_tl (l : Launch) (Z : State) (a0 : Array Value) (hw : ∀ d ∈ tables_1, d.before a0 Z = true) (ws : List Jvm.Cond) (a : Addr) (h0 : Heap) (n0 : Nat) (Z0 : n0 ≤ h0.size)  :
    Con l Z (⟨"dev/triadic/policy/TextLines", "<init>", "()V"⟩ : MethodName) prog_75_method_1_code 1 none ws ({ frames := 1, cells := 0, slots := 0, locals := 12 } : Room) #[(.ref a)] h0 (Q_rm_tl Z a h0 n0) := by
  refine MetFree.of_bodySF (plainFor_of_name pn_TextLines) hisR ?_
  intro p e s m args below meth c s₁ Bd hml0 hP hK
  obtain ⟨rfl, hZ, hh⟩ := hP
  have hx := Bd.exec
  have hby := Bd.bytes
  have hml : c.maxLocals = 1 := hml0
  have hown : s.vm.findClass "dev/triadic/policy/TextLines" = some m.cls := findClass_of_methodNamed Bd.named
  have hnm := (name_of_methodNamed Bd.named Bd.method).1
  have X0 : Stand p l e ({ frames := 1, cells := 0, slots := 0, locals := 12 } : Room) s m #[(.ref a)] below meth c s₁ [] 0 0 := Stand.of_body Bd
  have e0 : s₁.heap = h0 := by rw [← hh, Bd.state]; rfl
  have N0 := Fr.nil n0
  have k0 : Rch p e below (s₁.setTop (entryFrame m #[(.ref a)] 1)) s₁ (mkF m 0 #[.val (.ref a)] []) := fun tg kg => castTop (ef_rm_tl m a) kg
  have k1 : Rch p e below (s₁.setTop (entryFrame m #[(.ref a)] 1)) s₁ (mkF m 1 #[.val (.ref a)] [(.ref a)]) := fun tg kg => by
    refine k0 tg ?_
    show Steps p.tables e below (s₁.setTop (mkF m 0 #[.val (.ref a)] [])) tg
    refine XS.aloadN X0.here hx rfl (hb hby d2_0) rfl rfl ?_
    exact kg
  obtain ⟨T2, X2, e2, st2⟩ := initO X0 hx hZ hown (hw _ (List.mem_of_getElem? (i := 12) rfl)) (hw _ (List.mem_of_getElem? (i := 13) rfl)) (hw _ (List.mem_of_getElem? (i := 14) rfl)) e0 (g := (mkF m 1 #[.val (.ref a)] [(.ref a)])) rfl (by rw [hml]; rfl) rfl (hb hby d2_1) (by decide) (W := 0) (by show 2 * 0 + _ ≤ _; exact Nat.le_of_eq rfl) (by decide)
  have k3 : Rch p e below (s₁.setTop (entryFrame m #[(.ref a)] 1)) T2 (mkF m 4 #[.val (.ref a)] []) := fun tg kg => k1 tg (st2 tg kg)
  obtain ⟨fs4, hr4, hrun4, hended4, hW4, hsame4⟩ := X2.leave (v := none) (fun _ => rfl)
  refine ⟨_, _, k3 _ ?_, hrun4, hended4, _, _, rfl, ?_, ⟨_, rfl⟩, hW4, hsame4.mono (by decide) (by decide)⟩
  · exact X2.returnOut hx Bd.returns (hb hby d2_4) hr4
  · show Q_rm_tl Z a h0 n0 _ T2.heap _
    rw [e2]
    exact ⟨rfl, N0, rfl⟩
theorem pn_TextLines_Line : plainName "dev/triadic/policy/TextLines$Line" = true := by first | (simp [plainName, overriddenIn]; done) | decide +kernel
theorem ef_rm_line (m : MethodId) (x0 : Addr) (x1 : Addr) (x2 : Int32) (x3 : Int32) (x4 : Int32) : entryFrame m #[(.ref x0), (.ref x1), (.int x2), (.int x3), (.int x4)] 5 = mkF m 0 #[.val (.ref x0), .val (.ref x1), .val (.int x2), .val (.int x3), .val (.int x4)] [] := by first | (simp [entryFrame, mkF, argsToLocals, Value.category]; done) | rfl
def Q_rm_line (Z : State) (a : Addr) (t : Addr) (x1 : Int32) (x2 : Int32) (x3 : Int32) (u0 : Value) (u1 : Value) (u2 : Value) (u3 : Value) (u4 : Value) (u5 : Value) (h0 : Heap) (n0 : Nat) (v : Option Value) (h : Heap) (L : List Loc) : Prop := (v = none) ∧ (Fr n0 L) ∧ (Keep h0 h [a]) ∧ (Exa Z h a "dev/triadic/policy/TextLines$Line") ∧ (Fld Z h a "dev/triadic/policy/TextLines$Line" "bytes" "[B" (.ref t)) ∧ (Fld Z h a "dev/triadic/policy/TextLines$Line" "from" "I" (.int x1)) ∧ (Fld Z h a "dev/triadic/policy/TextLines$Line" "to" "I" (.int x3)) ∧ (Fld Z h a "dev/triadic/policy/TextLines$Line" "before" "Ldev/triadic/policy/TextLines$Line;" u4) ∧ (Fld Z h a "dev/triadic/policy/TextLines$Line" "after" "Ldev/triadic/policy/TextLines$Line;" u5)
theorem d5_0 : decode prog_76_method_1_code 0 = .ok (.aload_n 0, 1) := by decide +kernel
theorem d5_1 : decode prog_76_method_1_code 1 = .ok (.invokespecial 1, 3) := by decide +kernel
theorem d5_4 : decode prog_76_method_1_code 4 = .ok (.aload_n 0, 1) := by decide +kernel
theorem d5_5 : decode prog_76_method_1_code 5 = .ok (.aload_n 1, 1) := by decide +kernel
theorem d5_6 : decode prog_76_method_1_code 6 = .ok (.putfield 7, 3) := by decide +kernel
theorem d5_9 : decode prog_76_method_1_code 9 = .ok (.aload_n 0, 1) := by decide +kernel
theorem d5_10 : decode prog_76_method_1_code 10 = .ok (.iload_n 2, 1) := by decide +kernel
theorem d5_11 : decode prog_76_method_1_code 11 = .ok (.putfield 13, 3) := by decide +kernel
theorem d5_14 : decode prog_76_method_1_code 14 = .ok (.aload_n 0, 1) := by decide +kernel
theorem d5_15 : decode prog_76_method_1_code 15 = .ok (.iload_n 3, 1) := by decide +kernel
theorem d5_16 : decode prog_76_method_1_code 16 = .ok (.putfield 17, 3) := by decide +kernel
theorem d5_19 : decode prog_76_method_1_code 19 = .ok (.aload_n 0, 1) := by decide +kernel
theorem d5_20 : decode prog_76_method_1_code 20 = .ok (.iload 4, 2) := by decide +kernel
theorem d5_22 : decode prog_76_method_1_code 22 = .ok (.putfield 20, 3) := by decide +kernel
theorem d5_25 : decode prog_76_method_1_code 25 = .ok (.return_, 1) := by decide +kernel
set_option maxRecDepth 65536 in
set_option maxHeartbeats 40000000 in
theorem rm_line (l : Launch) (Z : State) (a0 : Array Value) (hw : ∀ d ∈ tables_1, d.before a0 Z = true) (ws : List Jvm.Cond) (a : Addr) (t : Addr) (x1 : Int32) (x2 : Int32) (x3 : Int32) (u0 : Value) (u1 : Value) (u2 : Value) (u3 : Value) (u4 : Value) (u5 : Value) (h0 : Heap) (n0 : Nat) (Z0 : n0 ≤ h0.size) (E_a : Exa Z h0 a "dev/triadic/policy/TextLines$Line") (F_0 : Fld Z h0 a "dev/triadic/policy/TextLines$Line" "bytes" "[B" u0) (F_1 : Fld Z h0 a "dev/triadic/policy/TextLines$Line" "from" "I" u1) (F_2 : Fld Z h0 a "dev/triadic/policy/TextLines$Line" "wordsEnd" "I" u2) (F_3 : Fld Z h0 a "dev/triadic/policy/TextLines$Line" "to" "I" u3) (F_4 : Fld Z h0 a "dev/triadic/policy/TextLines$Line" "before" "Ldev/triadic/policy/TextLines$Line;" u4) (F_5 : Fld Z h0 a "dev/triadic/policy/TextLines$Line" "after" "Ldev/triadic/policy/TextLines$Line;" u5) (g_a : n0 ≤ a) :
    Con l Z (⟨"dev/triadic/policy/TextLines$Line", "<init>", "([BIII)V"⟩ : MethodName) prog_76_method_1_code 5 none ws ({ frames := 1, cells := 0, slots := 0, locals := 12 } : Room) #[(.ref a), (.ref t), (.int x1), (.int x2), (.int x3)] h0 (Q_rm_line Z a t x1 x2 x3 u0 u1 u2 u3 u4 u5 h0 n0) := by
  refine MetFree.of_bodySF (plainFor_of_name pn_TextLines_Line) hisR ?_
  intro p e s m args below meth c s₁ Bd hml0 hP hK
  obtain ⟨rfl, hZ, hh⟩ := hP
  have hx := Bd.exec
  have hby := Bd.bytes
  have hml : c.maxLocals = 5 := hml0
  have hown : s.vm.findClass "dev/triadic/policy/TextLines$Line" = some m.cls := findClass_of_methodNamed Bd.named
  have hnm := (name_of_methodNamed Bd.named Bd.method).1
  have X0 : Stand p l e ({ frames := 1, cells := 0, slots := 0, locals := 12 } : Room) s m #[(.ref a), (.ref t), (.int x1), (.int x2), (.int x3)] below meth c s₁ [] 0 0 := Stand.of_body Bd
  have e0 : s₁.heap = h0 := by rw [← hh, Bd.state]; rfl
  have N0 := Fr.nil n0
  have k0 : Rch p e below (s₁.setTop (entryFrame m #[(.ref a), (.ref t), (.int x1), (.int x2), (.int x3)] 5)) s₁ (mkF m 0 #[.val (.ref a), .val (.ref t), .val (.int x1), .val (.int x2), .val (.int x3)] []) := fun tg kg => castTop (ef_rm_line m a t x1 x2 x3) kg
  have lt_E_a := own_ltN E_a.lt
  have lt_F_0 := own_ltN F_0.lt
  have lt_F_1 := own_ltN F_1.lt
  have lt_F_2 := own_ltN F_2.lt
  have lt_F_3 := own_ltN F_3.lt
  have lt_F_4 := own_ltN F_4.lt
  have lt_F_5 := own_ltN F_5.lt
  have k1 : Rch p e below (s₁.setTop (entryFrame m #[(.ref a), (.ref t), (.int x1), (.int x2), (.int x3)] 5)) s₁ (mkF m 1 #[.val (.ref a), .val (.ref t), .val (.int x1), .val (.int x2), .val (.int x3)] [(.ref a)]) := fun tg kg => by
    refine k0 tg ?_
    show Steps p.tables e below (s₁.setTop (mkF m 0 #[.val (.ref a), .val (.ref t), .val (.int x1), .val (.int x2), .val (.int x3)] [])) tg
    refine XS.aloadN X0.here hx rfl (hb hby d5_0) rfl rfl ?_
    exact kg
  obtain ⟨T2, X2, e2, st2⟩ := initO X0 hx hZ hown (hw _ (List.mem_of_getElem? (i := 26) rfl)) (hw _ (List.mem_of_getElem? (i := 13) rfl)) (hw _ (List.mem_of_getElem? (i := 14) rfl)) e0 (g := (mkF m 1 #[.val (.ref a), .val (.ref t), .val (.int x1), .val (.int x2), .val (.int x3)] [(.ref a)])) rfl (by rw [hml]; rfl) rfl (hb hby d5_1) (by decide) (W := 0) (by show 2 * 0 + _ ≤ _; exact Nat.le_of_eq rfl) (by decide)
  have k3 : Rch p e below (s₁.setTop (entryFrame m #[(.ref a), (.ref t), (.int x1), (.int x2), (.int x3)] 5)) T2 (mkF m 4 #[.val (.ref a), .val (.ref t), .val (.int x1), .val (.int x2), .val (.int x3)] []) := fun tg kg => k1 tg (st2 tg kg)
  have k4 : Rch p e below (s₁.setTop (entryFrame m #[(.ref a), (.ref t), (.int x1), (.int x2), (.int x3)] 5)) T2 (mkF m 6 #[.val (.ref a), .val (.ref t), .val (.int x1), .val (.int x2), .val (.int x3)] [(.ref t), (.ref a)]) := fun tg kg => by
    refine k3 tg ?_
    show Steps p.tables e below (T2.setTop (mkF m 4 #[.val (.ref a), .val (.ref t), .val (.int x1), .val (.int x2), .val (.int x3)] [])) tg
    refine XS.aloadN X2.here hx rfl (hb hby d5_4) rfl rfl ?_
    refine XS.aloadN X2.here hx rfl (hb hby d5_5) rfl rfl ?_
    exact kg
  obtain ⟨T5, h5, X5, e5, W5, st5⟩ := putF X2 hx hZ hown (host := "") (Or.inl (hw _ (List.mem_of_getElem? (i := 27) rfl))) Via.refl e2 F_0 E_a (Or.inl (hw _ (List.mem_of_getElem? (i := 28) rfl))) (hw _ (List.mem_of_getElem? (i := 21) rfl)) (ty := (.array .byte)) (by decide) rfl rfl (g := (mkF m 6 #[.val (.ref a), .val (.ref t), .val (.int x1), .val (.int x2), .val (.int x3)] [(.ref t), (.ref a)])) rfl rfl (hb hby d5_6)
  have Fw5 := F_0.same W5
  have s5 : h5.size = h0.size := W5.size
  have N5 := Fr.snoc X5 N0 (by omega : n0 ≤ a)
  have k6 : Rch p e below (s₁.setTop (entryFrame m #[(.ref a), (.ref t), (.int x1), (.int x2), (.int x3)] 5)) T5 (mkF m 9 #[.val (.ref a), .val (.ref t), .val (.int x1), .val (.int x2), .val (.int x3)] []) := fun tg kg => k4 tg (st5 tg kg)
  have k7 : Rch p e below (s₁.setTop (entryFrame m #[(.ref a), (.ref t), (.int x1), (.int x2), (.int x3)] 5)) T5 (mkF m 11 #[.val (.ref a), .val (.ref t), .val (.int x1), .val (.int x2), .val (.int x3)] [(.int x1), (.ref a)]) := fun tg kg => by
    refine k6 tg ?_
    show Steps p.tables e below (T5.setTop (mkF m 9 #[.val (.ref a), .val (.ref t), .val (.int x1), .val (.int x2), .val (.int x3)] [])) tg
    refine XS.aloadN X5.here hx rfl (hb hby d5_9) rfl rfl ?_
    refine XS.iloadN X5.here hx rfl (hb hby d5_10) rfl ?_
    exact kg
  have f8 : Fld Z h5 a "dev/triadic/policy/TextLines$Line" "from" "I" u1 := (F_1.other W5 (Or.inr (slot_ne (Or.inl (hw _ (List.mem_of_getElem? (i := 30) rfl))) (Or.inl (hw _ (List.mem_of_getElem? (i := 28) rfl))) (by decide) (t := .int) (t' := (.array .byte)) (by decide) (by decide))))
  have f9 : Exa Z h5 a "dev/triadic/policy/TextLines$Line" := (E_a.wr W5)
  obtain ⟨T10, h10, X10, e10, W10, st10⟩ := putF X5 hx hZ hown (host := "") (Or.inl (hw _ (List.mem_of_getElem? (i := 29) rfl))) Via.refl e5 f8 f9 (Or.inl (hw _ (List.mem_of_getElem? (i := 30) rfl))) (hw _ (List.mem_of_getElem? (i := 21) rfl)) (ty := .int) (by decide) rfl rfl (g := (mkF m 11 #[.val (.ref a), .val (.ref t), .val (.int x1), .val (.int x2), .val (.int x3)] [(.int x1), (.ref a)])) rfl rfl (hb hby d5_11)
  have Fw10 := f8.same W10
  have s10 : h10.size = h5.size := W10.size
  have N10 := Fr.snoc X10 N5 (by omega : n0 ≤ a)
  have k11 : Rch p e below (s₁.setTop (entryFrame m #[(.ref a), (.ref t), (.int x1), (.int x2), (.int x3)] 5)) T10 (mkF m 14 #[.val (.ref a), .val (.ref t), .val (.int x1), .val (.int x2), .val (.int x3)] []) := fun tg kg => k7 tg (st10 tg kg)
  have k12 : Rch p e below (s₁.setTop (entryFrame m #[(.ref a), (.ref t), (.int x1), (.int x2), (.int x3)] 5)) T10 (mkF m 16 #[.val (.ref a), .val (.ref t), .val (.int x1), .val (.int x2), .val (.int x3)] [(.int x2), (.ref a)]) := fun tg kg => by
    refine k11 tg ?_
    show Steps p.tables e below (T10.setTop (mkF m 14 #[.val (.ref a), .val (.ref t), .val (.int x1), .val (.int x2), .val (.int x3)] [])) tg
    refine XS.aloadN X10.here hx rfl (hb hby d5_14) rfl rfl ?_
    refine XS.iloadN X10.here hx rfl (hb hby d5_15) rfl ?_
    exact kg
  have f13 : Fld Z h10 a "dev/triadic/policy/TextLines$Line" "wordsEnd" "I" u2 := ((F_2.other W5 (Or.inr (slot_ne (Or.inl (hw _ (List.mem_of_getElem? (i := 32) rfl))) (Or.inl (hw _ (List.mem_of_getElem? (i := 28) rfl))) (by decide) (t := .int) (t' := (.array .byte)) (by decide) (by decide)))).other W10 (Or.inr (slot_ne (Or.inl (hw _ (List.mem_of_getElem? (i := 32) rfl))) (Or.inl (hw _ (List.mem_of_getElem? (i := 30) rfl))) (by decide) (t := .int) (t' := .int) (by decide) (by decide))))
  have f14 : Exa Z h10 a "dev/triadic/policy/TextLines$Line" := (f9.wr W10)
  obtain ⟨T15, h15, X15, e15, W15, st15⟩ := putF X10 hx hZ hown (host := "") (Or.inl (hw _ (List.mem_of_getElem? (i := 31) rfl))) Via.refl e10 f13 f14 (Or.inl (hw _ (List.mem_of_getElem? (i := 32) rfl))) (hw _ (List.mem_of_getElem? (i := 21) rfl)) (ty := .int) (by decide) rfl rfl (g := (mkF m 16 #[.val (.ref a), .val (.ref t), .val (.int x1), .val (.int x2), .val (.int x3)] [(.int x2), (.ref a)])) rfl rfl (hb hby d5_16)
  have Fw15 := f13.same W15
  have s15 : h15.size = h10.size := W15.size
  have N15 := Fr.snoc X15 N10 (by omega : n0 ≤ a)
  have k16 : Rch p e below (s₁.setTop (entryFrame m #[(.ref a), (.ref t), (.int x1), (.int x2), (.int x3)] 5)) T15 (mkF m 19 #[.val (.ref a), .val (.ref t), .val (.int x1), .val (.int x2), .val (.int x3)] []) := fun tg kg => k12 tg (st15 tg kg)
  have k17 : Rch p e below (s₁.setTop (entryFrame m #[(.ref a), (.ref t), (.int x1), (.int x2), (.int x3)] 5)) T15 (mkF m 22 #[.val (.ref a), .val (.ref t), .val (.int x1), .val (.int x2), .val (.int x3)] [(.int x3), (.ref a)]) := fun tg kg => by
    refine k16 tg ?_
    show Steps p.tables e below (T15.setTop (mkF m 19 #[.val (.ref a), .val (.ref t), .val (.int x1), .val (.int x2), .val (.int x3)] [])) tg
    refine XS.aloadN X15.here hx rfl (hb hby d5_19) rfl rfl ?_
    refine XS.iload X15.here hx rfl (hb hby d5_20) rfl ?_
    exact kg
  have f18 : Fld Z h15 a "dev/triadic/policy/TextLines$Line" "to" "I" u3 := (((F_3.other W5 (Or.inr (slot_ne (Or.inl (hw _ (List.mem_of_getElem? (i := 34) rfl))) (Or.inl (hw _ (List.mem_of_getElem? (i := 28) rfl))) (by decide) (t := .int) (t' := (.array .byte)) (by decide) (by decide)))).other W10 (Or.inr (slot_ne (Or.inl (hw _ (List.mem_of_getElem? (i := 34) rfl))) (Or.inl (hw _ (List.mem_of_getElem? (i := 30) rfl))) (by decide) (t := .int) (t' := .int) (by decide) (by decide)))).other W15 (Or.inr (slot_ne (Or.inl (hw _ (List.mem_of_getElem? (i := 34) rfl))) (Or.inl (hw _ (List.mem_of_getElem? (i := 32) rfl))) (by decide) (t := .int) (t' := .int) (by decide) (by decide))))
  have f19 : Exa Z h15 a "dev/triadic/policy/TextLines$Line" := (f14.wr W15)
  obtain ⟨T20, h20, X20, e20, W20, st20⟩ := putF X15 hx hZ hown (host := "") (Or.inl (hw _ (List.mem_of_getElem? (i := 33) rfl))) Via.refl e15 f18 f19 (Or.inl (hw _ (List.mem_of_getElem? (i := 34) rfl))) (hw _ (List.mem_of_getElem? (i := 21) rfl)) (ty := .int) (by decide) rfl rfl (g := (mkF m 22 #[.val (.ref a), .val (.ref t), .val (.int x1), .val (.int x2), .val (.int x3)] [(.int x3), (.ref a)])) rfl rfl (hb hby d5_22)
  have Fw20 := f18.same W20
  have s20 : h20.size = h15.size := W20.size
  have N20 := Fr.snoc X20 N15 (by omega : n0 ≤ a)
  have k21 : Rch p e below (s₁.setTop (entryFrame m #[(.ref a), (.ref t), (.int x1), (.int x2), (.int x3)] 5)) T20 (mkF m 25 #[.val (.ref a), .val (.ref t), .val (.int x1), .val (.int x2), .val (.int x3)] []) := fun tg kg => k17 tg (st20 tg kg)
  have f22 : Exa Z h20 a "dev/triadic/policy/TextLines$Line" := (f19.wr W20)
  have f23 : Fld Z h20 a "dev/triadic/policy/TextLines$Line" "bytes" "[B" (.ref t) := (((Fw5.other W10 (Or.inr (slot_ne (Or.inl (hw _ (List.mem_of_getElem? (i := 28) rfl))) (Or.inl (hw _ (List.mem_of_getElem? (i := 30) rfl))) (by decide) (t := (.array .byte)) (t' := .int) (by decide) (by decide)))).other W15 (Or.inr (slot_ne (Or.inl (hw _ (List.mem_of_getElem? (i := 28) rfl))) (Or.inl (hw _ (List.mem_of_getElem? (i := 32) rfl))) (by decide) (t := (.array .byte)) (t' := .int) (by decide) (by decide)))).other W20 (Or.inr (slot_ne (Or.inl (hw _ (List.mem_of_getElem? (i := 28) rfl))) (Or.inl (hw _ (List.mem_of_getElem? (i := 34) rfl))) (by decide) (t := (.array .byte)) (t' := .int) (by decide) (by decide))))
  have f24 : Fld Z h20 a "dev/triadic/policy/TextLines$Line" "from" "I" (.int x1) := ((Fw10.other W15 (Or.inr (slot_ne (Or.inl (hw _ (List.mem_of_getElem? (i := 30) rfl))) (Or.inl (hw _ (List.mem_of_getElem? (i := 32) rfl))) (by decide) (t := .int) (t' := .int) (by decide) (by decide)))).other W20 (Or.inr (slot_ne (Or.inl (hw _ (List.mem_of_getElem? (i := 30) rfl))) (Or.inl (hw _ (List.mem_of_getElem? (i := 34) rfl))) (by decide) (t := .int) (t' := .int) (by decide) (by decide))))
  have f25 : Fld Z h20 a "dev/triadic/policy/TextLines$Line" "before" "Ldev/triadic/policy/TextLines$Line;" u4 := ((((F_4.other W5 (Or.inr (slot_ne (Or.inl (hw _ (List.mem_of_getElem? (i := 38) rfl))) (Or.inl (hw _ (List.mem_of_getElem? (i := 28) rfl))) (by decide) (t := (.object "dev/triadic/policy/TextLines$Line")) (t' := (.array .byte)) (by decide) (by decide)))).other W10 (Or.inr (slot_ne (Or.inl (hw _ (List.mem_of_getElem? (i := 38) rfl))) (Or.inl (hw _ (List.mem_of_getElem? (i := 30) rfl))) (by decide) (t := (.object "dev/triadic/policy/TextLines$Line")) (t' := .int) (by decide) (by decide)))).other W15 (Or.inr (slot_ne (Or.inl (hw _ (List.mem_of_getElem? (i := 38) rfl))) (Or.inl (hw _ (List.mem_of_getElem? (i := 32) rfl))) (by decide) (t := (.object "dev/triadic/policy/TextLines$Line")) (t' := .int) (by decide) (by decide)))).other W20 (Or.inr (slot_ne (Or.inl (hw _ (List.mem_of_getElem? (i := 38) rfl))) (Or.inl (hw _ (List.mem_of_getElem? (i := 34) rfl))) (by decide) (t := (.object "dev/triadic/policy/TextLines$Line")) (t' := .int) (by decide) (by decide))))
  have f26 : Fld Z h20 a "dev/triadic/policy/TextLines$Line" "after" "Ldev/triadic/policy/TextLines$Line;" u5 := ((((F_5.other W5 (Or.inr (slot_ne (Or.inl (hw _ (List.mem_of_getElem? (i := 48) rfl))) (Or.inl (hw _ (List.mem_of_getElem? (i := 28) rfl))) (by decide) (t := (.object "dev/triadic/policy/TextLines$Line")) (t' := (.array .byte)) (by decide) (by decide)))).other W10 (Or.inr (slot_ne (Or.inl (hw _ (List.mem_of_getElem? (i := 48) rfl))) (Or.inl (hw _ (List.mem_of_getElem? (i := 30) rfl))) (by decide) (t := (.object "dev/triadic/policy/TextLines$Line")) (t' := .int) (by decide) (by decide)))).other W15 (Or.inr (slot_ne (Or.inl (hw _ (List.mem_of_getElem? (i := 48) rfl))) (Or.inl (hw _ (List.mem_of_getElem? (i := 32) rfl))) (by decide) (t := (.object "dev/triadic/policy/TextLines$Line")) (t' := .int) (by decide) (by decide)))).other W20 (Or.inr (slot_ne (Or.inl (hw _ (List.mem_of_getElem? (i := 48) rfl))) (Or.inl (hw _ (List.mem_of_getElem? (i := 34) rfl))) (by decide) (t := (.object "dev/triadic/policy/TextLines$Line")) (t' := .int) (by decide) (by decide))))
  obtain ⟨fs27, hr27, hrun27, hended27, hW27, hsame27⟩ := X20.leave (v := none) (fun _ => rfl)
  refine ⟨_, _, k21 _ ?_, hrun27, hended27, _, _, rfl, ?_, ⟨_, rfl⟩, hW27, hsame27.mono (by decide) (by decide)⟩
  · exact X20.returnOut hx Bd.returns (hb hby d5_25) hr27
  · show Q_rm_line Z a t x1 x2 x3 u0 u1 u2 u3 u4 u5 h0 n0 _ T20.heap _
    rw [e20]
    exact ⟨rfl, N20, (((((Keep.refl h0 [a]).wr W5 (Or.inl (List.mem_of_getElem? (i := 0) rfl))).wr W10 (Or.inl (List.mem_of_getElem? (i := 0) rfl))).wr W15 (Or.inl (List.mem_of_getElem? (i := 0) rfl))).wr W20 (Or.inl (List.mem_of_getElem? (i := 0) rfl))), f22, f23, f24, Fw20, f25, f26⟩
theorem ef_rm_len (m : MethodId) (x0 : Addr) : entryFrame m #[(.ref x0)] 1 = mkF m 0 #[.val (.ref x0)] [] := by first | (simp [entryFrame, mkF, argsToLocals, Value.category]; done) | rfl
def Q_rm_len (Z : State) (a : Addr) (x1 : Int32) (x2 : Int32) (l' : Int32) (h0 : Heap) (n0 : Nat) (v : Option Value) (h : Heap) (L : List Loc) : Prop := (v = some (.int l')) ∧ (Fr n0 L) ∧ (h = h0)
theorem d6_0 : decode prog_76_method_2_code 0 = .ok (.aload_n 0, 1) := by decide +kernel
theorem d6_1 : decode prog_76_method_2_code 1 = .ok (.getfield 20, 3) := by decide +kernel
theorem d6_4 : decode prog_76_method_2_code 4 = .ok (.aload_n 0, 1) := by decide +kernel
theorem d6_5 : decode prog_76_method_2_code 5 = .ok (.getfield 13, 3) := by decide +kernel
theorem d6_8 : decode prog_76_method_2_code 8 = .ok (.isub, 1) := by decide +kernel
theorem d6_9 : decode prog_76_method_2_code 9 = .ok (.ireturn, 1) := by decide +kernel
set_option maxRecDepth 65536 in
set_option maxHeartbeats 40000000 in
theorem rm_len (l : Launch) (Z : State) (a0 : Array Value) (hw : ∀ d ∈ tables_1, d.before a0 Z = true) (ws : List Jvm.Cond) (a : Addr) (x1 : Int32) (x2 : Int32) (l' : Int32) (h0 : Heap) (n0 : Nat) (Z0 : n0 ≤ h0.size) (F_1 : Fld Z h0 a "dev/triadic/policy/TextLines$Line" "from" "I" (.int x1)) (F_2 : Fld Z h0 a "dev/triadic/policy/TextLines$Line" "to" "I" (.int x2)) (hl : x2 - x1 = l') :
    Con l Z (⟨"dev/triadic/policy/TextLines$Line", "length", "()I"⟩ : MethodName) prog_76_method_2_code 1 (some .int) ws ({ frames := 0, cells := 0, slots := 0, locals := 0 } : Room) #[(.ref a)] h0 (Q_rm_len Z a x1 x2 l' h0 n0) := by
  refine MetFree.of_bodySF (plainFor_of_name pn_TextLines_Line) hisR ?_
  intro p e s m args below meth c s₁ Bd hml0 hP hK
  obtain ⟨rfl, hZ, hh⟩ := hP
  have hx := Bd.exec
  have hby := Bd.bytes
  have hml : c.maxLocals = 1 := hml0
  have hown : s.vm.findClass "dev/triadic/policy/TextLines$Line" = some m.cls := findClass_of_methodNamed Bd.named
  have hnm := (name_of_methodNamed Bd.named Bd.method).1
  have X0 : Stand p l e ({ frames := 0, cells := 0, slots := 0, locals := 0 } : Room) s m #[(.ref a)] below meth c s₁ [] 0 0 := Stand.of_body Bd
  have e0 : s₁.heap = h0 := by rw [← hh, Bd.state]; rfl
  have N0 := Fr.nil n0
  have k0 : Rch p e below (s₁.setTop (entryFrame m #[(.ref a)] 1)) s₁ (mkF m 0 #[.val (.ref a)] []) := fun tg kg => castTop (ef_rm_len m a) kg
  have lt_F_1 := own_ltN F_1.lt
  have lt_F_2 := own_ltN F_2.lt
  have k1 : Rch p e below (s₁.setTop (entryFrame m #[(.ref a)] 1)) s₁ (mkF m 1 #[.val (.ref a)] [(.ref a)]) := fun tg kg => by
    refine k0 tg ?_
    show Steps p.tables e below (s₁.setTop (mkF m 0 #[.val (.ref a)] [])) tg
    refine XS.aloadN X0.here hx rfl (hb hby d6_0) rfl rfl ?_
    exact kg
  obtain ⟨T2, X2, e2, st2⟩ := getF X0 hx hZ hown (host := "") (Or.inl (hw _ (List.mem_of_getElem? (i := 33) rfl))) Via.refl e0 F_2 (g := (mkF m 1 #[.val (.ref a)] [(.ref a)])) rfl rfl (hb hby d6_1)
  have k3 : Rch p e below (s₁.setTop (entryFrame m #[(.ref a)] 1)) T2 (mkF m 4 #[.val (.ref a)] [(.int x2)]) := fun tg kg => k1 tg (st2 tg kg)
  have k4 : Rch p e below (s₁.setTop (entryFrame m #[(.ref a)] 1)) T2 (mkF m 5 #[.val (.ref a)] [(.ref a), (.int x2)]) := fun tg kg => by
    refine k3 tg ?_
    show Steps p.tables e below (T2.setTop (mkF m 4 #[.val (.ref a)] [(.int x2)])) tg
    refine XS.aloadN X2.here hx rfl (hb hby d6_4) rfl rfl ?_
    exact kg
  obtain ⟨T5, X5, e5, st5⟩ := getF X2 hx hZ hown (host := "") (Or.inl (hw _ (List.mem_of_getElem? (i := 29) rfl))) Via.refl e2 F_1 (g := (mkF m 5 #[.val (.ref a)] [(.ref a), (.int x2)])) rfl rfl (hb hby d6_5)
  have k6 : Rch p e below (s₁.setTop (entryFrame m #[(.ref a)] 1)) T5 (mkF m 8 #[.val (.ref a)] [(.int x1), (.int x2)]) := fun tg kg => k4 tg (st5 tg kg)
  have k7 : Rch p e below (s₁.setTop (entryFrame m #[(.ref a)] 1)) T5 (mkF m 9 #[.val (.ref a)] [(.int (x2 - x1))]) := fun tg kg => by
    refine k6 tg ?_
    show Steps p.tables e below (T5.setTop (mkF m 8 #[.val (.ref a)] [(.int x1), (.int x2)])) tg
    refine XS.isub X5.here hx rfl (hb hby d6_8) rfl ?_
    exact kg
  obtain ⟨fs8, hr8, hrun8, hended8, hW8, hsame8⟩ := X5.leave (v := some (.int (x2 - x1))) (fun h => by rw [Bd.returns] at h; cases h)
  refine ⟨_, _, k7 _ ?_, hrun8, hended8, _, _, rfl, ?_, ⟨_, rfl⟩, hW8, hsame8.mono (by decide) (by decide)⟩
  · exact retOut X5 hx Bd.returns rfl (Or.inl ⟨rfl, Or.inl rfl, _, rfl⟩) (hb hby d6_9) hr8
  · show Q_rm_len Z a x1 x2 l' h0 n0 _ T5.heap _
    rw [e5]
    exact ⟨(by rw [hl]), N0, rfl⟩
theorem ef_rm_add1 (m : MethodId) (x0 : Addr) (x1 : Addr) (x2 : Int32) (x3 : Int32) (x4 : Int32) : entryFrame m #[(.ref x0), (.ref x1), (.int x2), (.int x3), (.int x4)] 6 = mkF m 0 #[.val (.ref x0), .val (.ref x1), .val (.int x2), .val (.int x3), .val (.int x4), .unset] [] := by first | (simp [entryFrame, mkF, argsToLocals, Value.category]; done) | rfl
def Q_rm_add1 (Z : State) (a : Addr) (t : Addr) (f : Int32) (f2 : Int32) (e2 : Int32) (L0 : Int32) (ln : Int32) (h0 : Heap) (n0 : Nat) (v : Option Value) (h : Heap) (L : List Loc) : Prop := ∃ (b : Addr), (v = some (.ref b)) ∧ (Fr n0 L) ∧ (Keep h0 h [a]) ∧ (h0.size ≤ b) ∧ (Exa Z h a "dev/triadic/policy/TextLines") ∧ (Fld Z h a "dev/triadic/policy/TextLines" "first" "Ldev/triadic/policy/TextLines$Line;" (.ref b)) ∧ (Fld Z h a "dev/triadic/policy/TextLines" "last" "Ldev/triadic/policy/TextLines$Line;" (.ref b)) ∧ (Fld Z h a "dev/triadic/policy/TextLines" "length" "I" (.int (L0 + ln))) ∧ (Exa Z h b "dev/triadic/policy/TextLines$Line") ∧ (Fld Z h b "dev/triadic/policy/TextLines$Line" "bytes" "[B" (.ref t)) ∧ (Fld Z h b "dev/triadic/policy/TextLines$Line" "from" "I" (.int f)) ∧ (Fld Z h b "dev/triadic/policy/TextLines$Line" "to" "I" (.int e2)) ∧ (Fld Z h b "dev/triadic/policy/TextLines$Line" "before" "Ldev/triadic/policy/TextLines$Line;" .null) ∧ (Fld Z h b "dev/triadic/policy/TextLines$Line" "after" "Ldev/triadic/policy/TextLines$Line;" .null)
theorem d4_0 : decode prog_75_method_2_code 0 = .ok (.new 11, 3) := by decide +kernel
theorem d4_3 : decode prog_75_method_2_code 3 = .ok (.dup, 1) := by decide +kernel
theorem d4_4 : decode prog_75_method_2_code 4 = .ok (.aload_n 1, 1) := by decide +kernel
theorem d4_5 : decode prog_75_method_2_code 5 = .ok (.iload_n 2, 1) := by decide +kernel
theorem d4_6 : decode prog_75_method_2_code 6 = .ok (.iload_n 3, 1) := by decide +kernel
theorem d4_7 : decode prog_75_method_2_code 7 = .ok (.iload 4, 2) := by decide +kernel
theorem pd_0 : parseMethodDescriptor "([BIII)V" = some ⟨[(.array .byte), .int, .int, .int], none⟩ := by decide +kernel
theorem d4_9 : decode prog_75_method_2_code 9 = .ok (.invokespecial 13, 3) := by decide +kernel
theorem d4_12 : decode prog_75_method_2_code 12 = .ok (.astore 5, 2) := by decide +kernel
theorem d4_14 : decode prog_75_method_2_code 14 = .ok (.aload 5, 2) := by decide +kernel
theorem d4_16 : decode prog_75_method_2_code 16 = .ok (.aload_n 0, 1) := by decide +kernel
theorem d4_17 : decode prog_75_method_2_code 17 = .ok (.getfield 16, 3) := by decide +kernel
theorem d4_20 : decode prog_75_method_2_code 20 = .ok (.putfield 22, 3) := by decide +kernel
theorem d4_23 : decode prog_75_method_2_code 23 = .ok (.aload_n 0, 1) := by decide +kernel
theorem d4_24 : decode prog_75_method_2_code 24 = .ok (.getfield 16, 3) := by decide +kernel
theorem d4_27 : decode prog_75_method_2_code 27 = .ok (.ifnonnull 12, 3) := by decide +kernel
theorem d4_30 : decode prog_75_method_2_code 30 = .ok (.aload_n 0, 1) := by decide +kernel
theorem d4_31 : decode prog_75_method_2_code 31 = .ok (.aload 5, 2) := by decide +kernel
theorem d4_33 : decode prog_75_method_2_code 33 = .ok (.putfield 25, 3) := by decide +kernel
theorem d4_36 : decode prog_75_method_2_code 36 = .ok (.goto 12, 3) := by decide +kernel
theorem d4_48 : decode prog_75_method_2_code 48 = .ok (.aload_n 0, 1) := by decide +kernel
theorem d4_49 : decode prog_75_method_2_code 49 = .ok (.aload 5, 2) := by decide +kernel
theorem d4_51 : decode prog_75_method_2_code 51 = .ok (.putfield 16, 3) := by decide +kernel
theorem d4_54 : decode prog_75_method_2_code 54 = .ok (.aload_n 0, 1) := by decide +kernel
theorem d4_55 : decode prog_75_method_2_code 55 = .ok (.dup, 1) := by decide +kernel
theorem d4_56 : decode prog_75_method_2_code 56 = .ok (.getfield 31, 3) := by decide +kernel
theorem d4_59 : decode prog_75_method_2_code 59 = .ok (.aload 5, 2) := by decide +kernel
theorem pd_1 : parseMethodDescriptor "()I" = some ⟨[], some .int⟩ := by decide +kernel
theorem d4_61 : decode prog_75_method_2_code 61 = .ok (.invokevirtual 35, 3) := by decide +kernel
theorem d4_64 : decode prog_75_method_2_code 64 = .ok (.iadd, 1) := by decide +kernel
theorem d4_65 : decode prog_75_method_2_code 65 = .ok (.putfield 31, 3) := by decide +kernel
theorem d4_68 : decode prog_75_method_2_code 68 = .ok (.aload 5, 2) := by decide +kernel
theorem d4_70 : decode prog_75_method_2_code 70 = .ok (.areturn, 1) := by decide +kernel
set_option maxRecDepth 65536 in
set_option maxHeartbeats 40000000 in
theorem rm_add1 (l : Launch) (Z : State) (a0 : Array Value) (hw : ∀ d ∈ tables_1, d.before a0 Z = true) (ws : List Jvm.Cond) (a : Addr) (t : Addr) (f : Int32) (f2 : Int32) (e2 : Int32) (L0 : Int32) (ln : Int32) (h0 : Heap) (n0 : Nat) (Z0 : n0 ≤ h0.size) (T_0 : Exa Z h0 a "dev/triadic/policy/TextLines") (T_1 : Fld Z h0 a "dev/triadic/policy/TextLines" "first" "Ldev/triadic/policy/TextLines$Line;" .null) (T_2 : Fld Z h0 a "dev/triadic/policy/TextLines" "last" "Ldev/triadic/policy/TextLines$Line;" .null) (T_3 : Fld Z h0 a "dev/triadic/policy/TextLines" "length" "I" (.int L0)) (hln : e2 - f = ln) (g_a : n0 ≤ a) :
    Con l Z (⟨"dev/triadic/policy/TextLines", "add", "([BIII)Ldev/triadic/policy/TextLines$Line;"⟩ : MethodName) prog_75_method_2_code 6 (some (.object "dev/triadic/policy/TextLines$Line")) ws ({ frames := 2, cells := 1, slots := 6, locals := 29 } : Room) #[(.ref a), (.ref t), (.int f), (.int f2), (.int e2)] h0 (Q_rm_add1 Z a t f f2 e2 L0 ln h0 n0) := by
  refine MetFree.of_bodySF (plainFor_of_name pn_TextLines) hisR ?_
  intro p e s m args below meth c s₁ Bd hml0 hP hK
  obtain ⟨rfl, hZ, hh⟩ := hP
  have hx := Bd.exec
  have hby := Bd.bytes
  have hml : c.maxLocals = 6 := hml0
  have hown : s.vm.findClass "dev/triadic/policy/TextLines" = some m.cls := findClass_of_methodNamed Bd.named
  have hnm := (name_of_methodNamed Bd.named Bd.method).1
  have X0 : Stand p l e ({ frames := 2, cells := 1, slots := 6, locals := 29 } : Room) s m #[(.ref a), (.ref t), (.int f), (.int f2), (.int e2)] below meth c s₁ [] 0 0 := Stand.of_body Bd
  have e0 : s₁.heap = h0 := by rw [← hh, Bd.state]; rfl
  have N0 := Fr.nil n0
  have k0 : Rch p e below (s₁.setTop (entryFrame m #[(.ref a), (.ref t), (.int f), (.int f2), (.int e2)] 6)) s₁ (mkF m 0 #[.val (.ref a), .val (.ref t), .val (.int f), .val (.int f2), .val (.int e2), .unset] []) := fun tg kg => castTop (ef_rm_add1 m a t f f2 e2) kg
  have lt_T_0 := own_ltN T_0.lt
  have lt_T_1 := own_ltN T_1.lt
  have lt_T_2 := own_ltN T_2.lt
  have lt_T_3 := own_ltN T_3.lt
  obtain ⟨T1, h1, X1, e1, E1, A1, D1, -, st1⟩ := newO X0 hx hZ hown (hw _ (List.mem_of_getElem? (i := 20) rfl)) (hw _ (List.mem_of_getElem? (i := 21) rfl)) (hw _ (List.mem_of_getElem? (i := 22) rfl)) e0 (g := (mkF m 0 #[.val (.ref a), .val (.ref t), .val (.int f), .val (.int f2), .val (.int e2), .unset] [])) rfl (hb hby d4_0) (by decide) (by decide)
  obtain ⟨b1, g1⟩ : ∃ z, z = h0.size := ⟨_, rfl⟩
  rw [← g1] at A1 D1 st1
  have s1 : h0.size ≤ h1.size := E1.1
  have lt1 : b1 < h1.size := A1.lt
  have k2 : Rch p e below (s₁.setTop (entryFrame m #[(.ref a), (.ref t), (.int f), (.int f2), (.int e2)] 6)) T1 (mkF m 3 #[.val (.ref a), .val (.ref t), .val (.int f), .val (.int f2), .val (.int e2), .unset] [(.ref b1)]) := fun tg kg => k0 tg (st1 tg kg)
  have F1_bytes : Fld Z h1 b1 "dev/triadic/policy/TextLines$Line" "bytes" "[B" .null := D1 (Or.inl (hw _ (List.mem_of_getElem? (i := 28) rfl))) (ty := (.array .byte)) (by decide)
  have F1_from : Fld Z h1 b1 "dev/triadic/policy/TextLines$Line" "from" "I" (.int (0 : Int32)) := D1 (Or.inl (hw _ (List.mem_of_getElem? (i := 30) rfl))) (ty := .int) (by decide)
  have F1_wordsEnd : Fld Z h1 b1 "dev/triadic/policy/TextLines$Line" "wordsEnd" "I" (.int (0 : Int32)) := D1 (Or.inl (hw _ (List.mem_of_getElem? (i := 32) rfl))) (ty := .int) (by decide)
  have F1_to : Fld Z h1 b1 "dev/triadic/policy/TextLines$Line" "to" "I" (.int (0 : Int32)) := D1 (Or.inl (hw _ (List.mem_of_getElem? (i := 34) rfl))) (ty := .int) (by decide)
  have F1_before : Fld Z h1 b1 "dev/triadic/policy/TextLines$Line" "before" "Ldev/triadic/policy/TextLines$Line;" .null := D1 (Or.inl (hw _ (List.mem_of_getElem? (i := 38) rfl))) (ty := (.object "dev/triadic/policy/TextLines$Line")) (by decide)
  have F1_after : Fld Z h1 b1 "dev/triadic/policy/TextLines$Line" "after" "Ldev/triadic/policy/TextLines$Line;" .null := D1 (Or.inl (hw _ (List.mem_of_getElem? (i := 48) rfl))) (ty := (.object "dev/triadic/policy/TextLines$Line")) (by decide)
  have k3 : Rch p e below (s₁.setTop (entryFrame m #[(.ref a), (.ref t), (.int f), (.int f2), (.int e2)] 6)) T1 (mkF m 9 #[.val (.ref a), .val (.ref t), .val (.int f), .val (.int f2), .val (.int e2), .unset] [(.int e2), (.int f2), (.int f), (.ref t), (.ref b1), (.ref b1)]) := fun tg kg => by
    refine k2 tg ?_
    show Steps p.tables e below (T1.setTop (mkF m 3 #[.val (.ref a), .val (.ref t), .val (.int f), .val (.int f2), .val (.int e2), .unset] [(.ref b1)])) tg
    refine XS.dup X1.here hx rfl (hb hby d4_3) rfl rfl ?_
    refine XS.aloadN X1.here hx rfl (hb hby d4_4) rfl rfl ?_
    refine XS.iloadN X1.here hx rfl (hb hby d4_5) rfl ?_
    refine XS.iloadN X1.here hx rfl (hb hby d4_6) rfl ?_
    refine XS.iload X1.here hx rfl (hb hby d4_7) rfl ?_
    exact kg
  obtain ⟨v4, T4, h4, Lc4, X4, e4, hQ4, st4⟩ := own_callCR X1 hx hZ rfl hown (hw _ (List.mem_of_getElem? (i := 23) rfl)) (hw _ (List.mem_of_getElem? (i := 24) rfl)) (hw _ (List.mem_of_getElem? (i := 22) rfl)) (hw _ (List.mem_of_getElem? (i := 25) rfl)) (by decide) (rm_line l Z a0 hw [] b1 t f f2 e2 .null (.int (0 : Int32)) (.int (0 : Int32)) (.int (0 : Int32)) .null .null h1 n0 (by omega) A1 F1_bytes F1_from F1_wordsEnd F1_to F1_before F1_after (by omega)) e1 (a := b1) (g := (mkF m 9 #[.val (.ref a), .val (.ref t), .val (.int f), .val (.int f2), .val (.int e2), .unset] [(.int e2), (.int f2), (.int f), (.ref t), (.ref b1), (.ref b1)])) rfl (by rw [hml]; rfl) (argsL := [(.ref t), (.int f), (.int f2), (.int e2)]) (rest := [(.ref b1)]) rfl (lenOf pd_0 rfl) rfl (W := 1) (by show 2 * 0 + _ ≤ _; exact Nat.le_of_eq rfl) (hb hby d4_9) (by decide) (by decide) (by decide) (by decide)
  obtain ⟨rfl, Nq4, K4, fq4_3, fq4_4, fq4_5, fq4_6, fq4_7, fq4_8⟩ := hQ4
  have N4 := Fr.app N0 Nq4
  have s4 : h1.size ≤ h4.size := K4.1
  have k5 : Rch p e below (s₁.setTop (entryFrame m #[(.ref a), (.ref t), (.int f), (.int f2), (.int e2)] 6)) T4 (mkF m 12 #[.val (.ref a), .val (.ref t), .val (.int f), .val (.int f2), .val (.int e2), .unset] [(.ref b1)]) := fun tg kg => k3 tg (st4 tg kg)
  have lt_fq4_3 := own_ltN fq4_3.lt
  have lt_fq4_4 := own_ltN fq4_4.lt
  have lt_fq4_5 := own_ltN fq4_5.lt
  have lt_fq4_6 := own_ltN fq4_6.lt
  have lt_fq4_7 := own_ltN fq4_7.lt
  have lt_fq4_8 := own_ltN fq4_8.lt
  have k6 : Rch p e below (s₁.setTop (entryFrame m #[(.ref a), (.ref t), (.int f), (.int f2), (.int e2)] 6)) T4 (mkF m 17 #[.val (.ref a), .val (.ref t), .val (.int f), .val (.int f2), .val (.int e2), .val (.ref b1)] [(.ref a), (.ref b1)]) := fun tg kg => by
    refine k5 tg ?_
    show Steps p.tables e below (T4.setTop (mkF m 12 #[.val (.ref a), .val (.ref t), .val (.int f), .val (.int f2), .val (.int e2), .unset] [(.ref b1)])) tg
    refine XS.astore X4.here hx rfl (hb hby d4_12) rfl rfl (l' := #[.val (.ref a), .val (.ref t), .val (.int f), .val (.int f2), .val (.int e2), .val (.ref b1)]) rfl ?_
    refine XS.aload X4.here hx rfl (hb hby d4_14) rfl rfl ?_
    refine XS.aloadN X4.here hx rfl (hb hby d4_16) rfl rfl ?_
    exact kg
  have f7 : Fld Z h4 a "dev/triadic/policy/TextLines" "last" "Ldev/triadic/policy/TextLines$Line;" .null := ((T_2.ext E1).keep K4 (ninS (by first | exact own_ne (by omega) | assumption | (apply Ne.symm; assumption)) nin0))
  obtain ⟨T8, X8, e8, st8⟩ := getF X4 hx hZ hown (host := "") (Or.inl (hw _ (List.mem_of_getElem? (i := 35) rfl))) Via.refl e4 f7 (g := (mkF m 17 #[.val (.ref a), .val (.ref t), .val (.int f), .val (.int f2), .val (.int e2), .val (.ref b1)] [(.ref a), (.ref b1)])) rfl rfl (hb hby d4_17)
  have k9 : Rch p e below (s₁.setTop (entryFrame m #[(.ref a), (.ref t), (.int f), (.int f2), (.int e2)] 6)) T8 (mkF m 20 #[.val (.ref a), .val (.ref t), .val (.int f), .val (.int f2), .val (.int e2), .val (.ref b1)] [.null, (.ref b1)]) := fun tg kg => k6 tg (st8 tg kg)
  obtain ⟨T10, h10, X10, e10, W10, st10⟩ := own_putFR X8 hx hZ hown (hw _ (List.mem_of_getElem? (i := 37) rfl)) e8 fq4_7 fq4_3 (hw _ (List.mem_of_getElem? (i := 38) rfl)) (hw _ (List.mem_of_getElem? (i := 21) rfl)) (ty := (.object "dev/triadic/policy/TextLines$Line")) (by decide) rfl rfl (g := (mkF m 20 #[.val (.ref a), .val (.ref t), .val (.int f), .val (.int f2), .val (.int e2), .val (.ref b1)] [.null, (.ref b1)])) rfl rfl (hb hby d4_20)
  have Fw10 := fq4_7.same W10
  have s10 : h10.size = h4.size := W10.size
  have N10 := Fr.snoc X10 N4 (by omega : n0 ≤ b1)
  have k11 : Rch p e below (s₁.setTop (entryFrame m #[(.ref a), (.ref t), (.int f), (.int f2), (.int e2)] 6)) T10 (mkF m 23 #[.val (.ref a), .val (.ref t), .val (.int f), .val (.int f2), .val (.int e2), .val (.ref b1)] []) := fun tg kg => k9 tg (st10 tg kg)
  have k12 : Rch p e below (s₁.setTop (entryFrame m #[(.ref a), (.ref t), (.int f), (.int f2), (.int e2)] 6)) T10 (mkF m 24 #[.val (.ref a), .val (.ref t), .val (.int f), .val (.int f2), .val (.int e2), .val (.ref b1)] [(.ref a)]) := fun tg kg => by
    refine k11 tg ?_
    show Steps p.tables e below (T10.setTop (mkF m 23 #[.val (.ref a), .val (.ref t), .val (.int f), .val (.int f2), .val (.int e2), .val (.ref b1)] [])) tg
    refine XS.aloadN X10.here hx rfl (hb hby d4_23) rfl rfl ?_
    exact kg
  have f13 : Fld Z h10 a "dev/triadic/policy/TextLines" "last" "Ldev/triadic/policy/TextLines$Line;" .null := (f7.other W10 (Or.inl (by first | exact own_ne (by omega) | assumption | (apply Ne.symm; assumption))))
  obtain ⟨T14, X14, e14, st14⟩ := getF X10 hx hZ hown (host := "") (Or.inl (hw _ (List.mem_of_getElem? (i := 35) rfl))) Via.refl e10 f13 (g := (mkF m 24 #[.val (.ref a), .val (.ref t), .val (.int f), .val (.int f2), .val (.int e2), .val (.ref b1)] [(.ref a)])) rfl rfl (hb hby d4_24)
  have k15 : Rch p e below (s₁.setTop (entryFrame m #[(.ref a), (.ref t), (.int f), (.int f2), (.int e2)] 6)) T14 (mkF m 27 #[.val (.ref a), .val (.ref t), .val (.int f), .val (.int f2), .val (.int e2), .val (.ref b1)] [.null]) := fun tg kg => k12 tg (st14 tg kg)
  have k16 : Rch p e below (s₁.setTop (entryFrame m #[(.ref a), (.ref t), (.int f), (.int f2), (.int e2)] 6)) T14 (mkF m 33 #[.val (.ref a), .val (.ref t), .val (.int f), .val (.int f2), .val (.int e2), .val (.ref b1)] [(.ref b1), (.ref a)]) := fun tg kg => by
    refine k15 tg ?_
    show Steps p.tables e below (T14.setTop (mkF m 27 #[.val (.ref a), .val (.ref t), .val (.int f), .val (.int f2), .val (.int e2), .val (.ref b1)] [.null])) tg
    refine XS.ifnonnullNo X14.here hx rfl (hb hby d4_27) rfl ?_
    refine XS.aloadN X14.here hx rfl (hb hby d4_30) rfl rfl ?_
    show Steps p.tables e below (T14.setTop (mkF m 31 #[.val (.ref a), .val (.ref t), .val (.int f), .val (.int f2), .val (.int e2), .val (.ref b1)] [(.ref a)])) tg
    refine XS.aload X14.here hx rfl (hb hby d4_31) rfl rfl ?_
    exact kg
  have f17 : Fld Z h10 a "dev/triadic/policy/TextLines" "first" "Ldev/triadic/policy/TextLines$Line;" .null := (((T_1.ext E1).keep K4 (ninS (by first | exact own_ne (by omega) | assumption | (apply Ne.symm; assumption)) nin0)).other W10 (Or.inl (by first | exact own_ne (by omega) | assumption | (apply Ne.symm; assumption))))
  have f18 : Exa Z h10 a "dev/triadic/policy/TextLines" := (((T_0.ext E1).keep K4).wr W10)
  obtain ⟨T19, h19, X19, e19, W19, st19⟩ := putF X14 hx hZ hown (host := "") (Or.inl (hw _ (List.mem_of_getElem? (i := 39) rfl))) Via.refl e14 f17 f18 (Or.inl (hw _ (List.mem_of_getElem? (i := 40) rfl))) (hw _ (List.mem_of_getElem? (i := 7) rfl)) (ty := (.object "dev/triadic/policy/TextLines$Line")) (by decide) rfl rfl (g := (mkF m 33 #[.val (.ref a), .val (.ref t), .val (.int f), .val (.int f2), .val (.int e2), .val (.ref b1)] [(.ref b1), (.ref a)])) rfl rfl (hb hby d4_33)
  have Fw19 := f17.same W19
  have s19 : h19.size = h10.size := W19.size
  have N19 := Fr.snoc X19 N10 (by omega : n0 ≤ a)
  have k20 : Rch p e below (s₁.setTop (entryFrame m #[(.ref a), (.ref t), (.int f), (.int f2), (.int e2)] 6)) T19 (mkF m 36 #[.val (.ref a), .val (.ref t), .val (.int f), .val (.int f2), .val (.int e2), .val (.ref b1)] []) := fun tg kg => k16 tg (st19 tg kg)
  have k21 : Rch p e below (s₁.setTop (entryFrame m #[(.ref a), (.ref t), (.int f), (.int f2), (.int e2)] 6)) T19 (mkF m 51 #[.val (.ref a), .val (.ref t), .val (.int f), .val (.int f2), .val (.int e2), .val (.ref b1)] [(.ref b1), (.ref a)]) := fun tg kg => by
    refine k20 tg ?_
    show Steps p.tables e below (T19.setTop (mkF m 36 #[.val (.ref a), .val (.ref t), .val (.int f), .val (.int f2), .val (.int e2), .val (.ref b1)] [])) tg
    refine XS.goto X19.here hx rfl (pc0 := 36) (pc' := 48) rfl (hb hby d4_36) (by decide) (by decide) ?_
    refine XS.aloadN X19.here hx rfl (hb hby d4_48) rfl rfl ?_
    refine XS.aload X19.here hx rfl (hb hby d4_49) rfl rfl ?_
    exact kg
  have f22 : Fld Z h19 a "dev/triadic/policy/TextLines" "last" "Ldev/triadic/policy/TextLines$Line;" .null := (f13.other W19 (Or.inr (slot_ne (Or.inl (hw _ (List.mem_of_getElem? (i := 36) rfl))) (Or.inl (hw _ (List.mem_of_getElem? (i := 40) rfl))) (by decide) (t := (.object "dev/triadic/policy/TextLines$Line")) (t' := (.object "dev/triadic/policy/TextLines$Line")) (by decide) (by decide))))
  have f23 : Exa Z h19 a "dev/triadic/policy/TextLines" := (f18.wr W19)
  obtain ⟨T24, h24, X24, e24, W24, st24⟩ := putF X19 hx hZ hown (host := "") (Or.inl (hw _ (List.mem_of_getElem? (i := 35) rfl))) Via.refl e19 f22 f23 (Or.inl (hw _ (List.mem_of_getElem? (i := 36) rfl))) (hw _ (List.mem_of_getElem? (i := 7) rfl)) (ty := (.object "dev/triadic/policy/TextLines$Line")) (by decide) rfl rfl (g := (mkF m 51 #[.val (.ref a), .val (.ref t), .val (.int f), .val (.int f2), .val (.int e2), .val (.ref b1)] [(.ref b1), (.ref a)])) rfl rfl (hb hby d4_51)
  have Fw24 := f22.same W24
  have s24 : h24.size = h19.size := W24.size
  have N24 := Fr.snoc X24 N19 (by omega : n0 ≤ a)
  have k25 : Rch p e below (s₁.setTop (entryFrame m #[(.ref a), (.ref t), (.int f), (.int f2), (.int e2)] 6)) T24 (mkF m 54 #[.val (.ref a), .val (.ref t), .val (.int f), .val (.int f2), .val (.int e2), .val (.ref b1)] []) := fun tg kg => k21 tg (st24 tg kg)
  have k26 : Rch p e below (s₁.setTop (entryFrame m #[(.ref a), (.ref t), (.int f), (.int f2), (.int e2)] 6)) T24 (mkF m 56 #[.val (.ref a), .val (.ref t), .val (.int f), .val (.int f2), .val (.int e2), .val (.ref b1)] [(.ref a), (.ref a)]) := fun tg kg => by
    refine k25 tg ?_
    show Steps p.tables e below (T24.setTop (mkF m 54 #[.val (.ref a), .val (.ref t), .val (.int f), .val (.int f2), .val (.int e2), .val (.ref b1)] [])) tg
    refine XS.aloadN X24.here hx rfl (hb hby d4_54) rfl rfl ?_
    refine XS.dup X24.here hx rfl (hb hby d4_55) rfl rfl ?_
    exact kg
  have f27 : Fld Z h24 a "dev/triadic/policy/TextLines" "length" "I" (.int L0) := (((((T_3.ext E1).keep K4 (ninS (by first | exact own_ne (by omega) | assumption | (apply Ne.symm; assumption)) nin0)).other W10 (Or.inl (by first | exact own_ne (by omega) | assumption | (apply Ne.symm; assumption)))).other W19 (Or.inr (slot_ne (Or.inl (hw _ (List.mem_of_getElem? (i := 42) rfl))) (Or.inl (hw _ (List.mem_of_getElem? (i := 40) rfl))) (by decide) (t := .int) (t' := (.object "dev/triadic/policy/TextLines$Line")) (by decide) (by decide)))).other W24 (Or.inr (slot_ne (Or.inl (hw _ (List.mem_of_getElem? (i := 42) rfl))) (Or.inl (hw _ (List.mem_of_getElem? (i := 36) rfl))) (by decide) (t := .int) (t' := (.object "dev/triadic/policy/TextLines$Line")) (by decide) (by decide))))
  obtain ⟨T28, X28, e28, st28⟩ := getF X24 hx hZ hown (host := "") (Or.inl (hw _ (List.mem_of_getElem? (i := 41) rfl))) Via.refl e24 f27 (g := (mkF m 56 #[.val (.ref a), .val (.ref t), .val (.int f), .val (.int f2), .val (.int e2), .val (.ref b1)] [(.ref a), (.ref a)])) rfl rfl (hb hby d4_56)
  have k29 : Rch p e below (s₁.setTop (entryFrame m #[(.ref a), (.ref t), (.int f), (.int f2), (.int e2)] 6)) T28 (mkF m 59 #[.val (.ref a), .val (.ref t), .val (.int f), .val (.int f2), .val (.int e2), .val (.ref b1)] [(.int L0), (.ref a)]) := fun tg kg => k26 tg (st28 tg kg)
  have k30 : Rch p e below (s₁.setTop (entryFrame m #[(.ref a), (.ref t), (.int f), (.int f2), (.int e2)] 6)) T28 (mkF m 61 #[.val (.ref a), .val (.ref t), .val (.int f), .val (.int f2), .val (.int e2), .val (.ref b1)] [(.ref b1), (.int L0), (.ref a)]) := fun tg kg => by
    refine k29 tg ?_
    show Steps p.tables e below (T28.setTop (mkF m 59 #[.val (.ref a), .val (.ref t), .val (.int f), .val (.int f2), .val (.int e2), .val (.ref b1)] [(.int L0), (.ref a)])) tg
    refine XS.aload X28.here hx rfl (hb hby d4_59) rfl rfl ?_
    exact kg
  have f32 : Fld Z h24 b1 "dev/triadic/policy/TextLines$Line" "from" "I" (.int f) := (((fq4_5.other W10 (Or.inr (slot_ne (Or.inl (hw _ (List.mem_of_getElem? (i := 30) rfl))) (Or.inl (hw _ (List.mem_of_getElem? (i := 38) rfl))) (by decide) (t := .int) (t' := (.object "dev/triadic/policy/TextLines$Line")) (by decide) (by decide)))).other W19 (Or.inl (by first | exact own_ne (by omega) | assumption | (apply Ne.symm; assumption)))).other W24 (Or.inl (by first | exact own_ne (by omega) | assumption | (apply Ne.symm; assumption))))
  have f33 : Fld Z h24 b1 "dev/triadic/policy/TextLines$Line" "to" "I" (.int e2) := (((fq4_6.other W10 (Or.inr (slot_ne (Or.inl (hw _ (List.mem_of_getElem? (i := 34) rfl))) (Or.inl (hw _ (List.mem_of_getElem? (i := 38) rfl))) (by decide) (t := .int) (t' := (.object "dev/triadic/policy/TextLines$Line")) (by decide) (by decide)))).other W19 (Or.inl (by first | exact own_ne (by omega) | assumption | (apply Ne.symm; assumption)))).other W24 (Or.inl (by first | exact own_ne (by omega) | assumption | (apply Ne.symm; assumption))))
  have f34 : Exa Z h24 b1 "dev/triadic/policy/TextLines$Line" := (((fq4_3.wr W10).wr W19).wr W24)
  obtain ⟨v31, T31, h31, Lc31, X31, e31, hQ31, st31⟩ := own_callPR X28 hx hZ hown (hw _ (List.mem_of_getElem? (i := 43) rfl)) (hw _ (List.mem_of_getElem? (i := 44) rfl)) (hw _ (List.mem_of_getElem? (i := 45) rfl)) (hw _ (List.mem_of_getElem? (i := 21) rfl)) (hw _ (List.mem_of_getElem? (i := 22) rfl)) (hw _ (List.mem_of_getElem? (i := 46) rfl)) (by decide) (rm_len l Z a0 hw [] b1 f e2 ln h24 n0 (by omega) f32 f33 hln) e28 f34 (g := (mkF m 61 #[.val (.ref a), .val (.ref t), .val (.int f), .val (.int f2), .val (.int e2), .val (.ref b1)] [(.ref b1), (.int L0), (.ref a)])) rfl (by rw [hml]; rfl) (argsL := []) (rest := [(.int L0), (.ref a)]) rfl (lenOf pd_1 rfl) rfl (W := 2) (by show 2 * 0 + _ ≤ _; exact Nat.le_of_eq rfl) (hb hby d4_61) (by decide) (by decide) (by decide) (by decide)
  obtain ⟨rfl, Nq31, hs31⟩ := hQ31
  have N31 := Fr.app N24 Nq31
  have e31' : T31.heap = h24 := e31.trans hs31
  have k35 : Rch p e below (s₁.setTop (entryFrame m #[(.ref a), (.ref t), (.int f), (.int f2), (.int e2)] 6)) T31 (mkF m 64 #[.val (.ref a), .val (.ref t), .val (.int f), .val (.int f2), .val (.int e2), .val (.ref b1)] [(.int ln), (.int L0), (.ref a)]) := fun tg kg => k30 tg (st31 tg kg)
  have k36 : Rch p e below (s₁.setTop (entryFrame m #[(.ref a), (.ref t), (.int f), (.int f2), (.int e2)] 6)) T31 (mkF m 65 #[.val (.ref a), .val (.ref t), .val (.int f), .val (.int f2), .val (.int e2), .val (.ref b1)] [(.int (L0 + ln)), (.ref a)]) := fun tg kg => by
    refine k35 tg ?_
    show Steps p.tables e below (T31.setTop (mkF m 64 #[.val (.ref a), .val (.ref t), .val (.int f), .val (.int f2), .val (.int e2), .val (.ref b1)] [(.int ln), (.int L0), (.ref a)])) tg
    refine XS.iadd X31.here hx rfl (hb hby d4_64) rfl ?_
    exact kg
  have f37 : Exa Z h24 a "dev/triadic/policy/TextLines" := (f23.wr W24)
  obtain ⟨T38, h38, X38, e38, W38, st38⟩ := putF X31 hx hZ hown (host := "") (Or.inl (hw _ (List.mem_of_getElem? (i := 41) rfl))) Via.refl e31' f27 f37 (Or.inl (hw _ (List.mem_of_getElem? (i := 42) rfl))) (hw _ (List.mem_of_getElem? (i := 7) rfl)) (ty := .int) (by decide) rfl rfl (g := (mkF m 65 #[.val (.ref a), .val (.ref t), .val (.int f), .val (.int f2), .val (.int e2), .val (.ref b1)] [(.int (L0 + ln)), (.ref a)])) rfl rfl (hb hby d4_65)
  have Fw38 := f27.same W38
  have s38 : h38.size = h24.size := W38.size
  have N38 := Fr.snoc X38 N31 (by omega : n0 ≤ a)
  have k39 : Rch p e below (s₁.setTop (entryFrame m #[(.ref a), (.ref t), (.int f), (.int f2), (.int e2)] 6)) T38 (mkF m 68 #[.val (.ref a), .val (.ref t), .val (.int f), .val (.int f2), .val (.int e2), .val (.ref b1)] []) := fun tg kg => k36 tg (st38 tg kg)
  have k40 : Rch p e below (s₁.setTop (entryFrame m #[(.ref a), (.ref t), (.int f), (.int f2), (.int e2)] 6)) T38 (mkF m 70 #[.val (.ref a), .val (.ref t), .val (.int f), .val (.int f2), .val (.int e2), .val (.ref b1)] [(.ref b1)]) := fun tg kg => by
    refine k39 tg ?_
    show Steps p.tables e below (T38.setTop (mkF m 68 #[.val (.ref a), .val (.ref t), .val (.int f), .val (.int f2), .val (.int e2), .val (.ref b1)] [])) tg
    refine XS.aload X38.here hx rfl (hb hby d4_68) rfl rfl ?_
    exact kg
  have f41 : Exa Z h38 a "dev/triadic/policy/TextLines" := (f37.wr W38)
  have f42 : Fld Z h38 a "dev/triadic/policy/TextLines" "first" "Ldev/triadic/policy/TextLines$Line;" (.ref b1) := ((Fw19.other W24 (Or.inr (slot_ne (Or.inl (hw _ (List.mem_of_getElem? (i := 40) rfl))) (Or.inl (hw _ (List.mem_of_getElem? (i := 36) rfl))) (by decide) (t := (.object "dev/triadic/policy/TextLines$Line")) (t' := (.object "dev/triadic/policy/TextLines$Line")) (by decide) (by decide)))).other W38 (Or.inr (slot_ne (Or.inl (hw _ (List.mem_of_getElem? (i := 40) rfl))) (Or.inl (hw _ (List.mem_of_getElem? (i := 42) rfl))) (by decide) (t := (.object "dev/triadic/policy/TextLines$Line")) (t' := .int) (by decide) (by decide))))
  have f43 : Fld Z h38 a "dev/triadic/policy/TextLines" "last" "Ldev/triadic/policy/TextLines$Line;" (.ref b1) := (Fw24.other W38 (Or.inr (slot_ne (Or.inl (hw _ (List.mem_of_getElem? (i := 36) rfl))) (Or.inl (hw _ (List.mem_of_getElem? (i := 42) rfl))) (by decide) (t := (.object "dev/triadic/policy/TextLines$Line")) (t' := .int) (by decide) (by decide))))
  have f44 : Exa Z h38 b1 "dev/triadic/policy/TextLines$Line" := (f34.wr W38)
  have f45 : Fld Z h38 b1 "dev/triadic/policy/TextLines$Line" "bytes" "[B" (.ref t) := ((((fq4_4.other W10 (Or.inr (slot_ne (Or.inl (hw _ (List.mem_of_getElem? (i := 28) rfl))) (Or.inl (hw _ (List.mem_of_getElem? (i := 38) rfl))) (by decide) (t := (.array .byte)) (t' := (.object "dev/triadic/policy/TextLines$Line")) (by decide) (by decide)))).other W19 (Or.inl (by first | exact own_ne (by omega) | assumption | (apply Ne.symm; assumption)))).other W24 (Or.inl (by first | exact own_ne (by omega) | assumption | (apply Ne.symm; assumption)))).other W38 (Or.inl (by first | exact own_ne (by omega) | assumption | (apply Ne.symm; assumption))))
  have f46 : Fld Z h38 b1 "dev/triadic/policy/TextLines$Line" "from" "I" (.int f) := (f32.other W38 (Or.inl (by first | exact own_ne (by omega) | assumption | (apply Ne.symm; assumption))))
  have f47 : Fld Z h38 b1 "dev/triadic/policy/TextLines$Line" "to" "I" (.int e2) := (f33.other W38 (Or.inl (by first | exact own_ne (by omega) | assumption | (apply Ne.symm; assumption))))
  have f48 : Fld Z h38 b1 "dev/triadic/policy/TextLines$Line" "before" "Ldev/triadic/policy/TextLines$Line;" .null := (((Fw10.other W19 (Or.inl (by first | exact own_ne (by omega) | assumption | (apply Ne.symm; assumption)))).other W24 (Or.inl (by first | exact own_ne (by omega) | assumption | (apply Ne.symm; assumption)))).other W38 (Or.inl (by first | exact own_ne (by omega) | assumption | (apply Ne.symm; assumption))))
  have f49 : Fld Z h38 b1 "dev/triadic/policy/TextLines$Line" "after" "Ldev/triadic/policy/TextLines$Line;" .null := ((((fq4_8.other W10 (Or.inr (slot_ne (Or.inl (hw _ (List.mem_of_getElem? (i := 48) rfl))) (Or.inl (hw _ (List.mem_of_getElem? (i := 38) rfl))) (by decide) (t := (.object "dev/triadic/policy/TextLines$Line")) (t' := (.object "dev/triadic/policy/TextLines$Line")) (by decide) (by decide)))).other W19 (Or.inl (by first | exact own_ne (by omega) | assumption | (apply Ne.symm; assumption)))).other W24 (Or.inl (by first | exact own_ne (by omega) | assumption | (apply Ne.symm; assumption)))).other W38 (Or.inl (by first | exact own_ne (by omega) | assumption | (apply Ne.symm; assumption))))
  obtain ⟨fs50, hr50, hrun50, hended50, hW50, hsame50⟩ := X38.leave (v := some (.ref b1)) (fun h => by rw [Bd.returns] at h; cases h)
  refine ⟨_, _, k40 _ ?_, hrun50, hended50, _, _, rfl, ?_, ⟨_, rfl⟩, hW50, hsame50.mono (by decide) (by decide)⟩
  · exact retOut X38 hx Bd.returns rfl (Or.inr (Or.inr (Or.inr (Or.inr ⟨rfl, rfl, rfl⟩)))) (hb hby d4_70) hr50
  · show Q_rm_add1 Z a t f f2 e2 L0 ln h0 n0 _ T38.heap _
    rw [e38]
    exact ⟨b1, rfl, N38, (((((((Keep.refl h0 [a]).ext E1).trans K4 (allS (Or.inr (by omega)) all0)).wr W10 (Or.inr (by omega))).wr W19 (Or.inl (List.mem_of_getElem? (i := 0) rfl))).wr W24 (Or.inl (List.mem_of_getElem? (i := 0) rfl))).wr W38 (Or.inl (List.mem_of_getElem? (i := 0) rfl))), (by omega), f41, f42, f43, Fw38, f44, f45, f46, f47, f48, f49⟩
theorem ef_rm_add2 (m : MethodId) (x0 : Addr) (x1 : Addr) (x2 : Int32) (x3 : Int32) (x4 : Int32) : entryFrame m #[(.ref x0), (.ref x1), (.int x2), (.int x3), (.int x4)] 6 = mkF m 0 #[.val (.ref x0), .val (.ref x1), .val (.int x2), .val (.int x3), .val (.int x4), .unset] [] := by first | (simp [entryFrame, mkF, argsToLocals, Value.category]; done) | rfl
def Q_rm_add2 (Z : State) (a : Addr) (t : Addr) (f : Int32) (f2 : Int32) (e2 : Int32) (L0 : Int32) (ln : Int32) (p1 : Addr) (p2 : Addr) (tp : Addr) (fp : Int32) (ep : Int32) (bp : Value) (h0 : Heap) (n0 : Nat) (v : Option Value) (h : Heap) (L : List Loc) : Prop := ∃ (b : Addr), (v = some (.ref b)) ∧ (Fr n0 L) ∧ (Keep h0 h [a, p2]) ∧ (h0.size ≤ b) ∧ (Exa Z h a "dev/triadic/policy/TextLines") ∧ (Fld Z h a "dev/triadic/policy/TextLines" "first" "Ldev/triadic/policy/TextLines$Line;" (.ref p1)) ∧ (Fld Z h a "dev/triadic/policy/TextLines" "last" "Ldev/triadic/policy/TextLines$Line;" (.ref b)) ∧ (Fld Z h a "dev/triadic/policy/TextLines" "length" "I" (.int (L0 + ln))) ∧ (Exa Z h b "dev/triadic/policy/TextLines$Line") ∧ (Fld Z h b "dev/triadic/policy/TextLines$Line" "bytes" "[B" (.ref t)) ∧ (Fld Z h b "dev/triadic/policy/TextLines$Line" "from" "I" (.int f)) ∧ (Fld Z h b "dev/triadic/policy/TextLines$Line" "to" "I" (.int e2)) ∧ (Fld Z h b "dev/triadic/policy/TextLines$Line" "before" "Ldev/triadic/policy/TextLines$Line;" (.ref p2)) ∧ (Fld Z h b "dev/triadic/policy/TextLines$Line" "after" "Ldev/triadic/policy/TextLines$Line;" .null) ∧ (Exa Z h p2 "dev/triadic/policy/TextLines$Line") ∧ (Fld Z h p2 "dev/triadic/policy/TextLines$Line" "bytes" "[B" (.ref tp)) ∧ (Fld Z h p2 "dev/triadic/policy/TextLines$Line" "from" "I" (.int fp)) ∧ (Fld Z h p2 "dev/triadic/policy/TextLines$Line" "to" "I" (.int ep)) ∧ (Fld Z h p2 "dev/triadic/policy/TextLines$Line" "before" "Ldev/triadic/policy/TextLines$Line;" bp) ∧ (Fld Z h p2 "dev/triadic/policy/TextLines$Line" "after" "Ldev/triadic/policy/TextLines$Line;" (.ref b))
theorem d4_39 : decode prog_75_method_2_code 39 = .ok (.aload_n 0, 1) := by decide +kernel
theorem d4_40 : decode prog_75_method_2_code 40 = .ok (.getfield 16, 3) := by decide +kernel
theorem d4_43 : decode prog_75_method_2_code 43 = .ok (.aload 5, 2) := by decide +kernel
theorem d4_45 : decode prog_75_method_2_code 45 = .ok (.putfield 28, 3) := by decide +kernel
set_option maxRecDepth 65536 in
set_option maxHeartbeats 40000000 in
theorem rm_add2 (l : Launch) (Z : State) (a0 : Array Value) (hw : ∀ d ∈ tables_1, d.before a0 Z = true) (ws : List Jvm.Cond) (a : Addr) (t : Addr) (f : Int32) (f2 : Int32) (e2 : Int32) (L0 : Int32) (ln : Int32) (p1 : Addr) (p2 : Addr) (tp : Addr) (fp : Int32) (ep : Int32) (bp : Value) (h0 : Heap) (n0 : Nat) (Z0 : n0 ≤ h0.size) (T_0 : Exa Z h0 a "dev/triadic/policy/TextLines") (T_1 : Fld Z h0 a "dev/triadic/policy/TextLines" "first" "Ldev/triadic/policy/TextLines$Line;" (.ref p1)) (T_2 : Fld Z h0 a "dev/triadic/policy/TextLines" "last" "Ldev/triadic/policy/TextLines$Line;" (.ref p2)) (T_3 : Fld Z h0 a "dev/triadic/policy/TextLines" "length" "I" (.int L0)) (P_0 : Exa Z h0 p2 "dev/triadic/policy/TextLines$Line") (P_1 : Fld Z h0 p2 "dev/triadic/policy/TextLines$Line" "bytes" "[B" (.ref tp)) (P_2 : Fld Z h0 p2 "dev/triadic/policy/TextLines$Line" "from" "I" (.int fp)) (P_3 : Fld Z h0 p2 "dev/triadic/policy/TextLines$Line" "to" "I" (.int ep)) (P_4 : Fld Z h0 p2 "dev/triadic/policy/TextLines$Line" "before" "Ldev/triadic/policy/TextLines$Line;" bp) (P_5 : Fld Z h0 p2 "dev/triadic/policy/TextLines$Line" "after" "Ldev/triadic/policy/TextLines$Line;" .null) (hln : e2 - f = ln) (g_a : n0 ≤ a) (g_p : n0 ≤ p2) (hap : a ≠ p2) :
    Con l Z (⟨"dev/triadic/policy/TextLines", "add", "([BIII)Ldev/triadic/policy/TextLines$Line;"⟩ : MethodName) prog_75_method_2_code 6 (some (.object "dev/triadic/policy/TextLines$Line")) ws ({ frames := 2, cells := 1, slots := 6, locals := 29 } : Room) #[(.ref a), (.ref t), (.int f), (.int f2), (.int e2)] h0 (Q_rm_add2 Z a t f f2 e2 L0 ln p1 p2 tp fp ep bp h0 n0) := by
  refine MetFree.of_bodySF (plainFor_of_name pn_TextLines) hisR ?_
  intro p e s m args below meth c s₁ Bd hml0 hP hK
  obtain ⟨rfl, hZ, hh⟩ := hP
  have hx := Bd.exec
  have hby := Bd.bytes
  have hml : c.maxLocals = 6 := hml0
  have hown : s.vm.findClass "dev/triadic/policy/TextLines" = some m.cls := findClass_of_methodNamed Bd.named
  have hnm := (name_of_methodNamed Bd.named Bd.method).1
  have X0 : Stand p l e ({ frames := 2, cells := 1, slots := 6, locals := 29 } : Room) s m #[(.ref a), (.ref t), (.int f), (.int f2), (.int e2)] below meth c s₁ [] 0 0 := Stand.of_body Bd
  have e0 : s₁.heap = h0 := by rw [← hh, Bd.state]; rfl
  have N0 := Fr.nil n0
  have k0 : Rch p e below (s₁.setTop (entryFrame m #[(.ref a), (.ref t), (.int f), (.int f2), (.int e2)] 6)) s₁ (mkF m 0 #[.val (.ref a), .val (.ref t), .val (.int f), .val (.int f2), .val (.int e2), .unset] []) := fun tg kg => castTop (ef_rm_add2 m a t f f2 e2) kg
  have lt_T_0 := own_ltN T_0.lt
  have lt_T_1 := own_ltN T_1.lt
  have lt_T_2 := own_ltN T_2.lt
  have lt_T_3 := own_ltN T_3.lt
  have lt_P_0 := own_ltN P_0.lt
  have lt_P_1 := own_ltN P_1.lt
  have lt_P_2 := own_ltN P_2.lt
  have lt_P_3 := own_ltN P_3.lt
  have lt_P_4 := own_ltN P_4.lt
  have lt_P_5 := own_ltN P_5.lt
  have n_hap := own_neN hap
  obtain ⟨T1, h1, X1, e1, E1, A1, D1, -, st1⟩ := newO X0 hx hZ hown (hw _ (List.mem_of_getElem? (i := 20) rfl)) (hw _ (List.mem_of_getElem? (i := 21) rfl)) (hw _ (List.mem_of_getElem? (i := 22) rfl)) e0 (g := (mkF m 0 #[.val (.ref a), .val (.ref t), .val (.int f), .val (.int f2), .val (.int e2), .unset] [])) rfl (hb hby d4_0) (by decide) (by decide)
  obtain ⟨b1, g1⟩ : ∃ z, z = h0.size := ⟨_, rfl⟩
  rw [← g1] at A1 D1 st1
  have s1 : h0.size ≤ h1.size := E1.1
  have lt1 : b1 < h1.size := A1.lt
  have k2 : Rch p e below (s₁.setTop (entryFrame m #[(.ref a), (.ref t), (.int f), (.int f2), (.int e2)] 6)) T1 (mkF m 3 #[.val (.ref a), .val (.ref t), .val (.int f), .val (.int f2), .val (.int e2), .unset] [(.ref b1)]) := fun tg kg => k0 tg (st1 tg kg)
  have F1_bytes : Fld Z h1 b1 "dev/triadic/policy/TextLines$Line" "bytes" "[B" .null := D1 (Or.inl (hw _ (List.mem_of_getElem? (i := 28) rfl))) (ty := (.array .byte)) (by decide)
  have F1_from : Fld Z h1 b1 "dev/triadic/policy/TextLines$Line" "from" "I" (.int (0 : Int32)) := D1 (Or.inl (hw _ (List.mem_of_getElem? (i := 30) rfl))) (ty := .int) (by decide)
  have F1_wordsEnd : Fld Z h1 b1 "dev/triadic/policy/TextLines$Line" "wordsEnd" "I" (.int (0 : Int32)) := D1 (Or.inl (hw _ (List.mem_of_getElem? (i := 32) rfl))) (ty := .int) (by decide)
  have F1_to : Fld Z h1 b1 "dev/triadic/policy/TextLines$Line" "to" "I" (.int (0 : Int32)) := D1 (Or.inl (hw _ (List.mem_of_getElem? (i := 34) rfl))) (ty := .int) (by decide)
  have F1_before : Fld Z h1 b1 "dev/triadic/policy/TextLines$Line" "before" "Ldev/triadic/policy/TextLines$Line;" .null := D1 (Or.inl (hw _ (List.mem_of_getElem? (i := 38) rfl))) (ty := (.object "dev/triadic/policy/TextLines$Line")) (by decide)
  have F1_after : Fld Z h1 b1 "dev/triadic/policy/TextLines$Line" "after" "Ldev/triadic/policy/TextLines$Line;" .null := D1 (Or.inl (hw _ (List.mem_of_getElem? (i := 48) rfl))) (ty := (.object "dev/triadic/policy/TextLines$Line")) (by decide)
  have k3 : Rch p e below (s₁.setTop (entryFrame m #[(.ref a), (.ref t), (.int f), (.int f2), (.int e2)] 6)) T1 (mkF m 9 #[.val (.ref a), .val (.ref t), .val (.int f), .val (.int f2), .val (.int e2), .unset] [(.int e2), (.int f2), (.int f), (.ref t), (.ref b1), (.ref b1)]) := fun tg kg => by
    refine k2 tg ?_
    show Steps p.tables e below (T1.setTop (mkF m 3 #[.val (.ref a), .val (.ref t), .val (.int f), .val (.int f2), .val (.int e2), .unset] [(.ref b1)])) tg
    refine XS.dup X1.here hx rfl (hb hby d4_3) rfl rfl ?_
    refine XS.aloadN X1.here hx rfl (hb hby d4_4) rfl rfl ?_
    refine XS.iloadN X1.here hx rfl (hb hby d4_5) rfl ?_
    refine XS.iloadN X1.here hx rfl (hb hby d4_6) rfl ?_
    refine XS.iload X1.here hx rfl (hb hby d4_7) rfl ?_
    exact kg
  obtain ⟨v4, T4, h4, Lc4, X4, e4, hQ4, st4⟩ := own_callCR X1 hx hZ rfl hown (hw _ (List.mem_of_getElem? (i := 23) rfl)) (hw _ (List.mem_of_getElem? (i := 24) rfl)) (hw _ (List.mem_of_getElem? (i := 22) rfl)) (hw _ (List.mem_of_getElem? (i := 25) rfl)) (by decide) (rm_line l Z a0 hw [] b1 t f f2 e2 .null (.int (0 : Int32)) (.int (0 : Int32)) (.int (0 : Int32)) .null .null h1 n0 (by omega) A1 F1_bytes F1_from F1_wordsEnd F1_to F1_before F1_after (by omega)) e1 (a := b1) (g := (mkF m 9 #[.val (.ref a), .val (.ref t), .val (.int f), .val (.int f2), .val (.int e2), .unset] [(.int e2), (.int f2), (.int f), (.ref t), (.ref b1), (.ref b1)])) rfl (by rw [hml]; rfl) (argsL := [(.ref t), (.int f), (.int f2), (.int e2)]) (rest := [(.ref b1)]) rfl (lenOf pd_0 rfl) rfl (W := 1) (by show 2 * 0 + _ ≤ _; exact Nat.le_of_eq rfl) (hb hby d4_9) (by decide) (by decide) (by decide) (by decide)
  obtain ⟨rfl, Nq4, K4, fq4_3, fq4_4, fq4_5, fq4_6, fq4_7, fq4_8⟩ := hQ4
  have N4 := Fr.app N0 Nq4
  have s4 : h1.size ≤ h4.size := K4.1
  have k5 : Rch p e below (s₁.setTop (entryFrame m #[(.ref a), (.ref t), (.int f), (.int f2), (.int e2)] 6)) T4 (mkF m 12 #[.val (.ref a), .val (.ref t), .val (.int f), .val (.int f2), .val (.int e2), .unset] [(.ref b1)]) := fun tg kg => k3 tg (st4 tg kg)
  have lt_fq4_3 := own_ltN fq4_3.lt
  have lt_fq4_4 := own_ltN fq4_4.lt
  have lt_fq4_5 := own_ltN fq4_5.lt
  have lt_fq4_6 := own_ltN fq4_6.lt
  have lt_fq4_7 := own_ltN fq4_7.lt
  have lt_fq4_8 := own_ltN fq4_8.lt
  have k6 : Rch p e below (s₁.setTop (entryFrame m #[(.ref a), (.ref t), (.int f), (.int f2), (.int e2)] 6)) T4 (mkF m 17 #[.val (.ref a), .val (.ref t), .val (.int f), .val (.int f2), .val (.int e2), .val (.ref b1)] [(.ref a), (.ref b1)]) := fun tg kg => by
    refine k5 tg ?_
    show Steps p.tables e below (T4.setTop (mkF m 12 #[.val (.ref a), .val (.ref t), .val (.int f), .val (.int f2), .val (.int e2), .unset] [(.ref b1)])) tg
    refine XS.astore X4.here hx rfl (hb hby d4_12) rfl rfl (l' := #[.val (.ref a), .val (.ref t), .val (.int f), .val (.int f2), .val (.int e2), .val (.ref b1)]) rfl ?_
    refine XS.aload X4.here hx rfl (hb hby d4_14) rfl rfl ?_
    refine XS.aloadN X4.here hx rfl (hb hby d4_16) rfl rfl ?_
    exact kg
  have f7 : Fld Z h4 a "dev/triadic/policy/TextLines" "last" "Ldev/triadic/policy/TextLines$Line;" (.ref p2) := ((T_2.ext E1).keep K4 (ninS (by first | exact own_ne (by omega) | assumption | (apply Ne.symm; assumption)) nin0))
  obtain ⟨T8, X8, e8, st8⟩ := getF X4 hx hZ hown (host := "") (Or.inl (hw _ (List.mem_of_getElem? (i := 35) rfl))) Via.refl e4 f7 (g := (mkF m 17 #[.val (.ref a), .val (.ref t), .val (.int f), .val (.int f2), .val (.int e2), .val (.ref b1)] [(.ref a), (.ref b1)])) rfl rfl (hb hby d4_17)
  have k9 : Rch p e below (s₁.setTop (entryFrame m #[(.ref a), (.ref t), (.int f), (.int f2), (.int e2)] 6)) T8 (mkF m 20 #[.val (.ref a), .val (.ref t), .val (.int f), .val (.int f2), .val (.int e2), .val (.ref b1)] [(.ref p2), (.ref b1)]) := fun tg kg => k6 tg (st8 tg kg)
  obtain ⟨T10, h10, X10, e10, W10, st10⟩ := own_putFR X8 hx hZ hown (hw _ (List.mem_of_getElem? (i := 37) rfl)) e8 fq4_7 fq4_3 (hw _ (List.mem_of_getElem? (i := 38) rfl)) (hw _ (List.mem_of_getElem? (i := 21) rfl)) (ty := (.object "dev/triadic/policy/TextLines$Line")) (by decide) rfl rfl (g := (mkF m 20 #[.val (.ref a), .val (.ref t), .val (.int f), .val (.int f2), .val (.int e2), .val (.ref b1)] [(.ref p2), (.ref b1)])) rfl rfl (hb hby d4_20)
  have Fw10 := fq4_7.same W10
  have s10 : h10.size = h4.size := W10.size
  have N10 := Fr.snoc X10 N4 (by omega : n0 ≤ b1)
  have k11 : Rch p e below (s₁.setTop (entryFrame m #[(.ref a), (.ref t), (.int f), (.int f2), (.int e2)] 6)) T10 (mkF m 23 #[.val (.ref a), .val (.ref t), .val (.int f), .val (.int f2), .val (.int e2), .val (.ref b1)] []) := fun tg kg => k9 tg (st10 tg kg)
  have k12 : Rch p e below (s₁.setTop (entryFrame m #[(.ref a), (.ref t), (.int f), (.int f2), (.int e2)] 6)) T10 (mkF m 24 #[.val (.ref a), .val (.ref t), .val (.int f), .val (.int f2), .val (.int e2), .val (.ref b1)] [(.ref a)]) := fun tg kg => by
    refine k11 tg ?_
    show Steps p.tables e below (T10.setTop (mkF m 23 #[.val (.ref a), .val (.ref t), .val (.int f), .val (.int f2), .val (.int e2), .val (.ref b1)] [])) tg
    refine XS.aloadN X10.here hx rfl (hb hby d4_23) rfl rfl ?_
    exact kg
  have f13 : Fld Z h10 a "dev/triadic/policy/TextLines" "last" "Ldev/triadic/policy/TextLines$Line;" (.ref p2) := (f7.other W10 (Or.inl (by first | exact own_ne (by omega) | assumption | (apply Ne.symm; assumption))))
  obtain ⟨T14, X14, e14, st14⟩ := getF X10 hx hZ hown (host := "") (Or.inl (hw _ (List.mem_of_getElem? (i := 35) rfl))) Via.refl e10 f13 (g := (mkF m 24 #[.val (.ref a), .val (.ref t), .val (.int f), .val (.int f2), .val (.int e2), .val (.ref b1)] [(.ref a)])) rfl rfl (hb hby d4_24)
  have k15 : Rch p e below (s₁.setTop (entryFrame m #[(.ref a), (.ref t), (.int f), (.int f2), (.int e2)] 6)) T14 (mkF m 27 #[.val (.ref a), .val (.ref t), .val (.int f), .val (.int f2), .val (.int e2), .val (.ref b1)] [(.ref p2)]) := fun tg kg => k12 tg (st14 tg kg)
  have k16 : Rch p e below (s₁.setTop (entryFrame m #[(.ref a), (.ref t), (.int f), (.int f2), (.int e2)] 6)) T14 (mkF m 40 #[.val (.ref a), .val (.ref t), .val (.int f), .val (.int f2), .val (.int e2), .val (.ref b1)] [(.ref a)]) := fun tg kg => by
    refine k15 tg ?_
    show Steps p.tables e below (T14.setTop (mkF m 27 #[.val (.ref a), .val (.ref t), .val (.int f), .val (.int f2), .val (.int e2), .val (.ref b1)] [(.ref p2)])) tg
    refine XS.ifnonnullYes X14.here hx rfl (pc0 := 27) (pc' := 39) rfl (hb hby d4_27) rfl (by decide) (by decide) ?_
    refine XS.aloadN X14.here hx rfl (hb hby d4_39) rfl rfl ?_
    exact kg
  obtain ⟨T17, X17, e17, st17⟩ := getF X14 hx hZ hown (host := "") (Or.inl (hw _ (List.mem_of_getElem? (i := 35) rfl))) Via.refl e14 f13 (g := (mkF m 40 #[.val (.ref a), .val (.ref t), .val (.int f), .val (.int f2), .val (.int e2), .val (.ref b1)] [(.ref a)])) rfl rfl (hb hby d4_40)
  have k18 : Rch p e below (s₁.setTop (entryFrame m #[(.ref a), (.ref t), (.int f), (.int f2), (.int e2)] 6)) T17 (mkF m 43 #[.val (.ref a), .val (.ref t), .val (.int f), .val (.int f2), .val (.int e2), .val (.ref b1)] [(.ref p2)]) := fun tg kg => k16 tg (st17 tg kg)
  have k19 : Rch p e below (s₁.setTop (entryFrame m #[(.ref a), (.ref t), (.int f), (.int f2), (.int e2)] 6)) T17 (mkF m 45 #[.val (.ref a), .val (.ref t), .val (.int f), .val (.int f2), .val (.int e2), .val (.ref b1)] [(.ref b1), (.ref p2)]) := fun tg kg => by
    refine k18 tg ?_
    show Steps p.tables e below (T17.setTop (mkF m 43 #[.val (.ref a), .val (.ref t), .val (.int f), .val (.int f2), .val (.int e2), .val (.ref b1)] [(.ref p2)])) tg
    refine XS.aload X17.here hx rfl (hb hby d4_43) rfl rfl ?_
    exact kg
  have f20 : Fld Z h10 p2 "dev/triadic/policy/TextLines$Line" "after" "Ldev/triadic/policy/TextLines$Line;" .null := (((P_5.ext E1).keep K4 (ninS (by first | exact own_ne (by omega) | assumption | (apply Ne.symm; assumption)) nin0)).other W10 (Or.inl (by first | exact own_ne (by omega) | assumption | (apply Ne.symm; assumption))))
  have f21 : Exa Z h10 p2 "dev/triadic/policy/TextLines$Line" := (((P_0.ext E1).keep K4).wr W10)
  obtain ⟨T22, h22, X22, e22, W22, st22⟩ := own_putFR X17 hx hZ hown (hw _ (List.mem_of_getElem? (i := 47) rfl)) e17 f20 f21 (hw _ (List.mem_of_getElem? (i := 48) rfl)) (hw _ (List.mem_of_getElem? (i := 21) rfl)) (ty := (.object "dev/triadic/policy/TextLines$Line")) (by decide) rfl rfl (g := (mkF m 45 #[.val (.ref a), .val (.ref t), .val (.int f), .val (.int f2), .val (.int e2), .val (.ref b1)] [(.ref b1), (.ref p2)])) rfl rfl (hb hby d4_45)
  have Fw22 := f20.same W22
  have s22 : h22.size = h10.size := W22.size
  have N22 := Fr.snoc X22 N10 (by omega : n0 ≤ p2)
  have k23 : Rch p e below (s₁.setTop (entryFrame m #[(.ref a), (.ref t), (.int f), (.int f2), (.int e2)] 6)) T22 (mkF m 48 #[.val (.ref a), .val (.ref t), .val (.int f), .val (.int f2), .val (.int e2), .val (.ref b1)] []) := fun tg kg => k19 tg (st22 tg kg)
  have k24 : Rch p e below (s₁.setTop (entryFrame m #[(.ref a), (.ref t), (.int f), (.int f2), (.int e2)] 6)) T22 (mkF m 51 #[.val (.ref a), .val (.ref t), .val (.int f), .val (.int f2), .val (.int e2), .val (.ref b1)] [(.ref b1), (.ref a)]) := fun tg kg => by
    refine k23 tg ?_
    show Steps p.tables e below (T22.setTop (mkF m 48 #[.val (.ref a), .val (.ref t), .val (.int f), .val (.int f2), .val (.int e2), .val (.ref b1)] [])) tg
    refine XS.aloadN X22.here hx rfl (hb hby d4_48) rfl rfl ?_
    refine XS.aload X22.here hx rfl (hb hby d4_49) rfl rfl ?_
    exact kg
  have f25 : Fld Z h22 a "dev/triadic/policy/TextLines" "last" "Ldev/triadic/policy/TextLines$Line;" (.ref p2) := (f13.other W22 (Or.inl (by first | exact own_ne (by omega) | assumption | (apply Ne.symm; assumption))))
  have f26 : Exa Z h22 a "dev/triadic/policy/TextLines" := ((((T_0.ext E1).keep K4).wr W10).wr W22)
  obtain ⟨T27, h27, X27, e27, W27, st27⟩ := putF X22 hx hZ hown (host := "") (Or.inl (hw _ (List.mem_of_getElem? (i := 35) rfl))) Via.refl e22 f25 f26 (Or.inl (hw _ (List.mem_of_getElem? (i := 36) rfl))) (hw _ (List.mem_of_getElem? (i := 7) rfl)) (ty := (.object "dev/triadic/policy/TextLines$Line")) (by decide) rfl rfl (g := (mkF m 51 #[.val (.ref a), .val (.ref t), .val (.int f), .val (.int f2), .val (.int e2), .val (.ref b1)] [(.ref b1), (.ref a)])) rfl rfl (hb hby d4_51)
  have Fw27 := f25.same W27
  have s27 : h27.size = h22.size := W27.size
  have N27 := Fr.snoc X27 N22 (by omega : n0 ≤ a)
  have k28 : Rch p e below (s₁.setTop (entryFrame m #[(.ref a), (.ref t), (.int f), (.int f2), (.int e2)] 6)) T27 (mkF m 54 #[.val (.ref a), .val (.ref t), .val (.int f), .val (.int f2), .val (.int e2), .val (.ref b1)] []) := fun tg kg => k24 tg (st27 tg kg)
  have k29 : Rch p e below (s₁.setTop (entryFrame m #[(.ref a), (.ref t), (.int f), (.int f2), (.int e2)] 6)) T27 (mkF m 56 #[.val (.ref a), .val (.ref t), .val (.int f), .val (.int f2), .val (.int e2), .val (.ref b1)] [(.ref a), (.ref a)]) := fun tg kg => by
    refine k28 tg ?_
    show Steps p.tables e below (T27.setTop (mkF m 54 #[.val (.ref a), .val (.ref t), .val (.int f), .val (.int f2), .val (.int e2), .val (.ref b1)] [])) tg
    refine XS.aloadN X27.here hx rfl (hb hby d4_54) rfl rfl ?_
    refine XS.dup X27.here hx rfl (hb hby d4_55) rfl rfl ?_
    exact kg
  have f30 : Fld Z h27 a "dev/triadic/policy/TextLines" "length" "I" (.int L0) := (((((T_3.ext E1).keep K4 (ninS (by first | exact own_ne (by omega) | assumption | (apply Ne.symm; assumption)) nin0)).other W10 (Or.inl (by first | exact own_ne (by omega) | assumption | (apply Ne.symm; assumption)))).other W22 (Or.inl (by first | exact own_ne (by omega) | assumption | (apply Ne.symm; assumption)))).other W27 (Or.inr (slot_ne (Or.inl (hw _ (List.mem_of_getElem? (i := 42) rfl))) (Or.inl (hw _ (List.mem_of_getElem? (i := 36) rfl))) (by decide) (t := .int) (t' := (.object "dev/triadic/policy/TextLines$Line")) (by decide) (by decide))))
  obtain ⟨T31, X31, e31, st31⟩ := getF X27 hx hZ hown (host := "") (Or.inl (hw _ (List.mem_of_getElem? (i := 41) rfl))) Via.refl e27 f30 (g := (mkF m 56 #[.val (.ref a), .val (.ref t), .val (.int f), .val (.int f2), .val (.int e2), .val (.ref b1)] [(.ref a), (.ref a)])) rfl rfl (hb hby d4_56)
  have k32 : Rch p e below (s₁.setTop (entryFrame m #[(.ref a), (.ref t), (.int f), (.int f2), (.int e2)] 6)) T31 (mkF m 59 #[.val (.ref a), .val (.ref t), .val (.int f), .val (.int f2), .val (.int e2), .val (.ref b1)] [(.int L0), (.ref a)]) := fun tg kg => k29 tg (st31 tg kg)
  have k33 : Rch p e below (s₁.setTop (entryFrame m #[(.ref a), (.ref t), (.int f), (.int f2), (.int e2)] 6)) T31 (mkF m 61 #[.val (.ref a), .val (.ref t), .val (.int f), .val (.int f2), .val (.int e2), .val (.ref b1)] [(.ref b1), (.int L0), (.ref a)]) := fun tg kg => by
    refine k32 tg ?_
    show Steps p.tables e below (T31.setTop (mkF m 59 #[.val (.ref a), .val (.ref t), .val (.int f), .val (.int f2), .val (.int e2), .val (.ref b1)] [(.int L0), (.ref a)])) tg
    refine XS.aload X31.here hx rfl (hb hby d4_59) rfl rfl ?_
    exact kg
  have f35 : Fld Z h27 b1 "dev/triadic/policy/TextLines$Line" "from" "I" (.int f) := (((fq4_5.other W10 (Or.inr (slot_ne (Or.inl (hw _ (List.mem_of_getElem? (i := 30) rfl))) (Or.inl (hw _ (List.mem_of_getElem? (i := 38) rfl))) (by decide) (t := .int) (t' := (.object "dev/triadic/policy/TextLines$Line")) (by decide) (by decide)))).other W22 (Or.inl (by first | exact own_ne (by omega) | assumption | (apply Ne.symm; assumption)))).other W27 (Or.inl (by first | exact own_ne (by omega) | assumption | (apply Ne.symm; assumption))))
  have f36 : Fld Z h27 b1 "dev/triadic/policy/TextLines$Line" "to" "I" (.int e2) := (((fq4_6.other W10 (Or.inr (slot_ne (Or.inl (hw _ (List.mem_of_getElem? (i := 34) rfl))) (Or.inl (hw _ (List.mem_of_getElem? (i := 38) rfl))) (by decide) (t := .int) (t' := (.object "dev/triadic/policy/TextLines$Line")) (by decide) (by decide)))).other W22 (Or.inl (by first | exact own_ne (by omega) | assumption | (apply Ne.symm; assumption)))).other W27 (Or.inl (by first | exact own_ne (by omega) | assumption | (apply Ne.symm; assumption))))
  have f37 : Exa Z h27 b1 "dev/triadic/policy/TextLines$Line" := (((fq4_3.wr W10).wr W22).wr W27)
  obtain ⟨v34, T34, h34, Lc34, X34, e34, hQ34, st34⟩ := own_callPR X31 hx hZ hown (hw _ (List.mem_of_getElem? (i := 43) rfl)) (hw _ (List.mem_of_getElem? (i := 44) rfl)) (hw _ (List.mem_of_getElem? (i := 45) rfl)) (hw _ (List.mem_of_getElem? (i := 21) rfl)) (hw _ (List.mem_of_getElem? (i := 22) rfl)) (hw _ (List.mem_of_getElem? (i := 46) rfl)) (by decide) (rm_len l Z a0 hw [] b1 f e2 ln h27 n0 (by omega) f35 f36 hln) e31 f37 (g := (mkF m 61 #[.val (.ref a), .val (.ref t), .val (.int f), .val (.int f2), .val (.int e2), .val (.ref b1)] [(.ref b1), (.int L0), (.ref a)])) rfl (by rw [hml]; rfl) (argsL := []) (rest := [(.int L0), (.ref a)]) rfl (lenOf pd_1 rfl) rfl (W := 2) (by show 2 * 0 + _ ≤ _; exact Nat.le_of_eq rfl) (hb hby d4_61) (by decide) (by decide) (by decide) (by decide)
  obtain ⟨rfl, Nq34, hs34⟩ := hQ34
  have N34 := Fr.app N27 Nq34
  have e34' : T34.heap = h27 := e34.trans hs34
  have k38 : Rch p e below (s₁.setTop (entryFrame m #[(.ref a), (.ref t), (.int f), (.int f2), (.int e2)] 6)) T34 (mkF m 64 #[.val (.ref a), .val (.ref t), .val (.int f), .val (.int f2), .val (.int e2), .val (.ref b1)] [(.int ln), (.int L0), (.ref a)]) := fun tg kg => k33 tg (st34 tg kg)
  have k39 : Rch p e below (s₁.setTop (entryFrame m #[(.ref a), (.ref t), (.int f), (.int f2), (.int e2)] 6)) T34 (mkF m 65 #[.val (.ref a), .val (.ref t), .val (.int f), .val (.int f2), .val (.int e2), .val (.ref b1)] [(.int (L0 + ln)), (.ref a)]) := fun tg kg => by
    refine k38 tg ?_
    show Steps p.tables e below (T34.setTop (mkF m 64 #[.val (.ref a), .val (.ref t), .val (.int f), .val (.int f2), .val (.int e2), .val (.ref b1)] [(.int ln), (.int L0), (.ref a)])) tg
    refine XS.iadd X34.here hx rfl (hb hby d4_64) rfl ?_
    exact kg
  have f40 : Exa Z h27 a "dev/triadic/policy/TextLines" := (f26.wr W27)
  obtain ⟨T41, h41, X41, e41, W41, st41⟩ := putF X34 hx hZ hown (host := "") (Or.inl (hw _ (List.mem_of_getElem? (i := 41) rfl))) Via.refl e34' f30 f40 (Or.inl (hw _ (List.mem_of_getElem? (i := 42) rfl))) (hw _ (List.mem_of_getElem? (i := 7) rfl)) (ty := .int) (by decide) rfl rfl (g := (mkF m 65 #[.val (.ref a), .val (.ref t), .val (.int f), .val (.int f2), .val (.int e2), .val (.ref b1)] [(.int (L0 + ln)), (.ref a)])) rfl rfl (hb hby d4_65)
  have Fw41 := f30.same W41
  have s41 : h41.size = h27.size := W41.size
  have N41 := Fr.snoc X41 N34 (by omega : n0 ≤ a)
  have k42 : Rch p e below (s₁.setTop (entryFrame m #[(.ref a), (.ref t), (.int f), (.int f2), (.int e2)] 6)) T41 (mkF m 68 #[.val (.ref a), .val (.ref t), .val (.int f), .val (.int f2), .val (.int e2), .val (.ref b1)] []) := fun tg kg => k39 tg (st41 tg kg)
  have k43 : Rch p e below (s₁.setTop (entryFrame m #[(.ref a), (.ref t), (.int f), (.int f2), (.int e2)] 6)) T41 (mkF m 70 #[.val (.ref a), .val (.ref t), .val (.int f), .val (.int f2), .val (.int e2), .val (.ref b1)] [(.ref b1)]) := fun tg kg => by
    refine k42 tg ?_
    show Steps p.tables e below (T41.setTop (mkF m 68 #[.val (.ref a), .val (.ref t), .val (.int f), .val (.int f2), .val (.int e2), .val (.ref b1)] [])) tg
    refine XS.aload X41.here hx rfl (hb hby d4_68) rfl rfl ?_
    exact kg
  have f44 : Exa Z h41 a "dev/triadic/policy/TextLines" := (f40.wr W41)
  have f45 : Fld Z h41 a "dev/triadic/policy/TextLines" "first" "Ldev/triadic/policy/TextLines$Line;" (.ref p1) := ((((((T_1.ext E1).keep K4 (ninS (by first | exact own_ne (by omega) | assumption | (apply Ne.symm; assumption)) nin0)).other W10 (Or.inl (by first | exact own_ne (by omega) | assumption | (apply Ne.symm; assumption)))).other W22 (Or.inl (by first | exact own_ne (by omega) | assumption | (apply Ne.symm; assumption)))).other W27 (Or.inr (slot_ne (Or.inl (hw _ (List.mem_of_getElem? (i := 40) rfl))) (Or.inl (hw _ (List.mem_of_getElem? (i := 36) rfl))) (by decide) (t := (.object "dev/triadic/policy/TextLines$Line")) (t' := (.object "dev/triadic/policy/TextLines$Line")) (by decide) (by decide)))).other W41 (Or.inr (slot_ne (Or.inl (hw _ (List.mem_of_getElem? (i := 40) rfl))) (Or.inl (hw _ (List.mem_of_getElem? (i := 42) rfl))) (by decide) (t := (.object "dev/triadic/policy/TextLines$Line")) (t' := .int) (by decide) (by decide))))
  have f46 : Fld Z h41 a "dev/triadic/policy/TextLines" "last" "Ldev/triadic/policy/TextLines$Line;" (.ref b1) := (Fw27.other W41 (Or.inr (slot_ne (Or.inl (hw _ (List.mem_of_getElem? (i := 36) rfl))) (Or.inl (hw _ (List.mem_of_getElem? (i := 42) rfl))) (by decide) (t := (.object "dev/triadic/policy/TextLines$Line")) (t' := .int) (by decide) (by decide))))
  have f47 : Exa Z h41 b1 "dev/triadic/policy/TextLines$Line" := (f37.wr W41)
  have f48 : Fld Z h41 b1 "dev/triadic/policy/TextLines$Line" "bytes" "[B" (.ref t) := ((((fq4_4.other W10 (Or.inr (slot_ne (Or.inl (hw _ (List.mem_of_getElem? (i := 28) rfl))) (Or.inl (hw _ (List.mem_of_getElem? (i := 38) rfl))) (by decide) (t := (.array .byte)) (t' := (.object "dev/triadic/policy/TextLines$Line")) (by decide) (by decide)))).other W22 (Or.inl (by first | exact own_ne (by omega) | assumption | (apply Ne.symm; assumption)))).other W27 (Or.inl (by first | exact own_ne (by omega) | assumption | (apply Ne.symm; assumption)))).other W41 (Or.inl (by first | exact own_ne (by omega) | assumption | (apply Ne.symm; assumption))))
  have f49 : Fld Z h41 b1 "dev/triadic/policy/TextLines$Line" "from" "I" (.int f) := (f35.other W41 (Or.inl (by first | exact own_ne (by omega) | assumption | (apply Ne.symm; assumption))))
  have f50 : Fld Z h41 b1 "dev/triadic/policy/TextLines$Line" "to" "I" (.int e2) := (f36.other W41 (Or.inl (by first | exact own_ne (by omega) | assumption | (apply Ne.symm; assumption))))
  have f51 : Fld Z h41 b1 "dev/triadic/policy/TextLines$Line" "before" "Ldev/triadic/policy/TextLines$Line;" (.ref p2) := (((Fw10.other W22 (Or.inl (by first | exact own_ne (by omega) | assumption | (apply Ne.symm; assumption)))).other W27 (Or.inl (by first | exact own_ne (by omega) | assumption | (apply Ne.symm; assumption)))).other W41 (Or.inl (by first | exact own_ne (by omega) | assumption | (apply Ne.symm; assumption))))
  have f52 : Fld Z h41 b1 "dev/triadic/policy/TextLines$Line" "after" "Ldev/triadic/policy/TextLines$Line;" .null := ((((fq4_8.other W10 (Or.inr (slot_ne (Or.inl (hw _ (List.mem_of_getElem? (i := 48) rfl))) (Or.inl (hw _ (List.mem_of_getElem? (i := 38) rfl))) (by decide) (t := (.object "dev/triadic/policy/TextLines$Line")) (t' := (.object "dev/triadic/policy/TextLines$Line")) (by decide) (by decide)))).other W22 (Or.inl (by first | exact own_ne (by omega) | assumption | (apply Ne.symm; assumption)))).other W27 (Or.inl (by first | exact own_ne (by omega) | assumption | (apply Ne.symm; assumption)))).other W41 (Or.inl (by first | exact own_ne (by omega) | assumption | (apply Ne.symm; assumption))))
  have f53 : Exa Z h41 p2 "dev/triadic/policy/TextLines$Line" := (((f21.wr W22).wr W27).wr W41)
  have f54 : Fld Z h41 p2 "dev/triadic/policy/TextLines$Line" "bytes" "[B" (.ref tp) := ((((((P_1.ext E1).keep K4 (ninS (by first | exact own_ne (by omega) | assumption | (apply Ne.symm; assumption)) nin0)).other W10 (Or.inl (by first | exact own_ne (by omega) | assumption | (apply Ne.symm; assumption)))).other W22 (Or.inr (slot_ne (Or.inl (hw _ (List.mem_of_getElem? (i := 28) rfl))) (Or.inl (hw _ (List.mem_of_getElem? (i := 48) rfl))) (by decide) (t := (.array .byte)) (t' := (.object "dev/triadic/policy/TextLines$Line")) (by decide) (by decide)))).other W27 (Or.inl (by first | exact own_ne (by omega) | assumption | (apply Ne.symm; assumption)))).other W41 (Or.inl (by first | exact own_ne (by omega) | assumption | (apply Ne.symm; assumption))))
  have f55 : Fld Z h41 p2 "dev/triadic/policy/TextLines$Line" "from" "I" (.int fp) := ((((((P_2.ext E1).keep K4 (ninS (by first | exact own_ne (by omega) | assumption | (apply Ne.symm; assumption)) nin0)).other W10 (Or.inl (by first | exact own_ne (by omega) | assumption | (apply Ne.symm; assumption)))).other W22 (Or.inr (slot_ne (Or.inl (hw _ (List.mem_of_getElem? (i := 30) rfl))) (Or.inl (hw _ (List.mem_of_getElem? (i := 48) rfl))) (by decide) (t := .int) (t' := (.object "dev/triadic/policy/TextLines$Line")) (by decide) (by decide)))).other W27 (Or.inl (by first | exact own_ne (by omega) | assumption | (apply Ne.symm; assumption)))).other W41 (Or.inl (by first | exact own_ne (by omega) | assumption | (apply Ne.symm; assumption))))
  have f56 : Fld Z h41 p2 "dev/triadic/policy/TextLines$Line" "to" "I" (.int ep) := ((((((P_3.ext E1).keep K4 (ninS (by first | exact own_ne (by omega) | assumption | (apply Ne.symm; assumption)) nin0)).other W10 (Or.inl (by first | exact own_ne (by omega) | assumption | (apply Ne.symm; assumption)))).other W22 (Or.inr (slot_ne (Or.inl (hw _ (List.mem_of_getElem? (i := 34) rfl))) (Or.inl (hw _ (List.mem_of_getElem? (i := 48) rfl))) (by decide) (t := .int) (t' := (.object "dev/triadic/policy/TextLines$Line")) (by decide) (by decide)))).other W27 (Or.inl (by first | exact own_ne (by omega) | assumption | (apply Ne.symm; assumption)))).other W41 (Or.inl (by first | exact own_ne (by omega) | assumption | (apply Ne.symm; assumption))))
  have f57 : Fld Z h41 p2 "dev/triadic/policy/TextLines$Line" "before" "Ldev/triadic/policy/TextLines$Line;" bp := ((((((P_4.ext E1).keep K4 (ninS (by first | exact own_ne (by omega) | assumption | (apply Ne.symm; assumption)) nin0)).other W10 (Or.inl (by first | exact own_ne (by omega) | assumption | (apply Ne.symm; assumption)))).other W22 (Or.inr (slot_ne (Or.inl (hw _ (List.mem_of_getElem? (i := 38) rfl))) (Or.inl (hw _ (List.mem_of_getElem? (i := 48) rfl))) (by decide) (t := (.object "dev/triadic/policy/TextLines$Line")) (t' := (.object "dev/triadic/policy/TextLines$Line")) (by decide) (by decide)))).other W27 (Or.inl (by first | exact own_ne (by omega) | assumption | (apply Ne.symm; assumption)))).other W41 (Or.inl (by first | exact own_ne (by omega) | assumption | (apply Ne.symm; assumption))))
  have f58 : Fld Z h41 p2 "dev/triadic/policy/TextLines$Line" "after" "Ldev/triadic/policy/TextLines$Line;" (.ref b1) := ((Fw22.other W27 (Or.inl (by first | exact own_ne (by omega) | assumption | (apply Ne.symm; assumption)))).other W41 (Or.inl (by first | exact own_ne (by omega) | assumption | (apply Ne.symm; assumption))))
  obtain ⟨fs59, hr59, hrun59, hended59, hW59, hsame59⟩ := X41.leave (v := some (.ref b1)) (fun h => by rw [Bd.returns] at h; cases h)
  refine ⟨_, _, k43 _ ?_, hrun59, hended59, _, _, rfl, ?_, ⟨_, rfl⟩, hW59, hsame59.mono (by decide) (by decide)⟩
  · exact retOut X41 hx Bd.returns rfl (Or.inr (Or.inr (Or.inr (Or.inr ⟨rfl, rfl, rfl⟩)))) (hb hby d4_70) hr59
  · show Q_rm_add2 Z a t f f2 e2 L0 ln p1 p2 tp fp ep bp h0 n0 _ T41.heap _
    rw [e41]
    exact ⟨b1, rfl, N41, (((((((Keep.refl h0 [a, p2]).ext E1).trans K4 (allS (Or.inr (by omega)) all0)).wr W10 (Or.inr (by omega))).wr W22 (Or.inl (List.mem_of_getElem? (i := 1) rfl))).wr W27 (Or.inl (List.mem_of_getElem? (i := 0) rfl))).wr W41 (Or.inl (List.mem_of_getElem? (i := 0) rfl))), (by omega), f44, f45, f46, Fw41, f47, f48, f49, f50, f51, f52, f53, f54, f55, f56, f57, f58⟩
theorem ef_rm_rem0 (m : MethodId) (x0 : Addr) (x1 : Addr) : entryFrame m #[(.ref x0), (.ref x1)] 2 = mkF m 0 #[.val (.ref x0), .val (.ref x1)] [] := by first | (simp [entryFrame, mkF, argsToLocals, Value.category]; done) | rfl
def Q_rm_rem0 (Z : State) (a : Addr) (x : Addr) (tx : Addr) (fx : Int32) (ex : Int32) (lx : Int32) (L0 : Int32) (fi : Value) (la : Value) (nx : Addr) (tn : Addr) (fn : Int32) (en : Int32) (an : Value) (h0 : Heap) (n0 : Nat) (v : Option Value) (h : Heap) (L : List Loc) : Prop := (v = none) ∧ (Fr n0 L) ∧ (Keep h0 h [a, nx]) ∧ (Exa Z h a "dev/triadic/policy/TextLines") ∧ (Fld Z h a "dev/triadic/policy/TextLines" "first" "Ldev/triadic/policy/TextLines$Line;" (.ref nx)) ∧ (Fld Z h a "dev/triadic/policy/TextLines" "last" "Ldev/triadic/policy/TextLines$Line;" la) ∧ (Fld Z h a "dev/triadic/policy/TextLines" "length" "I" (.int (L0 - lx))) ∧ (Exa Z h nx "dev/triadic/policy/TextLines$Line") ∧ (Fld Z h nx "dev/triadic/policy/TextLines$Line" "bytes" "[B" (.ref tn)) ∧ (Fld Z h nx "dev/triadic/policy/TextLines$Line" "from" "I" (.int fn)) ∧ (Fld Z h nx "dev/triadic/policy/TextLines$Line" "to" "I" (.int en)) ∧ (Fld Z h nx "dev/triadic/policy/TextLines$Line" "before" "Ldev/triadic/policy/TextLines$Line;" .null) ∧ (Fld Z h nx "dev/triadic/policy/TextLines$Line" "after" "Ldev/triadic/policy/TextLines$Line;" an)
theorem d9_0 : decode prog_75_method_5_code 0 = .ok (.aload_n 1, 1) := by decide +kernel
theorem d9_1 : decode prog_75_method_5_code 1 = .ok (.getfield 22, 3) := by decide +kernel
theorem d9_4 : decode prog_75_method_5_code 4 = .ok (.ifnonnull 14, 3) := by decide +kernel
theorem d9_7 : decode prog_75_method_5_code 7 = .ok (.aload_n 0, 1) := by decide +kernel
theorem d9_8 : decode prog_75_method_5_code 8 = .ok (.aload_n 1, 1) := by decide +kernel
theorem d9_9 : decode prog_75_method_5_code 9 = .ok (.getfield 28, 3) := by decide +kernel
theorem d9_12 : decode prog_75_method_5_code 12 = .ok (.putfield 25, 3) := by decide +kernel
theorem d9_15 : decode prog_75_method_5_code 15 = .ok (.goto 14, 3) := by decide +kernel
theorem d9_29 : decode prog_75_method_5_code 29 = .ok (.aload_n 1, 1) := by decide +kernel
theorem d9_30 : decode prog_75_method_5_code 30 = .ok (.getfield 28, 3) := by decide +kernel
theorem d9_33 : decode prog_75_method_5_code 33 = .ok (.ifnonnull 14, 3) := by decide +kernel
theorem d9_47 : decode prog_75_method_5_code 47 = .ok (.aload_n 1, 1) := by decide +kernel
theorem d9_48 : decode prog_75_method_5_code 48 = .ok (.getfield 28, 3) := by decide +kernel
theorem d9_51 : decode prog_75_method_5_code 51 = .ok (.aload_n 1, 1) := by decide +kernel
theorem d9_52 : decode prog_75_method_5_code 52 = .ok (.getfield 22, 3) := by decide +kernel
theorem d9_55 : decode prog_75_method_5_code 55 = .ok (.putfield 22, 3) := by decide +kernel
theorem d9_58 : decode prog_75_method_5_code 58 = .ok (.aload_n 0, 1) := by decide +kernel
theorem d9_59 : decode prog_75_method_5_code 59 = .ok (.dup, 1) := by decide +kernel
theorem d9_60 : decode prog_75_method_5_code 60 = .ok (.getfield 31, 3) := by decide +kernel
theorem d9_63 : decode prog_75_method_5_code 63 = .ok (.aload_n 1, 1) := by decide +kernel
theorem d9_64 : decode prog_75_method_5_code 64 = .ok (.invokevirtual 35, 3) := by decide +kernel
theorem d9_67 : decode prog_75_method_5_code 67 = .ok (.isub, 1) := by decide +kernel
theorem d9_68 : decode prog_75_method_5_code 68 = .ok (.putfield 31, 3) := by decide +kernel
theorem d9_71 : decode prog_75_method_5_code 71 = .ok (.return_, 1) := by decide +kernel
set_option maxRecDepth 65536 in
set_option maxHeartbeats 40000000 in
theorem rm_rem0 (l : Launch) (Z : State) (a0 : Array Value) (hw : ∀ d ∈ tables_1, d.before a0 Z = true) (ws : List Jvm.Cond) (a : Addr) (x : Addr) (tx : Addr) (fx : Int32) (ex : Int32) (lx : Int32) (L0 : Int32) (fi : Value) (la : Value) (nx : Addr) (tn : Addr) (fn : Int32) (en : Int32) (an : Value) (h0 : Heap) (n0 : Nat) (Z0 : n0 ≤ h0.size) (T_0 : Exa Z h0 a "dev/triadic/policy/TextLines") (T_1 : Fld Z h0 a "dev/triadic/policy/TextLines" "first" "Ldev/triadic/policy/TextLines$Line;" fi) (T_2 : Fld Z h0 a "dev/triadic/policy/TextLines" "last" "Ldev/triadic/policy/TextLines$Line;" la) (T_3 : Fld Z h0 a "dev/triadic/policy/TextLines" "length" "I" (.int L0)) (X_0 : Exa Z h0 x "dev/triadic/policy/TextLines$Line") (X_1 : Fld Z h0 x "dev/triadic/policy/TextLines$Line" "bytes" "[B" (.ref tx)) (X_2 : Fld Z h0 x "dev/triadic/policy/TextLines$Line" "from" "I" (.int fx)) (X_3 : Fld Z h0 x "dev/triadic/policy/TextLines$Line" "to" "I" (.int ex)) (X_4 : Fld Z h0 x "dev/triadic/policy/TextLines$Line" "before" "Ldev/triadic/policy/TextLines$Line;" .null) (X_5 : Fld Z h0 x "dev/triadic/policy/TextLines$Line" "after" "Ldev/triadic/policy/TextLines$Line;" (.ref nx)) (hlx : ex - fx = lx) (g_a : n0 ≤ a) (hax : a ≠ x) (N_0 : Exa Z h0 nx "dev/triadic/policy/TextLines$Line") (N_1 : Fld Z h0 nx "dev/triadic/policy/TextLines$Line" "bytes" "[B" (.ref tn)) (N_2 : Fld Z h0 nx "dev/triadic/policy/TextLines$Line" "from" "I" (.int fn)) (N_3 : Fld Z h0 nx "dev/triadic/policy/TextLines$Line" "to" "I" (.int en)) (N_4 : Fld Z h0 nx "dev/triadic/policy/TextLines$Line" "before" "Ldev/triadic/policy/TextLines$Line;" (.ref x)) (N_5 : Fld Z h0 nx "dev/triadic/policy/TextLines$Line" "after" "Ldev/triadic/policy/TextLines$Line;" an) (g_n : n0 ≤ nx) (han : a ≠ nx) (hnx : nx ≠ x) :
    Con l Z (⟨"dev/triadic/policy/TextLines", "remove", "(Ldev/triadic/policy/TextLines$Line;)V"⟩ : MethodName) prog_75_method_5_code 2 none ws ({ frames := 1, cells := 0, slots := 0, locals := 14 } : Room) #[(.ref a), (.ref x)] h0 (Q_rm_rem0 Z a x tx fx ex lx L0 fi la nx tn fn en an h0 n0) := by
  refine MetFree.of_bodySF (plainFor_of_name pn_TextLines) hisR ?_
  intro p e s m args below meth c s₁ Bd hml0 hP hK
  obtain ⟨rfl, hZ, hh⟩ := hP
  have hx := Bd.exec
  have hby := Bd.bytes
  have hml : c.maxLocals = 2 := hml0
  have hown : s.vm.findClass "dev/triadic/policy/TextLines" = some m.cls := findClass_of_methodNamed Bd.named
  have hnm := (name_of_methodNamed Bd.named Bd.method).1
  have X0 : Stand p l e ({ frames := 1, cells := 0, slots := 0, locals := 14 } : Room) s m #[(.ref a), (.ref x)] below meth c s₁ [] 0 0 := Stand.of_body Bd
  have e0 : s₁.heap = h0 := by rw [← hh, Bd.state]; rfl
  have N0 := Fr.nil n0
  have k0 : Rch p e below (s₁.setTop (entryFrame m #[(.ref a), (.ref x)] 2)) s₁ (mkF m 0 #[.val (.ref a), .val (.ref x)] []) := fun tg kg => castTop (ef_rm_rem0 m a x) kg
  have lt_T_0 := own_ltN T_0.lt
  have lt_T_1 := own_ltN T_1.lt
  have lt_T_2 := own_ltN T_2.lt
  have lt_T_3 := own_ltN T_3.lt
  have lt_X_0 := own_ltN X_0.lt
  have lt_X_1 := own_ltN X_1.lt
  have lt_X_2 := own_ltN X_2.lt
  have lt_X_3 := own_ltN X_3.lt
  have lt_X_4 := own_ltN X_4.lt
  have lt_X_5 := own_ltN X_5.lt
  have n_hax := own_neN hax
  have lt_N_0 := own_ltN N_0.lt
  have lt_N_1 := own_ltN N_1.lt
  have lt_N_2 := own_ltN N_2.lt
  have lt_N_3 := own_ltN N_3.lt
  have lt_N_4 := own_ltN N_4.lt
  have lt_N_5 := own_ltN N_5.lt
  have n_han := own_neN han
  have n_hnx := own_neN hnx
  have k1 : Rch p e below (s₁.setTop (entryFrame m #[(.ref a), (.ref x)] 2)) s₁ (mkF m 1 #[.val (.ref a), .val (.ref x)] [(.ref x)]) := fun tg kg => by
    refine k0 tg ?_
    show Steps p.tables e below (s₁.setTop (mkF m 0 #[.val (.ref a), .val (.ref x)] [])) tg
    refine XS.aloadN X0.here hx rfl (hb hby d9_0) rfl rfl ?_
    exact kg
  have k2 : Rch p e below (s₁.setTop (entryFrame m #[(.ref a), (.ref x)] 2)) s₁ (mkF m 9 #[.val (.ref a), .val (.ref x)] [(.ref x), (.ref a)]) := fun tg kg => by
    refine k1 tg ?_
    show Steps p.tables e below (s₁.setTop (mkF m 1 #[.val (.ref a), .val (.ref x)] [(.ref x)])) tg
    refine own_getFR X0 hx hZ hown (hw _ (List.mem_of_getElem? (i := 37) rfl)) e0 X_4 (g := (mkF m 1 #[.val (.ref a), .val (.ref x)] [(.ref x)])) rfl rfl (hb hby d9_1) _ ?_
    refine XS.ifnonnullNo X0.here hx rfl (hb hby d9_4) rfl ?_
    refine XS.aloadN X0.here hx rfl (hb hby d9_7) rfl rfl ?_
    refine XS.aloadN X0.here hx rfl (hb hby d9_8) rfl rfl ?_
    exact kg
  have k3 : Rch p e below (s₁.setTop (entryFrame m #[(.ref a), (.ref x)] 2)) s₁ (mkF m 12 #[.val (.ref a), .val (.ref x)] [(.ref nx), (.ref a)]) := fun tg kg => by
    refine k2 tg ?_
    show Steps p.tables e below (s₁.setTop (mkF m 9 #[.val (.ref a), .val (.ref x)] [(.ref x), (.ref a)])) tg
    refine own_getFR X0 hx hZ hown (hw _ (List.mem_of_getElem? (i := 47) rfl)) e0 X_5 (g := (mkF m 9 #[.val (.ref a), .val (.ref x)] [(.ref x), (.ref a)])) rfl rfl (hb hby d9_9) _ ?_
    exact kg
  obtain ⟨T4, h4, X4, e4, W4, st4⟩ := putF X0 hx hZ hown (host := "") (Or.inl (hw _ (List.mem_of_getElem? (i := 39) rfl))) Via.refl e0 T_1 T_0 (Or.inl (hw _ (List.mem_of_getElem? (i := 40) rfl))) (hw _ (List.mem_of_getElem? (i := 7) rfl)) (ty := (.object "dev/triadic/policy/TextLines$Line")) (by decide) rfl rfl (g := (mkF m 12 #[.val (.ref a), .val (.ref x)] [(.ref nx), (.ref a)])) rfl rfl (hb hby d9_12)
  have Fw4 := T_1.same W4
  have s4 : h4.size = h0.size := W4.size
  have N4 := Fr.snoc X4 N0 (by omega : n0 ≤ a)
  have k5 : Rch p e below (s₁.setTop (entryFrame m #[(.ref a), (.ref x)] 2)) T4 (mkF m 15 #[.val (.ref a), .val (.ref x)] []) := fun tg kg => k3 tg (st4 tg kg)
  have k6 : Rch p e below (s₁.setTop (entryFrame m #[(.ref a), (.ref x)] 2)) T4 (mkF m 30 #[.val (.ref a), .val (.ref x)] [(.ref x)]) := fun tg kg => by
    refine k5 tg ?_
    show Steps p.tables e below (T4.setTop (mkF m 15 #[.val (.ref a), .val (.ref x)] [])) tg
    refine XS.goto X4.here hx rfl (pc0 := 15) (pc' := 29) rfl (hb hby d9_15) (by decide) (by decide) ?_
    refine XS.aloadN X4.here hx rfl (hb hby d9_29) rfl rfl ?_
    exact kg
  have f7 : Fld Z h4 x "dev/triadic/policy/TextLines$Line" "after" "Ldev/triadic/policy/TextLines$Line;" (.ref nx) := (X_5.other W4 (Or.inl (by first | exact own_ne (by omega) | assumption | (apply Ne.symm; assumption))))
  have k8 : Rch p e below (s₁.setTop (entryFrame m #[(.ref a), (.ref x)] 2)) T4 (mkF m 48 #[.val (.ref a), .val (.ref x)] [(.ref x)]) := fun tg kg => by
    refine k6 tg ?_
    show Steps p.tables e below (T4.setTop (mkF m 30 #[.val (.ref a), .val (.ref x)] [(.ref x)])) tg
    refine own_getFR X4 hx hZ hown (hw _ (List.mem_of_getElem? (i := 47) rfl)) e4 f7 (g := (mkF m 30 #[.val (.ref a), .val (.ref x)] [(.ref x)])) rfl rfl (hb hby d9_30) _ ?_
    refine XS.ifnonnullYes X4.here hx rfl (pc0 := 33) (pc' := 47) rfl (hb hby d9_33) rfl (by decide) (by decide) ?_
    refine XS.aloadN X4.here hx rfl (hb hby d9_47) rfl rfl ?_
    exact kg
  have k9 : Rch p e below (s₁.setTop (entryFrame m #[(.ref a), (.ref x)] 2)) T4 (mkF m 52 #[.val (.ref a), .val (.ref x)] [(.ref x), (.ref nx)]) := fun tg kg => by
    refine k8 tg ?_
    show Steps p.tables e below (T4.setTop (mkF m 48 #[.val (.ref a), .val (.ref x)] [(.ref x)])) tg
    refine own_getFR X4 hx hZ hown (hw _ (List.mem_of_getElem? (i := 47) rfl)) e4 f7 (g := (mkF m 48 #[.val (.ref a), .val (.ref x)] [(.ref x)])) rfl rfl (hb hby d9_48) _ ?_
    refine XS.aloadN X4.here hx rfl (hb hby d9_51) rfl rfl ?_
    exact kg
  have f10 : Fld Z h4 x "dev/triadic/policy/TextLines$Line" "before" "Ldev/triadic/policy/TextLines$Line;" .null := (X_4.other W4 (Or.inl (by first | exact own_ne (by omega) | assumption | (apply Ne.symm; assumption))))
  have k11 : Rch p e below (s₁.setTop (entryFrame m #[(.ref a), (.ref x)] 2)) T4 (mkF m 55 #[.val (.ref a), .val (.ref x)] [.null, (.ref nx)]) := fun tg kg => by
    refine k9 tg ?_
    show Steps p.tables e below (T4.setTop (mkF m 52 #[.val (.ref a), .val (.ref x)] [(.ref x), (.ref nx)])) tg
    refine own_getFR X4 hx hZ hown (hw _ (List.mem_of_getElem? (i := 37) rfl)) e4 f10 (g := (mkF m 52 #[.val (.ref a), .val (.ref x)] [(.ref x), (.ref nx)])) rfl rfl (hb hby d9_52) _ ?_
    exact kg
  have f12 : Fld Z h4 nx "dev/triadic/policy/TextLines$Line" "before" "Ldev/triadic/policy/TextLines$Line;" (.ref x) := (N_4.other W4 (Or.inl (by first | exact own_ne (by omega) | assumption | (apply Ne.symm; assumption))))
  have f13 : Exa Z h4 nx "dev/triadic/policy/TextLines$Line" := (N_0.wr W4)
  obtain ⟨T14, h14, X14, e14, W14, st14⟩ := own_putFR X4 hx hZ hown (hw _ (List.mem_of_getElem? (i := 37) rfl)) e4 f12 f13 (hw _ (List.mem_of_getElem? (i := 38) rfl)) (hw _ (List.mem_of_getElem? (i := 21) rfl)) (ty := (.object "dev/triadic/policy/TextLines$Line")) (by decide) rfl rfl (g := (mkF m 55 #[.val (.ref a), .val (.ref x)] [.null, (.ref nx)])) rfl rfl (hb hby d9_55)
  have Fw14 := f12.same W14
  have s14 : h14.size = h4.size := W14.size
  have N14 := Fr.snoc X14 N4 (by omega : n0 ≤ nx)
  have k15 : Rch p e below (s₁.setTop (entryFrame m #[(.ref a), (.ref x)] 2)) T14 (mkF m 58 #[.val (.ref a), .val (.ref x)] []) := fun tg kg => k11 tg (st14 tg kg)
  have k16 : Rch p e below (s₁.setTop (entryFrame m #[(.ref a), (.ref x)] 2)) T14 (mkF m 60 #[.val (.ref a), .val (.ref x)] [(.ref a), (.ref a)]) := fun tg kg => by
    refine k15 tg ?_
    show Steps p.tables e below (T14.setTop (mkF m 58 #[.val (.ref a), .val (.ref x)] [])) tg
    refine XS.aloadN X14.here hx rfl (hb hby d9_58) rfl rfl ?_
    refine XS.dup X14.here hx rfl (hb hby d9_59) rfl rfl ?_
    exact kg
  have f17 : Fld Z h14 a "dev/triadic/policy/TextLines" "length" "I" (.int L0) := ((T_3.other W4 (Or.inr (slot_ne (Or.inl (hw _ (List.mem_of_getElem? (i := 42) rfl))) (Or.inl (hw _ (List.mem_of_getElem? (i := 40) rfl))) (by decide) (t := .int) (t' := (.object "dev/triadic/policy/TextLines$Line")) (by decide) (by decide)))).other W14 (Or.inl (by first | exact own_ne (by omega) | assumption | (apply Ne.symm; assumption))))
  obtain ⟨T18, X18, e18, st18⟩ := getF X14 hx hZ hown (host := "") (Or.inl (hw _ (List.mem_of_getElem? (i := 41) rfl))) Via.refl e14 f17 (g := (mkF m 60 #[.val (.ref a), .val (.ref x)] [(.ref a), (.ref a)])) rfl rfl (hb hby d9_60)
  have k19 : Rch p e below (s₁.setTop (entryFrame m #[(.ref a), (.ref x)] 2)) T18 (mkF m 63 #[.val (.ref a), .val (.ref x)] [(.int L0), (.ref a)]) := fun tg kg => k16 tg (st18 tg kg)
  have k20 : Rch p e below (s₁.setTop (entryFrame m #[(.ref a), (.ref x)] 2)) T18 (mkF m 64 #[.val (.ref a), .val (.ref x)] [(.ref x), (.int L0), (.ref a)]) := fun tg kg => by
    refine k19 tg ?_
    show Steps p.tables e below (T18.setTop (mkF m 63 #[.val (.ref a), .val (.ref x)] [(.int L0), (.ref a)])) tg
    refine XS.aloadN X18.here hx rfl (hb hby d9_63) rfl rfl ?_
    exact kg
  have f22 : Fld Z h14 x "dev/triadic/policy/TextLines$Line" "from" "I" (.int fx) := ((X_2.other W4 (Or.inl (by first | exact own_ne (by omega) | assumption | (apply Ne.symm; assumption)))).other W14 (Or.inl (by first | exact own_ne (by omega) | assumption | (apply Ne.symm; assumption))))
  have f23 : Fld Z h14 x "dev/triadic/policy/TextLines$Line" "to" "I" (.int ex) := ((X_3.other W4 (Or.inl (by first | exact own_ne (by omega) | assumption | (apply Ne.symm; assumption)))).other W14 (Or.inl (by first | exact own_ne (by omega) | assumption | (apply Ne.symm; assumption))))
  have f24 : Exa Z h14 x "dev/triadic/policy/TextLines$Line" := ((X_0.wr W4).wr W14)
  obtain ⟨v21, T21, h21, Lc21, X21, e21, hQ21, st21⟩ := own_callPR X18 hx hZ hown (hw _ (List.mem_of_getElem? (i := 43) rfl)) (hw _ (List.mem_of_getElem? (i := 44) rfl)) (hw _ (List.mem_of_getElem? (i := 45) rfl)) (hw _ (List.mem_of_getElem? (i := 21) rfl)) (hw _ (List.mem_of_getElem? (i := 22) rfl)) (hw _ (List.mem_of_getElem? (i := 46) rfl)) (by decide) (rm_len l Z a0 hw [] x fx ex lx h14 n0 (by omega) f22 f23 hlx) e18 f24 (g := (mkF m 64 #[.val (.ref a), .val (.ref x)] [(.ref x), (.int L0), (.ref a)])) rfl (by rw [hml]; rfl) (argsL := []) (rest := [(.int L0), (.ref a)]) rfl (lenOf pd_1 rfl) rfl (W := 2) (by show 2 * 0 + _ ≤ _; exact Nat.le_of_eq rfl) (hb hby d9_64) (by decide) (by decide) (by decide) (by decide)
  obtain ⟨rfl, Nq21, hs21⟩ := hQ21
  have N21 := Fr.app N14 Nq21
  have e21' : T21.heap = h14 := e21.trans hs21
  have k25 : Rch p e below (s₁.setTop (entryFrame m #[(.ref a), (.ref x)] 2)) T21 (mkF m 67 #[.val (.ref a), .val (.ref x)] [(.int lx), (.int L0), (.ref a)]) := fun tg kg => k20 tg (st21 tg kg)
  have k26 : Rch p e below (s₁.setTop (entryFrame m #[(.ref a), (.ref x)] 2)) T21 (mkF m 68 #[.val (.ref a), .val (.ref x)] [(.int (L0 - lx)), (.ref a)]) := fun tg kg => by
    refine k25 tg ?_
    show Steps p.tables e below (T21.setTop (mkF m 67 #[.val (.ref a), .val (.ref x)] [(.int lx), (.int L0), (.ref a)])) tg
    refine XS.isub X21.here hx rfl (hb hby d9_67) rfl ?_
    exact kg
  have f27 : Exa Z h14 a "dev/triadic/policy/TextLines" := ((T_0.wr W4).wr W14)
  obtain ⟨T28, h28, X28, e28, W28, st28⟩ := putF X21 hx hZ hown (host := "") (Or.inl (hw _ (List.mem_of_getElem? (i := 41) rfl))) Via.refl e21' f17 f27 (Or.inl (hw _ (List.mem_of_getElem? (i := 42) rfl))) (hw _ (List.mem_of_getElem? (i := 7) rfl)) (ty := .int) (by decide) rfl rfl (g := (mkF m 68 #[.val (.ref a), .val (.ref x)] [(.int (L0 - lx)), (.ref a)])) rfl rfl (hb hby d9_68)
  have Fw28 := f17.same W28
  have s28 : h28.size = h14.size := W28.size
  have N28 := Fr.snoc X28 N21 (by omega : n0 ≤ a)
  have k29 : Rch p e below (s₁.setTop (entryFrame m #[(.ref a), (.ref x)] 2)) T28 (mkF m 71 #[.val (.ref a), .val (.ref x)] []) := fun tg kg => k26 tg (st28 tg kg)
  have f30 : Exa Z h28 a "dev/triadic/policy/TextLines" := (f27.wr W28)
  have f31 : Fld Z h28 a "dev/triadic/policy/TextLines" "first" "Ldev/triadic/policy/TextLines$Line;" (.ref nx) := ((Fw4.other W14 (Or.inl (by first | exact own_ne (by omega) | assumption | (apply Ne.symm; assumption)))).other W28 (Or.inr (slot_ne (Or.inl (hw _ (List.mem_of_getElem? (i := 40) rfl))) (Or.inl (hw _ (List.mem_of_getElem? (i := 42) rfl))) (by decide) (t := (.object "dev/triadic/policy/TextLines$Line")) (t' := .int) (by decide) (by decide))))
  have f32 : Fld Z h28 a "dev/triadic/policy/TextLines" "last" "Ldev/triadic/policy/TextLines$Line;" la := (((T_2.other W4 (Or.inr (slot_ne (Or.inl (hw _ (List.mem_of_getElem? (i := 36) rfl))) (Or.inl (hw _ (List.mem_of_getElem? (i := 40) rfl))) (by decide) (t := (.object "dev/triadic/policy/TextLines$Line")) (t' := (.object "dev/triadic/policy/TextLines$Line")) (by decide) (by decide)))).other W14 (Or.inl (by first | exact own_ne (by omega) | assumption | (apply Ne.symm; assumption)))).other W28 (Or.inr (slot_ne (Or.inl (hw _ (List.mem_of_getElem? (i := 36) rfl))) (Or.inl (hw _ (List.mem_of_getElem? (i := 42) rfl))) (by decide) (t := (.object "dev/triadic/policy/TextLines$Line")) (t' := .int) (by decide) (by decide))))
  have f33 : Exa Z h28 nx "dev/triadic/policy/TextLines$Line" := ((f13.wr W14).wr W28)
  have f34 : Fld Z h28 nx "dev/triadic/policy/TextLines$Line" "bytes" "[B" (.ref tn) := (((N_1.other W4 (Or.inl (by first | exact own_ne (by omega) | assumption | (apply Ne.symm; assumption)))).other W14 (Or.inr (slot_ne (Or.inl (hw _ (List.mem_of_getElem? (i := 28) rfl))) (Or.inl (hw _ (List.mem_of_getElem? (i := 38) rfl))) (by decide) (t := (.array .byte)) (t' := (.object "dev/triadic/policy/TextLines$Line")) (by decide) (by decide)))).other W28 (Or.inl (by first | exact own_ne (by omega) | assumption | (apply Ne.symm; assumption))))
  have f35 : Fld Z h28 nx "dev/triadic/policy/TextLines$Line" "from" "I" (.int fn) := (((N_2.other W4 (Or.inl (by first | exact own_ne (by omega) | assumption | (apply Ne.symm; assumption)))).other W14 (Or.inr (slot_ne (Or.inl (hw _ (List.mem_of_getElem? (i := 30) rfl))) (Or.inl (hw _ (List.mem_of_getElem? (i := 38) rfl))) (by decide) (t := .int) (t' := (.object "dev/triadic/policy/TextLines$Line")) (by decide) (by decide)))).other W28 (Or.inl (by first | exact own_ne (by omega) | assumption | (apply Ne.symm; assumption))))
  have f36 : Fld Z h28 nx "dev/triadic/policy/TextLines$Line" "to" "I" (.int en) := (((N_3.other W4 (Or.inl (by first | exact own_ne (by omega) | assumption | (apply Ne.symm; assumption)))).other W14 (Or.inr (slot_ne (Or.inl (hw _ (List.mem_of_getElem? (i := 34) rfl))) (Or.inl (hw _ (List.mem_of_getElem? (i := 38) rfl))) (by decide) (t := .int) (t' := (.object "dev/triadic/policy/TextLines$Line")) (by decide) (by decide)))).other W28 (Or.inl (by first | exact own_ne (by omega) | assumption | (apply Ne.symm; assumption))))
  have f37 : Fld Z h28 nx "dev/triadic/policy/TextLines$Line" "before" "Ldev/triadic/policy/TextLines$Line;" .null := (Fw14.other W28 (Or.inl (by first | exact own_ne (by omega) | assumption | (apply Ne.symm; assumption))))
  have f38 : Fld Z h28 nx "dev/triadic/policy/TextLines$Line" "after" "Ldev/triadic/policy/TextLines$Line;" an := (((N_5.other W4 (Or.inl (by first | exact own_ne (by omega) | assumption | (apply Ne.symm; assumption)))).other W14 (Or.inr (slot_ne (Or.inl (hw _ (List.mem_of_getElem? (i := 48) rfl))) (Or.inl (hw _ (List.mem_of_getElem? (i := 38) rfl))) (by decide) (t := (.object "dev/triadic/policy/TextLines$Line")) (t' := (.object "dev/triadic/policy/TextLines$Line")) (by decide) (by decide)))).other W28 (Or.inl (by first | exact own_ne (by omega) | assumption | (apply Ne.symm; assumption))))
  obtain ⟨fs39, hr39, hrun39, hended39, hW39, hsame39⟩ := X28.leave (v := none) (fun _ => rfl)
  refine ⟨_, _, k29 _ ?_, hrun39, hended39, _, _, rfl, ?_, ⟨_, rfl⟩, hW39, hsame39.mono (by decide) (by decide)⟩
  · exact X28.returnOut hx Bd.returns (hb hby d9_71) hr39
  · show Q_rm_rem0 Z a x tx fx ex lx L0 fi la nx tn fn en an h0 n0 _ T28.heap _
    rw [e28]
    exact ⟨rfl, N28, ((((Keep.refl h0 [a, nx]).wr W4 (Or.inl (List.mem_of_getElem? (i := 0) rfl))).wr W14 (Or.inl (List.mem_of_getElem? (i := 1) rfl))).wr W28 (Or.inl (List.mem_of_getElem? (i := 0) rfl))), f30, f31, f32, Fw28, f33, f34, f35, f36, f37, f38⟩
theorem ef_rm_rem1 (m : MethodId) (x0 : Addr) (x1 : Addr) : entryFrame m #[(.ref x0), (.ref x1)] 2 = mkF m 0 #[.val (.ref x0), .val (.ref x1)] [] := by first | (simp [entryFrame, mkF, argsToLocals, Value.category]; done) | rfl
def Q_rm_rem1 (Z : State) (a : Addr) (x : Addr) (tx : Addr) (fx : Int32) (ex : Int32) (lx : Int32) (L0 : Int32) (fi : Value) (la : Value) (pp : Addr) (tp : Addr) (fp : Int32) (ep : Int32) (bp : Value) (nx : Addr) (tn : Addr) (fn : Int32) (en : Int32) (an : Value) (h0 : Heap) (n0 : Nat) (v : Option Value) (h : Heap) (L : List Loc) : Prop := (v = none) ∧ (Fr n0 L) ∧ (Keep h0 h [a, pp, nx]) ∧ (Exa Z h a "dev/triadic/policy/TextLines") ∧ (Fld Z h a "dev/triadic/policy/TextLines" "first" "Ldev/triadic/policy/TextLines$Line;" fi) ∧ (Fld Z h a "dev/triadic/policy/TextLines" "last" "Ldev/triadic/policy/TextLines$Line;" la) ∧ (Fld Z h a "dev/triadic/policy/TextLines" "length" "I" (.int (L0 - lx))) ∧ (Exa Z h pp "dev/triadic/policy/TextLines$Line") ∧ (Fld Z h pp "dev/triadic/policy/TextLines$Line" "bytes" "[B" (.ref tp)) ∧ (Fld Z h pp "dev/triadic/policy/TextLines$Line" "from" "I" (.int fp)) ∧ (Fld Z h pp "dev/triadic/policy/TextLines$Line" "to" "I" (.int ep)) ∧ (Fld Z h pp "dev/triadic/policy/TextLines$Line" "before" "Ldev/triadic/policy/TextLines$Line;" bp) ∧ (Fld Z h pp "dev/triadic/policy/TextLines$Line" "after" "Ldev/triadic/policy/TextLines$Line;" (.ref nx)) ∧ (Exa Z h nx "dev/triadic/policy/TextLines$Line") ∧ (Fld Z h nx "dev/triadic/policy/TextLines$Line" "bytes" "[B" (.ref tn)) ∧ (Fld Z h nx "dev/triadic/policy/TextLines$Line" "from" "I" (.int fn)) ∧ (Fld Z h nx "dev/triadic/policy/TextLines$Line" "to" "I" (.int en)) ∧ (Fld Z h nx "dev/triadic/policy/TextLines$Line" "before" "Ldev/triadic/policy/TextLines$Line;" (.ref pp)) ∧ (Fld Z h nx "dev/triadic/policy/TextLines$Line" "after" "Ldev/triadic/policy/TextLines$Line;" an)
theorem d9_18 : decode prog_75_method_5_code 18 = .ok (.aload_n 1, 1) := by decide +kernel
theorem d9_19 : decode prog_75_method_5_code 19 = .ok (.getfield 22, 3) := by decide +kernel
theorem d9_22 : decode prog_75_method_5_code 22 = .ok (.aload_n 1, 1) := by decide +kernel
theorem d9_23 : decode prog_75_method_5_code 23 = .ok (.getfield 28, 3) := by decide +kernel
theorem d9_26 : decode prog_75_method_5_code 26 = .ok (.putfield 28, 3) := by decide +kernel
set_option maxRecDepth 65536 in
set_option maxHeartbeats 40000000 in
theorem rm_rem1 (l : Launch) (Z : State) (a0 : Array Value) (hw : ∀ d ∈ tables_1, d.before a0 Z = true) (ws : List Jvm.Cond) (a : Addr) (x : Addr) (tx : Addr) (fx : Int32) (ex : Int32) (lx : Int32) (L0 : Int32) (fi : Value) (la : Value) (pp : Addr) (tp : Addr) (fp : Int32) (ep : Int32) (bp : Value) (nx : Addr) (tn : Addr) (fn : Int32) (en : Int32) (an : Value) (h0 : Heap) (n0 : Nat) (Z0 : n0 ≤ h0.size) (T_0 : Exa Z h0 a "dev/triadic/policy/TextLines") (T_1 : Fld Z h0 a "dev/triadic/policy/TextLines" "first" "Ldev/triadic/policy/TextLines$Line;" fi) (T_2 : Fld Z h0 a "dev/triadic/policy/TextLines" "last" "Ldev/triadic/policy/TextLines$Line;" la) (T_3 : Fld Z h0 a "dev/triadic/policy/TextLines" "length" "I" (.int L0)) (X_0 : Exa Z h0 x "dev/triadic/policy/TextLines$Line") (X_1 : Fld Z h0 x "dev/triadic/policy/TextLines$Line" "bytes" "[B" (.ref tx)) (X_2 : Fld Z h0 x "dev/triadic/policy/TextLines$Line" "from" "I" (.int fx)) (X_3 : Fld Z h0 x "dev/triadic/policy/TextLines$Line" "to" "I" (.int ex)) (X_4 : Fld Z h0 x "dev/triadic/policy/TextLines$Line" "before" "Ldev/triadic/policy/TextLines$Line;" (.ref pp)) (X_5 : Fld Z h0 x "dev/triadic/policy/TextLines$Line" "after" "Ldev/triadic/policy/TextLines$Line;" (.ref nx)) (hlx : ex - fx = lx) (g_a : n0 ≤ a) (hax : a ≠ x) (P_0 : Exa Z h0 pp "dev/triadic/policy/TextLines$Line") (P_1 : Fld Z h0 pp "dev/triadic/policy/TextLines$Line" "bytes" "[B" (.ref tp)) (P_2 : Fld Z h0 pp "dev/triadic/policy/TextLines$Line" "from" "I" (.int fp)) (P_3 : Fld Z h0 pp "dev/triadic/policy/TextLines$Line" "to" "I" (.int ep)) (P_4 : Fld Z h0 pp "dev/triadic/policy/TextLines$Line" "before" "Ldev/triadic/policy/TextLines$Line;" bp) (P_5 : Fld Z h0 pp "dev/triadic/policy/TextLines$Line" "after" "Ldev/triadic/policy/TextLines$Line;" (.ref x)) (g_p : n0 ≤ pp) (hap : a ≠ pp) (hpx : pp ≠ x) (N_0 : Exa Z h0 nx "dev/triadic/policy/TextLines$Line") (N_1 : Fld Z h0 nx "dev/triadic/policy/TextLines$Line" "bytes" "[B" (.ref tn)) (N_2 : Fld Z h0 nx "dev/triadic/policy/TextLines$Line" "from" "I" (.int fn)) (N_3 : Fld Z h0 nx "dev/triadic/policy/TextLines$Line" "to" "I" (.int en)) (N_4 : Fld Z h0 nx "dev/triadic/policy/TextLines$Line" "before" "Ldev/triadic/policy/TextLines$Line;" (.ref x)) (N_5 : Fld Z h0 nx "dev/triadic/policy/TextLines$Line" "after" "Ldev/triadic/policy/TextLines$Line;" an) (g_n : n0 ≤ nx) (han : a ≠ nx) (hnx : nx ≠ x) (hpn : pp ≠ nx) :
    Con l Z (⟨"dev/triadic/policy/TextLines", "remove", "(Ldev/triadic/policy/TextLines$Line;)V"⟩ : MethodName) prog_75_method_5_code 2 none ws ({ frames := 1, cells := 0, slots := 0, locals := 14 } : Room) #[(.ref a), (.ref x)] h0 (Q_rm_rem1 Z a x tx fx ex lx L0 fi la pp tp fp ep bp nx tn fn en an h0 n0) := by
  refine MetFree.of_bodySF (plainFor_of_name pn_TextLines) hisR ?_
  intro p e s m args below meth c s₁ Bd hml0 hP hK
  obtain ⟨rfl, hZ, hh⟩ := hP
  have hx := Bd.exec
  have hby := Bd.bytes
  have hml : c.maxLocals = 2 := hml0
  have hown : s.vm.findClass "dev/triadic/policy/TextLines" = some m.cls := findClass_of_methodNamed Bd.named
  have hnm := (name_of_methodNamed Bd.named Bd.method).1
  have X0 : Stand p l e ({ frames := 1, cells := 0, slots := 0, locals := 14 } : Room) s m #[(.ref a), (.ref x)] below meth c s₁ [] 0 0 := Stand.of_body Bd
  have e0 : s₁.heap = h0 := by rw [← hh, Bd.state]; rfl
  have N0 := Fr.nil n0
  have k0 : Rch p e below (s₁.setTop (entryFrame m #[(.ref a), (.ref x)] 2)) s₁ (mkF m 0 #[.val (.ref a), .val (.ref x)] []) := fun tg kg => castTop (ef_rm_rem1 m a x) kg
  have lt_T_0 := own_ltN T_0.lt
  have lt_T_1 := own_ltN T_1.lt
  have lt_T_2 := own_ltN T_2.lt
  have lt_T_3 := own_ltN T_3.lt
  have lt_X_0 := own_ltN X_0.lt
  have lt_X_1 := own_ltN X_1.lt
  have lt_X_2 := own_ltN X_2.lt
  have lt_X_3 := own_ltN X_3.lt
  have lt_X_4 := own_ltN X_4.lt
  have lt_X_5 := own_ltN X_5.lt
  have n_hax := own_neN hax
  have lt_P_0 := own_ltN P_0.lt
  have lt_P_1 := own_ltN P_1.lt
  have lt_P_2 := own_ltN P_2.lt
  have lt_P_3 := own_ltN P_3.lt
  have lt_P_4 := own_ltN P_4.lt
  have lt_P_5 := own_ltN P_5.lt
  have n_hap := own_neN hap
  have n_hpx := own_neN hpx
  have lt_N_0 := own_ltN N_0.lt
  have lt_N_1 := own_ltN N_1.lt
  have lt_N_2 := own_ltN N_2.lt
  have lt_N_3 := own_ltN N_3.lt
  have lt_N_4 := own_ltN N_4.lt
  have lt_N_5 := own_ltN N_5.lt
  have n_han := own_neN han
  have n_hnx := own_neN hnx
  have n_hpn := own_neN hpn
  have k1 : Rch p e below (s₁.setTop (entryFrame m #[(.ref a), (.ref x)] 2)) s₁ (mkF m 1 #[.val (.ref a), .val (.ref x)] [(.ref x)]) := fun tg kg => by
    refine k0 tg ?_
    show Steps p.tables e below (s₁.setTop (mkF m 0 #[.val (.ref a), .val (.ref x)] [])) tg
    refine XS.aloadN X0.here hx rfl (hb hby d9_0) rfl rfl ?_
    exact kg
  have k2 : Rch p e below (s₁.setTop (entryFrame m #[(.ref a), (.ref x)] 2)) s₁ (mkF m 19 #[.val (.ref a), .val (.ref x)] [(.ref x)]) := fun tg kg => by
    refine k1 tg ?_
    show Steps p.tables e below (s₁.setTop (mkF m 1 #[.val (.ref a), .val (.ref x)] [(.ref x)])) tg
    refine own_getFR X0 hx hZ hown (hw _ (List.mem_of_getElem? (i := 37) rfl)) e0 X_4 (g := (mkF m 1 #[.val (.ref a), .val (.ref x)] [(.ref x)])) rfl rfl (hb hby d9_1) _ ?_
    refine XS.ifnonnullYes X0.here hx rfl (pc0 := 4) (pc' := 18) rfl (hb hby d9_4) rfl (by decide) (by decide) ?_
    refine XS.aloadN X0.here hx rfl (hb hby d9_18) rfl rfl ?_
    exact kg
  have k3 : Rch p e below (s₁.setTop (entryFrame m #[(.ref a), (.ref x)] 2)) s₁ (mkF m 23 #[.val (.ref a), .val (.ref x)] [(.ref x), (.ref pp)]) := fun tg kg => by
    refine k2 tg ?_
    show Steps p.tables e below (s₁.setTop (mkF m 19 #[.val (.ref a), .val (.ref x)] [(.ref x)])) tg
    refine own_getFR X0 hx hZ hown (hw _ (List.mem_of_getElem? (i := 37) rfl)) e0 X_4 (g := (mkF m 19 #[.val (.ref a), .val (.ref x)] [(.ref x)])) rfl rfl (hb hby d9_19) _ ?_
    show Steps p.tables e below (s₁.setTop (mkF m 22 #[.val (.ref a), .val (.ref x)] [(.ref pp)])) tg
    refine XS.aloadN X0.here hx rfl (hb hby d9_22) rfl rfl ?_
    exact kg
  have k4 : Rch p e below (s₁.setTop (entryFrame m #[(.ref a), (.ref x)] 2)) s₁ (mkF m 26 #[.val (.ref a), .val (.ref x)] [(.ref nx), (.ref pp)]) := fun tg kg => by
    refine k3 tg ?_
    show Steps p.tables e below (s₁.setTop (mkF m 23 #[.val (.ref a), .val (.ref x)] [(.ref x), (.ref pp)])) tg
    refine own_getFR X0 hx hZ hown (hw _ (List.mem_of_getElem? (i := 47) rfl)) e0 X_5 (g := (mkF m 23 #[.val (.ref a), .val (.ref x)] [(.ref x), (.ref pp)])) rfl rfl (hb hby d9_23) _ ?_
    exact kg
  obtain ⟨T5, h5, X5, e5, W5, st5⟩ := own_putFR X0 hx hZ hown (hw _ (List.mem_of_getElem? (i := 47) rfl)) e0 P_5 P_0 (hw _ (List.mem_of_getElem? (i := 48) rfl)) (hw _ (List.mem_of_getElem? (i := 21) rfl)) (ty := (.object "dev/triadic/policy/TextLines$Line")) (by decide) rfl rfl (g := (mkF m 26 #[.val (.ref a), .val (.ref x)] [(.ref nx), (.ref pp)])) rfl rfl (hb hby d9_26)
  have Fw5 := P_5.same W5
  have s5 : h5.size = h0.size := W5.size
  have N5 := Fr.snoc X5 N0 (by omega : n0 ≤ pp)
  have k6 : Rch p e below (s₁.setTop (entryFrame m #[(.ref a), (.ref x)] 2)) T5 (mkF m 29 #[.val (.ref a), .val (.ref x)] []) := fun tg kg => k4 tg (st5 tg kg)
  have k7 : Rch p e below (s₁.setTop (entryFrame m #[(.ref a), (.ref x)] 2)) T5 (mkF m 30 #[.val (.ref a), .val (.ref x)] [(.ref x)]) := fun tg kg => by
    refine k6 tg ?_
    show Steps p.tables e below (T5.setTop (mkF m 29 #[.val (.ref a), .val (.ref x)] [])) tg
    refine XS.aloadN X5.here hx rfl (hb hby d9_29) rfl rfl ?_
    exact kg
  have f8 : Fld Z h5 x "dev/triadic/policy/TextLines$Line" "after" "Ldev/triadic/policy/TextLines$Line;" (.ref nx) := (X_5.other W5 (Or.inl (by first | exact own_ne (by omega) | assumption | (apply Ne.symm; assumption))))
  have k9 : Rch p e below (s₁.setTop (entryFrame m #[(.ref a), (.ref x)] 2)) T5 (mkF m 48 #[.val (.ref a), .val (.ref x)] [(.ref x)]) := fun tg kg => by
    refine k7 tg ?_
    show Steps p.tables e below (T5.setTop (mkF m 30 #[.val (.ref a), .val (.ref x)] [(.ref x)])) tg
    refine own_getFR X5 hx hZ hown (hw _ (List.mem_of_getElem? (i := 47) rfl)) e5 f8 (g := (mkF m 30 #[.val (.ref a), .val (.ref x)] [(.ref x)])) rfl rfl (hb hby d9_30) _ ?_
    refine XS.ifnonnullYes X5.here hx rfl (pc0 := 33) (pc' := 47) rfl (hb hby d9_33) rfl (by decide) (by decide) ?_
    refine XS.aloadN X5.here hx rfl (hb hby d9_47) rfl rfl ?_
    exact kg
  have k10 : Rch p e below (s₁.setTop (entryFrame m #[(.ref a), (.ref x)] 2)) T5 (mkF m 52 #[.val (.ref a), .val (.ref x)] [(.ref x), (.ref nx)]) := fun tg kg => by
    refine k9 tg ?_
    show Steps p.tables e below (T5.setTop (mkF m 48 #[.val (.ref a), .val (.ref x)] [(.ref x)])) tg
    refine own_getFR X5 hx hZ hown (hw _ (List.mem_of_getElem? (i := 47) rfl)) e5 f8 (g := (mkF m 48 #[.val (.ref a), .val (.ref x)] [(.ref x)])) rfl rfl (hb hby d9_48) _ ?_
    refine XS.aloadN X5.here hx rfl (hb hby d9_51) rfl rfl ?_
    exact kg
  have f11 : Fld Z h5 x "dev/triadic/policy/TextLines$Line" "before" "Ldev/triadic/policy/TextLines$Line;" (.ref pp) := (X_4.other W5 (Or.inl (by first | exact own_ne (by omega) | assumption | (apply Ne.symm; assumption))))
  have k12 : Rch p e below (s₁.setTop (entryFrame m #[(.ref a), (.ref x)] 2)) T5 (mkF m 55 #[.val (.ref a), .val (.ref x)] [(.ref pp), (.ref nx)]) := fun tg kg => by
    refine k10 tg ?_
    show Steps p.tables e below (T5.setTop (mkF m 52 #[.val (.ref a), .val (.ref x)] [(.ref x), (.ref nx)])) tg
    refine own_getFR X5 hx hZ hown (hw _ (List.mem_of_getElem? (i := 37) rfl)) e5 f11 (g := (mkF m 52 #[.val (.ref a), .val (.ref x)] [(.ref x), (.ref nx)])) rfl rfl (hb hby d9_52) _ ?_
    exact kg
  have f13 : Fld Z h5 nx "dev/triadic/policy/TextLines$Line" "before" "Ldev/triadic/policy/TextLines$Line;" (.ref x) := (N_4.other W5 (Or.inl (by first | exact own_ne (by omega) | assumption | (apply Ne.symm; assumption))))
  have f14 : Exa Z h5 nx "dev/triadic/policy/TextLines$Line" := (N_0.wr W5)
  obtain ⟨T15, h15, X15, e15, W15, st15⟩ := own_putFR X5 hx hZ hown (hw _ (List.mem_of_getElem? (i := 37) rfl)) e5 f13 f14 (hw _ (List.mem_of_getElem? (i := 38) rfl)) (hw _ (List.mem_of_getElem? (i := 21) rfl)) (ty := (.object "dev/triadic/policy/TextLines$Line")) (by decide) rfl rfl (g := (mkF m 55 #[.val (.ref a), .val (.ref x)] [(.ref pp), (.ref nx)])) rfl rfl (hb hby d9_55)
  have Fw15 := f13.same W15
  have s15 : h15.size = h5.size := W15.size
  have N15 := Fr.snoc X15 N5 (by omega : n0 ≤ nx)
  have k16 : Rch p e below (s₁.setTop (entryFrame m #[(.ref a), (.ref x)] 2)) T15 (mkF m 58 #[.val (.ref a), .val (.ref x)] []) := fun tg kg => k12 tg (st15 tg kg)
  have k17 : Rch p e below (s₁.setTop (entryFrame m #[(.ref a), (.ref x)] 2)) T15 (mkF m 60 #[.val (.ref a), .val (.ref x)] [(.ref a), (.ref a)]) := fun tg kg => by
    refine k16 tg ?_
    show Steps p.tables e below (T15.setTop (mkF m 58 #[.val (.ref a), .val (.ref x)] [])) tg
    refine XS.aloadN X15.here hx rfl (hb hby d9_58) rfl rfl ?_
    refine XS.dup X15.here hx rfl (hb hby d9_59) rfl rfl ?_
    exact kg
  have f18 : Fld Z h15 a "dev/triadic/policy/TextLines" "length" "I" (.int L0) := ((T_3.other W5 (Or.inl (by first | exact own_ne (by omega) | assumption | (apply Ne.symm; assumption)))).other W15 (Or.inl (by first | exact own_ne (by omega) | assumption | (apply Ne.symm; assumption))))
  obtain ⟨T19, X19, e19, st19⟩ := getF X15 hx hZ hown (host := "") (Or.inl (hw _ (List.mem_of_getElem? (i := 41) rfl))) Via.refl e15 f18 (g := (mkF m 60 #[.val (.ref a), .val (.ref x)] [(.ref a), (.ref a)])) rfl rfl (hb hby d9_60)
  have k20 : Rch p e below (s₁.setTop (entryFrame m #[(.ref a), (.ref x)] 2)) T19 (mkF m 63 #[.val (.ref a), .val (.ref x)] [(.int L0), (.ref a)]) := fun tg kg => k17 tg (st19 tg kg)
  have k21 : Rch p e below (s₁.setTop (entryFrame m #[(.ref a), (.ref x)] 2)) T19 (mkF m 64 #[.val (.ref a), .val (.ref x)] [(.ref x), (.int L0), (.ref a)]) := fun tg kg => by
    refine k20 tg ?_
    show Steps p.tables e below (T19.setTop (mkF m 63 #[.val (.ref a), .val (.ref x)] [(.int L0), (.ref a)])) tg
    refine XS.aloadN X19.here hx rfl (hb hby d9_63) rfl rfl ?_
    exact kg
  have f23 : Fld Z h15 x "dev/triadic/policy/TextLines$Line" "from" "I" (.int fx) := ((X_2.other W5 (Or.inl (by first | exact own_ne (by omega) | assumption | (apply Ne.symm; assumption)))).other W15 (Or.inl (by first | exact own_ne (by omega) | assumption | (apply Ne.symm; assumption))))
  have f24 : Fld Z h15 x "dev/triadic/policy/TextLines$Line" "to" "I" (.int ex) := ((X_3.other W5 (Or.inl (by first | exact own_ne (by omega) | assumption | (apply Ne.symm; assumption)))).other W15 (Or.inl (by first | exact own_ne (by omega) | assumption | (apply Ne.symm; assumption))))
  have f25 : Exa Z h15 x "dev/triadic/policy/TextLines$Line" := ((X_0.wr W5).wr W15)
  obtain ⟨v22, T22, h22, Lc22, X22, e22, hQ22, st22⟩ := own_callPR X19 hx hZ hown (hw _ (List.mem_of_getElem? (i := 43) rfl)) (hw _ (List.mem_of_getElem? (i := 44) rfl)) (hw _ (List.mem_of_getElem? (i := 45) rfl)) (hw _ (List.mem_of_getElem? (i := 21) rfl)) (hw _ (List.mem_of_getElem? (i := 22) rfl)) (hw _ (List.mem_of_getElem? (i := 46) rfl)) (by decide) (rm_len l Z a0 hw [] x fx ex lx h15 n0 (by omega) f23 f24 hlx) e19 f25 (g := (mkF m 64 #[.val (.ref a), .val (.ref x)] [(.ref x), (.int L0), (.ref a)])) rfl (by rw [hml]; rfl) (argsL := []) (rest := [(.int L0), (.ref a)]) rfl (lenOf pd_1 rfl) rfl (W := 2) (by show 2 * 0 + _ ≤ _; exact Nat.le_of_eq rfl) (hb hby d9_64) (by decide) (by decide) (by decide) (by decide)
  obtain ⟨rfl, Nq22, hs22⟩ := hQ22
  have N22 := Fr.app N15 Nq22
  have e22' : T22.heap = h15 := e22.trans hs22
  have k26 : Rch p e below (s₁.setTop (entryFrame m #[(.ref a), (.ref x)] 2)) T22 (mkF m 67 #[.val (.ref a), .val (.ref x)] [(.int lx), (.int L0), (.ref a)]) := fun tg kg => k21 tg (st22 tg kg)
  have k27 : Rch p e below (s₁.setTop (entryFrame m #[(.ref a), (.ref x)] 2)) T22 (mkF m 68 #[.val (.ref a), .val (.ref x)] [(.int (L0 - lx)), (.ref a)]) := fun tg kg => by
    refine k26 tg ?_
    show Steps p.tables e below (T22.setTop (mkF m 67 #[.val (.ref a), .val (.ref x)] [(.int lx), (.int L0), (.ref a)])) tg
    refine XS.isub X22.here hx rfl (hb hby d9_67) rfl ?_
    exact kg
  have f28 : Exa Z h15 a "dev/triadic/policy/TextLines" := ((T_0.wr W5).wr W15)
  obtain ⟨T29, h29, X29, e29, W29, st29⟩ := putF X22 hx hZ hown (host := "") (Or.inl (hw _ (List.mem_of_getElem? (i := 41) rfl))) Via.refl e22' f18 f28 (Or.inl (hw _ (List.mem_of_getElem? (i := 42) rfl))) (hw _ (List.mem_of_getElem? (i := 7) rfl)) (ty := .int) (by decide) rfl rfl (g := (mkF m 68 #[.val (.ref a), .val (.ref x)] [(.int (L0 - lx)), (.ref a)])) rfl rfl (hb hby d9_68)
  have Fw29 := f18.same W29
  have s29 : h29.size = h15.size := W29.size
  have N29 := Fr.snoc X29 N22 (by omega : n0 ≤ a)
  have k30 : Rch p e below (s₁.setTop (entryFrame m #[(.ref a), (.ref x)] 2)) T29 (mkF m 71 #[.val (.ref a), .val (.ref x)] []) := fun tg kg => k27 tg (st29 tg kg)
  have f31 : Exa Z h29 a "dev/triadic/policy/TextLines" := (f28.wr W29)
  have f32 : Fld Z h29 a "dev/triadic/policy/TextLines" "first" "Ldev/triadic/policy/TextLines$Line;" fi := (((T_1.other W5 (Or.inl (by first | exact own_ne (by omega) | assumption | (apply Ne.symm; assumption)))).other W15 (Or.inl (by first | exact own_ne (by omega) | assumption | (apply Ne.symm; assumption)))).other W29 (Or.inr (slot_ne (Or.inl (hw _ (List.mem_of_getElem? (i := 40) rfl))) (Or.inl (hw _ (List.mem_of_getElem? (i := 42) rfl))) (by decide) (t := (.object "dev/triadic/policy/TextLines$Line")) (t' := .int) (by decide) (by decide))))
  have f33 : Fld Z h29 a "dev/triadic/policy/TextLines" "last" "Ldev/triadic/policy/TextLines$Line;" la := (((T_2.other W5 (Or.inl (by first | exact own_ne (by omega) | assumption | (apply Ne.symm; assumption)))).other W15 (Or.inl (by first | exact own_ne (by omega) | assumption | (apply Ne.symm; assumption)))).other W29 (Or.inr (slot_ne (Or.inl (hw _ (List.mem_of_getElem? (i := 36) rfl))) (Or.inl (hw _ (List.mem_of_getElem? (i := 42) rfl))) (by decide) (t := (.object "dev/triadic/policy/TextLines$Line")) (t' := .int) (by decide) (by decide))))
  have f34 : Exa Z h29 pp "dev/triadic/policy/TextLines$Line" := (((P_0.wr W5).wr W15).wr W29)
  have f35 : Fld Z h29 pp "dev/triadic/policy/TextLines$Line" "bytes" "[B" (.ref tp) := (((P_1.other W5 (Or.inr (slot_ne (Or.inl (hw _ (List.mem_of_getElem? (i := 28) rfl))) (Or.inl (hw _ (List.mem_of_getElem? (i := 48) rfl))) (by decide) (t := (.array .byte)) (t' := (.object "dev/triadic/policy/TextLines$Line")) (by decide) (by decide)))).other W15 (Or.inl (by first | exact own_ne (by omega) | assumption | (apply Ne.symm; assumption)))).other W29 (Or.inl (by first | exact own_ne (by omega) | assumption | (apply Ne.symm; assumption))))
  have f36 : Fld Z h29 pp "dev/triadic/policy/TextLines$Line" "from" "I" (.int fp) := (((P_2.other W5 (Or.inr (slot_ne (Or.inl (hw _ (List.mem_of_getElem? (i := 30) rfl))) (Or.inl (hw _ (List.mem_of_getElem? (i := 48) rfl))) (by decide) (t := .int) (t' := (.object "dev/triadic/policy/TextLines$Line")) (by decide) (by decide)))).other W15 (Or.inl (by first | exact own_ne (by omega) | assumption | (apply Ne.symm; assumption)))).other W29 (Or.inl (by first | exact own_ne (by omega) | assumption | (apply Ne.symm; assumption))))
  have f37 : Fld Z h29 pp "dev/triadic/policy/TextLines$Line" "to" "I" (.int ep) := (((P_3.other W5 (Or.inr (slot_ne (Or.inl (hw _ (List.mem_of_getElem? (i := 34) rfl))) (Or.inl (hw _ (List.mem_of_getElem? (i := 48) rfl))) (by decide) (t := .int) (t' := (.object "dev/triadic/policy/TextLines$Line")) (by decide) (by decide)))).other W15 (Or.inl (by first | exact own_ne (by omega) | assumption | (apply Ne.symm; assumption)))).other W29 (Or.inl (by first | exact own_ne (by omega) | assumption | (apply Ne.symm; assumption))))
  have f38 : Fld Z h29 pp "dev/triadic/policy/TextLines$Line" "before" "Ldev/triadic/policy/TextLines$Line;" bp := (((P_4.other W5 (Or.inr (slot_ne (Or.inl (hw _ (List.mem_of_getElem? (i := 38) rfl))) (Or.inl (hw _ (List.mem_of_getElem? (i := 48) rfl))) (by decide) (t := (.object "dev/triadic/policy/TextLines$Line")) (t' := (.object "dev/triadic/policy/TextLines$Line")) (by decide) (by decide)))).other W15 (Or.inl (by first | exact own_ne (by omega) | assumption | (apply Ne.symm; assumption)))).other W29 (Or.inl (by first | exact own_ne (by omega) | assumption | (apply Ne.symm; assumption))))
  have f39 : Fld Z h29 pp "dev/triadic/policy/TextLines$Line" "after" "Ldev/triadic/policy/TextLines$Line;" (.ref nx) := ((Fw5.other W15 (Or.inl (by first | exact own_ne (by omega) | assumption | (apply Ne.symm; assumption)))).other W29 (Or.inl (by first | exact own_ne (by omega) | assumption | (apply Ne.symm; assumption))))
  have f40 : Exa Z h29 nx "dev/triadic/policy/TextLines$Line" := ((f14.wr W15).wr W29)
  have f41 : Fld Z h29 nx "dev/triadic/policy/TextLines$Line" "bytes" "[B" (.ref tn) := (((N_1.other W5 (Or.inl (by first | exact own_ne (by omega) | assumption | (apply Ne.symm; assumption)))).other W15 (Or.inr (slot_ne (Or.inl (hw _ (List.mem_of_getElem? (i := 28) rfl))) (Or.inl (hw _ (List.mem_of_getElem? (i := 38) rfl))) (by decide) (t := (.array .byte)) (t' := (.object "dev/triadic/policy/TextLines$Line")) (by decide) (by decide)))).other W29 (Or.inl (by first | exact own_ne (by omega) | assumption | (apply Ne.symm; assumption))))
  have f42 : Fld Z h29 nx "dev/triadic/policy/TextLines$Line" "from" "I" (.int fn) := (((N_2.other W5 (Or.inl (by first | exact own_ne (by omega) | assumption | (apply Ne.symm; assumption)))).other W15 (Or.inr (slot_ne (Or.inl (hw _ (List.mem_of_getElem? (i := 30) rfl))) (Or.inl (hw _ (List.mem_of_getElem? (i := 38) rfl))) (by decide) (t := .int) (t' := (.object "dev/triadic/policy/TextLines$Line")) (by decide) (by decide)))).other W29 (Or.inl (by first | exact own_ne (by omega) | assumption | (apply Ne.symm; assumption))))
  have f43 : Fld Z h29 nx "dev/triadic/policy/TextLines$Line" "to" "I" (.int en) := (((N_3.other W5 (Or.inl (by first | exact own_ne (by omega) | assumption | (apply Ne.symm; assumption)))).other W15 (Or.inr (slot_ne (Or.inl (hw _ (List.mem_of_getElem? (i := 34) rfl))) (Or.inl (hw _ (List.mem_of_getElem? (i := 38) rfl))) (by decide) (t := .int) (t' := (.object "dev/triadic/policy/TextLines$Line")) (by decide) (by decide)))).other W29 (Or.inl (by first | exact own_ne (by omega) | assumption | (apply Ne.symm; assumption))))
  have f44 : Fld Z h29 nx "dev/triadic/policy/TextLines$Line" "before" "Ldev/triadic/policy/TextLines$Line;" (.ref pp) := (Fw15.other W29 (Or.inl (by first | exact own_ne (by omega) | assumption | (apply Ne.symm; assumption))))
  have f45 : Fld Z h29 nx "dev/triadic/policy/TextLines$Line" "after" "Ldev/triadic/policy/TextLines$Line;" an := (((N_5.other W5 (Or.inl (by first | exact own_ne (by omega) | assumption | (apply Ne.symm; assumption)))).other W15 (Or.inr (slot_ne (Or.inl (hw _ (List.mem_of_getElem? (i := 48) rfl))) (Or.inl (hw _ (List.mem_of_getElem? (i := 38) rfl))) (by decide) (t := (.object "dev/triadic/policy/TextLines$Line")) (t' := (.object "dev/triadic/policy/TextLines$Line")) (by decide) (by decide)))).other W29 (Or.inl (by first | exact own_ne (by omega) | assumption | (apply Ne.symm; assumption))))
  obtain ⟨fs46, hr46, hrun46, hended46, hW46, hsame46⟩ := X29.leave (v := none) (fun _ => rfl)
  refine ⟨_, _, k30 _ ?_, hrun46, hended46, _, _, rfl, ?_, ⟨_, rfl⟩, hW46, hsame46.mono (by decide) (by decide)⟩
  · exact X29.returnOut hx Bd.returns (hb hby d9_71) hr46
  · show Q_rm_rem1 Z a x tx fx ex lx L0 fi la pp tp fp ep bp nx tn fn en an h0 n0 _ T29.heap _
    rw [e29]
    exact ⟨rfl, N29, ((((Keep.refl h0 [a, pp, nx]).wr W5 (Or.inl (List.mem_of_getElem? (i := 1) rfl))).wr W15 (Or.inl (List.mem_of_getElem? (i := 2) rfl))).wr W29 (Or.inl (List.mem_of_getElem? (i := 0) rfl))), f31, f32, f33, Fw29, f34, f35, f36, f37, f38, f39, f40, f41, f42, f43, f44, f45⟩
theorem ef_rm_rem2 (m : MethodId) (x0 : Addr) (x1 : Addr) : entryFrame m #[(.ref x0), (.ref x1)] 2 = mkF m 0 #[.val (.ref x0), .val (.ref x1)] [] := by first | (simp [entryFrame, mkF, argsToLocals, Value.category]; done) | rfl
def Q_rm_rem2 (Z : State) (a : Addr) (x : Addr) (tx : Addr) (fx : Int32) (ex : Int32) (lx : Int32) (L0 : Int32) (fi : Value) (la : Value) (pp : Addr) (tp : Addr) (fp : Int32) (ep : Int32) (bp : Value) (h0 : Heap) (n0 : Nat) (v : Option Value) (h : Heap) (L : List Loc) : Prop := (v = none) ∧ (Fr n0 L) ∧ (Keep h0 h [a, pp]) ∧ (Exa Z h a "dev/triadic/policy/TextLines") ∧ (Fld Z h a "dev/triadic/policy/TextLines" "first" "Ldev/triadic/policy/TextLines$Line;" fi) ∧ (Fld Z h a "dev/triadic/policy/TextLines" "last" "Ldev/triadic/policy/TextLines$Line;" (.ref pp)) ∧ (Fld Z h a "dev/triadic/policy/TextLines" "length" "I" (.int (L0 - lx))) ∧ (Exa Z h pp "dev/triadic/policy/TextLines$Line") ∧ (Fld Z h pp "dev/triadic/policy/TextLines$Line" "bytes" "[B" (.ref tp)) ∧ (Fld Z h pp "dev/triadic/policy/TextLines$Line" "from" "I" (.int fp)) ∧ (Fld Z h pp "dev/triadic/policy/TextLines$Line" "to" "I" (.int ep)) ∧ (Fld Z h pp "dev/triadic/policy/TextLines$Line" "before" "Ldev/triadic/policy/TextLines$Line;" bp) ∧ (Fld Z h pp "dev/triadic/policy/TextLines$Line" "after" "Ldev/triadic/policy/TextLines$Line;" .null)
theorem d9_36 : decode prog_75_method_5_code 36 = .ok (.aload_n 0, 1) := by decide +kernel
theorem d9_37 : decode prog_75_method_5_code 37 = .ok (.aload_n 1, 1) := by decide +kernel
theorem d9_38 : decode prog_75_method_5_code 38 = .ok (.getfield 22, 3) := by decide +kernel
theorem d9_41 : decode prog_75_method_5_code 41 = .ok (.putfield 16, 3) := by decide +kernel
theorem d9_44 : decode prog_75_method_5_code 44 = .ok (.goto 14, 3) := by decide +kernel
set_option maxRecDepth 65536 in
set_option maxHeartbeats 40000000 in
theorem rm_rem2 (l : Launch) (Z : State) (a0 : Array Value) (hw : ∀ d ∈ tables_1, d.before a0 Z = true) (ws : List Jvm.Cond) (a : Addr) (x : Addr) (tx : Addr) (fx : Int32) (ex : Int32) (lx : Int32) (L0 : Int32) (fi : Value) (la : Value) (pp : Addr) (tp : Addr) (fp : Int32) (ep : Int32) (bp : Value) (h0 : Heap) (n0 : Nat) (Z0 : n0 ≤ h0.size) (T_0 : Exa Z h0 a "dev/triadic/policy/TextLines") (T_1 : Fld Z h0 a "dev/triadic/policy/TextLines" "first" "Ldev/triadic/policy/TextLines$Line;" fi) (T_2 : Fld Z h0 a "dev/triadic/policy/TextLines" "last" "Ldev/triadic/policy/TextLines$Line;" la) (T_3 : Fld Z h0 a "dev/triadic/policy/TextLines" "length" "I" (.int L0)) (X_0 : Exa Z h0 x "dev/triadic/policy/TextLines$Line") (X_1 : Fld Z h0 x "dev/triadic/policy/TextLines$Line" "bytes" "[B" (.ref tx)) (X_2 : Fld Z h0 x "dev/triadic/policy/TextLines$Line" "from" "I" (.int fx)) (X_3 : Fld Z h0 x "dev/triadic/policy/TextLines$Line" "to" "I" (.int ex)) (X_4 : Fld Z h0 x "dev/triadic/policy/TextLines$Line" "before" "Ldev/triadic/policy/TextLines$Line;" (.ref pp)) (X_5 : Fld Z h0 x "dev/triadic/policy/TextLines$Line" "after" "Ldev/triadic/policy/TextLines$Line;" .null) (hlx : ex - fx = lx) (g_a : n0 ≤ a) (hax : a ≠ x) (P_0 : Exa Z h0 pp "dev/triadic/policy/TextLines$Line") (P_1 : Fld Z h0 pp "dev/triadic/policy/TextLines$Line" "bytes" "[B" (.ref tp)) (P_2 : Fld Z h0 pp "dev/triadic/policy/TextLines$Line" "from" "I" (.int fp)) (P_3 : Fld Z h0 pp "dev/triadic/policy/TextLines$Line" "to" "I" (.int ep)) (P_4 : Fld Z h0 pp "dev/triadic/policy/TextLines$Line" "before" "Ldev/triadic/policy/TextLines$Line;" bp) (P_5 : Fld Z h0 pp "dev/triadic/policy/TextLines$Line" "after" "Ldev/triadic/policy/TextLines$Line;" (.ref x)) (g_p : n0 ≤ pp) (hap : a ≠ pp) (hpx : pp ≠ x) :
    Con l Z (⟨"dev/triadic/policy/TextLines", "remove", "(Ldev/triadic/policy/TextLines$Line;)V"⟩ : MethodName) prog_75_method_5_code 2 none ws ({ frames := 1, cells := 0, slots := 0, locals := 14 } : Room) #[(.ref a), (.ref x)] h0 (Q_rm_rem2 Z a x tx fx ex lx L0 fi la pp tp fp ep bp h0 n0) := by
  refine MetFree.of_bodySF (plainFor_of_name pn_TextLines) hisR ?_
  intro p e s m args below meth c s₁ Bd hml0 hP hK
  obtain ⟨rfl, hZ, hh⟩ := hP
  have hx := Bd.exec
  have hby := Bd.bytes
  have hml : c.maxLocals = 2 := hml0
  have hown : s.vm.findClass "dev/triadic/policy/TextLines" = some m.cls := findClass_of_methodNamed Bd.named
  have hnm := (name_of_methodNamed Bd.named Bd.method).1
  have X0 : Stand p l e ({ frames := 1, cells := 0, slots := 0, locals := 14 } : Room) s m #[(.ref a), (.ref x)] below meth c s₁ [] 0 0 := Stand.of_body Bd
  have e0 : s₁.heap = h0 := by rw [← hh, Bd.state]; rfl
  have N0 := Fr.nil n0
  have k0 : Rch p e below (s₁.setTop (entryFrame m #[(.ref a), (.ref x)] 2)) s₁ (mkF m 0 #[.val (.ref a), .val (.ref x)] []) := fun tg kg => castTop (ef_rm_rem2 m a x) kg
  have lt_T_0 := own_ltN T_0.lt
  have lt_T_1 := own_ltN T_1.lt
  have lt_T_2 := own_ltN T_2.lt
  have lt_T_3 := own_ltN T_3.lt
  have lt_X_0 := own_ltN X_0.lt
  have lt_X_1 := own_ltN X_1.lt
  have lt_X_2 := own_ltN X_2.lt
  have lt_X_3 := own_ltN X_3.lt
  have lt_X_4 := own_ltN X_4.lt
  have lt_X_5 := own_ltN X_5.lt
  have n_hax := own_neN hax
  have lt_P_0 := own_ltN P_0.lt
  have lt_P_1 := own_ltN P_1.lt
  have lt_P_2 := own_ltN P_2.lt
  have lt_P_3 := own_ltN P_3.lt
  have lt_P_4 := own_ltN P_4.lt
  have lt_P_5 := own_ltN P_5.lt
  have n_hap := own_neN hap
  have n_hpx := own_neN hpx
  have k1 : Rch p e below (s₁.setTop (entryFrame m #[(.ref a), (.ref x)] 2)) s₁ (mkF m 1 #[.val (.ref a), .val (.ref x)] [(.ref x)]) := fun tg kg => by
    refine k0 tg ?_
    show Steps p.tables e below (s₁.setTop (mkF m 0 #[.val (.ref a), .val (.ref x)] [])) tg
    refine XS.aloadN X0.here hx rfl (hb hby d9_0) rfl rfl ?_
    exact kg
  have k2 : Rch p e below (s₁.setTop (entryFrame m #[(.ref a), (.ref x)] 2)) s₁ (mkF m 19 #[.val (.ref a), .val (.ref x)] [(.ref x)]) := fun tg kg => by
    refine k1 tg ?_
    show Steps p.tables e below (s₁.setTop (mkF m 1 #[.val (.ref a), .val (.ref x)] [(.ref x)])) tg
    refine own_getFR X0 hx hZ hown (hw _ (List.mem_of_getElem? (i := 37) rfl)) e0 X_4 (g := (mkF m 1 #[.val (.ref a), .val (.ref x)] [(.ref x)])) rfl rfl (hb hby d9_1) _ ?_
    refine XS.ifnonnullYes X0.here hx rfl (pc0 := 4) (pc' := 18) rfl (hb hby d9_4) rfl (by decide) (by decide) ?_
    refine XS.aloadN X0.here hx rfl (hb hby d9_18) rfl rfl ?_
    exact kg
  have k3 : Rch p e below (s₁.setTop (entryFrame m #[(.ref a), (.ref x)] 2)) s₁ (mkF m 23 #[.val (.ref a), .val (.ref x)] [(.ref x), (.ref pp)]) := fun tg kg => by
    refine k2 tg ?_
    show Steps p.tables e below (s₁.setTop (mkF m 19 #[.val (.ref a), .val (.ref x)] [(.ref x)])) tg
    refine own_getFR X0 hx hZ hown (hw _ (List.mem_of_getElem? (i := 37) rfl)) e0 X_4 (g := (mkF m 19 #[.val (.ref a), .val (.ref x)] [(.ref x)])) rfl rfl (hb hby d9_19) _ ?_
    show Steps p.tables e below (s₁.setTop (mkF m 22 #[.val (.ref a), .val (.ref x)] [(.ref pp)])) tg
    refine XS.aloadN X0.here hx rfl (hb hby d9_22) rfl rfl ?_
    exact kg
  have k4 : Rch p e below (s₁.setTop (entryFrame m #[(.ref a), (.ref x)] 2)) s₁ (mkF m 26 #[.val (.ref a), .val (.ref x)] [.null, (.ref pp)]) := fun tg kg => by
    refine k3 tg ?_
    show Steps p.tables e below (s₁.setTop (mkF m 23 #[.val (.ref a), .val (.ref x)] [(.ref x), (.ref pp)])) tg
    refine own_getFR X0 hx hZ hown (hw _ (List.mem_of_getElem? (i := 47) rfl)) e0 X_5 (g := (mkF m 23 #[.val (.ref a), .val (.ref x)] [(.ref x), (.ref pp)])) rfl rfl (hb hby d9_23) _ ?_
    exact kg
  obtain ⟨T5, h5, X5, e5, W5, st5⟩ := own_putFR X0 hx hZ hown (hw _ (List.mem_of_getElem? (i := 47) rfl)) e0 P_5 P_0 (hw _ (List.mem_of_getElem? (i := 48) rfl)) (hw _ (List.mem_of_getElem? (i := 21) rfl)) (ty := (.object "dev/triadic/policy/TextLines$Line")) (by decide) rfl rfl (g := (mkF m 26 #[.val (.ref a), .val (.ref x)] [.null, (.ref pp)])) rfl rfl (hb hby d9_26)
  have Fw5 := P_5.same W5
  have s5 : h5.size = h0.size := W5.size
  have N5 := Fr.snoc X5 N0 (by omega : n0 ≤ pp)
  have k6 : Rch p e below (s₁.setTop (entryFrame m #[(.ref a), (.ref x)] 2)) T5 (mkF m 29 #[.val (.ref a), .val (.ref x)] []) := fun tg kg => k4 tg (st5 tg kg)
  have k7 : Rch p e below (s₁.setTop (entryFrame m #[(.ref a), (.ref x)] 2)) T5 (mkF m 30 #[.val (.ref a), .val (.ref x)] [(.ref x)]) := fun tg kg => by
    refine k6 tg ?_
    show Steps p.tables e below (T5.setTop (mkF m 29 #[.val (.ref a), .val (.ref x)] [])) tg
    refine XS.aloadN X5.here hx rfl (hb hby d9_29) rfl rfl ?_
    exact kg
  have f8 : Fld Z h5 x "dev/triadic/policy/TextLines$Line" "after" "Ldev/triadic/policy/TextLines$Line;" .null := (X_5.other W5 (Or.inl (by first | exact own_ne (by omega) | assumption | (apply Ne.symm; assumption))))
  have k9 : Rch p e below (s₁.setTop (entryFrame m #[(.ref a), (.ref x)] 2)) T5 (mkF m 38 #[.val (.ref a), .val (.ref x)] [(.ref x), (.ref a)]) := fun tg kg => by
    refine k7 tg ?_
    show Steps p.tables e below (T5.setTop (mkF m 30 #[.val (.ref a), .val (.ref x)] [(.ref x)])) tg
    refine own_getFR X5 hx hZ hown (hw _ (List.mem_of_getElem? (i := 47) rfl)) e5 f8 (g := (mkF m 30 #[.val (.ref a), .val (.ref x)] [(.ref x)])) rfl rfl (hb hby d9_30) _ ?_
    refine XS.ifnonnullNo X5.here hx rfl (hb hby d9_33) rfl ?_
    refine XS.aloadN X5.here hx rfl (hb hby d9_36) rfl rfl ?_
    show Steps p.tables e below (T5.setTop (mkF m 37 #[.val (.ref a), .val (.ref x)] [(.ref a)])) tg
    refine XS.aloadN X5.here hx rfl (hb hby d9_37) rfl rfl ?_
    exact kg
  have f10 : Fld Z h5 x "dev/triadic/policy/TextLines$Line" "before" "Ldev/triadic/policy/TextLines$Line;" (.ref pp) := (X_4.other W5 (Or.inl (by first | exact own_ne (by omega) | assumption | (apply Ne.symm; assumption))))
  have k11 : Rch p e below (s₁.setTop (entryFrame m #[(.ref a), (.ref x)] 2)) T5 (mkF m 41 #[.val (.ref a), .val (.ref x)] [(.ref pp), (.ref a)]) := fun tg kg => by
    refine k9 tg ?_
    show Steps p.tables e below (T5.setTop (mkF m 38 #[.val (.ref a), .val (.ref x)] [(.ref x), (.ref a)])) tg
    refine own_getFR X5 hx hZ hown (hw _ (List.mem_of_getElem? (i := 37) rfl)) e5 f10 (g := (mkF m 38 #[.val (.ref a), .val (.ref x)] [(.ref x), (.ref a)])) rfl rfl (hb hby d9_38) _ ?_
    exact kg
  have f12 : Fld Z h5 a "dev/triadic/policy/TextLines" "last" "Ldev/triadic/policy/TextLines$Line;" la := (T_2.other W5 (Or.inl (by first | exact own_ne (by omega) | assumption | (apply Ne.symm; assumption))))
  have f13 : Exa Z h5 a "dev/triadic/policy/TextLines" := (T_0.wr W5)
  obtain ⟨T14, h14, X14, e14, W14, st14⟩ := putF X5 hx hZ hown (host := "") (Or.inl (hw _ (List.mem_of_getElem? (i := 35) rfl))) Via.refl e5 f12 f13 (Or.inl (hw _ (List.mem_of_getElem? (i := 36) rfl))) (hw _ (List.mem_of_getElem? (i := 7) rfl)) (ty := (.object "dev/triadic/policy/TextLines$Line")) (by decide) rfl rfl (g := (mkF m 41 #[.val (.ref a), .val (.ref x)] [(.ref pp), (.ref a)])) rfl rfl (hb hby d9_41)
  have Fw14 := f12.same W14
  have s14 : h14.size = h5.size := W14.size
  have N14 := Fr.snoc X14 N5 (by omega : n0 ≤ a)
  have k15 : Rch p e below (s₁.setTop (entryFrame m #[(.ref a), (.ref x)] 2)) T14 (mkF m 44 #[.val (.ref a), .val (.ref x)] []) := fun tg kg => k11 tg (st14 tg kg)
  have k16 : Rch p e below (s₁.setTop (entryFrame m #[(.ref a), (.ref x)] 2)) T14 (mkF m 60 #[.val (.ref a), .val (.ref x)] [(.ref a), (.ref a)]) := fun tg kg => by
    refine k15 tg ?_
    show Steps p.tables e below (T14.setTop (mkF m 44 #[.val (.ref a), .val (.ref x)] [])) tg
    refine XS.goto X14.here hx rfl (pc0 := 44) (pc' := 58) rfl (hb hby d9_44) (by decide) (by decide) ?_
    refine XS.aloadN X14.here hx rfl (hb hby d9_58) rfl rfl ?_
    refine XS.dup X14.here hx rfl (hb hby d9_59) rfl rfl ?_
    exact kg
  have f17 : Fld Z h14 a "dev/triadic/policy/TextLines" "length" "I" (.int L0) := ((T_3.other W5 (Or.inl (by first | exact own_ne (by omega) | assumption | (apply Ne.symm; assumption)))).other W14 (Or.inr (slot_ne (Or.inl (hw _ (List.mem_of_getElem? (i := 42) rfl))) (Or.inl (hw _ (List.mem_of_getElem? (i := 36) rfl))) (by decide) (t := .int) (t' := (.object "dev/triadic/policy/TextLines$Line")) (by decide) (by decide))))
  obtain ⟨T18, X18, e18, st18⟩ := getF X14 hx hZ hown (host := "") (Or.inl (hw _ (List.mem_of_getElem? (i := 41) rfl))) Via.refl e14 f17 (g := (mkF m 60 #[.val (.ref a), .val (.ref x)] [(.ref a), (.ref a)])) rfl rfl (hb hby d9_60)
  have k19 : Rch p e below (s₁.setTop (entryFrame m #[(.ref a), (.ref x)] 2)) T18 (mkF m 63 #[.val (.ref a), .val (.ref x)] [(.int L0), (.ref a)]) := fun tg kg => k16 tg (st18 tg kg)
  have k20 : Rch p e below (s₁.setTop (entryFrame m #[(.ref a), (.ref x)] 2)) T18 (mkF m 64 #[.val (.ref a), .val (.ref x)] [(.ref x), (.int L0), (.ref a)]) := fun tg kg => by
    refine k19 tg ?_
    show Steps p.tables e below (T18.setTop (mkF m 63 #[.val (.ref a), .val (.ref x)] [(.int L0), (.ref a)])) tg
    refine XS.aloadN X18.here hx rfl (hb hby d9_63) rfl rfl ?_
    exact kg
  have f22 : Fld Z h14 x "dev/triadic/policy/TextLines$Line" "from" "I" (.int fx) := ((X_2.other W5 (Or.inl (by first | exact own_ne (by omega) | assumption | (apply Ne.symm; assumption)))).other W14 (Or.inl (by first | exact own_ne (by omega) | assumption | (apply Ne.symm; assumption))))
  have f23 : Fld Z h14 x "dev/triadic/policy/TextLines$Line" "to" "I" (.int ex) := ((X_3.other W5 (Or.inl (by first | exact own_ne (by omega) | assumption | (apply Ne.symm; assumption)))).other W14 (Or.inl (by first | exact own_ne (by omega) | assumption | (apply Ne.symm; assumption))))
  have f24 : Exa Z h14 x "dev/triadic/policy/TextLines$Line" := ((X_0.wr W5).wr W14)
  obtain ⟨v21, T21, h21, Lc21, X21, e21, hQ21, st21⟩ := own_callPR X18 hx hZ hown (hw _ (List.mem_of_getElem? (i := 43) rfl)) (hw _ (List.mem_of_getElem? (i := 44) rfl)) (hw _ (List.mem_of_getElem? (i := 45) rfl)) (hw _ (List.mem_of_getElem? (i := 21) rfl)) (hw _ (List.mem_of_getElem? (i := 22) rfl)) (hw _ (List.mem_of_getElem? (i := 46) rfl)) (by decide) (rm_len l Z a0 hw [] x fx ex lx h14 n0 (by omega) f22 f23 hlx) e18 f24 (g := (mkF m 64 #[.val (.ref a), .val (.ref x)] [(.ref x), (.int L0), (.ref a)])) rfl (by rw [hml]; rfl) (argsL := []) (rest := [(.int L0), (.ref a)]) rfl (lenOf pd_1 rfl) rfl (W := 2) (by show 2 * 0 + _ ≤ _; exact Nat.le_of_eq rfl) (hb hby d9_64) (by decide) (by decide) (by decide) (by decide)
  obtain ⟨rfl, Nq21, hs21⟩ := hQ21
  have N21 := Fr.app N14 Nq21
  have e21' : T21.heap = h14 := e21.trans hs21
  have k25 : Rch p e below (s₁.setTop (entryFrame m #[(.ref a), (.ref x)] 2)) T21 (mkF m 67 #[.val (.ref a), .val (.ref x)] [(.int lx), (.int L0), (.ref a)]) := fun tg kg => k20 tg (st21 tg kg)
  have k26 : Rch p e below (s₁.setTop (entryFrame m #[(.ref a), (.ref x)] 2)) T21 (mkF m 68 #[.val (.ref a), .val (.ref x)] [(.int (L0 - lx)), (.ref a)]) := fun tg kg => by
    refine k25 tg ?_
    show Steps p.tables e below (T21.setTop (mkF m 67 #[.val (.ref a), .val (.ref x)] [(.int lx), (.int L0), (.ref a)])) tg
    refine XS.isub X21.here hx rfl (hb hby d9_67) rfl ?_
    exact kg
  have f27 : Exa Z h14 a "dev/triadic/policy/TextLines" := (f13.wr W14)
  obtain ⟨T28, h28, X28, e28, W28, st28⟩ := putF X21 hx hZ hown (host := "") (Or.inl (hw _ (List.mem_of_getElem? (i := 41) rfl))) Via.refl e21' f17 f27 (Or.inl (hw _ (List.mem_of_getElem? (i := 42) rfl))) (hw _ (List.mem_of_getElem? (i := 7) rfl)) (ty := .int) (by decide) rfl rfl (g := (mkF m 68 #[.val (.ref a), .val (.ref x)] [(.int (L0 - lx)), (.ref a)])) rfl rfl (hb hby d9_68)
  have Fw28 := f17.same W28
  have s28 : h28.size = h14.size := W28.size
  have N28 := Fr.snoc X28 N21 (by omega : n0 ≤ a)
  have k29 : Rch p e below (s₁.setTop (entryFrame m #[(.ref a), (.ref x)] 2)) T28 (mkF m 71 #[.val (.ref a), .val (.ref x)] []) := fun tg kg => k26 tg (st28 tg kg)
  have f30 : Exa Z h28 a "dev/triadic/policy/TextLines" := (f27.wr W28)
  have f31 : Fld Z h28 a "dev/triadic/policy/TextLines" "first" "Ldev/triadic/policy/TextLines$Line;" fi := (((T_1.other W5 (Or.inl (by first | exact own_ne (by omega) | assumption | (apply Ne.symm; assumption)))).other W14 (Or.inr (slot_ne (Or.inl (hw _ (List.mem_of_getElem? (i := 40) rfl))) (Or.inl (hw _ (List.mem_of_getElem? (i := 36) rfl))) (by decide) (t := (.object "dev/triadic/policy/TextLines$Line")) (t' := (.object "dev/triadic/policy/TextLines$Line")) (by decide) (by decide)))).other W28 (Or.inr (slot_ne (Or.inl (hw _ (List.mem_of_getElem? (i := 40) rfl))) (Or.inl (hw _ (List.mem_of_getElem? (i := 42) rfl))) (by decide) (t := (.object "dev/triadic/policy/TextLines$Line")) (t' := .int) (by decide) (by decide))))
  have f32 : Fld Z h28 a "dev/triadic/policy/TextLines" "last" "Ldev/triadic/policy/TextLines$Line;" (.ref pp) := (Fw14.other W28 (Or.inr (slot_ne (Or.inl (hw _ (List.mem_of_getElem? (i := 36) rfl))) (Or.inl (hw _ (List.mem_of_getElem? (i := 42) rfl))) (by decide) (t := (.object "dev/triadic/policy/TextLines$Line")) (t' := .int) (by decide) (by decide))))
  have f33 : Exa Z h28 pp "dev/triadic/policy/TextLines$Line" := (((P_0.wr W5).wr W14).wr W28)
  have f34 : Fld Z h28 pp "dev/triadic/policy/TextLines$Line" "bytes" "[B" (.ref tp) := (((P_1.other W5 (Or.inr (slot_ne (Or.inl (hw _ (List.mem_of_getElem? (i := 28) rfl))) (Or.inl (hw _ (List.mem_of_getElem? (i := 48) rfl))) (by decide) (t := (.array .byte)) (t' := (.object "dev/triadic/policy/TextLines$Line")) (by decide) (by decide)))).other W14 (Or.inl (by first | exact own_ne (by omega) | assumption | (apply Ne.symm; assumption)))).other W28 (Or.inl (by first | exact own_ne (by omega) | assumption | (apply Ne.symm; assumption))))
  have f35 : Fld Z h28 pp "dev/triadic/policy/TextLines$Line" "from" "I" (.int fp) := (((P_2.other W5 (Or.inr (slot_ne (Or.inl (hw _ (List.mem_of_getElem? (i := 30) rfl))) (Or.inl (hw _ (List.mem_of_getElem? (i := 48) rfl))) (by decide) (t := .int) (t' := (.object "dev/triadic/policy/TextLines$Line")) (by decide) (by decide)))).other W14 (Or.inl (by first | exact own_ne (by omega) | assumption | (apply Ne.symm; assumption)))).other W28 (Or.inl (by first | exact own_ne (by omega) | assumption | (apply Ne.symm; assumption))))
  have f36 : Fld Z h28 pp "dev/triadic/policy/TextLines$Line" "to" "I" (.int ep) := (((P_3.other W5 (Or.inr (slot_ne (Or.inl (hw _ (List.mem_of_getElem? (i := 34) rfl))) (Or.inl (hw _ (List.mem_of_getElem? (i := 48) rfl))) (by decide) (t := .int) (t' := (.object "dev/triadic/policy/TextLines$Line")) (by decide) (by decide)))).other W14 (Or.inl (by first | exact own_ne (by omega) | assumption | (apply Ne.symm; assumption)))).other W28 (Or.inl (by first | exact own_ne (by omega) | assumption | (apply Ne.symm; assumption))))
  have f37 : Fld Z h28 pp "dev/triadic/policy/TextLines$Line" "before" "Ldev/triadic/policy/TextLines$Line;" bp := (((P_4.other W5 (Or.inr (slot_ne (Or.inl (hw _ (List.mem_of_getElem? (i := 38) rfl))) (Or.inl (hw _ (List.mem_of_getElem? (i := 48) rfl))) (by decide) (t := (.object "dev/triadic/policy/TextLines$Line")) (t' := (.object "dev/triadic/policy/TextLines$Line")) (by decide) (by decide)))).other W14 (Or.inl (by first | exact own_ne (by omega) | assumption | (apply Ne.symm; assumption)))).other W28 (Or.inl (by first | exact own_ne (by omega) | assumption | (apply Ne.symm; assumption))))
  have f38 : Fld Z h28 pp "dev/triadic/policy/TextLines$Line" "after" "Ldev/triadic/policy/TextLines$Line;" .null := ((Fw5.other W14 (Or.inl (by first | exact own_ne (by omega) | assumption | (apply Ne.symm; assumption)))).other W28 (Or.inl (by first | exact own_ne (by omega) | assumption | (apply Ne.symm; assumption))))
  obtain ⟨fs39, hr39, hrun39, hended39, hW39, hsame39⟩ := X28.leave (v := none) (fun _ => rfl)
  refine ⟨_, _, k29 _ ?_, hrun39, hended39, _, _, rfl, ?_, ⟨_, rfl⟩, hW39, hsame39.mono (by decide) (by decide)⟩
  · exact X28.returnOut hx Bd.returns (hb hby d9_71) hr39
  · show Q_rm_rem2 Z a x tx fx ex lx L0 fi la pp tp fp ep bp h0 n0 _ T28.heap _
    rw [e28]
    exact ⟨rfl, N28, ((((Keep.refl h0 [a, pp]).wr W5 (Or.inl (List.mem_of_getElem? (i := 1) rfl))).wr W14 (Or.inl (List.mem_of_getElem? (i := 0) rfl))).wr W28 (Or.inl (List.mem_of_getElem? (i := 0) rfl))), f30, f31, f32, Fw28, f33, f34, f35, f36, f37, f38⟩
theorem ef_rm_bytes2 (m : MethodId) (x0 : Addr) : entryFrame m #[(.ref x0)] 4 = mkF m 0 #[.val (.ref x0), .unset, .unset, .unset] [] := by first | (simp [entryFrame, mkF, argsToLocals, Value.category]; done) | rfl
def Q_rm_bytes2 (Z : State) (a : Addr) (N : Int32) (b0 : Addr) (t0 : Addr) (f0 : Int32) (l0 : Int32) (kc0 : ClassId) (q0 : Int64) (b1 : Addr) (t1 : Addr) (f1 : Int32) (l1 : Int32) (kc1 : ClassId) (q1 : Int64) (h0 : Heap) (n0 : Nat) (v : Option Value) (h : Heap) (L : List Loc) : Prop := ∃ (g : Addr) (k : ClassId), (v = some (.ref g)) ∧ (Fr n0 L) ∧ (Keep h0 h []) ∧ (h0.size ≤ g) ∧ (Arv Z h g k .byte N (own_seg q0 f0 l0 ++ own_seg q1 f1 l1) (.int (0 : Int32)))
theorem d7_0 : decode prog_75_method_6_code 0 = .ok (.aload_n 0, 1) := by decide +kernel
theorem d7_1 : decode prog_75_method_6_code 1 = .ok (.getfield 31, 3) := by decide +kernel
theorem d7_4 : decode prog_75_method_6_code 4 = .ok (.newarray .byte, 2) := by decide +kernel
theorem d7_6 : decode prog_75_method_6_code 6 = .ok (.astore_n 1, 1) := by decide +kernel
theorem d7_7 : decode prog_75_method_6_code 7 = .ok (.iconst 0, 1) := by decide +kernel
theorem d7_8 : decode prog_75_method_6_code 8 = .ok (.istore_n 2, 1) := by decide +kernel
theorem d7_9 : decode prog_75_method_6_code 9 = .ok (.aload_n 0, 1) := by decide +kernel
theorem d7_10 : decode prog_75_method_6_code 10 = .ok (.getfield 25, 3) := by decide +kernel
theorem d7_13 : decode prog_75_method_6_code 13 = .ok (.astore_n 3, 1) := by decide +kernel
theorem d7_14 : decode prog_75_method_6_code 14 = .ok (.aload_n 3, 1) := by decide +kernel
theorem d7_15 : decode prog_75_method_6_code 15 = .ok (.ifnull 35, 3) := by decide +kernel
theorem d7_18 : decode prog_75_method_6_code 18 = .ok (.aload_n 3, 1) := by decide +kernel
theorem d7_19 : decode prog_75_method_6_code 19 = .ok (.getfield 46, 3) := by decide +kernel
theorem d7_22 : decode prog_75_method_6_code 22 = .ok (.aload_n 3, 1) := by decide +kernel
theorem d7_23 : decode prog_75_method_6_code 23 = .ok (.getfield 53, 3) := by decide +kernel
theorem d7_26 : decode prog_75_method_6_code 26 = .ok (.aload_n 1, 1) := by decide +kernel
theorem d7_27 : decode prog_75_method_6_code 27 = .ok (.iload_n 2, 1) := by decide +kernel
theorem d7_28 : decode prog_75_method_6_code 28 = .ok (.aload_n 3, 1) := by decide +kernel
theorem d7_29 : decode prog_75_method_6_code 29 = .ok (.invokevirtual 35, 3) := by decide +kernel
theorem d7_32 : decode prog_75_method_6_code 32 = .ok (.invokestatic 77, 3) := by decide +kernel
theorem d7_35 : decode prog_75_method_6_code 35 = .ok (.iload_n 2, 1) := by decide +kernel
theorem d7_36 : decode prog_75_method_6_code 36 = .ok (.aload_n 3, 1) := by decide +kernel
theorem d7_37 : decode prog_75_method_6_code 37 = .ok (.invokevirtual 35, 3) := by decide +kernel
theorem d7_40 : decode prog_75_method_6_code 40 = .ok (.iadd, 1) := by decide +kernel
theorem d7_41 : decode prog_75_method_6_code 41 = .ok (.istore_n 2, 1) := by decide +kernel
theorem d7_42 : decode prog_75_method_6_code 42 = .ok (.aload_n 3, 1) := by decide +kernel
theorem d7_43 : decode prog_75_method_6_code 43 = .ok (.getfield 28, 3) := by decide +kernel
theorem d7_46 : decode prog_75_method_6_code 46 = .ok (.astore_n 3, 1) := by decide +kernel
theorem d7_47 : decode prog_75_method_6_code 47 = .ok (.goto (-33), 3) := by decide +kernel
theorem d7_50 : decode prog_75_method_6_code 50 = .ok (.aload_n 1, 1) := by decide +kernel
theorem d7_51 : decode prog_75_method_6_code 51 = .ok (.areturn, 1) := by decide +kernel
set_option maxRecDepth 65536 in
set_option maxHeartbeats 40000000 in
theorem rm_bytes2 (l : Launch) (Z : State) (a0 : Array Value) (hw : ∀ d ∈ tables_1, d.before a0 Z = true) (ws : List Jvm.Cond) (a : Addr) (N : Int32) (b0 : Addr) (t0 : Addr) (f0 : Int32) (l0 : Int32) (kc0 : ClassId) (q0 : Int64) (b1 : Addr) (t1 : Addr) (f1 : Int32) (l1 : Int32) (kc1 : ClassId) (q1 : Int64) (h0 : Heap) (n0 : Nat) (Z0 : n0 ≤ h0.size) (F_f : Fld Z h0 a "dev/triadic/policy/TextLines" "first" "Ldev/triadic/policy/TextLines$Line;" (.ref b0)) (F_n : Fld Z h0 a "dev/triadic/policy/TextLines" "length" "I" (.int N)) (E_0 : Exa Z h0 b0 "dev/triadic/policy/TextLines$Line") (B_0 : Fld Z h0 b0 "dev/triadic/policy/TextLines$Line" "bytes" "[B" (.ref t0)) (G_0 : Fld Z h0 b0 "dev/triadic/policy/TextLines$Line" "from" "I" (.int f0)) (O_0 : Fld Z h0 b0 "dev/triadic/policy/TextLines$Line" "to" "I" (.int (f0 + l0))) (A_0 : Fld Z h0 b0 "dev/triadic/policy/TextLines$Line" "after" "Ldev/triadic/policy/TextLines$Line;" (.ref b1)) (V_0 : Arv Z h0 t0 kc0 .byte (6 : Int32) (own_dr q0) (.int (0 : Int32))) (hf0 : own_in3 f0) (hl0 : own_in3 l0) (E_1 : Exa Z h0 b1 "dev/triadic/policy/TextLines$Line") (B_1 : Fld Z h0 b1 "dev/triadic/policy/TextLines$Line" "bytes" "[B" (.ref t1)) (G_1 : Fld Z h0 b1 "dev/triadic/policy/TextLines$Line" "from" "I" (.int f1)) (O_1 : Fld Z h0 b1 "dev/triadic/policy/TextLines$Line" "to" "I" (.int (f1 + l1))) (A_1 : Fld Z h0 b1 "dev/triadic/policy/TextLines$Line" "after" "Ldev/triadic/policy/TextLines$Line;" .null) (V_1 : Arv Z h0 t1 kc1 .byte (6 : Int32) (own_dr q1) (.int (0 : Int32))) (hf1 : own_in3 f1) (hl1 : own_in3 l1) (hN : N.toInt = l0.toInt + l1.toInt) :
    Con l Z (⟨"dev/triadic/policy/TextLines", "bytes", "()[B"⟩ : MethodName) prog_75_method_6_code 4 (some (.array .byte)) ws ({ frames := 1, cells := 1, slots := 6, locals := 40 } : Room) #[(.ref a)] h0 (Q_rm_bytes2 Z a N b0 t0 f0 l0 kc0 q0 b1 t1 f1 l1 kc1 q1 h0 n0) := by
  refine MetFree.of_bodySF (plainFor_of_name pn_TextLines) hisR ?_
  intro p e s m args below meth c s₁ Bd hml0 hP hK
  obtain ⟨rfl, hZ, hh⟩ := hP
  have hx := Bd.exec
  have hby := Bd.bytes
  have hml : c.maxLocals = 4 := hml0
  have hown : s.vm.findClass "dev/triadic/policy/TextLines" = some m.cls := findClass_of_methodNamed Bd.named
  have hnm := (name_of_methodNamed Bd.named Bd.method).1
  have X0 : Stand p l e ({ frames := 1, cells := 1, slots := 6, locals := 40 } : Room) s m #[(.ref a)] below meth c s₁ [] 0 0 := Stand.of_body Bd
  have e0 : s₁.heap = h0 := by rw [← hh, Bd.state]; rfl
  have N0 := Fr.nil n0
  have k0 : Rch p e below (s₁.setTop (entryFrame m #[(.ref a)] 4)) s₁ (mkF m 0 #[.val (.ref a), .unset, .unset, .unset] []) := fun tg kg => castTop (ef_rm_bytes2 m a) kg
  have lt_F_f := own_ltN F_f.lt
  have lt_F_n := own_ltN F_n.lt
  have lt_E_0 := own_ltN E_0.lt
  have lt_B_0 := own_ltN B_0.lt
  have lt_G_0 := own_ltN G_0.lt
  have lt_O_0 := own_ltN O_0.lt
  have lt_A_0 := own_ltN A_0.lt
  have lt_V_0 := own_ltN V_0.lt
  have lt_E_1 := own_ltN E_1.lt
  have lt_B_1 := own_ltN B_1.lt
  have lt_G_1 := own_ltN G_1.lt
  have lt_O_1 := own_ltN O_1.lt
  have lt_A_1 := own_ltN A_1.lt
  have lt_V_1 := own_ltN V_1.lt
  have k1 : Rch p e below (s₁.setTop (entryFrame m #[(.ref a)] 4)) s₁ (mkF m 1 #[.val (.ref a), .unset, .unset, .unset] [(.ref a)]) := fun tg kg => by
    refine k0 tg ?_
    show Steps p.tables e below (s₁.setTop (mkF m 0 #[.val (.ref a), .unset, .unset, .unset] [])) tg
    refine XS.aloadN X0.here hx rfl (hb hby d7_0) rfl rfl ?_
    exact kg
  obtain ⟨T2, X2, e2, st2⟩ := getF X0 hx hZ hown (host := "") (Or.inl (hw _ (List.mem_of_getElem? (i := 41) rfl))) Via.refl e0 F_n (g := (mkF m 1 #[.val (.ref a), .unset, .unset, .unset] [(.ref a)])) rfl rfl (hb hby d7_1)
  have k3 : Rch p e below (s₁.setTop (entryFrame m #[(.ref a)] 4)) T2 (mkF m 4 #[.val (.ref a), .unset, .unset, .unset] [(.int N)]) := fun tg kg => k1 tg (st2 tg kg)
  have hz := own_z
  obtain ⟨cf0, df0, ff0⟩ := own_in3_nat hf0
  obtain ⟨cz0, dl0, fl0⟩ := own_in3_nat hl0
  have hf0' := hf0; have hl0' := hl0; unfold own_in3 at hf0' hl0'
  obtain ⟨cf1, df1, ff1⟩ := own_in3_nat hf1
  obtain ⟨cz1, dl1, fl1⟩ := own_in3_nat hl1
  have hf1' := hf1; have hl1' := hl1; unfold own_in3 at hf1' hl1'
  have hNn : ¬ N < 0 := own_nn (by omega)
  have hNd := nat_of hNn
  have hNc : N.toNatClampNeg ≤ 6 := by omega
  obtain ⟨T4, h4, c4, X4, e4, E4, A4, st4⟩ := newP X2 hx hZ (hw _ (List.mem_of_getElem? (i := 4) rfl)) e2 (g := (mkF m 4 #[.val (.ref a), .unset, .unset, .unset] [(.int N)])) rfl (hb hby d7_4) rfl hNn (cap := 6) hNc (by decide) (by decide) (by decide)
  obtain ⟨b4, g4⟩ : ∃ z, z = h0.size := ⟨_, rfl⟩
  rw [← g4] at A4 st4
  have s4 : h0.size ≤ h4.size := E4.1
  have lt4 : b4 < h4.size := A4.lt
  have k5 : Rch p e below (s₁.setTop (entryFrame m #[(.ref a)] 4)) T4 (mkF m 6 #[.val (.ref a), .unset, .unset, .unset] [(.ref b4)]) := fun tg kg => k3 tg (st4 tg kg)
  have V4 : Arv Z h4 b4 c4 .byte N [] (.int (0 : Int32)) := Arv.new A4 hNn
  have f6 : Arv Z h4 b4 c4 .byte N (List.replicate N.toNatClampNeg (Value.int (0 : Int32))) (.int (0 : Int32)) := (V4.pad (pad_rep [] _ _))
  have dp0 : ((0 : Int32).toNatClampNeg : Int) = 0 := by decide
  have dq0 : ¬ (0 : Int32) < 0 := by decide
  have k7 : Rch p e below (s₁.setTop (entryFrame m #[(.ref a)] 4)) T4 (mkF m 10 #[.val (.ref a), .val (.ref b4), .val (.int (0 : Int32)), .unset] [(.ref a)]) := fun tg kg => by
    refine k5 tg ?_
    show Steps p.tables e below (T4.setTop (mkF m 6 #[.val (.ref a), .unset, .unset, .unset] [(.ref b4)])) tg
    refine XS.astoreN X4.here hx rfl (hb hby d7_6) rfl rfl (l' := #[.val (.ref a), .val (.ref b4), .unset, .unset]) rfl ?_
    refine XS.iconst X4.here hx rfl (hb hby d7_7) ?_
    refine XS.istoreN X4.here hx rfl (hb hby d7_8) rfl (l' := #[.val (.ref a), .val (.ref b4), .val (.int (0 : Int32)), .unset]) rfl ?_
    refine XS.aloadN X4.here hx rfl (hb hby d7_9) rfl rfl ?_
    exact kg
  have f8 : Fld Z h4 a "dev/triadic/policy/TextLines" "first" "Ldev/triadic/policy/TextLines$Line;" (.ref b0) := (F_f.ext E4)
  obtain ⟨T9, X9, e9, st9⟩ := getF X4 hx hZ hown (host := "") (Or.inl (hw _ (List.mem_of_getElem? (i := 39) rfl))) Via.refl e4 f8 (g := (mkF m 10 #[.val (.ref a), .val (.ref b4), .val (.int (0 : Int32)), .unset] [(.ref a)])) rfl rfl (hb hby d7_10)
  have k10 : Rch p e below (s₁.setTop (entryFrame m #[(.ref a)] 4)) T9 (mkF m 13 #[.val (.ref a), .val (.ref b4), .val (.int (0 : Int32)), .unset] [(.ref b0)]) := fun tg kg => k7 tg (st9 tg kg)
  have k11 : Rch p e below (s₁.setTop (entryFrame m #[(.ref a)] 4)) T9 (mkF m 19 #[.val (.ref a), .val (.ref b4), .val (.int (0 : Int32)), .val (.ref b0)] [(.ref b0)]) := fun tg kg => by
    refine k10 tg ?_
    show Steps p.tables e below (T9.setTop (mkF m 13 #[.val (.ref a), .val (.ref b4), .val (.int (0 : Int32)), .unset] [(.ref b0)])) tg
    refine XS.astoreN X9.here hx rfl (hb hby d7_13) rfl rfl (l' := #[.val (.ref a), .val (.ref b4), .val (.int (0 : Int32)), .val (.ref b0)]) rfl ?_
    refine XS.aloadN X9.here hx rfl (hb hby d7_14) rfl rfl ?_
    refine XS.ifnullNo X9.here hx rfl (hb hby d7_15) rfl ?_
    refine XS.aloadN X9.here hx rfl (hb hby d7_18) rfl rfl ?_
    exact kg
  have f12 : Fld Z h4 b0 "dev/triadic/policy/TextLines$Line" "bytes" "[B" (.ref t0) := (B_0.ext E4)
  have k13 : Rch p e below (s₁.setTop (entryFrame m #[(.ref a)] 4)) T9 (mkF m 23 #[.val (.ref a), .val (.ref b4), .val (.int (0 : Int32)), .val (.ref b0)] [(.ref b0), (.ref t0)]) := fun tg kg => by
    refine k11 tg ?_
    show Steps p.tables e below (T9.setTop (mkF m 19 #[.val (.ref a), .val (.ref b4), .val (.int (0 : Int32)), .val (.ref b0)] [(.ref b0)])) tg
    refine own_getFR X9 hx hZ hown (hw _ (List.mem_of_getElem? (i := 54) rfl)) e9 f12 (g := (mkF m 19 #[.val (.ref a), .val (.ref b4), .val (.int (0 : Int32)), .val (.ref b0)] [(.ref b0)])) rfl rfl (hb hby d7_19) _ ?_
    refine XS.aloadN X9.here hx rfl (hb hby d7_22) rfl rfl ?_
    exact kg
  have f14 : Fld Z h4 b0 "dev/triadic/policy/TextLines$Line" "from" "I" (.int f0) := (G_0.ext E4)
  have k15 : Rch p e below (s₁.setTop (entryFrame m #[(.ref a)] 4)) T9 (mkF m 29 #[.val (.ref a), .val (.ref b4), .val (.int (0 : Int32)), .val (.ref b0)] [(.ref b0), (.int (0 : Int32)), (.ref b4), (.int f0), (.ref t0)]) := fun tg kg => by
    refine k13 tg ?_
    show Steps p.tables e below (T9.setTop (mkF m 23 #[.val (.ref a), .val (.ref b4), .val (.int (0 : Int32)), .val (.ref b0)] [(.ref b0), (.ref t0)])) tg
    refine own_getFR X9 hx hZ hown (hw _ (List.mem_of_getElem? (i := 55) rfl)) e9 f14 (g := (mkF m 23 #[.val (.ref a), .val (.ref b4), .val (.int (0 : Int32)), .val (.ref b0)] [(.ref b0), (.ref t0)])) rfl rfl (hb hby d7_23) _ ?_
    refine XS.aloadN X9.here hx rfl (hb hby d7_26) rfl rfl ?_
    refine XS.iloadN X9.here hx rfl (hb hby d7_27) rfl ?_
    refine XS.aloadN X9.here hx rfl (hb hby d7_28) rfl rfl ?_
    exact kg
  have f17 : Fld Z h4 b0 "dev/triadic/policy/TextLines$Line" "to" "I" (.int (f0 + l0)) := (O_0.ext E4)
  have f18 : Exa Z h4 b0 "dev/triadic/policy/TextLines$Line" := (E_0.ext E4)
  obtain ⟨v16, T16, h16, Lc16, X16, e16, hQ16, st16⟩ := own_callPR X9 hx hZ hown (hw _ (List.mem_of_getElem? (i := 43) rfl)) (hw _ (List.mem_of_getElem? (i := 44) rfl)) (hw _ (List.mem_of_getElem? (i := 45) rfl)) (hw _ (List.mem_of_getElem? (i := 21) rfl)) (hw _ (List.mem_of_getElem? (i := 22) rfl)) (hw _ (List.mem_of_getElem? (i := 46) rfl)) (by decide) (rm_len l Z a0 hw [] b0 f0 (f0 + l0) l0 h4 n0 (by omega) f14 f17 (own_asc _ _)) e9 f18 (g := (mkF m 29 #[.val (.ref a), .val (.ref b4), .val (.int (0 : Int32)), .val (.ref b0)] [(.ref b0), (.int (0 : Int32)), (.ref b4), (.int f0), (.ref t0)])) rfl (by rw [hml]; rfl) (argsL := []) (rest := [(.int (0 : Int32)), (.ref b4), (.int f0), (.ref t0)]) rfl (lenOf pd_1 rfl) rfl (W := 4) (by show 2 * 0 + _ ≤ _; exact Nat.le_of_eq rfl) (hb hby d7_29) (by decide) (by decide) (by decide) (by decide)
  obtain ⟨rfl, Nq16, hs16⟩ := hQ16
  have N16 := Fr.app N0 Nq16
  have e16' : T16.heap = h4 := e16.trans hs16
  have k19 : Rch p e below (s₁.setTop (entryFrame m #[(.ref a)] 4)) T16 (mkF m 32 #[.val (.ref a), .val (.ref b4), .val (.int (0 : Int32)), .val (.ref b0)] [(.int l0), (.int (0 : Int32)), (.ref b4), (.int f0), (.ref t0)]) := fun tg kg => k15 tg (st16 tg kg)
  have f21 : Arv Z h4 t0 kc0 .byte (6 : Int32) (own_dr q0) (.int (0 : Int32)) := (V_0.ext E4)
  have len20 : (List.replicate N.toNatClampNeg (Value.int (0 : Int32))).length = N.toNatClampNeg := by simp only [List.length_append, List.length_replicate, own_seg_len] <;> omega
  obtain ⟨T20, h20, L20, X20, e20, N20, K20, V20, st20⟩ := cpA X16 hx hZ hown (hw _ (List.mem_of_getElem? (i := 56) rfl)) (hw _ (List.mem_of_getElem? (i := 59) rfl)) (hw _ (List.mem_of_getElem? (i := 57) rfl)) (hw _ (List.mem_of_getElem? (i := 58) rfl)) e16' f21 f6 (Or.inl ⟨rfl, rfl⟩) cf0 dq0 cz0 (by show _ ≤ 6; omega) (by omega) rfl (by rw [len20]; omega) N16 (by omega) (g := (mkF m 32 #[.val (.ref a), .val (.ref b4), .val (.int (0 : Int32)), .val (.ref b0)] [(.int l0), (.int (0 : Int32)), (.ref b4), (.int f0), (.ref t0)])) rfl (by rw [hml]; rfl) rfl (hb hby d7_32) (by decide) (W := 0) (by show 2 * 0 + _ ≤ _; exact Nat.le_of_eq rfl) (by decide)
  have s20 : h4.size ≤ h20.size := K20.1
  have k22 : Rch p e below (s₁.setTop (entryFrame m #[(.ref a)] 4)) T20 (mkF m 35 #[.val (.ref a), .val (.ref b4), .val (.int (0 : Int32)), .val (.ref b0)] []) := fun tg kg => k19 tg (st20 tg kg)
  have eq20 : (List.replicate N.toNatClampNeg (Value.int (0 : Int32))).take ((0 : Int32)).toNatClampNeg ++ own_seg q0 f0 l0 ++ (List.replicate N.toNatClampNeg (Value.int (0 : Int32))).drop (((0 : Int32)).toNatClampNeg + l0.toNatClampNeg) = (own_seg q0 f0 l0 ++ List.replicate (N.toNatClampNeg - (l0.toNatClampNeg)) (Value.int (0 : Int32))) := own_cp0 (by omega)
  have V20' : Arv Z h20 b4 c4 .byte N (own_seg q0 f0 l0 ++ List.replicate (N.toNatClampNeg - (l0.toNatClampNeg)) (Value.int (0 : Int32))) (.int (0 : Int32)) := by have q := V20; rw [show (List.range l0.toNatClampNeg).map (fun i => (own_dr q0).getD (f0.toNatClampNeg + i) (.int (0 : Int32))) = own_seg q0 f0 l0 from rfl, eq20] at q; exact q
  have k23 : Rch p e below (s₁.setTop (entryFrame m #[(.ref a)] 4)) T20 (mkF m 37 #[.val (.ref a), .val (.ref b4), .val (.int (0 : Int32)), .val (.ref b0)] [(.ref b0), (.int (0 : Int32))]) := fun tg kg => by
    refine k22 tg ?_
    show Steps p.tables e below (T20.setTop (mkF m 35 #[.val (.ref a), .val (.ref b4), .val (.int (0 : Int32)), .val (.ref b0)] [])) tg
    refine XS.iloadN X20.here hx rfl (hb hby d7_35) rfl ?_
    refine XS.aloadN X20.here hx rfl (hb hby d7_36) rfl rfl ?_
    exact kg
  have f25 : Fld Z h20 b0 "dev/triadic/policy/TextLines$Line" "from" "I" (.int f0) := (f14.keep K20 (ninS (by first | exact own_ne (by omega) | assumption | (apply Ne.symm; assumption)) nin0))
  have f26 : Fld Z h20 b0 "dev/triadic/policy/TextLines$Line" "to" "I" (.int (f0 + l0)) := (f17.keep K20 (ninS (by first | exact own_ne (by omega) | assumption | (apply Ne.symm; assumption)) nin0))
  have f27 : Exa Z h20 b0 "dev/triadic/policy/TextLines$Line" := (f18.keep K20)
  obtain ⟨v24, T24, h24, Lc24, X24, e24, hQ24, st24⟩ := own_callPR X20 hx hZ hown (hw _ (List.mem_of_getElem? (i := 43) rfl)) (hw _ (List.mem_of_getElem? (i := 44) rfl)) (hw _ (List.mem_of_getElem? (i := 45) rfl)) (hw _ (List.mem_of_getElem? (i := 21) rfl)) (hw _ (List.mem_of_getElem? (i := 22) rfl)) (hw _ (List.mem_of_getElem? (i := 46) rfl)) (by decide) (rm_len l Z a0 hw [] b0 f0 (f0 + l0) l0 h20 n0 (by omega) f25 f26 (own_asc _ _)) e20 f27 (g := (mkF m 37 #[.val (.ref a), .val (.ref b4), .val (.int (0 : Int32)), .val (.ref b0)] [(.ref b0), (.int (0 : Int32))])) rfl (by rw [hml]; rfl) (argsL := []) (rest := [(.int (0 : Int32))]) rfl (lenOf pd_1 rfl) rfl (W := 1) (by show 2 * 0 + _ ≤ _; exact Nat.le_of_eq rfl) (hb hby d7_37) (by decide) (by decide) (by decide) (by decide)
  obtain ⟨rfl, Nq24, hs24⟩ := hQ24
  have N24 := Fr.app N20 Nq24
  have e24' : T24.heap = h20 := e24.trans hs24
  have k28 : Rch p e below (s₁.setTop (entryFrame m #[(.ref a)] 4)) T24 (mkF m 40 #[.val (.ref a), .val (.ref b4), .val (.int (0 : Int32)), .val (.ref b0)] [(.int l0), (.int (0 : Int32))]) := fun tg kg => k23 tg (st24 tg kg)
  have da1 : (((0 : Int32) + l0)).toInt = l0.toInt := by rw [own_add (by omega) (by omega) (by omega) (by omega)]; omega
  have dq1 : ¬ (((0 : Int32) + l0)) < 0 := own_nn (by omega)
  have dp1 := nat_of dq1
  have k29 : Rch p e below (s₁.setTop (entryFrame m #[(.ref a)] 4)) T24 (mkF m 43 #[.val (.ref a), .val (.ref b4), .val (.int ((0 : Int32) + l0)), .val (.ref b0)] [(.ref b0)]) := fun tg kg => by
    refine k28 tg ?_
    show Steps p.tables e below (T24.setTop (mkF m 40 #[.val (.ref a), .val (.ref b4), .val (.int (0 : Int32)), .val (.ref b0)] [(.int l0), (.int (0 : Int32))])) tg
    refine XS.iadd X24.here hx rfl (hb hby d7_40) rfl ?_
    refine XS.istoreN X24.here hx rfl (hb hby d7_41) rfl (l' := #[.val (.ref a), .val (.ref b4), .val (.int ((0 : Int32) + l0)), .val (.ref b0)]) rfl ?_
    refine XS.aloadN X24.here hx rfl (hb hby d7_42) rfl rfl ?_
    exact kg
  have f30 : Fld Z h20 b0 "dev/triadic/policy/TextLines$Line" "after" "Ldev/triadic/policy/TextLines$Line;" (.ref b1) := ((A_0.ext E4).keep K20 (ninS (by first | exact own_ne (by omega) | assumption | (apply Ne.symm; assumption)) nin0))
  have k31 : Rch p e below (s₁.setTop (entryFrame m #[(.ref a)] 4)) T24 (mkF m 19 #[.val (.ref a), .val (.ref b4), .val (.int ((0 : Int32) + l0)), .val (.ref b1)] [(.ref b1)]) := fun tg kg => by
    refine k29 tg ?_
    show Steps p.tables e below (T24.setTop (mkF m 43 #[.val (.ref a), .val (.ref b4), .val (.int ((0 : Int32) + l0)), .val (.ref b0)] [(.ref b0)])) tg
    refine own_getFR X24 hx hZ hown (hw _ (List.mem_of_getElem? (i := 47) rfl)) e24' f30 (g := (mkF m 43 #[.val (.ref a), .val (.ref b4), .val (.int ((0 : Int32) + l0)), .val (.ref b0)] [(.ref b0)])) rfl rfl (hb hby d7_43) _ ?_
    refine XS.astoreN X24.here hx rfl (hb hby d7_46) rfl rfl (l' := #[.val (.ref a), .val (.ref b4), .val (.int ((0 : Int32) + l0)), .val (.ref b1)]) rfl ?_
    refine XS.goto X24.here hx rfl (pc0 := 47) (pc' := 14) rfl (hb hby d7_47) (by decide) (by decide) ?_
    show Steps p.tables e below (T24.setTop (mkF m 14 #[.val (.ref a), .val (.ref b4), .val (.int ((0 : Int32) + l0)), .val (.ref b1)] [])) tg
    refine XS.aloadN X24.here hx rfl (hb hby d7_14) rfl rfl ?_
    refine XS.ifnullNo X24.here hx rfl (hb hby d7_15) rfl ?_
    refine XS.aloadN X24.here hx rfl (hb hby d7_18) rfl rfl ?_
    exact kg
  have f32 : Fld Z h20 b1 "dev/triadic/policy/TextLines$Line" "bytes" "[B" (.ref t1) := ((B_1.ext E4).keep K20 (ninS (by first | exact own_ne (by omega) | assumption | (apply Ne.symm; assumption)) nin0))
  have k33 : Rch p e below (s₁.setTop (entryFrame m #[(.ref a)] 4)) T24 (mkF m 23 #[.val (.ref a), .val (.ref b4), .val (.int ((0 : Int32) + l0)), .val (.ref b1)] [(.ref b1), (.ref t1)]) := fun tg kg => by
    refine k31 tg ?_
    show Steps p.tables e below (T24.setTop (mkF m 19 #[.val (.ref a), .val (.ref b4), .val (.int ((0 : Int32) + l0)), .val (.ref b1)] [(.ref b1)])) tg
    refine own_getFR X24 hx hZ hown (hw _ (List.mem_of_getElem? (i := 54) rfl)) e24' f32 (g := (mkF m 19 #[.val (.ref a), .val (.ref b4), .val (.int ((0 : Int32) + l0)), .val (.ref b1)] [(.ref b1)])) rfl rfl (hb hby d7_19) _ ?_
    refine XS.aloadN X24.here hx rfl (hb hby d7_22) rfl rfl ?_
    exact kg
  have f34 : Fld Z h20 b1 "dev/triadic/policy/TextLines$Line" "from" "I" (.int f1) := ((G_1.ext E4).keep K20 (ninS (by first | exact own_ne (by omega) | assumption | (apply Ne.symm; assumption)) nin0))
  have k35 : Rch p e below (s₁.setTop (entryFrame m #[(.ref a)] 4)) T24 (mkF m 29 #[.val (.ref a), .val (.ref b4), .val (.int ((0 : Int32) + l0)), .val (.ref b1)] [(.ref b1), (.int ((0 : Int32) + l0)), (.ref b4), (.int f1), (.ref t1)]) := fun tg kg => by
    refine k33 tg ?_
    show Steps p.tables e below (T24.setTop (mkF m 23 #[.val (.ref a), .val (.ref b4), .val (.int ((0 : Int32) + l0)), .val (.ref b1)] [(.ref b1), (.ref t1)])) tg
    refine own_getFR X24 hx hZ hown (hw _ (List.mem_of_getElem? (i := 55) rfl)) e24' f34 (g := (mkF m 23 #[.val (.ref a), .val (.ref b4), .val (.int ((0 : Int32) + l0)), .val (.ref b1)] [(.ref b1), (.ref t1)])) rfl rfl (hb hby d7_23) _ ?_
    show Steps p.tables e below (T24.setTop (mkF m 26 #[.val (.ref a), .val (.ref b4), .val (.int ((0 : Int32) + l0)), .val (.ref b1)] [(.int f1), (.ref t1)])) tg
    refine XS.aloadN X24.here hx rfl (hb hby d7_26) rfl rfl ?_
    refine XS.iloadN X24.here hx rfl (hb hby d7_27) rfl ?_
    refine XS.aloadN X24.here hx rfl (hb hby d7_28) rfl rfl ?_
    exact kg
  have f37 : Fld Z h20 b1 "dev/triadic/policy/TextLines$Line" "to" "I" (.int (f1 + l1)) := ((O_1.ext E4).keep K20 (ninS (by first | exact own_ne (by omega) | assumption | (apply Ne.symm; assumption)) nin0))
  have f38 : Exa Z h20 b1 "dev/triadic/policy/TextLines$Line" := ((E_1.ext E4).keep K20)
  obtain ⟨v36, T36, h36, Lc36, X36, e36, hQ36, st36⟩ := own_callPR X24 hx hZ hown (hw _ (List.mem_of_getElem? (i := 43) rfl)) (hw _ (List.mem_of_getElem? (i := 44) rfl)) (hw _ (List.mem_of_getElem? (i := 45) rfl)) (hw _ (List.mem_of_getElem? (i := 21) rfl)) (hw _ (List.mem_of_getElem? (i := 22) rfl)) (hw _ (List.mem_of_getElem? (i := 46) rfl)) (by decide) (rm_len l Z a0 hw [] b1 f1 (f1 + l1) l1 h20 n0 (by omega) f34 f37 (own_asc _ _)) e24' f38 (g := (mkF m 29 #[.val (.ref a), .val (.ref b4), .val (.int ((0 : Int32) + l0)), .val (.ref b1)] [(.ref b1), (.int ((0 : Int32) + l0)), (.ref b4), (.int f1), (.ref t1)])) rfl (by rw [hml]; rfl) (argsL := []) (rest := [(.int ((0 : Int32) + l0)), (.ref b4), (.int f1), (.ref t1)]) rfl (lenOf pd_1 rfl) rfl (W := 4) (by show 2 * 0 + _ ≤ _; exact Nat.le_of_eq rfl) (hb hby d7_29) (by decide) (by decide) (by decide) (by decide)
  obtain ⟨rfl, Nq36, hs36⟩ := hQ36
  have N36 := Fr.app N24 Nq36
  have e36' : T36.heap = h20 := e36.trans hs36
  have k39 : Rch p e below (s₁.setTop (entryFrame m #[(.ref a)] 4)) T36 (mkF m 32 #[.val (.ref a), .val (.ref b4), .val (.int ((0 : Int32) + l0)), .val (.ref b1)] [(.int l1), (.int ((0 : Int32) + l0)), (.ref b4), (.int f1), (.ref t1)]) := fun tg kg => k35 tg (st36 tg kg)
  have f41 : Arv Z h20 t1 kc1 .byte (6 : Int32) (own_dr q1) (.int (0 : Int32)) := ((V_1.ext E4).keep K20 (ninS (by first | exact own_ne (by omega) | assumption | (apply Ne.symm; assumption)) nin0))
  have len40 : (own_seg q0 f0 l0 ++ List.replicate (N.toNatClampNeg - (l0.toNatClampNeg)) (Value.int (0 : Int32))).length = N.toNatClampNeg := by simp only [List.length_append, List.length_replicate, own_seg_len] <;> omega
  obtain ⟨T40, h40, L40, X40, e40, N40, K40, V40, st40⟩ := cpA X36 hx hZ hown (hw _ (List.mem_of_getElem? (i := 56) rfl)) (hw _ (List.mem_of_getElem? (i := 59) rfl)) (hw _ (List.mem_of_getElem? (i := 57) rfl)) (hw _ (List.mem_of_getElem? (i := 58) rfl)) e36' f41 V20' (Or.inl ⟨rfl, rfl⟩) cf1 dq1 cz1 (by show _ ≤ 6; omega) (by omega) rfl (by rw [len40]; omega) N36 (by omega) (g := (mkF m 32 #[.val (.ref a), .val (.ref b4), .val (.int ((0 : Int32) + l0)), .val (.ref b1)] [(.int l1), (.int ((0 : Int32) + l0)), (.ref b4), (.int f1), (.ref t1)])) rfl (by rw [hml]; rfl) rfl (hb hby d7_32) (by decide) (W := 0) (by show 2 * 0 + _ ≤ _; exact Nat.le_of_eq rfl) (by decide)
  have s40 : h20.size ≤ h40.size := K40.1
  have k42 : Rch p e below (s₁.setTop (entryFrame m #[(.ref a)] 4)) T40 (mkF m 35 #[.val (.ref a), .val (.ref b4), .val (.int ((0 : Int32) + l0)), .val (.ref b1)] []) := fun tg kg => k39 tg (st40 tg kg)
  have eq40 : (own_seg q0 f0 l0 ++ List.replicate (N.toNatClampNeg - (l0.toNatClampNeg)) (Value.int (0 : Int32))).take (((0 : Int32) + l0)).toNatClampNeg ++ own_seg q1 f1 l1 ++ (own_seg q0 f0 l0 ++ List.replicate (N.toNatClampNeg - (l0.toNatClampNeg)) (Value.int (0 : Int32))).drop ((((0 : Int32) + l0)).toNatClampNeg + l1.toNatClampNeg) = (own_seg q0 f0 l0 ++ own_seg q1 f1 l1 ++ List.replicate (N.toNatClampNeg - (l0.toNatClampNeg + l1.toNatClampNeg)) (Value.int (0 : Int32))) := own_cpS (by simp only [List.length_append, own_seg_len]) (by omega)
  have V40' : Arv Z h40 b4 c4 .byte N (own_seg q0 f0 l0 ++ own_seg q1 f1 l1 ++ List.replicate (N.toNatClampNeg - (l0.toNatClampNeg + l1.toNatClampNeg)) (Value.int (0 : Int32))) (.int (0 : Int32)) := by have q := V40; rw [show (List.range l1.toNatClampNeg).map (fun i => (own_dr q1).getD (f1.toNatClampNeg + i) (.int (0 : Int32))) = own_seg q1 f1 l1 from rfl, eq40] at q; exact q
  have k43 : Rch p e below (s₁.setTop (entryFrame m #[(.ref a)] 4)) T40 (mkF m 37 #[.val (.ref a), .val (.ref b4), .val (.int ((0 : Int32) + l0)), .val (.ref b1)] [(.ref b1), (.int ((0 : Int32) + l0))]) := fun tg kg => by
    refine k42 tg ?_
    show Steps p.tables e below (T40.setTop (mkF m 35 #[.val (.ref a), .val (.ref b4), .val (.int ((0 : Int32) + l0)), .val (.ref b1)] [])) tg
    refine XS.iloadN X40.here hx rfl (hb hby d7_35) rfl ?_
    refine XS.aloadN X40.here hx rfl (hb hby d7_36) rfl rfl ?_
    exact kg
  have f45 : Fld Z h40 b1 "dev/triadic/policy/TextLines$Line" "from" "I" (.int f1) := (f34.keep K40 (ninS (by first | exact own_ne (by omega) | assumption | (apply Ne.symm; assumption)) nin0))
  have f46 : Fld Z h40 b1 "dev/triadic/policy/TextLines$Line" "to" "I" (.int (f1 + l1)) := (f37.keep K40 (ninS (by first | exact own_ne (by omega) | assumption | (apply Ne.symm; assumption)) nin0))
  have f47 : Exa Z h40 b1 "dev/triadic/policy/TextLines$Line" := (f38.keep K40)
  obtain ⟨v44, T44, h44, Lc44, X44, e44, hQ44, st44⟩ := own_callPR X40 hx hZ hown (hw _ (List.mem_of_getElem? (i := 43) rfl)) (hw _ (List.mem_of_getElem? (i := 44) rfl)) (hw _ (List.mem_of_getElem? (i := 45) rfl)) (hw _ (List.mem_of_getElem? (i := 21) rfl)) (hw _ (List.mem_of_getElem? (i := 22) rfl)) (hw _ (List.mem_of_getElem? (i := 46) rfl)) (by decide) (rm_len l Z a0 hw [] b1 f1 (f1 + l1) l1 h40 n0 (by omega) f45 f46 (own_asc _ _)) e40 f47 (g := (mkF m 37 #[.val (.ref a), .val (.ref b4), .val (.int ((0 : Int32) + l0)), .val (.ref b1)] [(.ref b1), (.int ((0 : Int32) + l0))])) rfl (by rw [hml]; rfl) (argsL := []) (rest := [(.int ((0 : Int32) + l0))]) rfl (lenOf pd_1 rfl) rfl (W := 1) (by show 2 * 0 + _ ≤ _; exact Nat.le_of_eq rfl) (hb hby d7_37) (by decide) (by decide) (by decide) (by decide)
  obtain ⟨rfl, Nq44, hs44⟩ := hQ44
  have N44 := Fr.app N40 Nq44
  have e44' : T44.heap = h40 := e44.trans hs44
  have k48 : Rch p e below (s₁.setTop (entryFrame m #[(.ref a)] 4)) T44 (mkF m 40 #[.val (.ref a), .val (.ref b4), .val (.int ((0 : Int32) + l0)), .val (.ref b1)] [(.int l1), (.int ((0 : Int32) + l0))]) := fun tg kg => k43 tg (st44 tg kg)
  have da2 : ((((0 : Int32) + l0) + l1)).toInt = l0.toInt + l1.toInt := by rw [own_add (by omega) (by omega) (by omega) (by omega)]; omega
  have dq2 : ¬ ((((0 : Int32) + l0) + l1)) < 0 := own_nn (by omega)
  have dp2 := nat_of dq2
  have k49 : Rch p e below (s₁.setTop (entryFrame m #[(.ref a)] 4)) T44 (mkF m 43 #[.val (.ref a), .val (.ref b4), .val (.int (((0 : Int32) + l0) + l1)), .val (.ref b1)] [(.ref b1)]) := fun tg kg => by
    refine k48 tg ?_
    show Steps p.tables e below (T44.setTop (mkF m 40 #[.val (.ref a), .val (.ref b4), .val (.int ((0 : Int32) + l0)), .val (.ref b1)] [(.int l1), (.int ((0 : Int32) + l0))])) tg
    refine XS.iadd X44.here hx rfl (hb hby d7_40) rfl ?_
    show Steps p.tables e below (T44.setTop (mkF m 41 #[.val (.ref a), .val (.ref b4), .val (.int ((0 : Int32) + l0)), .val (.ref b1)] [(.int (((0 : Int32) + l0) + l1))])) tg
    refine XS.istoreN X44.here hx rfl (hb hby d7_41) rfl (l' := #[.val (.ref a), .val (.ref b4), .val (.int (((0 : Int32) + l0) + l1)), .val (.ref b1)]) rfl ?_
    refine XS.aloadN X44.here hx rfl (hb hby d7_42) rfl rfl ?_
    exact kg
  have f50 : Fld Z h40 b1 "dev/triadic/policy/TextLines$Line" "after" "Ldev/triadic/policy/TextLines$Line;" .null := (((A_1.ext E4).keep K20 (ninS (by first | exact own_ne (by omega) | assumption | (apply Ne.symm; assumption)) nin0)).keep K40 (ninS (by first | exact own_ne (by omega) | assumption | (apply Ne.symm; assumption)) nin0))
  have f51 : Arv Z h40 b4 c4 .byte N (own_seg q0 f0 l0 ++ own_seg q1 f1 l1) (.int (0 : Int32)) := (by have q := V40'; rw [show N.toNatClampNeg - (l0.toNatClampNeg + l1.toNatClampNeg) = 0 by omega] at q; simpa using q)
  have k52 : Rch p e below (s₁.setTop (entryFrame m #[(.ref a)] 4)) T44 (mkF m 51 #[.val (.ref a), .val (.ref b4), .val (.int (((0 : Int32) + l0) + l1)), .val .null] [(.ref b4)]) := fun tg kg => by
    refine k49 tg ?_
    show Steps p.tables e below (T44.setTop (mkF m 43 #[.val (.ref a), .val (.ref b4), .val (.int (((0 : Int32) + l0) + l1)), .val (.ref b1)] [(.ref b1)])) tg
    refine own_getFR X44 hx hZ hown (hw _ (List.mem_of_getElem? (i := 47) rfl)) e44' f50 (g := (mkF m 43 #[.val (.ref a), .val (.ref b4), .val (.int (((0 : Int32) + l0) + l1)), .val (.ref b1)] [(.ref b1)])) rfl rfl (hb hby d7_43) _ ?_
    refine XS.astoreN X44.here hx rfl (hb hby d7_46) rfl rfl (l' := #[.val (.ref a), .val (.ref b4), .val (.int (((0 : Int32) + l0) + l1)), .val .null]) rfl ?_
    refine XS.goto X44.here hx rfl (pc0 := 47) (pc' := 14) rfl (hb hby d7_47) (by decide) (by decide) ?_
    refine XS.aloadN X44.here hx rfl (hb hby d7_14) rfl rfl ?_
    show Steps p.tables e below (T44.setTop (mkF m 15 #[.val (.ref a), .val (.ref b4), .val (.int (((0 : Int32) + l0) + l1)), .val .null] [.null])) tg
    refine XS.ifnullYes X44.here hx rfl (pc0 := 15) (pc' := 50) rfl (hb hby d7_15) rfl (by decide) (by decide) ?_
    refine XS.aloadN X44.here hx rfl (hb hby d7_50) rfl rfl ?_
    exact kg
  obtain ⟨fs53, hr53, hrun53, hended53, hW53, hsame53⟩ := X44.leave (v := some (.ref b4)) (fun h => by rw [Bd.returns] at h; cases h)
  refine ⟨_, _, k52 _ ?_, hrun53, hended53, _, _, rfl, ?_, ⟨_, rfl⟩, hW53, hsame53.mono (by decide) (by decide)⟩
  · exact retOut X44 hx Bd.returns rfl (Or.inr (Or.inr (Or.inr (Or.inr ⟨rfl, rfl, rfl⟩)))) (hb hby d7_51) hr53
  · show Q_rm_bytes2 Z a N b0 t0 f0 l0 kc0 q0 b1 t1 f1 l1 kc1 q1 h0 n0 _ T44.heap _
    rw [e44']
    exact ⟨b4, c4, rfl, N44, ((((Keep.refl h0 []).ext E4).trans K20 (allS (Or.inr (by omega)) all0)).trans K40 (allS (Or.inr (by omega)) all0)), (by omega), f51⟩
theorem ef_rm_bytes3 (m : MethodId) (x0 : Addr) : entryFrame m #[(.ref x0)] 4 = mkF m 0 #[.val (.ref x0), .unset, .unset, .unset] [] := by first | (simp [entryFrame, mkF, argsToLocals, Value.category]; done) | rfl
def Q_rm_bytes3 (Z : State) (a : Addr) (N : Int32) (b0 : Addr) (t0 : Addr) (f0 : Int32) (l0 : Int32) (kc0 : ClassId) (q0 : Int64) (b1 : Addr) (t1 : Addr) (f1 : Int32) (l1 : Int32) (kc1 : ClassId) (q1 : Int64) (b2 : Addr) (t2 : Addr) (f2 : Int32) (l2 : Int32) (kc2 : ClassId) (q2 : Int64) (h0 : Heap) (n0 : Nat) (v : Option Value) (h : Heap) (L : List Loc) : Prop := ∃ (g : Addr) (k : ClassId), (v = some (.ref g)) ∧ (Fr n0 L) ∧ (Keep h0 h []) ∧ (h0.size ≤ g) ∧ (Arv Z h g k .byte N (own_seg q0 f0 l0 ++ own_seg q1 f1 l1 ++ own_seg q2 f2 l2) (.int (0 : Int32)))
set_option maxRecDepth 65536 in
set_option maxHeartbeats 40000000 in
theorem rm_bytes3 (l : Launch) (Z : State) (a0 : Array Value) (hw : ∀ d ∈ tables_1, d.before a0 Z = true) (ws : List Jvm.Cond) (a : Addr) (N : Int32) (b0 : Addr) (t0 : Addr) (f0 : Int32) (l0 : Int32) (kc0 : ClassId) (q0 : Int64) (b1 : Addr) (t1 : Addr) (f1 : Int32) (l1 : Int32) (kc1 : ClassId) (q1 : Int64) (b2 : Addr) (t2 : Addr) (f2 : Int32) (l2 : Int32) (kc2 : ClassId) (q2 : Int64) (h0 : Heap) (n0 : Nat) (Z0 : n0 ≤ h0.size) (F_f : Fld Z h0 a "dev/triadic/policy/TextLines" "first" "Ldev/triadic/policy/TextLines$Line;" (.ref b0)) (F_n : Fld Z h0 a "dev/triadic/policy/TextLines" "length" "I" (.int N)) (E_0 : Exa Z h0 b0 "dev/triadic/policy/TextLines$Line") (B_0 : Fld Z h0 b0 "dev/triadic/policy/TextLines$Line" "bytes" "[B" (.ref t0)) (G_0 : Fld Z h0 b0 "dev/triadic/policy/TextLines$Line" "from" "I" (.int f0)) (O_0 : Fld Z h0 b0 "dev/triadic/policy/TextLines$Line" "to" "I" (.int (f0 + l0))) (A_0 : Fld Z h0 b0 "dev/triadic/policy/TextLines$Line" "after" "Ldev/triadic/policy/TextLines$Line;" (.ref b1)) (V_0 : Arv Z h0 t0 kc0 .byte (6 : Int32) (own_dr q0) (.int (0 : Int32))) (hf0 : own_in3 f0) (hl0 : own_in3 l0) (E_1 : Exa Z h0 b1 "dev/triadic/policy/TextLines$Line") (B_1 : Fld Z h0 b1 "dev/triadic/policy/TextLines$Line" "bytes" "[B" (.ref t1)) (G_1 : Fld Z h0 b1 "dev/triadic/policy/TextLines$Line" "from" "I" (.int f1)) (O_1 : Fld Z h0 b1 "dev/triadic/policy/TextLines$Line" "to" "I" (.int (f1 + l1))) (A_1 : Fld Z h0 b1 "dev/triadic/policy/TextLines$Line" "after" "Ldev/triadic/policy/TextLines$Line;" (.ref b2)) (V_1 : Arv Z h0 t1 kc1 .byte (6 : Int32) (own_dr q1) (.int (0 : Int32))) (hf1 : own_in3 f1) (hl1 : own_in3 l1) (E_2 : Exa Z h0 b2 "dev/triadic/policy/TextLines$Line") (B_2 : Fld Z h0 b2 "dev/triadic/policy/TextLines$Line" "bytes" "[B" (.ref t2)) (G_2 : Fld Z h0 b2 "dev/triadic/policy/TextLines$Line" "from" "I" (.int f2)) (O_2 : Fld Z h0 b2 "dev/triadic/policy/TextLines$Line" "to" "I" (.int (f2 + l2))) (A_2 : Fld Z h0 b2 "dev/triadic/policy/TextLines$Line" "after" "Ldev/triadic/policy/TextLines$Line;" .null) (V_2 : Arv Z h0 t2 kc2 .byte (6 : Int32) (own_dr q2) (.int (0 : Int32))) (hf2 : own_in3 f2) (hl2 : own_in3 l2) (hN : N.toInt = l0.toInt + l1.toInt + l2.toInt) :
    Con l Z (⟨"dev/triadic/policy/TextLines", "bytes", "()[B"⟩ : MethodName) prog_75_method_6_code 4 (some (.array .byte)) ws ({ frames := 1, cells := 1, slots := 9, locals := 40 } : Room) #[(.ref a)] h0 (Q_rm_bytes3 Z a N b0 t0 f0 l0 kc0 q0 b1 t1 f1 l1 kc1 q1 b2 t2 f2 l2 kc2 q2 h0 n0) := by
  refine MetFree.of_bodySF (plainFor_of_name pn_TextLines) hisR ?_
  intro p e s m args below meth c s₁ Bd hml0 hP hK
  obtain ⟨rfl, hZ, hh⟩ := hP
  have hx := Bd.exec
  have hby := Bd.bytes
  have hml : c.maxLocals = 4 := hml0
  have hown : s.vm.findClass "dev/triadic/policy/TextLines" = some m.cls := findClass_of_methodNamed Bd.named
  have hnm := (name_of_methodNamed Bd.named Bd.method).1
  have X0 : Stand p l e ({ frames := 1, cells := 1, slots := 9, locals := 40 } : Room) s m #[(.ref a)] below meth c s₁ [] 0 0 := Stand.of_body Bd
  have e0 : s₁.heap = h0 := by rw [← hh, Bd.state]; rfl
  have N0 := Fr.nil n0
  have k0 : Rch p e below (s₁.setTop (entryFrame m #[(.ref a)] 4)) s₁ (mkF m 0 #[.val (.ref a), .unset, .unset, .unset] []) := fun tg kg => castTop (ef_rm_bytes3 m a) kg
  have lt_F_f := own_ltN F_f.lt
  have lt_F_n := own_ltN F_n.lt
  have lt_E_0 := own_ltN E_0.lt
  have lt_B_0 := own_ltN B_0.lt
  have lt_G_0 := own_ltN G_0.lt
  have lt_O_0 := own_ltN O_0.lt
  have lt_A_0 := own_ltN A_0.lt
  have lt_V_0 := own_ltN V_0.lt
  have lt_E_1 := own_ltN E_1.lt
  have lt_B_1 := own_ltN B_1.lt
  have lt_G_1 := own_ltN G_1.lt
  have lt_O_1 := own_ltN O_1.lt
  have lt_A_1 := own_ltN A_1.lt
  have lt_V_1 := own_ltN V_1.lt
  have lt_E_2 := own_ltN E_2.lt
  have lt_B_2 := own_ltN B_2.lt
  have lt_G_2 := own_ltN G_2.lt
  have lt_O_2 := own_ltN O_2.lt
  have lt_A_2 := own_ltN A_2.lt
  have lt_V_2 := own_ltN V_2.lt
  have k1 : Rch p e below (s₁.setTop (entryFrame m #[(.ref a)] 4)) s₁ (mkF m 1 #[.val (.ref a), .unset, .unset, .unset] [(.ref a)]) := fun tg kg => by
    refine k0 tg ?_
    show Steps p.tables e below (s₁.setTop (mkF m 0 #[.val (.ref a), .unset, .unset, .unset] [])) tg
    refine XS.aloadN X0.here hx rfl (hb hby d7_0) rfl rfl ?_
    exact kg
  obtain ⟨T2, X2, e2, st2⟩ := getF X0 hx hZ hown (host := "") (Or.inl (hw _ (List.mem_of_getElem? (i := 41) rfl))) Via.refl e0 F_n (g := (mkF m 1 #[.val (.ref a), .unset, .unset, .unset] [(.ref a)])) rfl rfl (hb hby d7_1)
  have k3 : Rch p e below (s₁.setTop (entryFrame m #[(.ref a)] 4)) T2 (mkF m 4 #[.val (.ref a), .unset, .unset, .unset] [(.int N)]) := fun tg kg => k1 tg (st2 tg kg)
  have hz := own_z
  obtain ⟨cf0, df0, ff0⟩ := own_in3_nat hf0
  obtain ⟨cz0, dl0, fl0⟩ := own_in3_nat hl0
  have hf0' := hf0; have hl0' := hl0; unfold own_in3 at hf0' hl0'
  obtain ⟨cf1, df1, ff1⟩ := own_in3_nat hf1
  obtain ⟨cz1, dl1, fl1⟩ := own_in3_nat hl1
  have hf1' := hf1; have hl1' := hl1; unfold own_in3 at hf1' hl1'
  obtain ⟨cf2, df2, ff2⟩ := own_in3_nat hf2
  obtain ⟨cz2, dl2, fl2⟩ := own_in3_nat hl2
  have hf2' := hf2; have hl2' := hl2; unfold own_in3 at hf2' hl2'
  have hNn : ¬ N < 0 := own_nn (by omega)
  have hNd := nat_of hNn
  have hNc : N.toNatClampNeg ≤ 9 := by omega
  obtain ⟨T4, h4, c4, X4, e4, E4, A4, st4⟩ := newP X2 hx hZ (hw _ (List.mem_of_getElem? (i := 4) rfl)) e2 (g := (mkF m 4 #[.val (.ref a), .unset, .unset, .unset] [(.int N)])) rfl (hb hby d7_4) rfl hNn (cap := 9) hNc (by decide) (by decide) (by decide)
  obtain ⟨b4, g4⟩ : ∃ z, z = h0.size := ⟨_, rfl⟩
  rw [← g4] at A4 st4
  have s4 : h0.size ≤ h4.size := E4.1
  have lt4 : b4 < h4.size := A4.lt
  have k5 : Rch p e below (s₁.setTop (entryFrame m #[(.ref a)] 4)) T4 (mkF m 6 #[.val (.ref a), .unset, .unset, .unset] [(.ref b4)]) := fun tg kg => k3 tg (st4 tg kg)
  have V4 : Arv Z h4 b4 c4 .byte N [] (.int (0 : Int32)) := Arv.new A4 hNn
  have f6 : Arv Z h4 b4 c4 .byte N (List.replicate N.toNatClampNeg (Value.int (0 : Int32))) (.int (0 : Int32)) := (V4.pad (pad_rep [] _ _))
  have dp0 : ((0 : Int32).toNatClampNeg : Int) = 0 := by decide
  have dq0 : ¬ (0 : Int32) < 0 := by decide
  have k7 : Rch p e below (s₁.setTop (entryFrame m #[(.ref a)] 4)) T4 (mkF m 10 #[.val (.ref a), .val (.ref b4), .val (.int (0 : Int32)), .unset] [(.ref a)]) := fun tg kg => by
    refine k5 tg ?_
    show Steps p.tables e below (T4.setTop (mkF m 6 #[.val (.ref a), .unset, .unset, .unset] [(.ref b4)])) tg
    refine XS.astoreN X4.here hx rfl (hb hby d7_6) rfl rfl (l' := #[.val (.ref a), .val (.ref b4), .unset, .unset]) rfl ?_
    refine XS.iconst X4.here hx rfl (hb hby d7_7) ?_
    refine XS.istoreN X4.here hx rfl (hb hby d7_8) rfl (l' := #[.val (.ref a), .val (.ref b4), .val (.int (0 : Int32)), .unset]) rfl ?_
    refine XS.aloadN X4.here hx rfl (hb hby d7_9) rfl rfl ?_
    exact kg
  have f8 : Fld Z h4 a "dev/triadic/policy/TextLines" "first" "Ldev/triadic/policy/TextLines$Line;" (.ref b0) := (F_f.ext E4)
  obtain ⟨T9, X9, e9, st9⟩ := getF X4 hx hZ hown (host := "") (Or.inl (hw _ (List.mem_of_getElem? (i := 39) rfl))) Via.refl e4 f8 (g := (mkF m 10 #[.val (.ref a), .val (.ref b4), .val (.int (0 : Int32)), .unset] [(.ref a)])) rfl rfl (hb hby d7_10)
  have k10 : Rch p e below (s₁.setTop (entryFrame m #[(.ref a)] 4)) T9 (mkF m 13 #[.val (.ref a), .val (.ref b4), .val (.int (0 : Int32)), .unset] [(.ref b0)]) := fun tg kg => k7 tg (st9 tg kg)
  have k11 : Rch p e below (s₁.setTop (entryFrame m #[(.ref a)] 4)) T9 (mkF m 19 #[.val (.ref a), .val (.ref b4), .val (.int (0 : Int32)), .val (.ref b0)] [(.ref b0)]) := fun tg kg => by
    refine k10 tg ?_
    show Steps p.tables e below (T9.setTop (mkF m 13 #[.val (.ref a), .val (.ref b4), .val (.int (0 : Int32)), .unset] [(.ref b0)])) tg
    refine XS.astoreN X9.here hx rfl (hb hby d7_13) rfl rfl (l' := #[.val (.ref a), .val (.ref b4), .val (.int (0 : Int32)), .val (.ref b0)]) rfl ?_
    refine XS.aloadN X9.here hx rfl (hb hby d7_14) rfl rfl ?_
    refine XS.ifnullNo X9.here hx rfl (hb hby d7_15) rfl ?_
    refine XS.aloadN X9.here hx rfl (hb hby d7_18) rfl rfl ?_
    exact kg
  have f12 : Fld Z h4 b0 "dev/triadic/policy/TextLines$Line" "bytes" "[B" (.ref t0) := (B_0.ext E4)
  have k13 : Rch p e below (s₁.setTop (entryFrame m #[(.ref a)] 4)) T9 (mkF m 23 #[.val (.ref a), .val (.ref b4), .val (.int (0 : Int32)), .val (.ref b0)] [(.ref b0), (.ref t0)]) := fun tg kg => by
    refine k11 tg ?_
    show Steps p.tables e below (T9.setTop (mkF m 19 #[.val (.ref a), .val (.ref b4), .val (.int (0 : Int32)), .val (.ref b0)] [(.ref b0)])) tg
    refine own_getFR X9 hx hZ hown (hw _ (List.mem_of_getElem? (i := 54) rfl)) e9 f12 (g := (mkF m 19 #[.val (.ref a), .val (.ref b4), .val (.int (0 : Int32)), .val (.ref b0)] [(.ref b0)])) rfl rfl (hb hby d7_19) _ ?_
    refine XS.aloadN X9.here hx rfl (hb hby d7_22) rfl rfl ?_
    exact kg
  have f14 : Fld Z h4 b0 "dev/triadic/policy/TextLines$Line" "from" "I" (.int f0) := (G_0.ext E4)
  have k15 : Rch p e below (s₁.setTop (entryFrame m #[(.ref a)] 4)) T9 (mkF m 29 #[.val (.ref a), .val (.ref b4), .val (.int (0 : Int32)), .val (.ref b0)] [(.ref b0), (.int (0 : Int32)), (.ref b4), (.int f0), (.ref t0)]) := fun tg kg => by
    refine k13 tg ?_
    show Steps p.tables e below (T9.setTop (mkF m 23 #[.val (.ref a), .val (.ref b4), .val (.int (0 : Int32)), .val (.ref b0)] [(.ref b0), (.ref t0)])) tg
    refine own_getFR X9 hx hZ hown (hw _ (List.mem_of_getElem? (i := 55) rfl)) e9 f14 (g := (mkF m 23 #[.val (.ref a), .val (.ref b4), .val (.int (0 : Int32)), .val (.ref b0)] [(.ref b0), (.ref t0)])) rfl rfl (hb hby d7_23) _ ?_
    refine XS.aloadN X9.here hx rfl (hb hby d7_26) rfl rfl ?_
    refine XS.iloadN X9.here hx rfl (hb hby d7_27) rfl ?_
    refine XS.aloadN X9.here hx rfl (hb hby d7_28) rfl rfl ?_
    exact kg
  have f17 : Fld Z h4 b0 "dev/triadic/policy/TextLines$Line" "to" "I" (.int (f0 + l0)) := (O_0.ext E4)
  have f18 : Exa Z h4 b0 "dev/triadic/policy/TextLines$Line" := (E_0.ext E4)
  obtain ⟨v16, T16, h16, Lc16, X16, e16, hQ16, st16⟩ := own_callPR X9 hx hZ hown (hw _ (List.mem_of_getElem? (i := 43) rfl)) (hw _ (List.mem_of_getElem? (i := 44) rfl)) (hw _ (List.mem_of_getElem? (i := 45) rfl)) (hw _ (List.mem_of_getElem? (i := 21) rfl)) (hw _ (List.mem_of_getElem? (i := 22) rfl)) (hw _ (List.mem_of_getElem? (i := 46) rfl)) (by decide) (rm_len l Z a0 hw [] b0 f0 (f0 + l0) l0 h4 n0 (by omega) f14 f17 (own_asc _ _)) e9 f18 (g := (mkF m 29 #[.val (.ref a), .val (.ref b4), .val (.int (0 : Int32)), .val (.ref b0)] [(.ref b0), (.int (0 : Int32)), (.ref b4), (.int f0), (.ref t0)])) rfl (by rw [hml]; rfl) (argsL := []) (rest := [(.int (0 : Int32)), (.ref b4), (.int f0), (.ref t0)]) rfl (lenOf pd_1 rfl) rfl (W := 4) (by show 2 * 0 + _ ≤ _; exact Nat.le_of_eq rfl) (hb hby d7_29) (by decide) (by decide) (by decide) (by decide)
  obtain ⟨rfl, Nq16, hs16⟩ := hQ16
  have N16 := Fr.app N0 Nq16
  have e16' : T16.heap = h4 := e16.trans hs16
  have k19 : Rch p e below (s₁.setTop (entryFrame m #[(.ref a)] 4)) T16 (mkF m 32 #[.val (.ref a), .val (.ref b4), .val (.int (0 : Int32)), .val (.ref b0)] [(.int l0), (.int (0 : Int32)), (.ref b4), (.int f0), (.ref t0)]) := fun tg kg => k15 tg (st16 tg kg)
  have f21 : Arv Z h4 t0 kc0 .byte (6 : Int32) (own_dr q0) (.int (0 : Int32)) := (V_0.ext E4)
  have len20 : (List.replicate N.toNatClampNeg (Value.int (0 : Int32))).length = N.toNatClampNeg := by simp only [List.length_append, List.length_replicate, own_seg_len] <;> omega
  obtain ⟨T20, h20, L20, X20, e20, N20, K20, V20, st20⟩ := cpA X16 hx hZ hown (hw _ (List.mem_of_getElem? (i := 56) rfl)) (hw _ (List.mem_of_getElem? (i := 59) rfl)) (hw _ (List.mem_of_getElem? (i := 57) rfl)) (hw _ (List.mem_of_getElem? (i := 58) rfl)) e16' f21 f6 (Or.inl ⟨rfl, rfl⟩) cf0 dq0 cz0 (by show _ ≤ 6; omega) (by omega) rfl (by rw [len20]; omega) N16 (by omega) (g := (mkF m 32 #[.val (.ref a), .val (.ref b4), .val (.int (0 : Int32)), .val (.ref b0)] [(.int l0), (.int (0 : Int32)), (.ref b4), (.int f0), (.ref t0)])) rfl (by rw [hml]; rfl) rfl (hb hby d7_32) (by decide) (W := 0) (by show 2 * 0 + _ ≤ _; exact Nat.le_of_eq rfl) (by decide)
  have s20 : h4.size ≤ h20.size := K20.1
  have k22 : Rch p e below (s₁.setTop (entryFrame m #[(.ref a)] 4)) T20 (mkF m 35 #[.val (.ref a), .val (.ref b4), .val (.int (0 : Int32)), .val (.ref b0)] []) := fun tg kg => k19 tg (st20 tg kg)
  have eq20 : (List.replicate N.toNatClampNeg (Value.int (0 : Int32))).take ((0 : Int32)).toNatClampNeg ++ own_seg q0 f0 l0 ++ (List.replicate N.toNatClampNeg (Value.int (0 : Int32))).drop (((0 : Int32)).toNatClampNeg + l0.toNatClampNeg) = (own_seg q0 f0 l0 ++ List.replicate (N.toNatClampNeg - (l0.toNatClampNeg)) (Value.int (0 : Int32))) := own_cp0 (by omega)
  have V20' : Arv Z h20 b4 c4 .byte N (own_seg q0 f0 l0 ++ List.replicate (N.toNatClampNeg - (l0.toNatClampNeg)) (Value.int (0 : Int32))) (.int (0 : Int32)) := by have q := V20; rw [show (List.range l0.toNatClampNeg).map (fun i => (own_dr q0).getD (f0.toNatClampNeg + i) (.int (0 : Int32))) = own_seg q0 f0 l0 from rfl, eq20] at q; exact q
  have k23 : Rch p e below (s₁.setTop (entryFrame m #[(.ref a)] 4)) T20 (mkF m 37 #[.val (.ref a), .val (.ref b4), .val (.int (0 : Int32)), .val (.ref b0)] [(.ref b0), (.int (0 : Int32))]) := fun tg kg => by
    refine k22 tg ?_
    show Steps p.tables e below (T20.setTop (mkF m 35 #[.val (.ref a), .val (.ref b4), .val (.int (0 : Int32)), .val (.ref b0)] [])) tg
    refine XS.iloadN X20.here hx rfl (hb hby d7_35) rfl ?_
    refine XS.aloadN X20.here hx rfl (hb hby d7_36) rfl rfl ?_
    exact kg
  have f25 : Fld Z h20 b0 "dev/triadic/policy/TextLines$Line" "from" "I" (.int f0) := (f14.keep K20 (ninS (by first | exact own_ne (by omega) | assumption | (apply Ne.symm; assumption)) nin0))
  have f26 : Fld Z h20 b0 "dev/triadic/policy/TextLines$Line" "to" "I" (.int (f0 + l0)) := (f17.keep K20 (ninS (by first | exact own_ne (by omega) | assumption | (apply Ne.symm; assumption)) nin0))
  have f27 : Exa Z h20 b0 "dev/triadic/policy/TextLines$Line" := (f18.keep K20)
  obtain ⟨v24, T24, h24, Lc24, X24, e24, hQ24, st24⟩ := own_callPR X20 hx hZ hown (hw _ (List.mem_of_getElem? (i := 43) rfl)) (hw _ (List.mem_of_getElem? (i := 44) rfl)) (hw _ (List.mem_of_getElem? (i := 45) rfl)) (hw _ (List.mem_of_getElem? (i := 21) rfl)) (hw _ (List.mem_of_getElem? (i := 22) rfl)) (hw _ (List.mem_of_getElem? (i := 46) rfl)) (by decide) (rm_len l Z a0 hw [] b0 f0 (f0 + l0) l0 h20 n0 (by omega) f25 f26 (own_asc _ _)) e20 f27 (g := (mkF m 37 #[.val (.ref a), .val (.ref b4), .val (.int (0 : Int32)), .val (.ref b0)] [(.ref b0), (.int (0 : Int32))])) rfl (by rw [hml]; rfl) (argsL := []) (rest := [(.int (0 : Int32))]) rfl (lenOf pd_1 rfl) rfl (W := 1) (by show 2 * 0 + _ ≤ _; exact Nat.le_of_eq rfl) (hb hby d7_37) (by decide) (by decide) (by decide) (by decide)
  obtain ⟨rfl, Nq24, hs24⟩ := hQ24
  have N24 := Fr.app N20 Nq24
  have e24' : T24.heap = h20 := e24.trans hs24
  have k28 : Rch p e below (s₁.setTop (entryFrame m #[(.ref a)] 4)) T24 (mkF m 40 #[.val (.ref a), .val (.ref b4), .val (.int (0 : Int32)), .val (.ref b0)] [(.int l0), (.int (0 : Int32))]) := fun tg kg => k23 tg (st24 tg kg)
  have da1 : (((0 : Int32) + l0)).toInt = l0.toInt := by rw [own_add (by omega) (by omega) (by omega) (by omega)]; omega
  have dq1 : ¬ (((0 : Int32) + l0)) < 0 := own_nn (by omega)
  have dp1 := nat_of dq1
  have k29 : Rch p e below (s₁.setTop (entryFrame m #[(.ref a)] 4)) T24 (mkF m 43 #[.val (.ref a), .val (.ref b4), .val (.int ((0 : Int32) + l0)), .val (.ref b0)] [(.ref b0)]) := fun tg kg => by
    refine k28 tg ?_
    show Steps p.tables e below (T24.setTop (mkF m 40 #[.val (.ref a), .val (.ref b4), .val (.int (0 : Int32)), .val (.ref b0)] [(.int l0), (.int (0 : Int32))])) tg
    refine XS.iadd X24.here hx rfl (hb hby d7_40) rfl ?_
    refine XS.istoreN X24.here hx rfl (hb hby d7_41) rfl (l' := #[.val (.ref a), .val (.ref b4), .val (.int ((0 : Int32) + l0)), .val (.ref b0)]) rfl ?_
    refine XS.aloadN X24.here hx rfl (hb hby d7_42) rfl rfl ?_
    exact kg
  have f30 : Fld Z h20 b0 "dev/triadic/policy/TextLines$Line" "after" "Ldev/triadic/policy/TextLines$Line;" (.ref b1) := ((A_0.ext E4).keep K20 (ninS (by first | exact own_ne (by omega) | assumption | (apply Ne.symm; assumption)) nin0))
  have k31 : Rch p e below (s₁.setTop (entryFrame m #[(.ref a)] 4)) T24 (mkF m 19 #[.val (.ref a), .val (.ref b4), .val (.int ((0 : Int32) + l0)), .val (.ref b1)] [(.ref b1)]) := fun tg kg => by
    refine k29 tg ?_
    show Steps p.tables e below (T24.setTop (mkF m 43 #[.val (.ref a), .val (.ref b4), .val (.int ((0 : Int32) + l0)), .val (.ref b0)] [(.ref b0)])) tg
    refine own_getFR X24 hx hZ hown (hw _ (List.mem_of_getElem? (i := 47) rfl)) e24' f30 (g := (mkF m 43 #[.val (.ref a), .val (.ref b4), .val (.int ((0 : Int32) + l0)), .val (.ref b0)] [(.ref b0)])) rfl rfl (hb hby d7_43) _ ?_
    refine XS.astoreN X24.here hx rfl (hb hby d7_46) rfl rfl (l' := #[.val (.ref a), .val (.ref b4), .val (.int ((0 : Int32) + l0)), .val (.ref b1)]) rfl ?_
    refine XS.goto X24.here hx rfl (pc0 := 47) (pc' := 14) rfl (hb hby d7_47) (by decide) (by decide) ?_
    show Steps p.tables e below (T24.setTop (mkF m 14 #[.val (.ref a), .val (.ref b4), .val (.int ((0 : Int32) + l0)), .val (.ref b1)] [])) tg
    refine XS.aloadN X24.here hx rfl (hb hby d7_14) rfl rfl ?_
    refine XS.ifnullNo X24.here hx rfl (hb hby d7_15) rfl ?_
    refine XS.aloadN X24.here hx rfl (hb hby d7_18) rfl rfl ?_
    exact kg
  have f32 : Fld Z h20 b1 "dev/triadic/policy/TextLines$Line" "bytes" "[B" (.ref t1) := ((B_1.ext E4).keep K20 (ninS (by first | exact own_ne (by omega) | assumption | (apply Ne.symm; assumption)) nin0))
  have k33 : Rch p e below (s₁.setTop (entryFrame m #[(.ref a)] 4)) T24 (mkF m 23 #[.val (.ref a), .val (.ref b4), .val (.int ((0 : Int32) + l0)), .val (.ref b1)] [(.ref b1), (.ref t1)]) := fun tg kg => by
    refine k31 tg ?_
    show Steps p.tables e below (T24.setTop (mkF m 19 #[.val (.ref a), .val (.ref b4), .val (.int ((0 : Int32) + l0)), .val (.ref b1)] [(.ref b1)])) tg
    refine own_getFR X24 hx hZ hown (hw _ (List.mem_of_getElem? (i := 54) rfl)) e24' f32 (g := (mkF m 19 #[.val (.ref a), .val (.ref b4), .val (.int ((0 : Int32) + l0)), .val (.ref b1)] [(.ref b1)])) rfl rfl (hb hby d7_19) _ ?_
    refine XS.aloadN X24.here hx rfl (hb hby d7_22) rfl rfl ?_
    exact kg
  have f34 : Fld Z h20 b1 "dev/triadic/policy/TextLines$Line" "from" "I" (.int f1) := ((G_1.ext E4).keep K20 (ninS (by first | exact own_ne (by omega) | assumption | (apply Ne.symm; assumption)) nin0))
  have k35 : Rch p e below (s₁.setTop (entryFrame m #[(.ref a)] 4)) T24 (mkF m 29 #[.val (.ref a), .val (.ref b4), .val (.int ((0 : Int32) + l0)), .val (.ref b1)] [(.ref b1), (.int ((0 : Int32) + l0)), (.ref b4), (.int f1), (.ref t1)]) := fun tg kg => by
    refine k33 tg ?_
    show Steps p.tables e below (T24.setTop (mkF m 23 #[.val (.ref a), .val (.ref b4), .val (.int ((0 : Int32) + l0)), .val (.ref b1)] [(.ref b1), (.ref t1)])) tg
    refine own_getFR X24 hx hZ hown (hw _ (List.mem_of_getElem? (i := 55) rfl)) e24' f34 (g := (mkF m 23 #[.val (.ref a), .val (.ref b4), .val (.int ((0 : Int32) + l0)), .val (.ref b1)] [(.ref b1), (.ref t1)])) rfl rfl (hb hby d7_23) _ ?_
    show Steps p.tables e below (T24.setTop (mkF m 26 #[.val (.ref a), .val (.ref b4), .val (.int ((0 : Int32) + l0)), .val (.ref b1)] [(.int f1), (.ref t1)])) tg
    refine XS.aloadN X24.here hx rfl (hb hby d7_26) rfl rfl ?_
    refine XS.iloadN X24.here hx rfl (hb hby d7_27) rfl ?_
    refine XS.aloadN X24.here hx rfl (hb hby d7_28) rfl rfl ?_
    exact kg
  have f37 : Fld Z h20 b1 "dev/triadic/policy/TextLines$Line" "to" "I" (.int (f1 + l1)) := ((O_1.ext E4).keep K20 (ninS (by first | exact own_ne (by omega) | assumption | (apply Ne.symm; assumption)) nin0))
  have f38 : Exa Z h20 b1 "dev/triadic/policy/TextLines$Line" := ((E_1.ext E4).keep K20)
  obtain ⟨v36, T36, h36, Lc36, X36, e36, hQ36, st36⟩ := own_callPR X24 hx hZ hown (hw _ (List.mem_of_getElem? (i := 43) rfl)) (hw _ (List.mem_of_getElem? (i := 44) rfl)) (hw _ (List.mem_of_getElem? (i := 45) rfl)) (hw _ (List.mem_of_getElem? (i := 21) rfl)) (hw _ (List.mem_of_getElem? (i := 22) rfl)) (hw _ (List.mem_of_getElem? (i := 46) rfl)) (by decide) (rm_len l Z a0 hw [] b1 f1 (f1 + l1) l1 h20 n0 (by omega) f34 f37 (own_asc _ _)) e24' f38 (g := (mkF m 29 #[.val (.ref a), .val (.ref b4), .val (.int ((0 : Int32) + l0)), .val (.ref b1)] [(.ref b1), (.int ((0 : Int32) + l0)), (.ref b4), (.int f1), (.ref t1)])) rfl (by rw [hml]; rfl) (argsL := []) (rest := [(.int ((0 : Int32) + l0)), (.ref b4), (.int f1), (.ref t1)]) rfl (lenOf pd_1 rfl) rfl (W := 4) (by show 2 * 0 + _ ≤ _; exact Nat.le_of_eq rfl) (hb hby d7_29) (by decide) (by decide) (by decide) (by decide)
  obtain ⟨rfl, Nq36, hs36⟩ := hQ36
  have N36 := Fr.app N24 Nq36
  have e36' : T36.heap = h20 := e36.trans hs36
  have k39 : Rch p e below (s₁.setTop (entryFrame m #[(.ref a)] 4)) T36 (mkF m 32 #[.val (.ref a), .val (.ref b4), .val (.int ((0 : Int32) + l0)), .val (.ref b1)] [(.int l1), (.int ((0 : Int32) + l0)), (.ref b4), (.int f1), (.ref t1)]) := fun tg kg => k35 tg (st36 tg kg)
  have f41 : Arv Z h20 t1 kc1 .byte (6 : Int32) (own_dr q1) (.int (0 : Int32)) := ((V_1.ext E4).keep K20 (ninS (by first | exact own_ne (by omega) | assumption | (apply Ne.symm; assumption)) nin0))
  have len40 : (own_seg q0 f0 l0 ++ List.replicate (N.toNatClampNeg - (l0.toNatClampNeg)) (Value.int (0 : Int32))).length = N.toNatClampNeg := by simp only [List.length_append, List.length_replicate, own_seg_len] <;> omega
  obtain ⟨T40, h40, L40, X40, e40, N40, K40, V40, st40⟩ := cpA X36 hx hZ hown (hw _ (List.mem_of_getElem? (i := 56) rfl)) (hw _ (List.mem_of_getElem? (i := 59) rfl)) (hw _ (List.mem_of_getElem? (i := 57) rfl)) (hw _ (List.mem_of_getElem? (i := 58) rfl)) e36' f41 V20' (Or.inl ⟨rfl, rfl⟩) cf1 dq1 cz1 (by show _ ≤ 6; omega) (by omega) rfl (by rw [len40]; omega) N36 (by omega) (g := (mkF m 32 #[.val (.ref a), .val (.ref b4), .val (.int ((0 : Int32) + l0)), .val (.ref b1)] [(.int l1), (.int ((0 : Int32) + l0)), (.ref b4), (.int f1), (.ref t1)])) rfl (by rw [hml]; rfl) rfl (hb hby d7_32) (by decide) (W := 0) (by show 2 * 0 + _ ≤ _; exact Nat.le_of_eq rfl) (by decide)
  have s40 : h20.size ≤ h40.size := K40.1
  have k42 : Rch p e below (s₁.setTop (entryFrame m #[(.ref a)] 4)) T40 (mkF m 35 #[.val (.ref a), .val (.ref b4), .val (.int ((0 : Int32) + l0)), .val (.ref b1)] []) := fun tg kg => k39 tg (st40 tg kg)
  have eq40 : (own_seg q0 f0 l0 ++ List.replicate (N.toNatClampNeg - (l0.toNatClampNeg)) (Value.int (0 : Int32))).take (((0 : Int32) + l0)).toNatClampNeg ++ own_seg q1 f1 l1 ++ (own_seg q0 f0 l0 ++ List.replicate (N.toNatClampNeg - (l0.toNatClampNeg)) (Value.int (0 : Int32))).drop ((((0 : Int32) + l0)).toNatClampNeg + l1.toNatClampNeg) = (own_seg q0 f0 l0 ++ own_seg q1 f1 l1 ++ List.replicate (N.toNatClampNeg - (l0.toNatClampNeg + l1.toNatClampNeg)) (Value.int (0 : Int32))) := own_cpS (by simp only [List.length_append, own_seg_len]) (by omega)
  have V40' : Arv Z h40 b4 c4 .byte N (own_seg q0 f0 l0 ++ own_seg q1 f1 l1 ++ List.replicate (N.toNatClampNeg - (l0.toNatClampNeg + l1.toNatClampNeg)) (Value.int (0 : Int32))) (.int (0 : Int32)) := by have q := V40; rw [show (List.range l1.toNatClampNeg).map (fun i => (own_dr q1).getD (f1.toNatClampNeg + i) (.int (0 : Int32))) = own_seg q1 f1 l1 from rfl, eq40] at q; exact q
  have k43 : Rch p e below (s₁.setTop (entryFrame m #[(.ref a)] 4)) T40 (mkF m 37 #[.val (.ref a), .val (.ref b4), .val (.int ((0 : Int32) + l0)), .val (.ref b1)] [(.ref b1), (.int ((0 : Int32) + l0))]) := fun tg kg => by
    refine k42 tg ?_
    show Steps p.tables e below (T40.setTop (mkF m 35 #[.val (.ref a), .val (.ref b4), .val (.int ((0 : Int32) + l0)), .val (.ref b1)] [])) tg
    refine XS.iloadN X40.here hx rfl (hb hby d7_35) rfl ?_
    refine XS.aloadN X40.here hx rfl (hb hby d7_36) rfl rfl ?_
    exact kg
  have f45 : Fld Z h40 b1 "dev/triadic/policy/TextLines$Line" "from" "I" (.int f1) := (f34.keep K40 (ninS (by first | exact own_ne (by omega) | assumption | (apply Ne.symm; assumption)) nin0))
  have f46 : Fld Z h40 b1 "dev/triadic/policy/TextLines$Line" "to" "I" (.int (f1 + l1)) := (f37.keep K40 (ninS (by first | exact own_ne (by omega) | assumption | (apply Ne.symm; assumption)) nin0))
  have f47 : Exa Z h40 b1 "dev/triadic/policy/TextLines$Line" := (f38.keep K40)
  obtain ⟨v44, T44, h44, Lc44, X44, e44, hQ44, st44⟩ := own_callPR X40 hx hZ hown (hw _ (List.mem_of_getElem? (i := 43) rfl)) (hw _ (List.mem_of_getElem? (i := 44) rfl)) (hw _ (List.mem_of_getElem? (i := 45) rfl)) (hw _ (List.mem_of_getElem? (i := 21) rfl)) (hw _ (List.mem_of_getElem? (i := 22) rfl)) (hw _ (List.mem_of_getElem? (i := 46) rfl)) (by decide) (rm_len l Z a0 hw [] b1 f1 (f1 + l1) l1 h40 n0 (by omega) f45 f46 (own_asc _ _)) e40 f47 (g := (mkF m 37 #[.val (.ref a), .val (.ref b4), .val (.int ((0 : Int32) + l0)), .val (.ref b1)] [(.ref b1), (.int ((0 : Int32) + l0))])) rfl (by rw [hml]; rfl) (argsL := []) (rest := [(.int ((0 : Int32) + l0))]) rfl (lenOf pd_1 rfl) rfl (W := 1) (by show 2 * 0 + _ ≤ _; exact Nat.le_of_eq rfl) (hb hby d7_37) (by decide) (by decide) (by decide) (by decide)
  obtain ⟨rfl, Nq44, hs44⟩ := hQ44
  have N44 := Fr.app N40 Nq44
  have e44' : T44.heap = h40 := e44.trans hs44
  have k48 : Rch p e below (s₁.setTop (entryFrame m #[(.ref a)] 4)) T44 (mkF m 40 #[.val (.ref a), .val (.ref b4), .val (.int ((0 : Int32) + l0)), .val (.ref b1)] [(.int l1), (.int ((0 : Int32) + l0))]) := fun tg kg => k43 tg (st44 tg kg)
  have da2 : ((((0 : Int32) + l0) + l1)).toInt = l0.toInt + l1.toInt := by rw [own_add (by omega) (by omega) (by omega) (by omega)]; omega
  have dq2 : ¬ ((((0 : Int32) + l0) + l1)) < 0 := own_nn (by omega)
  have dp2 := nat_of dq2
  have k49 : Rch p e below (s₁.setTop (entryFrame m #[(.ref a)] 4)) T44 (mkF m 43 #[.val (.ref a), .val (.ref b4), .val (.int (((0 : Int32) + l0) + l1)), .val (.ref b1)] [(.ref b1)]) := fun tg kg => by
    refine k48 tg ?_
    show Steps p.tables e below (T44.setTop (mkF m 40 #[.val (.ref a), .val (.ref b4), .val (.int ((0 : Int32) + l0)), .val (.ref b1)] [(.int l1), (.int ((0 : Int32) + l0))])) tg
    refine XS.iadd X44.here hx rfl (hb hby d7_40) rfl ?_
    show Steps p.tables e below (T44.setTop (mkF m 41 #[.val (.ref a), .val (.ref b4), .val (.int ((0 : Int32) + l0)), .val (.ref b1)] [(.int (((0 : Int32) + l0) + l1))])) tg
    refine XS.istoreN X44.here hx rfl (hb hby d7_41) rfl (l' := #[.val (.ref a), .val (.ref b4), .val (.int (((0 : Int32) + l0) + l1)), .val (.ref b1)]) rfl ?_
    refine XS.aloadN X44.here hx rfl (hb hby d7_42) rfl rfl ?_
    exact kg
  have f50 : Fld Z h40 b1 "dev/triadic/policy/TextLines$Line" "after" "Ldev/triadic/policy/TextLines$Line;" (.ref b2) := (((A_1.ext E4).keep K20 (ninS (by first | exact own_ne (by omega) | assumption | (apply Ne.symm; assumption)) nin0)).keep K40 (ninS (by first | exact own_ne (by omega) | assumption | (apply Ne.symm; assumption)) nin0))
  have k51 : Rch p e below (s₁.setTop (entryFrame m #[(.ref a)] 4)) T44 (mkF m 19 #[.val (.ref a), .val (.ref b4), .val (.int (((0 : Int32) + l0) + l1)), .val (.ref b2)] [(.ref b2)]) := fun tg kg => by
    refine k49 tg ?_
    show Steps p.tables e below (T44.setTop (mkF m 43 #[.val (.ref a), .val (.ref b4), .val (.int (((0 : Int32) + l0) + l1)), .val (.ref b1)] [(.ref b1)])) tg
    refine own_getFR X44 hx hZ hown (hw _ (List.mem_of_getElem? (i := 47) rfl)) e44' f50 (g := (mkF m 43 #[.val (.ref a), .val (.ref b4), .val (.int (((0 : Int32) + l0) + l1)), .val (.ref b1)] [(.ref b1)])) rfl rfl (hb hby d7_43) _ ?_
    refine XS.astoreN X44.here hx rfl (hb hby d7_46) rfl rfl (l' := #[.val (.ref a), .val (.ref b4), .val (.int (((0 : Int32) + l0) + l1)), .val (.ref b2)]) rfl ?_
    refine XS.goto X44.here hx rfl (pc0 := 47) (pc' := 14) rfl (hb hby d7_47) (by decide) (by decide) ?_
    refine XS.aloadN X44.here hx rfl (hb hby d7_14) rfl rfl ?_
    show Steps p.tables e below (T44.setTop (mkF m 15 #[.val (.ref a), .val (.ref b4), .val (.int (((0 : Int32) + l0) + l1)), .val (.ref b2)] [(.ref b2)])) tg
    refine XS.ifnullNo X44.here hx rfl (hb hby d7_15) rfl ?_
    refine XS.aloadN X44.here hx rfl (hb hby d7_18) rfl rfl ?_
    exact kg
  have f52 : Fld Z h40 b2 "dev/triadic/policy/TextLines$Line" "bytes" "[B" (.ref t2) := (((B_2.ext E4).keep K20 (ninS (by first | exact own_ne (by omega) | assumption | (apply Ne.symm; assumption)) nin0)).keep K40 (ninS (by first | exact own_ne (by omega) | assumption | (apply Ne.symm; assumption)) nin0))
  have k53 : Rch p e below (s₁.setTop (entryFrame m #[(.ref a)] 4)) T44 (mkF m 23 #[.val (.ref a), .val (.ref b4), .val (.int (((0 : Int32) + l0) + l1)), .val (.ref b2)] [(.ref b2), (.ref t2)]) := fun tg kg => by
    refine k51 tg ?_
    show Steps p.tables e below (T44.setTop (mkF m 19 #[.val (.ref a), .val (.ref b4), .val (.int (((0 : Int32) + l0) + l1)), .val (.ref b2)] [(.ref b2)])) tg
    refine own_getFR X44 hx hZ hown (hw _ (List.mem_of_getElem? (i := 54) rfl)) e44' f52 (g := (mkF m 19 #[.val (.ref a), .val (.ref b4), .val (.int (((0 : Int32) + l0) + l1)), .val (.ref b2)] [(.ref b2)])) rfl rfl (hb hby d7_19) _ ?_
    refine XS.aloadN X44.here hx rfl (hb hby d7_22) rfl rfl ?_
    exact kg
  have f54 : Fld Z h40 b2 "dev/triadic/policy/TextLines$Line" "from" "I" (.int f2) := (((G_2.ext E4).keep K20 (ninS (by first | exact own_ne (by omega) | assumption | (apply Ne.symm; assumption)) nin0)).keep K40 (ninS (by first | exact own_ne (by omega) | assumption | (apply Ne.symm; assumption)) nin0))
  have k55 : Rch p e below (s₁.setTop (entryFrame m #[(.ref a)] 4)) T44 (mkF m 29 #[.val (.ref a), .val (.ref b4), .val (.int (((0 : Int32) + l0) + l1)), .val (.ref b2)] [(.ref b2), (.int (((0 : Int32) + l0) + l1)), (.ref b4), (.int f2), (.ref t2)]) := fun tg kg => by
    refine k53 tg ?_
    show Steps p.tables e below (T44.setTop (mkF m 23 #[.val (.ref a), .val (.ref b4), .val (.int (((0 : Int32) + l0) + l1)), .val (.ref b2)] [(.ref b2), (.ref t2)])) tg
    refine own_getFR X44 hx hZ hown (hw _ (List.mem_of_getElem? (i := 55) rfl)) e44' f54 (g := (mkF m 23 #[.val (.ref a), .val (.ref b4), .val (.int (((0 : Int32) + l0) + l1)), .val (.ref b2)] [(.ref b2), (.ref t2)])) rfl rfl (hb hby d7_23) _ ?_
    refine XS.aloadN X44.here hx rfl (hb hby d7_26) rfl rfl ?_
    show Steps p.tables e below (T44.setTop (mkF m 27 #[.val (.ref a), .val (.ref b4), .val (.int (((0 : Int32) + l0) + l1)), .val (.ref b2)] [(.ref b4), (.int f2), (.ref t2)])) tg
    refine XS.iloadN X44.here hx rfl (hb hby d7_27) rfl ?_
    refine XS.aloadN X44.here hx rfl (hb hby d7_28) rfl rfl ?_
    exact kg
  have f57 : Fld Z h40 b2 "dev/triadic/policy/TextLines$Line" "to" "I" (.int (f2 + l2)) := (((O_2.ext E4).keep K20 (ninS (by first | exact own_ne (by omega) | assumption | (apply Ne.symm; assumption)) nin0)).keep K40 (ninS (by first | exact own_ne (by omega) | assumption | (apply Ne.symm; assumption)) nin0))
  have f58 : Exa Z h40 b2 "dev/triadic/policy/TextLines$Line" := (((E_2.ext E4).keep K20).keep K40)
  obtain ⟨v56, T56, h56, Lc56, X56, e56, hQ56, st56⟩ := own_callPR X44 hx hZ hown (hw _ (List.mem_of_getElem? (i := 43) rfl)) (hw _ (List.mem_of_getElem? (i := 44) rfl)) (hw _ (List.mem_of_getElem? (i := 45) rfl)) (hw _ (List.mem_of_getElem? (i := 21) rfl)) (hw _ (List.mem_of_getElem? (i := 22) rfl)) (hw _ (List.mem_of_getElem? (i := 46) rfl)) (by decide) (rm_len l Z a0 hw [] b2 f2 (f2 + l2) l2 h40 n0 (by omega) f54 f57 (own_asc _ _)) e44' f58 (g := (mkF m 29 #[.val (.ref a), .val (.ref b4), .val (.int (((0 : Int32) + l0) + l1)), .val (.ref b2)] [(.ref b2), (.int (((0 : Int32) + l0) + l1)), (.ref b4), (.int f2), (.ref t2)])) rfl (by rw [hml]; rfl) (argsL := []) (rest := [(.int (((0 : Int32) + l0) + l1)), (.ref b4), (.int f2), (.ref t2)]) rfl (lenOf pd_1 rfl) rfl (W := 4) (by show 2 * 0 + _ ≤ _; exact Nat.le_of_eq rfl) (hb hby d7_29) (by decide) (by decide) (by decide) (by decide)
  obtain ⟨rfl, Nq56, hs56⟩ := hQ56
  have N56 := Fr.app N44 Nq56
  have e56' : T56.heap = h40 := e56.trans hs56
  have k59 : Rch p e below (s₁.setTop (entryFrame m #[(.ref a)] 4)) T56 (mkF m 32 #[.val (.ref a), .val (.ref b4), .val (.int (((0 : Int32) + l0) + l1)), .val (.ref b2)] [(.int l2), (.int (((0 : Int32) + l0) + l1)), (.ref b4), (.int f2), (.ref t2)]) := fun tg kg => k55 tg (st56 tg kg)
  have f61 : Arv Z h40 t2 kc2 .byte (6 : Int32) (own_dr q2) (.int (0 : Int32)) := (((V_2.ext E4).keep K20 (ninS (by first | exact own_ne (by omega) | assumption | (apply Ne.symm; assumption)) nin0)).keep K40 (ninS (by first | exact own_ne (by omega) | assumption | (apply Ne.symm; assumption)) nin0))
  have len60 : (own_seg q0 f0 l0 ++ own_seg q1 f1 l1 ++ List.replicate (N.toNatClampNeg - (l0.toNatClampNeg + l1.toNatClampNeg)) (Value.int (0 : Int32))).length = N.toNatClampNeg := by simp only [List.length_append, List.length_replicate, own_seg_len] <;> omega
  obtain ⟨T60, h60, L60, X60, e60, N60, K60, V60, st60⟩ := cpA X56 hx hZ hown (hw _ (List.mem_of_getElem? (i := 56) rfl)) (hw _ (List.mem_of_getElem? (i := 59) rfl)) (hw _ (List.mem_of_getElem? (i := 57) rfl)) (hw _ (List.mem_of_getElem? (i := 58) rfl)) e56' f61 V40' (Or.inl ⟨rfl, rfl⟩) cf2 dq2 cz2 (by show _ ≤ 6; omega) (by omega) rfl (by rw [len60]; omega) N56 (by omega) (g := (mkF m 32 #[.val (.ref a), .val (.ref b4), .val (.int (((0 : Int32) + l0) + l1)), .val (.ref b2)] [(.int l2), (.int (((0 : Int32) + l0) + l1)), (.ref b4), (.int f2), (.ref t2)])) rfl (by rw [hml]; rfl) rfl (hb hby d7_32) (by decide) (W := 0) (by show 2 * 0 + _ ≤ _; exact Nat.le_of_eq rfl) (by decide)
  have s60 : h40.size ≤ h60.size := K60.1
  have k62 : Rch p e below (s₁.setTop (entryFrame m #[(.ref a)] 4)) T60 (mkF m 35 #[.val (.ref a), .val (.ref b4), .val (.int (((0 : Int32) + l0) + l1)), .val (.ref b2)] []) := fun tg kg => k59 tg (st60 tg kg)
  have eq60 : (own_seg q0 f0 l0 ++ own_seg q1 f1 l1 ++ List.replicate (N.toNatClampNeg - (l0.toNatClampNeg + l1.toNatClampNeg)) (Value.int (0 : Int32))).take ((((0 : Int32) + l0) + l1)).toNatClampNeg ++ own_seg q2 f2 l2 ++ (own_seg q0 f0 l0 ++ own_seg q1 f1 l1 ++ List.replicate (N.toNatClampNeg - (l0.toNatClampNeg + l1.toNatClampNeg)) (Value.int (0 : Int32))).drop (((((0 : Int32) + l0) + l1)).toNatClampNeg + l2.toNatClampNeg) = (own_seg q0 f0 l0 ++ own_seg q1 f1 l1 ++ own_seg q2 f2 l2 ++ List.replicate (N.toNatClampNeg - (l0.toNatClampNeg + l1.toNatClampNeg + l2.toNatClampNeg)) (Value.int (0 : Int32))) := own_cpS (by simp only [List.length_append, own_seg_len]) (by omega)
  have V60' : Arv Z h60 b4 c4 .byte N (own_seg q0 f0 l0 ++ own_seg q1 f1 l1 ++ own_seg q2 f2 l2 ++ List.replicate (N.toNatClampNeg - (l0.toNatClampNeg + l1.toNatClampNeg + l2.toNatClampNeg)) (Value.int (0 : Int32))) (.int (0 : Int32)) := by have q := V60; rw [show (List.range l2.toNatClampNeg).map (fun i => (own_dr q2).getD (f2.toNatClampNeg + i) (.int (0 : Int32))) = own_seg q2 f2 l2 from rfl, eq60] at q; exact q
  have k63 : Rch p e below (s₁.setTop (entryFrame m #[(.ref a)] 4)) T60 (mkF m 37 #[.val (.ref a), .val (.ref b4), .val (.int (((0 : Int32) + l0) + l1)), .val (.ref b2)] [(.ref b2), (.int (((0 : Int32) + l0) + l1))]) := fun tg kg => by
    refine k62 tg ?_
    show Steps p.tables e below (T60.setTop (mkF m 35 #[.val (.ref a), .val (.ref b4), .val (.int (((0 : Int32) + l0) + l1)), .val (.ref b2)] [])) tg
    refine XS.iloadN X60.here hx rfl (hb hby d7_35) rfl ?_
    refine XS.aloadN X60.here hx rfl (hb hby d7_36) rfl rfl ?_
    exact kg
  have f65 : Fld Z h60 b2 "dev/triadic/policy/TextLines$Line" "from" "I" (.int f2) := (f54.keep K60 (ninS (by first | exact own_ne (by omega) | assumption | (apply Ne.symm; assumption)) nin0))
  have f66 : Fld Z h60 b2 "dev/triadic/policy/TextLines$Line" "to" "I" (.int (f2 + l2)) := (f57.keep K60 (ninS (by first | exact own_ne (by omega) | assumption | (apply Ne.symm; assumption)) nin0))
  have f67 : Exa Z h60 b2 "dev/triadic/policy/TextLines$Line" := (f58.keep K60)
  obtain ⟨v64, T64, h64, Lc64, X64, e64, hQ64, st64⟩ := own_callPR X60 hx hZ hown (hw _ (List.mem_of_getElem? (i := 43) rfl)) (hw _ (List.mem_of_getElem? (i := 44) rfl)) (hw _ (List.mem_of_getElem? (i := 45) rfl)) (hw _ (List.mem_of_getElem? (i := 21) rfl)) (hw _ (List.mem_of_getElem? (i := 22) rfl)) (hw _ (List.mem_of_getElem? (i := 46) rfl)) (by decide) (rm_len l Z a0 hw [] b2 f2 (f2 + l2) l2 h60 n0 (by omega) f65 f66 (own_asc _ _)) e60 f67 (g := (mkF m 37 #[.val (.ref a), .val (.ref b4), .val (.int (((0 : Int32) + l0) + l1)), .val (.ref b2)] [(.ref b2), (.int (((0 : Int32) + l0) + l1))])) rfl (by rw [hml]; rfl) (argsL := []) (rest := [(.int (((0 : Int32) + l0) + l1))]) rfl (lenOf pd_1 rfl) rfl (W := 1) (by show 2 * 0 + _ ≤ _; exact Nat.le_of_eq rfl) (hb hby d7_37) (by decide) (by decide) (by decide) (by decide)
  obtain ⟨rfl, Nq64, hs64⟩ := hQ64
  have N64 := Fr.app N60 Nq64
  have e64' : T64.heap = h60 := e64.trans hs64
  have k68 : Rch p e below (s₁.setTop (entryFrame m #[(.ref a)] 4)) T64 (mkF m 40 #[.val (.ref a), .val (.ref b4), .val (.int (((0 : Int32) + l0) + l1)), .val (.ref b2)] [(.int l2), (.int (((0 : Int32) + l0) + l1))]) := fun tg kg => k63 tg (st64 tg kg)
  have da3 : (((((0 : Int32) + l0) + l1) + l2)).toInt = l0.toInt + l1.toInt + l2.toInt := by rw [own_add (by omega) (by omega) (by omega) (by omega)]; omega
  have dq3 : ¬ (((((0 : Int32) + l0) + l1) + l2)) < 0 := own_nn (by omega)
  have dp3 := nat_of dq3
  have k69 : Rch p e below (s₁.setTop (entryFrame m #[(.ref a)] 4)) T64 (mkF m 43 #[.val (.ref a), .val (.ref b4), .val (.int ((((0 : Int32) + l0) + l1) + l2)), .val (.ref b2)] [(.ref b2)]) := fun tg kg => by
    refine k68 tg ?_
    show Steps p.tables e below (T64.setTop (mkF m 40 #[.val (.ref a), .val (.ref b4), .val (.int (((0 : Int32) + l0) + l1)), .val (.ref b2)] [(.int l2), (.int (((0 : Int32) + l0) + l1))])) tg
    refine XS.iadd X64.here hx rfl (hb hby d7_40) rfl ?_
    refine XS.istoreN X64.here hx rfl (hb hby d7_41) rfl (l' := #[.val (.ref a), .val (.ref b4), .val (.int ((((0 : Int32) + l0) + l1) + l2)), .val (.ref b2)]) rfl ?_
    show Steps p.tables e below (T64.setTop (mkF m 42 #[.val (.ref a), .val (.ref b4), .val (.int ((((0 : Int32) + l0) + l1) + l2)), .val (.ref b2)] [])) tg
    refine XS.aloadN X64.here hx rfl (hb hby d7_42) rfl rfl ?_
    exact kg
  have f70 : Fld Z h60 b2 "dev/triadic/policy/TextLines$Line" "after" "Ldev/triadic/policy/TextLines$Line;" .null := ((((A_2.ext E4).keep K20 (ninS (by first | exact own_ne (by omega) | assumption | (apply Ne.symm; assumption)) nin0)).keep K40 (ninS (by first | exact own_ne (by omega) | assumption | (apply Ne.symm; assumption)) nin0)).keep K60 (ninS (by first | exact own_ne (by omega) | assumption | (apply Ne.symm; assumption)) nin0))
  have f71 : Arv Z h60 b4 c4 .byte N (own_seg q0 f0 l0 ++ own_seg q1 f1 l1 ++ own_seg q2 f2 l2) (.int (0 : Int32)) := (by have q := V60'; rw [show N.toNatClampNeg - (l0.toNatClampNeg + l1.toNatClampNeg + l2.toNatClampNeg) = 0 by omega] at q; simpa using q)
  have k72 : Rch p e below (s₁.setTop (entryFrame m #[(.ref a)] 4)) T64 (mkF m 51 #[.val (.ref a), .val (.ref b4), .val (.int ((((0 : Int32) + l0) + l1) + l2)), .val .null] [(.ref b4)]) := fun tg kg => by
    refine k69 tg ?_
    show Steps p.tables e below (T64.setTop (mkF m 43 #[.val (.ref a), .val (.ref b4), .val (.int ((((0 : Int32) + l0) + l1) + l2)), .val (.ref b2)] [(.ref b2)])) tg
    refine own_getFR X64 hx hZ hown (hw _ (List.mem_of_getElem? (i := 47) rfl)) e64' f70 (g := (mkF m 43 #[.val (.ref a), .val (.ref b4), .val (.int ((((0 : Int32) + l0) + l1) + l2)), .val (.ref b2)] [(.ref b2)])) rfl rfl (hb hby d7_43) _ ?_
    refine XS.astoreN X64.here hx rfl (hb hby d7_46) rfl rfl (l' := #[.val (.ref a), .val (.ref b4), .val (.int ((((0 : Int32) + l0) + l1) + l2)), .val .null]) rfl ?_
    refine XS.goto X64.here hx rfl (pc0 := 47) (pc' := 14) rfl (hb hby d7_47) (by decide) (by decide) ?_
    refine XS.aloadN X64.here hx rfl (hb hby d7_14) rfl rfl ?_
    refine XS.ifnullYes X64.here hx rfl (pc0 := 15) (pc' := 50) rfl (hb hby d7_15) rfl (by decide) (by decide) ?_
    show Steps p.tables e below (T64.setTop (mkF m 50 #[.val (.ref a), .val (.ref b4), .val (.int ((((0 : Int32) + l0) + l1) + l2)), .val .null] [])) tg
    refine XS.aloadN X64.here hx rfl (hb hby d7_50) rfl rfl ?_
    exact kg
  obtain ⟨fs73, hr73, hrun73, hended73, hW73, hsame73⟩ := X64.leave (v := some (.ref b4)) (fun h => by rw [Bd.returns] at h; cases h)
  refine ⟨_, _, k72 _ ?_, hrun73, hended73, _, _, rfl, ?_, ⟨_, rfl⟩, hW73, hsame73.mono (by decide) (by decide)⟩
  · exact retOut X64 hx Bd.returns rfl (Or.inr (Or.inr (Or.inr (Or.inr ⟨rfl, rfl, rfl⟩)))) (hb hby d7_51) hr73
  · show Q_rm_bytes3 Z a N b0 t0 f0 l0 kc0 q0 b1 t1 f1 l1 kc1 q1 b2 t2 f2 l2 kc2 q2 h0 n0 _ T64.heap _
    rw [e64']
    exact ⟨b4, c4, rfl, N64, (((((Keep.refl h0 []).ext E4).trans K20 (allS (Or.inr (by omega)) all0)).trans K40 (allS (Or.inr (by omega)) all0)).trans K60 (allS (Or.inr (by omega)) all0)), (by omega), f71⟩
def own_cat (q0 : Int64) (f0 e0 : Int32) (q1 : Int64) (f1 e1 : Int32) (q2 : Int64) (f2 e2 : Int32) : List Value := own_seg q0 f0 e0 ++ own_seg q1 f1 e1 ++ own_seg q2 f2 e2
theorem own_cat0 {q0 q1 q2 : Int64} {f0 e0 f1 e1 f2 e2 : Int32} {i : Nat} (d : Value) (h : i < e0.toNatClampNeg) (hb : f0.toNatClampNeg + i < 6) : (own_cat q0 f0 e0 q1 f1 e1 q2 f2 e2).getD i d = .int (own_B q0 (f0.toNatClampNeg + i)) := by
  rw [← own_seg_at h hb d]
  unfold own_cat
  rw [List.append_assoc]
  simp only [List.getD_eq_getElem?_getD]
  rw [List.getElem?_append_left (by rw [own_seg_len]; exact h)]
theorem own_cat1 {q0 q1 q2 : Int64} {f0 e0 f1 e1 f2 e2 : Int32} {i j : Nat} (d : Value) (hi : i = e0.toNatClampNeg + j) (h : j < e1.toNatClampNeg) (hb : f1.toNatClampNeg + j < 6) : (own_cat q0 f0 e0 q1 f1 e1 q2 f2 e2).getD i d = .int (own_B q1 (f1.toNatClampNeg + j)) := by
  rw [← own_seg_at h hb d]
  unfold own_cat
  rw [List.append_assoc]
  simp only [List.getD_eq_getElem?_getD]
  rw [List.getElem?_append_right (by rw [own_seg_len]; omega), own_seg_len, List.getElem?_append_left (by rw [own_seg_len]; omega), show i - e0.toNatClampNeg = j by omega]
theorem own_cat2 {q0 q1 q2 : Int64} {f0 e0 f1 e1 f2 e2 : Int32} {i j : Nat} (d : Value) (hi : i = e0.toNatClampNeg + e1.toNatClampNeg + j) (h : j < e2.toNatClampNeg) (hb : f2.toNatClampNeg + j < 6) : (own_cat q0 f0 e0 q1 f1 e1 q2 f2 e2).getD i d = .int (own_B q2 (f2.toNatClampNeg + j)) := by
  rw [← own_seg_at h hb d]
  unfold own_cat
  simp only [List.getD_eq_getElem?_getD]
  rw [List.getElem?_append_right (by rw [List.length_append, own_seg_len, own_seg_len]; omega), List.length_append, own_seg_len, own_seg_len, show i - (e0.toNatClampNeg + e1.toNatClampNeg) = j by omega]
theorem ef_rm_at (m : MethodId) (x0 : Addr) (x1 : Int32) (x2 : Addr) (x3 : Int32) (x4 : Int32) (x5 : Addr) (x6 : Int32) (x7 : Int32) (x8 : Addr) (x9 : Int32) (x10 : Int32) : entryFrame m #[(.ref x0), (.int x1), (.ref x2), (.int x3), (.int x4), (.ref x5), (.int x6), (.int x7), (.ref x8), (.int x9), (.int x10)] 12 = mkF m 0 #[.val (.ref x0), .val (.int x1), .val (.ref x2), .val (.int x3), .val (.int x4), .val (.ref x5), .val (.int x6), .val (.int x7), .val (.ref x8), .val (.int x9), .val (.int x10), .unset] [] := by first | (simp [entryFrame, mkF, argsToLocals, Value.category]; done) | rfl
def Q_rm_at (Z : State) (g : Addr) (i : Int32) (ta0 : Addr) (fa0 : Int32) (ee0 : Int32) (ta1 : Addr) (fa1 : Int32) (ee1 : Int32) (ta2 : Addr) (fa2 : Int32) (ee2 : Int32) (kg : ClassId) (N : Int32) (kc0 : ClassId) (kc1 : ClassId) (kc2 : ClassId) (qq0 : Int64) (qq1 : Int64) (qq2 : Int64) (h0 : Heap) (n0 : Nat) (v : Option Value) (h : Heap) (L : List Loc) : Prop := (v = some (.int (1 : Int32))) ∧ (Fr n0 L) ∧ (h = h0)
theorem d8_0 : decode method_4_code 0 = .ok (.iload_n 1, 1) := by decide +kernel
theorem d8_1 : decode method_4_code 1 = .ok (.aload_n 0, 1) := by decide +kernel
theorem d8_2 : decode method_4_code 2 = .ok (.arraylength, 1) := by decide +kernel
theorem d8_3 : decode method_4_code 3 = .ok (.if_icmp .lt 5, 3) := by decide +kernel
theorem d8_8 : decode method_4_code 8 = .ok (.iload_n 1, 1) := by decide +kernel
theorem d8_9 : decode method_4_code 9 = .ok (.iload 4, 2) := by decide +kernel
theorem d8_11 : decode method_4_code 11 = .ok (.if_icmp .ge 13, 3) := by decide +kernel
theorem d8_14 : decode method_4_code 14 = .ok (.aload_n 2, 1) := by decide +kernel
theorem d8_15 : decode method_4_code 15 = .ok (.iload_n 3, 1) := by decide +kernel
theorem d8_16 : decode method_4_code 16 = .ok (.iload_n 1, 1) := by decide +kernel
theorem d8_17 : decode method_4_code 17 = .ok (.iadd, 1) := by decide +kernel
theorem d8_18 : decode method_4_code 18 = .ok (.baload, 1) := by decide +kernel
theorem d8_19 : decode method_4_code 19 = .ok (.istore 11, 2) := by decide +kernel
theorem d8_21 : decode method_4_code 21 = .ok (.goto 42, 3) := by decide +kernel
theorem d8_63 : decode method_4_code 63 = .ok (.aload_n 0, 1) := by decide +kernel
theorem d8_64 : decode method_4_code 64 = .ok (.iload_n 1, 1) := by decide +kernel
theorem d8_65 : decode method_4_code 65 = .ok (.baload, 1) := by decide +kernel
theorem d8_66 : decode method_4_code 66 = .ok (.iload 11, 2) := by decide +kernel
theorem d8_68 : decode method_4_code 68 = .ok (.if_icmp .ne 7, 3) := by decide +kernel
theorem d8_71 : decode method_4_code 71 = .ok (.iconst 1, 1) := by decide +kernel
theorem d8_72 : decode method_4_code 72 = .ok (.goto 4, 3) := by decide +kernel
theorem d8_76 : decode method_4_code 76 = .ok (.ireturn, 1) := by decide +kernel
theorem d8_24 : decode method_4_code 24 = .ok (.iload_n 1, 1) := by decide +kernel
theorem d8_25 : decode method_4_code 25 = .ok (.iload 4, 2) := by decide +kernel
theorem d8_27 : decode method_4_code 27 = .ok (.iload 7, 2) := by decide +kernel
theorem d8_29 : decode method_4_code 29 = .ok (.iadd, 1) := by decide +kernel
theorem d8_30 : decode method_4_code 30 = .ok (.if_icmp .ge 18, 3) := by decide +kernel
theorem d8_33 : decode method_4_code 33 = .ok (.aload 5, 2) := by decide +kernel
theorem d8_35 : decode method_4_code 35 = .ok (.iload 6, 2) := by decide +kernel
theorem d8_37 : decode method_4_code 37 = .ok (.iload_n 1, 1) := by decide +kernel
theorem d8_38 : decode method_4_code 38 = .ok (.iadd, 1) := by decide +kernel
theorem d8_39 : decode method_4_code 39 = .ok (.iload 4, 2) := by decide +kernel
theorem d8_41 : decode method_4_code 41 = .ok (.isub, 1) := by decide +kernel
theorem d8_42 : decode method_4_code 42 = .ok (.baload, 1) := by decide +kernel
theorem d8_43 : decode method_4_code 43 = .ok (.istore 11, 2) := by decide +kernel
theorem d8_45 : decode method_4_code 45 = .ok (.goto 18, 3) := by decide +kernel
theorem d8_48 : decode method_4_code 48 = .ok (.aload 8, 2) := by decide +kernel
theorem d8_50 : decode method_4_code 50 = .ok (.iload 9, 2) := by decide +kernel
theorem d8_52 : decode method_4_code 52 = .ok (.iload_n 1, 1) := by decide +kernel
theorem d8_53 : decode method_4_code 53 = .ok (.iadd, 1) := by decide +kernel
theorem d8_54 : decode method_4_code 54 = .ok (.iload 4, 2) := by decide +kernel
theorem d8_56 : decode method_4_code 56 = .ok (.isub, 1) := by decide +kernel
theorem d8_57 : decode method_4_code 57 = .ok (.iload 7, 2) := by decide +kernel
theorem d8_59 : decode method_4_code 59 = .ok (.isub, 1) := by decide +kernel
theorem d8_60 : decode method_4_code 60 = .ok (.baload, 1) := by decide +kernel
theorem d8_61 : decode method_4_code 61 = .ok (.istore 11, 2) := by decide +kernel
theorem d8_6 : decode method_4_code 6 = .ok (.iconst 1, 1) := by decide +kernel
theorem d8_7 : decode method_4_code 7 = .ok (.ireturn, 1) := by decide +kernel
set_option maxRecDepth 65536 in
set_option maxHeartbeats 40000000 in
theorem rm_at (l : Launch) (Z : State) (a0 : Array Value) (hw : ∀ d ∈ tables_1, d.before a0 Z = true) (ws : List Jvm.Cond) (g : Addr) (i : Int32) (ta0 : Addr) (fa0 : Int32) (ee0 : Int32) (ta1 : Addr) (fa1 : Int32) (ee1 : Int32) (ta2 : Addr) (fa2 : Int32) (ee2 : Int32) (kg : ClassId) (N : Int32) (kc0 : ClassId) (kc1 : ClassId) (kc2 : ClassId) (qq0 : Int64) (qq1 : Int64) (qq2 : Int64) (h0 : Heap) (n0 : Nat) (Z0 : n0 ≤ h0.size) (V_g : Arv Z h0 g kg .byte N (own_cat qq0 fa0 ee0 qq1 fa1 ee1 qq2 fa2 ee2) (.int (0 : Int32))) (V_0 : Arv Z h0 ta0 kc0 .byte (6 : Int32) (own_dr qq0) (.int (0 : Int32))) (V_1 : Arv Z h0 ta1 kc1 .byte (6 : Int32) (own_dr qq1) (.int (0 : Int32))) (V_2 : Arv Z h0 ta2 kc2 .byte (6 : Int32) (own_dr qq2) (.int (0 : Int32))) (HF0 : own_in3 fa0) (HF1 : own_in3 fa1) (HF2 : own_in3 fa2) (HE0 : own_in3 ee0) (HE1 : own_in3 ee1) (HE2 : own_in3 ee2) (hN : N.toInt = ee0.toInt + ee1.toInt + ee2.toInt) (hi : 0 ≤ i.toInt ∧ i.toInt ≤ 8) :
    Con l Z (⟨"dev/triadic/policy/TextLinesBytesPinLaw", "at", "([BI[BII[BII[BII)Z"⟩ : MethodName) method_4_code 12 (some .boolean) ws ({ frames := 0, cells := 0, slots := 0, locals := 0 } : Room) #[(.ref g), (.int i), (.ref ta0), (.int fa0), (.int ee0), (.ref ta1), (.int fa1), (.int ee1), (.ref ta2), (.int fa2), (.int ee2)] h0 (Q_rm_at Z g i ta0 fa0 ee0 ta1 fa1 ee1 ta2 fa2 ee2 kg N kc0 kc1 kc2 qq0 qq1 qq2 h0 n0) := by
  refine MetFree.of_bodySF (plainFor_of_name pn_TextLinesBytesPinLaw) hisR ?_
  intro p e s m args below meth c s₁ Bd hml0 hP hK
  obtain ⟨rfl, hZ, hh⟩ := hP
  have hx := Bd.exec
  have hby := Bd.bytes
  have hml : c.maxLocals = 12 := hml0
  have hown : s.vm.findClass "dev/triadic/policy/TextLinesBytesPinLaw" = some m.cls := findClass_of_methodNamed Bd.named
  have hnm := (name_of_methodNamed Bd.named Bd.method).1
  have X0 : Stand p l e ({ frames := 0, cells := 0, slots := 0, locals := 0 } : Room) s m #[(.ref g), (.int i), (.ref ta0), (.int fa0), (.int ee0), (.ref ta1), (.int fa1), (.int ee1), (.ref ta2), (.int fa2), (.int ee2)] below meth c s₁ [] 0 0 := Stand.of_body Bd
  have e0 : s₁.heap = h0 := by rw [← hh, Bd.state]; rfl
  have N0 := Fr.nil n0
  have k0 : Rch p e below (s₁.setTop (entryFrame m #[(.ref g), (.int i), (.ref ta0), (.int fa0), (.int ee0), (.ref ta1), (.int fa1), (.int ee1), (.ref ta2), (.int fa2), (.int ee2)] 12)) s₁ (mkF m 0 #[.val (.ref g), .val (.int i), .val (.ref ta0), .val (.int fa0), .val (.int ee0), .val (.ref ta1), .val (.int fa1), .val (.int ee1), .val (.ref ta2), .val (.int fa2), .val (.int ee2), .unset] []) := fun tg kg => castTop (ef_rm_at m g i ta0 fa0 ee0 ta1 fa1 ee1 ta2 fa2 ee2) kg
  have lt_V_g := own_ltN V_g.lt
  have lt_V_0 := own_ltN V_0.lt
  have lt_V_1 := own_ltN V_1.lt
  have lt_V_2 := own_ltN V_2.lt
  obtain ⟨cfa0, dfa0, ffa0⟩ := own_in3_nat HF0
  obtain ⟨cea0, dea0, fea0⟩ := own_in3_nat HE0
  have HF0' := HF0; have HE0' := HE0; unfold own_in3 at HF0' HE0'
  obtain ⟨cfa1, dfa1, ffa1⟩ := own_in3_nat HF1
  obtain ⟨cea1, dea1, fea1⟩ := own_in3_nat HE1
  have HF1' := HF1; have HE1' := HE1; unfold own_in3 at HF1' HE1'
  obtain ⟨cfa2, dfa2, ffa2⟩ := own_in3_nat HF2
  obtain ⟨cea2, dea2, fea2⟩ := own_in3_nat HE2
  have HF2' := HF2; have HE2' := HE2; unfold own_in3 at HF2' HE2'
  have ci : ¬ i < 0 := own_nn hi.1
  have di := nat_of ci
  have cN : ¬ N < 0 := own_nn (by omega)
  have dN := nat_of cN
  have k1 : Rch p e below (s₁.setTop (entryFrame m #[(.ref g), (.int i), (.ref ta0), (.int fa0), (.int ee0), (.ref ta1), (.int fa1), (.int ee1), (.ref ta2), (.int fa2), (.int ee2)] 12)) s₁ (mkF m 2 #[.val (.ref g), .val (.int i), .val (.ref ta0), .val (.int fa0), .val (.int ee0), .val (.ref ta1), .val (.int fa1), .val (.int ee1), .val (.ref ta2), .val (.int fa2), .val (.int ee2), .unset] [(.ref g), (.int i)]) := fun tg kg => by
    refine k0 tg ?_
    show Steps p.tables e below (s₁.setTop (mkF m 0 #[.val (.ref g), .val (.int i), .val (.ref ta0), .val (.int fa0), .val (.int ee0), .val (.ref ta1), .val (.int fa1), .val (.int ee1), .val (.ref ta2), .val (.int fa2), .val (.int ee2), .unset] [])) tg
    refine XS.iloadN X0.here hx rfl (hb hby d8_0) rfl ?_
    refine XS.aloadN X0.here hx rfl (hb hby d8_1) rfl rfl ?_
    exact kg
  obtain ⟨cl2, Ar2, q2, S2, M2, H2, G2⟩ := id V_g
  have k3 : Rch p e below (s₁.setTop (entryFrame m #[(.ref g), (.int i), (.ref ta0), (.int fa0), (.int ee0), (.ref ta1), (.int fa1), (.int ee1), (.ref ta2), (.int fa2), (.int ee2)] 12)) s₁ (mkF m 3 #[.val (.ref g), .val (.int i), .val (.ref ta0), .val (.int fa0), .val (.int ee0), .val (.ref ta1), .val (.int fa1), .val (.int ee1), .val (.ref ta2), .val (.int fa2), .val (.int ee2), .unset] [(.int N), (.int i)]) := fun tg kg => by
    refine k1 tg ?_
    show Steps p.tables e below (s₁.setTop (mkF m 2 #[.val (.ref g), .val (.int i), .val (.ref ta0), .val (.int fa0), .val (.int ee0), .val (.ref ta1), .val (.int fa1), .val (.int ee1), .val (.ref ta2), .val (.int fa2), .val (.int ee2), .unset] [(.ref g), (.int i)])) tg
    refine X0.arraylength hx (by rw [e0]; exact Ar2.1) (State.isArrayOf_alike hZ.alike Ar2.2.1) (g := (mkF m 2 #[.val (.ref g), .val (.int i), .val (.ref ta0), .val (.int fa0), .val (.int ee0), .val (.ref ta1), .val (.int fa1), .val (.int ee1), .val (.ref ta2), .val (.int fa2), .val (.int ee2), .unset] [(.ref g), (.int i)])) rfl rfl (hb hby d8_2) _ ?_
    rw [len_of S2 M2]
    exact kg
  by_cases hc3_4 : i < N
  · have hlN := hc3_4
    rw [Int32.lt_iff_toInt_lt] at hlN
    have hing : ¬ (i < 0 ∨ cl2.slots.size ≤ (i).toNatClampNeg) := inb_of S2 ⟨ci, hc3_4⟩
    have k5 : Rch p e below (s₁.setTop (entryFrame m #[(.ref g), (.int i), (.ref ta0), (.int fa0), (.int ee0), (.ref ta1), (.int fa1), (.int ee1), (.ref ta2), (.int fa2), (.int ee2)] 12)) s₁ (mkF m 11 #[.val (.ref g), .val (.int i), .val (.ref ta0), .val (.int fa0), .val (.int ee0), .val (.ref ta1), .val (.int fa1), .val (.int ee1), .val (.ref ta2), .val (.int fa2), .val (.int ee2), .unset] [(.int ee0), (.int i)]) := fun tg kg => by
      refine k3 tg ?_
      show Steps p.tables e below (s₁.setTop (mkF m 3 #[.val (.ref g), .val (.int i), .val (.ref ta0), .val (.int fa0), .val (.int ee0), .val (.ref ta1), .val (.int fa1), .val (.int ee1), .val (.ref ta2), .val (.int fa2), .val (.int ee2), .unset] [(.int N), (.int i)])) tg
      refine XS.icmpYes X0.here hx rfl (pc0 := 3) (pc' := 8) rfl (hb hby d8_3) rfl (tlt hc3_4).1 (by decide) (by decide) ?_
      refine XS.iloadN X0.here hx rfl (hb hby d8_8) rfl ?_
      show Steps p.tables e below (s₁.setTop (mkF m 9 #[.val (.ref g), .val (.int i), .val (.ref ta0), .val (.int fa0), .val (.int ee0), .val (.ref ta1), .val (.int fa1), .val (.int ee1), .val (.ref ta2), .val (.int fa2), .val (.int ee2), .unset] [(.int i)])) tg
      refine XS.iload X0.here hx rfl (hb hby d8_9) rfl ?_
      exact kg
    by_cases hc11_6 : i < ee0
    · have k7 : Rch p e below (s₁.setTop (entryFrame m #[(.ref g), (.int i), (.ref ta0), (.int fa0), (.int ee0), (.ref ta1), (.int fa1), (.int ee1), (.ref ta2), (.int fa2), (.int ee2)] 12)) s₁ (mkF m 18 #[.val (.ref g), .val (.int i), .val (.ref ta0), .val (.int fa0), .val (.int ee0), .val (.ref ta1), .val (.int fa1), .val (.int ee1), .val (.ref ta2), .val (.int fa2), .val (.int ee2), .unset] [(.int (fa0 + i)), (.ref ta0)]) := fun tg kg => by
        refine k5 tg ?_
        show Steps p.tables e below (s₁.setTop (mkF m 11 #[.val (.ref g), .val (.int i), .val (.ref ta0), .val (.int fa0), .val (.int ee0), .val (.ref ta1), .val (.int fa1), .val (.int ee1), .val (.ref ta2), .val (.int fa2), .val (.int ee2), .unset] [(.int ee0), (.int i)])) tg
        refine XS.icmpNo X0.here hx rfl (hb hby d8_11) rfl (tlt hc11_6).2.1 ?_
        refine XS.aloadN X0.here hx rfl (hb hby d8_14) rfl rfl ?_
        refine XS.iloadN X0.here hx rfl (hb hby d8_15) rfl ?_
        refine XS.iloadN X0.here hx rfl (hb hby d8_16) rfl ?_
        refine XS.iadd X0.here hx rfl (hb hby d8_17) rfl ?_
        exact kg
      obtain ⟨cl8, Ar8, q8, S8, M8, H8, G8⟩ := id V_0
      have hl0 := hc11_6
      rw [Int32.lt_iff_toInt_lt] at hl0
      have x0 := own_add (x := fa0) (y := i) (by omega) (by omega) (by omega) (by omega)
      have y0 := nat_of (own_nn (show 0 ≤ (fa0 + i).toInt by omega))
      have hin8 : ¬ ((fa0 + i) < 0 ∨ cl8.slots.size ≤ ((fa0 + i)).toNatClampNeg) := inb_of S8 ⟨own_nn (by omega), by rw [Int32.lt_iff_toInt_lt, show (6 : Int32).toInt = 6 by decide]; omega⟩
      have hat8 := Has.at H8 hin8 (own_dr_at qq0 (show ((fa0 + i)).toNatClampNeg < 6 by omega) _)
      have hatg := Has.at H2 hing (own_cat0 _ (by have z := hc11_6; rw [Int32.lt_iff_toInt_lt] at z; omega) (by have z := hc11_6; rw [Int32.lt_iff_toInt_lt] at z; omega))
      rw [show fa0.toNatClampNeg + i.toNatClampNeg = ((fa0 + i)).toNatClampNeg by omega] at hatg
      have k9 : Rch p e below (s₁.setTop (entryFrame m #[(.ref g), (.int i), (.ref ta0), (.int fa0), (.int ee0), (.ref ta1), (.int fa1), (.int ee1), (.ref ta2), (.int fa2), (.int ee2)] 12)) s₁ (mkF m 76 #[.val (.ref g), .val (.int i), .val (.ref ta0), .val (.int fa0), .val (.int ee0), .val (.ref ta1), .val (.int fa1), .val (.int ee1), .val (.ref ta2), .val (.int fa2), .val (.int ee2), .val (.int (own_B qq0 ((fa0 + i)).toNatClampNeg))] [(.int (1 : Int32))]) := fun tg kg => by
        refine k7 tg ?_
        show Steps p.tables e below (s₁.setTop (mkF m 18 #[.val (.ref g), .val (.int i), .val (.ref ta0), .val (.int fa0), .val (.int ee0), .val (.ref ta1), .val (.int fa1), .val (.int ee1), .val (.ref ta2), .val (.int fa2), .val (.int ee2), .unset] [(.int (fa0 + i)), (.ref ta0)])) tg
        refine X0.baloadBytes hx (j := (fa0 + i)) (v := (.int (own_B qq0 ((fa0 + i)).toNatClampNeg))) (by rw [e0]; exact Ar8.1) (State.isArrayOf_alike hZ.alike Ar8.2.1) Ar8.2.2 hin8 hat8 (g := (mkF m 18 #[.val (.ref g), .val (.int i), .val (.ref ta0), .val (.int fa0), .val (.int ee0), .val (.ref ta1), .val (.int fa1), .val (.int ee1), .val (.ref ta2), .val (.int fa2), .val (.int ee2), .unset] [(.int (fa0 + i)), (.ref ta0)])) rfl rfl (hb hby d8_18) _ ?_
        refine XS.istore X0.here hx rfl (hb hby d8_19) rfl (l' := #[.val (.ref g), .val (.int i), .val (.ref ta0), .val (.int fa0), .val (.int ee0), .val (.ref ta1), .val (.int fa1), .val (.int ee1), .val (.ref ta2), .val (.int fa2), .val (.int ee2), .val (.int (own_B qq0 ((fa0 + i)).toNatClampNeg))]) rfl ?_
        refine XS.goto X0.here hx rfl (pc0 := 21) (pc' := 63) rfl (hb hby d8_21) (by decide) (by decide) ?_
        refine XS.aloadN X0.here hx rfl (hb hby d8_63) rfl rfl ?_
        refine XS.iloadN X0.here hx rfl (hb hby d8_64) rfl ?_
        refine X0.baloadBytes hx (j := i) (v := (.int (own_B qq0 ((fa0 + i)).toNatClampNeg))) (by rw [e0]; exact Ar2.1) (State.isArrayOf_alike hZ.alike Ar2.2.1) Ar2.2.2 hing hatg (g := (mkF m 65 #[.val (.ref g), .val (.int i), .val (.ref ta0), .val (.int fa0), .val (.int ee0), .val (.ref ta1), .val (.int fa1), .val (.int ee1), .val (.ref ta2), .val (.int fa2), .val (.int ee2), .val (.int (own_B qq0 ((fa0 + i)).toNatClampNeg))] [(.int i), (.ref g)])) rfl rfl (hb hby d8_65) _ ?_
        show Steps p.tables e below (s₁.setTop (mkF m 66 #[.val (.ref g), .val (.int i), .val (.ref ta0), .val (.int fa0), .val (.int ee0), .val (.ref ta1), .val (.int fa1), .val (.int ee1), .val (.ref ta2), .val (.int fa2), .val (.int ee2), .val (.int (own_B qq0 ((fa0 + i)).toNatClampNeg))] [(.int (own_B qq0 ((fa0 + i)).toNatClampNeg))])) tg
        refine XS.iload X0.here hx rfl (hb hby d8_66) rfl ?_
        refine XS.icmpNo X0.here hx rfl (hb hby d8_68) rfl (teq rfl).2 ?_
        refine XS.iconst X0.here hx rfl (hb hby d8_71) ?_
        refine XS.goto X0.here hx rfl (pc0 := 72) (pc' := 76) rfl (hb hby d8_72) (by decide) (by decide) ?_
        exact kg
      obtain ⟨fs10, hr10, hrun10, hended10, hW10, hsame10⟩ := X0.leave (v := some (.int (nar .boolean (1 : Int32)))) (fun h => by rw [Bd.returns] at h; cases h)
      refine ⟨_, _, k9 _ ?_, hrun10, hended10, _, _, rfl, ?_, ⟨_, rfl⟩, hW10, hsame10.mono (by decide) (by decide)⟩
      · exact retN X0 hx (t := .boolean) Bd.returns (by simp) (hb hby d8_76) hr10
      · show Q_rm_at Z g i ta0 fa0 ee0 ta1 fa1 ee1 ta2 fa2 ee2 kg N kc0 kc1 kc2 qq0 qq1 qq2 h0 n0 _ s₁.heap _
        rw [e0]
        exact ⟨rfl, N0, rfl⟩
    · have k11 : Rch p e below (s₁.setTop (entryFrame m #[(.ref g), (.int i), (.ref ta0), (.int fa0), (.int ee0), (.ref ta1), (.int fa1), (.int ee1), (.ref ta2), (.int fa2), (.int ee2)] 12)) s₁ (mkF m 30 #[.val (.ref g), .val (.int i), .val (.ref ta0), .val (.int fa0), .val (.int ee0), .val (.ref ta1), .val (.int fa1), .val (.int ee1), .val (.ref ta2), .val (.int fa2), .val (.int ee2), .unset] [(.int (ee0 + ee1)), (.int i)]) := fun tg kg => by
        refine k5 tg ?_
        show Steps p.tables e below (s₁.setTop (mkF m 11 #[.val (.ref g), .val (.int i), .val (.ref ta0), .val (.int fa0), .val (.int ee0), .val (.ref ta1), .val (.int fa1), .val (.int ee1), .val (.ref ta2), .val (.int fa2), .val (.int ee2), .unset] [(.int ee0), (.int i)])) tg
        refine XS.icmpYes X0.here hx rfl (pc0 := 11) (pc' := 24) rfl (hb hby d8_11) rfl (flt hc11_6).2.1 (by decide) (by decide) ?_
        refine XS.iloadN X0.here hx rfl (hb hby d8_24) rfl ?_
        refine XS.iload X0.here hx rfl (hb hby d8_25) rfl ?_
        refine XS.iload X0.here hx rfl (hb hby d8_27) rfl ?_
        refine XS.iadd X0.here hx rfl (hb hby d8_29) rfl ?_
        exact kg
      by_cases hc30_12 : i < (ee0 + ee1)
      · have k13 : Rch p e below (s₁.setTop (entryFrame m #[(.ref g), (.int i), (.ref ta0), (.int fa0), (.int ee0), (.ref ta1), (.int fa1), (.int ee1), (.ref ta2), (.int fa2), (.int ee2)] 12)) s₁ (mkF m 42 #[.val (.ref g), .val (.int i), .val (.ref ta0), .val (.int fa0), .val (.int ee0), .val (.ref ta1), .val (.int fa1), .val (.int ee1), .val (.ref ta2), .val (.int fa2), .val (.int ee2), .unset] [(.int ((fa1 + i) - ee0)), (.ref ta1)]) := fun tg kg => by
          refine k11 tg ?_
          show Steps p.tables e below (s₁.setTop (mkF m 30 #[.val (.ref g), .val (.int i), .val (.ref ta0), .val (.int fa0), .val (.int ee0), .val (.ref ta1), .val (.int fa1), .val (.int ee1), .val (.ref ta2), .val (.int fa2), .val (.int ee2), .unset] [(.int (ee0 + ee1)), (.int i)])) tg
          refine XS.icmpNo X0.here hx rfl (hb hby d8_30) rfl (tlt hc30_12).2.1 ?_
          refine XS.aload X0.here hx rfl (hb hby d8_33) rfl rfl ?_
          refine XS.iload X0.here hx rfl (hb hby d8_35) rfl ?_
          refine XS.iloadN X0.here hx rfl (hb hby d8_37) rfl ?_
          refine XS.iadd X0.here hx rfl (hb hby d8_38) rfl ?_
          refine XS.iload X0.here hx rfl (hb hby d8_39) rfl ?_
          show Steps p.tables e below (s₁.setTop (mkF m 41 #[.val (.ref g), .val (.int i), .val (.ref ta0), .val (.int fa0), .val (.int ee0), .val (.ref ta1), .val (.int fa1), .val (.int ee1), .val (.ref ta2), .val (.int fa2), .val (.int ee2), .unset] [(.int ee0), (.int (fa1 + i)), (.ref ta1)])) tg
          refine XS.isub X0.here hx rfl (hb hby d8_41) rfl ?_
          exact kg
        obtain ⟨cl14, Ar14, q14, S14, M14, H14, G14⟩ := id V_1
        have hl0 := hc11_6
        rw [Int32.lt_iff_toInt_lt] at hl0
        have z1 := own_add (x := ee0) (y := ee1) (by omega) (by omega) (by omega) (by omega)
        have hl1 := hc30_12
        rw [Int32.lt_iff_toInt_lt] at hl1
        have x0 := own_add (x := fa1) (y := i) (by omega) (by omega) (by omega) (by omega)
        have x1 := own_sub (x := (fa1 + i)) (y := ee0) (by omega) (by omega) (by omega) (by omega)
        have y0 := nat_of (own_nn (show 0 ≤ ((fa1 + i) - ee0).toInt by omega))
        have hin14 : ¬ (((fa1 + i) - ee0) < 0 ∨ cl14.slots.size ≤ (((fa1 + i) - ee0)).toNatClampNeg) := inb_of S14 ⟨own_nn (by omega), by rw [Int32.lt_iff_toInt_lt, show (6 : Int32).toInt = 6 by decide]; omega⟩
        have hat14 := Has.at H14 hin14 (own_dr_at qq1 (show (((fa1 + i) - ee0)).toNatClampNeg < 6 by omega) _)
        have hatg := Has.at H2 hing (own_cat1 _ (j := i.toNatClampNeg - ee0.toNatClampNeg) (by omega) (by omega) (by omega))
        rw [show fa1.toNatClampNeg + (i.toNatClampNeg - ee0.toNatClampNeg) = (((fa1 + i) - ee0)).toNatClampNeg by omega] at hatg
        have k15 : Rch p e below (s₁.setTop (entryFrame m #[(.ref g), (.int i), (.ref ta0), (.int fa0), (.int ee0), (.ref ta1), (.int fa1), (.int ee1), (.ref ta2), (.int fa2), (.int ee2)] 12)) s₁ (mkF m 76 #[.val (.ref g), .val (.int i), .val (.ref ta0), .val (.int fa0), .val (.int ee0), .val (.ref ta1), .val (.int fa1), .val (.int ee1), .val (.ref ta2), .val (.int fa2), .val (.int ee2), .val (.int (own_B qq1 (((fa1 + i) - ee0)).toNatClampNeg))] [(.int (1 : Int32))]) := fun tg kg => by
          refine k13 tg ?_
          show Steps p.tables e below (s₁.setTop (mkF m 42 #[.val (.ref g), .val (.int i), .val (.ref ta0), .val (.int fa0), .val (.int ee0), .val (.ref ta1), .val (.int fa1), .val (.int ee1), .val (.ref ta2), .val (.int fa2), .val (.int ee2), .unset] [(.int ((fa1 + i) - ee0)), (.ref ta1)])) tg
          refine X0.baloadBytes hx (j := ((fa1 + i) - ee0)) (v := (.int (own_B qq1 (((fa1 + i) - ee0)).toNatClampNeg))) (by rw [e0]; exact Ar14.1) (State.isArrayOf_alike hZ.alike Ar14.2.1) Ar14.2.2 hin14 hat14 (g := (mkF m 42 #[.val (.ref g), .val (.int i), .val (.ref ta0), .val (.int fa0), .val (.int ee0), .val (.ref ta1), .val (.int fa1), .val (.int ee1), .val (.ref ta2), .val (.int fa2), .val (.int ee2), .unset] [(.int ((fa1 + i) - ee0)), (.ref ta1)])) rfl rfl (hb hby d8_42) _ ?_
          refine XS.istore X0.here hx rfl (hb hby d8_43) rfl (l' := #[.val (.ref g), .val (.int i), .val (.ref ta0), .val (.int fa0), .val (.int ee0), .val (.ref ta1), .val (.int fa1), .val (.int ee1), .val (.ref ta2), .val (.int fa2), .val (.int ee2), .val (.int (own_B qq1 (((fa1 + i) - ee0)).toNatClampNeg))]) rfl ?_
          refine XS.goto X0.here hx rfl (pc0 := 45) (pc' := 63) rfl (hb hby d8_45) (by decide) (by decide) ?_
          refine XS.aloadN X0.here hx rfl (hb hby d8_63) rfl rfl ?_
          refine XS.iloadN X0.here hx rfl (hb hby d8_64) rfl ?_
          show Steps p.tables e below (s₁.setTop (mkF m 65 #[.val (.ref g), .val (.int i), .val (.ref ta0), .val (.int fa0), .val (.int ee0), .val (.ref ta1), .val (.int fa1), .val (.int ee1), .val (.ref ta2), .val (.int fa2), .val (.int ee2), .val (.int (own_B qq1 (((fa1 + i) - ee0)).toNatClampNeg))] [(.int i), (.ref g)])) tg
          refine X0.baloadBytes hx (j := i) (v := (.int (own_B qq1 (((fa1 + i) - ee0)).toNatClampNeg))) (by rw [e0]; exact Ar2.1) (State.isArrayOf_alike hZ.alike Ar2.2.1) Ar2.2.2 hing hatg (g := (mkF m 65 #[.val (.ref g), .val (.int i), .val (.ref ta0), .val (.int fa0), .val (.int ee0), .val (.ref ta1), .val (.int fa1), .val (.int ee1), .val (.ref ta2), .val (.int fa2), .val (.int ee2), .val (.int (own_B qq1 (((fa1 + i) - ee0)).toNatClampNeg))] [(.int i), (.ref g)])) rfl rfl (hb hby d8_65) _ ?_
          refine XS.iload X0.here hx rfl (hb hby d8_66) rfl ?_
          refine XS.icmpNo X0.here hx rfl (hb hby d8_68) rfl (teq rfl).2 ?_
          refine XS.iconst X0.here hx rfl (hb hby d8_71) ?_
          refine XS.goto X0.here hx rfl (pc0 := 72) (pc' := 76) rfl (hb hby d8_72) (by decide) (by decide) ?_
          exact kg
        obtain ⟨fs16, hr16, hrun16, hended16, hW16, hsame16⟩ := X0.leave (v := some (.int (nar .boolean (1 : Int32)))) (fun h => by rw [Bd.returns] at h; cases h)
        refine ⟨_, _, k15 _ ?_, hrun16, hended16, _, _, rfl, ?_, ⟨_, rfl⟩, hW16, hsame16.mono (by decide) (by decide)⟩
        · exact retN X0 hx (t := .boolean) Bd.returns (by simp) (hb hby d8_76) hr16
        · show Q_rm_at Z g i ta0 fa0 ee0 ta1 fa1 ee1 ta2 fa2 ee2 kg N kc0 kc1 kc2 qq0 qq1 qq2 h0 n0 _ s₁.heap _
          rw [e0]
          exact ⟨rfl, N0, rfl⟩
      · have k17 : Rch p e below (s₁.setTop (entryFrame m #[(.ref g), (.int i), (.ref ta0), (.int fa0), (.int ee0), (.ref ta1), (.int fa1), (.int ee1), (.ref ta2), (.int fa2), (.int ee2)] 12)) s₁ (mkF m 60 #[.val (.ref g), .val (.int i), .val (.ref ta0), .val (.int fa0), .val (.int ee0), .val (.ref ta1), .val (.int fa1), .val (.int ee1), .val (.ref ta2), .val (.int fa2), .val (.int ee2), .unset] [(.int (((fa2 + i) - ee0) - ee1)), (.ref ta2)]) := fun tg kg => by
          refine k11 tg ?_
          show Steps p.tables e below (s₁.setTop (mkF m 30 #[.val (.ref g), .val (.int i), .val (.ref ta0), .val (.int fa0), .val (.int ee0), .val (.ref ta1), .val (.int fa1), .val (.int ee1), .val (.ref ta2), .val (.int fa2), .val (.int ee2), .unset] [(.int (ee0 + ee1)), (.int i)])) tg
          refine XS.icmpYes X0.here hx rfl (pc0 := 30) (pc' := 48) rfl (hb hby d8_30) rfl (flt hc30_12).2.1 (by decide) (by decide) ?_
          refine XS.aload X0.here hx rfl (hb hby d8_48) rfl rfl ?_
          refine XS.iload X0.here hx rfl (hb hby d8_50) rfl ?_
          refine XS.iloadN X0.here hx rfl (hb hby d8_52) rfl ?_
          refine XS.iadd X0.here hx rfl (hb hby d8_53) rfl ?_
          refine XS.iload X0.here hx rfl (hb hby d8_54) rfl ?_
          show Steps p.tables e below (s₁.setTop (mkF m 56 #[.val (.ref g), .val (.int i), .val (.ref ta0), .val (.int fa0), .val (.int ee0), .val (.ref ta1), .val (.int fa1), .val (.int ee1), .val (.ref ta2), .val (.int fa2), .val (.int ee2), .unset] [(.int ee0), (.int (fa2 + i)), (.ref ta2)])) tg
          refine XS.isub X0.here hx rfl (hb hby d8_56) rfl ?_
          refine XS.iload X0.here hx rfl (hb hby d8_57) rfl ?_
          refine XS.isub X0.here hx rfl (hb hby d8_59) rfl ?_
          exact kg
        obtain ⟨cl18, Ar18, q18, S18, M18, H18, G18⟩ := id V_2
        have hl0 := hc11_6
        rw [Int32.lt_iff_toInt_lt] at hl0
        have z1 := own_add (x := ee0) (y := ee1) (by omega) (by omega) (by omega) (by omega)
        have hl1 := hc30_12
        rw [Int32.lt_iff_toInt_lt] at hl1
        have x0 := own_add (x := fa2) (y := i) (by omega) (by omega) (by omega) (by omega)
        have x1 := own_sub (x := (fa2 + i)) (y := ee0) (by omega) (by omega) (by omega) (by omega)
        have x2 := own_sub (x := ((fa2 + i) - ee0)) (y := ee1) (by omega) (by omega) (by omega) (by omega)
        have y0 := nat_of (own_nn (show 0 ≤ (((fa2 + i) - ee0) - ee1).toInt by omega))
        have hin18 : ¬ ((((fa2 + i) - ee0) - ee1) < 0 ∨ cl18.slots.size ≤ ((((fa2 + i) - ee0) - ee1)).toNatClampNeg) := inb_of S18 ⟨own_nn (by omega), by rw [Int32.lt_iff_toInt_lt, show (6 : Int32).toInt = 6 by decide]; omega⟩
        have hat18 := Has.at H18 hin18 (own_dr_at qq2 (show ((((fa2 + i) - ee0) - ee1)).toNatClampNeg < 6 by omega) _)
        have hatg := Has.at H2 hing (own_cat2 _ (j := i.toNatClampNeg - ee0.toNatClampNeg - ee1.toNatClampNeg) (by omega) (by omega) (by omega))
        rw [show fa2.toNatClampNeg + (i.toNatClampNeg - ee0.toNatClampNeg - ee1.toNatClampNeg) = ((((fa2 + i) - ee0) - ee1)).toNatClampNeg by omega] at hatg
        have k19 : Rch p e below (s₁.setTop (entryFrame m #[(.ref g), (.int i), (.ref ta0), (.int fa0), (.int ee0), (.ref ta1), (.int fa1), (.int ee1), (.ref ta2), (.int fa2), (.int ee2)] 12)) s₁ (mkF m 76 #[.val (.ref g), .val (.int i), .val (.ref ta0), .val (.int fa0), .val (.int ee0), .val (.ref ta1), .val (.int fa1), .val (.int ee1), .val (.ref ta2), .val (.int fa2), .val (.int ee2), .val (.int (own_B qq2 ((((fa2 + i) - ee0) - ee1)).toNatClampNeg))] [(.int (1 : Int32))]) := fun tg kg => by
          refine k17 tg ?_
          show Steps p.tables e below (s₁.setTop (mkF m 60 #[.val (.ref g), .val (.int i), .val (.ref ta0), .val (.int fa0), .val (.int ee0), .val (.ref ta1), .val (.int fa1), .val (.int ee1), .val (.ref ta2), .val (.int fa2), .val (.int ee2), .unset] [(.int (((fa2 + i) - ee0) - ee1)), (.ref ta2)])) tg
          refine X0.baloadBytes hx (j := (((fa2 + i) - ee0) - ee1)) (v := (.int (own_B qq2 ((((fa2 + i) - ee0) - ee1)).toNatClampNeg))) (by rw [e0]; exact Ar18.1) (State.isArrayOf_alike hZ.alike Ar18.2.1) Ar18.2.2 hin18 hat18 (g := (mkF m 60 #[.val (.ref g), .val (.int i), .val (.ref ta0), .val (.int fa0), .val (.int ee0), .val (.ref ta1), .val (.int fa1), .val (.int ee1), .val (.ref ta2), .val (.int fa2), .val (.int ee2), .unset] [(.int (((fa2 + i) - ee0) - ee1)), (.ref ta2)])) rfl rfl (hb hby d8_60) _ ?_
          refine XS.istore X0.here hx rfl (hb hby d8_61) rfl (l' := #[.val (.ref g), .val (.int i), .val (.ref ta0), .val (.int fa0), .val (.int ee0), .val (.ref ta1), .val (.int fa1), .val (.int ee1), .val (.ref ta2), .val (.int fa2), .val (.int ee2), .val (.int (own_B qq2 ((((fa2 + i) - ee0) - ee1)).toNatClampNeg))]) rfl ?_
          refine XS.aloadN X0.here hx rfl (hb hby d8_63) rfl rfl ?_
          show Steps p.tables e below (s₁.setTop (mkF m 64 #[.val (.ref g), .val (.int i), .val (.ref ta0), .val (.int fa0), .val (.int ee0), .val (.ref ta1), .val (.int fa1), .val (.int ee1), .val (.ref ta2), .val (.int fa2), .val (.int ee2), .val (.int (own_B qq2 ((((fa2 + i) - ee0) - ee1)).toNatClampNeg))] [(.ref g)])) tg
          refine XS.iloadN X0.here hx rfl (hb hby d8_64) rfl ?_
          refine X0.baloadBytes hx (j := i) (v := (.int (own_B qq2 ((((fa2 + i) - ee0) - ee1)).toNatClampNeg))) (by rw [e0]; exact Ar2.1) (State.isArrayOf_alike hZ.alike Ar2.2.1) Ar2.2.2 hing hatg (g := (mkF m 65 #[.val (.ref g), .val (.int i), .val (.ref ta0), .val (.int fa0), .val (.int ee0), .val (.ref ta1), .val (.int fa1), .val (.int ee1), .val (.ref ta2), .val (.int fa2), .val (.int ee2), .val (.int (own_B qq2 ((((fa2 + i) - ee0) - ee1)).toNatClampNeg))] [(.int i), (.ref g)])) rfl rfl (hb hby d8_65) _ ?_
          refine XS.iload X0.here hx rfl (hb hby d8_66) rfl ?_
          refine XS.icmpNo X0.here hx rfl (hb hby d8_68) rfl (teq rfl).2 ?_
          refine XS.iconst X0.here hx rfl (hb hby d8_71) ?_
          refine XS.goto X0.here hx rfl (pc0 := 72) (pc' := 76) rfl (hb hby d8_72) (by decide) (by decide) ?_
          exact kg
        obtain ⟨fs20, hr20, hrun20, hended20, hW20, hsame20⟩ := X0.leave (v := some (.int (nar .boolean (1 : Int32)))) (fun h => by rw [Bd.returns] at h; cases h)
        refine ⟨_, _, k19 _ ?_, hrun20, hended20, _, _, rfl, ?_, ⟨_, rfl⟩, hW20, hsame20.mono (by decide) (by decide)⟩
        · exact retN X0 hx (t := .boolean) Bd.returns (by simp) (hb hby d8_76) hr20
        · show Q_rm_at Z g i ta0 fa0 ee0 ta1 fa1 ee1 ta2 fa2 ee2 kg N kc0 kc1 kc2 qq0 qq1 qq2 h0 n0 _ s₁.heap _
          rw [e0]
          exact ⟨rfl, N0, rfl⟩
  · have k21 : Rch p e below (s₁.setTop (entryFrame m #[(.ref g), (.int i), (.ref ta0), (.int fa0), (.int ee0), (.ref ta1), (.int fa1), (.int ee1), (.ref ta2), (.int fa2), (.int ee2)] 12)) s₁ (mkF m 7 #[.val (.ref g), .val (.int i), .val (.ref ta0), .val (.int fa0), .val (.int ee0), .val (.ref ta1), .val (.int fa1), .val (.int ee1), .val (.ref ta2), .val (.int fa2), .val (.int ee2), .unset] [(.int (1 : Int32))]) := fun tg kg => by
      refine k3 tg ?_
      show Steps p.tables e below (s₁.setTop (mkF m 3 #[.val (.ref g), .val (.int i), .val (.ref ta0), .val (.int fa0), .val (.int ee0), .val (.ref ta1), .val (.int fa1), .val (.int ee1), .val (.ref ta2), .val (.int fa2), .val (.int ee2), .unset] [(.int N), (.int i)])) tg
      refine XS.icmpNo X0.here hx rfl (hb hby d8_3) rfl (flt hc3_4).1 ?_
      refine XS.iconst X0.here hx rfl (hb hby d8_6) ?_
      exact kg
    obtain ⟨fs22, hr22, hrun22, hended22, hW22, hsame22⟩ := X0.leave (v := some (.int (nar .boolean (1 : Int32)))) (fun h => by rw [Bd.returns] at h; cases h)
    refine ⟨_, _, k21 _ ?_, hrun22, hended22, _, _, rfl, ?_, ⟨_, rfl⟩, hW22, hsame22.mono (by decide) (by decide)⟩
    · exact retN X0 hx (t := .boolean) Bd.returns (by simp) (hb hby d8_7) hr22
    · show Q_rm_at Z g i ta0 fa0 ee0 ta1 fa1 ee1 ta2 fa2 ee2 kg N kc0 kc1 kc2 qq0 qq1 qq2 h0 n0 _ s₁.heap _
      rw [e0]
      exact ⟨rfl, N0, rfl⟩
theorem ef_rm0 (m : MethodId) (x0 : Int64) (x1 : Int64) (x2 : Int64) (x3 : Int32) (x4 : Int32) : entryFrame m #[(.long x0), (.long x1), (.long x2), (.int x3), (.int x4)] maxLocals = mkF m 0 #[.val (.long x0), .second, .val (.long x1), .second, .val (.long x2), .second, .val (.int x3), .val (.int x4), .unset, .unset, .unset, .unset, .unset, .unset, .unset, .unset, .unset, .unset, .unset, .unset, .unset, .unset, .unset, .unset, .unset, .unset] [] := by first | (simp [entryFrame, mkF, argsToLocals, Value.category, maxLocals]; done) | rfl
def Q_rm0 (Z : State) (qa : Int64) (qb : Int64) (qc : Int64) (ip : Int32) (iq : Int32) (h0 : Heap) (n0 : Nat) (v : Option Value) (h : Heap) (L : List Loc) : Prop := (v = some (.int 1)) ∧ (Fr n0 L)
theorem pd_2 : parseMethodDescriptor "(J)[B" = some ⟨[.long], some (.array .byte)⟩ := by decide +kernel
theorem pd_3 : parseMethodDescriptor "()V" = some ⟨[], none⟩ := by decide +kernel
theorem pd_4 : parseMethodDescriptor "([BIII)Ldev/triadic/policy/TextLines$Line;" = some ⟨[(.array .byte), .int, .int, .int], some (.object "dev/triadic/policy/TextLines$Line")⟩ := by decide +kernel
theorem pd_5 : parseMethodDescriptor "(Ldev/triadic/policy/TextLines$Line;)V" = some ⟨[(.object "dev/triadic/policy/TextLines$Line")], none⟩ := by decide +kernel
theorem pd_6 : parseMethodDescriptor "()[B" = some ⟨[], some (.array .byte)⟩ := by decide +kernel
theorem pd_7 : parseMethodDescriptor "([BI[BII[BII[BII)Z" = some ⟨[(.array .byte), .int, (.array .byte), .int, .int, (.array .byte), .int, .int, (.array .byte), .int, .int], some .boolean⟩ := by decide +kernel
set_option maxRecDepth 65536 in
set_option maxHeartbeats 40000000 in
theorem rm0 (l : Launch) (Z : State) (a0 : Array Value) (hw : ∀ d ∈ tables_1, d.before a0 Z = true) (ws : List Jvm.Cond) (qa : Int64) (qb : Int64) (qc : Int64) (ip : Int32) (iq : Int32) (h0 : Heap) (n0 : Nat) (Z0 : n0 ≤ h0.size)  :
    Con l Z x code maxLocals ret ws room_1 #[(.long qa), (.long qb), (.long qc), (.int ip), (.int iq)] h0 (Q_rm0 Z qa qb qc ip iq h0 n0) := by
  refine MetFree.of_bodySF (plainFor_of_name pn_TextLinesBytesPinLaw) hisR ?_
  intro p e s m args below meth c s₁ Bd hml0 hP hK
  obtain ⟨rfl, hZ, hh⟩ := hP
  have hx := Bd.exec
  have hby := Bd.bytes
  have hml : c.maxLocals = 26 := hml0
  have hown : s.vm.findClass "dev/triadic/policy/TextLinesBytesPinLaw" = some m.cls := findClass_of_methodNamed Bd.named
  have hnm := (name_of_methodNamed Bd.named Bd.method).1
  have X0 : Stand p l e room_1 s m #[(.long qa), (.long qb), (.long qc), (.int ip), (.int iq)] below meth c s₁ [] 0 0 := Stand.of_body Bd
  have e0 : s₁.heap = h0 := by rw [← hh, Bd.state]; rfl
  have N0 := Fr.nil n0
  have k0 : Rch p e below (s₁.setTop (entryFrame m #[(.long qa), (.long qb), (.long qc), (.int ip), (.int iq)] maxLocals)) s₁ (mkF m 0 #[.val (.long qa), .second, .val (.long qb), .second, .val (.long qc), .second, .val (.int ip), .val (.int iq), .unset, .unset, .unset, .unset, .unset, .unset, .unset, .unset, .unset, .unset, .unset, .unset, .unset, .unset, .unset, .unset, .unset, .unset] []) := fun tg kg => castTop (ef_rm0 m qa qb qc ip iq) kg
  have k1 : Rch p e below (s₁.setTop (entryFrame m #[(.long qa), (.long qb), (.long qc), (.int ip), (.int iq)] maxLocals)) s₁ (mkF m 1 #[.val (.long qa), .second, .val (.long qb), .second, .val (.long qc), .second, .val (.int ip), .val (.int iq), .unset, .unset, .unset, .unset, .unset, .unset, .unset, .unset, .unset, .unset, .unset, .unset, .unset, .unset, .unset, .unset, .unset, .unset] [(.long qa)]) := fun tg kg => by
    refine k0 tg ?_
    show Steps p.tables e below (s₁.setTop (mkF m 0 #[.val (.long qa), .second, .val (.long qb), .second, .val (.long qc), .second, .val (.int ip), .val (.int iq), .unset, .unset, .unset, .unset, .unset, .unset, .unset, .unset, .unset, .unset, .unset, .unset, .unset, .unset, .unset, .unset, .unset, .unset] [])) tg
    refine XS.lloadN X0.here hx rfl (hb hby at_0) rfl ?_
    exact kg
  obtain ⟨v2, T2, h2, Lc2, X2, e2, hQ2, st2⟩ := own_callS X0 hx hZ hown (hw _ (List.mem_of_getElem? (i := 0) rfl)) (hw _ (List.mem_of_getElem? (i := 1) rfl)) (hw _ (List.mem_of_getElem? (i := 2) rfl)) (hw _ (List.mem_of_getElem? (i := 3) rfl)) (by decide) (rm_drawn l Z a0 hw [] qa h0 n0 (by omega) ) e0 (g := (mkF m 1 #[.val (.long qa), .second, .val (.long qb), .second, .val (.long qc), .second, .val (.int ip), .val (.int iq), .unset, .unset, .unset, .unset, .unset, .unset, .unset, .unset, .unset, .unset, .unset, .unset, .unset, .unset, .unset, .unset, .unset, .unset] [(.long qa)])) rfl (by rw [hml]; rfl) (argsL := [(.long qa)]) (rest := []) rfl (lenOf pd_2 rfl) rfl (W := 0) (by show 2 * 0 + _ ≤ _; exact Nat.le_of_eq rfl) (hb hby at_1) (by decide) (by decide) (by decide) (by decide)
  obtain ⟨tt0, kt0, rfl, Nq2, K2, ge2_3, fq2_4⟩ := hQ2
  have N2 := Fr.app N0 Nq2
  have s2 : h0.size ≤ h2.size := K2.1
  have k3 : Rch p e below (s₁.setTop (entryFrame m #[(.long qa), (.long qb), (.long qc), (.int ip), (.int iq)] maxLocals)) T2 (mkF m 4 #[.val (.long qa), .second, .val (.long qb), .second, .val (.long qc), .second, .val (.int ip), .val (.int iq), .unset, .unset, .unset, .unset, .unset, .unset, .unset, .unset, .unset, .unset, .unset, .unset, .unset, .unset, .unset, .unset, .unset, .unset] [(.ref tt0)]) := fun tg kg => k1 tg (st2 tg kg)
  have lt_fq2_4 := own_ltN fq2_4.lt
  have k4 : Rch p e below (s₁.setTop (entryFrame m #[(.long qa), (.long qb), (.long qc), (.int ip), (.int iq)] maxLocals)) T2 (mkF m 7 #[.val (.long qa), .second, .val (.long qb), .second, .val (.long qc), .second, .val (.int ip), .val (.int iq), .val (.ref tt0), .unset, .unset, .unset, .unset, .unset, .unset, .unset, .unset, .unset, .unset, .unset, .unset, .unset, .unset, .unset, .unset, .unset] [(.long qb)]) := fun tg kg => by
    refine k3 tg ?_
    show Steps p.tables e below (T2.setTop (mkF m 4 #[.val (.long qa), .second, .val (.long qb), .second, .val (.long qc), .second, .val (.int ip), .val (.int iq), .unset, .unset, .unset, .unset, .unset, .unset, .unset, .unset, .unset, .unset, .unset, .unset, .unset, .unset, .unset, .unset, .unset, .unset] [(.ref tt0)])) tg
    refine XS.astore X2.here hx rfl (hb hby at_4) rfl rfl (l' := #[.val (.long qa), .second, .val (.long qb), .second, .val (.long qc), .second, .val (.int ip), .val (.int iq), .val (.ref tt0), .unset, .unset, .unset, .unset, .unset, .unset, .unset, .unset, .unset, .unset, .unset, .unset, .unset, .unset, .unset, .unset, .unset]) rfl ?_
    refine XS.lloadN X2.here hx rfl (hb hby at_6) rfl ?_
    exact kg
  obtain ⟨v5, T5, h5, Lc5, X5, e5, hQ5, st5⟩ := own_callS X2 hx hZ hown (hw _ (List.mem_of_getElem? (i := 0) rfl)) (hw _ (List.mem_of_getElem? (i := 1) rfl)) (hw _ (List.mem_of_getElem? (i := 2) rfl)) (hw _ (List.mem_of_getElem? (i := 3) rfl)) (by decide) (rm_drawn l Z a0 hw [] qb h2 n0 (by omega) ) e2 (g := (mkF m 7 #[.val (.long qa), .second, .val (.long qb), .second, .val (.long qc), .second, .val (.int ip), .val (.int iq), .val (.ref tt0), .unset, .unset, .unset, .unset, .unset, .unset, .unset, .unset, .unset, .unset, .unset, .unset, .unset, .unset, .unset, .unset, .unset] [(.long qb)])) rfl (by rw [hml]; rfl) (argsL := [(.long qb)]) (rest := []) rfl (lenOf pd_2 rfl) rfl (W := 0) (by show 2 * 0 + _ ≤ _; exact Nat.le_of_eq rfl) (hb hby at_7) (by decide) (by decide) (by decide) (by decide)
  obtain ⟨tt1, kt1, rfl, Nq5, K5, ge5_3, fq5_4⟩ := hQ5
  have N5 := Fr.app N2 Nq5
  have s5 : h2.size ≤ h5.size := K5.1
  have k6 : Rch p e below (s₁.setTop (entryFrame m #[(.long qa), (.long qb), (.long qc), (.int ip), (.int iq)] maxLocals)) T5 (mkF m 10 #[.val (.long qa), .second, .val (.long qb), .second, .val (.long qc), .second, .val (.int ip), .val (.int iq), .val (.ref tt0), .unset, .unset, .unset, .unset, .unset, .unset, .unset, .unset, .unset, .unset, .unset, .unset, .unset, .unset, .unset, .unset, .unset] [(.ref tt1)]) := fun tg kg => k4 tg (st5 tg kg)
  have lt_fq5_4 := own_ltN fq5_4.lt
  have k7 : Rch p e below (s₁.setTop (entryFrame m #[(.long qa), (.long qb), (.long qc), (.int ip), (.int iq)] maxLocals)) T5 (mkF m 14 #[.val (.long qa), .second, .val (.long qb), .second, .val (.long qc), .second, .val (.int ip), .val (.int iq), .val (.ref tt0), .val (.ref tt1), .unset, .unset, .unset, .unset, .unset, .unset, .unset, .unset, .unset, .unset, .unset, .unset, .unset, .unset, .unset, .unset] [(.long qc)]) := fun tg kg => by
    refine k6 tg ?_
    show Steps p.tables e below (T5.setTop (mkF m 10 #[.val (.long qa), .second, .val (.long qb), .second, .val (.long qc), .second, .val (.int ip), .val (.int iq), .val (.ref tt0), .unset, .unset, .unset, .unset, .unset, .unset, .unset, .unset, .unset, .unset, .unset, .unset, .unset, .unset, .unset, .unset, .unset] [(.ref tt1)])) tg
    refine XS.astore X5.here hx rfl (hb hby at_10) rfl rfl (l' := #[.val (.long qa), .second, .val (.long qb), .second, .val (.long qc), .second, .val (.int ip), .val (.int iq), .val (.ref tt0), .val (.ref tt1), .unset, .unset, .unset, .unset, .unset, .unset, .unset, .unset, .unset, .unset, .unset, .unset, .unset, .unset, .unset, .unset]) rfl ?_
    refine XS.lload X5.here hx rfl (hb hby at_12) rfl ?_
    exact kg
  obtain ⟨v8, T8, h8, Lc8, X8, e8, hQ8, st8⟩ := own_callS X5 hx hZ hown (hw _ (List.mem_of_getElem? (i := 0) rfl)) (hw _ (List.mem_of_getElem? (i := 1) rfl)) (hw _ (List.mem_of_getElem? (i := 2) rfl)) (hw _ (List.mem_of_getElem? (i := 3) rfl)) (by decide) (rm_drawn l Z a0 hw [] qc h5 n0 (by omega) ) e5 (g := (mkF m 14 #[.val (.long qa), .second, .val (.long qb), .second, .val (.long qc), .second, .val (.int ip), .val (.int iq), .val (.ref tt0), .val (.ref tt1), .unset, .unset, .unset, .unset, .unset, .unset, .unset, .unset, .unset, .unset, .unset, .unset, .unset, .unset, .unset, .unset] [(.long qc)])) rfl (by rw [hml]; rfl) (argsL := [(.long qc)]) (rest := []) rfl (lenOf pd_2 rfl) rfl (W := 0) (by show 2 * 0 + _ ≤ _; exact Nat.le_of_eq rfl) (hb hby at_14) (by decide) (by decide) (by decide) (by decide)
  obtain ⟨tt2, kt2, rfl, Nq8, K8, ge8_3, fq8_4⟩ := hQ8
  have N8 := Fr.app N5 Nq8
  have s8 : h5.size ≤ h8.size := K8.1
  have k9 : Rch p e below (s₁.setTop (entryFrame m #[(.long qa), (.long qb), (.long qc), (.int ip), (.int iq)] maxLocals)) T8 (mkF m 17 #[.val (.long qa), .second, .val (.long qb), .second, .val (.long qc), .second, .val (.int ip), .val (.int iq), .val (.ref tt0), .val (.ref tt1), .unset, .unset, .unset, .unset, .unset, .unset, .unset, .unset, .unset, .unset, .unset, .unset, .unset, .unset, .unset, .unset] [(.ref tt2)]) := fun tg kg => k7 tg (st8 tg kg)
  have lt_fq8_4 := own_ltN fq8_4.lt
  have k10 : Rch p e below (s₁.setTop (entryFrame m #[(.long qa), (.long qb), (.long qc), (.int ip), (.int iq)] maxLocals)) T8 (mkF m 25 #[.val (.long qa), .second, .val (.long qb), .second, .val (.long qc), .second, .val (.int ip), .val (.int iq), .val (.ref tt0), .val (.ref tt1), .val (.ref tt2), .val (.int (ip &&& (3 : Int32))), .unset, .unset, .unset, .unset, .unset, .unset, .unset, .unset, .unset, .unset, .unset, .unset, .unset, .unset] []) := fun tg kg => by
    refine k9 tg ?_
    show Steps p.tables e below (T8.setTop (mkF m 17 #[.val (.long qa), .second, .val (.long qb), .second, .val (.long qc), .second, .val (.int ip), .val (.int iq), .val (.ref tt0), .val (.ref tt1), .unset, .unset, .unset, .unset, .unset, .unset, .unset, .unset, .unset, .unset, .unset, .unset, .unset, .unset, .unset, .unset] [(.ref tt2)])) tg
    refine XS.astore X8.here hx rfl (hb hby at_17) rfl rfl (l' := #[.val (.long qa), .second, .val (.long qb), .second, .val (.long qc), .second, .val (.int ip), .val (.int iq), .val (.ref tt0), .val (.ref tt1), .val (.ref tt2), .unset, .unset, .unset, .unset, .unset, .unset, .unset, .unset, .unset, .unset, .unset, .unset, .unset, .unset, .unset]) rfl ?_
    refine XS.iload X8.here hx rfl (hb hby at_19) rfl ?_
    refine XS.iconst X8.here hx rfl (hb hby at_21) ?_
    refine XS.iand X8.here hx rfl (hb hby at_22) rfl ?_
    refine XS.istore X8.here hx rfl (hb hby at_23) rfl (l' := #[.val (.long qa), .second, .val (.long qb), .second, .val (.long qc), .second, .val (.int ip), .val (.int iq), .val (.ref tt0), .val (.ref tt1), .val (.ref tt2), .val (.int (ip &&& (3 : Int32))), .unset, .unset, .unset, .unset, .unset, .unset, .unset, .unset, .unset, .unset, .unset, .unset, .unset, .unset]) rfl ?_
    exact kg
  obtain ⟨fa, hfa, k11⟩ : ∃ fa : Int32, fa = (ip &&& (3 : Int32)) ∧ Rch p e below (s₁.setTop (entryFrame m #[(.long qa), (.long qb), (.long qc), (.int ip), (.int iq)] maxLocals)) T8 (mkF m 25 #[.val (.long qa), .second, .val (.long qb), .second, .val (.long qc), .second, .val (.int ip), .val (.int iq), .val (.ref tt0), .val (.ref tt1), .val (.ref tt2), .val (.int fa), .unset, .unset, .unset, .unset, .unset, .unset, .unset, .unset, .unset, .unset, .unset, .unset, .unset, .unset] []) := ⟨_, rfl, k10⟩
  have i3fa : own_in3 fa := by rw [hfa]; exact own_in3_and _
  obtain ⟨u3fa, v3fa, w3fa⟩ := own_in3_nat i3fa
  have j3fa := i3fa
  unfold own_in3 at j3fa
  have k12 : Rch p e below (s₁.setTop (entryFrame m #[(.long qa), (.long qb), (.long qc), (.int ip), (.int iq)] maxLocals)) T8 (mkF m 33 #[.val (.long qa), .second, .val (.long qb), .second, .val (.long qc), .second, .val (.int ip), .val (.int iq), .val (.ref tt0), .val (.ref tt1), .val (.ref tt2), .val (.int fa), .val (.int (((ip.toUInt32 >>> ((2 : Int32) &&& 31).toUInt32).toInt32) &&& (3 : Int32))), .unset, .unset, .unset, .unset, .unset, .unset, .unset, .unset, .unset, .unset, .unset, .unset, .unset] []) := fun tg kg => by
    refine k11 tg ?_
    show Steps p.tables e below (T8.setTop (mkF m 25 #[.val (.long qa), .second, .val (.long qb), .second, .val (.long qc), .second, .val (.int ip), .val (.int iq), .val (.ref tt0), .val (.ref tt1), .val (.ref tt2), .val (.int fa), .unset, .unset, .unset, .unset, .unset, .unset, .unset, .unset, .unset, .unset, .unset, .unset, .unset, .unset] [])) tg
    refine XS.iload X8.here hx rfl (hb hby at_25) rfl ?_
    show Steps p.tables e below (T8.setTop (mkF m 27 #[.val (.long qa), .second, .val (.long qb), .second, .val (.long qc), .second, .val (.int ip), .val (.int iq), .val (.ref tt0), .val (.ref tt1), .val (.ref tt2), .val (.int fa), .unset, .unset, .unset, .unset, .unset, .unset, .unset, .unset, .unset, .unset, .unset, .unset, .unset, .unset] [(.int ip)])) tg
    refine XS.iconst X8.here hx rfl (hb hby at_27) ?_
    refine XS.iushr X8.here hx rfl (hb hby at_28) rfl ?_
    refine XS.iconst X8.here hx rfl (hb hby at_29) ?_
    refine XS.iand X8.here hx rfl (hb hby at_30) rfl ?_
    refine XS.istore X8.here hx rfl (hb hby at_31) rfl (l' := #[.val (.long qa), .second, .val (.long qb), .second, .val (.long qc), .second, .val (.int ip), .val (.int iq), .val (.ref tt0), .val (.ref tt1), .val (.ref tt2), .val (.int fa), .val (.int (((ip.toUInt32 >>> ((2 : Int32) &&& 31).toUInt32).toInt32) &&& (3 : Int32))), .unset, .unset, .unset, .unset, .unset, .unset, .unset, .unset, .unset, .unset, .unset, .unset, .unset]) rfl ?_
    exact kg
  obtain ⟨la, hla, k13⟩ : ∃ la : Int32, la = (((ip.toUInt32 >>> ((2 : Int32) &&& 31).toUInt32).toInt32) &&& (3 : Int32)) ∧ Rch p e below (s₁.setTop (entryFrame m #[(.long qa), (.long qb), (.long qc), (.int ip), (.int iq)] maxLocals)) T8 (mkF m 33 #[.val (.long qa), .second, .val (.long qb), .second, .val (.long qc), .second, .val (.int ip), .val (.int iq), .val (.ref tt0), .val (.ref tt1), .val (.ref tt2), .val (.int fa), .val (.int la), .unset, .unset, .unset, .unset, .unset, .unset, .unset, .unset, .unset, .unset, .unset, .unset, .unset] []) := ⟨_, rfl, k12⟩
  have i3la : own_in3 la := by rw [hla]; exact own_in3_and _
  obtain ⟨u3la, v3la, w3la⟩ := own_in3_nat i3la
  have j3la := i3la
  unfold own_in3 at j3la
  have k14 : Rch p e below (s₁.setTop (entryFrame m #[(.long qa), (.long qb), (.long qc), (.int ip), (.int iq)] maxLocals)) T8 (mkF m 41 #[.val (.long qa), .second, .val (.long qb), .second, .val (.long qc), .second, .val (.int ip), .val (.int iq), .val (.ref tt0), .val (.ref tt1), .val (.ref tt2), .val (.int fa), .val (.int la), .val (.int (((ip.toUInt32 >>> ((4 : Int32) &&& 31).toUInt32).toInt32) &&& (3 : Int32))), .unset, .unset, .unset, .unset, .unset, .unset, .unset, .unset, .unset, .unset, .unset, .unset] []) := fun tg kg => by
    refine k13 tg ?_
    show Steps p.tables e below (T8.setTop (mkF m 33 #[.val (.long qa), .second, .val (.long qb), .second, .val (.long qc), .second, .val (.int ip), .val (.int iq), .val (.ref tt0), .val (.ref tt1), .val (.ref tt2), .val (.int fa), .val (.int la), .unset, .unset, .unset, .unset, .unset, .unset, .unset, .unset, .unset, .unset, .unset, .unset, .unset] [])) tg
    refine XS.iload X8.here hx rfl (hb hby at_33) rfl ?_
    show Steps p.tables e below (T8.setTop (mkF m 35 #[.val (.long qa), .second, .val (.long qb), .second, .val (.long qc), .second, .val (.int ip), .val (.int iq), .val (.ref tt0), .val (.ref tt1), .val (.ref tt2), .val (.int fa), .val (.int la), .unset, .unset, .unset, .unset, .unset, .unset, .unset, .unset, .unset, .unset, .unset, .unset, .unset] [(.int ip)])) tg
    refine XS.iconst X8.here hx rfl (hb hby at_35) ?_
    refine XS.iushr X8.here hx rfl (hb hby at_36) rfl ?_
    refine XS.iconst X8.here hx rfl (hb hby at_37) ?_
    refine XS.iand X8.here hx rfl (hb hby at_38) rfl ?_
    refine XS.istore X8.here hx rfl (hb hby at_39) rfl (l' := #[.val (.long qa), .second, .val (.long qb), .second, .val (.long qc), .second, .val (.int ip), .val (.int iq), .val (.ref tt0), .val (.ref tt1), .val (.ref tt2), .val (.int fa), .val (.int la), .val (.int (((ip.toUInt32 >>> ((4 : Int32) &&& 31).toUInt32).toInt32) &&& (3 : Int32))), .unset, .unset, .unset, .unset, .unset, .unset, .unset, .unset, .unset, .unset, .unset, .unset]) rfl ?_
    exact kg
  obtain ⟨fb, hfb, k15⟩ : ∃ fb : Int32, fb = (((ip.toUInt32 >>> ((4 : Int32) &&& 31).toUInt32).toInt32) &&& (3 : Int32)) ∧ Rch p e below (s₁.setTop (entryFrame m #[(.long qa), (.long qb), (.long qc), (.int ip), (.int iq)] maxLocals)) T8 (mkF m 41 #[.val (.long qa), .second, .val (.long qb), .second, .val (.long qc), .second, .val (.int ip), .val (.int iq), .val (.ref tt0), .val (.ref tt1), .val (.ref tt2), .val (.int fa), .val (.int la), .val (.int fb), .unset, .unset, .unset, .unset, .unset, .unset, .unset, .unset, .unset, .unset, .unset, .unset] []) := ⟨_, rfl, k14⟩
  have i3fb : own_in3 fb := by rw [hfb]; exact own_in3_and _
  obtain ⟨u3fb, v3fb, w3fb⟩ := own_in3_nat i3fb
  have j3fb := i3fb
  unfold own_in3 at j3fb
  have k16 : Rch p e below (s₁.setTop (entryFrame m #[(.long qa), (.long qb), (.long qc), (.int ip), (.int iq)] maxLocals)) T8 (mkF m 50 #[.val (.long qa), .second, .val (.long qb), .second, .val (.long qc), .second, .val (.int ip), .val (.int iq), .val (.ref tt0), .val (.ref tt1), .val (.ref tt2), .val (.int fa), .val (.int la), .val (.int fb), .val (.int (((ip.toUInt32 >>> ((6 : Int32) &&& 31).toUInt32).toInt32) &&& (3 : Int32))), .unset, .unset, .unset, .unset, .unset, .unset, .unset, .unset, .unset, .unset, .unset] []) := fun tg kg => by
    refine k15 tg ?_
    show Steps p.tables e below (T8.setTop (mkF m 41 #[.val (.long qa), .second, .val (.long qb), .second, .val (.long qc), .second, .val (.int ip), .val (.int iq), .val (.ref tt0), .val (.ref tt1), .val (.ref tt2), .val (.int fa), .val (.int la), .val (.int fb), .unset, .unset, .unset, .unset, .unset, .unset, .unset, .unset, .unset, .unset, .unset, .unset] [])) tg
    refine XS.iload X8.here hx rfl (hb hby at_41) rfl ?_
    show Steps p.tables e below (T8.setTop (mkF m 43 #[.val (.long qa), .second, .val (.long qb), .second, .val (.long qc), .second, .val (.int ip), .val (.int iq), .val (.ref tt0), .val (.ref tt1), .val (.ref tt2), .val (.int fa), .val (.int la), .val (.int fb), .unset, .unset, .unset, .unset, .unset, .unset, .unset, .unset, .unset, .unset, .unset, .unset] [(.int ip)])) tg
    refine XS.bipush X8.here hx rfl (hb hby at_43) ?_
    refine XS.iushr X8.here hx rfl (hb hby at_45) rfl ?_
    refine XS.iconst X8.here hx rfl (hb hby at_46) ?_
    refine XS.iand X8.here hx rfl (hb hby at_47) rfl ?_
    refine XS.istore X8.here hx rfl (hb hby at_48) rfl (l' := #[.val (.long qa), .second, .val (.long qb), .second, .val (.long qc), .second, .val (.int ip), .val (.int iq), .val (.ref tt0), .val (.ref tt1), .val (.ref tt2), .val (.int fa), .val (.int la), .val (.int fb), .val (.int (((ip.toUInt32 >>> ((6 : Int32) &&& 31).toUInt32).toInt32) &&& (3 : Int32))), .unset, .unset, .unset, .unset, .unset, .unset, .unset, .unset, .unset, .unset, .unset]) rfl ?_
    exact kg
  obtain ⟨lb, hlb, k17⟩ : ∃ lb : Int32, lb = (((ip.toUInt32 >>> ((6 : Int32) &&& 31).toUInt32).toInt32) &&& (3 : Int32)) ∧ Rch p e below (s₁.setTop (entryFrame m #[(.long qa), (.long qb), (.long qc), (.int ip), (.int iq)] maxLocals)) T8 (mkF m 50 #[.val (.long qa), .second, .val (.long qb), .second, .val (.long qc), .second, .val (.int ip), .val (.int iq), .val (.ref tt0), .val (.ref tt1), .val (.ref tt2), .val (.int fa), .val (.int la), .val (.int fb), .val (.int lb), .unset, .unset, .unset, .unset, .unset, .unset, .unset, .unset, .unset, .unset, .unset] []) := ⟨_, rfl, k16⟩
  have i3lb : own_in3 lb := by rw [hlb]; exact own_in3_and _
  obtain ⟨u3lb, v3lb, w3lb⟩ := own_in3_nat i3lb
  have j3lb := i3lb
  unfold own_in3 at j3lb
  have k18 : Rch p e below (s₁.setTop (entryFrame m #[(.long qa), (.long qb), (.long qc), (.int ip), (.int iq)] maxLocals)) T8 (mkF m 59 #[.val (.long qa), .second, .val (.long qb), .second, .val (.long qc), .second, .val (.int ip), .val (.int iq), .val (.ref tt0), .val (.ref tt1), .val (.ref tt2), .val (.int fa), .val (.int la), .val (.int fb), .val (.int lb), .val (.int (((ip.toUInt32 >>> ((8 : Int32) &&& 31).toUInt32).toInt32) &&& (3 : Int32))), .unset, .unset, .unset, .unset, .unset, .unset, .unset, .unset, .unset, .unset] []) := fun tg kg => by
    refine k17 tg ?_
    show Steps p.tables e below (T8.setTop (mkF m 50 #[.val (.long qa), .second, .val (.long qb), .second, .val (.long qc), .second, .val (.int ip), .val (.int iq), .val (.ref tt0), .val (.ref tt1), .val (.ref tt2), .val (.int fa), .val (.int la), .val (.int fb), .val (.int lb), .unset, .unset, .unset, .unset, .unset, .unset, .unset, .unset, .unset, .unset, .unset] [])) tg
    refine XS.iload X8.here hx rfl (hb hby at_50) rfl ?_
    show Steps p.tables e below (T8.setTop (mkF m 52 #[.val (.long qa), .second, .val (.long qb), .second, .val (.long qc), .second, .val (.int ip), .val (.int iq), .val (.ref tt0), .val (.ref tt1), .val (.ref tt2), .val (.int fa), .val (.int la), .val (.int fb), .val (.int lb), .unset, .unset, .unset, .unset, .unset, .unset, .unset, .unset, .unset, .unset, .unset] [(.int ip)])) tg
    refine XS.bipush X8.here hx rfl (hb hby at_52) ?_
    refine XS.iushr X8.here hx rfl (hb hby at_54) rfl ?_
    refine XS.iconst X8.here hx rfl (hb hby at_55) ?_
    refine XS.iand X8.here hx rfl (hb hby at_56) rfl ?_
    refine XS.istore X8.here hx rfl (hb hby at_57) rfl (l' := #[.val (.long qa), .second, .val (.long qb), .second, .val (.long qc), .second, .val (.int ip), .val (.int iq), .val (.ref tt0), .val (.ref tt1), .val (.ref tt2), .val (.int fa), .val (.int la), .val (.int fb), .val (.int lb), .val (.int (((ip.toUInt32 >>> ((8 : Int32) &&& 31).toUInt32).toInt32) &&& (3 : Int32))), .unset, .unset, .unset, .unset, .unset, .unset, .unset, .unset, .unset, .unset]) rfl ?_
    exact kg
  obtain ⟨fc, hfc, k19⟩ : ∃ fc : Int32, fc = (((ip.toUInt32 >>> ((8 : Int32) &&& 31).toUInt32).toInt32) &&& (3 : Int32)) ∧ Rch p e below (s₁.setTop (entryFrame m #[(.long qa), (.long qb), (.long qc), (.int ip), (.int iq)] maxLocals)) T8 (mkF m 59 #[.val (.long qa), .second, .val (.long qb), .second, .val (.long qc), .second, .val (.int ip), .val (.int iq), .val (.ref tt0), .val (.ref tt1), .val (.ref tt2), .val (.int fa), .val (.int la), .val (.int fb), .val (.int lb), .val (.int fc), .unset, .unset, .unset, .unset, .unset, .unset, .unset, .unset, .unset, .unset] []) := ⟨_, rfl, k18⟩
  have i3fc : own_in3 fc := by rw [hfc]; exact own_in3_and _
  obtain ⟨u3fc, v3fc, w3fc⟩ := own_in3_nat i3fc
  have j3fc := i3fc
  unfold own_in3 at j3fc
  have k20 : Rch p e below (s₁.setTop (entryFrame m #[(.long qa), (.long qb), (.long qc), (.int ip), (.int iq)] maxLocals)) T8 (mkF m 68 #[.val (.long qa), .second, .val (.long qb), .second, .val (.long qc), .second, .val (.int ip), .val (.int iq), .val (.ref tt0), .val (.ref tt1), .val (.ref tt2), .val (.int fa), .val (.int la), .val (.int fb), .val (.int lb), .val (.int fc), .val (.int (((ip.toUInt32 >>> ((10 : Int32) &&& 31).toUInt32).toInt32) &&& (3 : Int32))), .unset, .unset, .unset, .unset, .unset, .unset, .unset, .unset, .unset] []) := fun tg kg => by
    refine k19 tg ?_
    show Steps p.tables e below (T8.setTop (mkF m 59 #[.val (.long qa), .second, .val (.long qb), .second, .val (.long qc), .second, .val (.int ip), .val (.int iq), .val (.ref tt0), .val (.ref tt1), .val (.ref tt2), .val (.int fa), .val (.int la), .val (.int fb), .val (.int lb), .val (.int fc), .unset, .unset, .unset, .unset, .unset, .unset, .unset, .unset, .unset, .unset] [])) tg
    refine XS.iload X8.here hx rfl (hb hby at_59) rfl ?_
    show Steps p.tables e below (T8.setTop (mkF m 61 #[.val (.long qa), .second, .val (.long qb), .second, .val (.long qc), .second, .val (.int ip), .val (.int iq), .val (.ref tt0), .val (.ref tt1), .val (.ref tt2), .val (.int fa), .val (.int la), .val (.int fb), .val (.int lb), .val (.int fc), .unset, .unset, .unset, .unset, .unset, .unset, .unset, .unset, .unset, .unset] [(.int ip)])) tg
    refine XS.bipush X8.here hx rfl (hb hby at_61) ?_
    refine XS.iushr X8.here hx rfl (hb hby at_63) rfl ?_
    refine XS.iconst X8.here hx rfl (hb hby at_64) ?_
    refine XS.iand X8.here hx rfl (hb hby at_65) rfl ?_
    refine XS.istore X8.here hx rfl (hb hby at_66) rfl (l' := #[.val (.long qa), .second, .val (.long qb), .second, .val (.long qc), .second, .val (.int ip), .val (.int iq), .val (.ref tt0), .val (.ref tt1), .val (.ref tt2), .val (.int fa), .val (.int la), .val (.int fb), .val (.int lb), .val (.int fc), .val (.int (((ip.toUInt32 >>> ((10 : Int32) &&& 31).toUInt32).toInt32) &&& (3 : Int32))), .unset, .unset, .unset, .unset, .unset, .unset, .unset, .unset, .unset]) rfl ?_
    exact kg
  obtain ⟨lc, hlc, k21⟩ : ∃ lc : Int32, lc = (((ip.toUInt32 >>> ((10 : Int32) &&& 31).toUInt32).toInt32) &&& (3 : Int32)) ∧ Rch p e below (s₁.setTop (entryFrame m #[(.long qa), (.long qb), (.long qc), (.int ip), (.int iq)] maxLocals)) T8 (mkF m 68 #[.val (.long qa), .second, .val (.long qb), .second, .val (.long qc), .second, .val (.int ip), .val (.int iq), .val (.ref tt0), .val (.ref tt1), .val (.ref tt2), .val (.int fa), .val (.int la), .val (.int fb), .val (.int lb), .val (.int fc), .val (.int lc), .unset, .unset, .unset, .unset, .unset, .unset, .unset, .unset, .unset] []) := ⟨_, rfl, k20⟩
  have i3lc : own_in3 lc := by rw [hlc]; exact own_in3_and _
  obtain ⟨u3lc, v3lc, w3lc⟩ := own_in3_nat i3lc
  have j3lc := i3lc
  unfold own_in3 at j3lc
  have k22 : Rch p e below (s₁.setTop (entryFrame m #[(.long qa), (.long qb), (.long qc), (.int ip), (.int iq)] maxLocals)) T8 (mkF m 77 #[.val (.long qa), .second, .val (.long qb), .second, .val (.long qc), .second, .val (.int ip), .val (.int iq), .val (.ref tt0), .val (.ref tt1), .val (.ref tt2), .val (.int fa), .val (.int la), .val (.int fb), .val (.int lb), .val (.int fc), .val (.int lc), .val (.int ((iq &&& (2147483647 : Int32)) % (4 : Int32))), .unset, .unset, .unset, .unset, .unset, .unset, .unset, .unset] []) := fun tg kg => by
    refine k21 tg ?_
    show Steps p.tables e below (T8.setTop (mkF m 68 #[.val (.long qa), .second, .val (.long qb), .second, .val (.long qc), .second, .val (.int ip), .val (.int iq), .val (.ref tt0), .val (.ref tt1), .val (.ref tt2), .val (.int fa), .val (.int la), .val (.int fb), .val (.int lb), .val (.int fc), .val (.int lc), .unset, .unset, .unset, .unset, .unset, .unset, .unset, .unset, .unset] [])) tg
    refine XS.iload X8.here hx rfl (hb hby at_68) rfl ?_
    show Steps p.tables e below (T8.setTop (mkF m 70 #[.val (.long qa), .second, .val (.long qb), .second, .val (.long qc), .second, .val (.int ip), .val (.int iq), .val (.ref tt0), .val (.ref tt1), .val (.ref tt2), .val (.int fa), .val (.int la), .val (.int fb), .val (.int lb), .val (.int fc), .val (.int lc), .unset, .unset, .unset, .unset, .unset, .unset, .unset, .unset, .unset] [(.int iq)])) tg
    refine X8.ldcInt hx hown (mvT hZ (hw _ (List.mem_of_getElem? (i := 5) rfl))) (g := (mkF m 70 #[.val (.long qa), .second, .val (.long qb), .second, .val (.long qc), .second, .val (.int ip), .val (.int iq), .val (.ref tt0), .val (.ref tt1), .val (.ref tt2), .val (.int fa), .val (.int la), .val (.int fb), .val (.int lb), .val (.int fc), .val (.int lc), .unset, .unset, .unset, .unset, .unset, .unset, .unset, .unset, .unset] [(.int iq)])) rfl (hb hby at_70) _ ?_
    refine XS.iand X8.here hx rfl (hb hby at_72) rfl ?_
    refine XS.iconst X8.here hx rfl (hb hby at_73) ?_
    refine iremM X8 hx rfl (hb hby at_74) rfl (by decide) ?_
    refine XS.istore X8.here hx rfl (hb hby at_75) rfl (l' := #[.val (.long qa), .second, .val (.long qb), .second, .val (.long qc), .second, .val (.int ip), .val (.int iq), .val (.ref tt0), .val (.ref tt1), .val (.ref tt2), .val (.int fa), .val (.int la), .val (.int fb), .val (.int lb), .val (.int fc), .val (.int lc), .val (.int ((iq &&& (2147483647 : Int32)) % (4 : Int32))), .unset, .unset, .unset, .unset, .unset, .unset, .unset, .unset]) rfl ?_
    exact kg
  obtain ⟨r, hr, k23⟩ : ∃ r : Int32, r = ((iq &&& (2147483647 : Int32)) % (4 : Int32)) ∧ Rch p e below (s₁.setTop (entryFrame m #[(.long qa), (.long qb), (.long qc), (.int ip), (.int iq)] maxLocals)) T8 (mkF m 77 #[.val (.long qa), .second, .val (.long qb), .second, .val (.long qc), .second, .val (.int ip), .val (.int iq), .val (.ref tt0), .val (.ref tt1), .val (.ref tt2), .val (.int fa), .val (.int la), .val (.int fb), .val (.int lb), .val (.int fc), .val (.int lc), .val (.int r), .unset, .unset, .unset, .unset, .unset, .unset, .unset, .unset] []) := ⟨_, rfl, k22⟩
  have hr : 0 ≤ r.toInt ∧ r.toInt ≤ 3 := by
    rw [hr]
    have q := c_and iq 2147483647 (by decide)
    have z := (c_irem (iq &&& (2147483647 : Int32)) 4 4 (by decide)).1 (by omega)
    exact ⟨by omega, by omega⟩
  obtain ⟨T24, h24, X24, e24, E24, A24, D24, -, st24⟩ := newO X8 hx hZ hown (hw _ (List.mem_of_getElem? (i := 6) rfl)) (hw _ (List.mem_of_getElem? (i := 7) rfl)) (hw _ (List.mem_of_getElem? (i := 8) rfl)) e8 (g := (mkF m 77 #[.val (.long qa), .second, .val (.long qb), .second, .val (.long qc), .second, .val (.int ip), .val (.int iq), .val (.ref tt0), .val (.ref tt1), .val (.ref tt2), .val (.int fa), .val (.int la), .val (.int fb), .val (.int lb), .val (.int fc), .val (.int lc), .val (.int r), .unset, .unset, .unset, .unset, .unset, .unset, .unset, .unset] [])) rfl (hb hby at_77) (by decide) (by decide)
  obtain ⟨b24, g24⟩ : ∃ z, z = h8.size := ⟨_, rfl⟩
  rw [← g24] at A24 D24 st24
  have s24 : h8.size ≤ h24.size := E24.1
  have lt24 : b24 < h24.size := A24.lt
  have k25 : Rch p e below (s₁.setTop (entryFrame m #[(.long qa), (.long qb), (.long qc), (.int ip), (.int iq)] maxLocals)) T24 (mkF m 80 #[.val (.long qa), .second, .val (.long qb), .second, .val (.long qc), .second, .val (.int ip), .val (.int iq), .val (.ref tt0), .val (.ref tt1), .val (.ref tt2), .val (.int fa), .val (.int la), .val (.int fb), .val (.int lb), .val (.int fc), .val (.int lc), .val (.int r), .unset, .unset, .unset, .unset, .unset, .unset, .unset, .unset] [(.ref b24)]) := fun tg kg => k23 tg (st24 tg kg)
  have F24_last : Fld Z h24 b24 "dev/triadic/policy/TextLines" "last" "Ldev/triadic/policy/TextLines$Line;" .null := D24 (Or.inl (hw _ (List.mem_of_getElem? (i := 36) rfl))) (ty := (.object "dev/triadic/policy/TextLines$Line")) (by decide)
  have F24_first : Fld Z h24 b24 "dev/triadic/policy/TextLines" "first" "Ldev/triadic/policy/TextLines$Line;" .null := D24 (Or.inl (hw _ (List.mem_of_getElem? (i := 40) rfl))) (ty := (.object "dev/triadic/policy/TextLines$Line")) (by decide)
  have F24_length : Fld Z h24 b24 "dev/triadic/policy/TextLines" "length" "I" (.int (0 : Int32)) := D24 (Or.inl (hw _ (List.mem_of_getElem? (i := 42) rfl))) (ty := .int) (by decide)
  have k26 : Rch p e below (s₁.setTop (entryFrame m #[(.long qa), (.long qb), (.long qc), (.int ip), (.int iq)] maxLocals)) T24 (mkF m 81 #[.val (.long qa), .second, .val (.long qb), .second, .val (.long qc), .second, .val (.int ip), .val (.int iq), .val (.ref tt0), .val (.ref tt1), .val (.ref tt2), .val (.int fa), .val (.int la), .val (.int fb), .val (.int lb), .val (.int fc), .val (.int lc), .val (.int r), .unset, .unset, .unset, .unset, .unset, .unset, .unset, .unset] [(.ref b24), (.ref b24)]) := fun tg kg => by
    refine k25 tg ?_
    show Steps p.tables e below (T24.setTop (mkF m 80 #[.val (.long qa), .second, .val (.long qb), .second, .val (.long qc), .second, .val (.int ip), .val (.int iq), .val (.ref tt0), .val (.ref tt1), .val (.ref tt2), .val (.int fa), .val (.int la), .val (.int fb), .val (.int lb), .val (.int fc), .val (.int lc), .val (.int r), .unset, .unset, .unset, .unset, .unset, .unset, .unset, .unset] [(.ref b24)])) tg
    refine XS.dup X24.here hx rfl (hb hby at_80) rfl rfl ?_
    exact kg
  obtain ⟨v27, T27, h27, Lc27, X27, e27, hQ27, st27⟩ := own_callC X24 hx hZ rfl hown (hw _ (List.mem_of_getElem? (i := 9) rfl)) (hw _ (List.mem_of_getElem? (i := 10) rfl)) (hw _ (List.mem_of_getElem? (i := 8) rfl)) (hw _ (List.mem_of_getElem? (i := 11) rfl)) (by decide) (rm_tl l Z a0 hw [] b24 h24 n0 (by omega) ) e24 (a := b24) (g := (mkF m 81 #[.val (.long qa), .second, .val (.long qb), .second, .val (.long qc), .second, .val (.int ip), .val (.int iq), .val (.ref tt0), .val (.ref tt1), .val (.ref tt2), .val (.int fa), .val (.int la), .val (.int fb), .val (.int lb), .val (.int fc), .val (.int lc), .val (.int r), .unset, .unset, .unset, .unset, .unset, .unset, .unset, .unset] [(.ref b24), (.ref b24)])) rfl (by rw [hml]; rfl) (argsL := []) (rest := [(.ref b24)]) rfl (lenOf pd_3 rfl) rfl (W := 1) (by show 2 * 0 + _ ≤ _; exact Nat.le_of_eq rfl) (hb hby at_81) (by decide) (by decide) (by decide) (by decide)
  obtain ⟨rfl, Nq27, hs27⟩ := hQ27
  have N27 := Fr.app N8 Nq27
  have e27' : T27.heap = h24 := e27.trans hs27
  have k28 : Rch p e below (s₁.setTop (entryFrame m #[(.long qa), (.long qb), (.long qc), (.int ip), (.int iq)] maxLocals)) T27 (mkF m 84 #[.val (.long qa), .second, .val (.long qb), .second, .val (.long qc), .second, .val (.int ip), .val (.int iq), .val (.ref tt0), .val (.ref tt1), .val (.ref tt2), .val (.int fa), .val (.int la), .val (.int fb), .val (.int lb), .val (.int fc), .val (.int lc), .val (.int r), .unset, .unset, .unset, .unset, .unset, .unset, .unset, .unset] [(.ref b24)]) := fun tg kg => k26 tg (st27 tg kg)
  have k29 : Rch p e below (s₁.setTop (entryFrame m #[(.long qa), (.long qb), (.long qc), (.int ip), (.int iq)] maxLocals)) T27 (mkF m 99 #[.val (.long qa), .second, .val (.long qb), .second, .val (.long qc), .second, .val (.int ip), .val (.int iq), .val (.ref tt0), .val (.ref tt1), .val (.ref tt2), .val (.int fa), .val (.int la), .val (.int fb), .val (.int lb), .val (.int fc), .val (.int lc), .val (.int r), .val (.ref b24), .unset, .unset, .unset, .unset, .unset, .unset, .unset] [(.int (fa + la)), (.int fa), (.int fa), (.ref tt0), (.ref b24)]) := fun tg kg => by
    refine k28 tg ?_
    show Steps p.tables e below (T27.setTop (mkF m 84 #[.val (.long qa), .second, .val (.long qb), .second, .val (.long qc), .second, .val (.int ip), .val (.int iq), .val (.ref tt0), .val (.ref tt1), .val (.ref tt2), .val (.int fa), .val (.int la), .val (.int fb), .val (.int lb), .val (.int fc), .val (.int lc), .val (.int r), .unset, .unset, .unset, .unset, .unset, .unset, .unset, .unset] [(.ref b24)])) tg
    refine XS.astore X27.here hx rfl (hb hby at_84) rfl rfl (l' := #[.val (.long qa), .second, .val (.long qb), .second, .val (.long qc), .second, .val (.int ip), .val (.int iq), .val (.ref tt0), .val (.ref tt1), .val (.ref tt2), .val (.int fa), .val (.int la), .val (.int fb), .val (.int lb), .val (.int fc), .val (.int lc), .val (.int r), .val (.ref b24), .unset, .unset, .unset, .unset, .unset, .unset, .unset]) rfl ?_
    refine XS.aload X27.here hx rfl (hb hby at_86) rfl rfl ?_
    refine XS.aload X27.here hx rfl (hb hby at_88) rfl rfl ?_
    refine XS.iload X27.here hx rfl (hb hby at_90) rfl ?_
    refine XS.iload X27.here hx rfl (hb hby at_92) rfl ?_
    refine XS.iload X27.here hx rfl (hb hby at_94) rfl ?_
    show Steps p.tables e below (T27.setTop (mkF m 96 #[.val (.long qa), .second, .val (.long qb), .second, .val (.long qc), .second, .val (.int ip), .val (.int iq), .val (.ref tt0), .val (.ref tt1), .val (.ref tt2), .val (.int fa), .val (.int la), .val (.int fb), .val (.int lb), .val (.int fc), .val (.int lc), .val (.int r), .val (.ref b24), .unset, .unset, .unset, .unset, .unset, .unset, .unset] [(.int fa), (.int fa), (.int fa), (.ref tt0), (.ref b24)])) tg
    refine XS.iload X27.here hx rfl (hb hby at_96) rfl ?_
    refine XS.iadd X27.here hx rfl (hb hby at_98) rfl ?_
    exact kg
  obtain ⟨v30, T30, h30, Lc30, X30, e30, hQ30, st30⟩ := own_callV X27 hx hZ hown (hw _ (List.mem_of_getElem? (i := 15) rfl)) (hw _ (List.mem_of_getElem? (i := 16) rfl)) (notFace_of_selects (args := #[]) (mvT hZ (hw _ (List.mem_of_getElem? (i := 18) rfl)))) (hw _ (List.mem_of_getElem? (i := 18) rfl)) (hw _ (List.mem_of_getElem? (i := 17) rfl)) (hw _ (List.mem_of_getElem? (i := 19) rfl)) (hw _ (List.mem_of_getElem? (i := 8) rfl)) (by decide) (rm_add1 l Z a0 hw [] b24 tt0 fa fa (fa + la) (0 : Int32) la h24 n0 (by omega) A24 F24_first F24_last F24_length (own_asc _ _) (by omega)) e27' A24 (g := (mkF m 99 #[.val (.long qa), .second, .val (.long qb), .second, .val (.long qc), .second, .val (.int ip), .val (.int iq), .val (.ref tt0), .val (.ref tt1), .val (.ref tt2), .val (.int fa), .val (.int la), .val (.int fb), .val (.int lb), .val (.int fc), .val (.int lc), .val (.int r), .val (.ref b24), .unset, .unset, .unset, .unset, .unset, .unset, .unset] [(.int (fa + la)), (.int fa), (.int fa), (.ref tt0), (.ref b24)])) rfl (by rw [hml]; rfl) (argsL := [(.ref tt0), (.int fa), (.int fa), (.int (fa + la))]) (rest := []) rfl (lenOf pd_4 rfl) rfl (W := 0) (by show 2 * 0 + _ ≤ _; exact Nat.le_of_eq rfl) (hb hby at_99) (by decide) (by decide) (by decide) (by decide)
  obtain ⟨bb0, rfl, Nq30, K30, ge30_3, fq30_4, fq30_5, fq30_6, fq30_7, fq30_8, fq30_9, fq30_10, fq30_11, fq30_12, fq30_13⟩ := hQ30
  have N30 := Fr.app N27 Nq30
  have s30 : h24.size ≤ h30.size := K30.1
  have k31 : Rch p e below (s₁.setTop (entryFrame m #[(.long qa), (.long qb), (.long qc), (.int ip), (.int iq)] maxLocals)) T30 (mkF m 102 #[.val (.long qa), .second, .val (.long qb), .second, .val (.long qc), .second, .val (.int ip), .val (.int iq), .val (.ref tt0), .val (.ref tt1), .val (.ref tt2), .val (.int fa), .val (.int la), .val (.int fb), .val (.int lb), .val (.int fc), .val (.int lc), .val (.int r), .val (.ref b24), .unset, .unset, .unset, .unset, .unset, .unset, .unset] [(.ref bb0)]) := fun tg kg => k29 tg (st30 tg kg)
  have lt_fq30_4 := own_ltN fq30_4.lt
  have lt_fq30_5 := own_ltN fq30_5.lt
  have lt_fq30_6 := own_ltN fq30_6.lt
  have lt_fq30_7 := own_ltN fq30_7.lt
  have lt_fq30_8 := own_ltN fq30_8.lt
  have lt_fq30_9 := own_ltN fq30_9.lt
  have lt_fq30_10 := own_ltN fq30_10.lt
  have lt_fq30_11 := own_ltN fq30_11.lt
  have lt_fq30_12 := own_ltN fq30_12.lt
  have lt_fq30_13 := own_ltN fq30_13.lt
  have k32 : Rch p e below (s₁.setTop (entryFrame m #[(.long qa), (.long qb), (.long qc), (.int ip), (.int iq)] maxLocals)) T30 (mkF m 117 #[.val (.long qa), .second, .val (.long qb), .second, .val (.long qc), .second, .val (.int ip), .val (.int iq), .val (.ref tt0), .val (.ref tt1), .val (.ref tt2), .val (.int fa), .val (.int la), .val (.int fb), .val (.int lb), .val (.int fc), .val (.int lc), .val (.int r), .val (.ref b24), .val (.ref bb0), .unset, .unset, .unset, .unset, .unset, .unset] [(.int (fb + lb)), (.int fb), (.int fb), (.ref tt1), (.ref b24)]) := fun tg kg => by
    refine k31 tg ?_
    show Steps p.tables e below (T30.setTop (mkF m 102 #[.val (.long qa), .second, .val (.long qb), .second, .val (.long qc), .second, .val (.int ip), .val (.int iq), .val (.ref tt0), .val (.ref tt1), .val (.ref tt2), .val (.int fa), .val (.int la), .val (.int fb), .val (.int lb), .val (.int fc), .val (.int lc), .val (.int r), .val (.ref b24), .unset, .unset, .unset, .unset, .unset, .unset, .unset] [(.ref bb0)])) tg
    refine XS.astore X30.here hx rfl (hb hby at_102) rfl rfl (l' := #[.val (.long qa), .second, .val (.long qb), .second, .val (.long qc), .second, .val (.int ip), .val (.int iq), .val (.ref tt0), .val (.ref tt1), .val (.ref tt2), .val (.int fa), .val (.int la), .val (.int fb), .val (.int lb), .val (.int fc), .val (.int lc), .val (.int r), .val (.ref b24), .val (.ref bb0), .unset, .unset, .unset, .unset, .unset, .unset]) rfl ?_
    refine XS.aload X30.here hx rfl (hb hby at_104) rfl rfl ?_
    refine XS.aload X30.here hx rfl (hb hby at_106) rfl rfl ?_
    refine XS.iload X30.here hx rfl (hb hby at_108) rfl ?_
    show Steps p.tables e below (T30.setTop (mkF m 110 #[.val (.long qa), .second, .val (.long qb), .second, .val (.long qc), .second, .val (.int ip), .val (.int iq), .val (.ref tt0), .val (.ref tt1), .val (.ref tt2), .val (.int fa), .val (.int la), .val (.int fb), .val (.int lb), .val (.int fc), .val (.int lc), .val (.int r), .val (.ref b24), .val (.ref bb0), .unset, .unset, .unset, .unset, .unset, .unset] [(.int fb), (.ref tt1), (.ref b24)])) tg
    refine XS.iload X30.here hx rfl (hb hby at_110) rfl ?_
    refine XS.iload X30.here hx rfl (hb hby at_112) rfl ?_
    refine XS.iload X30.here hx rfl (hb hby at_114) rfl ?_
    refine XS.iadd X30.here hx rfl (hb hby at_116) rfl ?_
    exact kg
  obtain ⟨v33, T33, h33, Lc33, X33, e33, hQ33, st33⟩ := own_callV X30 hx hZ hown (hw _ (List.mem_of_getElem? (i := 15) rfl)) (hw _ (List.mem_of_getElem? (i := 16) rfl)) (notFace_of_selects (args := #[]) (mvT hZ (hw _ (List.mem_of_getElem? (i := 18) rfl)))) (hw _ (List.mem_of_getElem? (i := 18) rfl)) (hw _ (List.mem_of_getElem? (i := 17) rfl)) (hw _ (List.mem_of_getElem? (i := 19) rfl)) (hw _ (List.mem_of_getElem? (i := 8) rfl)) (by decide) (rm_add2 l Z a0 hw [] b24 tt1 fb fb (fb + lb) ((0 : Int32) + la) lb bb0 bb0 tt0 fa (fa + la) .null h30 n0 (by omega) fq30_4 fq30_5 fq30_6 fq30_7 fq30_8 fq30_9 fq30_10 fq30_11 fq30_12 fq30_13 (own_asc _ _) (by omega) (by omega) (own_ne (by omega))) e30 fq30_4 (g := (mkF m 117 #[.val (.long qa), .second, .val (.long qb), .second, .val (.long qc), .second, .val (.int ip), .val (.int iq), .val (.ref tt0), .val (.ref tt1), .val (.ref tt2), .val (.int fa), .val (.int la), .val (.int fb), .val (.int lb), .val (.int fc), .val (.int lc), .val (.int r), .val (.ref b24), .val (.ref bb0), .unset, .unset, .unset, .unset, .unset, .unset] [(.int (fb + lb)), (.int fb), (.int fb), (.ref tt1), (.ref b24)])) rfl (by rw [hml]; rfl) (argsL := [(.ref tt1), (.int fb), (.int fb), (.int (fb + lb))]) (rest := []) rfl (lenOf pd_4 rfl) rfl (W := 0) (by show 2 * 0 + _ ≤ _; exact Nat.le_of_eq rfl) (hb hby at_117) (by decide) (by decide) (by decide) (by decide)
  obtain ⟨bb1, rfl, Nq33, K33, ge33_3, fq33_4, fq33_5, fq33_6, fq33_7, fq33_8, fq33_9, fq33_10, fq33_11, fq33_12, fq33_13, fq33_14, fq33_15, fq33_16, fq33_17, fq33_18, fq33_19⟩ := hQ33
  have N33 := Fr.app N30 Nq33
  have s33 : h30.size ≤ h33.size := K33.1
  have k34 : Rch p e below (s₁.setTop (entryFrame m #[(.long qa), (.long qb), (.long qc), (.int ip), (.int iq)] maxLocals)) T33 (mkF m 120 #[.val (.long qa), .second, .val (.long qb), .second, .val (.long qc), .second, .val (.int ip), .val (.int iq), .val (.ref tt0), .val (.ref tt1), .val (.ref tt2), .val (.int fa), .val (.int la), .val (.int fb), .val (.int lb), .val (.int fc), .val (.int lc), .val (.int r), .val (.ref b24), .val (.ref bb0), .unset, .unset, .unset, .unset, .unset, .unset] [(.ref bb1)]) := fun tg kg => k32 tg (st33 tg kg)
  have lt_fq33_4 := own_ltN fq33_4.lt
  have lt_fq33_5 := own_ltN fq33_5.lt
  have lt_fq33_6 := own_ltN fq33_6.lt
  have lt_fq33_7 := own_ltN fq33_7.lt
  have lt_fq33_8 := own_ltN fq33_8.lt
  have lt_fq33_9 := own_ltN fq33_9.lt
  have lt_fq33_10 := own_ltN fq33_10.lt
  have lt_fq33_11 := own_ltN fq33_11.lt
  have lt_fq33_12 := own_ltN fq33_12.lt
  have lt_fq33_13 := own_ltN fq33_13.lt
  have lt_fq33_14 := own_ltN fq33_14.lt
  have lt_fq33_15 := own_ltN fq33_15.lt
  have lt_fq33_16 := own_ltN fq33_16.lt
  have lt_fq33_17 := own_ltN fq33_17.lt
  have lt_fq33_18 := own_ltN fq33_18.lt
  have lt_fq33_19 := own_ltN fq33_19.lt
  have k35 : Rch p e below (s₁.setTop (entryFrame m #[(.long qa), (.long qb), (.long qc), (.int ip), (.int iq)] maxLocals)) T33 (mkF m 135 #[.val (.long qa), .second, .val (.long qb), .second, .val (.long qc), .second, .val (.int ip), .val (.int iq), .val (.ref tt0), .val (.ref tt1), .val (.ref tt2), .val (.int fa), .val (.int la), .val (.int fb), .val (.int lb), .val (.int fc), .val (.int lc), .val (.int r), .val (.ref b24), .val (.ref bb0), .val (.ref bb1), .unset, .unset, .unset, .unset, .unset] [(.int (fc + lc)), (.int fc), (.int fc), (.ref tt2), (.ref b24)]) := fun tg kg => by
    refine k34 tg ?_
    show Steps p.tables e below (T33.setTop (mkF m 120 #[.val (.long qa), .second, .val (.long qb), .second, .val (.long qc), .second, .val (.int ip), .val (.int iq), .val (.ref tt0), .val (.ref tt1), .val (.ref tt2), .val (.int fa), .val (.int la), .val (.int fb), .val (.int lb), .val (.int fc), .val (.int lc), .val (.int r), .val (.ref b24), .val (.ref bb0), .unset, .unset, .unset, .unset, .unset, .unset] [(.ref bb1)])) tg
    refine XS.astore X33.here hx rfl (hb hby at_120) rfl rfl (l' := #[.val (.long qa), .second, .val (.long qb), .second, .val (.long qc), .second, .val (.int ip), .val (.int iq), .val (.ref tt0), .val (.ref tt1), .val (.ref tt2), .val (.int fa), .val (.int la), .val (.int fb), .val (.int lb), .val (.int fc), .val (.int lc), .val (.int r), .val (.ref b24), .val (.ref bb0), .val (.ref bb1), .unset, .unset, .unset, .unset, .unset]) rfl ?_
    refine XS.aload X33.here hx rfl (hb hby at_122) rfl rfl ?_
    show Steps p.tables e below (T33.setTop (mkF m 124 #[.val (.long qa), .second, .val (.long qb), .second, .val (.long qc), .second, .val (.int ip), .val (.int iq), .val (.ref tt0), .val (.ref tt1), .val (.ref tt2), .val (.int fa), .val (.int la), .val (.int fb), .val (.int lb), .val (.int fc), .val (.int lc), .val (.int r), .val (.ref b24), .val (.ref bb0), .val (.ref bb1), .unset, .unset, .unset, .unset, .unset] [(.ref b24)])) tg
    refine XS.aload X33.here hx rfl (hb hby at_124) rfl rfl ?_
    refine XS.iload X33.here hx rfl (hb hby at_126) rfl ?_
    refine XS.iload X33.here hx rfl (hb hby at_128) rfl ?_
    refine XS.iload X33.here hx rfl (hb hby at_130) rfl ?_
    refine XS.iload X33.here hx rfl (hb hby at_132) rfl ?_
    refine XS.iadd X33.here hx rfl (hb hby at_134) rfl ?_
    exact kg
  obtain ⟨v36, T36, h36, Lc36, X36, e36, hQ36, st36⟩ := own_callV X33 hx hZ hown (hw _ (List.mem_of_getElem? (i := 15) rfl)) (hw _ (List.mem_of_getElem? (i := 16) rfl)) (notFace_of_selects (args := #[]) (mvT hZ (hw _ (List.mem_of_getElem? (i := 18) rfl)))) (hw _ (List.mem_of_getElem? (i := 18) rfl)) (hw _ (List.mem_of_getElem? (i := 17) rfl)) (hw _ (List.mem_of_getElem? (i := 19) rfl)) (hw _ (List.mem_of_getElem? (i := 8) rfl)) (by decide) (rm_add2 l Z a0 hw [] b24 tt2 fc fc (fc + lc) (((0 : Int32) + la) + lb) lc bb0 bb1 tt1 fb (fb + lb) (.ref bb0) h33 n0 (by omega) fq33_4 fq33_5 fq33_6 fq33_7 fq33_8 fq33_9 fq33_10 fq33_11 fq33_12 fq33_13 (own_asc _ _) (by omega) (by omega) (own_ne (by omega))) e33 fq33_4 (g := (mkF m 135 #[.val (.long qa), .second, .val (.long qb), .second, .val (.long qc), .second, .val (.int ip), .val (.int iq), .val (.ref tt0), .val (.ref tt1), .val (.ref tt2), .val (.int fa), .val (.int la), .val (.int fb), .val (.int lb), .val (.int fc), .val (.int lc), .val (.int r), .val (.ref b24), .val (.ref bb0), .val (.ref bb1), .unset, .unset, .unset, .unset, .unset] [(.int (fc + lc)), (.int fc), (.int fc), (.ref tt2), (.ref b24)])) rfl (by rw [hml]; rfl) (argsL := [(.ref tt2), (.int fc), (.int fc), (.int (fc + lc))]) (rest := []) rfl (lenOf pd_4 rfl) rfl (W := 0) (by show 2 * 0 + _ ≤ _; exact Nat.le_of_eq rfl) (hb hby at_135) (by decide) (by decide) (by decide) (by decide)
  obtain ⟨bb2, rfl, Nq36, K36, ge36_3, fq36_4, fq36_5, fq36_6, fq36_7, fq36_8, fq36_9, fq36_10, fq36_11, fq36_12, fq36_13, fq36_14, fq36_15, fq36_16, fq36_17, fq36_18, fq36_19⟩ := hQ36
  have N36 := Fr.app N33 Nq36
  have s36 : h33.size ≤ h36.size := K36.1
  have k37 : Rch p e below (s₁.setTop (entryFrame m #[(.long qa), (.long qb), (.long qc), (.int ip), (.int iq)] maxLocals)) T36 (mkF m 138 #[.val (.long qa), .second, .val (.long qb), .second, .val (.long qc), .second, .val (.int ip), .val (.int iq), .val (.ref tt0), .val (.ref tt1), .val (.ref tt2), .val (.int fa), .val (.int la), .val (.int fb), .val (.int lb), .val (.int fc), .val (.int lc), .val (.int r), .val (.ref b24), .val (.ref bb0), .val (.ref bb1), .unset, .unset, .unset, .unset, .unset] [(.ref bb2)]) := fun tg kg => k35 tg (st36 tg kg)
  have lt_fq36_4 := own_ltN fq36_4.lt
  have lt_fq36_5 := own_ltN fq36_5.lt
  have lt_fq36_6 := own_ltN fq36_6.lt
  have lt_fq36_7 := own_ltN fq36_7.lt
  have lt_fq36_8 := own_ltN fq36_8.lt
  have lt_fq36_9 := own_ltN fq36_9.lt
  have lt_fq36_10 := own_ltN fq36_10.lt
  have lt_fq36_11 := own_ltN fq36_11.lt
  have lt_fq36_12 := own_ltN fq36_12.lt
  have lt_fq36_13 := own_ltN fq36_13.lt
  have lt_fq36_14 := own_ltN fq36_14.lt
  have lt_fq36_15 := own_ltN fq36_15.lt
  have lt_fq36_16 := own_ltN fq36_16.lt
  have lt_fq36_17 := own_ltN fq36_17.lt
  have lt_fq36_18 := own_ltN fq36_18.lt
  have lt_fq36_19 := own_ltN fq36_19.lt
  have z1 : ((0 : Int32) + la).toInt = la.toInt := by have z := own_add (x := (0 : Int32)) (y := la) (by decide) (by decide) (by omega) (by omega); rw [own_z] at z; omega
  have z2 := own_add (x := ((0 : Int32) + la)) (y := lb) (by omega) (by omega) (by omega) (by omega)
  have z3 := own_add (x := (((0 : Int32) + la) + lb)) (y := lc) (by omega) (by omega) (by omega) (by omega)
  have k38 : Rch p e below (s₁.setTop (entryFrame m #[(.long qa), (.long qb), (.long qc), (.int ip), (.int iq)] maxLocals)) T36 (mkF m 142 #[.val (.long qa), .second, .val (.long qb), .second, .val (.long qc), .second, .val (.int ip), .val (.int iq), .val (.ref tt0), .val (.ref tt1), .val (.ref tt2), .val (.int fa), .val (.int la), .val (.int fb), .val (.int lb), .val (.int fc), .val (.int lc), .val (.int r), .val (.ref b24), .val (.ref bb0), .val (.ref bb1), .val (.ref bb2), .unset, .unset, .unset, .unset] [(.int r)]) := fun tg kg => by
    refine k37 tg ?_
    show Steps p.tables e below (T36.setTop (mkF m 138 #[.val (.long qa), .second, .val (.long qb), .second, .val (.long qc), .second, .val (.int ip), .val (.int iq), .val (.ref tt0), .val (.ref tt1), .val (.ref tt2), .val (.int fa), .val (.int la), .val (.int fb), .val (.int lb), .val (.int fc), .val (.int lc), .val (.int r), .val (.ref b24), .val (.ref bb0), .val (.ref bb1), .unset, .unset, .unset, .unset, .unset] [(.ref bb2)])) tg
    refine XS.astore X36.here hx rfl (hb hby at_138) rfl rfl (l' := #[.val (.long qa), .second, .val (.long qb), .second, .val (.long qc), .second, .val (.int ip), .val (.int iq), .val (.ref tt0), .val (.ref tt1), .val (.ref tt2), .val (.int fa), .val (.int la), .val (.int fb), .val (.int lb), .val (.int fc), .val (.int lc), .val (.int r), .val (.ref b24), .val (.ref bb0), .val (.ref bb1), .val (.ref bb2), .unset, .unset, .unset, .unset]) rfl ?_
    refine XS.iload X36.here hx rfl (hb hby at_140) rfl ?_
    exact kg
  by_cases hc142_39 : r = (0 : Int32)
  · have k40 : Rch p e below (s₁.setTop (entryFrame m #[(.long qa), (.long qb), (.long qc), (.int ip), (.int iq)] maxLocals)) T36 (mkF m 149 #[.val (.long qa), .second, .val (.long qb), .second, .val (.long qc), .second, .val (.int ip), .val (.int iq), .val (.ref tt0), .val (.ref tt1), .val (.ref tt2), .val (.int fa), .val (.int la), .val (.int fb), .val (.int lb), .val (.int fc), .val (.int lc), .val (.int r), .val (.ref b24), .val (.ref bb0), .val (.ref bb1), .val (.ref bb2), .unset, .unset, .unset, .unset] [(.ref bb0), (.ref b24)]) := fun tg kg => by
      refine k38 tg ?_
      show Steps p.tables e below (T36.setTop (mkF m 142 #[.val (.long qa), .second, .val (.long qb), .second, .val (.long qc), .second, .val (.int ip), .val (.int iq), .val (.ref tt0), .val (.ref tt1), .val (.ref tt2), .val (.int fa), .val (.int la), .val (.int fb), .val (.int lb), .val (.int fc), .val (.int lc), .val (.int r), .val (.ref b24), .val (.ref bb0), .val (.ref bb1), .val (.ref bb2), .unset, .unset, .unset, .unset] [(.int r)])) tg
      refine XS.ifNo X36.here hx rfl (hb hby at_142) rfl ((if0 _ _).trans (teq hc142_39).2) ?_
      refine XS.aload X36.here hx rfl (hb hby at_145) rfl rfl ?_
      refine XS.aload X36.here hx rfl (hb hby at_147) rfl rfl ?_
      exact kg
    have f42 : Exa Z h36 bb0 "dev/triadic/policy/TextLines$Line" := (fq33_14.keep K36)
    have f43 : Fld Z h36 bb0 "dev/triadic/policy/TextLines$Line" "bytes" "[B" (.ref tt0) := (fq33_15.keep K36 (ninS (by first | exact own_ne (by omega) | assumption | (apply Ne.symm; assumption)) (ninS (by first | exact own_ne (by omega) | assumption | (apply Ne.symm; assumption)) nin0)))
    have f44 : Fld Z h36 bb0 "dev/triadic/policy/TextLines$Line" "from" "I" (.int fa) := (fq33_16.keep K36 (ninS (by first | exact own_ne (by omega) | assumption | (apply Ne.symm; assumption)) (ninS (by first | exact own_ne (by omega) | assumption | (apply Ne.symm; assumption)) nin0)))
    have f45 : Fld Z h36 bb0 "dev/triadic/policy/TextLines$Line" "to" "I" (.int (fa + la)) := (fq33_17.keep K36 (ninS (by first | exact own_ne (by omega) | assumption | (apply Ne.symm; assumption)) (ninS (by first | exact own_ne (by omega) | assumption | (apply Ne.symm; assumption)) nin0)))
    have f46 : Fld Z h36 bb0 "dev/triadic/policy/TextLines$Line" "before" "Ldev/triadic/policy/TextLines$Line;" .null := (fq33_18.keep K36 (ninS (by first | exact own_ne (by omega) | assumption | (apply Ne.symm; assumption)) (ninS (by first | exact own_ne (by omega) | assumption | (apply Ne.symm; assumption)) nin0)))
    have f47 : Fld Z h36 bb0 "dev/triadic/policy/TextLines$Line" "after" "Ldev/triadic/policy/TextLines$Line;" (.ref bb1) := (fq33_19.keep K36 (ninS (by first | exact own_ne (by omega) | assumption | (apply Ne.symm; assumption)) (ninS (by first | exact own_ne (by omega) | assumption | (apply Ne.symm; assumption)) nin0)))
    obtain ⟨v41, T41, h41, Lc41, X41, e41, hQ41, st41⟩ := own_callV X36 hx hZ hown (hw _ (List.mem_of_getElem? (i := 63) rfl)) (hw _ (List.mem_of_getElem? (i := 64) rfl)) (notFace_of_selects (args := #[]) (mvT hZ (hw _ (List.mem_of_getElem? (i := 66) rfl)))) (hw _ (List.mem_of_getElem? (i := 66) rfl)) (hw _ (List.mem_of_getElem? (i := 65) rfl)) (hw _ (List.mem_of_getElem? (i := 67) rfl)) (hw _ (List.mem_of_getElem? (i := 8) rfl)) (by decide) (rm_rem0 l Z a0 hw [] b24 bb0 tt0 fa (fa + la) la ((((0 : Int32) + la) + lb) + lc) (.ref bb0) (.ref bb2) bb1 tt1 fb (fb + lb) (.ref bb2) h36 n0 (by omega) fq36_4 fq36_5 fq36_6 fq36_7 f42 f43 f44 f45 f46 f47 (own_asc _ _) (by omega) (own_ne (by omega)) fq36_14 fq36_15 fq36_16 fq36_17 fq36_18 fq36_19 (by omega) (own_ne (by omega)) (own_ne (by omega))) e36 fq36_4 (g := (mkF m 149 #[.val (.long qa), .second, .val (.long qb), .second, .val (.long qc), .second, .val (.int ip), .val (.int iq), .val (.ref tt0), .val (.ref tt1), .val (.ref tt2), .val (.int fa), .val (.int la), .val (.int fb), .val (.int lb), .val (.int fc), .val (.int lc), .val (.int r), .val (.ref b24), .val (.ref bb0), .val (.ref bb1), .val (.ref bb2), .unset, .unset, .unset, .unset] [(.ref bb0), (.ref b24)])) rfl (by rw [hml]; rfl) (argsL := [(.ref bb0)]) (rest := []) rfl (lenOf pd_5 rfl) rfl (W := 0) (by show 2 * 0 + _ ≤ _; exact Nat.le_of_eq rfl) (hb hby at_149) (by decide) (by decide) (by decide) (by decide)
    obtain ⟨rfl, Nq41, K41, fq41_3, fq41_4, fq41_5, fq41_6, fq41_7, fq41_8, fq41_9, fq41_10, fq41_11, fq41_12⟩ := hQ41
    have N41 := Fr.app N36 Nq41
    have s41 : h36.size ≤ h41.size := K41.1
    have k48 : Rch p e below (s₁.setTop (entryFrame m #[(.long qa), (.long qb), (.long qc), (.int ip), (.int iq)] maxLocals)) T41 (mkF m 152 #[.val (.long qa), .second, .val (.long qb), .second, .val (.long qc), .second, .val (.int ip), .val (.int iq), .val (.ref tt0), .val (.ref tt1), .val (.ref tt2), .val (.int fa), .val (.int la), .val (.int fb), .val (.int lb), .val (.int fc), .val (.int lc), .val (.int r), .val (.ref b24), .val (.ref bb0), .val (.ref bb1), .val (.ref bb2), .unset, .unset, .unset, .unset] []) := fun tg kg => k40 tg (st41 tg kg)
    have lt_fq41_3 := own_ltN fq41_3.lt
    have lt_fq41_4 := own_ltN fq41_4.lt
    have lt_fq41_5 := own_ltN fq41_5.lt
    have lt_fq41_6 := own_ltN fq41_6.lt
    have lt_fq41_7 := own_ltN fq41_7.lt
    have lt_fq41_8 := own_ltN fq41_8.lt
    have lt_fq41_9 := own_ltN fq41_9.lt
    have lt_fq41_10 := own_ltN fq41_10.lt
    have lt_fq41_11 := own_ltN fq41_11.lt
    have lt_fq41_12 := own_ltN fq41_12.lt
    have hNI : ((((((0 : Int32) + la) + lb) + lc) - la)).toInt = lb.toInt + lc.toInt := by have z := own_sub (x := ((((0 : Int32) + la) + lb) + lc)) (y := la) (by omega) (by omega) (by omega) (by omega); omega
    have k49 : Rch p e below (s₁.setTop (entryFrame m #[(.long qa), (.long qb), (.long qc), (.int ip), (.int iq)] maxLocals)) T41 (mkF m 227 #[.val (.long qa), .second, .val (.long qb), .second, .val (.long qc), .second, .val (.int ip), .val (.int iq), .val (.ref tt0), .val (.ref tt1), .val (.ref tt2), .val (.int fa), .val (.int la), .val (.int fb), .val (.int lb), .val (.int fc), .val (.int lc), .val (.int r), .val (.ref b24), .val (.ref bb0), .val (.ref bb1), .val (.ref bb2), .val (.int (0 : Int32)), .val (.int lb), .val (.int lc), .unset] [(.ref b24)]) := fun tg kg => by
      refine k48 tg ?_
      show Steps p.tables e below (T41.setTop (mkF m 152 #[.val (.long qa), .second, .val (.long qb), .second, .val (.long qc), .second, .val (.int ip), .val (.int iq), .val (.ref tt0), .val (.ref tt1), .val (.ref tt2), .val (.int fa), .val (.int la), .val (.int fb), .val (.int lb), .val (.int fc), .val (.int lc), .val (.int r), .val (.ref b24), .val (.ref bb0), .val (.ref bb1), .val (.ref bb2), .unset, .unset, .unset, .unset] [])) tg
      refine XS.goto X41.here hx rfl (pc0 := 152) (pc' := 184) rfl (hb hby at_152) (by decide) (by decide) ?_
      show Steps p.tables e below (T41.setTop (mkF m 184 #[.val (.long qa), .second, .val (.long qb), .second, .val (.long qc), .second, .val (.int ip), .val (.int iq), .val (.ref tt0), .val (.ref tt1), .val (.ref tt2), .val (.int fa), .val (.int la), .val (.int fb), .val (.int lb), .val (.int fc), .val (.int lc), .val (.int r), .val (.ref b24), .val (.ref bb0), .val (.ref bb1), .val (.ref bb2), .unset, .unset, .unset, .unset] [])) tg
      refine XS.iload X41.here hx rfl (hb hby at_184) rfl ?_
      refine XS.ifNo X41.here hx rfl (hb hby at_186) rfl ((if0 _ _).trans (teq hc142_39).2) ?_
      refine XS.iconst X41.here hx rfl (hb hby at_189) ?_
      refine XS.goto X41.here hx rfl (pc0 := 190) (pc' := 195) rfl (hb hby at_190) (by decide) (by decide) ?_
      refine XS.istore X41.here hx rfl (hb hby at_195) rfl (l' := #[.val (.long qa), .second, .val (.long qb), .second, .val (.long qc), .second, .val (.int ip), .val (.int iq), .val (.ref tt0), .val (.ref tt1), .val (.ref tt2), .val (.int fa), .val (.int la), .val (.int fb), .val (.int lb), .val (.int fc), .val (.int lc), .val (.int r), .val (.ref b24), .val (.ref bb0), .val (.ref bb1), .val (.ref bb2), .val (.int (0 : Int32)), .unset, .unset, .unset]) rfl ?_
      refine XS.iload X41.here hx rfl (hb hby at_197) rfl ?_
      show Steps p.tables e below (T41.setTop (mkF m 199 #[.val (.long qa), .second, .val (.long qb), .second, .val (.long qc), .second, .val (.int ip), .val (.int iq), .val (.ref tt0), .val (.ref tt1), .val (.ref tt2), .val (.int fa), .val (.int la), .val (.int fb), .val (.int lb), .val (.int fc), .val (.int lc), .val (.int r), .val (.ref b24), .val (.ref bb0), .val (.ref bb1), .val (.ref bb2), .val (.int (0 : Int32)), .unset, .unset, .unset] [(.int r)])) tg
      refine XS.iconst X41.here hx rfl (hb hby at_199) ?_
      refine XS.icmpYes X41.here hx rfl (pc0 := 200) (pc' := 207) rfl (hb hby at_200) rfl (feq (by rw [hc142_39]; decide)).2 (by decide) (by decide) ?_
      refine XS.iload X41.here hx rfl (hb hby at_207) rfl ?_
      refine XS.istore X41.here hx rfl (hb hby at_209) rfl (l' := #[.val (.long qa), .second, .val (.long qb), .second, .val (.long qc), .second, .val (.int ip), .val (.int iq), .val (.ref tt0), .val (.ref tt1), .val (.ref tt2), .val (.int fa), .val (.int la), .val (.int fb), .val (.int lb), .val (.int fc), .val (.int lc), .val (.int r), .val (.ref b24), .val (.ref bb0), .val (.ref bb1), .val (.ref bb2), .val (.int (0 : Int32)), .val (.int lb), .unset, .unset]) rfl ?_
      refine XS.iload X41.here hx rfl (hb hby at_211) rfl ?_
      refine XS.iconst X41.here hx rfl (hb hby at_213) ?_
      show Steps p.tables e below (T41.setTop (mkF m 214 #[.val (.long qa), .second, .val (.long qb), .second, .val (.long qc), .second, .val (.int ip), .val (.int iq), .val (.ref tt0), .val (.ref tt1), .val (.ref tt2), .val (.int fa), .val (.int la), .val (.int fb), .val (.int lb), .val (.int fc), .val (.int lc), .val (.int r), .val (.ref b24), .val (.ref bb0), .val (.ref bb1), .val (.ref bb2), .val (.int (0 : Int32)), .val (.int lb), .unset, .unset] [(.int (2 : Int32)), (.int r)])) tg
      refine XS.icmpYes X41.here hx rfl (pc0 := 214) (pc' := 221) rfl (hb hby at_214) rfl (feq (by rw [hc142_39]; decide)).2 (by decide) (by decide) ?_
      refine XS.iload X41.here hx rfl (hb hby at_221) rfl ?_
      refine XS.istore X41.here hx rfl (hb hby at_223) rfl (l' := #[.val (.long qa), .second, .val (.long qb), .second, .val (.long qc), .second, .val (.int ip), .val (.int iq), .val (.ref tt0), .val (.ref tt1), .val (.ref tt2), .val (.int fa), .val (.int la), .val (.int fb), .val (.int lb), .val (.int fc), .val (.int lc), .val (.int r), .val (.ref b24), .val (.ref bb0), .val (.ref bb1), .val (.ref bb2), .val (.int (0 : Int32)), .val (.int lb), .val (.int lc), .unset]) rfl ?_
      refine XS.aload X41.here hx rfl (hb hby at_225) rfl rfl ?_
      exact kg
    have f51 : Arv Z h41 tt1 kt1 .byte (6 : Int32) (own_dr qb) (.int (0 : Int32)) := ((((((fq5_4.keep K8 nin0).ext E24).keep K30 (ninS (by first | exact own_ne (by omega) | assumption | (apply Ne.symm; assumption)) nin0)).keep K33 (ninS (by first | exact own_ne (by omega) | assumption | (apply Ne.symm; assumption)) (ninS (by first | exact own_ne (by omega) | assumption | (apply Ne.symm; assumption)) nin0))).keep K36 (ninS (by first | exact own_ne (by omega) | assumption | (apply Ne.symm; assumption)) (ninS (by first | exact own_ne (by omega) | assumption | (apply Ne.symm; assumption)) nin0))).keep K41 (ninS (by first | exact own_ne (by omega) | assumption | (apply Ne.symm; assumption)) (ninS (by first | exact own_ne (by omega) | assumption | (apply Ne.symm; assumption)) nin0)))
    have f52 : Exa Z h41 bb2 "dev/triadic/policy/TextLines$Line" := (fq36_8.keep K41)
    have f53 : Fld Z h41 bb2 "dev/triadic/policy/TextLines$Line" "bytes" "[B" (.ref tt2) := (fq36_9.keep K41 (ninS (by first | exact own_ne (by omega) | assumption | (apply Ne.symm; assumption)) (ninS (by first | exact own_ne (by omega) | assumption | (apply Ne.symm; assumption)) nin0)))
    have f54 : Fld Z h41 bb2 "dev/triadic/policy/TextLines$Line" "from" "I" (.int fc) := (fq36_10.keep K41 (ninS (by first | exact own_ne (by omega) | assumption | (apply Ne.symm; assumption)) (ninS (by first | exact own_ne (by omega) | assumption | (apply Ne.symm; assumption)) nin0)))
    have f55 : Fld Z h41 bb2 "dev/triadic/policy/TextLines$Line" "to" "I" (.int (fc + lc)) := (fq36_11.keep K41 (ninS (by first | exact own_ne (by omega) | assumption | (apply Ne.symm; assumption)) (ninS (by first | exact own_ne (by omega) | assumption | (apply Ne.symm; assumption)) nin0)))
    have f56 : Fld Z h41 bb2 "dev/triadic/policy/TextLines$Line" "after" "Ldev/triadic/policy/TextLines$Line;" .null := (fq36_13.keep K41 (ninS (by first | exact own_ne (by omega) | assumption | (apply Ne.symm; assumption)) (ninS (by first | exact own_ne (by omega) | assumption | (apply Ne.symm; assumption)) nin0)))
    have f57 : Arv Z h41 tt2 kt2 .byte (6 : Int32) (own_dr qc) (.int (0 : Int32)) := (((((fq8_4.ext E24).keep K30 (ninS (by first | exact own_ne (by omega) | assumption | (apply Ne.symm; assumption)) nin0)).keep K33 (ninS (by first | exact own_ne (by omega) | assumption | (apply Ne.symm; assumption)) (ninS (by first | exact own_ne (by omega) | assumption | (apply Ne.symm; assumption)) nin0))).keep K36 (ninS (by first | exact own_ne (by omega) | assumption | (apply Ne.symm; assumption)) (ninS (by first | exact own_ne (by omega) | assumption | (apply Ne.symm; assumption)) nin0))).keep K41 (ninS (by first | exact own_ne (by omega) | assumption | (apply Ne.symm; assumption)) (ninS (by first | exact own_ne (by omega) | assumption | (apply Ne.symm; assumption)) nin0)))
    obtain ⟨v50, T50, h50, Lc50, X50, e50, hQ50, st50⟩ := own_callV X41 hx hZ hown (hw _ (List.mem_of_getElem? (i := 49) rfl)) (hw _ (List.mem_of_getElem? (i := 50) rfl)) (notFace_of_selects (args := #[]) (mvT hZ (hw _ (List.mem_of_getElem? (i := 52) rfl)))) (hw _ (List.mem_of_getElem? (i := 52) rfl)) (hw _ (List.mem_of_getElem? (i := 51) rfl)) (hw _ (List.mem_of_getElem? (i := 53) rfl)) (hw _ (List.mem_of_getElem? (i := 8) rfl)) (by decide) (rm_bytes2 l Z a0 hw [] b24 (((((0 : Int32) + la) + lb) + lc) - la) bb1 tt1 fb lb kt1 qb bb2 tt2 fc lc kt2 qc h41 n0 (by omega) fq41_4 fq41_6 fq41_7 fq41_8 fq41_9 fq41_10 fq41_12 f51 i3fb i3lb f52 f53 f54 f55 f56 f57 i3fc i3lc hNI) e41 fq41_3 (g := (mkF m 227 #[.val (.long qa), .second, .val (.long qb), .second, .val (.long qc), .second, .val (.int ip), .val (.int iq), .val (.ref tt0), .val (.ref tt1), .val (.ref tt2), .val (.int fa), .val (.int la), .val (.int fb), .val (.int lb), .val (.int fc), .val (.int lc), .val (.int r), .val (.ref b24), .val (.ref bb0), .val (.ref bb1), .val (.ref bb2), .val (.int (0 : Int32)), .val (.int lb), .val (.int lc), .unset] [(.ref b24)])) rfl (by rw [hml]; rfl) (argsL := []) (rest := []) rfl (lenOf pd_6 rfl) rfl (W := 0) (by show 2 * 0 + _ ≤ _; exact Nat.le_of_eq rfl) (hb hby at_227) (by decide) (by decide) (by decide) (by decide)
    obtain ⟨gg, kg, rfl, Nq50, K50, ge50_3, fq50_4⟩ := hQ50
    have N50 := Fr.app N41 Nq50
    have s50 : h41.size ≤ h50.size := K50.1
    have k58 : Rch p e below (s₁.setTop (entryFrame m #[(.long qa), (.long qb), (.long qc), (.int ip), (.int iq)] maxLocals)) T50 (mkF m 230 #[.val (.long qa), .second, .val (.long qb), .second, .val (.long qc), .second, .val (.int ip), .val (.int iq), .val (.ref tt0), .val (.ref tt1), .val (.ref tt2), .val (.int fa), .val (.int la), .val (.int fb), .val (.int lb), .val (.int fc), .val (.int lc), .val (.int r), .val (.ref b24), .val (.ref bb0), .val (.ref bb1), .val (.ref bb2), .val (.int (0 : Int32)), .val (.int lb), .val (.int lc), .unset] [(.ref gg)]) := fun tg kg => k49 tg (st50 tg kg)
    have lt_fq50_4 := own_ltN fq50_4.lt
    have f59 : Arv Z h50 gg kg .byte (((((0 : Int32) + la) + lb) + lc) - la) (own_cat qa fa (0 : Int32) qb fb lb qc fc lc) (.int (0 : Int32)) := (by have q := fq50_4; unfold own_cat; simp only [own_seg0, List.nil_append, List.append_nil]; exact q)
    have k60 : Rch p e below (s₁.setTop (entryFrame m #[(.long qa), (.long qb), (.long qc), (.int ip), (.int iq)] maxLocals)) T50 (mkF m 234 #[.val (.long qa), .second, .val (.long qb), .second, .val (.long qc), .second, .val (.int ip), .val (.int iq), .val (.ref tt0), .val (.ref tt1), .val (.ref tt2), .val (.int fa), .val (.int la), .val (.int fb), .val (.int lb), .val (.int fc), .val (.int lc), .val (.int r), .val (.ref b24), .val (.ref bb0), .val (.ref bb1), .val (.ref bb2), .val (.int (0 : Int32)), .val (.int lb), .val (.int lc), .val (.ref gg)] [(.ref gg)]) := fun tg kg => by
      refine k58 tg ?_
      show Steps p.tables e below (T50.setTop (mkF m 230 #[.val (.long qa), .second, .val (.long qb), .second, .val (.long qc), .second, .val (.int ip), .val (.int iq), .val (.ref tt0), .val (.ref tt1), .val (.ref tt2), .val (.int fa), .val (.int la), .val (.int fb), .val (.int lb), .val (.int fc), .val (.int lc), .val (.int r), .val (.ref b24), .val (.ref bb0), .val (.ref bb1), .val (.ref bb2), .val (.int (0 : Int32)), .val (.int lb), .val (.int lc), .unset] [(.ref gg)])) tg
      refine XS.astore X50.here hx rfl (hb hby at_230) rfl rfl (l' := #[.val (.long qa), .second, .val (.long qb), .second, .val (.long qc), .second, .val (.int ip), .val (.int iq), .val (.ref tt0), .val (.ref tt1), .val (.ref tt2), .val (.int fa), .val (.int la), .val (.int fb), .val (.int lb), .val (.int fc), .val (.int lc), .val (.int r), .val (.ref b24), .val (.ref bb0), .val (.ref bb1), .val (.ref bb2), .val (.int (0 : Int32)), .val (.int lb), .val (.int lc), .val (.ref gg)]) rfl ?_
      refine XS.aload X50.here hx rfl (hb hby at_232) rfl rfl ?_
      exact kg
    obtain ⟨cl61, Ar61, q61, S61, M61, H61, G61⟩ := id f59
    have s1 := own_add (x := (0 : Int32)) (y := lb) (by first | decide | omega) (by first | decide | omega) (by first | decide | omega) (by first | decide | omega)
    have hz := own_z
    have s2 := own_add (x := ((0 : Int32) + lb)) (y := lc) (by omega) (by omega) (by first | decide | omega) (by first | decide | omega)
    have k62 : Rch p e below (s₁.setTop (entryFrame m #[(.long qa), (.long qb), (.long qc), (.int ip), (.int iq)] maxLocals)) T50 (mkF m 269 #[.val (.long qa), .second, .val (.long qb), .second, .val (.long qc), .second, .val (.int ip), .val (.int iq), .val (.ref tt0), .val (.ref tt1), .val (.ref tt2), .val (.int fa), .val (.int la), .val (.int fb), .val (.int lb), .val (.int fc), .val (.int lc), .val (.int r), .val (.ref b24), .val (.ref bb0), .val (.ref bb1), .val (.ref bb2), .val (.int (0 : Int32)), .val (.int lb), .val (.int lc), .val (.ref gg)] [(.int lc), (.int fc), (.ref tt2), (.int lb), (.int fb), (.ref tt1), (.int (0 : Int32)), (.int fa), (.ref tt0), (.int (0 : Int32)), (.ref gg)]) := fun tg kg => by
      refine k60 tg ?_
      show Steps p.tables e below (T50.setTop (mkF m 234 #[.val (.long qa), .second, .val (.long qb), .second, .val (.long qc), .second, .val (.int ip), .val (.int iq), .val (.ref tt0), .val (.ref tt1), .val (.ref tt2), .val (.int fa), .val (.int la), .val (.int fb), .val (.int lb), .val (.int fc), .val (.int lc), .val (.int r), .val (.ref b24), .val (.ref bb0), .val (.ref bb1), .val (.ref bb2), .val (.int (0 : Int32)), .val (.int lb), .val (.int lc), .val (.ref gg)] [(.ref gg)])) tg
      refine X50.arraylength hx (by rw [e50]; exact Ar61.1) (State.isArrayOf_alike hZ.alike Ar61.2.1) (g := (mkF m 234 #[.val (.long qa), .second, .val (.long qb), .second, .val (.long qc), .second, .val (.int ip), .val (.int iq), .val (.ref tt0), .val (.ref tt1), .val (.ref tt2), .val (.int fa), .val (.int la), .val (.int fb), .val (.int lb), .val (.int fc), .val (.int lc), .val (.int r), .val (.ref b24), .val (.ref bb0), .val (.ref bb1), .val (.ref bb2), .val (.int (0 : Int32)), .val (.int lb), .val (.int lc), .val (.ref gg)] [(.ref gg)])) rfl rfl (hb hby at_234) _ ?_
      rw [len_of S61 M61]
      refine XS.iload X50.here hx rfl (hb hby at_235) rfl ?_
      refine XS.iload X50.here hx rfl (hb hby at_237) rfl ?_
      refine XS.iadd X50.here hx rfl (hb hby at_239) rfl ?_
      refine XS.iload X50.here hx rfl (hb hby at_240) rfl ?_
      refine XS.iadd X50.here hx rfl (hb hby at_242) rfl ?_
      show Steps p.tables e below (T50.setTop (mkF m 243 #[.val (.long qa), .second, .val (.long qb), .second, .val (.long qc), .second, .val (.int ip), .val (.int iq), .val (.ref tt0), .val (.ref tt1), .val (.ref tt2), .val (.int fa), .val (.int la), .val (.int fb), .val (.int lb), .val (.int fc), .val (.int lc), .val (.int r), .val (.ref b24), .val (.ref bb0), .val (.ref bb1), .val (.ref bb2), .val (.int (0 : Int32)), .val (.int lb), .val (.int lc), .val (.ref gg)] [(.int (((0 : Int32) + lb) + lc)), (.int (((((0 : Int32) + la) + lb) + lc) - la))])) tg
      refine XS.icmpYes X50.here hx rfl (pc0 := 243) (pc' := 248) rfl (hb hby at_243) rfl (teq (Int32.toInt_inj.mp (by omega))).1 (by decide) (by decide) ?_
      refine XS.aload X50.here hx rfl (hb hby at_248) rfl rfl ?_
      refine XS.iconst X50.here hx rfl (hb hby at_250) ?_
      refine XS.aload X50.here hx rfl (hb hby at_251) rfl rfl ?_
      refine XS.iload X50.here hx rfl (hb hby at_253) rfl ?_
      refine XS.iload X50.here hx rfl (hb hby at_255) rfl ?_
      show Steps p.tables e below (T50.setTop (mkF m 257 #[.val (.long qa), .second, .val (.long qb), .second, .val (.long qc), .second, .val (.int ip), .val (.int iq), .val (.ref tt0), .val (.ref tt1), .val (.ref tt2), .val (.int fa), .val (.int la), .val (.int fb), .val (.int lb), .val (.int fc), .val (.int lc), .val (.int r), .val (.ref b24), .val (.ref bb0), .val (.ref bb1), .val (.ref bb2), .val (.int (0 : Int32)), .val (.int lb), .val (.int lc), .val (.ref gg)] [(.int (0 : Int32)), (.int fa), (.ref tt0), (.int (0 : Int32)), (.ref gg)])) tg
      refine XS.aload X50.here hx rfl (hb hby at_257) rfl rfl ?_
      refine XS.iload X50.here hx rfl (hb hby at_259) rfl ?_
      refine XS.iload X50.here hx rfl (hb hby at_261) rfl ?_
      refine XS.aload X50.here hx rfl (hb hby at_263) rfl rfl ?_
      refine XS.iload X50.here hx rfl (hb hby at_265) rfl ?_
      refine XS.iload X50.here hx rfl (hb hby at_267) rfl ?_
      exact kg
    have f64 : Arv Z h50 tt0 kt0 .byte (6 : Int32) (own_dr qa) (.int (0 : Int32)) := ((((((((fq2_4.keep K5 nin0).keep K8 nin0).ext E24).keep K30 (ninS (by first | exact own_ne (by omega) | assumption | (apply Ne.symm; assumption)) nin0)).keep K33 (ninS (by first | exact own_ne (by omega) | assumption | (apply Ne.symm; assumption)) (ninS (by first | exact own_ne (by omega) | assumption | (apply Ne.symm; assumption)) nin0))).keep K36 (ninS (by first | exact own_ne (by omega) | assumption | (apply Ne.symm; assumption)) (ninS (by first | exact own_ne (by omega) | assumption | (apply Ne.symm; assumption)) nin0))).keep K41 (ninS (by first | exact own_ne (by omega) | assumption | (apply Ne.symm; assumption)) (ninS (by first | exact own_ne (by omega) | assumption | (apply Ne.symm; assumption)) nin0))).keep K50 nin0)
    have f65 : Arv Z h50 tt1 kt1 .byte (6 : Int32) (own_dr qb) (.int (0 : Int32)) := (f51.keep K50 nin0)
    have f66 : Arv Z h50 tt2 kt2 .byte (6 : Int32) (own_dr qc) (.int (0 : Int32)) := (f57.keep K50 nin0)
    obtain ⟨v63, T63, h63, Lc63, X63, e63, hQ63, st63⟩ := own_callS X50 hx hZ hown (hw _ (List.mem_of_getElem? (i := 60) rfl)) (hw _ (List.mem_of_getElem? (i := 61) rfl)) (hw _ (List.mem_of_getElem? (i := 2) rfl)) (hw _ (List.mem_of_getElem? (i := 62) rfl)) (by decide) (rm_at l Z a0 hw [] gg (0 : Int32) tt0 fa (0 : Int32) tt1 fb lb tt2 fc lc kg (((((0 : Int32) + la) + lb) + lc) - la) kt0 kt1 kt2 qa qb qc h50 n0 (by omega) f59 f64 f65 f66 i3fa i3fb i3fc (⟨by decide, by decide⟩ : own_in3 0) i3lb i3lc (by omega) ⟨by decide, by decide⟩) e50 (g := (mkF m 269 #[.val (.long qa), .second, .val (.long qb), .second, .val (.long qc), .second, .val (.int ip), .val (.int iq), .val (.ref tt0), .val (.ref tt1), .val (.ref tt2), .val (.int fa), .val (.int la), .val (.int fb), .val (.int lb), .val (.int fc), .val (.int lc), .val (.int r), .val (.ref b24), .val (.ref bb0), .val (.ref bb1), .val (.ref bb2), .val (.int (0 : Int32)), .val (.int lb), .val (.int lc), .val (.ref gg)] [(.int lc), (.int fc), (.ref tt2), (.int lb), (.int fb), (.ref tt1), (.int (0 : Int32)), (.int fa), (.ref tt0), (.int (0 : Int32)), (.ref gg)])) rfl (by rw [hml]; rfl) (argsL := [(.ref gg), (.int (0 : Int32)), (.ref tt0), (.int fa), (.int (0 : Int32)), (.ref tt1), (.int fb), (.int lb), (.ref tt2), (.int fc), (.int lc)]) (rest := []) rfl (lenOf pd_7 rfl) rfl (W := 0) (by show 2 * 0 + _ ≤ _; exact Nat.le_of_eq rfl) (hb hby at_269) (by decide) (by decide) (by decide) (by decide)
    obtain ⟨rfl, Nq63, hs63⟩ := hQ63
    have N63 := Fr.app N50 Nq63
    have e63' : T63.heap = h50 := e63.trans hs63
    have k67 : Rch p e below (s₁.setTop (entryFrame m #[(.long qa), (.long qb), (.long qc), (.int ip), (.int iq)] maxLocals)) T63 (mkF m 272 #[.val (.long qa), .second, .val (.long qb), .second, .val (.long qc), .second, .val (.int ip), .val (.int iq), .val (.ref tt0), .val (.ref tt1), .val (.ref tt2), .val (.int fa), .val (.int la), .val (.int fb), .val (.int lb), .val (.int fc), .val (.int lc), .val (.int r), .val (.ref b24), .val (.ref bb0), .val (.ref bb1), .val (.ref bb2), .val (.int (0 : Int32)), .val (.int lb), .val (.int lc), .val (.ref gg)] [(.int (1 : Int32))]) := fun tg kg => k62 tg (st63 tg kg)
    have k68 : Rch p e below (s₁.setTop (entryFrame m #[(.long qa), (.long qb), (.long qc), (.int ip), (.int iq)] maxLocals)) T63 (mkF m 296 #[.val (.long qa), .second, .val (.long qb), .second, .val (.long qc), .second, .val (.int ip), .val (.int iq), .val (.ref tt0), .val (.ref tt1), .val (.ref tt2), .val (.int fa), .val (.int la), .val (.int fb), .val (.int lb), .val (.int fc), .val (.int lc), .val (.int r), .val (.ref b24), .val (.ref bb0), .val (.ref bb1), .val (.ref bb2), .val (.int (0 : Int32)), .val (.int lb), .val (.int lc), .val (.ref gg)] [(.int lc), (.int fc), (.ref tt2), (.int lb), (.int fb), (.ref tt1), (.int (0 : Int32)), (.int fa), (.ref tt0), (.int (1 : Int32)), (.ref gg)]) := fun tg kg => by
      refine k67 tg ?_
      show Steps p.tables e below (T63.setTop (mkF m 272 #[.val (.long qa), .second, .val (.long qb), .second, .val (.long qc), .second, .val (.int ip), .val (.int iq), .val (.ref tt0), .val (.ref tt1), .val (.ref tt2), .val (.int fa), .val (.int la), .val (.int fb), .val (.int lb), .val (.int fc), .val (.int lc), .val (.int r), .val (.ref b24), .val (.ref bb0), .val (.ref bb1), .val (.ref bb2), .val (.int (0 : Int32)), .val (.int lb), .val (.int lc), .val (.ref gg)] [(.int (1 : Int32))])) tg
      refine XS.ifNo X63.here hx rfl (hb hby at_272) rfl ((if0 _ _).trans (feq (by decide)).1) ?_
      refine XS.aload X63.here hx rfl (hb hby at_275) rfl rfl ?_
      refine XS.iconst X63.here hx rfl (hb hby at_277) ?_
      refine XS.aload X63.here hx rfl (hb hby at_278) rfl rfl ?_
      refine XS.iload X63.here hx rfl (hb hby at_280) rfl ?_
      refine XS.iload X63.here hx rfl (hb hby at_282) rfl ?_
      show Steps p.tables e below (T63.setTop (mkF m 284 #[.val (.long qa), .second, .val (.long qb), .second, .val (.long qc), .second, .val (.int ip), .val (.int iq), .val (.ref tt0), .val (.ref tt1), .val (.ref tt2), .val (.int fa), .val (.int la), .val (.int fb), .val (.int lb), .val (.int fc), .val (.int lc), .val (.int r), .val (.ref b24), .val (.ref bb0), .val (.ref bb1), .val (.ref bb2), .val (.int (0 : Int32)), .val (.int lb), .val (.int lc), .val (.ref gg)] [(.int (0 : Int32)), (.int fa), (.ref tt0), (.int (1 : Int32)), (.ref gg)])) tg
      refine XS.aload X63.here hx rfl (hb hby at_284) rfl rfl ?_
      refine XS.iload X63.here hx rfl (hb hby at_286) rfl ?_
      refine XS.iload X63.here hx rfl (hb hby at_288) rfl ?_
      refine XS.aload X63.here hx rfl (hb hby at_290) rfl rfl ?_
      refine XS.iload X63.here hx rfl (hb hby at_292) rfl ?_
      refine XS.iload X63.here hx rfl (hb hby at_294) rfl ?_
      exact kg
    obtain ⟨v69, T69, h69, Lc69, X69, e69, hQ69, st69⟩ := own_callS X63 hx hZ hown (hw _ (List.mem_of_getElem? (i := 60) rfl)) (hw _ (List.mem_of_getElem? (i := 61) rfl)) (hw _ (List.mem_of_getElem? (i := 2) rfl)) (hw _ (List.mem_of_getElem? (i := 62) rfl)) (by decide) (rm_at l Z a0 hw [] gg (1 : Int32) tt0 fa (0 : Int32) tt1 fb lb tt2 fc lc kg (((((0 : Int32) + la) + lb) + lc) - la) kt0 kt1 kt2 qa qb qc h50 n0 (by omega) f59 f64 f65 f66 i3fa i3fb i3fc (⟨by decide, by decide⟩ : own_in3 0) i3lb i3lc (by omega) ⟨by decide, by decide⟩) e63' (g := (mkF m 296 #[.val (.long qa), .second, .val (.long qb), .second, .val (.long qc), .second, .val (.int ip), .val (.int iq), .val (.ref tt0), .val (.ref tt1), .val (.ref tt2), .val (.int fa), .val (.int la), .val (.int fb), .val (.int lb), .val (.int fc), .val (.int lc), .val (.int r), .val (.ref b24), .val (.ref bb0), .val (.ref bb1), .val (.ref bb2), .val (.int (0 : Int32)), .val (.int lb), .val (.int lc), .val (.ref gg)] [(.int lc), (.int fc), (.ref tt2), (.int lb), (.int fb), (.ref tt1), (.int (0 : Int32)), (.int fa), (.ref tt0), (.int (1 : Int32)), (.ref gg)])) rfl (by rw [hml]; rfl) (argsL := [(.ref gg), (.int (1 : Int32)), (.ref tt0), (.int fa), (.int (0 : Int32)), (.ref tt1), (.int fb), (.int lb), (.ref tt2), (.int fc), (.int lc)]) (rest := []) rfl (lenOf pd_7 rfl) rfl (W := 0) (by show 2 * 0 + _ ≤ _; exact Nat.le_of_eq rfl) (hb hby at_296) (by decide) (by decide) (by decide) (by decide)
    obtain ⟨rfl, Nq69, hs69⟩ := hQ69
    have N69 := Fr.app N63 Nq69
    have e69' : T69.heap = h50 := e69.trans hs69
    have k70 : Rch p e below (s₁.setTop (entryFrame m #[(.long qa), (.long qb), (.long qc), (.int ip), (.int iq)] maxLocals)) T69 (mkF m 299 #[.val (.long qa), .second, .val (.long qb), .second, .val (.long qc), .second, .val (.int ip), .val (.int iq), .val (.ref tt0), .val (.ref tt1), .val (.ref tt2), .val (.int fa), .val (.int la), .val (.int fb), .val (.int lb), .val (.int fc), .val (.int lc), .val (.int r), .val (.ref b24), .val (.ref bb0), .val (.ref bb1), .val (.ref bb2), .val (.int (0 : Int32)), .val (.int lb), .val (.int lc), .val (.ref gg)] [(.int (1 : Int32))]) := fun tg kg => k68 tg (st69 tg kg)
    have k71 : Rch p e below (s₁.setTop (entryFrame m #[(.long qa), (.long qb), (.long qc), (.int ip), (.int iq)] maxLocals)) T69 (mkF m 323 #[.val (.long qa), .second, .val (.long qb), .second, .val (.long qc), .second, .val (.int ip), .val (.int iq), .val (.ref tt0), .val (.ref tt1), .val (.ref tt2), .val (.int fa), .val (.int la), .val (.int fb), .val (.int lb), .val (.int fc), .val (.int lc), .val (.int r), .val (.ref b24), .val (.ref bb0), .val (.ref bb1), .val (.ref bb2), .val (.int (0 : Int32)), .val (.int lb), .val (.int lc), .val (.ref gg)] [(.int lc), (.int fc), (.ref tt2), (.int lb), (.int fb), (.ref tt1), (.int (0 : Int32)), (.int fa), (.ref tt0), (.int (2 : Int32)), (.ref gg)]) := fun tg kg => by
      refine k70 tg ?_
      show Steps p.tables e below (T69.setTop (mkF m 299 #[.val (.long qa), .second, .val (.long qb), .second, .val (.long qc), .second, .val (.int ip), .val (.int iq), .val (.ref tt0), .val (.ref tt1), .val (.ref tt2), .val (.int fa), .val (.int la), .val (.int fb), .val (.int lb), .val (.int fc), .val (.int lc), .val (.int r), .val (.ref b24), .val (.ref bb0), .val (.ref bb1), .val (.ref bb2), .val (.int (0 : Int32)), .val (.int lb), .val (.int lc), .val (.ref gg)] [(.int (1 : Int32))])) tg
      refine XS.ifNo X69.here hx rfl (hb hby at_299) rfl ((if0 _ _).trans (feq (by decide)).1) ?_
      refine XS.aload X69.here hx rfl (hb hby at_302) rfl rfl ?_
      refine XS.iconst X69.here hx rfl (hb hby at_304) ?_
      refine XS.aload X69.here hx rfl (hb hby at_305) rfl rfl ?_
      refine XS.iload X69.here hx rfl (hb hby at_307) rfl ?_
      refine XS.iload X69.here hx rfl (hb hby at_309) rfl ?_
      show Steps p.tables e below (T69.setTop (mkF m 311 #[.val (.long qa), .second, .val (.long qb), .second, .val (.long qc), .second, .val (.int ip), .val (.int iq), .val (.ref tt0), .val (.ref tt1), .val (.ref tt2), .val (.int fa), .val (.int la), .val (.int fb), .val (.int lb), .val (.int fc), .val (.int lc), .val (.int r), .val (.ref b24), .val (.ref bb0), .val (.ref bb1), .val (.ref bb2), .val (.int (0 : Int32)), .val (.int lb), .val (.int lc), .val (.ref gg)] [(.int (0 : Int32)), (.int fa), (.ref tt0), (.int (2 : Int32)), (.ref gg)])) tg
      refine XS.aload X69.here hx rfl (hb hby at_311) rfl rfl ?_
      refine XS.iload X69.here hx rfl (hb hby at_313) rfl ?_
      refine XS.iload X69.here hx rfl (hb hby at_315) rfl ?_
      refine XS.aload X69.here hx rfl (hb hby at_317) rfl rfl ?_
      refine XS.iload X69.here hx rfl (hb hby at_319) rfl ?_
      refine XS.iload X69.here hx rfl (hb hby at_321) rfl ?_
      exact kg
    obtain ⟨v72, T72, h72, Lc72, X72, e72, hQ72, st72⟩ := own_callS X69 hx hZ hown (hw _ (List.mem_of_getElem? (i := 60) rfl)) (hw _ (List.mem_of_getElem? (i := 61) rfl)) (hw _ (List.mem_of_getElem? (i := 2) rfl)) (hw _ (List.mem_of_getElem? (i := 62) rfl)) (by decide) (rm_at l Z a0 hw [] gg (2 : Int32) tt0 fa (0 : Int32) tt1 fb lb tt2 fc lc kg (((((0 : Int32) + la) + lb) + lc) - la) kt0 kt1 kt2 qa qb qc h50 n0 (by omega) f59 f64 f65 f66 i3fa i3fb i3fc (⟨by decide, by decide⟩ : own_in3 0) i3lb i3lc (by omega) ⟨by decide, by decide⟩) e69' (g := (mkF m 323 #[.val (.long qa), .second, .val (.long qb), .second, .val (.long qc), .second, .val (.int ip), .val (.int iq), .val (.ref tt0), .val (.ref tt1), .val (.ref tt2), .val (.int fa), .val (.int la), .val (.int fb), .val (.int lb), .val (.int fc), .val (.int lc), .val (.int r), .val (.ref b24), .val (.ref bb0), .val (.ref bb1), .val (.ref bb2), .val (.int (0 : Int32)), .val (.int lb), .val (.int lc), .val (.ref gg)] [(.int lc), (.int fc), (.ref tt2), (.int lb), (.int fb), (.ref tt1), (.int (0 : Int32)), (.int fa), (.ref tt0), (.int (2 : Int32)), (.ref gg)])) rfl (by rw [hml]; rfl) (argsL := [(.ref gg), (.int (2 : Int32)), (.ref tt0), (.int fa), (.int (0 : Int32)), (.ref tt1), (.int fb), (.int lb), (.ref tt2), (.int fc), (.int lc)]) (rest := []) rfl (lenOf pd_7 rfl) rfl (W := 0) (by show 2 * 0 + _ ≤ _; exact Nat.le_of_eq rfl) (hb hby at_323) (by decide) (by decide) (by decide) (by decide)
    obtain ⟨rfl, Nq72, hs72⟩ := hQ72
    have N72 := Fr.app N69 Nq72
    have e72' : T72.heap = h50 := e72.trans hs72
    have k73 : Rch p e below (s₁.setTop (entryFrame m #[(.long qa), (.long qb), (.long qc), (.int ip), (.int iq)] maxLocals)) T72 (mkF m 326 #[.val (.long qa), .second, .val (.long qb), .second, .val (.long qc), .second, .val (.int ip), .val (.int iq), .val (.ref tt0), .val (.ref tt1), .val (.ref tt2), .val (.int fa), .val (.int la), .val (.int fb), .val (.int lb), .val (.int fc), .val (.int lc), .val (.int r), .val (.ref b24), .val (.ref bb0), .val (.ref bb1), .val (.ref bb2), .val (.int (0 : Int32)), .val (.int lb), .val (.int lc), .val (.ref gg)] [(.int (1 : Int32))]) := fun tg kg => k71 tg (st72 tg kg)
    have k74 : Rch p e below (s₁.setTop (entryFrame m #[(.long qa), (.long qb), (.long qc), (.int ip), (.int iq)] maxLocals)) T72 (mkF m 350 #[.val (.long qa), .second, .val (.long qb), .second, .val (.long qc), .second, .val (.int ip), .val (.int iq), .val (.ref tt0), .val (.ref tt1), .val (.ref tt2), .val (.int fa), .val (.int la), .val (.int fb), .val (.int lb), .val (.int fc), .val (.int lc), .val (.int r), .val (.ref b24), .val (.ref bb0), .val (.ref bb1), .val (.ref bb2), .val (.int (0 : Int32)), .val (.int lb), .val (.int lc), .val (.ref gg)] [(.int lc), (.int fc), (.ref tt2), (.int lb), (.int fb), (.ref tt1), (.int (0 : Int32)), (.int fa), (.ref tt0), (.int (3 : Int32)), (.ref gg)]) := fun tg kg => by
      refine k73 tg ?_
      show Steps p.tables e below (T72.setTop (mkF m 326 #[.val (.long qa), .second, .val (.long qb), .second, .val (.long qc), .second, .val (.int ip), .val (.int iq), .val (.ref tt0), .val (.ref tt1), .val (.ref tt2), .val (.int fa), .val (.int la), .val (.int fb), .val (.int lb), .val (.int fc), .val (.int lc), .val (.int r), .val (.ref b24), .val (.ref bb0), .val (.ref bb1), .val (.ref bb2), .val (.int (0 : Int32)), .val (.int lb), .val (.int lc), .val (.ref gg)] [(.int (1 : Int32))])) tg
      refine XS.ifNo X72.here hx rfl (hb hby at_326) rfl ((if0 _ _).trans (feq (by decide)).1) ?_
      refine XS.aload X72.here hx rfl (hb hby at_329) rfl rfl ?_
      refine XS.iconst X72.here hx rfl (hb hby at_331) ?_
      refine XS.aload X72.here hx rfl (hb hby at_332) rfl rfl ?_
      refine XS.iload X72.here hx rfl (hb hby at_334) rfl ?_
      refine XS.iload X72.here hx rfl (hb hby at_336) rfl ?_
      show Steps p.tables e below (T72.setTop (mkF m 338 #[.val (.long qa), .second, .val (.long qb), .second, .val (.long qc), .second, .val (.int ip), .val (.int iq), .val (.ref tt0), .val (.ref tt1), .val (.ref tt2), .val (.int fa), .val (.int la), .val (.int fb), .val (.int lb), .val (.int fc), .val (.int lc), .val (.int r), .val (.ref b24), .val (.ref bb0), .val (.ref bb1), .val (.ref bb2), .val (.int (0 : Int32)), .val (.int lb), .val (.int lc), .val (.ref gg)] [(.int (0 : Int32)), (.int fa), (.ref tt0), (.int (3 : Int32)), (.ref gg)])) tg
      refine XS.aload X72.here hx rfl (hb hby at_338) rfl rfl ?_
      refine XS.iload X72.here hx rfl (hb hby at_340) rfl ?_
      refine XS.iload X72.here hx rfl (hb hby at_342) rfl ?_
      refine XS.aload X72.here hx rfl (hb hby at_344) rfl rfl ?_
      refine XS.iload X72.here hx rfl (hb hby at_346) rfl ?_
      refine XS.iload X72.here hx rfl (hb hby at_348) rfl ?_
      exact kg
    obtain ⟨v75, T75, h75, Lc75, X75, e75, hQ75, st75⟩ := own_callS X72 hx hZ hown (hw _ (List.mem_of_getElem? (i := 60) rfl)) (hw _ (List.mem_of_getElem? (i := 61) rfl)) (hw _ (List.mem_of_getElem? (i := 2) rfl)) (hw _ (List.mem_of_getElem? (i := 62) rfl)) (by decide) (rm_at l Z a0 hw [] gg (3 : Int32) tt0 fa (0 : Int32) tt1 fb lb tt2 fc lc kg (((((0 : Int32) + la) + lb) + lc) - la) kt0 kt1 kt2 qa qb qc h50 n0 (by omega) f59 f64 f65 f66 i3fa i3fb i3fc (⟨by decide, by decide⟩ : own_in3 0) i3lb i3lc (by omega) ⟨by decide, by decide⟩) e72' (g := (mkF m 350 #[.val (.long qa), .second, .val (.long qb), .second, .val (.long qc), .second, .val (.int ip), .val (.int iq), .val (.ref tt0), .val (.ref tt1), .val (.ref tt2), .val (.int fa), .val (.int la), .val (.int fb), .val (.int lb), .val (.int fc), .val (.int lc), .val (.int r), .val (.ref b24), .val (.ref bb0), .val (.ref bb1), .val (.ref bb2), .val (.int (0 : Int32)), .val (.int lb), .val (.int lc), .val (.ref gg)] [(.int lc), (.int fc), (.ref tt2), (.int lb), (.int fb), (.ref tt1), (.int (0 : Int32)), (.int fa), (.ref tt0), (.int (3 : Int32)), (.ref gg)])) rfl (by rw [hml]; rfl) (argsL := [(.ref gg), (.int (3 : Int32)), (.ref tt0), (.int fa), (.int (0 : Int32)), (.ref tt1), (.int fb), (.int lb), (.ref tt2), (.int fc), (.int lc)]) (rest := []) rfl (lenOf pd_7 rfl) rfl (W := 0) (by show 2 * 0 + _ ≤ _; exact Nat.le_of_eq rfl) (hb hby at_350) (by decide) (by decide) (by decide) (by decide)
    obtain ⟨rfl, Nq75, hs75⟩ := hQ75
    have N75 := Fr.app N72 Nq75
    have e75' : T75.heap = h50 := e75.trans hs75
    have k76 : Rch p e below (s₁.setTop (entryFrame m #[(.long qa), (.long qb), (.long qc), (.int ip), (.int iq)] maxLocals)) T75 (mkF m 353 #[.val (.long qa), .second, .val (.long qb), .second, .val (.long qc), .second, .val (.int ip), .val (.int iq), .val (.ref tt0), .val (.ref tt1), .val (.ref tt2), .val (.int fa), .val (.int la), .val (.int fb), .val (.int lb), .val (.int fc), .val (.int lc), .val (.int r), .val (.ref b24), .val (.ref bb0), .val (.ref bb1), .val (.ref bb2), .val (.int (0 : Int32)), .val (.int lb), .val (.int lc), .val (.ref gg)] [(.int (1 : Int32))]) := fun tg kg => k74 tg (st75 tg kg)
    have k77 : Rch p e below (s₁.setTop (entryFrame m #[(.long qa), (.long qb), (.long qc), (.int ip), (.int iq)] maxLocals)) T75 (mkF m 377 #[.val (.long qa), .second, .val (.long qb), .second, .val (.long qc), .second, .val (.int ip), .val (.int iq), .val (.ref tt0), .val (.ref tt1), .val (.ref tt2), .val (.int fa), .val (.int la), .val (.int fb), .val (.int lb), .val (.int fc), .val (.int lc), .val (.int r), .val (.ref b24), .val (.ref bb0), .val (.ref bb1), .val (.ref bb2), .val (.int (0 : Int32)), .val (.int lb), .val (.int lc), .val (.ref gg)] [(.int lc), (.int fc), (.ref tt2), (.int lb), (.int fb), (.ref tt1), (.int (0 : Int32)), (.int fa), (.ref tt0), (.int (4 : Int32)), (.ref gg)]) := fun tg kg => by
      refine k76 tg ?_
      show Steps p.tables e below (T75.setTop (mkF m 353 #[.val (.long qa), .second, .val (.long qb), .second, .val (.long qc), .second, .val (.int ip), .val (.int iq), .val (.ref tt0), .val (.ref tt1), .val (.ref tt2), .val (.int fa), .val (.int la), .val (.int fb), .val (.int lb), .val (.int fc), .val (.int lc), .val (.int r), .val (.ref b24), .val (.ref bb0), .val (.ref bb1), .val (.ref bb2), .val (.int (0 : Int32)), .val (.int lb), .val (.int lc), .val (.ref gg)] [(.int (1 : Int32))])) tg
      refine XS.ifNo X75.here hx rfl (hb hby at_353) rfl ((if0 _ _).trans (feq (by decide)).1) ?_
      refine XS.aload X75.here hx rfl (hb hby at_356) rfl rfl ?_
      refine XS.iconst X75.here hx rfl (hb hby at_358) ?_
      refine XS.aload X75.here hx rfl (hb hby at_359) rfl rfl ?_
      refine XS.iload X75.here hx rfl (hb hby at_361) rfl ?_
      refine XS.iload X75.here hx rfl (hb hby at_363) rfl ?_
      show Steps p.tables e below (T75.setTop (mkF m 365 #[.val (.long qa), .second, .val (.long qb), .second, .val (.long qc), .second, .val (.int ip), .val (.int iq), .val (.ref tt0), .val (.ref tt1), .val (.ref tt2), .val (.int fa), .val (.int la), .val (.int fb), .val (.int lb), .val (.int fc), .val (.int lc), .val (.int r), .val (.ref b24), .val (.ref bb0), .val (.ref bb1), .val (.ref bb2), .val (.int (0 : Int32)), .val (.int lb), .val (.int lc), .val (.ref gg)] [(.int (0 : Int32)), (.int fa), (.ref tt0), (.int (4 : Int32)), (.ref gg)])) tg
      refine XS.aload X75.here hx rfl (hb hby at_365) rfl rfl ?_
      refine XS.iload X75.here hx rfl (hb hby at_367) rfl ?_
      refine XS.iload X75.here hx rfl (hb hby at_369) rfl ?_
      refine XS.aload X75.here hx rfl (hb hby at_371) rfl rfl ?_
      refine XS.iload X75.here hx rfl (hb hby at_373) rfl ?_
      refine XS.iload X75.here hx rfl (hb hby at_375) rfl ?_
      exact kg
    obtain ⟨v78, T78, h78, Lc78, X78, e78, hQ78, st78⟩ := own_callS X75 hx hZ hown (hw _ (List.mem_of_getElem? (i := 60) rfl)) (hw _ (List.mem_of_getElem? (i := 61) rfl)) (hw _ (List.mem_of_getElem? (i := 2) rfl)) (hw _ (List.mem_of_getElem? (i := 62) rfl)) (by decide) (rm_at l Z a0 hw [] gg (4 : Int32) tt0 fa (0 : Int32) tt1 fb lb tt2 fc lc kg (((((0 : Int32) + la) + lb) + lc) - la) kt0 kt1 kt2 qa qb qc h50 n0 (by omega) f59 f64 f65 f66 i3fa i3fb i3fc (⟨by decide, by decide⟩ : own_in3 0) i3lb i3lc (by omega) ⟨by decide, by decide⟩) e75' (g := (mkF m 377 #[.val (.long qa), .second, .val (.long qb), .second, .val (.long qc), .second, .val (.int ip), .val (.int iq), .val (.ref tt0), .val (.ref tt1), .val (.ref tt2), .val (.int fa), .val (.int la), .val (.int fb), .val (.int lb), .val (.int fc), .val (.int lc), .val (.int r), .val (.ref b24), .val (.ref bb0), .val (.ref bb1), .val (.ref bb2), .val (.int (0 : Int32)), .val (.int lb), .val (.int lc), .val (.ref gg)] [(.int lc), (.int fc), (.ref tt2), (.int lb), (.int fb), (.ref tt1), (.int (0 : Int32)), (.int fa), (.ref tt0), (.int (4 : Int32)), (.ref gg)])) rfl (by rw [hml]; rfl) (argsL := [(.ref gg), (.int (4 : Int32)), (.ref tt0), (.int fa), (.int (0 : Int32)), (.ref tt1), (.int fb), (.int lb), (.ref tt2), (.int fc), (.int lc)]) (rest := []) rfl (lenOf pd_7 rfl) rfl (W := 0) (by show 2 * 0 + _ ≤ _; exact Nat.le_of_eq rfl) (hb hby at_377) (by decide) (by decide) (by decide) (by decide)
    obtain ⟨rfl, Nq78, hs78⟩ := hQ78
    have N78 := Fr.app N75 Nq78
    have e78' : T78.heap = h50 := e78.trans hs78
    have k79 : Rch p e below (s₁.setTop (entryFrame m #[(.long qa), (.long qb), (.long qc), (.int ip), (.int iq)] maxLocals)) T78 (mkF m 380 #[.val (.long qa), .second, .val (.long qb), .second, .val (.long qc), .second, .val (.int ip), .val (.int iq), .val (.ref tt0), .val (.ref tt1), .val (.ref tt2), .val (.int fa), .val (.int la), .val (.int fb), .val (.int lb), .val (.int fc), .val (.int lc), .val (.int r), .val (.ref b24), .val (.ref bb0), .val (.ref bb1), .val (.ref bb2), .val (.int (0 : Int32)), .val (.int lb), .val (.int lc), .val (.ref gg)] [(.int (1 : Int32))]) := fun tg kg => k77 tg (st78 tg kg)
    have k80 : Rch p e below (s₁.setTop (entryFrame m #[(.long qa), (.long qb), (.long qc), (.int ip), (.int iq)] maxLocals)) T78 (mkF m 404 #[.val (.long qa), .second, .val (.long qb), .second, .val (.long qc), .second, .val (.int ip), .val (.int iq), .val (.ref tt0), .val (.ref tt1), .val (.ref tt2), .val (.int fa), .val (.int la), .val (.int fb), .val (.int lb), .val (.int fc), .val (.int lc), .val (.int r), .val (.ref b24), .val (.ref bb0), .val (.ref bb1), .val (.ref bb2), .val (.int (0 : Int32)), .val (.int lb), .val (.int lc), .val (.ref gg)] [(.int lc), (.int fc), (.ref tt2), (.int lb), (.int fb), (.ref tt1), (.int (0 : Int32)), (.int fa), (.ref tt0), (.int (5 : Int32)), (.ref gg)]) := fun tg kg => by
      refine k79 tg ?_
      show Steps p.tables e below (T78.setTop (mkF m 380 #[.val (.long qa), .second, .val (.long qb), .second, .val (.long qc), .second, .val (.int ip), .val (.int iq), .val (.ref tt0), .val (.ref tt1), .val (.ref tt2), .val (.int fa), .val (.int la), .val (.int fb), .val (.int lb), .val (.int fc), .val (.int lc), .val (.int r), .val (.ref b24), .val (.ref bb0), .val (.ref bb1), .val (.ref bb2), .val (.int (0 : Int32)), .val (.int lb), .val (.int lc), .val (.ref gg)] [(.int (1 : Int32))])) tg
      refine XS.ifNo X78.here hx rfl (hb hby at_380) rfl ((if0 _ _).trans (feq (by decide)).1) ?_
      refine XS.aload X78.here hx rfl (hb hby at_383) rfl rfl ?_
      refine XS.iconst X78.here hx rfl (hb hby at_385) ?_
      refine XS.aload X78.here hx rfl (hb hby at_386) rfl rfl ?_
      refine XS.iload X78.here hx rfl (hb hby at_388) rfl ?_
      refine XS.iload X78.here hx rfl (hb hby at_390) rfl ?_
      show Steps p.tables e below (T78.setTop (mkF m 392 #[.val (.long qa), .second, .val (.long qb), .second, .val (.long qc), .second, .val (.int ip), .val (.int iq), .val (.ref tt0), .val (.ref tt1), .val (.ref tt2), .val (.int fa), .val (.int la), .val (.int fb), .val (.int lb), .val (.int fc), .val (.int lc), .val (.int r), .val (.ref b24), .val (.ref bb0), .val (.ref bb1), .val (.ref bb2), .val (.int (0 : Int32)), .val (.int lb), .val (.int lc), .val (.ref gg)] [(.int (0 : Int32)), (.int fa), (.ref tt0), (.int (5 : Int32)), (.ref gg)])) tg
      refine XS.aload X78.here hx rfl (hb hby at_392) rfl rfl ?_
      refine XS.iload X78.here hx rfl (hb hby at_394) rfl ?_
      refine XS.iload X78.here hx rfl (hb hby at_396) rfl ?_
      refine XS.aload X78.here hx rfl (hb hby at_398) rfl rfl ?_
      refine XS.iload X78.here hx rfl (hb hby at_400) rfl ?_
      refine XS.iload X78.here hx rfl (hb hby at_402) rfl ?_
      exact kg
    obtain ⟨v81, T81, h81, Lc81, X81, e81, hQ81, st81⟩ := own_callS X78 hx hZ hown (hw _ (List.mem_of_getElem? (i := 60) rfl)) (hw _ (List.mem_of_getElem? (i := 61) rfl)) (hw _ (List.mem_of_getElem? (i := 2) rfl)) (hw _ (List.mem_of_getElem? (i := 62) rfl)) (by decide) (rm_at l Z a0 hw [] gg (5 : Int32) tt0 fa (0 : Int32) tt1 fb lb tt2 fc lc kg (((((0 : Int32) + la) + lb) + lc) - la) kt0 kt1 kt2 qa qb qc h50 n0 (by omega) f59 f64 f65 f66 i3fa i3fb i3fc (⟨by decide, by decide⟩ : own_in3 0) i3lb i3lc (by omega) ⟨by decide, by decide⟩) e78' (g := (mkF m 404 #[.val (.long qa), .second, .val (.long qb), .second, .val (.long qc), .second, .val (.int ip), .val (.int iq), .val (.ref tt0), .val (.ref tt1), .val (.ref tt2), .val (.int fa), .val (.int la), .val (.int fb), .val (.int lb), .val (.int fc), .val (.int lc), .val (.int r), .val (.ref b24), .val (.ref bb0), .val (.ref bb1), .val (.ref bb2), .val (.int (0 : Int32)), .val (.int lb), .val (.int lc), .val (.ref gg)] [(.int lc), (.int fc), (.ref tt2), (.int lb), (.int fb), (.ref tt1), (.int (0 : Int32)), (.int fa), (.ref tt0), (.int (5 : Int32)), (.ref gg)])) rfl (by rw [hml]; rfl) (argsL := [(.ref gg), (.int (5 : Int32)), (.ref tt0), (.int fa), (.int (0 : Int32)), (.ref tt1), (.int fb), (.int lb), (.ref tt2), (.int fc), (.int lc)]) (rest := []) rfl (lenOf pd_7 rfl) rfl (W := 0) (by show 2 * 0 + _ ≤ _; exact Nat.le_of_eq rfl) (hb hby at_404) (by decide) (by decide) (by decide) (by decide)
    obtain ⟨rfl, Nq81, hs81⟩ := hQ81
    have N81 := Fr.app N78 Nq81
    have e81' : T81.heap = h50 := e81.trans hs81
    have k82 : Rch p e below (s₁.setTop (entryFrame m #[(.long qa), (.long qb), (.long qc), (.int ip), (.int iq)] maxLocals)) T81 (mkF m 407 #[.val (.long qa), .second, .val (.long qb), .second, .val (.long qc), .second, .val (.int ip), .val (.int iq), .val (.ref tt0), .val (.ref tt1), .val (.ref tt2), .val (.int fa), .val (.int la), .val (.int fb), .val (.int lb), .val (.int fc), .val (.int lc), .val (.int r), .val (.ref b24), .val (.ref bb0), .val (.ref bb1), .val (.ref bb2), .val (.int (0 : Int32)), .val (.int lb), .val (.int lc), .val (.ref gg)] [(.int (1 : Int32))]) := fun tg kg => k80 tg (st81 tg kg)
    have k83 : Rch p e below (s₁.setTop (entryFrame m #[(.long qa), (.long qb), (.long qc), (.int ip), (.int iq)] maxLocals)) T81 (mkF m 432 #[.val (.long qa), .second, .val (.long qb), .second, .val (.long qc), .second, .val (.int ip), .val (.int iq), .val (.ref tt0), .val (.ref tt1), .val (.ref tt2), .val (.int fa), .val (.int la), .val (.int fb), .val (.int lb), .val (.int fc), .val (.int lc), .val (.int r), .val (.ref b24), .val (.ref bb0), .val (.ref bb1), .val (.ref bb2), .val (.int (0 : Int32)), .val (.int lb), .val (.int lc), .val (.ref gg)] [(.int lc), (.int fc), (.ref tt2), (.int lb), (.int fb), (.ref tt1), (.int (0 : Int32)), (.int fa), (.ref tt0), (.int (6 : Int32)), (.ref gg)]) := fun tg kg => by
      refine k82 tg ?_
      show Steps p.tables e below (T81.setTop (mkF m 407 #[.val (.long qa), .second, .val (.long qb), .second, .val (.long qc), .second, .val (.int ip), .val (.int iq), .val (.ref tt0), .val (.ref tt1), .val (.ref tt2), .val (.int fa), .val (.int la), .val (.int fb), .val (.int lb), .val (.int fc), .val (.int lc), .val (.int r), .val (.ref b24), .val (.ref bb0), .val (.ref bb1), .val (.ref bb2), .val (.int (0 : Int32)), .val (.int lb), .val (.int lc), .val (.ref gg)] [(.int (1 : Int32))])) tg
      refine XS.ifNo X81.here hx rfl (hb hby at_407) rfl ((if0 _ _).trans (feq (by decide)).1) ?_
      refine XS.aload X81.here hx rfl (hb hby at_410) rfl rfl ?_
      refine XS.bipush X81.here hx rfl (hb hby at_412) ?_
      refine XS.aload X81.here hx rfl (hb hby at_414) rfl rfl ?_
      refine XS.iload X81.here hx rfl (hb hby at_416) rfl ?_
      refine XS.iload X81.here hx rfl (hb hby at_418) rfl ?_
      show Steps p.tables e below (T81.setTop (mkF m 420 #[.val (.long qa), .second, .val (.long qb), .second, .val (.long qc), .second, .val (.int ip), .val (.int iq), .val (.ref tt0), .val (.ref tt1), .val (.ref tt2), .val (.int fa), .val (.int la), .val (.int fb), .val (.int lb), .val (.int fc), .val (.int lc), .val (.int r), .val (.ref b24), .val (.ref bb0), .val (.ref bb1), .val (.ref bb2), .val (.int (0 : Int32)), .val (.int lb), .val (.int lc), .val (.ref gg)] [(.int (0 : Int32)), (.int fa), (.ref tt0), (.int (6 : Int32)), (.ref gg)])) tg
      refine XS.aload X81.here hx rfl (hb hby at_420) rfl rfl ?_
      refine XS.iload X81.here hx rfl (hb hby at_422) rfl ?_
      refine XS.iload X81.here hx rfl (hb hby at_424) rfl ?_
      refine XS.aload X81.here hx rfl (hb hby at_426) rfl rfl ?_
      refine XS.iload X81.here hx rfl (hb hby at_428) rfl ?_
      refine XS.iload X81.here hx rfl (hb hby at_430) rfl ?_
      exact kg
    obtain ⟨v84, T84, h84, Lc84, X84, e84, hQ84, st84⟩ := own_callS X81 hx hZ hown (hw _ (List.mem_of_getElem? (i := 60) rfl)) (hw _ (List.mem_of_getElem? (i := 61) rfl)) (hw _ (List.mem_of_getElem? (i := 2) rfl)) (hw _ (List.mem_of_getElem? (i := 62) rfl)) (by decide) (rm_at l Z a0 hw [] gg (6 : Int32) tt0 fa (0 : Int32) tt1 fb lb tt2 fc lc kg (((((0 : Int32) + la) + lb) + lc) - la) kt0 kt1 kt2 qa qb qc h50 n0 (by omega) f59 f64 f65 f66 i3fa i3fb i3fc (⟨by decide, by decide⟩ : own_in3 0) i3lb i3lc (by omega) ⟨by decide, by decide⟩) e81' (g := (mkF m 432 #[.val (.long qa), .second, .val (.long qb), .second, .val (.long qc), .second, .val (.int ip), .val (.int iq), .val (.ref tt0), .val (.ref tt1), .val (.ref tt2), .val (.int fa), .val (.int la), .val (.int fb), .val (.int lb), .val (.int fc), .val (.int lc), .val (.int r), .val (.ref b24), .val (.ref bb0), .val (.ref bb1), .val (.ref bb2), .val (.int (0 : Int32)), .val (.int lb), .val (.int lc), .val (.ref gg)] [(.int lc), (.int fc), (.ref tt2), (.int lb), (.int fb), (.ref tt1), (.int (0 : Int32)), (.int fa), (.ref tt0), (.int (6 : Int32)), (.ref gg)])) rfl (by rw [hml]; rfl) (argsL := [(.ref gg), (.int (6 : Int32)), (.ref tt0), (.int fa), (.int (0 : Int32)), (.ref tt1), (.int fb), (.int lb), (.ref tt2), (.int fc), (.int lc)]) (rest := []) rfl (lenOf pd_7 rfl) rfl (W := 0) (by show 2 * 0 + _ ≤ _; exact Nat.le_of_eq rfl) (hb hby at_432) (by decide) (by decide) (by decide) (by decide)
    obtain ⟨rfl, Nq84, hs84⟩ := hQ84
    have N84 := Fr.app N81 Nq84
    have e84' : T84.heap = h50 := e84.trans hs84
    have k85 : Rch p e below (s₁.setTop (entryFrame m #[(.long qa), (.long qb), (.long qc), (.int ip), (.int iq)] maxLocals)) T84 (mkF m 435 #[.val (.long qa), .second, .val (.long qb), .second, .val (.long qc), .second, .val (.int ip), .val (.int iq), .val (.ref tt0), .val (.ref tt1), .val (.ref tt2), .val (.int fa), .val (.int la), .val (.int fb), .val (.int lb), .val (.int fc), .val (.int lc), .val (.int r), .val (.ref b24), .val (.ref bb0), .val (.ref bb1), .val (.ref bb2), .val (.int (0 : Int32)), .val (.int lb), .val (.int lc), .val (.ref gg)] [(.int (1 : Int32))]) := fun tg kg => k83 tg (st84 tg kg)
    have k86 : Rch p e below (s₁.setTop (entryFrame m #[(.long qa), (.long qb), (.long qc), (.int ip), (.int iq)] maxLocals)) T84 (mkF m 460 #[.val (.long qa), .second, .val (.long qb), .second, .val (.long qc), .second, .val (.int ip), .val (.int iq), .val (.ref tt0), .val (.ref tt1), .val (.ref tt2), .val (.int fa), .val (.int la), .val (.int fb), .val (.int lb), .val (.int fc), .val (.int lc), .val (.int r), .val (.ref b24), .val (.ref bb0), .val (.ref bb1), .val (.ref bb2), .val (.int (0 : Int32)), .val (.int lb), .val (.int lc), .val (.ref gg)] [(.int lc), (.int fc), (.ref tt2), (.int lb), (.int fb), (.ref tt1), (.int (0 : Int32)), (.int fa), (.ref tt0), (.int (7 : Int32)), (.ref gg)]) := fun tg kg => by
      refine k85 tg ?_
      show Steps p.tables e below (T84.setTop (mkF m 435 #[.val (.long qa), .second, .val (.long qb), .second, .val (.long qc), .second, .val (.int ip), .val (.int iq), .val (.ref tt0), .val (.ref tt1), .val (.ref tt2), .val (.int fa), .val (.int la), .val (.int fb), .val (.int lb), .val (.int fc), .val (.int lc), .val (.int r), .val (.ref b24), .val (.ref bb0), .val (.ref bb1), .val (.ref bb2), .val (.int (0 : Int32)), .val (.int lb), .val (.int lc), .val (.ref gg)] [(.int (1 : Int32))])) tg
      refine XS.ifNo X84.here hx rfl (hb hby at_435) rfl ((if0 _ _).trans (feq (by decide)).1) ?_
      refine XS.aload X84.here hx rfl (hb hby at_438) rfl rfl ?_
      refine XS.bipush X84.here hx rfl (hb hby at_440) ?_
      refine XS.aload X84.here hx rfl (hb hby at_442) rfl rfl ?_
      refine XS.iload X84.here hx rfl (hb hby at_444) rfl ?_
      refine XS.iload X84.here hx rfl (hb hby at_446) rfl ?_
      show Steps p.tables e below (T84.setTop (mkF m 448 #[.val (.long qa), .second, .val (.long qb), .second, .val (.long qc), .second, .val (.int ip), .val (.int iq), .val (.ref tt0), .val (.ref tt1), .val (.ref tt2), .val (.int fa), .val (.int la), .val (.int fb), .val (.int lb), .val (.int fc), .val (.int lc), .val (.int r), .val (.ref b24), .val (.ref bb0), .val (.ref bb1), .val (.ref bb2), .val (.int (0 : Int32)), .val (.int lb), .val (.int lc), .val (.ref gg)] [(.int (0 : Int32)), (.int fa), (.ref tt0), (.int (7 : Int32)), (.ref gg)])) tg
      refine XS.aload X84.here hx rfl (hb hby at_448) rfl rfl ?_
      refine XS.iload X84.here hx rfl (hb hby at_450) rfl ?_
      refine XS.iload X84.here hx rfl (hb hby at_452) rfl ?_
      refine XS.aload X84.here hx rfl (hb hby at_454) rfl rfl ?_
      refine XS.iload X84.here hx rfl (hb hby at_456) rfl ?_
      refine XS.iload X84.here hx rfl (hb hby at_458) rfl ?_
      exact kg
    obtain ⟨v87, T87, h87, Lc87, X87, e87, hQ87, st87⟩ := own_callS X84 hx hZ hown (hw _ (List.mem_of_getElem? (i := 60) rfl)) (hw _ (List.mem_of_getElem? (i := 61) rfl)) (hw _ (List.mem_of_getElem? (i := 2) rfl)) (hw _ (List.mem_of_getElem? (i := 62) rfl)) (by decide) (rm_at l Z a0 hw [] gg (7 : Int32) tt0 fa (0 : Int32) tt1 fb lb tt2 fc lc kg (((((0 : Int32) + la) + lb) + lc) - la) kt0 kt1 kt2 qa qb qc h50 n0 (by omega) f59 f64 f65 f66 i3fa i3fb i3fc (⟨by decide, by decide⟩ : own_in3 0) i3lb i3lc (by omega) ⟨by decide, by decide⟩) e84' (g := (mkF m 460 #[.val (.long qa), .second, .val (.long qb), .second, .val (.long qc), .second, .val (.int ip), .val (.int iq), .val (.ref tt0), .val (.ref tt1), .val (.ref tt2), .val (.int fa), .val (.int la), .val (.int fb), .val (.int lb), .val (.int fc), .val (.int lc), .val (.int r), .val (.ref b24), .val (.ref bb0), .val (.ref bb1), .val (.ref bb2), .val (.int (0 : Int32)), .val (.int lb), .val (.int lc), .val (.ref gg)] [(.int lc), (.int fc), (.ref tt2), (.int lb), (.int fb), (.ref tt1), (.int (0 : Int32)), (.int fa), (.ref tt0), (.int (7 : Int32)), (.ref gg)])) rfl (by rw [hml]; rfl) (argsL := [(.ref gg), (.int (7 : Int32)), (.ref tt0), (.int fa), (.int (0 : Int32)), (.ref tt1), (.int fb), (.int lb), (.ref tt2), (.int fc), (.int lc)]) (rest := []) rfl (lenOf pd_7 rfl) rfl (W := 0) (by show 2 * 0 + _ ≤ _; exact Nat.le_of_eq rfl) (hb hby at_460) (by decide) (by decide) (by decide) (by decide)
    obtain ⟨rfl, Nq87, hs87⟩ := hQ87
    have N87 := Fr.app N84 Nq87
    have e87' : T87.heap = h50 := e87.trans hs87
    have k88 : Rch p e below (s₁.setTop (entryFrame m #[(.long qa), (.long qb), (.long qc), (.int ip), (.int iq)] maxLocals)) T87 (mkF m 463 #[.val (.long qa), .second, .val (.long qb), .second, .val (.long qc), .second, .val (.int ip), .val (.int iq), .val (.ref tt0), .val (.ref tt1), .val (.ref tt2), .val (.int fa), .val (.int la), .val (.int fb), .val (.int lb), .val (.int fc), .val (.int lc), .val (.int r), .val (.ref b24), .val (.ref bb0), .val (.ref bb1), .val (.ref bb2), .val (.int (0 : Int32)), .val (.int lb), .val (.int lc), .val (.ref gg)] [(.int (1 : Int32))]) := fun tg kg => k86 tg (st87 tg kg)
    have k89 : Rch p e below (s₁.setTop (entryFrame m #[(.long qa), (.long qb), (.long qc), (.int ip), (.int iq)] maxLocals)) T87 (mkF m 488 #[.val (.long qa), .second, .val (.long qb), .second, .val (.long qc), .second, .val (.int ip), .val (.int iq), .val (.ref tt0), .val (.ref tt1), .val (.ref tt2), .val (.int fa), .val (.int la), .val (.int fb), .val (.int lb), .val (.int fc), .val (.int lc), .val (.int r), .val (.ref b24), .val (.ref bb0), .val (.ref bb1), .val (.ref bb2), .val (.int (0 : Int32)), .val (.int lb), .val (.int lc), .val (.ref gg)] [(.int lc), (.int fc), (.ref tt2), (.int lb), (.int fb), (.ref tt1), (.int (0 : Int32)), (.int fa), (.ref tt0), (.int (8 : Int32)), (.ref gg)]) := fun tg kg => by
      refine k88 tg ?_
      show Steps p.tables e below (T87.setTop (mkF m 463 #[.val (.long qa), .second, .val (.long qb), .second, .val (.long qc), .second, .val (.int ip), .val (.int iq), .val (.ref tt0), .val (.ref tt1), .val (.ref tt2), .val (.int fa), .val (.int la), .val (.int fb), .val (.int lb), .val (.int fc), .val (.int lc), .val (.int r), .val (.ref b24), .val (.ref bb0), .val (.ref bb1), .val (.ref bb2), .val (.int (0 : Int32)), .val (.int lb), .val (.int lc), .val (.ref gg)] [(.int (1 : Int32))])) tg
      refine XS.ifNo X87.here hx rfl (hb hby at_463) rfl ((if0 _ _).trans (feq (by decide)).1) ?_
      refine XS.aload X87.here hx rfl (hb hby at_466) rfl rfl ?_
      refine XS.bipush X87.here hx rfl (hb hby at_468) ?_
      refine XS.aload X87.here hx rfl (hb hby at_470) rfl rfl ?_
      refine XS.iload X87.here hx rfl (hb hby at_472) rfl ?_
      refine XS.iload X87.here hx rfl (hb hby at_474) rfl ?_
      show Steps p.tables e below (T87.setTop (mkF m 476 #[.val (.long qa), .second, .val (.long qb), .second, .val (.long qc), .second, .val (.int ip), .val (.int iq), .val (.ref tt0), .val (.ref tt1), .val (.ref tt2), .val (.int fa), .val (.int la), .val (.int fb), .val (.int lb), .val (.int fc), .val (.int lc), .val (.int r), .val (.ref b24), .val (.ref bb0), .val (.ref bb1), .val (.ref bb2), .val (.int (0 : Int32)), .val (.int lb), .val (.int lc), .val (.ref gg)] [(.int (0 : Int32)), (.int fa), (.ref tt0), (.int (8 : Int32)), (.ref gg)])) tg
      refine XS.aload X87.here hx rfl (hb hby at_476) rfl rfl ?_
      refine XS.iload X87.here hx rfl (hb hby at_478) rfl ?_
      refine XS.iload X87.here hx rfl (hb hby at_480) rfl ?_
      refine XS.aload X87.here hx rfl (hb hby at_482) rfl rfl ?_
      refine XS.iload X87.here hx rfl (hb hby at_484) rfl ?_
      refine XS.iload X87.here hx rfl (hb hby at_486) rfl ?_
      exact kg
    obtain ⟨v90, T90, h90, Lc90, X90, e90, hQ90, st90⟩ := own_callS X87 hx hZ hown (hw _ (List.mem_of_getElem? (i := 60) rfl)) (hw _ (List.mem_of_getElem? (i := 61) rfl)) (hw _ (List.mem_of_getElem? (i := 2) rfl)) (hw _ (List.mem_of_getElem? (i := 62) rfl)) (by decide) (rm_at l Z a0 hw [] gg (8 : Int32) tt0 fa (0 : Int32) tt1 fb lb tt2 fc lc kg (((((0 : Int32) + la) + lb) + lc) - la) kt0 kt1 kt2 qa qb qc h50 n0 (by omega) f59 f64 f65 f66 i3fa i3fb i3fc (⟨by decide, by decide⟩ : own_in3 0) i3lb i3lc (by omega) ⟨by decide, by decide⟩) e87' (g := (mkF m 488 #[.val (.long qa), .second, .val (.long qb), .second, .val (.long qc), .second, .val (.int ip), .val (.int iq), .val (.ref tt0), .val (.ref tt1), .val (.ref tt2), .val (.int fa), .val (.int la), .val (.int fb), .val (.int lb), .val (.int fc), .val (.int lc), .val (.int r), .val (.ref b24), .val (.ref bb0), .val (.ref bb1), .val (.ref bb2), .val (.int (0 : Int32)), .val (.int lb), .val (.int lc), .val (.ref gg)] [(.int lc), (.int fc), (.ref tt2), (.int lb), (.int fb), (.ref tt1), (.int (0 : Int32)), (.int fa), (.ref tt0), (.int (8 : Int32)), (.ref gg)])) rfl (by rw [hml]; rfl) (argsL := [(.ref gg), (.int (8 : Int32)), (.ref tt0), (.int fa), (.int (0 : Int32)), (.ref tt1), (.int fb), (.int lb), (.ref tt2), (.int fc), (.int lc)]) (rest := []) rfl (lenOf pd_7 rfl) rfl (W := 0) (by show 2 * 0 + _ ≤ _; exact Nat.le_of_eq rfl) (hb hby at_488) (by decide) (by decide) (by decide) (by decide)
    obtain ⟨rfl, Nq90, hs90⟩ := hQ90
    have N90 := Fr.app N87 Nq90
    have e90' : T90.heap = h50 := e90.trans hs90
    have k91 : Rch p e below (s₁.setTop (entryFrame m #[(.long qa), (.long qb), (.long qc), (.int ip), (.int iq)] maxLocals)) T90 (mkF m 491 #[.val (.long qa), .second, .val (.long qb), .second, .val (.long qc), .second, .val (.int ip), .val (.int iq), .val (.ref tt0), .val (.ref tt1), .val (.ref tt2), .val (.int fa), .val (.int la), .val (.int fb), .val (.int lb), .val (.int fc), .val (.int lc), .val (.int r), .val (.ref b24), .val (.ref bb0), .val (.ref bb1), .val (.ref bb2), .val (.int (0 : Int32)), .val (.int lb), .val (.int lc), .val (.ref gg)] [(.int (1 : Int32))]) := fun tg kg => k89 tg (st90 tg kg)
    have k92 : Rch p e below (s₁.setTop (entryFrame m #[(.long qa), (.long qb), (.long qc), (.int ip), (.int iq)] maxLocals)) T90 (mkF m 499 #[.val (.long qa), .second, .val (.long qb), .second, .val (.long qc), .second, .val (.int ip), .val (.int iq), .val (.ref tt0), .val (.ref tt1), .val (.ref tt2), .val (.int fa), .val (.int la), .val (.int fb), .val (.int lb), .val (.int fc), .val (.int lc), .val (.int r), .val (.ref b24), .val (.ref bb0), .val (.ref bb1), .val (.ref bb2), .val (.int (0 : Int32)), .val (.int lb), .val (.int lc), .val (.ref gg)] [(.int (1 : Int32))]) := fun tg kg => by
      refine k91 tg ?_
      show Steps p.tables e below (T90.setTop (mkF m 491 #[.val (.long qa), .second, .val (.long qb), .second, .val (.long qc), .second, .val (.int ip), .val (.int iq), .val (.ref tt0), .val (.ref tt1), .val (.ref tt2), .val (.int fa), .val (.int la), .val (.int fb), .val (.int lb), .val (.int fc), .val (.int lc), .val (.int r), .val (.ref b24), .val (.ref bb0), .val (.ref bb1), .val (.ref bb2), .val (.int (0 : Int32)), .val (.int lb), .val (.int lc), .val (.ref gg)] [(.int (1 : Int32))])) tg
      refine XS.ifNo X90.here hx rfl (hb hby at_491) rfl ((if0 _ _).trans (feq (by decide)).1) ?_
      refine XS.iconst X90.here hx rfl (hb hby at_494) ?_
      refine XS.goto X90.here hx rfl (pc0 := 495) (pc' := 499) rfl (hb hby at_495) (by decide) (by decide) ?_
      exact kg
    obtain ⟨fs93, hr93, hrun93, hended93, hW93, hsame93⟩ := X90.leave (v := some (.int (nar .boolean (1 : Int32)))) (fun h => by rw [Bd.returns] at h; cases h)
    refine ⟨_, _, k92 _ ?_, hrun93, hended93, _, _, rfl, ?_, ⟨_, rfl⟩, hW93, hsame93.mono (by decide) (by decide)⟩
    · exact retN X90 hx (t := .boolean) Bd.returns (by simp) (hb hby at_499) hr93
    · show Q_rm0 Z qa qb qc ip iq h0 n0 _ T90.heap _
      rw [e90']
      exact ⟨rfl, N90⟩
  · have k94 : Rch p e below (s₁.setTop (entryFrame m #[(.long qa), (.long qb), (.long qc), (.int ip), (.int iq)] maxLocals)) T36 (mkF m 158 #[.val (.long qa), .second, .val (.long qb), .second, .val (.long qc), .second, .val (.int ip), .val (.int iq), .val (.ref tt0), .val (.ref tt1), .val (.ref tt2), .val (.int fa), .val (.int la), .val (.int fb), .val (.int lb), .val (.int fc), .val (.int lc), .val (.int r), .val (.ref b24), .val (.ref bb0), .val (.ref bb1), .val (.ref bb2), .unset, .unset, .unset, .unset] [(.int (1 : Int32)), (.int r)]) := fun tg kg => by
      refine k38 tg ?_
      show Steps p.tables e below (T36.setTop (mkF m 142 #[.val (.long qa), .second, .val (.long qb), .second, .val (.long qc), .second, .val (.int ip), .val (.int iq), .val (.ref tt0), .val (.ref tt1), .val (.ref tt2), .val (.int fa), .val (.int la), .val (.int fb), .val (.int lb), .val (.int fc), .val (.int lc), .val (.int r), .val (.ref b24), .val (.ref bb0), .val (.ref bb1), .val (.ref bb2), .unset, .unset, .unset, .unset] [(.int r)])) tg
      refine XS.ifYes X36.here hx rfl (pc0 := 142) (pc' := 155) rfl (hb hby at_142) rfl ((if0 _ _).trans (feq hc142_39).2) (by decide) (by decide) ?_
      refine XS.iload X36.here hx rfl (hb hby at_155) rfl ?_
      refine XS.iconst X36.here hx rfl (hb hby at_157) ?_
      exact kg
    by_cases hc158_95 : r = (1 : Int32)
    · have k96 : Rch p e below (s₁.setTop (entryFrame m #[(.long qa), (.long qb), (.long qc), (.int ip), (.int iq)] maxLocals)) T36 (mkF m 165 #[.val (.long qa), .second, .val (.long qb), .second, .val (.long qc), .second, .val (.int ip), .val (.int iq), .val (.ref tt0), .val (.ref tt1), .val (.ref tt2), .val (.int fa), .val (.int la), .val (.int fb), .val (.int lb), .val (.int fc), .val (.int lc), .val (.int r), .val (.ref b24), .val (.ref bb0), .val (.ref bb1), .val (.ref bb2), .unset, .unset, .unset, .unset] [(.ref bb1), (.ref b24)]) := fun tg kg => by
        refine k94 tg ?_
        show Steps p.tables e below (T36.setTop (mkF m 158 #[.val (.long qa), .second, .val (.long qb), .second, .val (.long qc), .second, .val (.int ip), .val (.int iq), .val (.ref tt0), .val (.ref tt1), .val (.ref tt2), .val (.int fa), .val (.int la), .val (.int fb), .val (.int lb), .val (.int fc), .val (.int lc), .val (.int r), .val (.ref b24), .val (.ref bb0), .val (.ref bb1), .val (.ref bb2), .unset, .unset, .unset, .unset] [(.int (1 : Int32)), (.int r)])) tg
        refine XS.icmpNo X36.here hx rfl (hb hby at_158) rfl (teq hc158_95).2 ?_
        show Steps p.tables e below (T36.setTop (mkF m 161 #[.val (.long qa), .second, .val (.long qb), .second, .val (.long qc), .second, .val (.int ip), .val (.int iq), .val (.ref tt0), .val (.ref tt1), .val (.ref tt2), .val (.int fa), .val (.int la), .val (.int fb), .val (.int lb), .val (.int fc), .val (.int lc), .val (.int r), .val (.ref b24), .val (.ref bb0), .val (.ref bb1), .val (.ref bb2), .unset, .unset, .unset, .unset] [])) tg
        refine XS.aload X36.here hx rfl (hb hby at_161) rfl rfl ?_
        refine XS.aload X36.here hx rfl (hb hby at_163) rfl rfl ?_
        exact kg
      have f98 : Exa Z h36 bb0 "dev/triadic/policy/TextLines$Line" := (fq33_14.keep K36)
      have f99 : Fld Z h36 bb0 "dev/triadic/policy/TextLines$Line" "bytes" "[B" (.ref tt0) := (fq33_15.keep K36 (ninS (by first | exact own_ne (by omega) | assumption | (apply Ne.symm; assumption)) (ninS (by first | exact own_ne (by omega) | assumption | (apply Ne.symm; assumption)) nin0)))
      have f100 : Fld Z h36 bb0 "dev/triadic/policy/TextLines$Line" "from" "I" (.int fa) := (fq33_16.keep K36 (ninS (by first | exact own_ne (by omega) | assumption | (apply Ne.symm; assumption)) (ninS (by first | exact own_ne (by omega) | assumption | (apply Ne.symm; assumption)) nin0)))
      have f101 : Fld Z h36 bb0 "dev/triadic/policy/TextLines$Line" "to" "I" (.int (fa + la)) := (fq33_17.keep K36 (ninS (by first | exact own_ne (by omega) | assumption | (apply Ne.symm; assumption)) (ninS (by first | exact own_ne (by omega) | assumption | (apply Ne.symm; assumption)) nin0)))
      have f102 : Fld Z h36 bb0 "dev/triadic/policy/TextLines$Line" "before" "Ldev/triadic/policy/TextLines$Line;" .null := (fq33_18.keep K36 (ninS (by first | exact own_ne (by omega) | assumption | (apply Ne.symm; assumption)) (ninS (by first | exact own_ne (by omega) | assumption | (apply Ne.symm; assumption)) nin0)))
      have f103 : Fld Z h36 bb0 "dev/triadic/policy/TextLines$Line" "after" "Ldev/triadic/policy/TextLines$Line;" (.ref bb1) := (fq33_19.keep K36 (ninS (by first | exact own_ne (by omega) | assumption | (apply Ne.symm; assumption)) (ninS (by first | exact own_ne (by omega) | assumption | (apply Ne.symm; assumption)) nin0)))
      obtain ⟨v97, T97, h97, Lc97, X97, e97, hQ97, st97⟩ := own_callV X36 hx hZ hown (hw _ (List.mem_of_getElem? (i := 63) rfl)) (hw _ (List.mem_of_getElem? (i := 64) rfl)) (notFace_of_selects (args := #[]) (mvT hZ (hw _ (List.mem_of_getElem? (i := 66) rfl)))) (hw _ (List.mem_of_getElem? (i := 66) rfl)) (hw _ (List.mem_of_getElem? (i := 65) rfl)) (hw _ (List.mem_of_getElem? (i := 67) rfl)) (hw _ (List.mem_of_getElem? (i := 8) rfl)) (by decide) (rm_rem1 l Z a0 hw [] b24 bb1 tt1 fb (fb + lb) lb ((((0 : Int32) + la) + lb) + lc) (.ref bb0) (.ref bb2) bb0 tt0 fa (fa + la) .null bb2 tt2 fc (fc + lc) .null h36 n0 (by omega) fq36_4 fq36_5 fq36_6 fq36_7 fq36_14 fq36_15 fq36_16 fq36_17 fq36_18 fq36_19 (own_asc _ _) (by omega) (own_ne (by omega)) f98 f99 f100 f101 f102 f103 (by omega) (own_ne (by omega)) (own_ne (by omega)) fq36_8 fq36_9 fq36_10 fq36_11 fq36_12 fq36_13 (by omega) (own_ne (by omega)) (own_ne (by omega)) (own_ne (by omega))) e36 fq36_4 (g := (mkF m 165 #[.val (.long qa), .second, .val (.long qb), .second, .val (.long qc), .second, .val (.int ip), .val (.int iq), .val (.ref tt0), .val (.ref tt1), .val (.ref tt2), .val (.int fa), .val (.int la), .val (.int fb), .val (.int lb), .val (.int fc), .val (.int lc), .val (.int r), .val (.ref b24), .val (.ref bb0), .val (.ref bb1), .val (.ref bb2), .unset, .unset, .unset, .unset] [(.ref bb1), (.ref b24)])) rfl (by rw [hml]; rfl) (argsL := [(.ref bb1)]) (rest := []) rfl (lenOf pd_5 rfl) rfl (W := 0) (by show 2 * 0 + _ ≤ _; exact Nat.le_of_eq rfl) (hb hby at_165) (by decide) (by decide) (by decide) (by decide)
      obtain ⟨rfl, Nq97, K97, fq97_3, fq97_4, fq97_5, fq97_6, fq97_7, fq97_8, fq97_9, fq97_10, fq97_11, fq97_12, fq97_13, fq97_14, fq97_15, fq97_16, fq97_17, fq97_18⟩ := hQ97
      have N97 := Fr.app N36 Nq97
      have s97 : h36.size ≤ h97.size := K97.1
      have k104 : Rch p e below (s₁.setTop (entryFrame m #[(.long qa), (.long qb), (.long qc), (.int ip), (.int iq)] maxLocals)) T97 (mkF m 168 #[.val (.long qa), .second, .val (.long qb), .second, .val (.long qc), .second, .val (.int ip), .val (.int iq), .val (.ref tt0), .val (.ref tt1), .val (.ref tt2), .val (.int fa), .val (.int la), .val (.int fb), .val (.int lb), .val (.int fc), .val (.int lc), .val (.int r), .val (.ref b24), .val (.ref bb0), .val (.ref bb1), .val (.ref bb2), .unset, .unset, .unset, .unset] []) := fun tg kg => k96 tg (st97 tg kg)
      have lt_fq97_3 := own_ltN fq97_3.lt
      have lt_fq97_4 := own_ltN fq97_4.lt
      have lt_fq97_5 := own_ltN fq97_5.lt
      have lt_fq97_6 := own_ltN fq97_6.lt
      have lt_fq97_7 := own_ltN fq97_7.lt
      have lt_fq97_8 := own_ltN fq97_8.lt
      have lt_fq97_9 := own_ltN fq97_9.lt
      have lt_fq97_10 := own_ltN fq97_10.lt
      have lt_fq97_11 := own_ltN fq97_11.lt
      have lt_fq97_12 := own_ltN fq97_12.lt
      have lt_fq97_13 := own_ltN fq97_13.lt
      have lt_fq97_14 := own_ltN fq97_14.lt
      have lt_fq97_15 := own_ltN fq97_15.lt
      have lt_fq97_16 := own_ltN fq97_16.lt
      have lt_fq97_17 := own_ltN fq97_17.lt
      have lt_fq97_18 := own_ltN fq97_18.lt
      have hNI : ((((((0 : Int32) + la) + lb) + lc) - lb)).toInt = la.toInt + lc.toInt := by have z := own_sub (x := ((((0 : Int32) + la) + lb) + lc)) (y := lb) (by omega) (by omega) (by omega) (by omega); omega
      have k105 : Rch p e below (s₁.setTop (entryFrame m #[(.long qa), (.long qb), (.long qc), (.int ip), (.int iq)] maxLocals)) T97 (mkF m 227 #[.val (.long qa), .second, .val (.long qb), .second, .val (.long qc), .second, .val (.int ip), .val (.int iq), .val (.ref tt0), .val (.ref tt1), .val (.ref tt2), .val (.int fa), .val (.int la), .val (.int fb), .val (.int lb), .val (.int fc), .val (.int lc), .val (.int r), .val (.ref b24), .val (.ref bb0), .val (.ref bb1), .val (.ref bb2), .val (.int la), .val (.int (0 : Int32)), .val (.int lc), .unset] [(.ref b24)]) := fun tg kg => by
        refine k104 tg ?_
        show Steps p.tables e below (T97.setTop (mkF m 168 #[.val (.long qa), .second, .val (.long qb), .second, .val (.long qc), .second, .val (.int ip), .val (.int iq), .val (.ref tt0), .val (.ref tt1), .val (.ref tt2), .val (.int fa), .val (.int la), .val (.int fb), .val (.int lb), .val (.int fc), .val (.int lc), .val (.int r), .val (.ref b24), .val (.ref bb0), .val (.ref bb1), .val (.ref bb2), .unset, .unset, .unset, .unset] [])) tg
        refine XS.goto X97.here hx rfl (pc0 := 168) (pc' := 184) rfl (hb hby at_168) (by decide) (by decide) ?_
        refine XS.iload X97.here hx rfl (hb hby at_184) rfl ?_
        refine XS.ifYes X97.here hx rfl (pc0 := 186) (pc' := 193) rfl (hb hby at_186) rfl ((if0 _ _).trans (feq hc142_39).2) (by decide) (by decide) ?_
        refine XS.iload X97.here hx rfl (hb hby at_193) rfl ?_
        show Steps p.tables e below (T97.setTop (mkF m 195 #[.val (.long qa), .second, .val (.long qb), .second, .val (.long qc), .second, .val (.int ip), .val (.int iq), .val (.ref tt0), .val (.ref tt1), .val (.ref tt2), .val (.int fa), .val (.int la), .val (.int fb), .val (.int lb), .val (.int fc), .val (.int lc), .val (.int r), .val (.ref b24), .val (.ref bb0), .val (.ref bb1), .val (.ref bb2), .unset, .unset, .unset, .unset] [(.int la)])) tg
        refine XS.istore X97.here hx rfl (hb hby at_195) rfl (l' := #[.val (.long qa), .second, .val (.long qb), .second, .val (.long qc), .second, .val (.int ip), .val (.int iq), .val (.ref tt0), .val (.ref tt1), .val (.ref tt2), .val (.int fa), .val (.int la), .val (.int fb), .val (.int lb), .val (.int fc), .val (.int lc), .val (.int r), .val (.ref b24), .val (.ref bb0), .val (.ref bb1), .val (.ref bb2), .val (.int la), .unset, .unset, .unset]) rfl ?_
        refine XS.iload X97.here hx rfl (hb hby at_197) rfl ?_
        refine XS.iconst X97.here hx rfl (hb hby at_199) ?_
        refine XS.icmpNo X97.here hx rfl (hb hby at_200) rfl (teq hc158_95).2 ?_
        refine XS.iconst X97.here hx rfl (hb hby at_203) ?_
        refine XS.goto X97.here hx rfl (pc0 := 204) (pc' := 209) rfl (hb hby at_204) (by decide) (by decide) ?_
        show Steps p.tables e below (T97.setTop (mkF m 209 #[.val (.long qa), .second, .val (.long qb), .second, .val (.long qc), .second, .val (.int ip), .val (.int iq), .val (.ref tt0), .val (.ref tt1), .val (.ref tt2), .val (.int fa), .val (.int la), .val (.int fb), .val (.int lb), .val (.int fc), .val (.int lc), .val (.int r), .val (.ref b24), .val (.ref bb0), .val (.ref bb1), .val (.ref bb2), .val (.int la), .unset, .unset, .unset] [(.int (0 : Int32))])) tg
        refine XS.istore X97.here hx rfl (hb hby at_209) rfl (l' := #[.val (.long qa), .second, .val (.long qb), .second, .val (.long qc), .second, .val (.int ip), .val (.int iq), .val (.ref tt0), .val (.ref tt1), .val (.ref tt2), .val (.int fa), .val (.int la), .val (.int fb), .val (.int lb), .val (.int fc), .val (.int lc), .val (.int r), .val (.ref b24), .val (.ref bb0), .val (.ref bb1), .val (.ref bb2), .val (.int la), .val (.int (0 : Int32)), .unset, .unset]) rfl ?_
        refine XS.iload X97.here hx rfl (hb hby at_211) rfl ?_
        refine XS.iconst X97.here hx rfl (hb hby at_213) ?_
        refine XS.icmpYes X97.here hx rfl (pc0 := 214) (pc' := 221) rfl (hb hby at_214) rfl (feq (by rw [hc158_95]; decide)).2 (by decide) (by decide) ?_
        refine XS.iload X97.here hx rfl (hb hby at_221) rfl ?_
        refine XS.istore X97.here hx rfl (hb hby at_223) rfl (l' := #[.val (.long qa), .second, .val (.long qb), .second, .val (.long qc), .second, .val (.int ip), .val (.int iq), .val (.ref tt0), .val (.ref tt1), .val (.ref tt2), .val (.int fa), .val (.int la), .val (.int fb), .val (.int lb), .val (.int fc), .val (.int lc), .val (.int r), .val (.ref b24), .val (.ref bb0), .val (.ref bb1), .val (.ref bb2), .val (.int la), .val (.int (0 : Int32)), .val (.int lc), .unset]) rfl ?_
        show Steps p.tables e below (T97.setTop (mkF m 225 #[.val (.long qa), .second, .val (.long qb), .second, .val (.long qc), .second, .val (.int ip), .val (.int iq), .val (.ref tt0), .val (.ref tt1), .val (.ref tt2), .val (.int fa), .val (.int la), .val (.int fb), .val (.int lb), .val (.int fc), .val (.int lc), .val (.int r), .val (.ref b24), .val (.ref bb0), .val (.ref bb1), .val (.ref bb2), .val (.int la), .val (.int (0 : Int32)), .val (.int lc), .unset] [])) tg
        refine XS.aload X97.here hx rfl (hb hby at_225) rfl rfl ?_
        exact kg
      have f107 : Arv Z h97 tt0 kt0 .byte (6 : Int32) (own_dr qa) (.int (0 : Int32)) := (((((((fq2_4.keep K5 nin0).keep K8 nin0).ext E24).keep K30 (ninS (by first | exact own_ne (by omega) | assumption | (apply Ne.symm; assumption)) nin0)).keep K33 (ninS (by first | exact own_ne (by omega) | assumption | (apply Ne.symm; assumption)) (ninS (by first | exact own_ne (by omega) | assumption | (apply Ne.symm; assumption)) nin0))).keep K36 (ninS (by first | exact own_ne (by omega) | assumption | (apply Ne.symm; assumption)) (ninS (by first | exact own_ne (by omega) | assumption | (apply Ne.symm; assumption)) nin0))).keep K97 (ninS (by first | exact own_ne (by omega) | assumption | (apply Ne.symm; assumption)) (ninS (by first | exact own_ne (by omega) | assumption | (apply Ne.symm; assumption)) (ninS (by first | exact own_ne (by omega) | assumption | (apply Ne.symm; assumption)) nin0))))
      have f108 : Arv Z h97 tt2 kt2 .byte (6 : Int32) (own_dr qc) (.int (0 : Int32)) := (((((fq8_4.ext E24).keep K30 (ninS (by first | exact own_ne (by omega) | assumption | (apply Ne.symm; assumption)) nin0)).keep K33 (ninS (by first | exact own_ne (by omega) | assumption | (apply Ne.symm; assumption)) (ninS (by first | exact own_ne (by omega) | assumption | (apply Ne.symm; assumption)) nin0))).keep K36 (ninS (by first | exact own_ne (by omega) | assumption | (apply Ne.symm; assumption)) (ninS (by first | exact own_ne (by omega) | assumption | (apply Ne.symm; assumption)) nin0))).keep K97 (ninS (by first | exact own_ne (by omega) | assumption | (apply Ne.symm; assumption)) (ninS (by first | exact own_ne (by omega) | assumption | (apply Ne.symm; assumption)) (ninS (by first | exact own_ne (by omega) | assumption | (apply Ne.symm; assumption)) nin0))))
      obtain ⟨v106, T106, h106, Lc106, X106, e106, hQ106, st106⟩ := own_callV X97 hx hZ hown (hw _ (List.mem_of_getElem? (i := 49) rfl)) (hw _ (List.mem_of_getElem? (i := 50) rfl)) (notFace_of_selects (args := #[]) (mvT hZ (hw _ (List.mem_of_getElem? (i := 52) rfl)))) (hw _ (List.mem_of_getElem? (i := 52) rfl)) (hw _ (List.mem_of_getElem? (i := 51) rfl)) (hw _ (List.mem_of_getElem? (i := 53) rfl)) (hw _ (List.mem_of_getElem? (i := 8) rfl)) (by decide) (rm_bytes2 l Z a0 hw [] b24 (((((0 : Int32) + la) + lb) + lc) - lb) bb0 tt0 fa la kt0 qa bb2 tt2 fc lc kt2 qc h97 n0 (by omega) fq97_4 fq97_6 fq97_7 fq97_8 fq97_9 fq97_10 fq97_12 f107 i3fa i3la fq97_13 fq97_14 fq97_15 fq97_16 fq97_18 f108 i3fc i3lc hNI) e97 fq97_3 (g := (mkF m 227 #[.val (.long qa), .second, .val (.long qb), .second, .val (.long qc), .second, .val (.int ip), .val (.int iq), .val (.ref tt0), .val (.ref tt1), .val (.ref tt2), .val (.int fa), .val (.int la), .val (.int fb), .val (.int lb), .val (.int fc), .val (.int lc), .val (.int r), .val (.ref b24), .val (.ref bb0), .val (.ref bb1), .val (.ref bb2), .val (.int la), .val (.int (0 : Int32)), .val (.int lc), .unset] [(.ref b24)])) rfl (by rw [hml]; rfl) (argsL := []) (rest := []) rfl (lenOf pd_6 rfl) rfl (W := 0) (by show 2 * 0 + _ ≤ _; exact Nat.le_of_eq rfl) (hb hby at_227) (by decide) (by decide) (by decide) (by decide)
      obtain ⟨gg, kg, rfl, Nq106, K106, ge106_3, fq106_4⟩ := hQ106
      have N106 := Fr.app N97 Nq106
      have s106 : h97.size ≤ h106.size := K106.1
      have k109 : Rch p e below (s₁.setTop (entryFrame m #[(.long qa), (.long qb), (.long qc), (.int ip), (.int iq)] maxLocals)) T106 (mkF m 230 #[.val (.long qa), .second, .val (.long qb), .second, .val (.long qc), .second, .val (.int ip), .val (.int iq), .val (.ref tt0), .val (.ref tt1), .val (.ref tt2), .val (.int fa), .val (.int la), .val (.int fb), .val (.int lb), .val (.int fc), .val (.int lc), .val (.int r), .val (.ref b24), .val (.ref bb0), .val (.ref bb1), .val (.ref bb2), .val (.int la), .val (.int (0 : Int32)), .val (.int lc), .unset] [(.ref gg)]) := fun tg kg => k105 tg (st106 tg kg)
      have lt_fq106_4 := own_ltN fq106_4.lt
      have f110 : Arv Z h106 gg kg .byte (((((0 : Int32) + la) + lb) + lc) - lb) (own_cat qa fa la qb fb (0 : Int32) qc fc lc) (.int (0 : Int32)) := (by have q := fq106_4; unfold own_cat; simp only [own_seg0, List.nil_append, List.append_nil]; exact q)
      have k111 : Rch p e below (s₁.setTop (entryFrame m #[(.long qa), (.long qb), (.long qc), (.int ip), (.int iq)] maxLocals)) T106 (mkF m 234 #[.val (.long qa), .second, .val (.long qb), .second, .val (.long qc), .second, .val (.int ip), .val (.int iq), .val (.ref tt0), .val (.ref tt1), .val (.ref tt2), .val (.int fa), .val (.int la), .val (.int fb), .val (.int lb), .val (.int fc), .val (.int lc), .val (.int r), .val (.ref b24), .val (.ref bb0), .val (.ref bb1), .val (.ref bb2), .val (.int la), .val (.int (0 : Int32)), .val (.int lc), .val (.ref gg)] [(.ref gg)]) := fun tg kg => by
        refine k109 tg ?_
        show Steps p.tables e below (T106.setTop (mkF m 230 #[.val (.long qa), .second, .val (.long qb), .second, .val (.long qc), .second, .val (.int ip), .val (.int iq), .val (.ref tt0), .val (.ref tt1), .val (.ref tt2), .val (.int fa), .val (.int la), .val (.int fb), .val (.int lb), .val (.int fc), .val (.int lc), .val (.int r), .val (.ref b24), .val (.ref bb0), .val (.ref bb1), .val (.ref bb2), .val (.int la), .val (.int (0 : Int32)), .val (.int lc), .unset] [(.ref gg)])) tg
        refine XS.astore X106.here hx rfl (hb hby at_230) rfl rfl (l' := #[.val (.long qa), .second, .val (.long qb), .second, .val (.long qc), .second, .val (.int ip), .val (.int iq), .val (.ref tt0), .val (.ref tt1), .val (.ref tt2), .val (.int fa), .val (.int la), .val (.int fb), .val (.int lb), .val (.int fc), .val (.int lc), .val (.int r), .val (.ref b24), .val (.ref bb0), .val (.ref bb1), .val (.ref bb2), .val (.int la), .val (.int (0 : Int32)), .val (.int lc), .val (.ref gg)]) rfl ?_
        refine XS.aload X106.here hx rfl (hb hby at_232) rfl rfl ?_
        exact kg
      obtain ⟨cl112, Ar112, q112, S112, M112, H112, G112⟩ := id f110
      have s1 := own_add (x := la) (y := (0 : Int32)) (by first | decide | omega) (by first | decide | omega) (by first | decide | omega) (by first | decide | omega)
      have hz := own_z
      have s2 := own_add (x := (la + (0 : Int32))) (y := lc) (by omega) (by omega) (by first | decide | omega) (by first | decide | omega)
      have k113 : Rch p e below (s₁.setTop (entryFrame m #[(.long qa), (.long qb), (.long qc), (.int ip), (.int iq)] maxLocals)) T106 (mkF m 269 #[.val (.long qa), .second, .val (.long qb), .second, .val (.long qc), .second, .val (.int ip), .val (.int iq), .val (.ref tt0), .val (.ref tt1), .val (.ref tt2), .val (.int fa), .val (.int la), .val (.int fb), .val (.int lb), .val (.int fc), .val (.int lc), .val (.int r), .val (.ref b24), .val (.ref bb0), .val (.ref bb1), .val (.ref bb2), .val (.int la), .val (.int (0 : Int32)), .val (.int lc), .val (.ref gg)] [(.int lc), (.int fc), (.ref tt2), (.int (0 : Int32)), (.int fb), (.ref tt1), (.int la), (.int fa), (.ref tt0), (.int (0 : Int32)), (.ref gg)]) := fun tg kg => by
        refine k111 tg ?_
        show Steps p.tables e below (T106.setTop (mkF m 234 #[.val (.long qa), .second, .val (.long qb), .second, .val (.long qc), .second, .val (.int ip), .val (.int iq), .val (.ref tt0), .val (.ref tt1), .val (.ref tt2), .val (.int fa), .val (.int la), .val (.int fb), .val (.int lb), .val (.int fc), .val (.int lc), .val (.int r), .val (.ref b24), .val (.ref bb0), .val (.ref bb1), .val (.ref bb2), .val (.int la), .val (.int (0 : Int32)), .val (.int lc), .val (.ref gg)] [(.ref gg)])) tg
        refine X106.arraylength hx (by rw [e106]; exact Ar112.1) (State.isArrayOf_alike hZ.alike Ar112.2.1) (g := (mkF m 234 #[.val (.long qa), .second, .val (.long qb), .second, .val (.long qc), .second, .val (.int ip), .val (.int iq), .val (.ref tt0), .val (.ref tt1), .val (.ref tt2), .val (.int fa), .val (.int la), .val (.int fb), .val (.int lb), .val (.int fc), .val (.int lc), .val (.int r), .val (.ref b24), .val (.ref bb0), .val (.ref bb1), .val (.ref bb2), .val (.int la), .val (.int (0 : Int32)), .val (.int lc), .val (.ref gg)] [(.ref gg)])) rfl rfl (hb hby at_234) _ ?_
        rw [len_of S112 M112]
        refine XS.iload X106.here hx rfl (hb hby at_235) rfl ?_
        refine XS.iload X106.here hx rfl (hb hby at_237) rfl ?_
        show Steps p.tables e below (T106.setTop (mkF m 239 #[.val (.long qa), .second, .val (.long qb), .second, .val (.long qc), .second, .val (.int ip), .val (.int iq), .val (.ref tt0), .val (.ref tt1), .val (.ref tt2), .val (.int fa), .val (.int la), .val (.int fb), .val (.int lb), .val (.int fc), .val (.int lc), .val (.int r), .val (.ref b24), .val (.ref bb0), .val (.ref bb1), .val (.ref bb2), .val (.int la), .val (.int (0 : Int32)), .val (.int lc), .val (.ref gg)] [(.int (0 : Int32)), (.int la), (.int (((((0 : Int32) + la) + lb) + lc) - lb))])) tg
        refine XS.iadd X106.here hx rfl (hb hby at_239) rfl ?_
        refine XS.iload X106.here hx rfl (hb hby at_240) rfl ?_
        refine XS.iadd X106.here hx rfl (hb hby at_242) rfl ?_
        refine XS.icmpYes X106.here hx rfl (pc0 := 243) (pc' := 248) rfl (hb hby at_243) rfl (teq (Int32.toInt_inj.mp (by omega))).1 (by decide) (by decide) ?_
        refine XS.aload X106.here hx rfl (hb hby at_248) rfl rfl ?_
        refine XS.iconst X106.here hx rfl (hb hby at_250) ?_
        show Steps p.tables e below (T106.setTop (mkF m 251 #[.val (.long qa), .second, .val (.long qb), .second, .val (.long qc), .second, .val (.int ip), .val (.int iq), .val (.ref tt0), .val (.ref tt1), .val (.ref tt2), .val (.int fa), .val (.int la), .val (.int fb), .val (.int lb), .val (.int fc), .val (.int lc), .val (.int r), .val (.ref b24), .val (.ref bb0), .val (.ref bb1), .val (.ref bb2), .val (.int la), .val (.int (0 : Int32)), .val (.int lc), .val (.ref gg)] [(.int (0 : Int32)), (.ref gg)])) tg
        refine XS.aload X106.here hx rfl (hb hby at_251) rfl rfl ?_
        refine XS.iload X106.here hx rfl (hb hby at_253) rfl ?_
        refine XS.iload X106.here hx rfl (hb hby at_255) rfl ?_
        refine XS.aload X106.here hx rfl (hb hby at_257) rfl rfl ?_
        refine XS.iload X106.here hx rfl (hb hby at_259) rfl ?_
        refine XS.iload X106.here hx rfl (hb hby at_261) rfl ?_
        show Steps p.tables e below (T106.setTop (mkF m 263 #[.val (.long qa), .second, .val (.long qb), .second, .val (.long qc), .second, .val (.int ip), .val (.int iq), .val (.ref tt0), .val (.ref tt1), .val (.ref tt2), .val (.int fa), .val (.int la), .val (.int fb), .val (.int lb), .val (.int fc), .val (.int lc), .val (.int r), .val (.ref b24), .val (.ref bb0), .val (.ref bb1), .val (.ref bb2), .val (.int la), .val (.int (0 : Int32)), .val (.int lc), .val (.ref gg)] [(.int (0 : Int32)), (.int fb), (.ref tt1), (.int la), (.int fa), (.ref tt0), (.int (0 : Int32)), (.ref gg)])) tg
        refine XS.aload X106.here hx rfl (hb hby at_263) rfl rfl ?_
        refine XS.iload X106.here hx rfl (hb hby at_265) rfl ?_
        refine XS.iload X106.here hx rfl (hb hby at_267) rfl ?_
        exact kg
      have f115 : Arv Z h106 tt0 kt0 .byte (6 : Int32) (own_dr qa) (.int (0 : Int32)) := (f107.keep K106 nin0)
      have f116 : Arv Z h106 tt1 kt1 .byte (6 : Int32) (own_dr qb) (.int (0 : Int32)) := (((((((fq5_4.keep K8 nin0).ext E24).keep K30 (ninS (by first | exact own_ne (by omega) | assumption | (apply Ne.symm; assumption)) nin0)).keep K33 (ninS (by first | exact own_ne (by omega) | assumption | (apply Ne.symm; assumption)) (ninS (by first | exact own_ne (by omega) | assumption | (apply Ne.symm; assumption)) nin0))).keep K36 (ninS (by first | exact own_ne (by omega) | assumption | (apply Ne.symm; assumption)) (ninS (by first | exact own_ne (by omega) | assumption | (apply Ne.symm; assumption)) nin0))).keep K97 (ninS (by first | exact own_ne (by omega) | assumption | (apply Ne.symm; assumption)) (ninS (by first | exact own_ne (by omega) | assumption | (apply Ne.symm; assumption)) (ninS (by first | exact own_ne (by omega) | assumption | (apply Ne.symm; assumption)) nin0)))).keep K106 nin0)
      have f117 : Arv Z h106 tt2 kt2 .byte (6 : Int32) (own_dr qc) (.int (0 : Int32)) := (f108.keep K106 nin0)
      obtain ⟨v114, T114, h114, Lc114, X114, e114, hQ114, st114⟩ := own_callS X106 hx hZ hown (hw _ (List.mem_of_getElem? (i := 60) rfl)) (hw _ (List.mem_of_getElem? (i := 61) rfl)) (hw _ (List.mem_of_getElem? (i := 2) rfl)) (hw _ (List.mem_of_getElem? (i := 62) rfl)) (by decide) (rm_at l Z a0 hw [] gg (0 : Int32) tt0 fa la tt1 fb (0 : Int32) tt2 fc lc kg (((((0 : Int32) + la) + lb) + lc) - lb) kt0 kt1 kt2 qa qb qc h106 n0 (by omega) f110 f115 f116 f117 i3fa i3fb i3fc i3la (⟨by decide, by decide⟩ : own_in3 0) i3lc (by omega) ⟨by decide, by decide⟩) e106 (g := (mkF m 269 #[.val (.long qa), .second, .val (.long qb), .second, .val (.long qc), .second, .val (.int ip), .val (.int iq), .val (.ref tt0), .val (.ref tt1), .val (.ref tt2), .val (.int fa), .val (.int la), .val (.int fb), .val (.int lb), .val (.int fc), .val (.int lc), .val (.int r), .val (.ref b24), .val (.ref bb0), .val (.ref bb1), .val (.ref bb2), .val (.int la), .val (.int (0 : Int32)), .val (.int lc), .val (.ref gg)] [(.int lc), (.int fc), (.ref tt2), (.int (0 : Int32)), (.int fb), (.ref tt1), (.int la), (.int fa), (.ref tt0), (.int (0 : Int32)), (.ref gg)])) rfl (by rw [hml]; rfl) (argsL := [(.ref gg), (.int (0 : Int32)), (.ref tt0), (.int fa), (.int la), (.ref tt1), (.int fb), (.int (0 : Int32)), (.ref tt2), (.int fc), (.int lc)]) (rest := []) rfl (lenOf pd_7 rfl) rfl (W := 0) (by show 2 * 0 + _ ≤ _; exact Nat.le_of_eq rfl) (hb hby at_269) (by decide) (by decide) (by decide) (by decide)
      obtain ⟨rfl, Nq114, hs114⟩ := hQ114
      have N114 := Fr.app N106 Nq114
      have e114' : T114.heap = h106 := e114.trans hs114
      have k118 : Rch p e below (s₁.setTop (entryFrame m #[(.long qa), (.long qb), (.long qc), (.int ip), (.int iq)] maxLocals)) T114 (mkF m 272 #[.val (.long qa), .second, .val (.long qb), .second, .val (.long qc), .second, .val (.int ip), .val (.int iq), .val (.ref tt0), .val (.ref tt1), .val (.ref tt2), .val (.int fa), .val (.int la), .val (.int fb), .val (.int lb), .val (.int fc), .val (.int lc), .val (.int r), .val (.ref b24), .val (.ref bb0), .val (.ref bb1), .val (.ref bb2), .val (.int la), .val (.int (0 : Int32)), .val (.int lc), .val (.ref gg)] [(.int (1 : Int32))]) := fun tg kg => k113 tg (st114 tg kg)
      have k119 : Rch p e below (s₁.setTop (entryFrame m #[(.long qa), (.long qb), (.long qc), (.int ip), (.int iq)] maxLocals)) T114 (mkF m 296 #[.val (.long qa), .second, .val (.long qb), .second, .val (.long qc), .second, .val (.int ip), .val (.int iq), .val (.ref tt0), .val (.ref tt1), .val (.ref tt2), .val (.int fa), .val (.int la), .val (.int fb), .val (.int lb), .val (.int fc), .val (.int lc), .val (.int r), .val (.ref b24), .val (.ref bb0), .val (.ref bb1), .val (.ref bb2), .val (.int la), .val (.int (0 : Int32)), .val (.int lc), .val (.ref gg)] [(.int lc), (.int fc), (.ref tt2), (.int (0 : Int32)), (.int fb), (.ref tt1), (.int la), (.int fa), (.ref tt0), (.int (1 : Int32)), (.ref gg)]) := fun tg kg => by
        refine k118 tg ?_
        show Steps p.tables e below (T114.setTop (mkF m 272 #[.val (.long qa), .second, .val (.long qb), .second, .val (.long qc), .second, .val (.int ip), .val (.int iq), .val (.ref tt0), .val (.ref tt1), .val (.ref tt2), .val (.int fa), .val (.int la), .val (.int fb), .val (.int lb), .val (.int fc), .val (.int lc), .val (.int r), .val (.ref b24), .val (.ref bb0), .val (.ref bb1), .val (.ref bb2), .val (.int la), .val (.int (0 : Int32)), .val (.int lc), .val (.ref gg)] [(.int (1 : Int32))])) tg
        refine XS.ifNo X114.here hx rfl (hb hby at_272) rfl ((if0 _ _).trans (feq (by decide)).1) ?_
        refine XS.aload X114.here hx rfl (hb hby at_275) rfl rfl ?_
        refine XS.iconst X114.here hx rfl (hb hby at_277) ?_
        show Steps p.tables e below (T114.setTop (mkF m 278 #[.val (.long qa), .second, .val (.long qb), .second, .val (.long qc), .second, .val (.int ip), .val (.int iq), .val (.ref tt0), .val (.ref tt1), .val (.ref tt2), .val (.int fa), .val (.int la), .val (.int fb), .val (.int lb), .val (.int fc), .val (.int lc), .val (.int r), .val (.ref b24), .val (.ref bb0), .val (.ref bb1), .val (.ref bb2), .val (.int la), .val (.int (0 : Int32)), .val (.int lc), .val (.ref gg)] [(.int (1 : Int32)), (.ref gg)])) tg
        refine XS.aload X114.here hx rfl (hb hby at_278) rfl rfl ?_
        refine XS.iload X114.here hx rfl (hb hby at_280) rfl ?_
        refine XS.iload X114.here hx rfl (hb hby at_282) rfl ?_
        refine XS.aload X114.here hx rfl (hb hby at_284) rfl rfl ?_
        refine XS.iload X114.here hx rfl (hb hby at_286) rfl ?_
        refine XS.iload X114.here hx rfl (hb hby at_288) rfl ?_
        show Steps p.tables e below (T114.setTop (mkF m 290 #[.val (.long qa), .second, .val (.long qb), .second, .val (.long qc), .second, .val (.int ip), .val (.int iq), .val (.ref tt0), .val (.ref tt1), .val (.ref tt2), .val (.int fa), .val (.int la), .val (.int fb), .val (.int lb), .val (.int fc), .val (.int lc), .val (.int r), .val (.ref b24), .val (.ref bb0), .val (.ref bb1), .val (.ref bb2), .val (.int la), .val (.int (0 : Int32)), .val (.int lc), .val (.ref gg)] [(.int (0 : Int32)), (.int fb), (.ref tt1), (.int la), (.int fa), (.ref tt0), (.int (1 : Int32)), (.ref gg)])) tg
        refine XS.aload X114.here hx rfl (hb hby at_290) rfl rfl ?_
        refine XS.iload X114.here hx rfl (hb hby at_292) rfl ?_
        refine XS.iload X114.here hx rfl (hb hby at_294) rfl ?_
        exact kg
      obtain ⟨v120, T120, h120, Lc120, X120, e120, hQ120, st120⟩ := own_callS X114 hx hZ hown (hw _ (List.mem_of_getElem? (i := 60) rfl)) (hw _ (List.mem_of_getElem? (i := 61) rfl)) (hw _ (List.mem_of_getElem? (i := 2) rfl)) (hw _ (List.mem_of_getElem? (i := 62) rfl)) (by decide) (rm_at l Z a0 hw [] gg (1 : Int32) tt0 fa la tt1 fb (0 : Int32) tt2 fc lc kg (((((0 : Int32) + la) + lb) + lc) - lb) kt0 kt1 kt2 qa qb qc h106 n0 (by omega) f110 f115 f116 f117 i3fa i3fb i3fc i3la (⟨by decide, by decide⟩ : own_in3 0) i3lc (by omega) ⟨by decide, by decide⟩) e114' (g := (mkF m 296 #[.val (.long qa), .second, .val (.long qb), .second, .val (.long qc), .second, .val (.int ip), .val (.int iq), .val (.ref tt0), .val (.ref tt1), .val (.ref tt2), .val (.int fa), .val (.int la), .val (.int fb), .val (.int lb), .val (.int fc), .val (.int lc), .val (.int r), .val (.ref b24), .val (.ref bb0), .val (.ref bb1), .val (.ref bb2), .val (.int la), .val (.int (0 : Int32)), .val (.int lc), .val (.ref gg)] [(.int lc), (.int fc), (.ref tt2), (.int (0 : Int32)), (.int fb), (.ref tt1), (.int la), (.int fa), (.ref tt0), (.int (1 : Int32)), (.ref gg)])) rfl (by rw [hml]; rfl) (argsL := [(.ref gg), (.int (1 : Int32)), (.ref tt0), (.int fa), (.int la), (.ref tt1), (.int fb), (.int (0 : Int32)), (.ref tt2), (.int fc), (.int lc)]) (rest := []) rfl (lenOf pd_7 rfl) rfl (W := 0) (by show 2 * 0 + _ ≤ _; exact Nat.le_of_eq rfl) (hb hby at_296) (by decide) (by decide) (by decide) (by decide)
      obtain ⟨rfl, Nq120, hs120⟩ := hQ120
      have N120 := Fr.app N114 Nq120
      have e120' : T120.heap = h106 := e120.trans hs120
      have k121 : Rch p e below (s₁.setTop (entryFrame m #[(.long qa), (.long qb), (.long qc), (.int ip), (.int iq)] maxLocals)) T120 (mkF m 299 #[.val (.long qa), .second, .val (.long qb), .second, .val (.long qc), .second, .val (.int ip), .val (.int iq), .val (.ref tt0), .val (.ref tt1), .val (.ref tt2), .val (.int fa), .val (.int la), .val (.int fb), .val (.int lb), .val (.int fc), .val (.int lc), .val (.int r), .val (.ref b24), .val (.ref bb0), .val (.ref bb1), .val (.ref bb2), .val (.int la), .val (.int (0 : Int32)), .val (.int lc), .val (.ref gg)] [(.int (1 : Int32))]) := fun tg kg => k119 tg (st120 tg kg)
      have k122 : Rch p e below (s₁.setTop (entryFrame m #[(.long qa), (.long qb), (.long qc), (.int ip), (.int iq)] maxLocals)) T120 (mkF m 323 #[.val (.long qa), .second, .val (.long qb), .second, .val (.long qc), .second, .val (.int ip), .val (.int iq), .val (.ref tt0), .val (.ref tt1), .val (.ref tt2), .val (.int fa), .val (.int la), .val (.int fb), .val (.int lb), .val (.int fc), .val (.int lc), .val (.int r), .val (.ref b24), .val (.ref bb0), .val (.ref bb1), .val (.ref bb2), .val (.int la), .val (.int (0 : Int32)), .val (.int lc), .val (.ref gg)] [(.int lc), (.int fc), (.ref tt2), (.int (0 : Int32)), (.int fb), (.ref tt1), (.int la), (.int fa), (.ref tt0), (.int (2 : Int32)), (.ref gg)]) := fun tg kg => by
        refine k121 tg ?_
        show Steps p.tables e below (T120.setTop (mkF m 299 #[.val (.long qa), .second, .val (.long qb), .second, .val (.long qc), .second, .val (.int ip), .val (.int iq), .val (.ref tt0), .val (.ref tt1), .val (.ref tt2), .val (.int fa), .val (.int la), .val (.int fb), .val (.int lb), .val (.int fc), .val (.int lc), .val (.int r), .val (.ref b24), .val (.ref bb0), .val (.ref bb1), .val (.ref bb2), .val (.int la), .val (.int (0 : Int32)), .val (.int lc), .val (.ref gg)] [(.int (1 : Int32))])) tg
        refine XS.ifNo X120.here hx rfl (hb hby at_299) rfl ((if0 _ _).trans (feq (by decide)).1) ?_
        refine XS.aload X120.here hx rfl (hb hby at_302) rfl rfl ?_
        refine XS.iconst X120.here hx rfl (hb hby at_304) ?_
        show Steps p.tables e below (T120.setTop (mkF m 305 #[.val (.long qa), .second, .val (.long qb), .second, .val (.long qc), .second, .val (.int ip), .val (.int iq), .val (.ref tt0), .val (.ref tt1), .val (.ref tt2), .val (.int fa), .val (.int la), .val (.int fb), .val (.int lb), .val (.int fc), .val (.int lc), .val (.int r), .val (.ref b24), .val (.ref bb0), .val (.ref bb1), .val (.ref bb2), .val (.int la), .val (.int (0 : Int32)), .val (.int lc), .val (.ref gg)] [(.int (2 : Int32)), (.ref gg)])) tg
        refine XS.aload X120.here hx rfl (hb hby at_305) rfl rfl ?_
        refine XS.iload X120.here hx rfl (hb hby at_307) rfl ?_
        refine XS.iload X120.here hx rfl (hb hby at_309) rfl ?_
        refine XS.aload X120.here hx rfl (hb hby at_311) rfl rfl ?_
        refine XS.iload X120.here hx rfl (hb hby at_313) rfl ?_
        refine XS.iload X120.here hx rfl (hb hby at_315) rfl ?_
        show Steps p.tables e below (T120.setTop (mkF m 317 #[.val (.long qa), .second, .val (.long qb), .second, .val (.long qc), .second, .val (.int ip), .val (.int iq), .val (.ref tt0), .val (.ref tt1), .val (.ref tt2), .val (.int fa), .val (.int la), .val (.int fb), .val (.int lb), .val (.int fc), .val (.int lc), .val (.int r), .val (.ref b24), .val (.ref bb0), .val (.ref bb1), .val (.ref bb2), .val (.int la), .val (.int (0 : Int32)), .val (.int lc), .val (.ref gg)] [(.int (0 : Int32)), (.int fb), (.ref tt1), (.int la), (.int fa), (.ref tt0), (.int (2 : Int32)), (.ref gg)])) tg
        refine XS.aload X120.here hx rfl (hb hby at_317) rfl rfl ?_
        refine XS.iload X120.here hx rfl (hb hby at_319) rfl ?_
        refine XS.iload X120.here hx rfl (hb hby at_321) rfl ?_
        exact kg
      obtain ⟨v123, T123, h123, Lc123, X123, e123, hQ123, st123⟩ := own_callS X120 hx hZ hown (hw _ (List.mem_of_getElem? (i := 60) rfl)) (hw _ (List.mem_of_getElem? (i := 61) rfl)) (hw _ (List.mem_of_getElem? (i := 2) rfl)) (hw _ (List.mem_of_getElem? (i := 62) rfl)) (by decide) (rm_at l Z a0 hw [] gg (2 : Int32) tt0 fa la tt1 fb (0 : Int32) tt2 fc lc kg (((((0 : Int32) + la) + lb) + lc) - lb) kt0 kt1 kt2 qa qb qc h106 n0 (by omega) f110 f115 f116 f117 i3fa i3fb i3fc i3la (⟨by decide, by decide⟩ : own_in3 0) i3lc (by omega) ⟨by decide, by decide⟩) e120' (g := (mkF m 323 #[.val (.long qa), .second, .val (.long qb), .second, .val (.long qc), .second, .val (.int ip), .val (.int iq), .val (.ref tt0), .val (.ref tt1), .val (.ref tt2), .val (.int fa), .val (.int la), .val (.int fb), .val (.int lb), .val (.int fc), .val (.int lc), .val (.int r), .val (.ref b24), .val (.ref bb0), .val (.ref bb1), .val (.ref bb2), .val (.int la), .val (.int (0 : Int32)), .val (.int lc), .val (.ref gg)] [(.int lc), (.int fc), (.ref tt2), (.int (0 : Int32)), (.int fb), (.ref tt1), (.int la), (.int fa), (.ref tt0), (.int (2 : Int32)), (.ref gg)])) rfl (by rw [hml]; rfl) (argsL := [(.ref gg), (.int (2 : Int32)), (.ref tt0), (.int fa), (.int la), (.ref tt1), (.int fb), (.int (0 : Int32)), (.ref tt2), (.int fc), (.int lc)]) (rest := []) rfl (lenOf pd_7 rfl) rfl (W := 0) (by show 2 * 0 + _ ≤ _; exact Nat.le_of_eq rfl) (hb hby at_323) (by decide) (by decide) (by decide) (by decide)
      obtain ⟨rfl, Nq123, hs123⟩ := hQ123
      have N123 := Fr.app N120 Nq123
      have e123' : T123.heap = h106 := e123.trans hs123
      have k124 : Rch p e below (s₁.setTop (entryFrame m #[(.long qa), (.long qb), (.long qc), (.int ip), (.int iq)] maxLocals)) T123 (mkF m 326 #[.val (.long qa), .second, .val (.long qb), .second, .val (.long qc), .second, .val (.int ip), .val (.int iq), .val (.ref tt0), .val (.ref tt1), .val (.ref tt2), .val (.int fa), .val (.int la), .val (.int fb), .val (.int lb), .val (.int fc), .val (.int lc), .val (.int r), .val (.ref b24), .val (.ref bb0), .val (.ref bb1), .val (.ref bb2), .val (.int la), .val (.int (0 : Int32)), .val (.int lc), .val (.ref gg)] [(.int (1 : Int32))]) := fun tg kg => k122 tg (st123 tg kg)
      have k125 : Rch p e below (s₁.setTop (entryFrame m #[(.long qa), (.long qb), (.long qc), (.int ip), (.int iq)] maxLocals)) T123 (mkF m 350 #[.val (.long qa), .second, .val (.long qb), .second, .val (.long qc), .second, .val (.int ip), .val (.int iq), .val (.ref tt0), .val (.ref tt1), .val (.ref tt2), .val (.int fa), .val (.int la), .val (.int fb), .val (.int lb), .val (.int fc), .val (.int lc), .val (.int r), .val (.ref b24), .val (.ref bb0), .val (.ref bb1), .val (.ref bb2), .val (.int la), .val (.int (0 : Int32)), .val (.int lc), .val (.ref gg)] [(.int lc), (.int fc), (.ref tt2), (.int (0 : Int32)), (.int fb), (.ref tt1), (.int la), (.int fa), (.ref tt0), (.int (3 : Int32)), (.ref gg)]) := fun tg kg => by
        refine k124 tg ?_
        show Steps p.tables e below (T123.setTop (mkF m 326 #[.val (.long qa), .second, .val (.long qb), .second, .val (.long qc), .second, .val (.int ip), .val (.int iq), .val (.ref tt0), .val (.ref tt1), .val (.ref tt2), .val (.int fa), .val (.int la), .val (.int fb), .val (.int lb), .val (.int fc), .val (.int lc), .val (.int r), .val (.ref b24), .val (.ref bb0), .val (.ref bb1), .val (.ref bb2), .val (.int la), .val (.int (0 : Int32)), .val (.int lc), .val (.ref gg)] [(.int (1 : Int32))])) tg
        refine XS.ifNo X123.here hx rfl (hb hby at_326) rfl ((if0 _ _).trans (feq (by decide)).1) ?_
        refine XS.aload X123.here hx rfl (hb hby at_329) rfl rfl ?_
        refine XS.iconst X123.here hx rfl (hb hby at_331) ?_
        show Steps p.tables e below (T123.setTop (mkF m 332 #[.val (.long qa), .second, .val (.long qb), .second, .val (.long qc), .second, .val (.int ip), .val (.int iq), .val (.ref tt0), .val (.ref tt1), .val (.ref tt2), .val (.int fa), .val (.int la), .val (.int fb), .val (.int lb), .val (.int fc), .val (.int lc), .val (.int r), .val (.ref b24), .val (.ref bb0), .val (.ref bb1), .val (.ref bb2), .val (.int la), .val (.int (0 : Int32)), .val (.int lc), .val (.ref gg)] [(.int (3 : Int32)), (.ref gg)])) tg
        refine XS.aload X123.here hx rfl (hb hby at_332) rfl rfl ?_
        refine XS.iload X123.here hx rfl (hb hby at_334) rfl ?_
        refine XS.iload X123.here hx rfl (hb hby at_336) rfl ?_
        refine XS.aload X123.here hx rfl (hb hby at_338) rfl rfl ?_
        refine XS.iload X123.here hx rfl (hb hby at_340) rfl ?_
        refine XS.iload X123.here hx rfl (hb hby at_342) rfl ?_
        show Steps p.tables e below (T123.setTop (mkF m 344 #[.val (.long qa), .second, .val (.long qb), .second, .val (.long qc), .second, .val (.int ip), .val (.int iq), .val (.ref tt0), .val (.ref tt1), .val (.ref tt2), .val (.int fa), .val (.int la), .val (.int fb), .val (.int lb), .val (.int fc), .val (.int lc), .val (.int r), .val (.ref b24), .val (.ref bb0), .val (.ref bb1), .val (.ref bb2), .val (.int la), .val (.int (0 : Int32)), .val (.int lc), .val (.ref gg)] [(.int (0 : Int32)), (.int fb), (.ref tt1), (.int la), (.int fa), (.ref tt0), (.int (3 : Int32)), (.ref gg)])) tg
        refine XS.aload X123.here hx rfl (hb hby at_344) rfl rfl ?_
        refine XS.iload X123.here hx rfl (hb hby at_346) rfl ?_
        refine XS.iload X123.here hx rfl (hb hby at_348) rfl ?_
        exact kg
      obtain ⟨v126, T126, h126, Lc126, X126, e126, hQ126, st126⟩ := own_callS X123 hx hZ hown (hw _ (List.mem_of_getElem? (i := 60) rfl)) (hw _ (List.mem_of_getElem? (i := 61) rfl)) (hw _ (List.mem_of_getElem? (i := 2) rfl)) (hw _ (List.mem_of_getElem? (i := 62) rfl)) (by decide) (rm_at l Z a0 hw [] gg (3 : Int32) tt0 fa la tt1 fb (0 : Int32) tt2 fc lc kg (((((0 : Int32) + la) + lb) + lc) - lb) kt0 kt1 kt2 qa qb qc h106 n0 (by omega) f110 f115 f116 f117 i3fa i3fb i3fc i3la (⟨by decide, by decide⟩ : own_in3 0) i3lc (by omega) ⟨by decide, by decide⟩) e123' (g := (mkF m 350 #[.val (.long qa), .second, .val (.long qb), .second, .val (.long qc), .second, .val (.int ip), .val (.int iq), .val (.ref tt0), .val (.ref tt1), .val (.ref tt2), .val (.int fa), .val (.int la), .val (.int fb), .val (.int lb), .val (.int fc), .val (.int lc), .val (.int r), .val (.ref b24), .val (.ref bb0), .val (.ref bb1), .val (.ref bb2), .val (.int la), .val (.int (0 : Int32)), .val (.int lc), .val (.ref gg)] [(.int lc), (.int fc), (.ref tt2), (.int (0 : Int32)), (.int fb), (.ref tt1), (.int la), (.int fa), (.ref tt0), (.int (3 : Int32)), (.ref gg)])) rfl (by rw [hml]; rfl) (argsL := [(.ref gg), (.int (3 : Int32)), (.ref tt0), (.int fa), (.int la), (.ref tt1), (.int fb), (.int (0 : Int32)), (.ref tt2), (.int fc), (.int lc)]) (rest := []) rfl (lenOf pd_7 rfl) rfl (W := 0) (by show 2 * 0 + _ ≤ _; exact Nat.le_of_eq rfl) (hb hby at_350) (by decide) (by decide) (by decide) (by decide)
      obtain ⟨rfl, Nq126, hs126⟩ := hQ126
      have N126 := Fr.app N123 Nq126
      have e126' : T126.heap = h106 := e126.trans hs126
      have k127 : Rch p e below (s₁.setTop (entryFrame m #[(.long qa), (.long qb), (.long qc), (.int ip), (.int iq)] maxLocals)) T126 (mkF m 353 #[.val (.long qa), .second, .val (.long qb), .second, .val (.long qc), .second, .val (.int ip), .val (.int iq), .val (.ref tt0), .val (.ref tt1), .val (.ref tt2), .val (.int fa), .val (.int la), .val (.int fb), .val (.int lb), .val (.int fc), .val (.int lc), .val (.int r), .val (.ref b24), .val (.ref bb0), .val (.ref bb1), .val (.ref bb2), .val (.int la), .val (.int (0 : Int32)), .val (.int lc), .val (.ref gg)] [(.int (1 : Int32))]) := fun tg kg => k125 tg (st126 tg kg)
      have k128 : Rch p e below (s₁.setTop (entryFrame m #[(.long qa), (.long qb), (.long qc), (.int ip), (.int iq)] maxLocals)) T126 (mkF m 377 #[.val (.long qa), .second, .val (.long qb), .second, .val (.long qc), .second, .val (.int ip), .val (.int iq), .val (.ref tt0), .val (.ref tt1), .val (.ref tt2), .val (.int fa), .val (.int la), .val (.int fb), .val (.int lb), .val (.int fc), .val (.int lc), .val (.int r), .val (.ref b24), .val (.ref bb0), .val (.ref bb1), .val (.ref bb2), .val (.int la), .val (.int (0 : Int32)), .val (.int lc), .val (.ref gg)] [(.int lc), (.int fc), (.ref tt2), (.int (0 : Int32)), (.int fb), (.ref tt1), (.int la), (.int fa), (.ref tt0), (.int (4 : Int32)), (.ref gg)]) := fun tg kg => by
        refine k127 tg ?_
        show Steps p.tables e below (T126.setTop (mkF m 353 #[.val (.long qa), .second, .val (.long qb), .second, .val (.long qc), .second, .val (.int ip), .val (.int iq), .val (.ref tt0), .val (.ref tt1), .val (.ref tt2), .val (.int fa), .val (.int la), .val (.int fb), .val (.int lb), .val (.int fc), .val (.int lc), .val (.int r), .val (.ref b24), .val (.ref bb0), .val (.ref bb1), .val (.ref bb2), .val (.int la), .val (.int (0 : Int32)), .val (.int lc), .val (.ref gg)] [(.int (1 : Int32))])) tg
        refine XS.ifNo X126.here hx rfl (hb hby at_353) rfl ((if0 _ _).trans (feq (by decide)).1) ?_
        refine XS.aload X126.here hx rfl (hb hby at_356) rfl rfl ?_
        refine XS.iconst X126.here hx rfl (hb hby at_358) ?_
        show Steps p.tables e below (T126.setTop (mkF m 359 #[.val (.long qa), .second, .val (.long qb), .second, .val (.long qc), .second, .val (.int ip), .val (.int iq), .val (.ref tt0), .val (.ref tt1), .val (.ref tt2), .val (.int fa), .val (.int la), .val (.int fb), .val (.int lb), .val (.int fc), .val (.int lc), .val (.int r), .val (.ref b24), .val (.ref bb0), .val (.ref bb1), .val (.ref bb2), .val (.int la), .val (.int (0 : Int32)), .val (.int lc), .val (.ref gg)] [(.int (4 : Int32)), (.ref gg)])) tg
        refine XS.aload X126.here hx rfl (hb hby at_359) rfl rfl ?_
        refine XS.iload X126.here hx rfl (hb hby at_361) rfl ?_
        refine XS.iload X126.here hx rfl (hb hby at_363) rfl ?_
        refine XS.aload X126.here hx rfl (hb hby at_365) rfl rfl ?_
        refine XS.iload X126.here hx rfl (hb hby at_367) rfl ?_
        refine XS.iload X126.here hx rfl (hb hby at_369) rfl ?_
        show Steps p.tables e below (T126.setTop (mkF m 371 #[.val (.long qa), .second, .val (.long qb), .second, .val (.long qc), .second, .val (.int ip), .val (.int iq), .val (.ref tt0), .val (.ref tt1), .val (.ref tt2), .val (.int fa), .val (.int la), .val (.int fb), .val (.int lb), .val (.int fc), .val (.int lc), .val (.int r), .val (.ref b24), .val (.ref bb0), .val (.ref bb1), .val (.ref bb2), .val (.int la), .val (.int (0 : Int32)), .val (.int lc), .val (.ref gg)] [(.int (0 : Int32)), (.int fb), (.ref tt1), (.int la), (.int fa), (.ref tt0), (.int (4 : Int32)), (.ref gg)])) tg
        refine XS.aload X126.here hx rfl (hb hby at_371) rfl rfl ?_
        refine XS.iload X126.here hx rfl (hb hby at_373) rfl ?_
        refine XS.iload X126.here hx rfl (hb hby at_375) rfl ?_
        exact kg
      obtain ⟨v129, T129, h129, Lc129, X129, e129, hQ129, st129⟩ := own_callS X126 hx hZ hown (hw _ (List.mem_of_getElem? (i := 60) rfl)) (hw _ (List.mem_of_getElem? (i := 61) rfl)) (hw _ (List.mem_of_getElem? (i := 2) rfl)) (hw _ (List.mem_of_getElem? (i := 62) rfl)) (by decide) (rm_at l Z a0 hw [] gg (4 : Int32) tt0 fa la tt1 fb (0 : Int32) tt2 fc lc kg (((((0 : Int32) + la) + lb) + lc) - lb) kt0 kt1 kt2 qa qb qc h106 n0 (by omega) f110 f115 f116 f117 i3fa i3fb i3fc i3la (⟨by decide, by decide⟩ : own_in3 0) i3lc (by omega) ⟨by decide, by decide⟩) e126' (g := (mkF m 377 #[.val (.long qa), .second, .val (.long qb), .second, .val (.long qc), .second, .val (.int ip), .val (.int iq), .val (.ref tt0), .val (.ref tt1), .val (.ref tt2), .val (.int fa), .val (.int la), .val (.int fb), .val (.int lb), .val (.int fc), .val (.int lc), .val (.int r), .val (.ref b24), .val (.ref bb0), .val (.ref bb1), .val (.ref bb2), .val (.int la), .val (.int (0 : Int32)), .val (.int lc), .val (.ref gg)] [(.int lc), (.int fc), (.ref tt2), (.int (0 : Int32)), (.int fb), (.ref tt1), (.int la), (.int fa), (.ref tt0), (.int (4 : Int32)), (.ref gg)])) rfl (by rw [hml]; rfl) (argsL := [(.ref gg), (.int (4 : Int32)), (.ref tt0), (.int fa), (.int la), (.ref tt1), (.int fb), (.int (0 : Int32)), (.ref tt2), (.int fc), (.int lc)]) (rest := []) rfl (lenOf pd_7 rfl) rfl (W := 0) (by show 2 * 0 + _ ≤ _; exact Nat.le_of_eq rfl) (hb hby at_377) (by decide) (by decide) (by decide) (by decide)
      obtain ⟨rfl, Nq129, hs129⟩ := hQ129
      have N129 := Fr.app N126 Nq129
      have e129' : T129.heap = h106 := e129.trans hs129
      have k130 : Rch p e below (s₁.setTop (entryFrame m #[(.long qa), (.long qb), (.long qc), (.int ip), (.int iq)] maxLocals)) T129 (mkF m 380 #[.val (.long qa), .second, .val (.long qb), .second, .val (.long qc), .second, .val (.int ip), .val (.int iq), .val (.ref tt0), .val (.ref tt1), .val (.ref tt2), .val (.int fa), .val (.int la), .val (.int fb), .val (.int lb), .val (.int fc), .val (.int lc), .val (.int r), .val (.ref b24), .val (.ref bb0), .val (.ref bb1), .val (.ref bb2), .val (.int la), .val (.int (0 : Int32)), .val (.int lc), .val (.ref gg)] [(.int (1 : Int32))]) := fun tg kg => k128 tg (st129 tg kg)
      have k131 : Rch p e below (s₁.setTop (entryFrame m #[(.long qa), (.long qb), (.long qc), (.int ip), (.int iq)] maxLocals)) T129 (mkF m 404 #[.val (.long qa), .second, .val (.long qb), .second, .val (.long qc), .second, .val (.int ip), .val (.int iq), .val (.ref tt0), .val (.ref tt1), .val (.ref tt2), .val (.int fa), .val (.int la), .val (.int fb), .val (.int lb), .val (.int fc), .val (.int lc), .val (.int r), .val (.ref b24), .val (.ref bb0), .val (.ref bb1), .val (.ref bb2), .val (.int la), .val (.int (0 : Int32)), .val (.int lc), .val (.ref gg)] [(.int lc), (.int fc), (.ref tt2), (.int (0 : Int32)), (.int fb), (.ref tt1), (.int la), (.int fa), (.ref tt0), (.int (5 : Int32)), (.ref gg)]) := fun tg kg => by
        refine k130 tg ?_
        show Steps p.tables e below (T129.setTop (mkF m 380 #[.val (.long qa), .second, .val (.long qb), .second, .val (.long qc), .second, .val (.int ip), .val (.int iq), .val (.ref tt0), .val (.ref tt1), .val (.ref tt2), .val (.int fa), .val (.int la), .val (.int fb), .val (.int lb), .val (.int fc), .val (.int lc), .val (.int r), .val (.ref b24), .val (.ref bb0), .val (.ref bb1), .val (.ref bb2), .val (.int la), .val (.int (0 : Int32)), .val (.int lc), .val (.ref gg)] [(.int (1 : Int32))])) tg
        refine XS.ifNo X129.here hx rfl (hb hby at_380) rfl ((if0 _ _).trans (feq (by decide)).1) ?_
        refine XS.aload X129.here hx rfl (hb hby at_383) rfl rfl ?_
        refine XS.iconst X129.here hx rfl (hb hby at_385) ?_
        show Steps p.tables e below (T129.setTop (mkF m 386 #[.val (.long qa), .second, .val (.long qb), .second, .val (.long qc), .second, .val (.int ip), .val (.int iq), .val (.ref tt0), .val (.ref tt1), .val (.ref tt2), .val (.int fa), .val (.int la), .val (.int fb), .val (.int lb), .val (.int fc), .val (.int lc), .val (.int r), .val (.ref b24), .val (.ref bb0), .val (.ref bb1), .val (.ref bb2), .val (.int la), .val (.int (0 : Int32)), .val (.int lc), .val (.ref gg)] [(.int (5 : Int32)), (.ref gg)])) tg
        refine XS.aload X129.here hx rfl (hb hby at_386) rfl rfl ?_
        refine XS.iload X129.here hx rfl (hb hby at_388) rfl ?_
        refine XS.iload X129.here hx rfl (hb hby at_390) rfl ?_
        refine XS.aload X129.here hx rfl (hb hby at_392) rfl rfl ?_
        refine XS.iload X129.here hx rfl (hb hby at_394) rfl ?_
        refine XS.iload X129.here hx rfl (hb hby at_396) rfl ?_
        show Steps p.tables e below (T129.setTop (mkF m 398 #[.val (.long qa), .second, .val (.long qb), .second, .val (.long qc), .second, .val (.int ip), .val (.int iq), .val (.ref tt0), .val (.ref tt1), .val (.ref tt2), .val (.int fa), .val (.int la), .val (.int fb), .val (.int lb), .val (.int fc), .val (.int lc), .val (.int r), .val (.ref b24), .val (.ref bb0), .val (.ref bb1), .val (.ref bb2), .val (.int la), .val (.int (0 : Int32)), .val (.int lc), .val (.ref gg)] [(.int (0 : Int32)), (.int fb), (.ref tt1), (.int la), (.int fa), (.ref tt0), (.int (5 : Int32)), (.ref gg)])) tg
        refine XS.aload X129.here hx rfl (hb hby at_398) rfl rfl ?_
        refine XS.iload X129.here hx rfl (hb hby at_400) rfl ?_
        refine XS.iload X129.here hx rfl (hb hby at_402) rfl ?_
        exact kg
      obtain ⟨v132, T132, h132, Lc132, X132, e132, hQ132, st132⟩ := own_callS X129 hx hZ hown (hw _ (List.mem_of_getElem? (i := 60) rfl)) (hw _ (List.mem_of_getElem? (i := 61) rfl)) (hw _ (List.mem_of_getElem? (i := 2) rfl)) (hw _ (List.mem_of_getElem? (i := 62) rfl)) (by decide) (rm_at l Z a0 hw [] gg (5 : Int32) tt0 fa la tt1 fb (0 : Int32) tt2 fc lc kg (((((0 : Int32) + la) + lb) + lc) - lb) kt0 kt1 kt2 qa qb qc h106 n0 (by omega) f110 f115 f116 f117 i3fa i3fb i3fc i3la (⟨by decide, by decide⟩ : own_in3 0) i3lc (by omega) ⟨by decide, by decide⟩) e129' (g := (mkF m 404 #[.val (.long qa), .second, .val (.long qb), .second, .val (.long qc), .second, .val (.int ip), .val (.int iq), .val (.ref tt0), .val (.ref tt1), .val (.ref tt2), .val (.int fa), .val (.int la), .val (.int fb), .val (.int lb), .val (.int fc), .val (.int lc), .val (.int r), .val (.ref b24), .val (.ref bb0), .val (.ref bb1), .val (.ref bb2), .val (.int la), .val (.int (0 : Int32)), .val (.int lc), .val (.ref gg)] [(.int lc), (.int fc), (.ref tt2), (.int (0 : Int32)), (.int fb), (.ref tt1), (.int la), (.int fa), (.ref tt0), (.int (5 : Int32)), (.ref gg)])) rfl (by rw [hml]; rfl) (argsL := [(.ref gg), (.int (5 : Int32)), (.ref tt0), (.int fa), (.int la), (.ref tt1), (.int fb), (.int (0 : Int32)), (.ref tt2), (.int fc), (.int lc)]) (rest := []) rfl (lenOf pd_7 rfl) rfl (W := 0) (by show 2 * 0 + _ ≤ _; exact Nat.le_of_eq rfl) (hb hby at_404) (by decide) (by decide) (by decide) (by decide)
      obtain ⟨rfl, Nq132, hs132⟩ := hQ132
      have N132 := Fr.app N129 Nq132
      have e132' : T132.heap = h106 := e132.trans hs132
      have k133 : Rch p e below (s₁.setTop (entryFrame m #[(.long qa), (.long qb), (.long qc), (.int ip), (.int iq)] maxLocals)) T132 (mkF m 407 #[.val (.long qa), .second, .val (.long qb), .second, .val (.long qc), .second, .val (.int ip), .val (.int iq), .val (.ref tt0), .val (.ref tt1), .val (.ref tt2), .val (.int fa), .val (.int la), .val (.int fb), .val (.int lb), .val (.int fc), .val (.int lc), .val (.int r), .val (.ref b24), .val (.ref bb0), .val (.ref bb1), .val (.ref bb2), .val (.int la), .val (.int (0 : Int32)), .val (.int lc), .val (.ref gg)] [(.int (1 : Int32))]) := fun tg kg => k131 tg (st132 tg kg)
      have k134 : Rch p e below (s₁.setTop (entryFrame m #[(.long qa), (.long qb), (.long qc), (.int ip), (.int iq)] maxLocals)) T132 (mkF m 432 #[.val (.long qa), .second, .val (.long qb), .second, .val (.long qc), .second, .val (.int ip), .val (.int iq), .val (.ref tt0), .val (.ref tt1), .val (.ref tt2), .val (.int fa), .val (.int la), .val (.int fb), .val (.int lb), .val (.int fc), .val (.int lc), .val (.int r), .val (.ref b24), .val (.ref bb0), .val (.ref bb1), .val (.ref bb2), .val (.int la), .val (.int (0 : Int32)), .val (.int lc), .val (.ref gg)] [(.int lc), (.int fc), (.ref tt2), (.int (0 : Int32)), (.int fb), (.ref tt1), (.int la), (.int fa), (.ref tt0), (.int (6 : Int32)), (.ref gg)]) := fun tg kg => by
        refine k133 tg ?_
        show Steps p.tables e below (T132.setTop (mkF m 407 #[.val (.long qa), .second, .val (.long qb), .second, .val (.long qc), .second, .val (.int ip), .val (.int iq), .val (.ref tt0), .val (.ref tt1), .val (.ref tt2), .val (.int fa), .val (.int la), .val (.int fb), .val (.int lb), .val (.int fc), .val (.int lc), .val (.int r), .val (.ref b24), .val (.ref bb0), .val (.ref bb1), .val (.ref bb2), .val (.int la), .val (.int (0 : Int32)), .val (.int lc), .val (.ref gg)] [(.int (1 : Int32))])) tg
        refine XS.ifNo X132.here hx rfl (hb hby at_407) rfl ((if0 _ _).trans (feq (by decide)).1) ?_
        refine XS.aload X132.here hx rfl (hb hby at_410) rfl rfl ?_
        refine XS.bipush X132.here hx rfl (hb hby at_412) ?_
        show Steps p.tables e below (T132.setTop (mkF m 414 #[.val (.long qa), .second, .val (.long qb), .second, .val (.long qc), .second, .val (.int ip), .val (.int iq), .val (.ref tt0), .val (.ref tt1), .val (.ref tt2), .val (.int fa), .val (.int la), .val (.int fb), .val (.int lb), .val (.int fc), .val (.int lc), .val (.int r), .val (.ref b24), .val (.ref bb0), .val (.ref bb1), .val (.ref bb2), .val (.int la), .val (.int (0 : Int32)), .val (.int lc), .val (.ref gg)] [(.int (6 : Int32)), (.ref gg)])) tg
        refine XS.aload X132.here hx rfl (hb hby at_414) rfl rfl ?_
        refine XS.iload X132.here hx rfl (hb hby at_416) rfl ?_
        refine XS.iload X132.here hx rfl (hb hby at_418) rfl ?_
        refine XS.aload X132.here hx rfl (hb hby at_420) rfl rfl ?_
        refine XS.iload X132.here hx rfl (hb hby at_422) rfl ?_
        refine XS.iload X132.here hx rfl (hb hby at_424) rfl ?_
        show Steps p.tables e below (T132.setTop (mkF m 426 #[.val (.long qa), .second, .val (.long qb), .second, .val (.long qc), .second, .val (.int ip), .val (.int iq), .val (.ref tt0), .val (.ref tt1), .val (.ref tt2), .val (.int fa), .val (.int la), .val (.int fb), .val (.int lb), .val (.int fc), .val (.int lc), .val (.int r), .val (.ref b24), .val (.ref bb0), .val (.ref bb1), .val (.ref bb2), .val (.int la), .val (.int (0 : Int32)), .val (.int lc), .val (.ref gg)] [(.int (0 : Int32)), (.int fb), (.ref tt1), (.int la), (.int fa), (.ref tt0), (.int (6 : Int32)), (.ref gg)])) tg
        refine XS.aload X132.here hx rfl (hb hby at_426) rfl rfl ?_
        refine XS.iload X132.here hx rfl (hb hby at_428) rfl ?_
        refine XS.iload X132.here hx rfl (hb hby at_430) rfl ?_
        exact kg
      obtain ⟨v135, T135, h135, Lc135, X135, e135, hQ135, st135⟩ := own_callS X132 hx hZ hown (hw _ (List.mem_of_getElem? (i := 60) rfl)) (hw _ (List.mem_of_getElem? (i := 61) rfl)) (hw _ (List.mem_of_getElem? (i := 2) rfl)) (hw _ (List.mem_of_getElem? (i := 62) rfl)) (by decide) (rm_at l Z a0 hw [] gg (6 : Int32) tt0 fa la tt1 fb (0 : Int32) tt2 fc lc kg (((((0 : Int32) + la) + lb) + lc) - lb) kt0 kt1 kt2 qa qb qc h106 n0 (by omega) f110 f115 f116 f117 i3fa i3fb i3fc i3la (⟨by decide, by decide⟩ : own_in3 0) i3lc (by omega) ⟨by decide, by decide⟩) e132' (g := (mkF m 432 #[.val (.long qa), .second, .val (.long qb), .second, .val (.long qc), .second, .val (.int ip), .val (.int iq), .val (.ref tt0), .val (.ref tt1), .val (.ref tt2), .val (.int fa), .val (.int la), .val (.int fb), .val (.int lb), .val (.int fc), .val (.int lc), .val (.int r), .val (.ref b24), .val (.ref bb0), .val (.ref bb1), .val (.ref bb2), .val (.int la), .val (.int (0 : Int32)), .val (.int lc), .val (.ref gg)] [(.int lc), (.int fc), (.ref tt2), (.int (0 : Int32)), (.int fb), (.ref tt1), (.int la), (.int fa), (.ref tt0), (.int (6 : Int32)), (.ref gg)])) rfl (by rw [hml]; rfl) (argsL := [(.ref gg), (.int (6 : Int32)), (.ref tt0), (.int fa), (.int la), (.ref tt1), (.int fb), (.int (0 : Int32)), (.ref tt2), (.int fc), (.int lc)]) (rest := []) rfl (lenOf pd_7 rfl) rfl (W := 0) (by show 2 * 0 + _ ≤ _; exact Nat.le_of_eq rfl) (hb hby at_432) (by decide) (by decide) (by decide) (by decide)
      obtain ⟨rfl, Nq135, hs135⟩ := hQ135
      have N135 := Fr.app N132 Nq135
      have e135' : T135.heap = h106 := e135.trans hs135
      have k136 : Rch p e below (s₁.setTop (entryFrame m #[(.long qa), (.long qb), (.long qc), (.int ip), (.int iq)] maxLocals)) T135 (mkF m 435 #[.val (.long qa), .second, .val (.long qb), .second, .val (.long qc), .second, .val (.int ip), .val (.int iq), .val (.ref tt0), .val (.ref tt1), .val (.ref tt2), .val (.int fa), .val (.int la), .val (.int fb), .val (.int lb), .val (.int fc), .val (.int lc), .val (.int r), .val (.ref b24), .val (.ref bb0), .val (.ref bb1), .val (.ref bb2), .val (.int la), .val (.int (0 : Int32)), .val (.int lc), .val (.ref gg)] [(.int (1 : Int32))]) := fun tg kg => k134 tg (st135 tg kg)
      have k137 : Rch p e below (s₁.setTop (entryFrame m #[(.long qa), (.long qb), (.long qc), (.int ip), (.int iq)] maxLocals)) T135 (mkF m 460 #[.val (.long qa), .second, .val (.long qb), .second, .val (.long qc), .second, .val (.int ip), .val (.int iq), .val (.ref tt0), .val (.ref tt1), .val (.ref tt2), .val (.int fa), .val (.int la), .val (.int fb), .val (.int lb), .val (.int fc), .val (.int lc), .val (.int r), .val (.ref b24), .val (.ref bb0), .val (.ref bb1), .val (.ref bb2), .val (.int la), .val (.int (0 : Int32)), .val (.int lc), .val (.ref gg)] [(.int lc), (.int fc), (.ref tt2), (.int (0 : Int32)), (.int fb), (.ref tt1), (.int la), (.int fa), (.ref tt0), (.int (7 : Int32)), (.ref gg)]) := fun tg kg => by
        refine k136 tg ?_
        show Steps p.tables e below (T135.setTop (mkF m 435 #[.val (.long qa), .second, .val (.long qb), .second, .val (.long qc), .second, .val (.int ip), .val (.int iq), .val (.ref tt0), .val (.ref tt1), .val (.ref tt2), .val (.int fa), .val (.int la), .val (.int fb), .val (.int lb), .val (.int fc), .val (.int lc), .val (.int r), .val (.ref b24), .val (.ref bb0), .val (.ref bb1), .val (.ref bb2), .val (.int la), .val (.int (0 : Int32)), .val (.int lc), .val (.ref gg)] [(.int (1 : Int32))])) tg
        refine XS.ifNo X135.here hx rfl (hb hby at_435) rfl ((if0 _ _).trans (feq (by decide)).1) ?_
        refine XS.aload X135.here hx rfl (hb hby at_438) rfl rfl ?_
        refine XS.bipush X135.here hx rfl (hb hby at_440) ?_
        show Steps p.tables e below (T135.setTop (mkF m 442 #[.val (.long qa), .second, .val (.long qb), .second, .val (.long qc), .second, .val (.int ip), .val (.int iq), .val (.ref tt0), .val (.ref tt1), .val (.ref tt2), .val (.int fa), .val (.int la), .val (.int fb), .val (.int lb), .val (.int fc), .val (.int lc), .val (.int r), .val (.ref b24), .val (.ref bb0), .val (.ref bb1), .val (.ref bb2), .val (.int la), .val (.int (0 : Int32)), .val (.int lc), .val (.ref gg)] [(.int (7 : Int32)), (.ref gg)])) tg
        refine XS.aload X135.here hx rfl (hb hby at_442) rfl rfl ?_
        refine XS.iload X135.here hx rfl (hb hby at_444) rfl ?_
        refine XS.iload X135.here hx rfl (hb hby at_446) rfl ?_
        refine XS.aload X135.here hx rfl (hb hby at_448) rfl rfl ?_
        refine XS.iload X135.here hx rfl (hb hby at_450) rfl ?_
        refine XS.iload X135.here hx rfl (hb hby at_452) rfl ?_
        show Steps p.tables e below (T135.setTop (mkF m 454 #[.val (.long qa), .second, .val (.long qb), .second, .val (.long qc), .second, .val (.int ip), .val (.int iq), .val (.ref tt0), .val (.ref tt1), .val (.ref tt2), .val (.int fa), .val (.int la), .val (.int fb), .val (.int lb), .val (.int fc), .val (.int lc), .val (.int r), .val (.ref b24), .val (.ref bb0), .val (.ref bb1), .val (.ref bb2), .val (.int la), .val (.int (0 : Int32)), .val (.int lc), .val (.ref gg)] [(.int (0 : Int32)), (.int fb), (.ref tt1), (.int la), (.int fa), (.ref tt0), (.int (7 : Int32)), (.ref gg)])) tg
        refine XS.aload X135.here hx rfl (hb hby at_454) rfl rfl ?_
        refine XS.iload X135.here hx rfl (hb hby at_456) rfl ?_
        refine XS.iload X135.here hx rfl (hb hby at_458) rfl ?_
        exact kg
      obtain ⟨v138, T138, h138, Lc138, X138, e138, hQ138, st138⟩ := own_callS X135 hx hZ hown (hw _ (List.mem_of_getElem? (i := 60) rfl)) (hw _ (List.mem_of_getElem? (i := 61) rfl)) (hw _ (List.mem_of_getElem? (i := 2) rfl)) (hw _ (List.mem_of_getElem? (i := 62) rfl)) (by decide) (rm_at l Z a0 hw [] gg (7 : Int32) tt0 fa la tt1 fb (0 : Int32) tt2 fc lc kg (((((0 : Int32) + la) + lb) + lc) - lb) kt0 kt1 kt2 qa qb qc h106 n0 (by omega) f110 f115 f116 f117 i3fa i3fb i3fc i3la (⟨by decide, by decide⟩ : own_in3 0) i3lc (by omega) ⟨by decide, by decide⟩) e135' (g := (mkF m 460 #[.val (.long qa), .second, .val (.long qb), .second, .val (.long qc), .second, .val (.int ip), .val (.int iq), .val (.ref tt0), .val (.ref tt1), .val (.ref tt2), .val (.int fa), .val (.int la), .val (.int fb), .val (.int lb), .val (.int fc), .val (.int lc), .val (.int r), .val (.ref b24), .val (.ref bb0), .val (.ref bb1), .val (.ref bb2), .val (.int la), .val (.int (0 : Int32)), .val (.int lc), .val (.ref gg)] [(.int lc), (.int fc), (.ref tt2), (.int (0 : Int32)), (.int fb), (.ref tt1), (.int la), (.int fa), (.ref tt0), (.int (7 : Int32)), (.ref gg)])) rfl (by rw [hml]; rfl) (argsL := [(.ref gg), (.int (7 : Int32)), (.ref tt0), (.int fa), (.int la), (.ref tt1), (.int fb), (.int (0 : Int32)), (.ref tt2), (.int fc), (.int lc)]) (rest := []) rfl (lenOf pd_7 rfl) rfl (W := 0) (by show 2 * 0 + _ ≤ _; exact Nat.le_of_eq rfl) (hb hby at_460) (by decide) (by decide) (by decide) (by decide)
      obtain ⟨rfl, Nq138, hs138⟩ := hQ138
      have N138 := Fr.app N135 Nq138
      have e138' : T138.heap = h106 := e138.trans hs138
      have k139 : Rch p e below (s₁.setTop (entryFrame m #[(.long qa), (.long qb), (.long qc), (.int ip), (.int iq)] maxLocals)) T138 (mkF m 463 #[.val (.long qa), .second, .val (.long qb), .second, .val (.long qc), .second, .val (.int ip), .val (.int iq), .val (.ref tt0), .val (.ref tt1), .val (.ref tt2), .val (.int fa), .val (.int la), .val (.int fb), .val (.int lb), .val (.int fc), .val (.int lc), .val (.int r), .val (.ref b24), .val (.ref bb0), .val (.ref bb1), .val (.ref bb2), .val (.int la), .val (.int (0 : Int32)), .val (.int lc), .val (.ref gg)] [(.int (1 : Int32))]) := fun tg kg => k137 tg (st138 tg kg)
      have k140 : Rch p e below (s₁.setTop (entryFrame m #[(.long qa), (.long qb), (.long qc), (.int ip), (.int iq)] maxLocals)) T138 (mkF m 488 #[.val (.long qa), .second, .val (.long qb), .second, .val (.long qc), .second, .val (.int ip), .val (.int iq), .val (.ref tt0), .val (.ref tt1), .val (.ref tt2), .val (.int fa), .val (.int la), .val (.int fb), .val (.int lb), .val (.int fc), .val (.int lc), .val (.int r), .val (.ref b24), .val (.ref bb0), .val (.ref bb1), .val (.ref bb2), .val (.int la), .val (.int (0 : Int32)), .val (.int lc), .val (.ref gg)] [(.int lc), (.int fc), (.ref tt2), (.int (0 : Int32)), (.int fb), (.ref tt1), (.int la), (.int fa), (.ref tt0), (.int (8 : Int32)), (.ref gg)]) := fun tg kg => by
        refine k139 tg ?_
        show Steps p.tables e below (T138.setTop (mkF m 463 #[.val (.long qa), .second, .val (.long qb), .second, .val (.long qc), .second, .val (.int ip), .val (.int iq), .val (.ref tt0), .val (.ref tt1), .val (.ref tt2), .val (.int fa), .val (.int la), .val (.int fb), .val (.int lb), .val (.int fc), .val (.int lc), .val (.int r), .val (.ref b24), .val (.ref bb0), .val (.ref bb1), .val (.ref bb2), .val (.int la), .val (.int (0 : Int32)), .val (.int lc), .val (.ref gg)] [(.int (1 : Int32))])) tg
        refine XS.ifNo X138.here hx rfl (hb hby at_463) rfl ((if0 _ _).trans (feq (by decide)).1) ?_
        refine XS.aload X138.here hx rfl (hb hby at_466) rfl rfl ?_
        refine XS.bipush X138.here hx rfl (hb hby at_468) ?_
        show Steps p.tables e below (T138.setTop (mkF m 470 #[.val (.long qa), .second, .val (.long qb), .second, .val (.long qc), .second, .val (.int ip), .val (.int iq), .val (.ref tt0), .val (.ref tt1), .val (.ref tt2), .val (.int fa), .val (.int la), .val (.int fb), .val (.int lb), .val (.int fc), .val (.int lc), .val (.int r), .val (.ref b24), .val (.ref bb0), .val (.ref bb1), .val (.ref bb2), .val (.int la), .val (.int (0 : Int32)), .val (.int lc), .val (.ref gg)] [(.int (8 : Int32)), (.ref gg)])) tg
        refine XS.aload X138.here hx rfl (hb hby at_470) rfl rfl ?_
        refine XS.iload X138.here hx rfl (hb hby at_472) rfl ?_
        refine XS.iload X138.here hx rfl (hb hby at_474) rfl ?_
        refine XS.aload X138.here hx rfl (hb hby at_476) rfl rfl ?_
        refine XS.iload X138.here hx rfl (hb hby at_478) rfl ?_
        refine XS.iload X138.here hx rfl (hb hby at_480) rfl ?_
        show Steps p.tables e below (T138.setTop (mkF m 482 #[.val (.long qa), .second, .val (.long qb), .second, .val (.long qc), .second, .val (.int ip), .val (.int iq), .val (.ref tt0), .val (.ref tt1), .val (.ref tt2), .val (.int fa), .val (.int la), .val (.int fb), .val (.int lb), .val (.int fc), .val (.int lc), .val (.int r), .val (.ref b24), .val (.ref bb0), .val (.ref bb1), .val (.ref bb2), .val (.int la), .val (.int (0 : Int32)), .val (.int lc), .val (.ref gg)] [(.int (0 : Int32)), (.int fb), (.ref tt1), (.int la), (.int fa), (.ref tt0), (.int (8 : Int32)), (.ref gg)])) tg
        refine XS.aload X138.here hx rfl (hb hby at_482) rfl rfl ?_
        refine XS.iload X138.here hx rfl (hb hby at_484) rfl ?_
        refine XS.iload X138.here hx rfl (hb hby at_486) rfl ?_
        exact kg
      obtain ⟨v141, T141, h141, Lc141, X141, e141, hQ141, st141⟩ := own_callS X138 hx hZ hown (hw _ (List.mem_of_getElem? (i := 60) rfl)) (hw _ (List.mem_of_getElem? (i := 61) rfl)) (hw _ (List.mem_of_getElem? (i := 2) rfl)) (hw _ (List.mem_of_getElem? (i := 62) rfl)) (by decide) (rm_at l Z a0 hw [] gg (8 : Int32) tt0 fa la tt1 fb (0 : Int32) tt2 fc lc kg (((((0 : Int32) + la) + lb) + lc) - lb) kt0 kt1 kt2 qa qb qc h106 n0 (by omega) f110 f115 f116 f117 i3fa i3fb i3fc i3la (⟨by decide, by decide⟩ : own_in3 0) i3lc (by omega) ⟨by decide, by decide⟩) e138' (g := (mkF m 488 #[.val (.long qa), .second, .val (.long qb), .second, .val (.long qc), .second, .val (.int ip), .val (.int iq), .val (.ref tt0), .val (.ref tt1), .val (.ref tt2), .val (.int fa), .val (.int la), .val (.int fb), .val (.int lb), .val (.int fc), .val (.int lc), .val (.int r), .val (.ref b24), .val (.ref bb0), .val (.ref bb1), .val (.ref bb2), .val (.int la), .val (.int (0 : Int32)), .val (.int lc), .val (.ref gg)] [(.int lc), (.int fc), (.ref tt2), (.int (0 : Int32)), (.int fb), (.ref tt1), (.int la), (.int fa), (.ref tt0), (.int (8 : Int32)), (.ref gg)])) rfl (by rw [hml]; rfl) (argsL := [(.ref gg), (.int (8 : Int32)), (.ref tt0), (.int fa), (.int la), (.ref tt1), (.int fb), (.int (0 : Int32)), (.ref tt2), (.int fc), (.int lc)]) (rest := []) rfl (lenOf pd_7 rfl) rfl (W := 0) (by show 2 * 0 + _ ≤ _; exact Nat.le_of_eq rfl) (hb hby at_488) (by decide) (by decide) (by decide) (by decide)
      obtain ⟨rfl, Nq141, hs141⟩ := hQ141
      have N141 := Fr.app N138 Nq141
      have e141' : T141.heap = h106 := e141.trans hs141
      have k142 : Rch p e below (s₁.setTop (entryFrame m #[(.long qa), (.long qb), (.long qc), (.int ip), (.int iq)] maxLocals)) T141 (mkF m 491 #[.val (.long qa), .second, .val (.long qb), .second, .val (.long qc), .second, .val (.int ip), .val (.int iq), .val (.ref tt0), .val (.ref tt1), .val (.ref tt2), .val (.int fa), .val (.int la), .val (.int fb), .val (.int lb), .val (.int fc), .val (.int lc), .val (.int r), .val (.ref b24), .val (.ref bb0), .val (.ref bb1), .val (.ref bb2), .val (.int la), .val (.int (0 : Int32)), .val (.int lc), .val (.ref gg)] [(.int (1 : Int32))]) := fun tg kg => k140 tg (st141 tg kg)
      have k143 : Rch p e below (s₁.setTop (entryFrame m #[(.long qa), (.long qb), (.long qc), (.int ip), (.int iq)] maxLocals)) T141 (mkF m 499 #[.val (.long qa), .second, .val (.long qb), .second, .val (.long qc), .second, .val (.int ip), .val (.int iq), .val (.ref tt0), .val (.ref tt1), .val (.ref tt2), .val (.int fa), .val (.int la), .val (.int fb), .val (.int lb), .val (.int fc), .val (.int lc), .val (.int r), .val (.ref b24), .val (.ref bb0), .val (.ref bb1), .val (.ref bb2), .val (.int la), .val (.int (0 : Int32)), .val (.int lc), .val (.ref gg)] [(.int (1 : Int32))]) := fun tg kg => by
        refine k142 tg ?_
        show Steps p.tables e below (T141.setTop (mkF m 491 #[.val (.long qa), .second, .val (.long qb), .second, .val (.long qc), .second, .val (.int ip), .val (.int iq), .val (.ref tt0), .val (.ref tt1), .val (.ref tt2), .val (.int fa), .val (.int la), .val (.int fb), .val (.int lb), .val (.int fc), .val (.int lc), .val (.int r), .val (.ref b24), .val (.ref bb0), .val (.ref bb1), .val (.ref bb2), .val (.int la), .val (.int (0 : Int32)), .val (.int lc), .val (.ref gg)] [(.int (1 : Int32))])) tg
        refine XS.ifNo X141.here hx rfl (hb hby at_491) rfl ((if0 _ _).trans (feq (by decide)).1) ?_
        refine XS.iconst X141.here hx rfl (hb hby at_494) ?_
        refine XS.goto X141.here hx rfl (pc0 := 495) (pc' := 499) rfl (hb hby at_495) (by decide) (by decide) ?_
        exact kg
      obtain ⟨fs144, hr144, hrun144, hended144, hW144, hsame144⟩ := X141.leave (v := some (.int (nar .boolean (1 : Int32)))) (fun h => by rw [Bd.returns] at h; cases h)
      refine ⟨_, _, k143 _ ?_, hrun144, hended144, _, _, rfl, ?_, ⟨_, rfl⟩, hW144, hsame144.mono (by decide) (by decide)⟩
      · exact retN X141 hx (t := .boolean) Bd.returns (by simp) (hb hby at_499) hr144
      · show Q_rm0 Z qa qb qc ip iq h0 n0 _ T141.heap _
        rw [e141']
        exact ⟨rfl, N141⟩
    · have k145 : Rch p e below (s₁.setTop (entryFrame m #[(.long qa), (.long qb), (.long qc), (.int ip), (.int iq)] maxLocals)) T36 (mkF m 174 #[.val (.long qa), .second, .val (.long qb), .second, .val (.long qc), .second, .val (.int ip), .val (.int iq), .val (.ref tt0), .val (.ref tt1), .val (.ref tt2), .val (.int fa), .val (.int la), .val (.int fb), .val (.int lb), .val (.int fc), .val (.int lc), .val (.int r), .val (.ref b24), .val (.ref bb0), .val (.ref bb1), .val (.ref bb2), .unset, .unset, .unset, .unset] [(.int (2 : Int32)), (.int r)]) := fun tg kg => by
        refine k94 tg ?_
        show Steps p.tables e below (T36.setTop (mkF m 158 #[.val (.long qa), .second, .val (.long qb), .second, .val (.long qc), .second, .val (.int ip), .val (.int iq), .val (.ref tt0), .val (.ref tt1), .val (.ref tt2), .val (.int fa), .val (.int la), .val (.int fb), .val (.int lb), .val (.int fc), .val (.int lc), .val (.int r), .val (.ref b24), .val (.ref bb0), .val (.ref bb1), .val (.ref bb2), .unset, .unset, .unset, .unset] [(.int (1 : Int32)), (.int r)])) tg
        refine XS.icmpYes X36.here hx rfl (pc0 := 158) (pc' := 171) rfl (hb hby at_158) rfl (feq hc158_95).2 (by decide) (by decide) ?_
        show Steps p.tables e below (T36.setTop (mkF m 171 #[.val (.long qa), .second, .val (.long qb), .second, .val (.long qc), .second, .val (.int ip), .val (.int iq), .val (.ref tt0), .val (.ref tt1), .val (.ref tt2), .val (.int fa), .val (.int la), .val (.int fb), .val (.int lb), .val (.int fc), .val (.int lc), .val (.int r), .val (.ref b24), .val (.ref bb0), .val (.ref bb1), .val (.ref bb2), .unset, .unset, .unset, .unset] [])) tg
        refine XS.iload X36.here hx rfl (hb hby at_171) rfl ?_
        refine XS.iconst X36.here hx rfl (hb hby at_173) ?_
        exact kg
      by_cases hc174_146 : r = (2 : Int32)
      · have k147 : Rch p e below (s₁.setTop (entryFrame m #[(.long qa), (.long qb), (.long qc), (.int ip), (.int iq)] maxLocals)) T36 (mkF m 181 #[.val (.long qa), .second, .val (.long qb), .second, .val (.long qc), .second, .val (.int ip), .val (.int iq), .val (.ref tt0), .val (.ref tt1), .val (.ref tt2), .val (.int fa), .val (.int la), .val (.int fb), .val (.int lb), .val (.int fc), .val (.int lc), .val (.int r), .val (.ref b24), .val (.ref bb0), .val (.ref bb1), .val (.ref bb2), .unset, .unset, .unset, .unset] [(.ref bb2), (.ref b24)]) := fun tg kg => by
          refine k145 tg ?_
          show Steps p.tables e below (T36.setTop (mkF m 174 #[.val (.long qa), .second, .val (.long qb), .second, .val (.long qc), .second, .val (.int ip), .val (.int iq), .val (.ref tt0), .val (.ref tt1), .val (.ref tt2), .val (.int fa), .val (.int la), .val (.int fb), .val (.int lb), .val (.int fc), .val (.int lc), .val (.int r), .val (.ref b24), .val (.ref bb0), .val (.ref bb1), .val (.ref bb2), .unset, .unset, .unset, .unset] [(.int (2 : Int32)), (.int r)])) tg
          refine XS.icmpNo X36.here hx rfl (hb hby at_174) rfl (teq hc174_146).2 ?_
          refine XS.aload X36.here hx rfl (hb hby at_177) rfl rfl ?_
          refine XS.aload X36.here hx rfl (hb hby at_179) rfl rfl ?_
          exact kg
        obtain ⟨v148, T148, h148, Lc148, X148, e148, hQ148, st148⟩ := own_callV X36 hx hZ hown (hw _ (List.mem_of_getElem? (i := 63) rfl)) (hw _ (List.mem_of_getElem? (i := 64) rfl)) (notFace_of_selects (args := #[]) (mvT hZ (hw _ (List.mem_of_getElem? (i := 66) rfl)))) (hw _ (List.mem_of_getElem? (i := 66) rfl)) (hw _ (List.mem_of_getElem? (i := 65) rfl)) (hw _ (List.mem_of_getElem? (i := 67) rfl)) (hw _ (List.mem_of_getElem? (i := 8) rfl)) (by decide) (rm_rem2 l Z a0 hw [] b24 bb2 tt2 fc (fc + lc) lc ((((0 : Int32) + la) + lb) + lc) (.ref bb0) (.ref bb2) bb1 tt1 fb (fb + lb) (.ref bb0) h36 n0 (by omega) fq36_4 fq36_5 fq36_6 fq36_7 fq36_8 fq36_9 fq36_10 fq36_11 fq36_12 fq36_13 (own_asc _ _) (by omega) (own_ne (by omega)) fq36_14 fq36_15 fq36_16 fq36_17 fq36_18 fq36_19 (by omega) (own_ne (by omega)) (own_ne (by omega))) e36 fq36_4 (g := (mkF m 181 #[.val (.long qa), .second, .val (.long qb), .second, .val (.long qc), .second, .val (.int ip), .val (.int iq), .val (.ref tt0), .val (.ref tt1), .val (.ref tt2), .val (.int fa), .val (.int la), .val (.int fb), .val (.int lb), .val (.int fc), .val (.int lc), .val (.int r), .val (.ref b24), .val (.ref bb0), .val (.ref bb1), .val (.ref bb2), .unset, .unset, .unset, .unset] [(.ref bb2), (.ref b24)])) rfl (by rw [hml]; rfl) (argsL := [(.ref bb2)]) (rest := []) rfl (lenOf pd_5 rfl) rfl (W := 0) (by show 2 * 0 + _ ≤ _; exact Nat.le_of_eq rfl) (hb hby at_181) (by decide) (by decide) (by decide) (by decide)
        obtain ⟨rfl, Nq148, K148, fq148_3, fq148_4, fq148_5, fq148_6, fq148_7, fq148_8, fq148_9, fq148_10, fq148_11, fq148_12⟩ := hQ148
        have N148 := Fr.app N36 Nq148
        have s148 : h36.size ≤ h148.size := K148.1
        have k149 : Rch p e below (s₁.setTop (entryFrame m #[(.long qa), (.long qb), (.long qc), (.int ip), (.int iq)] maxLocals)) T148 (mkF m 184 #[.val (.long qa), .second, .val (.long qb), .second, .val (.long qc), .second, .val (.int ip), .val (.int iq), .val (.ref tt0), .val (.ref tt1), .val (.ref tt2), .val (.int fa), .val (.int la), .val (.int fb), .val (.int lb), .val (.int fc), .val (.int lc), .val (.int r), .val (.ref b24), .val (.ref bb0), .val (.ref bb1), .val (.ref bb2), .unset, .unset, .unset, .unset] []) := fun tg kg => k147 tg (st148 tg kg)
        have lt_fq148_3 := own_ltN fq148_3.lt
        have lt_fq148_4 := own_ltN fq148_4.lt
        have lt_fq148_5 := own_ltN fq148_5.lt
        have lt_fq148_6 := own_ltN fq148_6.lt
        have lt_fq148_7 := own_ltN fq148_7.lt
        have lt_fq148_8 := own_ltN fq148_8.lt
        have lt_fq148_9 := own_ltN fq148_9.lt
        have lt_fq148_10 := own_ltN fq148_10.lt
        have lt_fq148_11 := own_ltN fq148_11.lt
        have lt_fq148_12 := own_ltN fq148_12.lt
        have hNI : ((((((0 : Int32) + la) + lb) + lc) - lc)).toInt = la.toInt + lb.toInt := by have z := own_sub (x := ((((0 : Int32) + la) + lb) + lc)) (y := lc) (by omega) (by omega) (by omega) (by omega); omega
        have k150 : Rch p e below (s₁.setTop (entryFrame m #[(.long qa), (.long qb), (.long qc), (.int ip), (.int iq)] maxLocals)) T148 (mkF m 227 #[.val (.long qa), .second, .val (.long qb), .second, .val (.long qc), .second, .val (.int ip), .val (.int iq), .val (.ref tt0), .val (.ref tt1), .val (.ref tt2), .val (.int fa), .val (.int la), .val (.int fb), .val (.int lb), .val (.int fc), .val (.int lc), .val (.int r), .val (.ref b24), .val (.ref bb0), .val (.ref bb1), .val (.ref bb2), .val (.int la), .val (.int lb), .val (.int (0 : Int32)), .unset] [(.ref b24)]) := fun tg kg => by
          refine k149 tg ?_
          show Steps p.tables e below (T148.setTop (mkF m 184 #[.val (.long qa), .second, .val (.long qb), .second, .val (.long qc), .second, .val (.int ip), .val (.int iq), .val (.ref tt0), .val (.ref tt1), .val (.ref tt2), .val (.int fa), .val (.int la), .val (.int fb), .val (.int lb), .val (.int fc), .val (.int lc), .val (.int r), .val (.ref b24), .val (.ref bb0), .val (.ref bb1), .val (.ref bb2), .unset, .unset, .unset, .unset] [])) tg
          refine XS.iload X148.here hx rfl (hb hby at_184) rfl ?_
          show Steps p.tables e below (T148.setTop (mkF m 186 #[.val (.long qa), .second, .val (.long qb), .second, .val (.long qc), .second, .val (.int ip), .val (.int iq), .val (.ref tt0), .val (.ref tt1), .val (.ref tt2), .val (.int fa), .val (.int la), .val (.int fb), .val (.int lb), .val (.int fc), .val (.int lc), .val (.int r), .val (.ref b24), .val (.ref bb0), .val (.ref bb1), .val (.ref bb2), .unset, .unset, .unset, .unset] [(.int r)])) tg
          refine XS.ifYes X148.here hx rfl (pc0 := 186) (pc' := 193) rfl (hb hby at_186) rfl ((if0 _ _).trans (feq hc142_39).2) (by decide) (by decide) ?_
          refine XS.iload X148.here hx rfl (hb hby at_193) rfl ?_
          refine XS.istore X148.here hx rfl (hb hby at_195) rfl (l' := #[.val (.long qa), .second, .val (.long qb), .second, .val (.long qc), .second, .val (.int ip), .val (.int iq), .val (.ref tt0), .val (.ref tt1), .val (.ref tt2), .val (.int fa), .val (.int la), .val (.int fb), .val (.int lb), .val (.int fc), .val (.int lc), .val (.int r), .val (.ref b24), .val (.ref bb0), .val (.ref bb1), .val (.ref bb2), .val (.int la), .unset, .unset, .unset]) rfl ?_
          refine XS.iload X148.here hx rfl (hb hby at_197) rfl ?_
          refine XS.iconst X148.here hx rfl (hb hby at_199) ?_
          refine XS.icmpYes X148.here hx rfl (pc0 := 200) (pc' := 207) rfl (hb hby at_200) rfl (feq hc158_95).2 (by decide) (by decide) ?_
          show Steps p.tables e below (T148.setTop (mkF m 207 #[.val (.long qa), .second, .val (.long qb), .second, .val (.long qc), .second, .val (.int ip), .val (.int iq), .val (.ref tt0), .val (.ref tt1), .val (.ref tt2), .val (.int fa), .val (.int la), .val (.int fb), .val (.int lb), .val (.int fc), .val (.int lc), .val (.int r), .val (.ref b24), .val (.ref bb0), .val (.ref bb1), .val (.ref bb2), .val (.int la), .unset, .unset, .unset] [])) tg
          refine XS.iload X148.here hx rfl (hb hby at_207) rfl ?_
          refine XS.istore X148.here hx rfl (hb hby at_209) rfl (l' := #[.val (.long qa), .second, .val (.long qb), .second, .val (.long qc), .second, .val (.int ip), .val (.int iq), .val (.ref tt0), .val (.ref tt1), .val (.ref tt2), .val (.int fa), .val (.int la), .val (.int fb), .val (.int lb), .val (.int fc), .val (.int lc), .val (.int r), .val (.ref b24), .val (.ref bb0), .val (.ref bb1), .val (.ref bb2), .val (.int la), .val (.int lb), .unset, .unset]) rfl ?_
          refine XS.iload X148.here hx rfl (hb hby at_211) rfl ?_
          refine XS.iconst X148.here hx rfl (hb hby at_213) ?_
          refine XS.icmpNo X148.here hx rfl (hb hby at_214) rfl (teq hc174_146).2 ?_
          refine XS.iconst X148.here hx rfl (hb hby at_217) ?_
          show Steps p.tables e below (T148.setTop (mkF m 218 #[.val (.long qa), .second, .val (.long qb), .second, .val (.long qc), .second, .val (.int ip), .val (.int iq), .val (.ref tt0), .val (.ref tt1), .val (.ref tt2), .val (.int fa), .val (.int la), .val (.int fb), .val (.int lb), .val (.int fc), .val (.int lc), .val (.int r), .val (.ref b24), .val (.ref bb0), .val (.ref bb1), .val (.ref bb2), .val (.int la), .val (.int lb), .unset, .unset] [(.int (0 : Int32))])) tg
          refine XS.goto X148.here hx rfl (pc0 := 218) (pc' := 223) rfl (hb hby at_218) (by decide) (by decide) ?_
          refine XS.istore X148.here hx rfl (hb hby at_223) rfl (l' := #[.val (.long qa), .second, .val (.long qb), .second, .val (.long qc), .second, .val (.int ip), .val (.int iq), .val (.ref tt0), .val (.ref tt1), .val (.ref tt2), .val (.int fa), .val (.int la), .val (.int fb), .val (.int lb), .val (.int fc), .val (.int lc), .val (.int r), .val (.ref b24), .val (.ref bb0), .val (.ref bb1), .val (.ref bb2), .val (.int la), .val (.int lb), .val (.int (0 : Int32)), .unset]) rfl ?_
          refine XS.aload X148.here hx rfl (hb hby at_225) rfl rfl ?_
          exact kg
        have f152 : Exa Z h148 bb0 "dev/triadic/policy/TextLines$Line" := ((fq33_14.keep K36).keep K148)
        have f153 : Fld Z h148 bb0 "dev/triadic/policy/TextLines$Line" "bytes" "[B" (.ref tt0) := ((fq33_15.keep K36 (ninS (by first | exact own_ne (by omega) | assumption | (apply Ne.symm; assumption)) (ninS (by first | exact own_ne (by omega) | assumption | (apply Ne.symm; assumption)) nin0))).keep K148 (ninS (by first | exact own_ne (by omega) | assumption | (apply Ne.symm; assumption)) (ninS (by first | exact own_ne (by omega) | assumption | (apply Ne.symm; assumption)) nin0)))
        have f154 : Fld Z h148 bb0 "dev/triadic/policy/TextLines$Line" "from" "I" (.int fa) := ((fq33_16.keep K36 (ninS (by first | exact own_ne (by omega) | assumption | (apply Ne.symm; assumption)) (ninS (by first | exact own_ne (by omega) | assumption | (apply Ne.symm; assumption)) nin0))).keep K148 (ninS (by first | exact own_ne (by omega) | assumption | (apply Ne.symm; assumption)) (ninS (by first | exact own_ne (by omega) | assumption | (apply Ne.symm; assumption)) nin0)))
        have f155 : Fld Z h148 bb0 "dev/triadic/policy/TextLines$Line" "to" "I" (.int (fa + la)) := ((fq33_17.keep K36 (ninS (by first | exact own_ne (by omega) | assumption | (apply Ne.symm; assumption)) (ninS (by first | exact own_ne (by omega) | assumption | (apply Ne.symm; assumption)) nin0))).keep K148 (ninS (by first | exact own_ne (by omega) | assumption | (apply Ne.symm; assumption)) (ninS (by first | exact own_ne (by omega) | assumption | (apply Ne.symm; assumption)) nin0)))
        have f156 : Fld Z h148 bb0 "dev/triadic/policy/TextLines$Line" "after" "Ldev/triadic/policy/TextLines$Line;" (.ref bb1) := ((fq33_19.keep K36 (ninS (by first | exact own_ne (by omega) | assumption | (apply Ne.symm; assumption)) (ninS (by first | exact own_ne (by omega) | assumption | (apply Ne.symm; assumption)) nin0))).keep K148 (ninS (by first | exact own_ne (by omega) | assumption | (apply Ne.symm; assumption)) (ninS (by first | exact own_ne (by omega) | assumption | (apply Ne.symm; assumption)) nin0)))
        have f157 : Arv Z h148 tt0 kt0 .byte (6 : Int32) (own_dr qa) (.int (0 : Int32)) := (((((((fq2_4.keep K5 nin0).keep K8 nin0).ext E24).keep K30 (ninS (by first | exact own_ne (by omega) | assumption | (apply Ne.symm; assumption)) nin0)).keep K33 (ninS (by first | exact own_ne (by omega) | assumption | (apply Ne.symm; assumption)) (ninS (by first | exact own_ne (by omega) | assumption | (apply Ne.symm; assumption)) nin0))).keep K36 (ninS (by first | exact own_ne (by omega) | assumption | (apply Ne.symm; assumption)) (ninS (by first | exact own_ne (by omega) | assumption | (apply Ne.symm; assumption)) nin0))).keep K148 (ninS (by first | exact own_ne (by omega) | assumption | (apply Ne.symm; assumption)) (ninS (by first | exact own_ne (by omega) | assumption | (apply Ne.symm; assumption)) nin0)))
        have f158 : Arv Z h148 tt1 kt1 .byte (6 : Int32) (own_dr qb) (.int (0 : Int32)) := ((((((fq5_4.keep K8 nin0).ext E24).keep K30 (ninS (by first | exact own_ne (by omega) | assumption | (apply Ne.symm; assumption)) nin0)).keep K33 (ninS (by first | exact own_ne (by omega) | assumption | (apply Ne.symm; assumption)) (ninS (by first | exact own_ne (by omega) | assumption | (apply Ne.symm; assumption)) nin0))).keep K36 (ninS (by first | exact own_ne (by omega) | assumption | (apply Ne.symm; assumption)) (ninS (by first | exact own_ne (by omega) | assumption | (apply Ne.symm; assumption)) nin0))).keep K148 (ninS (by first | exact own_ne (by omega) | assumption | (apply Ne.symm; assumption)) (ninS (by first | exact own_ne (by omega) | assumption | (apply Ne.symm; assumption)) nin0)))
        obtain ⟨v151, T151, h151, Lc151, X151, e151, hQ151, st151⟩ := own_callV X148 hx hZ hown (hw _ (List.mem_of_getElem? (i := 49) rfl)) (hw _ (List.mem_of_getElem? (i := 50) rfl)) (notFace_of_selects (args := #[]) (mvT hZ (hw _ (List.mem_of_getElem? (i := 52) rfl)))) (hw _ (List.mem_of_getElem? (i := 52) rfl)) (hw _ (List.mem_of_getElem? (i := 51) rfl)) (hw _ (List.mem_of_getElem? (i := 53) rfl)) (hw _ (List.mem_of_getElem? (i := 8) rfl)) (by decide) (rm_bytes2 l Z a0 hw [] b24 (((((0 : Int32) + la) + lb) + lc) - lc) bb0 tt0 fa la kt0 qa bb1 tt1 fb lb kt1 qb h148 n0 (by omega) fq148_4 fq148_6 f152 f153 f154 f155 f156 f157 i3fa i3la fq148_7 fq148_8 fq148_9 fq148_10 fq148_12 f158 i3fb i3lb hNI) e148 fq148_3 (g := (mkF m 227 #[.val (.long qa), .second, .val (.long qb), .second, .val (.long qc), .second, .val (.int ip), .val (.int iq), .val (.ref tt0), .val (.ref tt1), .val (.ref tt2), .val (.int fa), .val (.int la), .val (.int fb), .val (.int lb), .val (.int fc), .val (.int lc), .val (.int r), .val (.ref b24), .val (.ref bb0), .val (.ref bb1), .val (.ref bb2), .val (.int la), .val (.int lb), .val (.int (0 : Int32)), .unset] [(.ref b24)])) rfl (by rw [hml]; rfl) (argsL := []) (rest := []) rfl (lenOf pd_6 rfl) rfl (W := 0) (by show 2 * 0 + _ ≤ _; exact Nat.le_of_eq rfl) (hb hby at_227) (by decide) (by decide) (by decide) (by decide)
        obtain ⟨gg, kg, rfl, Nq151, K151, ge151_3, fq151_4⟩ := hQ151
        have N151 := Fr.app N148 Nq151
        have s151 : h148.size ≤ h151.size := K151.1
        have k159 : Rch p e below (s₁.setTop (entryFrame m #[(.long qa), (.long qb), (.long qc), (.int ip), (.int iq)] maxLocals)) T151 (mkF m 230 #[.val (.long qa), .second, .val (.long qb), .second, .val (.long qc), .second, .val (.int ip), .val (.int iq), .val (.ref tt0), .val (.ref tt1), .val (.ref tt2), .val (.int fa), .val (.int la), .val (.int fb), .val (.int lb), .val (.int fc), .val (.int lc), .val (.int r), .val (.ref b24), .val (.ref bb0), .val (.ref bb1), .val (.ref bb2), .val (.int la), .val (.int lb), .val (.int (0 : Int32)), .unset] [(.ref gg)]) := fun tg kg => k150 tg (st151 tg kg)
        have lt_fq151_4 := own_ltN fq151_4.lt
        have f160 : Arv Z h151 gg kg .byte (((((0 : Int32) + la) + lb) + lc) - lc) (own_cat qa fa la qb fb lb qc fc (0 : Int32)) (.int (0 : Int32)) := (by have q := fq151_4; unfold own_cat; simp only [own_seg0, List.nil_append, List.append_nil]; exact q)
        have k161 : Rch p e below (s₁.setTop (entryFrame m #[(.long qa), (.long qb), (.long qc), (.int ip), (.int iq)] maxLocals)) T151 (mkF m 234 #[.val (.long qa), .second, .val (.long qb), .second, .val (.long qc), .second, .val (.int ip), .val (.int iq), .val (.ref tt0), .val (.ref tt1), .val (.ref tt2), .val (.int fa), .val (.int la), .val (.int fb), .val (.int lb), .val (.int fc), .val (.int lc), .val (.int r), .val (.ref b24), .val (.ref bb0), .val (.ref bb1), .val (.ref bb2), .val (.int la), .val (.int lb), .val (.int (0 : Int32)), .val (.ref gg)] [(.ref gg)]) := fun tg kg => by
          refine k159 tg ?_
          show Steps p.tables e below (T151.setTop (mkF m 230 #[.val (.long qa), .second, .val (.long qb), .second, .val (.long qc), .second, .val (.int ip), .val (.int iq), .val (.ref tt0), .val (.ref tt1), .val (.ref tt2), .val (.int fa), .val (.int la), .val (.int fb), .val (.int lb), .val (.int fc), .val (.int lc), .val (.int r), .val (.ref b24), .val (.ref bb0), .val (.ref bb1), .val (.ref bb2), .val (.int la), .val (.int lb), .val (.int (0 : Int32)), .unset] [(.ref gg)])) tg
          refine XS.astore X151.here hx rfl (hb hby at_230) rfl rfl (l' := #[.val (.long qa), .second, .val (.long qb), .second, .val (.long qc), .second, .val (.int ip), .val (.int iq), .val (.ref tt0), .val (.ref tt1), .val (.ref tt2), .val (.int fa), .val (.int la), .val (.int fb), .val (.int lb), .val (.int fc), .val (.int lc), .val (.int r), .val (.ref b24), .val (.ref bb0), .val (.ref bb1), .val (.ref bb2), .val (.int la), .val (.int lb), .val (.int (0 : Int32)), .val (.ref gg)]) rfl ?_
          refine XS.aload X151.here hx rfl (hb hby at_232) rfl rfl ?_
          exact kg
        obtain ⟨cl162, Ar162, q162, S162, M162, H162, G162⟩ := id f160
        have s1 := own_add (x := la) (y := lb) (by first | decide | omega) (by first | decide | omega) (by first | decide | omega) (by first | decide | omega)
        have hz := own_z
        have s2 := own_add (x := (la + lb)) (y := (0 : Int32)) (by omega) (by omega) (by first | decide | omega) (by first | decide | omega)
        have k163 : Rch p e below (s₁.setTop (entryFrame m #[(.long qa), (.long qb), (.long qc), (.int ip), (.int iq)] maxLocals)) T151 (mkF m 269 #[.val (.long qa), .second, .val (.long qb), .second, .val (.long qc), .second, .val (.int ip), .val (.int iq), .val (.ref tt0), .val (.ref tt1), .val (.ref tt2), .val (.int fa), .val (.int la), .val (.int fb), .val (.int lb), .val (.int fc), .val (.int lc), .val (.int r), .val (.ref b24), .val (.ref bb0), .val (.ref bb1), .val (.ref bb2), .val (.int la), .val (.int lb), .val (.int (0 : Int32)), .val (.ref gg)] [(.int (0 : Int32)), (.int fc), (.ref tt2), (.int lb), (.int fb), (.ref tt1), (.int la), (.int fa), (.ref tt0), (.int (0 : Int32)), (.ref gg)]) := fun tg kg => by
          refine k161 tg ?_
          show Steps p.tables e below (T151.setTop (mkF m 234 #[.val (.long qa), .second, .val (.long qb), .second, .val (.long qc), .second, .val (.int ip), .val (.int iq), .val (.ref tt0), .val (.ref tt1), .val (.ref tt2), .val (.int fa), .val (.int la), .val (.int fb), .val (.int lb), .val (.int fc), .val (.int lc), .val (.int r), .val (.ref b24), .val (.ref bb0), .val (.ref bb1), .val (.ref bb2), .val (.int la), .val (.int lb), .val (.int (0 : Int32)), .val (.ref gg)] [(.ref gg)])) tg
          refine X151.arraylength hx (by rw [e151]; exact Ar162.1) (State.isArrayOf_alike hZ.alike Ar162.2.1) (g := (mkF m 234 #[.val (.long qa), .second, .val (.long qb), .second, .val (.long qc), .second, .val (.int ip), .val (.int iq), .val (.ref tt0), .val (.ref tt1), .val (.ref tt2), .val (.int fa), .val (.int la), .val (.int fb), .val (.int lb), .val (.int fc), .val (.int lc), .val (.int r), .val (.ref b24), .val (.ref bb0), .val (.ref bb1), .val (.ref bb2), .val (.int la), .val (.int lb), .val (.int (0 : Int32)), .val (.ref gg)] [(.ref gg)])) rfl rfl (hb hby at_234) _ ?_
          rw [len_of S162 M162]
          show Steps p.tables e below (T151.setTop (mkF m 235 #[.val (.long qa), .second, .val (.long qb), .second, .val (.long qc), .second, .val (.int ip), .val (.int iq), .val (.ref tt0), .val (.ref tt1), .val (.ref tt2), .val (.int fa), .val (.int la), .val (.int fb), .val (.int lb), .val (.int fc), .val (.int lc), .val (.int r), .val (.ref b24), .val (.ref bb0), .val (.ref bb1), .val (.ref bb2), .val (.int la), .val (.int lb), .val (.int (0 : Int32)), .val (.ref gg)] [(.int (((((0 : Int32) + la) + lb) + lc) - lc))])) tg
          refine XS.iload X151.here hx rfl (hb hby at_235) rfl ?_
          refine XS.iload X151.here hx rfl (hb hby at_237) rfl ?_
          refine XS.iadd X151.here hx rfl (hb hby at_239) rfl ?_
          refine XS.iload X151.here hx rfl (hb hby at_240) rfl ?_
          refine XS.iadd X151.here hx rfl (hb hby at_242) rfl ?_
          refine XS.icmpYes X151.here hx rfl (pc0 := 243) (pc' := 248) rfl (hb hby at_243) rfl (teq (Int32.toInt_inj.mp (by omega))).1 (by decide) (by decide) ?_
          show Steps p.tables e below (T151.setTop (mkF m 248 #[.val (.long qa), .second, .val (.long qb), .second, .val (.long qc), .second, .val (.int ip), .val (.int iq), .val (.ref tt0), .val (.ref tt1), .val (.ref tt2), .val (.int fa), .val (.int la), .val (.int fb), .val (.int lb), .val (.int fc), .val (.int lc), .val (.int r), .val (.ref b24), .val (.ref bb0), .val (.ref bb1), .val (.ref bb2), .val (.int la), .val (.int lb), .val (.int (0 : Int32)), .val (.ref gg)] [])) tg
          refine XS.aload X151.here hx rfl (hb hby at_248) rfl rfl ?_
          refine XS.iconst X151.here hx rfl (hb hby at_250) ?_
          refine XS.aload X151.here hx rfl (hb hby at_251) rfl rfl ?_
          refine XS.iload X151.here hx rfl (hb hby at_253) rfl ?_
          refine XS.iload X151.here hx rfl (hb hby at_255) rfl ?_
          refine XS.aload X151.here hx rfl (hb hby at_257) rfl rfl ?_
          show Steps p.tables e below (T151.setTop (mkF m 259 #[.val (.long qa), .second, .val (.long qb), .second, .val (.long qc), .second, .val (.int ip), .val (.int iq), .val (.ref tt0), .val (.ref tt1), .val (.ref tt2), .val (.int fa), .val (.int la), .val (.int fb), .val (.int lb), .val (.int fc), .val (.int lc), .val (.int r), .val (.ref b24), .val (.ref bb0), .val (.ref bb1), .val (.ref bb2), .val (.int la), .val (.int lb), .val (.int (0 : Int32)), .val (.ref gg)] [(.ref tt1), (.int la), (.int fa), (.ref tt0), (.int (0 : Int32)), (.ref gg)])) tg
          refine XS.iload X151.here hx rfl (hb hby at_259) rfl ?_
          refine XS.iload X151.here hx rfl (hb hby at_261) rfl ?_
          refine XS.aload X151.here hx rfl (hb hby at_263) rfl rfl ?_
          refine XS.iload X151.here hx rfl (hb hby at_265) rfl ?_
          refine XS.iload X151.here hx rfl (hb hby at_267) rfl ?_
          exact kg
        have f165 : Arv Z h151 tt0 kt0 .byte (6 : Int32) (own_dr qa) (.int (0 : Int32)) := (f157.keep K151 nin0)
        have f166 : Arv Z h151 tt1 kt1 .byte (6 : Int32) (own_dr qb) (.int (0 : Int32)) := (f158.keep K151 nin0)
        have f167 : Arv Z h151 tt2 kt2 .byte (6 : Int32) (own_dr qc) (.int (0 : Int32)) := ((((((fq8_4.ext E24).keep K30 (ninS (by first | exact own_ne (by omega) | assumption | (apply Ne.symm; assumption)) nin0)).keep K33 (ninS (by first | exact own_ne (by omega) | assumption | (apply Ne.symm; assumption)) (ninS (by first | exact own_ne (by omega) | assumption | (apply Ne.symm; assumption)) nin0))).keep K36 (ninS (by first | exact own_ne (by omega) | assumption | (apply Ne.symm; assumption)) (ninS (by first | exact own_ne (by omega) | assumption | (apply Ne.symm; assumption)) nin0))).keep K148 (ninS (by first | exact own_ne (by omega) | assumption | (apply Ne.symm; assumption)) (ninS (by first | exact own_ne (by omega) | assumption | (apply Ne.symm; assumption)) nin0))).keep K151 nin0)
        obtain ⟨v164, T164, h164, Lc164, X164, e164, hQ164, st164⟩ := own_callS X151 hx hZ hown (hw _ (List.mem_of_getElem? (i := 60) rfl)) (hw _ (List.mem_of_getElem? (i := 61) rfl)) (hw _ (List.mem_of_getElem? (i := 2) rfl)) (hw _ (List.mem_of_getElem? (i := 62) rfl)) (by decide) (rm_at l Z a0 hw [] gg (0 : Int32) tt0 fa la tt1 fb lb tt2 fc (0 : Int32) kg (((((0 : Int32) + la) + lb) + lc) - lc) kt0 kt1 kt2 qa qb qc h151 n0 (by omega) f160 f165 f166 f167 i3fa i3fb i3fc i3la i3lb (⟨by decide, by decide⟩ : own_in3 0) (by omega) ⟨by decide, by decide⟩) e151 (g := (mkF m 269 #[.val (.long qa), .second, .val (.long qb), .second, .val (.long qc), .second, .val (.int ip), .val (.int iq), .val (.ref tt0), .val (.ref tt1), .val (.ref tt2), .val (.int fa), .val (.int la), .val (.int fb), .val (.int lb), .val (.int fc), .val (.int lc), .val (.int r), .val (.ref b24), .val (.ref bb0), .val (.ref bb1), .val (.ref bb2), .val (.int la), .val (.int lb), .val (.int (0 : Int32)), .val (.ref gg)] [(.int (0 : Int32)), (.int fc), (.ref tt2), (.int lb), (.int fb), (.ref tt1), (.int la), (.int fa), (.ref tt0), (.int (0 : Int32)), (.ref gg)])) rfl (by rw [hml]; rfl) (argsL := [(.ref gg), (.int (0 : Int32)), (.ref tt0), (.int fa), (.int la), (.ref tt1), (.int fb), (.int lb), (.ref tt2), (.int fc), (.int (0 : Int32))]) (rest := []) rfl (lenOf pd_7 rfl) rfl (W := 0) (by show 2 * 0 + _ ≤ _; exact Nat.le_of_eq rfl) (hb hby at_269) (by decide) (by decide) (by decide) (by decide)
        obtain ⟨rfl, Nq164, hs164⟩ := hQ164
        have N164 := Fr.app N151 Nq164
        have e164' : T164.heap = h151 := e164.trans hs164
        have k168 : Rch p e below (s₁.setTop (entryFrame m #[(.long qa), (.long qb), (.long qc), (.int ip), (.int iq)] maxLocals)) T164 (mkF m 272 #[.val (.long qa), .second, .val (.long qb), .second, .val (.long qc), .second, .val (.int ip), .val (.int iq), .val (.ref tt0), .val (.ref tt1), .val (.ref tt2), .val (.int fa), .val (.int la), .val (.int fb), .val (.int lb), .val (.int fc), .val (.int lc), .val (.int r), .val (.ref b24), .val (.ref bb0), .val (.ref bb1), .val (.ref bb2), .val (.int la), .val (.int lb), .val (.int (0 : Int32)), .val (.ref gg)] [(.int (1 : Int32))]) := fun tg kg => k163 tg (st164 tg kg)
        have k169 : Rch p e below (s₁.setTop (entryFrame m #[(.long qa), (.long qb), (.long qc), (.int ip), (.int iq)] maxLocals)) T164 (mkF m 296 #[.val (.long qa), .second, .val (.long qb), .second, .val (.long qc), .second, .val (.int ip), .val (.int iq), .val (.ref tt0), .val (.ref tt1), .val (.ref tt2), .val (.int fa), .val (.int la), .val (.int fb), .val (.int lb), .val (.int fc), .val (.int lc), .val (.int r), .val (.ref b24), .val (.ref bb0), .val (.ref bb1), .val (.ref bb2), .val (.int la), .val (.int lb), .val (.int (0 : Int32)), .val (.ref gg)] [(.int (0 : Int32)), (.int fc), (.ref tt2), (.int lb), (.int fb), (.ref tt1), (.int la), (.int fa), (.ref tt0), (.int (1 : Int32)), (.ref gg)]) := fun tg kg => by
          refine k168 tg ?_
          show Steps p.tables e below (T164.setTop (mkF m 272 #[.val (.long qa), .second, .val (.long qb), .second, .val (.long qc), .second, .val (.int ip), .val (.int iq), .val (.ref tt0), .val (.ref tt1), .val (.ref tt2), .val (.int fa), .val (.int la), .val (.int fb), .val (.int lb), .val (.int fc), .val (.int lc), .val (.int r), .val (.ref b24), .val (.ref bb0), .val (.ref bb1), .val (.ref bb2), .val (.int la), .val (.int lb), .val (.int (0 : Int32)), .val (.ref gg)] [(.int (1 : Int32))])) tg
          refine XS.ifNo X164.here hx rfl (hb hby at_272) rfl ((if0 _ _).trans (feq (by decide)).1) ?_
          show Steps p.tables e below (T164.setTop (mkF m 275 #[.val (.long qa), .second, .val (.long qb), .second, .val (.long qc), .second, .val (.int ip), .val (.int iq), .val (.ref tt0), .val (.ref tt1), .val (.ref tt2), .val (.int fa), .val (.int la), .val (.int fb), .val (.int lb), .val (.int fc), .val (.int lc), .val (.int r), .val (.ref b24), .val (.ref bb0), .val (.ref bb1), .val (.ref bb2), .val (.int la), .val (.int lb), .val (.int (0 : Int32)), .val (.ref gg)] [])) tg
          refine XS.aload X164.here hx rfl (hb hby at_275) rfl rfl ?_
          refine XS.iconst X164.here hx rfl (hb hby at_277) ?_
          refine XS.aload X164.here hx rfl (hb hby at_278) rfl rfl ?_
          refine XS.iload X164.here hx rfl (hb hby at_280) rfl ?_
          refine XS.iload X164.here hx rfl (hb hby at_282) rfl ?_
          refine XS.aload X164.here hx rfl (hb hby at_284) rfl rfl ?_
          show Steps p.tables e below (T164.setTop (mkF m 286 #[.val (.long qa), .second, .val (.long qb), .second, .val (.long qc), .second, .val (.int ip), .val (.int iq), .val (.ref tt0), .val (.ref tt1), .val (.ref tt2), .val (.int fa), .val (.int la), .val (.int fb), .val (.int lb), .val (.int fc), .val (.int lc), .val (.int r), .val (.ref b24), .val (.ref bb0), .val (.ref bb1), .val (.ref bb2), .val (.int la), .val (.int lb), .val (.int (0 : Int32)), .val (.ref gg)] [(.ref tt1), (.int la), (.int fa), (.ref tt0), (.int (1 : Int32)), (.ref gg)])) tg
          refine XS.iload X164.here hx rfl (hb hby at_286) rfl ?_
          refine XS.iload X164.here hx rfl (hb hby at_288) rfl ?_
          refine XS.aload X164.here hx rfl (hb hby at_290) rfl rfl ?_
          refine XS.iload X164.here hx rfl (hb hby at_292) rfl ?_
          refine XS.iload X164.here hx rfl (hb hby at_294) rfl ?_
          exact kg
        obtain ⟨v170, T170, h170, Lc170, X170, e170, hQ170, st170⟩ := own_callS X164 hx hZ hown (hw _ (List.mem_of_getElem? (i := 60) rfl)) (hw _ (List.mem_of_getElem? (i := 61) rfl)) (hw _ (List.mem_of_getElem? (i := 2) rfl)) (hw _ (List.mem_of_getElem? (i := 62) rfl)) (by decide) (rm_at l Z a0 hw [] gg (1 : Int32) tt0 fa la tt1 fb lb tt2 fc (0 : Int32) kg (((((0 : Int32) + la) + lb) + lc) - lc) kt0 kt1 kt2 qa qb qc h151 n0 (by omega) f160 f165 f166 f167 i3fa i3fb i3fc i3la i3lb (⟨by decide, by decide⟩ : own_in3 0) (by omega) ⟨by decide, by decide⟩) e164' (g := (mkF m 296 #[.val (.long qa), .second, .val (.long qb), .second, .val (.long qc), .second, .val (.int ip), .val (.int iq), .val (.ref tt0), .val (.ref tt1), .val (.ref tt2), .val (.int fa), .val (.int la), .val (.int fb), .val (.int lb), .val (.int fc), .val (.int lc), .val (.int r), .val (.ref b24), .val (.ref bb0), .val (.ref bb1), .val (.ref bb2), .val (.int la), .val (.int lb), .val (.int (0 : Int32)), .val (.ref gg)] [(.int (0 : Int32)), (.int fc), (.ref tt2), (.int lb), (.int fb), (.ref tt1), (.int la), (.int fa), (.ref tt0), (.int (1 : Int32)), (.ref gg)])) rfl (by rw [hml]; rfl) (argsL := [(.ref gg), (.int (1 : Int32)), (.ref tt0), (.int fa), (.int la), (.ref tt1), (.int fb), (.int lb), (.ref tt2), (.int fc), (.int (0 : Int32))]) (rest := []) rfl (lenOf pd_7 rfl) rfl (W := 0) (by show 2 * 0 + _ ≤ _; exact Nat.le_of_eq rfl) (hb hby at_296) (by decide) (by decide) (by decide) (by decide)
        obtain ⟨rfl, Nq170, hs170⟩ := hQ170
        have N170 := Fr.app N164 Nq170
        have e170' : T170.heap = h151 := e170.trans hs170
        have k171 : Rch p e below (s₁.setTop (entryFrame m #[(.long qa), (.long qb), (.long qc), (.int ip), (.int iq)] maxLocals)) T170 (mkF m 299 #[.val (.long qa), .second, .val (.long qb), .second, .val (.long qc), .second, .val (.int ip), .val (.int iq), .val (.ref tt0), .val (.ref tt1), .val (.ref tt2), .val (.int fa), .val (.int la), .val (.int fb), .val (.int lb), .val (.int fc), .val (.int lc), .val (.int r), .val (.ref b24), .val (.ref bb0), .val (.ref bb1), .val (.ref bb2), .val (.int la), .val (.int lb), .val (.int (0 : Int32)), .val (.ref gg)] [(.int (1 : Int32))]) := fun tg kg => k169 tg (st170 tg kg)
        have k172 : Rch p e below (s₁.setTop (entryFrame m #[(.long qa), (.long qb), (.long qc), (.int ip), (.int iq)] maxLocals)) T170 (mkF m 323 #[.val (.long qa), .second, .val (.long qb), .second, .val (.long qc), .second, .val (.int ip), .val (.int iq), .val (.ref tt0), .val (.ref tt1), .val (.ref tt2), .val (.int fa), .val (.int la), .val (.int fb), .val (.int lb), .val (.int fc), .val (.int lc), .val (.int r), .val (.ref b24), .val (.ref bb0), .val (.ref bb1), .val (.ref bb2), .val (.int la), .val (.int lb), .val (.int (0 : Int32)), .val (.ref gg)] [(.int (0 : Int32)), (.int fc), (.ref tt2), (.int lb), (.int fb), (.ref tt1), (.int la), (.int fa), (.ref tt0), (.int (2 : Int32)), (.ref gg)]) := fun tg kg => by
          refine k171 tg ?_
          show Steps p.tables e below (T170.setTop (mkF m 299 #[.val (.long qa), .second, .val (.long qb), .second, .val (.long qc), .second, .val (.int ip), .val (.int iq), .val (.ref tt0), .val (.ref tt1), .val (.ref tt2), .val (.int fa), .val (.int la), .val (.int fb), .val (.int lb), .val (.int fc), .val (.int lc), .val (.int r), .val (.ref b24), .val (.ref bb0), .val (.ref bb1), .val (.ref bb2), .val (.int la), .val (.int lb), .val (.int (0 : Int32)), .val (.ref gg)] [(.int (1 : Int32))])) tg
          refine XS.ifNo X170.here hx rfl (hb hby at_299) rfl ((if0 _ _).trans (feq (by decide)).1) ?_
          show Steps p.tables e below (T170.setTop (mkF m 302 #[.val (.long qa), .second, .val (.long qb), .second, .val (.long qc), .second, .val (.int ip), .val (.int iq), .val (.ref tt0), .val (.ref tt1), .val (.ref tt2), .val (.int fa), .val (.int la), .val (.int fb), .val (.int lb), .val (.int fc), .val (.int lc), .val (.int r), .val (.ref b24), .val (.ref bb0), .val (.ref bb1), .val (.ref bb2), .val (.int la), .val (.int lb), .val (.int (0 : Int32)), .val (.ref gg)] [])) tg
          refine XS.aload X170.here hx rfl (hb hby at_302) rfl rfl ?_
          refine XS.iconst X170.here hx rfl (hb hby at_304) ?_
          refine XS.aload X170.here hx rfl (hb hby at_305) rfl rfl ?_
          refine XS.iload X170.here hx rfl (hb hby at_307) rfl ?_
          refine XS.iload X170.here hx rfl (hb hby at_309) rfl ?_
          refine XS.aload X170.here hx rfl (hb hby at_311) rfl rfl ?_
          show Steps p.tables e below (T170.setTop (mkF m 313 #[.val (.long qa), .second, .val (.long qb), .second, .val (.long qc), .second, .val (.int ip), .val (.int iq), .val (.ref tt0), .val (.ref tt1), .val (.ref tt2), .val (.int fa), .val (.int la), .val (.int fb), .val (.int lb), .val (.int fc), .val (.int lc), .val (.int r), .val (.ref b24), .val (.ref bb0), .val (.ref bb1), .val (.ref bb2), .val (.int la), .val (.int lb), .val (.int (0 : Int32)), .val (.ref gg)] [(.ref tt1), (.int la), (.int fa), (.ref tt0), (.int (2 : Int32)), (.ref gg)])) tg
          refine XS.iload X170.here hx rfl (hb hby at_313) rfl ?_
          refine XS.iload X170.here hx rfl (hb hby at_315) rfl ?_
          refine XS.aload X170.here hx rfl (hb hby at_317) rfl rfl ?_
          refine XS.iload X170.here hx rfl (hb hby at_319) rfl ?_
          refine XS.iload X170.here hx rfl (hb hby at_321) rfl ?_
          exact kg
        obtain ⟨v173, T173, h173, Lc173, X173, e173, hQ173, st173⟩ := own_callS X170 hx hZ hown (hw _ (List.mem_of_getElem? (i := 60) rfl)) (hw _ (List.mem_of_getElem? (i := 61) rfl)) (hw _ (List.mem_of_getElem? (i := 2) rfl)) (hw _ (List.mem_of_getElem? (i := 62) rfl)) (by decide) (rm_at l Z a0 hw [] gg (2 : Int32) tt0 fa la tt1 fb lb tt2 fc (0 : Int32) kg (((((0 : Int32) + la) + lb) + lc) - lc) kt0 kt1 kt2 qa qb qc h151 n0 (by omega) f160 f165 f166 f167 i3fa i3fb i3fc i3la i3lb (⟨by decide, by decide⟩ : own_in3 0) (by omega) ⟨by decide, by decide⟩) e170' (g := (mkF m 323 #[.val (.long qa), .second, .val (.long qb), .second, .val (.long qc), .second, .val (.int ip), .val (.int iq), .val (.ref tt0), .val (.ref tt1), .val (.ref tt2), .val (.int fa), .val (.int la), .val (.int fb), .val (.int lb), .val (.int fc), .val (.int lc), .val (.int r), .val (.ref b24), .val (.ref bb0), .val (.ref bb1), .val (.ref bb2), .val (.int la), .val (.int lb), .val (.int (0 : Int32)), .val (.ref gg)] [(.int (0 : Int32)), (.int fc), (.ref tt2), (.int lb), (.int fb), (.ref tt1), (.int la), (.int fa), (.ref tt0), (.int (2 : Int32)), (.ref gg)])) rfl (by rw [hml]; rfl) (argsL := [(.ref gg), (.int (2 : Int32)), (.ref tt0), (.int fa), (.int la), (.ref tt1), (.int fb), (.int lb), (.ref tt2), (.int fc), (.int (0 : Int32))]) (rest := []) rfl (lenOf pd_7 rfl) rfl (W := 0) (by show 2 * 0 + _ ≤ _; exact Nat.le_of_eq rfl) (hb hby at_323) (by decide) (by decide) (by decide) (by decide)
        obtain ⟨rfl, Nq173, hs173⟩ := hQ173
        have N173 := Fr.app N170 Nq173
        have e173' : T173.heap = h151 := e173.trans hs173
        have k174 : Rch p e below (s₁.setTop (entryFrame m #[(.long qa), (.long qb), (.long qc), (.int ip), (.int iq)] maxLocals)) T173 (mkF m 326 #[.val (.long qa), .second, .val (.long qb), .second, .val (.long qc), .second, .val (.int ip), .val (.int iq), .val (.ref tt0), .val (.ref tt1), .val (.ref tt2), .val (.int fa), .val (.int la), .val (.int fb), .val (.int lb), .val (.int fc), .val (.int lc), .val (.int r), .val (.ref b24), .val (.ref bb0), .val (.ref bb1), .val (.ref bb2), .val (.int la), .val (.int lb), .val (.int (0 : Int32)), .val (.ref gg)] [(.int (1 : Int32))]) := fun tg kg => k172 tg (st173 tg kg)
        have k175 : Rch p e below (s₁.setTop (entryFrame m #[(.long qa), (.long qb), (.long qc), (.int ip), (.int iq)] maxLocals)) T173 (mkF m 350 #[.val (.long qa), .second, .val (.long qb), .second, .val (.long qc), .second, .val (.int ip), .val (.int iq), .val (.ref tt0), .val (.ref tt1), .val (.ref tt2), .val (.int fa), .val (.int la), .val (.int fb), .val (.int lb), .val (.int fc), .val (.int lc), .val (.int r), .val (.ref b24), .val (.ref bb0), .val (.ref bb1), .val (.ref bb2), .val (.int la), .val (.int lb), .val (.int (0 : Int32)), .val (.ref gg)] [(.int (0 : Int32)), (.int fc), (.ref tt2), (.int lb), (.int fb), (.ref tt1), (.int la), (.int fa), (.ref tt0), (.int (3 : Int32)), (.ref gg)]) := fun tg kg => by
          refine k174 tg ?_
          show Steps p.tables e below (T173.setTop (mkF m 326 #[.val (.long qa), .second, .val (.long qb), .second, .val (.long qc), .second, .val (.int ip), .val (.int iq), .val (.ref tt0), .val (.ref tt1), .val (.ref tt2), .val (.int fa), .val (.int la), .val (.int fb), .val (.int lb), .val (.int fc), .val (.int lc), .val (.int r), .val (.ref b24), .val (.ref bb0), .val (.ref bb1), .val (.ref bb2), .val (.int la), .val (.int lb), .val (.int (0 : Int32)), .val (.ref gg)] [(.int (1 : Int32))])) tg
          refine XS.ifNo X173.here hx rfl (hb hby at_326) rfl ((if0 _ _).trans (feq (by decide)).1) ?_
          show Steps p.tables e below (T173.setTop (mkF m 329 #[.val (.long qa), .second, .val (.long qb), .second, .val (.long qc), .second, .val (.int ip), .val (.int iq), .val (.ref tt0), .val (.ref tt1), .val (.ref tt2), .val (.int fa), .val (.int la), .val (.int fb), .val (.int lb), .val (.int fc), .val (.int lc), .val (.int r), .val (.ref b24), .val (.ref bb0), .val (.ref bb1), .val (.ref bb2), .val (.int la), .val (.int lb), .val (.int (0 : Int32)), .val (.ref gg)] [])) tg
          refine XS.aload X173.here hx rfl (hb hby at_329) rfl rfl ?_
          refine XS.iconst X173.here hx rfl (hb hby at_331) ?_
          refine XS.aload X173.here hx rfl (hb hby at_332) rfl rfl ?_
          refine XS.iload X173.here hx rfl (hb hby at_334) rfl ?_
          refine XS.iload X173.here hx rfl (hb hby at_336) rfl ?_
          refine XS.aload X173.here hx rfl (hb hby at_338) rfl rfl ?_
          show Steps p.tables e below (T173.setTop (mkF m 340 #[.val (.long qa), .second, .val (.long qb), .second, .val (.long qc), .second, .val (.int ip), .val (.int iq), .val (.ref tt0), .val (.ref tt1), .val (.ref tt2), .val (.int fa), .val (.int la), .val (.int fb), .val (.int lb), .val (.int fc), .val (.int lc), .val (.int r), .val (.ref b24), .val (.ref bb0), .val (.ref bb1), .val (.ref bb2), .val (.int la), .val (.int lb), .val (.int (0 : Int32)), .val (.ref gg)] [(.ref tt1), (.int la), (.int fa), (.ref tt0), (.int (3 : Int32)), (.ref gg)])) tg
          refine XS.iload X173.here hx rfl (hb hby at_340) rfl ?_
          refine XS.iload X173.here hx rfl (hb hby at_342) rfl ?_
          refine XS.aload X173.here hx rfl (hb hby at_344) rfl rfl ?_
          refine XS.iload X173.here hx rfl (hb hby at_346) rfl ?_
          refine XS.iload X173.here hx rfl (hb hby at_348) rfl ?_
          exact kg
        obtain ⟨v176, T176, h176, Lc176, X176, e176, hQ176, st176⟩ := own_callS X173 hx hZ hown (hw _ (List.mem_of_getElem? (i := 60) rfl)) (hw _ (List.mem_of_getElem? (i := 61) rfl)) (hw _ (List.mem_of_getElem? (i := 2) rfl)) (hw _ (List.mem_of_getElem? (i := 62) rfl)) (by decide) (rm_at l Z a0 hw [] gg (3 : Int32) tt0 fa la tt1 fb lb tt2 fc (0 : Int32) kg (((((0 : Int32) + la) + lb) + lc) - lc) kt0 kt1 kt2 qa qb qc h151 n0 (by omega) f160 f165 f166 f167 i3fa i3fb i3fc i3la i3lb (⟨by decide, by decide⟩ : own_in3 0) (by omega) ⟨by decide, by decide⟩) e173' (g := (mkF m 350 #[.val (.long qa), .second, .val (.long qb), .second, .val (.long qc), .second, .val (.int ip), .val (.int iq), .val (.ref tt0), .val (.ref tt1), .val (.ref tt2), .val (.int fa), .val (.int la), .val (.int fb), .val (.int lb), .val (.int fc), .val (.int lc), .val (.int r), .val (.ref b24), .val (.ref bb0), .val (.ref bb1), .val (.ref bb2), .val (.int la), .val (.int lb), .val (.int (0 : Int32)), .val (.ref gg)] [(.int (0 : Int32)), (.int fc), (.ref tt2), (.int lb), (.int fb), (.ref tt1), (.int la), (.int fa), (.ref tt0), (.int (3 : Int32)), (.ref gg)])) rfl (by rw [hml]; rfl) (argsL := [(.ref gg), (.int (3 : Int32)), (.ref tt0), (.int fa), (.int la), (.ref tt1), (.int fb), (.int lb), (.ref tt2), (.int fc), (.int (0 : Int32))]) (rest := []) rfl (lenOf pd_7 rfl) rfl (W := 0) (by show 2 * 0 + _ ≤ _; exact Nat.le_of_eq rfl) (hb hby at_350) (by decide) (by decide) (by decide) (by decide)
        obtain ⟨rfl, Nq176, hs176⟩ := hQ176
        have N176 := Fr.app N173 Nq176
        have e176' : T176.heap = h151 := e176.trans hs176
        have k177 : Rch p e below (s₁.setTop (entryFrame m #[(.long qa), (.long qb), (.long qc), (.int ip), (.int iq)] maxLocals)) T176 (mkF m 353 #[.val (.long qa), .second, .val (.long qb), .second, .val (.long qc), .second, .val (.int ip), .val (.int iq), .val (.ref tt0), .val (.ref tt1), .val (.ref tt2), .val (.int fa), .val (.int la), .val (.int fb), .val (.int lb), .val (.int fc), .val (.int lc), .val (.int r), .val (.ref b24), .val (.ref bb0), .val (.ref bb1), .val (.ref bb2), .val (.int la), .val (.int lb), .val (.int (0 : Int32)), .val (.ref gg)] [(.int (1 : Int32))]) := fun tg kg => k175 tg (st176 tg kg)
        have k178 : Rch p e below (s₁.setTop (entryFrame m #[(.long qa), (.long qb), (.long qc), (.int ip), (.int iq)] maxLocals)) T176 (mkF m 377 #[.val (.long qa), .second, .val (.long qb), .second, .val (.long qc), .second, .val (.int ip), .val (.int iq), .val (.ref tt0), .val (.ref tt1), .val (.ref tt2), .val (.int fa), .val (.int la), .val (.int fb), .val (.int lb), .val (.int fc), .val (.int lc), .val (.int r), .val (.ref b24), .val (.ref bb0), .val (.ref bb1), .val (.ref bb2), .val (.int la), .val (.int lb), .val (.int (0 : Int32)), .val (.ref gg)] [(.int (0 : Int32)), (.int fc), (.ref tt2), (.int lb), (.int fb), (.ref tt1), (.int la), (.int fa), (.ref tt0), (.int (4 : Int32)), (.ref gg)]) := fun tg kg => by
          refine k177 tg ?_
          show Steps p.tables e below (T176.setTop (mkF m 353 #[.val (.long qa), .second, .val (.long qb), .second, .val (.long qc), .second, .val (.int ip), .val (.int iq), .val (.ref tt0), .val (.ref tt1), .val (.ref tt2), .val (.int fa), .val (.int la), .val (.int fb), .val (.int lb), .val (.int fc), .val (.int lc), .val (.int r), .val (.ref b24), .val (.ref bb0), .val (.ref bb1), .val (.ref bb2), .val (.int la), .val (.int lb), .val (.int (0 : Int32)), .val (.ref gg)] [(.int (1 : Int32))])) tg
          refine XS.ifNo X176.here hx rfl (hb hby at_353) rfl ((if0 _ _).trans (feq (by decide)).1) ?_
          show Steps p.tables e below (T176.setTop (mkF m 356 #[.val (.long qa), .second, .val (.long qb), .second, .val (.long qc), .second, .val (.int ip), .val (.int iq), .val (.ref tt0), .val (.ref tt1), .val (.ref tt2), .val (.int fa), .val (.int la), .val (.int fb), .val (.int lb), .val (.int fc), .val (.int lc), .val (.int r), .val (.ref b24), .val (.ref bb0), .val (.ref bb1), .val (.ref bb2), .val (.int la), .val (.int lb), .val (.int (0 : Int32)), .val (.ref gg)] [])) tg
          refine XS.aload X176.here hx rfl (hb hby at_356) rfl rfl ?_
          refine XS.iconst X176.here hx rfl (hb hby at_358) ?_
          refine XS.aload X176.here hx rfl (hb hby at_359) rfl rfl ?_
          refine XS.iload X176.here hx rfl (hb hby at_361) rfl ?_
          refine XS.iload X176.here hx rfl (hb hby at_363) rfl ?_
          refine XS.aload X176.here hx rfl (hb hby at_365) rfl rfl ?_
          show Steps p.tables e below (T176.setTop (mkF m 367 #[.val (.long qa), .second, .val (.long qb), .second, .val (.long qc), .second, .val (.int ip), .val (.int iq), .val (.ref tt0), .val (.ref tt1), .val (.ref tt2), .val (.int fa), .val (.int la), .val (.int fb), .val (.int lb), .val (.int fc), .val (.int lc), .val (.int r), .val (.ref b24), .val (.ref bb0), .val (.ref bb1), .val (.ref bb2), .val (.int la), .val (.int lb), .val (.int (0 : Int32)), .val (.ref gg)] [(.ref tt1), (.int la), (.int fa), (.ref tt0), (.int (4 : Int32)), (.ref gg)])) tg
          refine XS.iload X176.here hx rfl (hb hby at_367) rfl ?_
          refine XS.iload X176.here hx rfl (hb hby at_369) rfl ?_
          refine XS.aload X176.here hx rfl (hb hby at_371) rfl rfl ?_
          refine XS.iload X176.here hx rfl (hb hby at_373) rfl ?_
          refine XS.iload X176.here hx rfl (hb hby at_375) rfl ?_
          exact kg
        obtain ⟨v179, T179, h179, Lc179, X179, e179, hQ179, st179⟩ := own_callS X176 hx hZ hown (hw _ (List.mem_of_getElem? (i := 60) rfl)) (hw _ (List.mem_of_getElem? (i := 61) rfl)) (hw _ (List.mem_of_getElem? (i := 2) rfl)) (hw _ (List.mem_of_getElem? (i := 62) rfl)) (by decide) (rm_at l Z a0 hw [] gg (4 : Int32) tt0 fa la tt1 fb lb tt2 fc (0 : Int32) kg (((((0 : Int32) + la) + lb) + lc) - lc) kt0 kt1 kt2 qa qb qc h151 n0 (by omega) f160 f165 f166 f167 i3fa i3fb i3fc i3la i3lb (⟨by decide, by decide⟩ : own_in3 0) (by omega) ⟨by decide, by decide⟩) e176' (g := (mkF m 377 #[.val (.long qa), .second, .val (.long qb), .second, .val (.long qc), .second, .val (.int ip), .val (.int iq), .val (.ref tt0), .val (.ref tt1), .val (.ref tt2), .val (.int fa), .val (.int la), .val (.int fb), .val (.int lb), .val (.int fc), .val (.int lc), .val (.int r), .val (.ref b24), .val (.ref bb0), .val (.ref bb1), .val (.ref bb2), .val (.int la), .val (.int lb), .val (.int (0 : Int32)), .val (.ref gg)] [(.int (0 : Int32)), (.int fc), (.ref tt2), (.int lb), (.int fb), (.ref tt1), (.int la), (.int fa), (.ref tt0), (.int (4 : Int32)), (.ref gg)])) rfl (by rw [hml]; rfl) (argsL := [(.ref gg), (.int (4 : Int32)), (.ref tt0), (.int fa), (.int la), (.ref tt1), (.int fb), (.int lb), (.ref tt2), (.int fc), (.int (0 : Int32))]) (rest := []) rfl (lenOf pd_7 rfl) rfl (W := 0) (by show 2 * 0 + _ ≤ _; exact Nat.le_of_eq rfl) (hb hby at_377) (by decide) (by decide) (by decide) (by decide)
        obtain ⟨rfl, Nq179, hs179⟩ := hQ179
        have N179 := Fr.app N176 Nq179
        have e179' : T179.heap = h151 := e179.trans hs179
        have k180 : Rch p e below (s₁.setTop (entryFrame m #[(.long qa), (.long qb), (.long qc), (.int ip), (.int iq)] maxLocals)) T179 (mkF m 380 #[.val (.long qa), .second, .val (.long qb), .second, .val (.long qc), .second, .val (.int ip), .val (.int iq), .val (.ref tt0), .val (.ref tt1), .val (.ref tt2), .val (.int fa), .val (.int la), .val (.int fb), .val (.int lb), .val (.int fc), .val (.int lc), .val (.int r), .val (.ref b24), .val (.ref bb0), .val (.ref bb1), .val (.ref bb2), .val (.int la), .val (.int lb), .val (.int (0 : Int32)), .val (.ref gg)] [(.int (1 : Int32))]) := fun tg kg => k178 tg (st179 tg kg)
        have k181 : Rch p e below (s₁.setTop (entryFrame m #[(.long qa), (.long qb), (.long qc), (.int ip), (.int iq)] maxLocals)) T179 (mkF m 404 #[.val (.long qa), .second, .val (.long qb), .second, .val (.long qc), .second, .val (.int ip), .val (.int iq), .val (.ref tt0), .val (.ref tt1), .val (.ref tt2), .val (.int fa), .val (.int la), .val (.int fb), .val (.int lb), .val (.int fc), .val (.int lc), .val (.int r), .val (.ref b24), .val (.ref bb0), .val (.ref bb1), .val (.ref bb2), .val (.int la), .val (.int lb), .val (.int (0 : Int32)), .val (.ref gg)] [(.int (0 : Int32)), (.int fc), (.ref tt2), (.int lb), (.int fb), (.ref tt1), (.int la), (.int fa), (.ref tt0), (.int (5 : Int32)), (.ref gg)]) := fun tg kg => by
          refine k180 tg ?_
          show Steps p.tables e below (T179.setTop (mkF m 380 #[.val (.long qa), .second, .val (.long qb), .second, .val (.long qc), .second, .val (.int ip), .val (.int iq), .val (.ref tt0), .val (.ref tt1), .val (.ref tt2), .val (.int fa), .val (.int la), .val (.int fb), .val (.int lb), .val (.int fc), .val (.int lc), .val (.int r), .val (.ref b24), .val (.ref bb0), .val (.ref bb1), .val (.ref bb2), .val (.int la), .val (.int lb), .val (.int (0 : Int32)), .val (.ref gg)] [(.int (1 : Int32))])) tg
          refine XS.ifNo X179.here hx rfl (hb hby at_380) rfl ((if0 _ _).trans (feq (by decide)).1) ?_
          show Steps p.tables e below (T179.setTop (mkF m 383 #[.val (.long qa), .second, .val (.long qb), .second, .val (.long qc), .second, .val (.int ip), .val (.int iq), .val (.ref tt0), .val (.ref tt1), .val (.ref tt2), .val (.int fa), .val (.int la), .val (.int fb), .val (.int lb), .val (.int fc), .val (.int lc), .val (.int r), .val (.ref b24), .val (.ref bb0), .val (.ref bb1), .val (.ref bb2), .val (.int la), .val (.int lb), .val (.int (0 : Int32)), .val (.ref gg)] [])) tg
          refine XS.aload X179.here hx rfl (hb hby at_383) rfl rfl ?_
          refine XS.iconst X179.here hx rfl (hb hby at_385) ?_
          refine XS.aload X179.here hx rfl (hb hby at_386) rfl rfl ?_
          refine XS.iload X179.here hx rfl (hb hby at_388) rfl ?_
          refine XS.iload X179.here hx rfl (hb hby at_390) rfl ?_
          refine XS.aload X179.here hx rfl (hb hby at_392) rfl rfl ?_
          show Steps p.tables e below (T179.setTop (mkF m 394 #[.val (.long qa), .second, .val (.long qb), .second, .val (.long qc), .second, .val (.int ip), .val (.int iq), .val (.ref tt0), .val (.ref tt1), .val (.ref tt2), .val (.int fa), .val (.int la), .val (.int fb), .val (.int lb), .val (.int fc), .val (.int lc), .val (.int r), .val (.ref b24), .val (.ref bb0), .val (.ref bb1), .val (.ref bb2), .val (.int la), .val (.int lb), .val (.int (0 : Int32)), .val (.ref gg)] [(.ref tt1), (.int la), (.int fa), (.ref tt0), (.int (5 : Int32)), (.ref gg)])) tg
          refine XS.iload X179.here hx rfl (hb hby at_394) rfl ?_
          refine XS.iload X179.here hx rfl (hb hby at_396) rfl ?_
          refine XS.aload X179.here hx rfl (hb hby at_398) rfl rfl ?_
          refine XS.iload X179.here hx rfl (hb hby at_400) rfl ?_
          refine XS.iload X179.here hx rfl (hb hby at_402) rfl ?_
          exact kg
        obtain ⟨v182, T182, h182, Lc182, X182, e182, hQ182, st182⟩ := own_callS X179 hx hZ hown (hw _ (List.mem_of_getElem? (i := 60) rfl)) (hw _ (List.mem_of_getElem? (i := 61) rfl)) (hw _ (List.mem_of_getElem? (i := 2) rfl)) (hw _ (List.mem_of_getElem? (i := 62) rfl)) (by decide) (rm_at l Z a0 hw [] gg (5 : Int32) tt0 fa la tt1 fb lb tt2 fc (0 : Int32) kg (((((0 : Int32) + la) + lb) + lc) - lc) kt0 kt1 kt2 qa qb qc h151 n0 (by omega) f160 f165 f166 f167 i3fa i3fb i3fc i3la i3lb (⟨by decide, by decide⟩ : own_in3 0) (by omega) ⟨by decide, by decide⟩) e179' (g := (mkF m 404 #[.val (.long qa), .second, .val (.long qb), .second, .val (.long qc), .second, .val (.int ip), .val (.int iq), .val (.ref tt0), .val (.ref tt1), .val (.ref tt2), .val (.int fa), .val (.int la), .val (.int fb), .val (.int lb), .val (.int fc), .val (.int lc), .val (.int r), .val (.ref b24), .val (.ref bb0), .val (.ref bb1), .val (.ref bb2), .val (.int la), .val (.int lb), .val (.int (0 : Int32)), .val (.ref gg)] [(.int (0 : Int32)), (.int fc), (.ref tt2), (.int lb), (.int fb), (.ref tt1), (.int la), (.int fa), (.ref tt0), (.int (5 : Int32)), (.ref gg)])) rfl (by rw [hml]; rfl) (argsL := [(.ref gg), (.int (5 : Int32)), (.ref tt0), (.int fa), (.int la), (.ref tt1), (.int fb), (.int lb), (.ref tt2), (.int fc), (.int (0 : Int32))]) (rest := []) rfl (lenOf pd_7 rfl) rfl (W := 0) (by show 2 * 0 + _ ≤ _; exact Nat.le_of_eq rfl) (hb hby at_404) (by decide) (by decide) (by decide) (by decide)
        obtain ⟨rfl, Nq182, hs182⟩ := hQ182
        have N182 := Fr.app N179 Nq182
        have e182' : T182.heap = h151 := e182.trans hs182
        have k183 : Rch p e below (s₁.setTop (entryFrame m #[(.long qa), (.long qb), (.long qc), (.int ip), (.int iq)] maxLocals)) T182 (mkF m 407 #[.val (.long qa), .second, .val (.long qb), .second, .val (.long qc), .second, .val (.int ip), .val (.int iq), .val (.ref tt0), .val (.ref tt1), .val (.ref tt2), .val (.int fa), .val (.int la), .val (.int fb), .val (.int lb), .val (.int fc), .val (.int lc), .val (.int r), .val (.ref b24), .val (.ref bb0), .val (.ref bb1), .val (.ref bb2), .val (.int la), .val (.int lb), .val (.int (0 : Int32)), .val (.ref gg)] [(.int (1 : Int32))]) := fun tg kg => k181 tg (st182 tg kg)
        have k184 : Rch p e below (s₁.setTop (entryFrame m #[(.long qa), (.long qb), (.long qc), (.int ip), (.int iq)] maxLocals)) T182 (mkF m 432 #[.val (.long qa), .second, .val (.long qb), .second, .val (.long qc), .second, .val (.int ip), .val (.int iq), .val (.ref tt0), .val (.ref tt1), .val (.ref tt2), .val (.int fa), .val (.int la), .val (.int fb), .val (.int lb), .val (.int fc), .val (.int lc), .val (.int r), .val (.ref b24), .val (.ref bb0), .val (.ref bb1), .val (.ref bb2), .val (.int la), .val (.int lb), .val (.int (0 : Int32)), .val (.ref gg)] [(.int (0 : Int32)), (.int fc), (.ref tt2), (.int lb), (.int fb), (.ref tt1), (.int la), (.int fa), (.ref tt0), (.int (6 : Int32)), (.ref gg)]) := fun tg kg => by
          refine k183 tg ?_
          show Steps p.tables e below (T182.setTop (mkF m 407 #[.val (.long qa), .second, .val (.long qb), .second, .val (.long qc), .second, .val (.int ip), .val (.int iq), .val (.ref tt0), .val (.ref tt1), .val (.ref tt2), .val (.int fa), .val (.int la), .val (.int fb), .val (.int lb), .val (.int fc), .val (.int lc), .val (.int r), .val (.ref b24), .val (.ref bb0), .val (.ref bb1), .val (.ref bb2), .val (.int la), .val (.int lb), .val (.int (0 : Int32)), .val (.ref gg)] [(.int (1 : Int32))])) tg
          refine XS.ifNo X182.here hx rfl (hb hby at_407) rfl ((if0 _ _).trans (feq (by decide)).1) ?_
          show Steps p.tables e below (T182.setTop (mkF m 410 #[.val (.long qa), .second, .val (.long qb), .second, .val (.long qc), .second, .val (.int ip), .val (.int iq), .val (.ref tt0), .val (.ref tt1), .val (.ref tt2), .val (.int fa), .val (.int la), .val (.int fb), .val (.int lb), .val (.int fc), .val (.int lc), .val (.int r), .val (.ref b24), .val (.ref bb0), .val (.ref bb1), .val (.ref bb2), .val (.int la), .val (.int lb), .val (.int (0 : Int32)), .val (.ref gg)] [])) tg
          refine XS.aload X182.here hx rfl (hb hby at_410) rfl rfl ?_
          refine XS.bipush X182.here hx rfl (hb hby at_412) ?_
          refine XS.aload X182.here hx rfl (hb hby at_414) rfl rfl ?_
          refine XS.iload X182.here hx rfl (hb hby at_416) rfl ?_
          refine XS.iload X182.here hx rfl (hb hby at_418) rfl ?_
          refine XS.aload X182.here hx rfl (hb hby at_420) rfl rfl ?_
          show Steps p.tables e below (T182.setTop (mkF m 422 #[.val (.long qa), .second, .val (.long qb), .second, .val (.long qc), .second, .val (.int ip), .val (.int iq), .val (.ref tt0), .val (.ref tt1), .val (.ref tt2), .val (.int fa), .val (.int la), .val (.int fb), .val (.int lb), .val (.int fc), .val (.int lc), .val (.int r), .val (.ref b24), .val (.ref bb0), .val (.ref bb1), .val (.ref bb2), .val (.int la), .val (.int lb), .val (.int (0 : Int32)), .val (.ref gg)] [(.ref tt1), (.int la), (.int fa), (.ref tt0), (.int (6 : Int32)), (.ref gg)])) tg
          refine XS.iload X182.here hx rfl (hb hby at_422) rfl ?_
          refine XS.iload X182.here hx rfl (hb hby at_424) rfl ?_
          refine XS.aload X182.here hx rfl (hb hby at_426) rfl rfl ?_
          refine XS.iload X182.here hx rfl (hb hby at_428) rfl ?_
          refine XS.iload X182.here hx rfl (hb hby at_430) rfl ?_
          exact kg
        obtain ⟨v185, T185, h185, Lc185, X185, e185, hQ185, st185⟩ := own_callS X182 hx hZ hown (hw _ (List.mem_of_getElem? (i := 60) rfl)) (hw _ (List.mem_of_getElem? (i := 61) rfl)) (hw _ (List.mem_of_getElem? (i := 2) rfl)) (hw _ (List.mem_of_getElem? (i := 62) rfl)) (by decide) (rm_at l Z a0 hw [] gg (6 : Int32) tt0 fa la tt1 fb lb tt2 fc (0 : Int32) kg (((((0 : Int32) + la) + lb) + lc) - lc) kt0 kt1 kt2 qa qb qc h151 n0 (by omega) f160 f165 f166 f167 i3fa i3fb i3fc i3la i3lb (⟨by decide, by decide⟩ : own_in3 0) (by omega) ⟨by decide, by decide⟩) e182' (g := (mkF m 432 #[.val (.long qa), .second, .val (.long qb), .second, .val (.long qc), .second, .val (.int ip), .val (.int iq), .val (.ref tt0), .val (.ref tt1), .val (.ref tt2), .val (.int fa), .val (.int la), .val (.int fb), .val (.int lb), .val (.int fc), .val (.int lc), .val (.int r), .val (.ref b24), .val (.ref bb0), .val (.ref bb1), .val (.ref bb2), .val (.int la), .val (.int lb), .val (.int (0 : Int32)), .val (.ref gg)] [(.int (0 : Int32)), (.int fc), (.ref tt2), (.int lb), (.int fb), (.ref tt1), (.int la), (.int fa), (.ref tt0), (.int (6 : Int32)), (.ref gg)])) rfl (by rw [hml]; rfl) (argsL := [(.ref gg), (.int (6 : Int32)), (.ref tt0), (.int fa), (.int la), (.ref tt1), (.int fb), (.int lb), (.ref tt2), (.int fc), (.int (0 : Int32))]) (rest := []) rfl (lenOf pd_7 rfl) rfl (W := 0) (by show 2 * 0 + _ ≤ _; exact Nat.le_of_eq rfl) (hb hby at_432) (by decide) (by decide) (by decide) (by decide)
        obtain ⟨rfl, Nq185, hs185⟩ := hQ185
        have N185 := Fr.app N182 Nq185
        have e185' : T185.heap = h151 := e185.trans hs185
        have k186 : Rch p e below (s₁.setTop (entryFrame m #[(.long qa), (.long qb), (.long qc), (.int ip), (.int iq)] maxLocals)) T185 (mkF m 435 #[.val (.long qa), .second, .val (.long qb), .second, .val (.long qc), .second, .val (.int ip), .val (.int iq), .val (.ref tt0), .val (.ref tt1), .val (.ref tt2), .val (.int fa), .val (.int la), .val (.int fb), .val (.int lb), .val (.int fc), .val (.int lc), .val (.int r), .val (.ref b24), .val (.ref bb0), .val (.ref bb1), .val (.ref bb2), .val (.int la), .val (.int lb), .val (.int (0 : Int32)), .val (.ref gg)] [(.int (1 : Int32))]) := fun tg kg => k184 tg (st185 tg kg)
        have k187 : Rch p e below (s₁.setTop (entryFrame m #[(.long qa), (.long qb), (.long qc), (.int ip), (.int iq)] maxLocals)) T185 (mkF m 460 #[.val (.long qa), .second, .val (.long qb), .second, .val (.long qc), .second, .val (.int ip), .val (.int iq), .val (.ref tt0), .val (.ref tt1), .val (.ref tt2), .val (.int fa), .val (.int la), .val (.int fb), .val (.int lb), .val (.int fc), .val (.int lc), .val (.int r), .val (.ref b24), .val (.ref bb0), .val (.ref bb1), .val (.ref bb2), .val (.int la), .val (.int lb), .val (.int (0 : Int32)), .val (.ref gg)] [(.int (0 : Int32)), (.int fc), (.ref tt2), (.int lb), (.int fb), (.ref tt1), (.int la), (.int fa), (.ref tt0), (.int (7 : Int32)), (.ref gg)]) := fun tg kg => by
          refine k186 tg ?_
          show Steps p.tables e below (T185.setTop (mkF m 435 #[.val (.long qa), .second, .val (.long qb), .second, .val (.long qc), .second, .val (.int ip), .val (.int iq), .val (.ref tt0), .val (.ref tt1), .val (.ref tt2), .val (.int fa), .val (.int la), .val (.int fb), .val (.int lb), .val (.int fc), .val (.int lc), .val (.int r), .val (.ref b24), .val (.ref bb0), .val (.ref bb1), .val (.ref bb2), .val (.int la), .val (.int lb), .val (.int (0 : Int32)), .val (.ref gg)] [(.int (1 : Int32))])) tg
          refine XS.ifNo X185.here hx rfl (hb hby at_435) rfl ((if0 _ _).trans (feq (by decide)).1) ?_
          show Steps p.tables e below (T185.setTop (mkF m 438 #[.val (.long qa), .second, .val (.long qb), .second, .val (.long qc), .second, .val (.int ip), .val (.int iq), .val (.ref tt0), .val (.ref tt1), .val (.ref tt2), .val (.int fa), .val (.int la), .val (.int fb), .val (.int lb), .val (.int fc), .val (.int lc), .val (.int r), .val (.ref b24), .val (.ref bb0), .val (.ref bb1), .val (.ref bb2), .val (.int la), .val (.int lb), .val (.int (0 : Int32)), .val (.ref gg)] [])) tg
          refine XS.aload X185.here hx rfl (hb hby at_438) rfl rfl ?_
          refine XS.bipush X185.here hx rfl (hb hby at_440) ?_
          refine XS.aload X185.here hx rfl (hb hby at_442) rfl rfl ?_
          refine XS.iload X185.here hx rfl (hb hby at_444) rfl ?_
          refine XS.iload X185.here hx rfl (hb hby at_446) rfl ?_
          refine XS.aload X185.here hx rfl (hb hby at_448) rfl rfl ?_
          show Steps p.tables e below (T185.setTop (mkF m 450 #[.val (.long qa), .second, .val (.long qb), .second, .val (.long qc), .second, .val (.int ip), .val (.int iq), .val (.ref tt0), .val (.ref tt1), .val (.ref tt2), .val (.int fa), .val (.int la), .val (.int fb), .val (.int lb), .val (.int fc), .val (.int lc), .val (.int r), .val (.ref b24), .val (.ref bb0), .val (.ref bb1), .val (.ref bb2), .val (.int la), .val (.int lb), .val (.int (0 : Int32)), .val (.ref gg)] [(.ref tt1), (.int la), (.int fa), (.ref tt0), (.int (7 : Int32)), (.ref gg)])) tg
          refine XS.iload X185.here hx rfl (hb hby at_450) rfl ?_
          refine XS.iload X185.here hx rfl (hb hby at_452) rfl ?_
          refine XS.aload X185.here hx rfl (hb hby at_454) rfl rfl ?_
          refine XS.iload X185.here hx rfl (hb hby at_456) rfl ?_
          refine XS.iload X185.here hx rfl (hb hby at_458) rfl ?_
          exact kg
        obtain ⟨v188, T188, h188, Lc188, X188, e188, hQ188, st188⟩ := own_callS X185 hx hZ hown (hw _ (List.mem_of_getElem? (i := 60) rfl)) (hw _ (List.mem_of_getElem? (i := 61) rfl)) (hw _ (List.mem_of_getElem? (i := 2) rfl)) (hw _ (List.mem_of_getElem? (i := 62) rfl)) (by decide) (rm_at l Z a0 hw [] gg (7 : Int32) tt0 fa la tt1 fb lb tt2 fc (0 : Int32) kg (((((0 : Int32) + la) + lb) + lc) - lc) kt0 kt1 kt2 qa qb qc h151 n0 (by omega) f160 f165 f166 f167 i3fa i3fb i3fc i3la i3lb (⟨by decide, by decide⟩ : own_in3 0) (by omega) ⟨by decide, by decide⟩) e185' (g := (mkF m 460 #[.val (.long qa), .second, .val (.long qb), .second, .val (.long qc), .second, .val (.int ip), .val (.int iq), .val (.ref tt0), .val (.ref tt1), .val (.ref tt2), .val (.int fa), .val (.int la), .val (.int fb), .val (.int lb), .val (.int fc), .val (.int lc), .val (.int r), .val (.ref b24), .val (.ref bb0), .val (.ref bb1), .val (.ref bb2), .val (.int la), .val (.int lb), .val (.int (0 : Int32)), .val (.ref gg)] [(.int (0 : Int32)), (.int fc), (.ref tt2), (.int lb), (.int fb), (.ref tt1), (.int la), (.int fa), (.ref tt0), (.int (7 : Int32)), (.ref gg)])) rfl (by rw [hml]; rfl) (argsL := [(.ref gg), (.int (7 : Int32)), (.ref tt0), (.int fa), (.int la), (.ref tt1), (.int fb), (.int lb), (.ref tt2), (.int fc), (.int (0 : Int32))]) (rest := []) rfl (lenOf pd_7 rfl) rfl (W := 0) (by show 2 * 0 + _ ≤ _; exact Nat.le_of_eq rfl) (hb hby at_460) (by decide) (by decide) (by decide) (by decide)
        obtain ⟨rfl, Nq188, hs188⟩ := hQ188
        have N188 := Fr.app N185 Nq188
        have e188' : T188.heap = h151 := e188.trans hs188
        have k189 : Rch p e below (s₁.setTop (entryFrame m #[(.long qa), (.long qb), (.long qc), (.int ip), (.int iq)] maxLocals)) T188 (mkF m 463 #[.val (.long qa), .second, .val (.long qb), .second, .val (.long qc), .second, .val (.int ip), .val (.int iq), .val (.ref tt0), .val (.ref tt1), .val (.ref tt2), .val (.int fa), .val (.int la), .val (.int fb), .val (.int lb), .val (.int fc), .val (.int lc), .val (.int r), .val (.ref b24), .val (.ref bb0), .val (.ref bb1), .val (.ref bb2), .val (.int la), .val (.int lb), .val (.int (0 : Int32)), .val (.ref gg)] [(.int (1 : Int32))]) := fun tg kg => k187 tg (st188 tg kg)
        have k190 : Rch p e below (s₁.setTop (entryFrame m #[(.long qa), (.long qb), (.long qc), (.int ip), (.int iq)] maxLocals)) T188 (mkF m 488 #[.val (.long qa), .second, .val (.long qb), .second, .val (.long qc), .second, .val (.int ip), .val (.int iq), .val (.ref tt0), .val (.ref tt1), .val (.ref tt2), .val (.int fa), .val (.int la), .val (.int fb), .val (.int lb), .val (.int fc), .val (.int lc), .val (.int r), .val (.ref b24), .val (.ref bb0), .val (.ref bb1), .val (.ref bb2), .val (.int la), .val (.int lb), .val (.int (0 : Int32)), .val (.ref gg)] [(.int (0 : Int32)), (.int fc), (.ref tt2), (.int lb), (.int fb), (.ref tt1), (.int la), (.int fa), (.ref tt0), (.int (8 : Int32)), (.ref gg)]) := fun tg kg => by
          refine k189 tg ?_
          show Steps p.tables e below (T188.setTop (mkF m 463 #[.val (.long qa), .second, .val (.long qb), .second, .val (.long qc), .second, .val (.int ip), .val (.int iq), .val (.ref tt0), .val (.ref tt1), .val (.ref tt2), .val (.int fa), .val (.int la), .val (.int fb), .val (.int lb), .val (.int fc), .val (.int lc), .val (.int r), .val (.ref b24), .val (.ref bb0), .val (.ref bb1), .val (.ref bb2), .val (.int la), .val (.int lb), .val (.int (0 : Int32)), .val (.ref gg)] [(.int (1 : Int32))])) tg
          refine XS.ifNo X188.here hx rfl (hb hby at_463) rfl ((if0 _ _).trans (feq (by decide)).1) ?_
          show Steps p.tables e below (T188.setTop (mkF m 466 #[.val (.long qa), .second, .val (.long qb), .second, .val (.long qc), .second, .val (.int ip), .val (.int iq), .val (.ref tt0), .val (.ref tt1), .val (.ref tt2), .val (.int fa), .val (.int la), .val (.int fb), .val (.int lb), .val (.int fc), .val (.int lc), .val (.int r), .val (.ref b24), .val (.ref bb0), .val (.ref bb1), .val (.ref bb2), .val (.int la), .val (.int lb), .val (.int (0 : Int32)), .val (.ref gg)] [])) tg
          refine XS.aload X188.here hx rfl (hb hby at_466) rfl rfl ?_
          refine XS.bipush X188.here hx rfl (hb hby at_468) ?_
          refine XS.aload X188.here hx rfl (hb hby at_470) rfl rfl ?_
          refine XS.iload X188.here hx rfl (hb hby at_472) rfl ?_
          refine XS.iload X188.here hx rfl (hb hby at_474) rfl ?_
          refine XS.aload X188.here hx rfl (hb hby at_476) rfl rfl ?_
          show Steps p.tables e below (T188.setTop (mkF m 478 #[.val (.long qa), .second, .val (.long qb), .second, .val (.long qc), .second, .val (.int ip), .val (.int iq), .val (.ref tt0), .val (.ref tt1), .val (.ref tt2), .val (.int fa), .val (.int la), .val (.int fb), .val (.int lb), .val (.int fc), .val (.int lc), .val (.int r), .val (.ref b24), .val (.ref bb0), .val (.ref bb1), .val (.ref bb2), .val (.int la), .val (.int lb), .val (.int (0 : Int32)), .val (.ref gg)] [(.ref tt1), (.int la), (.int fa), (.ref tt0), (.int (8 : Int32)), (.ref gg)])) tg
          refine XS.iload X188.here hx rfl (hb hby at_478) rfl ?_
          refine XS.iload X188.here hx rfl (hb hby at_480) rfl ?_
          refine XS.aload X188.here hx rfl (hb hby at_482) rfl rfl ?_
          refine XS.iload X188.here hx rfl (hb hby at_484) rfl ?_
          refine XS.iload X188.here hx rfl (hb hby at_486) rfl ?_
          exact kg
        obtain ⟨v191, T191, h191, Lc191, X191, e191, hQ191, st191⟩ := own_callS X188 hx hZ hown (hw _ (List.mem_of_getElem? (i := 60) rfl)) (hw _ (List.mem_of_getElem? (i := 61) rfl)) (hw _ (List.mem_of_getElem? (i := 2) rfl)) (hw _ (List.mem_of_getElem? (i := 62) rfl)) (by decide) (rm_at l Z a0 hw [] gg (8 : Int32) tt0 fa la tt1 fb lb tt2 fc (0 : Int32) kg (((((0 : Int32) + la) + lb) + lc) - lc) kt0 kt1 kt2 qa qb qc h151 n0 (by omega) f160 f165 f166 f167 i3fa i3fb i3fc i3la i3lb (⟨by decide, by decide⟩ : own_in3 0) (by omega) ⟨by decide, by decide⟩) e188' (g := (mkF m 488 #[.val (.long qa), .second, .val (.long qb), .second, .val (.long qc), .second, .val (.int ip), .val (.int iq), .val (.ref tt0), .val (.ref tt1), .val (.ref tt2), .val (.int fa), .val (.int la), .val (.int fb), .val (.int lb), .val (.int fc), .val (.int lc), .val (.int r), .val (.ref b24), .val (.ref bb0), .val (.ref bb1), .val (.ref bb2), .val (.int la), .val (.int lb), .val (.int (0 : Int32)), .val (.ref gg)] [(.int (0 : Int32)), (.int fc), (.ref tt2), (.int lb), (.int fb), (.ref tt1), (.int la), (.int fa), (.ref tt0), (.int (8 : Int32)), (.ref gg)])) rfl (by rw [hml]; rfl) (argsL := [(.ref gg), (.int (8 : Int32)), (.ref tt0), (.int fa), (.int la), (.ref tt1), (.int fb), (.int lb), (.ref tt2), (.int fc), (.int (0 : Int32))]) (rest := []) rfl (lenOf pd_7 rfl) rfl (W := 0) (by show 2 * 0 + _ ≤ _; exact Nat.le_of_eq rfl) (hb hby at_488) (by decide) (by decide) (by decide) (by decide)
        obtain ⟨rfl, Nq191, hs191⟩ := hQ191
        have N191 := Fr.app N188 Nq191
        have e191' : T191.heap = h151 := e191.trans hs191
        have k192 : Rch p e below (s₁.setTop (entryFrame m #[(.long qa), (.long qb), (.long qc), (.int ip), (.int iq)] maxLocals)) T191 (mkF m 491 #[.val (.long qa), .second, .val (.long qb), .second, .val (.long qc), .second, .val (.int ip), .val (.int iq), .val (.ref tt0), .val (.ref tt1), .val (.ref tt2), .val (.int fa), .val (.int la), .val (.int fb), .val (.int lb), .val (.int fc), .val (.int lc), .val (.int r), .val (.ref b24), .val (.ref bb0), .val (.ref bb1), .val (.ref bb2), .val (.int la), .val (.int lb), .val (.int (0 : Int32)), .val (.ref gg)] [(.int (1 : Int32))]) := fun tg kg => k190 tg (st191 tg kg)
        have k193 : Rch p e below (s₁.setTop (entryFrame m #[(.long qa), (.long qb), (.long qc), (.int ip), (.int iq)] maxLocals)) T191 (mkF m 499 #[.val (.long qa), .second, .val (.long qb), .second, .val (.long qc), .second, .val (.int ip), .val (.int iq), .val (.ref tt0), .val (.ref tt1), .val (.ref tt2), .val (.int fa), .val (.int la), .val (.int fb), .val (.int lb), .val (.int fc), .val (.int lc), .val (.int r), .val (.ref b24), .val (.ref bb0), .val (.ref bb1), .val (.ref bb2), .val (.int la), .val (.int lb), .val (.int (0 : Int32)), .val (.ref gg)] [(.int (1 : Int32))]) := fun tg kg => by
          refine k192 tg ?_
          show Steps p.tables e below (T191.setTop (mkF m 491 #[.val (.long qa), .second, .val (.long qb), .second, .val (.long qc), .second, .val (.int ip), .val (.int iq), .val (.ref tt0), .val (.ref tt1), .val (.ref tt2), .val (.int fa), .val (.int la), .val (.int fb), .val (.int lb), .val (.int fc), .val (.int lc), .val (.int r), .val (.ref b24), .val (.ref bb0), .val (.ref bb1), .val (.ref bb2), .val (.int la), .val (.int lb), .val (.int (0 : Int32)), .val (.ref gg)] [(.int (1 : Int32))])) tg
          refine XS.ifNo X191.here hx rfl (hb hby at_491) rfl ((if0 _ _).trans (feq (by decide)).1) ?_
          show Steps p.tables e below (T191.setTop (mkF m 494 #[.val (.long qa), .second, .val (.long qb), .second, .val (.long qc), .second, .val (.int ip), .val (.int iq), .val (.ref tt0), .val (.ref tt1), .val (.ref tt2), .val (.int fa), .val (.int la), .val (.int fb), .val (.int lb), .val (.int fc), .val (.int lc), .val (.int r), .val (.ref b24), .val (.ref bb0), .val (.ref bb1), .val (.ref bb2), .val (.int la), .val (.int lb), .val (.int (0 : Int32)), .val (.ref gg)] [])) tg
          refine XS.iconst X191.here hx rfl (hb hby at_494) ?_
          refine XS.goto X191.here hx rfl (pc0 := 495) (pc' := 499) rfl (hb hby at_495) (by decide) (by decide) ?_
          exact kg
        obtain ⟨fs194, hr194, hrun194, hended194, hW194, hsame194⟩ := X191.leave (v := some (.int (nar .boolean (1 : Int32)))) (fun h => by rw [Bd.returns] at h; cases h)
        refine ⟨_, _, k193 _ ?_, hrun194, hended194, _, _, rfl, ?_, ⟨_, rfl⟩, hW194, hsame194.mono (by decide) (by decide)⟩
        · exact retN X191 hx (t := .boolean) Bd.returns (by simp) (hb hby at_499) hr194
        · show Q_rm0 Z qa qb qc ip iq h0 n0 _ T191.heap _
          rw [e191']
          exact ⟨rfl, N191⟩
      · have hNI : (((((0 : Int32) + la) + lb) + lc)).toInt = la.toInt + lb.toInt + lc.toInt := by omega
        have k195 : Rch p e below (s₁.setTop (entryFrame m #[(.long qa), (.long qb), (.long qc), (.int ip), (.int iq)] maxLocals)) T36 (mkF m 227 #[.val (.long qa), .second, .val (.long qb), .second, .val (.long qc), .second, .val (.int ip), .val (.int iq), .val (.ref tt0), .val (.ref tt1), .val (.ref tt2), .val (.int fa), .val (.int la), .val (.int fb), .val (.int lb), .val (.int fc), .val (.int lc), .val (.int r), .val (.ref b24), .val (.ref bb0), .val (.ref bb1), .val (.ref bb2), .val (.int la), .val (.int lb), .val (.int lc), .unset] [(.ref b24)]) := fun tg kg => by
          refine k145 tg ?_
          show Steps p.tables e below (T36.setTop (mkF m 174 #[.val (.long qa), .second, .val (.long qb), .second, .val (.long qc), .second, .val (.int ip), .val (.int iq), .val (.ref tt0), .val (.ref tt1), .val (.ref tt2), .val (.int fa), .val (.int la), .val (.int fb), .val (.int lb), .val (.int fc), .val (.int lc), .val (.int r), .val (.ref b24), .val (.ref bb0), .val (.ref bb1), .val (.ref bb2), .unset, .unset, .unset, .unset] [(.int (2 : Int32)), (.int r)])) tg
          refine XS.icmpYes X36.here hx rfl (pc0 := 174) (pc' := 184) rfl (hb hby at_174) rfl (feq hc174_146).2 (by decide) (by decide) ?_
          refine XS.iload X36.here hx rfl (hb hby at_184) rfl ?_
          refine XS.ifYes X36.here hx rfl (pc0 := 186) (pc' := 193) rfl (hb hby at_186) rfl ((if0 _ _).trans (feq hc142_39).2) (by decide) (by decide) ?_
          refine XS.iload X36.here hx rfl (hb hby at_193) rfl ?_
          show Steps p.tables e below (T36.setTop (mkF m 195 #[.val (.long qa), .second, .val (.long qb), .second, .val (.long qc), .second, .val (.int ip), .val (.int iq), .val (.ref tt0), .val (.ref tt1), .val (.ref tt2), .val (.int fa), .val (.int la), .val (.int fb), .val (.int lb), .val (.int fc), .val (.int lc), .val (.int r), .val (.ref b24), .val (.ref bb0), .val (.ref bb1), .val (.ref bb2), .unset, .unset, .unset, .unset] [(.int la)])) tg
          refine XS.istore X36.here hx rfl (hb hby at_195) rfl (l' := #[.val (.long qa), .second, .val (.long qb), .second, .val (.long qc), .second, .val (.int ip), .val (.int iq), .val (.ref tt0), .val (.ref tt1), .val (.ref tt2), .val (.int fa), .val (.int la), .val (.int fb), .val (.int lb), .val (.int fc), .val (.int lc), .val (.int r), .val (.ref b24), .val (.ref bb0), .val (.ref bb1), .val (.ref bb2), .val (.int la), .unset, .unset, .unset]) rfl ?_
          refine XS.iload X36.here hx rfl (hb hby at_197) rfl ?_
          refine XS.iconst X36.here hx rfl (hb hby at_199) ?_
          refine XS.icmpYes X36.here hx rfl (pc0 := 200) (pc' := 207) rfl (hb hby at_200) rfl (feq hc158_95).2 (by decide) (by decide) ?_
          refine XS.iload X36.here hx rfl (hb hby at_207) rfl ?_
          refine XS.istore X36.here hx rfl (hb hby at_209) rfl (l' := #[.val (.long qa), .second, .val (.long qb), .second, .val (.long qc), .second, .val (.int ip), .val (.int iq), .val (.ref tt0), .val (.ref tt1), .val (.ref tt2), .val (.int fa), .val (.int la), .val (.int fb), .val (.int lb), .val (.int fc), .val (.int lc), .val (.int r), .val (.ref b24), .val (.ref bb0), .val (.ref bb1), .val (.ref bb2), .val (.int la), .val (.int lb), .unset, .unset]) rfl ?_
          show Steps p.tables e below (T36.setTop (mkF m 211 #[.val (.long qa), .second, .val (.long qb), .second, .val (.long qc), .second, .val (.int ip), .val (.int iq), .val (.ref tt0), .val (.ref tt1), .val (.ref tt2), .val (.int fa), .val (.int la), .val (.int fb), .val (.int lb), .val (.int fc), .val (.int lc), .val (.int r), .val (.ref b24), .val (.ref bb0), .val (.ref bb1), .val (.ref bb2), .val (.int la), .val (.int lb), .unset, .unset] [])) tg
          refine XS.iload X36.here hx rfl (hb hby at_211) rfl ?_
          refine XS.iconst X36.here hx rfl (hb hby at_213) ?_
          refine XS.icmpYes X36.here hx rfl (pc0 := 214) (pc' := 221) rfl (hb hby at_214) rfl (feq hc174_146).2 (by decide) (by decide) ?_
          refine XS.iload X36.here hx rfl (hb hby at_221) rfl ?_
          refine XS.istore X36.here hx rfl (hb hby at_223) rfl (l' := #[.val (.long qa), .second, .val (.long qb), .second, .val (.long qc), .second, .val (.int ip), .val (.int iq), .val (.ref tt0), .val (.ref tt1), .val (.ref tt2), .val (.int fa), .val (.int la), .val (.int fb), .val (.int lb), .val (.int fc), .val (.int lc), .val (.int r), .val (.ref b24), .val (.ref bb0), .val (.ref bb1), .val (.ref bb2), .val (.int la), .val (.int lb), .val (.int lc), .unset]) rfl ?_
          refine XS.aload X36.here hx rfl (hb hby at_225) rfl rfl ?_
          exact kg
        have f197 : Exa Z h36 bb0 "dev/triadic/policy/TextLines$Line" := (fq33_14.keep K36)
        have f198 : Fld Z h36 bb0 "dev/triadic/policy/TextLines$Line" "bytes" "[B" (.ref tt0) := (fq33_15.keep K36 (ninS (by first | exact own_ne (by omega) | assumption | (apply Ne.symm; assumption)) (ninS (by first | exact own_ne (by omega) | assumption | (apply Ne.symm; assumption)) nin0)))
        have f199 : Fld Z h36 bb0 "dev/triadic/policy/TextLines$Line" "from" "I" (.int fa) := (fq33_16.keep K36 (ninS (by first | exact own_ne (by omega) | assumption | (apply Ne.symm; assumption)) (ninS (by first | exact own_ne (by omega) | assumption | (apply Ne.symm; assumption)) nin0)))
        have f200 : Fld Z h36 bb0 "dev/triadic/policy/TextLines$Line" "to" "I" (.int (fa + la)) := (fq33_17.keep K36 (ninS (by first | exact own_ne (by omega) | assumption | (apply Ne.symm; assumption)) (ninS (by first | exact own_ne (by omega) | assumption | (apply Ne.symm; assumption)) nin0)))
        have f201 : Fld Z h36 bb0 "dev/triadic/policy/TextLines$Line" "after" "Ldev/triadic/policy/TextLines$Line;" (.ref bb1) := (fq33_19.keep K36 (ninS (by first | exact own_ne (by omega) | assumption | (apply Ne.symm; assumption)) (ninS (by first | exact own_ne (by omega) | assumption | (apply Ne.symm; assumption)) nin0)))
        have f202 : Arv Z h36 tt0 kt0 .byte (6 : Int32) (own_dr qa) (.int (0 : Int32)) := ((((((fq2_4.keep K5 nin0).keep K8 nin0).ext E24).keep K30 (ninS (by first | exact own_ne (by omega) | assumption | (apply Ne.symm; assumption)) nin0)).keep K33 (ninS (by first | exact own_ne (by omega) | assumption | (apply Ne.symm; assumption)) (ninS (by first | exact own_ne (by omega) | assumption | (apply Ne.symm; assumption)) nin0))).keep K36 (ninS (by first | exact own_ne (by omega) | assumption | (apply Ne.symm; assumption)) (ninS (by first | exact own_ne (by omega) | assumption | (apply Ne.symm; assumption)) nin0)))
        have f203 : Arv Z h36 tt1 kt1 .byte (6 : Int32) (own_dr qb) (.int (0 : Int32)) := (((((fq5_4.keep K8 nin0).ext E24).keep K30 (ninS (by first | exact own_ne (by omega) | assumption | (apply Ne.symm; assumption)) nin0)).keep K33 (ninS (by first | exact own_ne (by omega) | assumption | (apply Ne.symm; assumption)) (ninS (by first | exact own_ne (by omega) | assumption | (apply Ne.symm; assumption)) nin0))).keep K36 (ninS (by first | exact own_ne (by omega) | assumption | (apply Ne.symm; assumption)) (ninS (by first | exact own_ne (by omega) | assumption | (apply Ne.symm; assumption)) nin0)))
        have f204 : Arv Z h36 tt2 kt2 .byte (6 : Int32) (own_dr qc) (.int (0 : Int32)) := ((((fq8_4.ext E24).keep K30 (ninS (by first | exact own_ne (by omega) | assumption | (apply Ne.symm; assumption)) nin0)).keep K33 (ninS (by first | exact own_ne (by omega) | assumption | (apply Ne.symm; assumption)) (ninS (by first | exact own_ne (by omega) | assumption | (apply Ne.symm; assumption)) nin0))).keep K36 (ninS (by first | exact own_ne (by omega) | assumption | (apply Ne.symm; assumption)) (ninS (by first | exact own_ne (by omega) | assumption | (apply Ne.symm; assumption)) nin0)))
        obtain ⟨v196, T196, h196, Lc196, X196, e196, hQ196, st196⟩ := own_callV X36 hx hZ hown (hw _ (List.mem_of_getElem? (i := 49) rfl)) (hw _ (List.mem_of_getElem? (i := 50) rfl)) (notFace_of_selects (args := #[]) (mvT hZ (hw _ (List.mem_of_getElem? (i := 52) rfl)))) (hw _ (List.mem_of_getElem? (i := 52) rfl)) (hw _ (List.mem_of_getElem? (i := 51) rfl)) (hw _ (List.mem_of_getElem? (i := 53) rfl)) (hw _ (List.mem_of_getElem? (i := 8) rfl)) (by decide) (rm_bytes3 l Z a0 hw [] b24 ((((0 : Int32) + la) + lb) + lc) bb0 tt0 fa la kt0 qa bb1 tt1 fb lb kt1 qb bb2 tt2 fc lc kt2 qc h36 n0 (by omega) fq36_5 fq36_7 f197 f198 f199 f200 f201 f202 i3fa i3la fq36_14 fq36_15 fq36_16 fq36_17 fq36_19 f203 i3fb i3lb fq36_8 fq36_9 fq36_10 fq36_11 fq36_13 f204 i3fc i3lc hNI) e36 fq36_4 (g := (mkF m 227 #[.val (.long qa), .second, .val (.long qb), .second, .val (.long qc), .second, .val (.int ip), .val (.int iq), .val (.ref tt0), .val (.ref tt1), .val (.ref tt2), .val (.int fa), .val (.int la), .val (.int fb), .val (.int lb), .val (.int fc), .val (.int lc), .val (.int r), .val (.ref b24), .val (.ref bb0), .val (.ref bb1), .val (.ref bb2), .val (.int la), .val (.int lb), .val (.int lc), .unset] [(.ref b24)])) rfl (by rw [hml]; rfl) (argsL := []) (rest := []) rfl (lenOf pd_6 rfl) rfl (W := 0) (by show 2 * 0 + _ ≤ _; exact Nat.le_of_eq rfl) (hb hby at_227) (by decide) (by decide) (by decide) (by decide)
        obtain ⟨gg, kg, rfl, Nq196, K196, ge196_3, fq196_4⟩ := hQ196
        have N196 := Fr.app N36 Nq196
        have s196 : h36.size ≤ h196.size := K196.1
        have k205 : Rch p e below (s₁.setTop (entryFrame m #[(.long qa), (.long qb), (.long qc), (.int ip), (.int iq)] maxLocals)) T196 (mkF m 230 #[.val (.long qa), .second, .val (.long qb), .second, .val (.long qc), .second, .val (.int ip), .val (.int iq), .val (.ref tt0), .val (.ref tt1), .val (.ref tt2), .val (.int fa), .val (.int la), .val (.int fb), .val (.int lb), .val (.int fc), .val (.int lc), .val (.int r), .val (.ref b24), .val (.ref bb0), .val (.ref bb1), .val (.ref bb2), .val (.int la), .val (.int lb), .val (.int lc), .unset] [(.ref gg)]) := fun tg kg => k195 tg (st196 tg kg)
        have lt_fq196_4 := own_ltN fq196_4.lt
        have f206 : Arv Z h196 gg kg .byte ((((0 : Int32) + la) + lb) + lc) (own_cat qa fa la qb fb lb qc fc lc) (.int (0 : Int32)) := (by have q := fq196_4; exact q)
        have k207 : Rch p e below (s₁.setTop (entryFrame m #[(.long qa), (.long qb), (.long qc), (.int ip), (.int iq)] maxLocals)) T196 (mkF m 234 #[.val (.long qa), .second, .val (.long qb), .second, .val (.long qc), .second, .val (.int ip), .val (.int iq), .val (.ref tt0), .val (.ref tt1), .val (.ref tt2), .val (.int fa), .val (.int la), .val (.int fb), .val (.int lb), .val (.int fc), .val (.int lc), .val (.int r), .val (.ref b24), .val (.ref bb0), .val (.ref bb1), .val (.ref bb2), .val (.int la), .val (.int lb), .val (.int lc), .val (.ref gg)] [(.ref gg)]) := fun tg kg => by
          refine k205 tg ?_
          show Steps p.tables e below (T196.setTop (mkF m 230 #[.val (.long qa), .second, .val (.long qb), .second, .val (.long qc), .second, .val (.int ip), .val (.int iq), .val (.ref tt0), .val (.ref tt1), .val (.ref tt2), .val (.int fa), .val (.int la), .val (.int fb), .val (.int lb), .val (.int fc), .val (.int lc), .val (.int r), .val (.ref b24), .val (.ref bb0), .val (.ref bb1), .val (.ref bb2), .val (.int la), .val (.int lb), .val (.int lc), .unset] [(.ref gg)])) tg
          refine XS.astore X196.here hx rfl (hb hby at_230) rfl rfl (l' := #[.val (.long qa), .second, .val (.long qb), .second, .val (.long qc), .second, .val (.int ip), .val (.int iq), .val (.ref tt0), .val (.ref tt1), .val (.ref tt2), .val (.int fa), .val (.int la), .val (.int fb), .val (.int lb), .val (.int fc), .val (.int lc), .val (.int r), .val (.ref b24), .val (.ref bb0), .val (.ref bb1), .val (.ref bb2), .val (.int la), .val (.int lb), .val (.int lc), .val (.ref gg)]) rfl ?_
          refine XS.aload X196.here hx rfl (hb hby at_232) rfl rfl ?_
          exact kg
        obtain ⟨cl208, Ar208, q208, S208, M208, H208, G208⟩ := id f206
        have s1 := own_add (x := la) (y := lb) (by first | decide | omega) (by first | decide | omega) (by first | decide | omega) (by first | decide | omega)
        have hz := own_z
        have s2 := own_add (x := (la + lb)) (y := lc) (by omega) (by omega) (by first | decide | omega) (by first | decide | omega)
        have k209 : Rch p e below (s₁.setTop (entryFrame m #[(.long qa), (.long qb), (.long qc), (.int ip), (.int iq)] maxLocals)) T196 (mkF m 269 #[.val (.long qa), .second, .val (.long qb), .second, .val (.long qc), .second, .val (.int ip), .val (.int iq), .val (.ref tt0), .val (.ref tt1), .val (.ref tt2), .val (.int fa), .val (.int la), .val (.int fb), .val (.int lb), .val (.int fc), .val (.int lc), .val (.int r), .val (.ref b24), .val (.ref bb0), .val (.ref bb1), .val (.ref bb2), .val (.int la), .val (.int lb), .val (.int lc), .val (.ref gg)] [(.int lc), (.int fc), (.ref tt2), (.int lb), (.int fb), (.ref tt1), (.int la), (.int fa), (.ref tt0), (.int (0 : Int32)), (.ref gg)]) := fun tg kg => by
          refine k207 tg ?_
          show Steps p.tables e below (T196.setTop (mkF m 234 #[.val (.long qa), .second, .val (.long qb), .second, .val (.long qc), .second, .val (.int ip), .val (.int iq), .val (.ref tt0), .val (.ref tt1), .val (.ref tt2), .val (.int fa), .val (.int la), .val (.int fb), .val (.int lb), .val (.int fc), .val (.int lc), .val (.int r), .val (.ref b24), .val (.ref bb0), .val (.ref bb1), .val (.ref bb2), .val (.int la), .val (.int lb), .val (.int lc), .val (.ref gg)] [(.ref gg)])) tg
          refine X196.arraylength hx (by rw [e196]; exact Ar208.1) (State.isArrayOf_alike hZ.alike Ar208.2.1) (g := (mkF m 234 #[.val (.long qa), .second, .val (.long qb), .second, .val (.long qc), .second, .val (.int ip), .val (.int iq), .val (.ref tt0), .val (.ref tt1), .val (.ref tt2), .val (.int fa), .val (.int la), .val (.int fb), .val (.int lb), .val (.int fc), .val (.int lc), .val (.int r), .val (.ref b24), .val (.ref bb0), .val (.ref bb1), .val (.ref bb2), .val (.int la), .val (.int lb), .val (.int lc), .val (.ref gg)] [(.ref gg)])) rfl rfl (hb hby at_234) _ ?_
          rw [len_of S208 M208]
          refine XS.iload X196.here hx rfl (hb hby at_235) rfl ?_
          refine XS.iload X196.here hx rfl (hb hby at_237) rfl ?_
          refine XS.iadd X196.here hx rfl (hb hby at_239) rfl ?_
          show Steps p.tables e below (T196.setTop (mkF m 240 #[.val (.long qa), .second, .val (.long qb), .second, .val (.long qc), .second, .val (.int ip), .val (.int iq), .val (.ref tt0), .val (.ref tt1), .val (.ref tt2), .val (.int fa), .val (.int la), .val (.int fb), .val (.int lb), .val (.int fc), .val (.int lc), .val (.int r), .val (.ref b24), .val (.ref bb0), .val (.ref bb1), .val (.ref bb2), .val (.int la), .val (.int lb), .val (.int lc), .val (.ref gg)] [(.int (la + lb)), (.int ((((0 : Int32) + la) + lb) + lc))])) tg
          refine XS.iload X196.here hx rfl (hb hby at_240) rfl ?_
          refine XS.iadd X196.here hx rfl (hb hby at_242) rfl ?_
          refine XS.icmpYes X196.here hx rfl (pc0 := 243) (pc' := 248) rfl (hb hby at_243) rfl (teq (Int32.toInt_inj.mp (by omega))).1 (by decide) (by decide) ?_
          refine XS.aload X196.here hx rfl (hb hby at_248) rfl rfl ?_
          refine XS.iconst X196.here hx rfl (hb hby at_250) ?_
          refine XS.aload X196.here hx rfl (hb hby at_251) rfl rfl ?_
          show Steps p.tables e below (T196.setTop (mkF m 253 #[.val (.long qa), .second, .val (.long qb), .second, .val (.long qc), .second, .val (.int ip), .val (.int iq), .val (.ref tt0), .val (.ref tt1), .val (.ref tt2), .val (.int fa), .val (.int la), .val (.int fb), .val (.int lb), .val (.int fc), .val (.int lc), .val (.int r), .val (.ref b24), .val (.ref bb0), .val (.ref bb1), .val (.ref bb2), .val (.int la), .val (.int lb), .val (.int lc), .val (.ref gg)] [(.ref tt0), (.int (0 : Int32)), (.ref gg)])) tg
          refine XS.iload X196.here hx rfl (hb hby at_253) rfl ?_
          refine XS.iload X196.here hx rfl (hb hby at_255) rfl ?_
          refine XS.aload X196.here hx rfl (hb hby at_257) rfl rfl ?_
          refine XS.iload X196.here hx rfl (hb hby at_259) rfl ?_
          refine XS.iload X196.here hx rfl (hb hby at_261) rfl ?_
          refine XS.aload X196.here hx rfl (hb hby at_263) rfl rfl ?_
          show Steps p.tables e below (T196.setTop (mkF m 265 #[.val (.long qa), .second, .val (.long qb), .second, .val (.long qc), .second, .val (.int ip), .val (.int iq), .val (.ref tt0), .val (.ref tt1), .val (.ref tt2), .val (.int fa), .val (.int la), .val (.int fb), .val (.int lb), .val (.int fc), .val (.int lc), .val (.int r), .val (.ref b24), .val (.ref bb0), .val (.ref bb1), .val (.ref bb2), .val (.int la), .val (.int lb), .val (.int lc), .val (.ref gg)] [(.ref tt2), (.int lb), (.int fb), (.ref tt1), (.int la), (.int fa), (.ref tt0), (.int (0 : Int32)), (.ref gg)])) tg
          refine XS.iload X196.here hx rfl (hb hby at_265) rfl ?_
          refine XS.iload X196.here hx rfl (hb hby at_267) rfl ?_
          exact kg
        have f211 : Arv Z h196 tt0 kt0 .byte (6 : Int32) (own_dr qa) (.int (0 : Int32)) := (f202.keep K196 nin0)
        have f212 : Arv Z h196 tt1 kt1 .byte (6 : Int32) (own_dr qb) (.int (0 : Int32)) := (f203.keep K196 nin0)
        have f213 : Arv Z h196 tt2 kt2 .byte (6 : Int32) (own_dr qc) (.int (0 : Int32)) := (f204.keep K196 nin0)
        obtain ⟨v210, T210, h210, Lc210, X210, e210, hQ210, st210⟩ := own_callS X196 hx hZ hown (hw _ (List.mem_of_getElem? (i := 60) rfl)) (hw _ (List.mem_of_getElem? (i := 61) rfl)) (hw _ (List.mem_of_getElem? (i := 2) rfl)) (hw _ (List.mem_of_getElem? (i := 62) rfl)) (by decide) (rm_at l Z a0 hw [] gg (0 : Int32) tt0 fa la tt1 fb lb tt2 fc lc kg ((((0 : Int32) + la) + lb) + lc) kt0 kt1 kt2 qa qb qc h196 n0 (by omega) f206 f211 f212 f213 i3fa i3fb i3fc i3la i3lb i3lc (by omega) ⟨by decide, by decide⟩) e196 (g := (mkF m 269 #[.val (.long qa), .second, .val (.long qb), .second, .val (.long qc), .second, .val (.int ip), .val (.int iq), .val (.ref tt0), .val (.ref tt1), .val (.ref tt2), .val (.int fa), .val (.int la), .val (.int fb), .val (.int lb), .val (.int fc), .val (.int lc), .val (.int r), .val (.ref b24), .val (.ref bb0), .val (.ref bb1), .val (.ref bb2), .val (.int la), .val (.int lb), .val (.int lc), .val (.ref gg)] [(.int lc), (.int fc), (.ref tt2), (.int lb), (.int fb), (.ref tt1), (.int la), (.int fa), (.ref tt0), (.int (0 : Int32)), (.ref gg)])) rfl (by rw [hml]; rfl) (argsL := [(.ref gg), (.int (0 : Int32)), (.ref tt0), (.int fa), (.int la), (.ref tt1), (.int fb), (.int lb), (.ref tt2), (.int fc), (.int lc)]) (rest := []) rfl (lenOf pd_7 rfl) rfl (W := 0) (by show 2 * 0 + _ ≤ _; exact Nat.le_of_eq rfl) (hb hby at_269) (by decide) (by decide) (by decide) (by decide)
        obtain ⟨rfl, Nq210, hs210⟩ := hQ210
        have N210 := Fr.app N196 Nq210
        have e210' : T210.heap = h196 := e210.trans hs210
        have k214 : Rch p e below (s₁.setTop (entryFrame m #[(.long qa), (.long qb), (.long qc), (.int ip), (.int iq)] maxLocals)) T210 (mkF m 272 #[.val (.long qa), .second, .val (.long qb), .second, .val (.long qc), .second, .val (.int ip), .val (.int iq), .val (.ref tt0), .val (.ref tt1), .val (.ref tt2), .val (.int fa), .val (.int la), .val (.int fb), .val (.int lb), .val (.int fc), .val (.int lc), .val (.int r), .val (.ref b24), .val (.ref bb0), .val (.ref bb1), .val (.ref bb2), .val (.int la), .val (.int lb), .val (.int lc), .val (.ref gg)] [(.int (1 : Int32))]) := fun tg kg => k209 tg (st210 tg kg)
        have k215 : Rch p e below (s₁.setTop (entryFrame m #[(.long qa), (.long qb), (.long qc), (.int ip), (.int iq)] maxLocals)) T210 (mkF m 296 #[.val (.long qa), .second, .val (.long qb), .second, .val (.long qc), .second, .val (.int ip), .val (.int iq), .val (.ref tt0), .val (.ref tt1), .val (.ref tt2), .val (.int fa), .val (.int la), .val (.int fb), .val (.int lb), .val (.int fc), .val (.int lc), .val (.int r), .val (.ref b24), .val (.ref bb0), .val (.ref bb1), .val (.ref bb2), .val (.int la), .val (.int lb), .val (.int lc), .val (.ref gg)] [(.int lc), (.int fc), (.ref tt2), (.int lb), (.int fb), (.ref tt1), (.int la), (.int fa), (.ref tt0), (.int (1 : Int32)), (.ref gg)]) := fun tg kg => by
          refine k214 tg ?_
          show Steps p.tables e below (T210.setTop (mkF m 272 #[.val (.long qa), .second, .val (.long qb), .second, .val (.long qc), .second, .val (.int ip), .val (.int iq), .val (.ref tt0), .val (.ref tt1), .val (.ref tt2), .val (.int fa), .val (.int la), .val (.int fb), .val (.int lb), .val (.int fc), .val (.int lc), .val (.int r), .val (.ref b24), .val (.ref bb0), .val (.ref bb1), .val (.ref bb2), .val (.int la), .val (.int lb), .val (.int lc), .val (.ref gg)] [(.int (1 : Int32))])) tg
          refine XS.ifNo X210.here hx rfl (hb hby at_272) rfl ((if0 _ _).trans (feq (by decide)).1) ?_
          refine XS.aload X210.here hx rfl (hb hby at_275) rfl rfl ?_
          refine XS.iconst X210.here hx rfl (hb hby at_277) ?_
          refine XS.aload X210.here hx rfl (hb hby at_278) rfl rfl ?_
          show Steps p.tables e below (T210.setTop (mkF m 280 #[.val (.long qa), .second, .val (.long qb), .second, .val (.long qc), .second, .val (.int ip), .val (.int iq), .val (.ref tt0), .val (.ref tt1), .val (.ref tt2), .val (.int fa), .val (.int la), .val (.int fb), .val (.int lb), .val (.int fc), .val (.int lc), .val (.int r), .val (.ref b24), .val (.ref bb0), .val (.ref bb1), .val (.ref bb2), .val (.int la), .val (.int lb), .val (.int lc), .val (.ref gg)] [(.ref tt0), (.int (1 : Int32)), (.ref gg)])) tg
          refine XS.iload X210.here hx rfl (hb hby at_280) rfl ?_
          refine XS.iload X210.here hx rfl (hb hby at_282) rfl ?_
          refine XS.aload X210.here hx rfl (hb hby at_284) rfl rfl ?_
          refine XS.iload X210.here hx rfl (hb hby at_286) rfl ?_
          refine XS.iload X210.here hx rfl (hb hby at_288) rfl ?_
          refine XS.aload X210.here hx rfl (hb hby at_290) rfl rfl ?_
          show Steps p.tables e below (T210.setTop (mkF m 292 #[.val (.long qa), .second, .val (.long qb), .second, .val (.long qc), .second, .val (.int ip), .val (.int iq), .val (.ref tt0), .val (.ref tt1), .val (.ref tt2), .val (.int fa), .val (.int la), .val (.int fb), .val (.int lb), .val (.int fc), .val (.int lc), .val (.int r), .val (.ref b24), .val (.ref bb0), .val (.ref bb1), .val (.ref bb2), .val (.int la), .val (.int lb), .val (.int lc), .val (.ref gg)] [(.ref tt2), (.int lb), (.int fb), (.ref tt1), (.int la), (.int fa), (.ref tt0), (.int (1 : Int32)), (.ref gg)])) tg
          refine XS.iload X210.here hx rfl (hb hby at_292) rfl ?_
          refine XS.iload X210.here hx rfl (hb hby at_294) rfl ?_
          exact kg
        obtain ⟨v216, T216, h216, Lc216, X216, e216, hQ216, st216⟩ := own_callS X210 hx hZ hown (hw _ (List.mem_of_getElem? (i := 60) rfl)) (hw _ (List.mem_of_getElem? (i := 61) rfl)) (hw _ (List.mem_of_getElem? (i := 2) rfl)) (hw _ (List.mem_of_getElem? (i := 62) rfl)) (by decide) (rm_at l Z a0 hw [] gg (1 : Int32) tt0 fa la tt1 fb lb tt2 fc lc kg ((((0 : Int32) + la) + lb) + lc) kt0 kt1 kt2 qa qb qc h196 n0 (by omega) f206 f211 f212 f213 i3fa i3fb i3fc i3la i3lb i3lc (by omega) ⟨by decide, by decide⟩) e210' (g := (mkF m 296 #[.val (.long qa), .second, .val (.long qb), .second, .val (.long qc), .second, .val (.int ip), .val (.int iq), .val (.ref tt0), .val (.ref tt1), .val (.ref tt2), .val (.int fa), .val (.int la), .val (.int fb), .val (.int lb), .val (.int fc), .val (.int lc), .val (.int r), .val (.ref b24), .val (.ref bb0), .val (.ref bb1), .val (.ref bb2), .val (.int la), .val (.int lb), .val (.int lc), .val (.ref gg)] [(.int lc), (.int fc), (.ref tt2), (.int lb), (.int fb), (.ref tt1), (.int la), (.int fa), (.ref tt0), (.int (1 : Int32)), (.ref gg)])) rfl (by rw [hml]; rfl) (argsL := [(.ref gg), (.int (1 : Int32)), (.ref tt0), (.int fa), (.int la), (.ref tt1), (.int fb), (.int lb), (.ref tt2), (.int fc), (.int lc)]) (rest := []) rfl (lenOf pd_7 rfl) rfl (W := 0) (by show 2 * 0 + _ ≤ _; exact Nat.le_of_eq rfl) (hb hby at_296) (by decide) (by decide) (by decide) (by decide)
        obtain ⟨rfl, Nq216, hs216⟩ := hQ216
        have N216 := Fr.app N210 Nq216
        have e216' : T216.heap = h196 := e216.trans hs216
        have k217 : Rch p e below (s₁.setTop (entryFrame m #[(.long qa), (.long qb), (.long qc), (.int ip), (.int iq)] maxLocals)) T216 (mkF m 299 #[.val (.long qa), .second, .val (.long qb), .second, .val (.long qc), .second, .val (.int ip), .val (.int iq), .val (.ref tt0), .val (.ref tt1), .val (.ref tt2), .val (.int fa), .val (.int la), .val (.int fb), .val (.int lb), .val (.int fc), .val (.int lc), .val (.int r), .val (.ref b24), .val (.ref bb0), .val (.ref bb1), .val (.ref bb2), .val (.int la), .val (.int lb), .val (.int lc), .val (.ref gg)] [(.int (1 : Int32))]) := fun tg kg => k215 tg (st216 tg kg)
        have k218 : Rch p e below (s₁.setTop (entryFrame m #[(.long qa), (.long qb), (.long qc), (.int ip), (.int iq)] maxLocals)) T216 (mkF m 323 #[.val (.long qa), .second, .val (.long qb), .second, .val (.long qc), .second, .val (.int ip), .val (.int iq), .val (.ref tt0), .val (.ref tt1), .val (.ref tt2), .val (.int fa), .val (.int la), .val (.int fb), .val (.int lb), .val (.int fc), .val (.int lc), .val (.int r), .val (.ref b24), .val (.ref bb0), .val (.ref bb1), .val (.ref bb2), .val (.int la), .val (.int lb), .val (.int lc), .val (.ref gg)] [(.int lc), (.int fc), (.ref tt2), (.int lb), (.int fb), (.ref tt1), (.int la), (.int fa), (.ref tt0), (.int (2 : Int32)), (.ref gg)]) := fun tg kg => by
          refine k217 tg ?_
          show Steps p.tables e below (T216.setTop (mkF m 299 #[.val (.long qa), .second, .val (.long qb), .second, .val (.long qc), .second, .val (.int ip), .val (.int iq), .val (.ref tt0), .val (.ref tt1), .val (.ref tt2), .val (.int fa), .val (.int la), .val (.int fb), .val (.int lb), .val (.int fc), .val (.int lc), .val (.int r), .val (.ref b24), .val (.ref bb0), .val (.ref bb1), .val (.ref bb2), .val (.int la), .val (.int lb), .val (.int lc), .val (.ref gg)] [(.int (1 : Int32))])) tg
          refine XS.ifNo X216.here hx rfl (hb hby at_299) rfl ((if0 _ _).trans (feq (by decide)).1) ?_
          refine XS.aload X216.here hx rfl (hb hby at_302) rfl rfl ?_
          refine XS.iconst X216.here hx rfl (hb hby at_304) ?_
          refine XS.aload X216.here hx rfl (hb hby at_305) rfl rfl ?_
          show Steps p.tables e below (T216.setTop (mkF m 307 #[.val (.long qa), .second, .val (.long qb), .second, .val (.long qc), .second, .val (.int ip), .val (.int iq), .val (.ref tt0), .val (.ref tt1), .val (.ref tt2), .val (.int fa), .val (.int la), .val (.int fb), .val (.int lb), .val (.int fc), .val (.int lc), .val (.int r), .val (.ref b24), .val (.ref bb0), .val (.ref bb1), .val (.ref bb2), .val (.int la), .val (.int lb), .val (.int lc), .val (.ref gg)] [(.ref tt0), (.int (2 : Int32)), (.ref gg)])) tg
          refine XS.iload X216.here hx rfl (hb hby at_307) rfl ?_
          refine XS.iload X216.here hx rfl (hb hby at_309) rfl ?_
          refine XS.aload X216.here hx rfl (hb hby at_311) rfl rfl ?_
          refine XS.iload X216.here hx rfl (hb hby at_313) rfl ?_
          refine XS.iload X216.here hx rfl (hb hby at_315) rfl ?_
          refine XS.aload X216.here hx rfl (hb hby at_317) rfl rfl ?_
          show Steps p.tables e below (T216.setTop (mkF m 319 #[.val (.long qa), .second, .val (.long qb), .second, .val (.long qc), .second, .val (.int ip), .val (.int iq), .val (.ref tt0), .val (.ref tt1), .val (.ref tt2), .val (.int fa), .val (.int la), .val (.int fb), .val (.int lb), .val (.int fc), .val (.int lc), .val (.int r), .val (.ref b24), .val (.ref bb0), .val (.ref bb1), .val (.ref bb2), .val (.int la), .val (.int lb), .val (.int lc), .val (.ref gg)] [(.ref tt2), (.int lb), (.int fb), (.ref tt1), (.int la), (.int fa), (.ref tt0), (.int (2 : Int32)), (.ref gg)])) tg
          refine XS.iload X216.here hx rfl (hb hby at_319) rfl ?_
          refine XS.iload X216.here hx rfl (hb hby at_321) rfl ?_
          exact kg
        obtain ⟨v219, T219, h219, Lc219, X219, e219, hQ219, st219⟩ := own_callS X216 hx hZ hown (hw _ (List.mem_of_getElem? (i := 60) rfl)) (hw _ (List.mem_of_getElem? (i := 61) rfl)) (hw _ (List.mem_of_getElem? (i := 2) rfl)) (hw _ (List.mem_of_getElem? (i := 62) rfl)) (by decide) (rm_at l Z a0 hw [] gg (2 : Int32) tt0 fa la tt1 fb lb tt2 fc lc kg ((((0 : Int32) + la) + lb) + lc) kt0 kt1 kt2 qa qb qc h196 n0 (by omega) f206 f211 f212 f213 i3fa i3fb i3fc i3la i3lb i3lc (by omega) ⟨by decide, by decide⟩) e216' (g := (mkF m 323 #[.val (.long qa), .second, .val (.long qb), .second, .val (.long qc), .second, .val (.int ip), .val (.int iq), .val (.ref tt0), .val (.ref tt1), .val (.ref tt2), .val (.int fa), .val (.int la), .val (.int fb), .val (.int lb), .val (.int fc), .val (.int lc), .val (.int r), .val (.ref b24), .val (.ref bb0), .val (.ref bb1), .val (.ref bb2), .val (.int la), .val (.int lb), .val (.int lc), .val (.ref gg)] [(.int lc), (.int fc), (.ref tt2), (.int lb), (.int fb), (.ref tt1), (.int la), (.int fa), (.ref tt0), (.int (2 : Int32)), (.ref gg)])) rfl (by rw [hml]; rfl) (argsL := [(.ref gg), (.int (2 : Int32)), (.ref tt0), (.int fa), (.int la), (.ref tt1), (.int fb), (.int lb), (.ref tt2), (.int fc), (.int lc)]) (rest := []) rfl (lenOf pd_7 rfl) rfl (W := 0) (by show 2 * 0 + _ ≤ _; exact Nat.le_of_eq rfl) (hb hby at_323) (by decide) (by decide) (by decide) (by decide)
        obtain ⟨rfl, Nq219, hs219⟩ := hQ219
        have N219 := Fr.app N216 Nq219
        have e219' : T219.heap = h196 := e219.trans hs219
        have k220 : Rch p e below (s₁.setTop (entryFrame m #[(.long qa), (.long qb), (.long qc), (.int ip), (.int iq)] maxLocals)) T219 (mkF m 326 #[.val (.long qa), .second, .val (.long qb), .second, .val (.long qc), .second, .val (.int ip), .val (.int iq), .val (.ref tt0), .val (.ref tt1), .val (.ref tt2), .val (.int fa), .val (.int la), .val (.int fb), .val (.int lb), .val (.int fc), .val (.int lc), .val (.int r), .val (.ref b24), .val (.ref bb0), .val (.ref bb1), .val (.ref bb2), .val (.int la), .val (.int lb), .val (.int lc), .val (.ref gg)] [(.int (1 : Int32))]) := fun tg kg => k218 tg (st219 tg kg)
        have k221 : Rch p e below (s₁.setTop (entryFrame m #[(.long qa), (.long qb), (.long qc), (.int ip), (.int iq)] maxLocals)) T219 (mkF m 350 #[.val (.long qa), .second, .val (.long qb), .second, .val (.long qc), .second, .val (.int ip), .val (.int iq), .val (.ref tt0), .val (.ref tt1), .val (.ref tt2), .val (.int fa), .val (.int la), .val (.int fb), .val (.int lb), .val (.int fc), .val (.int lc), .val (.int r), .val (.ref b24), .val (.ref bb0), .val (.ref bb1), .val (.ref bb2), .val (.int la), .val (.int lb), .val (.int lc), .val (.ref gg)] [(.int lc), (.int fc), (.ref tt2), (.int lb), (.int fb), (.ref tt1), (.int la), (.int fa), (.ref tt0), (.int (3 : Int32)), (.ref gg)]) := fun tg kg => by
          refine k220 tg ?_
          show Steps p.tables e below (T219.setTop (mkF m 326 #[.val (.long qa), .second, .val (.long qb), .second, .val (.long qc), .second, .val (.int ip), .val (.int iq), .val (.ref tt0), .val (.ref tt1), .val (.ref tt2), .val (.int fa), .val (.int la), .val (.int fb), .val (.int lb), .val (.int fc), .val (.int lc), .val (.int r), .val (.ref b24), .val (.ref bb0), .val (.ref bb1), .val (.ref bb2), .val (.int la), .val (.int lb), .val (.int lc), .val (.ref gg)] [(.int (1 : Int32))])) tg
          refine XS.ifNo X219.here hx rfl (hb hby at_326) rfl ((if0 _ _).trans (feq (by decide)).1) ?_
          refine XS.aload X219.here hx rfl (hb hby at_329) rfl rfl ?_
          refine XS.iconst X219.here hx rfl (hb hby at_331) ?_
          refine XS.aload X219.here hx rfl (hb hby at_332) rfl rfl ?_
          show Steps p.tables e below (T219.setTop (mkF m 334 #[.val (.long qa), .second, .val (.long qb), .second, .val (.long qc), .second, .val (.int ip), .val (.int iq), .val (.ref tt0), .val (.ref tt1), .val (.ref tt2), .val (.int fa), .val (.int la), .val (.int fb), .val (.int lb), .val (.int fc), .val (.int lc), .val (.int r), .val (.ref b24), .val (.ref bb0), .val (.ref bb1), .val (.ref bb2), .val (.int la), .val (.int lb), .val (.int lc), .val (.ref gg)] [(.ref tt0), (.int (3 : Int32)), (.ref gg)])) tg
          refine XS.iload X219.here hx rfl (hb hby at_334) rfl ?_
          refine XS.iload X219.here hx rfl (hb hby at_336) rfl ?_
          refine XS.aload X219.here hx rfl (hb hby at_338) rfl rfl ?_
          refine XS.iload X219.here hx rfl (hb hby at_340) rfl ?_
          refine XS.iload X219.here hx rfl (hb hby at_342) rfl ?_
          refine XS.aload X219.here hx rfl (hb hby at_344) rfl rfl ?_
          show Steps p.tables e below (T219.setTop (mkF m 346 #[.val (.long qa), .second, .val (.long qb), .second, .val (.long qc), .second, .val (.int ip), .val (.int iq), .val (.ref tt0), .val (.ref tt1), .val (.ref tt2), .val (.int fa), .val (.int la), .val (.int fb), .val (.int lb), .val (.int fc), .val (.int lc), .val (.int r), .val (.ref b24), .val (.ref bb0), .val (.ref bb1), .val (.ref bb2), .val (.int la), .val (.int lb), .val (.int lc), .val (.ref gg)] [(.ref tt2), (.int lb), (.int fb), (.ref tt1), (.int la), (.int fa), (.ref tt0), (.int (3 : Int32)), (.ref gg)])) tg
          refine XS.iload X219.here hx rfl (hb hby at_346) rfl ?_
          refine XS.iload X219.here hx rfl (hb hby at_348) rfl ?_
          exact kg
        obtain ⟨v222, T222, h222, Lc222, X222, e222, hQ222, st222⟩ := own_callS X219 hx hZ hown (hw _ (List.mem_of_getElem? (i := 60) rfl)) (hw _ (List.mem_of_getElem? (i := 61) rfl)) (hw _ (List.mem_of_getElem? (i := 2) rfl)) (hw _ (List.mem_of_getElem? (i := 62) rfl)) (by decide) (rm_at l Z a0 hw [] gg (3 : Int32) tt0 fa la tt1 fb lb tt2 fc lc kg ((((0 : Int32) + la) + lb) + lc) kt0 kt1 kt2 qa qb qc h196 n0 (by omega) f206 f211 f212 f213 i3fa i3fb i3fc i3la i3lb i3lc (by omega) ⟨by decide, by decide⟩) e219' (g := (mkF m 350 #[.val (.long qa), .second, .val (.long qb), .second, .val (.long qc), .second, .val (.int ip), .val (.int iq), .val (.ref tt0), .val (.ref tt1), .val (.ref tt2), .val (.int fa), .val (.int la), .val (.int fb), .val (.int lb), .val (.int fc), .val (.int lc), .val (.int r), .val (.ref b24), .val (.ref bb0), .val (.ref bb1), .val (.ref bb2), .val (.int la), .val (.int lb), .val (.int lc), .val (.ref gg)] [(.int lc), (.int fc), (.ref tt2), (.int lb), (.int fb), (.ref tt1), (.int la), (.int fa), (.ref tt0), (.int (3 : Int32)), (.ref gg)])) rfl (by rw [hml]; rfl) (argsL := [(.ref gg), (.int (3 : Int32)), (.ref tt0), (.int fa), (.int la), (.ref tt1), (.int fb), (.int lb), (.ref tt2), (.int fc), (.int lc)]) (rest := []) rfl (lenOf pd_7 rfl) rfl (W := 0) (by show 2 * 0 + _ ≤ _; exact Nat.le_of_eq rfl) (hb hby at_350) (by decide) (by decide) (by decide) (by decide)
        obtain ⟨rfl, Nq222, hs222⟩ := hQ222
        have N222 := Fr.app N219 Nq222
        have e222' : T222.heap = h196 := e222.trans hs222
        have k223 : Rch p e below (s₁.setTop (entryFrame m #[(.long qa), (.long qb), (.long qc), (.int ip), (.int iq)] maxLocals)) T222 (mkF m 353 #[.val (.long qa), .second, .val (.long qb), .second, .val (.long qc), .second, .val (.int ip), .val (.int iq), .val (.ref tt0), .val (.ref tt1), .val (.ref tt2), .val (.int fa), .val (.int la), .val (.int fb), .val (.int lb), .val (.int fc), .val (.int lc), .val (.int r), .val (.ref b24), .val (.ref bb0), .val (.ref bb1), .val (.ref bb2), .val (.int la), .val (.int lb), .val (.int lc), .val (.ref gg)] [(.int (1 : Int32))]) := fun tg kg => k221 tg (st222 tg kg)
        have k224 : Rch p e below (s₁.setTop (entryFrame m #[(.long qa), (.long qb), (.long qc), (.int ip), (.int iq)] maxLocals)) T222 (mkF m 377 #[.val (.long qa), .second, .val (.long qb), .second, .val (.long qc), .second, .val (.int ip), .val (.int iq), .val (.ref tt0), .val (.ref tt1), .val (.ref tt2), .val (.int fa), .val (.int la), .val (.int fb), .val (.int lb), .val (.int fc), .val (.int lc), .val (.int r), .val (.ref b24), .val (.ref bb0), .val (.ref bb1), .val (.ref bb2), .val (.int la), .val (.int lb), .val (.int lc), .val (.ref gg)] [(.int lc), (.int fc), (.ref tt2), (.int lb), (.int fb), (.ref tt1), (.int la), (.int fa), (.ref tt0), (.int (4 : Int32)), (.ref gg)]) := fun tg kg => by
          refine k223 tg ?_
          show Steps p.tables e below (T222.setTop (mkF m 353 #[.val (.long qa), .second, .val (.long qb), .second, .val (.long qc), .second, .val (.int ip), .val (.int iq), .val (.ref tt0), .val (.ref tt1), .val (.ref tt2), .val (.int fa), .val (.int la), .val (.int fb), .val (.int lb), .val (.int fc), .val (.int lc), .val (.int r), .val (.ref b24), .val (.ref bb0), .val (.ref bb1), .val (.ref bb2), .val (.int la), .val (.int lb), .val (.int lc), .val (.ref gg)] [(.int (1 : Int32))])) tg
          refine XS.ifNo X222.here hx rfl (hb hby at_353) rfl ((if0 _ _).trans (feq (by decide)).1) ?_
          refine XS.aload X222.here hx rfl (hb hby at_356) rfl rfl ?_
          refine XS.iconst X222.here hx rfl (hb hby at_358) ?_
          refine XS.aload X222.here hx rfl (hb hby at_359) rfl rfl ?_
          show Steps p.tables e below (T222.setTop (mkF m 361 #[.val (.long qa), .second, .val (.long qb), .second, .val (.long qc), .second, .val (.int ip), .val (.int iq), .val (.ref tt0), .val (.ref tt1), .val (.ref tt2), .val (.int fa), .val (.int la), .val (.int fb), .val (.int lb), .val (.int fc), .val (.int lc), .val (.int r), .val (.ref b24), .val (.ref bb0), .val (.ref bb1), .val (.ref bb2), .val (.int la), .val (.int lb), .val (.int lc), .val (.ref gg)] [(.ref tt0), (.int (4 : Int32)), (.ref gg)])) tg
          refine XS.iload X222.here hx rfl (hb hby at_361) rfl ?_
          refine XS.iload X222.here hx rfl (hb hby at_363) rfl ?_
          refine XS.aload X222.here hx rfl (hb hby at_365) rfl rfl ?_
          refine XS.iload X222.here hx rfl (hb hby at_367) rfl ?_
          refine XS.iload X222.here hx rfl (hb hby at_369) rfl ?_
          refine XS.aload X222.here hx rfl (hb hby at_371) rfl rfl ?_
          show Steps p.tables e below (T222.setTop (mkF m 373 #[.val (.long qa), .second, .val (.long qb), .second, .val (.long qc), .second, .val (.int ip), .val (.int iq), .val (.ref tt0), .val (.ref tt1), .val (.ref tt2), .val (.int fa), .val (.int la), .val (.int fb), .val (.int lb), .val (.int fc), .val (.int lc), .val (.int r), .val (.ref b24), .val (.ref bb0), .val (.ref bb1), .val (.ref bb2), .val (.int la), .val (.int lb), .val (.int lc), .val (.ref gg)] [(.ref tt2), (.int lb), (.int fb), (.ref tt1), (.int la), (.int fa), (.ref tt0), (.int (4 : Int32)), (.ref gg)])) tg
          refine XS.iload X222.here hx rfl (hb hby at_373) rfl ?_
          refine XS.iload X222.here hx rfl (hb hby at_375) rfl ?_
          exact kg
        obtain ⟨v225, T225, h225, Lc225, X225, e225, hQ225, st225⟩ := own_callS X222 hx hZ hown (hw _ (List.mem_of_getElem? (i := 60) rfl)) (hw _ (List.mem_of_getElem? (i := 61) rfl)) (hw _ (List.mem_of_getElem? (i := 2) rfl)) (hw _ (List.mem_of_getElem? (i := 62) rfl)) (by decide) (rm_at l Z a0 hw [] gg (4 : Int32) tt0 fa la tt1 fb lb tt2 fc lc kg ((((0 : Int32) + la) + lb) + lc) kt0 kt1 kt2 qa qb qc h196 n0 (by omega) f206 f211 f212 f213 i3fa i3fb i3fc i3la i3lb i3lc (by omega) ⟨by decide, by decide⟩) e222' (g := (mkF m 377 #[.val (.long qa), .second, .val (.long qb), .second, .val (.long qc), .second, .val (.int ip), .val (.int iq), .val (.ref tt0), .val (.ref tt1), .val (.ref tt2), .val (.int fa), .val (.int la), .val (.int fb), .val (.int lb), .val (.int fc), .val (.int lc), .val (.int r), .val (.ref b24), .val (.ref bb0), .val (.ref bb1), .val (.ref bb2), .val (.int la), .val (.int lb), .val (.int lc), .val (.ref gg)] [(.int lc), (.int fc), (.ref tt2), (.int lb), (.int fb), (.ref tt1), (.int la), (.int fa), (.ref tt0), (.int (4 : Int32)), (.ref gg)])) rfl (by rw [hml]; rfl) (argsL := [(.ref gg), (.int (4 : Int32)), (.ref tt0), (.int fa), (.int la), (.ref tt1), (.int fb), (.int lb), (.ref tt2), (.int fc), (.int lc)]) (rest := []) rfl (lenOf pd_7 rfl) rfl (W := 0) (by show 2 * 0 + _ ≤ _; exact Nat.le_of_eq rfl) (hb hby at_377) (by decide) (by decide) (by decide) (by decide)
        obtain ⟨rfl, Nq225, hs225⟩ := hQ225
        have N225 := Fr.app N222 Nq225
        have e225' : T225.heap = h196 := e225.trans hs225
        have k226 : Rch p e below (s₁.setTop (entryFrame m #[(.long qa), (.long qb), (.long qc), (.int ip), (.int iq)] maxLocals)) T225 (mkF m 380 #[.val (.long qa), .second, .val (.long qb), .second, .val (.long qc), .second, .val (.int ip), .val (.int iq), .val (.ref tt0), .val (.ref tt1), .val (.ref tt2), .val (.int fa), .val (.int la), .val (.int fb), .val (.int lb), .val (.int fc), .val (.int lc), .val (.int r), .val (.ref b24), .val (.ref bb0), .val (.ref bb1), .val (.ref bb2), .val (.int la), .val (.int lb), .val (.int lc), .val (.ref gg)] [(.int (1 : Int32))]) := fun tg kg => k224 tg (st225 tg kg)
        have k227 : Rch p e below (s₁.setTop (entryFrame m #[(.long qa), (.long qb), (.long qc), (.int ip), (.int iq)] maxLocals)) T225 (mkF m 404 #[.val (.long qa), .second, .val (.long qb), .second, .val (.long qc), .second, .val (.int ip), .val (.int iq), .val (.ref tt0), .val (.ref tt1), .val (.ref tt2), .val (.int fa), .val (.int la), .val (.int fb), .val (.int lb), .val (.int fc), .val (.int lc), .val (.int r), .val (.ref b24), .val (.ref bb0), .val (.ref bb1), .val (.ref bb2), .val (.int la), .val (.int lb), .val (.int lc), .val (.ref gg)] [(.int lc), (.int fc), (.ref tt2), (.int lb), (.int fb), (.ref tt1), (.int la), (.int fa), (.ref tt0), (.int (5 : Int32)), (.ref gg)]) := fun tg kg => by
          refine k226 tg ?_
          show Steps p.tables e below (T225.setTop (mkF m 380 #[.val (.long qa), .second, .val (.long qb), .second, .val (.long qc), .second, .val (.int ip), .val (.int iq), .val (.ref tt0), .val (.ref tt1), .val (.ref tt2), .val (.int fa), .val (.int la), .val (.int fb), .val (.int lb), .val (.int fc), .val (.int lc), .val (.int r), .val (.ref b24), .val (.ref bb0), .val (.ref bb1), .val (.ref bb2), .val (.int la), .val (.int lb), .val (.int lc), .val (.ref gg)] [(.int (1 : Int32))])) tg
          refine XS.ifNo X225.here hx rfl (hb hby at_380) rfl ((if0 _ _).trans (feq (by decide)).1) ?_
          refine XS.aload X225.here hx rfl (hb hby at_383) rfl rfl ?_
          refine XS.iconst X225.here hx rfl (hb hby at_385) ?_
          refine XS.aload X225.here hx rfl (hb hby at_386) rfl rfl ?_
          show Steps p.tables e below (T225.setTop (mkF m 388 #[.val (.long qa), .second, .val (.long qb), .second, .val (.long qc), .second, .val (.int ip), .val (.int iq), .val (.ref tt0), .val (.ref tt1), .val (.ref tt2), .val (.int fa), .val (.int la), .val (.int fb), .val (.int lb), .val (.int fc), .val (.int lc), .val (.int r), .val (.ref b24), .val (.ref bb0), .val (.ref bb1), .val (.ref bb2), .val (.int la), .val (.int lb), .val (.int lc), .val (.ref gg)] [(.ref tt0), (.int (5 : Int32)), (.ref gg)])) tg
          refine XS.iload X225.here hx rfl (hb hby at_388) rfl ?_
          refine XS.iload X225.here hx rfl (hb hby at_390) rfl ?_
          refine XS.aload X225.here hx rfl (hb hby at_392) rfl rfl ?_
          refine XS.iload X225.here hx rfl (hb hby at_394) rfl ?_
          refine XS.iload X225.here hx rfl (hb hby at_396) rfl ?_
          refine XS.aload X225.here hx rfl (hb hby at_398) rfl rfl ?_
          show Steps p.tables e below (T225.setTop (mkF m 400 #[.val (.long qa), .second, .val (.long qb), .second, .val (.long qc), .second, .val (.int ip), .val (.int iq), .val (.ref tt0), .val (.ref tt1), .val (.ref tt2), .val (.int fa), .val (.int la), .val (.int fb), .val (.int lb), .val (.int fc), .val (.int lc), .val (.int r), .val (.ref b24), .val (.ref bb0), .val (.ref bb1), .val (.ref bb2), .val (.int la), .val (.int lb), .val (.int lc), .val (.ref gg)] [(.ref tt2), (.int lb), (.int fb), (.ref tt1), (.int la), (.int fa), (.ref tt0), (.int (5 : Int32)), (.ref gg)])) tg
          refine XS.iload X225.here hx rfl (hb hby at_400) rfl ?_
          refine XS.iload X225.here hx rfl (hb hby at_402) rfl ?_
          exact kg
        obtain ⟨v228, T228, h228, Lc228, X228, e228, hQ228, st228⟩ := own_callS X225 hx hZ hown (hw _ (List.mem_of_getElem? (i := 60) rfl)) (hw _ (List.mem_of_getElem? (i := 61) rfl)) (hw _ (List.mem_of_getElem? (i := 2) rfl)) (hw _ (List.mem_of_getElem? (i := 62) rfl)) (by decide) (rm_at l Z a0 hw [] gg (5 : Int32) tt0 fa la tt1 fb lb tt2 fc lc kg ((((0 : Int32) + la) + lb) + lc) kt0 kt1 kt2 qa qb qc h196 n0 (by omega) f206 f211 f212 f213 i3fa i3fb i3fc i3la i3lb i3lc (by omega) ⟨by decide, by decide⟩) e225' (g := (mkF m 404 #[.val (.long qa), .second, .val (.long qb), .second, .val (.long qc), .second, .val (.int ip), .val (.int iq), .val (.ref tt0), .val (.ref tt1), .val (.ref tt2), .val (.int fa), .val (.int la), .val (.int fb), .val (.int lb), .val (.int fc), .val (.int lc), .val (.int r), .val (.ref b24), .val (.ref bb0), .val (.ref bb1), .val (.ref bb2), .val (.int la), .val (.int lb), .val (.int lc), .val (.ref gg)] [(.int lc), (.int fc), (.ref tt2), (.int lb), (.int fb), (.ref tt1), (.int la), (.int fa), (.ref tt0), (.int (5 : Int32)), (.ref gg)])) rfl (by rw [hml]; rfl) (argsL := [(.ref gg), (.int (5 : Int32)), (.ref tt0), (.int fa), (.int la), (.ref tt1), (.int fb), (.int lb), (.ref tt2), (.int fc), (.int lc)]) (rest := []) rfl (lenOf pd_7 rfl) rfl (W := 0) (by show 2 * 0 + _ ≤ _; exact Nat.le_of_eq rfl) (hb hby at_404) (by decide) (by decide) (by decide) (by decide)
        obtain ⟨rfl, Nq228, hs228⟩ := hQ228
        have N228 := Fr.app N225 Nq228
        have e228' : T228.heap = h196 := e228.trans hs228
        have k229 : Rch p e below (s₁.setTop (entryFrame m #[(.long qa), (.long qb), (.long qc), (.int ip), (.int iq)] maxLocals)) T228 (mkF m 407 #[.val (.long qa), .second, .val (.long qb), .second, .val (.long qc), .second, .val (.int ip), .val (.int iq), .val (.ref tt0), .val (.ref tt1), .val (.ref tt2), .val (.int fa), .val (.int la), .val (.int fb), .val (.int lb), .val (.int fc), .val (.int lc), .val (.int r), .val (.ref b24), .val (.ref bb0), .val (.ref bb1), .val (.ref bb2), .val (.int la), .val (.int lb), .val (.int lc), .val (.ref gg)] [(.int (1 : Int32))]) := fun tg kg => k227 tg (st228 tg kg)
        have k230 : Rch p e below (s₁.setTop (entryFrame m #[(.long qa), (.long qb), (.long qc), (.int ip), (.int iq)] maxLocals)) T228 (mkF m 432 #[.val (.long qa), .second, .val (.long qb), .second, .val (.long qc), .second, .val (.int ip), .val (.int iq), .val (.ref tt0), .val (.ref tt1), .val (.ref tt2), .val (.int fa), .val (.int la), .val (.int fb), .val (.int lb), .val (.int fc), .val (.int lc), .val (.int r), .val (.ref b24), .val (.ref bb0), .val (.ref bb1), .val (.ref bb2), .val (.int la), .val (.int lb), .val (.int lc), .val (.ref gg)] [(.int lc), (.int fc), (.ref tt2), (.int lb), (.int fb), (.ref tt1), (.int la), (.int fa), (.ref tt0), (.int (6 : Int32)), (.ref gg)]) := fun tg kg => by
          refine k229 tg ?_
          show Steps p.tables e below (T228.setTop (mkF m 407 #[.val (.long qa), .second, .val (.long qb), .second, .val (.long qc), .second, .val (.int ip), .val (.int iq), .val (.ref tt0), .val (.ref tt1), .val (.ref tt2), .val (.int fa), .val (.int la), .val (.int fb), .val (.int lb), .val (.int fc), .val (.int lc), .val (.int r), .val (.ref b24), .val (.ref bb0), .val (.ref bb1), .val (.ref bb2), .val (.int la), .val (.int lb), .val (.int lc), .val (.ref gg)] [(.int (1 : Int32))])) tg
          refine XS.ifNo X228.here hx rfl (hb hby at_407) rfl ((if0 _ _).trans (feq (by decide)).1) ?_
          refine XS.aload X228.here hx rfl (hb hby at_410) rfl rfl ?_
          refine XS.bipush X228.here hx rfl (hb hby at_412) ?_
          refine XS.aload X228.here hx rfl (hb hby at_414) rfl rfl ?_
          show Steps p.tables e below (T228.setTop (mkF m 416 #[.val (.long qa), .second, .val (.long qb), .second, .val (.long qc), .second, .val (.int ip), .val (.int iq), .val (.ref tt0), .val (.ref tt1), .val (.ref tt2), .val (.int fa), .val (.int la), .val (.int fb), .val (.int lb), .val (.int fc), .val (.int lc), .val (.int r), .val (.ref b24), .val (.ref bb0), .val (.ref bb1), .val (.ref bb2), .val (.int la), .val (.int lb), .val (.int lc), .val (.ref gg)] [(.ref tt0), (.int (6 : Int32)), (.ref gg)])) tg
          refine XS.iload X228.here hx rfl (hb hby at_416) rfl ?_
          refine XS.iload X228.here hx rfl (hb hby at_418) rfl ?_
          refine XS.aload X228.here hx rfl (hb hby at_420) rfl rfl ?_
          refine XS.iload X228.here hx rfl (hb hby at_422) rfl ?_
          refine XS.iload X228.here hx rfl (hb hby at_424) rfl ?_
          refine XS.aload X228.here hx rfl (hb hby at_426) rfl rfl ?_
          show Steps p.tables e below (T228.setTop (mkF m 428 #[.val (.long qa), .second, .val (.long qb), .second, .val (.long qc), .second, .val (.int ip), .val (.int iq), .val (.ref tt0), .val (.ref tt1), .val (.ref tt2), .val (.int fa), .val (.int la), .val (.int fb), .val (.int lb), .val (.int fc), .val (.int lc), .val (.int r), .val (.ref b24), .val (.ref bb0), .val (.ref bb1), .val (.ref bb2), .val (.int la), .val (.int lb), .val (.int lc), .val (.ref gg)] [(.ref tt2), (.int lb), (.int fb), (.ref tt1), (.int la), (.int fa), (.ref tt0), (.int (6 : Int32)), (.ref gg)])) tg
          refine XS.iload X228.here hx rfl (hb hby at_428) rfl ?_
          refine XS.iload X228.here hx rfl (hb hby at_430) rfl ?_
          exact kg
        obtain ⟨v231, T231, h231, Lc231, X231, e231, hQ231, st231⟩ := own_callS X228 hx hZ hown (hw _ (List.mem_of_getElem? (i := 60) rfl)) (hw _ (List.mem_of_getElem? (i := 61) rfl)) (hw _ (List.mem_of_getElem? (i := 2) rfl)) (hw _ (List.mem_of_getElem? (i := 62) rfl)) (by decide) (rm_at l Z a0 hw [] gg (6 : Int32) tt0 fa la tt1 fb lb tt2 fc lc kg ((((0 : Int32) + la) + lb) + lc) kt0 kt1 kt2 qa qb qc h196 n0 (by omega) f206 f211 f212 f213 i3fa i3fb i3fc i3la i3lb i3lc (by omega) ⟨by decide, by decide⟩) e228' (g := (mkF m 432 #[.val (.long qa), .second, .val (.long qb), .second, .val (.long qc), .second, .val (.int ip), .val (.int iq), .val (.ref tt0), .val (.ref tt1), .val (.ref tt2), .val (.int fa), .val (.int la), .val (.int fb), .val (.int lb), .val (.int fc), .val (.int lc), .val (.int r), .val (.ref b24), .val (.ref bb0), .val (.ref bb1), .val (.ref bb2), .val (.int la), .val (.int lb), .val (.int lc), .val (.ref gg)] [(.int lc), (.int fc), (.ref tt2), (.int lb), (.int fb), (.ref tt1), (.int la), (.int fa), (.ref tt0), (.int (6 : Int32)), (.ref gg)])) rfl (by rw [hml]; rfl) (argsL := [(.ref gg), (.int (6 : Int32)), (.ref tt0), (.int fa), (.int la), (.ref tt1), (.int fb), (.int lb), (.ref tt2), (.int fc), (.int lc)]) (rest := []) rfl (lenOf pd_7 rfl) rfl (W := 0) (by show 2 * 0 + _ ≤ _; exact Nat.le_of_eq rfl) (hb hby at_432) (by decide) (by decide) (by decide) (by decide)
        obtain ⟨rfl, Nq231, hs231⟩ := hQ231
        have N231 := Fr.app N228 Nq231
        have e231' : T231.heap = h196 := e231.trans hs231
        have k232 : Rch p e below (s₁.setTop (entryFrame m #[(.long qa), (.long qb), (.long qc), (.int ip), (.int iq)] maxLocals)) T231 (mkF m 435 #[.val (.long qa), .second, .val (.long qb), .second, .val (.long qc), .second, .val (.int ip), .val (.int iq), .val (.ref tt0), .val (.ref tt1), .val (.ref tt2), .val (.int fa), .val (.int la), .val (.int fb), .val (.int lb), .val (.int fc), .val (.int lc), .val (.int r), .val (.ref b24), .val (.ref bb0), .val (.ref bb1), .val (.ref bb2), .val (.int la), .val (.int lb), .val (.int lc), .val (.ref gg)] [(.int (1 : Int32))]) := fun tg kg => k230 tg (st231 tg kg)
        have k233 : Rch p e below (s₁.setTop (entryFrame m #[(.long qa), (.long qb), (.long qc), (.int ip), (.int iq)] maxLocals)) T231 (mkF m 460 #[.val (.long qa), .second, .val (.long qb), .second, .val (.long qc), .second, .val (.int ip), .val (.int iq), .val (.ref tt0), .val (.ref tt1), .val (.ref tt2), .val (.int fa), .val (.int la), .val (.int fb), .val (.int lb), .val (.int fc), .val (.int lc), .val (.int r), .val (.ref b24), .val (.ref bb0), .val (.ref bb1), .val (.ref bb2), .val (.int la), .val (.int lb), .val (.int lc), .val (.ref gg)] [(.int lc), (.int fc), (.ref tt2), (.int lb), (.int fb), (.ref tt1), (.int la), (.int fa), (.ref tt0), (.int (7 : Int32)), (.ref gg)]) := fun tg kg => by
          refine k232 tg ?_
          show Steps p.tables e below (T231.setTop (mkF m 435 #[.val (.long qa), .second, .val (.long qb), .second, .val (.long qc), .second, .val (.int ip), .val (.int iq), .val (.ref tt0), .val (.ref tt1), .val (.ref tt2), .val (.int fa), .val (.int la), .val (.int fb), .val (.int lb), .val (.int fc), .val (.int lc), .val (.int r), .val (.ref b24), .val (.ref bb0), .val (.ref bb1), .val (.ref bb2), .val (.int la), .val (.int lb), .val (.int lc), .val (.ref gg)] [(.int (1 : Int32))])) tg
          refine XS.ifNo X231.here hx rfl (hb hby at_435) rfl ((if0 _ _).trans (feq (by decide)).1) ?_
          refine XS.aload X231.here hx rfl (hb hby at_438) rfl rfl ?_
          refine XS.bipush X231.here hx rfl (hb hby at_440) ?_
          refine XS.aload X231.here hx rfl (hb hby at_442) rfl rfl ?_
          show Steps p.tables e below (T231.setTop (mkF m 444 #[.val (.long qa), .second, .val (.long qb), .second, .val (.long qc), .second, .val (.int ip), .val (.int iq), .val (.ref tt0), .val (.ref tt1), .val (.ref tt2), .val (.int fa), .val (.int la), .val (.int fb), .val (.int lb), .val (.int fc), .val (.int lc), .val (.int r), .val (.ref b24), .val (.ref bb0), .val (.ref bb1), .val (.ref bb2), .val (.int la), .val (.int lb), .val (.int lc), .val (.ref gg)] [(.ref tt0), (.int (7 : Int32)), (.ref gg)])) tg
          refine XS.iload X231.here hx rfl (hb hby at_444) rfl ?_
          refine XS.iload X231.here hx rfl (hb hby at_446) rfl ?_
          refine XS.aload X231.here hx rfl (hb hby at_448) rfl rfl ?_
          refine XS.iload X231.here hx rfl (hb hby at_450) rfl ?_
          refine XS.iload X231.here hx rfl (hb hby at_452) rfl ?_
          refine XS.aload X231.here hx rfl (hb hby at_454) rfl rfl ?_
          show Steps p.tables e below (T231.setTop (mkF m 456 #[.val (.long qa), .second, .val (.long qb), .second, .val (.long qc), .second, .val (.int ip), .val (.int iq), .val (.ref tt0), .val (.ref tt1), .val (.ref tt2), .val (.int fa), .val (.int la), .val (.int fb), .val (.int lb), .val (.int fc), .val (.int lc), .val (.int r), .val (.ref b24), .val (.ref bb0), .val (.ref bb1), .val (.ref bb2), .val (.int la), .val (.int lb), .val (.int lc), .val (.ref gg)] [(.ref tt2), (.int lb), (.int fb), (.ref tt1), (.int la), (.int fa), (.ref tt0), (.int (7 : Int32)), (.ref gg)])) tg
          refine XS.iload X231.here hx rfl (hb hby at_456) rfl ?_
          refine XS.iload X231.here hx rfl (hb hby at_458) rfl ?_
          exact kg
        obtain ⟨v234, T234, h234, Lc234, X234, e234, hQ234, st234⟩ := own_callS X231 hx hZ hown (hw _ (List.mem_of_getElem? (i := 60) rfl)) (hw _ (List.mem_of_getElem? (i := 61) rfl)) (hw _ (List.mem_of_getElem? (i := 2) rfl)) (hw _ (List.mem_of_getElem? (i := 62) rfl)) (by decide) (rm_at l Z a0 hw [] gg (7 : Int32) tt0 fa la tt1 fb lb tt2 fc lc kg ((((0 : Int32) + la) + lb) + lc) kt0 kt1 kt2 qa qb qc h196 n0 (by omega) f206 f211 f212 f213 i3fa i3fb i3fc i3la i3lb i3lc (by omega) ⟨by decide, by decide⟩) e231' (g := (mkF m 460 #[.val (.long qa), .second, .val (.long qb), .second, .val (.long qc), .second, .val (.int ip), .val (.int iq), .val (.ref tt0), .val (.ref tt1), .val (.ref tt2), .val (.int fa), .val (.int la), .val (.int fb), .val (.int lb), .val (.int fc), .val (.int lc), .val (.int r), .val (.ref b24), .val (.ref bb0), .val (.ref bb1), .val (.ref bb2), .val (.int la), .val (.int lb), .val (.int lc), .val (.ref gg)] [(.int lc), (.int fc), (.ref tt2), (.int lb), (.int fb), (.ref tt1), (.int la), (.int fa), (.ref tt0), (.int (7 : Int32)), (.ref gg)])) rfl (by rw [hml]; rfl) (argsL := [(.ref gg), (.int (7 : Int32)), (.ref tt0), (.int fa), (.int la), (.ref tt1), (.int fb), (.int lb), (.ref tt2), (.int fc), (.int lc)]) (rest := []) rfl (lenOf pd_7 rfl) rfl (W := 0) (by show 2 * 0 + _ ≤ _; exact Nat.le_of_eq rfl) (hb hby at_460) (by decide) (by decide) (by decide) (by decide)
        obtain ⟨rfl, Nq234, hs234⟩ := hQ234
        have N234 := Fr.app N231 Nq234
        have e234' : T234.heap = h196 := e234.trans hs234
        have k235 : Rch p e below (s₁.setTop (entryFrame m #[(.long qa), (.long qb), (.long qc), (.int ip), (.int iq)] maxLocals)) T234 (mkF m 463 #[.val (.long qa), .second, .val (.long qb), .second, .val (.long qc), .second, .val (.int ip), .val (.int iq), .val (.ref tt0), .val (.ref tt1), .val (.ref tt2), .val (.int fa), .val (.int la), .val (.int fb), .val (.int lb), .val (.int fc), .val (.int lc), .val (.int r), .val (.ref b24), .val (.ref bb0), .val (.ref bb1), .val (.ref bb2), .val (.int la), .val (.int lb), .val (.int lc), .val (.ref gg)] [(.int (1 : Int32))]) := fun tg kg => k233 tg (st234 tg kg)
        have k236 : Rch p e below (s₁.setTop (entryFrame m #[(.long qa), (.long qb), (.long qc), (.int ip), (.int iq)] maxLocals)) T234 (mkF m 488 #[.val (.long qa), .second, .val (.long qb), .second, .val (.long qc), .second, .val (.int ip), .val (.int iq), .val (.ref tt0), .val (.ref tt1), .val (.ref tt2), .val (.int fa), .val (.int la), .val (.int fb), .val (.int lb), .val (.int fc), .val (.int lc), .val (.int r), .val (.ref b24), .val (.ref bb0), .val (.ref bb1), .val (.ref bb2), .val (.int la), .val (.int lb), .val (.int lc), .val (.ref gg)] [(.int lc), (.int fc), (.ref tt2), (.int lb), (.int fb), (.ref tt1), (.int la), (.int fa), (.ref tt0), (.int (8 : Int32)), (.ref gg)]) := fun tg kg => by
          refine k235 tg ?_
          show Steps p.tables e below (T234.setTop (mkF m 463 #[.val (.long qa), .second, .val (.long qb), .second, .val (.long qc), .second, .val (.int ip), .val (.int iq), .val (.ref tt0), .val (.ref tt1), .val (.ref tt2), .val (.int fa), .val (.int la), .val (.int fb), .val (.int lb), .val (.int fc), .val (.int lc), .val (.int r), .val (.ref b24), .val (.ref bb0), .val (.ref bb1), .val (.ref bb2), .val (.int la), .val (.int lb), .val (.int lc), .val (.ref gg)] [(.int (1 : Int32))])) tg
          refine XS.ifNo X234.here hx rfl (hb hby at_463) rfl ((if0 _ _).trans (feq (by decide)).1) ?_
          refine XS.aload X234.here hx rfl (hb hby at_466) rfl rfl ?_
          refine XS.bipush X234.here hx rfl (hb hby at_468) ?_
          refine XS.aload X234.here hx rfl (hb hby at_470) rfl rfl ?_
          show Steps p.tables e below (T234.setTop (mkF m 472 #[.val (.long qa), .second, .val (.long qb), .second, .val (.long qc), .second, .val (.int ip), .val (.int iq), .val (.ref tt0), .val (.ref tt1), .val (.ref tt2), .val (.int fa), .val (.int la), .val (.int fb), .val (.int lb), .val (.int fc), .val (.int lc), .val (.int r), .val (.ref b24), .val (.ref bb0), .val (.ref bb1), .val (.ref bb2), .val (.int la), .val (.int lb), .val (.int lc), .val (.ref gg)] [(.ref tt0), (.int (8 : Int32)), (.ref gg)])) tg
          refine XS.iload X234.here hx rfl (hb hby at_472) rfl ?_
          refine XS.iload X234.here hx rfl (hb hby at_474) rfl ?_
          refine XS.aload X234.here hx rfl (hb hby at_476) rfl rfl ?_
          refine XS.iload X234.here hx rfl (hb hby at_478) rfl ?_
          refine XS.iload X234.here hx rfl (hb hby at_480) rfl ?_
          refine XS.aload X234.here hx rfl (hb hby at_482) rfl rfl ?_
          show Steps p.tables e below (T234.setTop (mkF m 484 #[.val (.long qa), .second, .val (.long qb), .second, .val (.long qc), .second, .val (.int ip), .val (.int iq), .val (.ref tt0), .val (.ref tt1), .val (.ref tt2), .val (.int fa), .val (.int la), .val (.int fb), .val (.int lb), .val (.int fc), .val (.int lc), .val (.int r), .val (.ref b24), .val (.ref bb0), .val (.ref bb1), .val (.ref bb2), .val (.int la), .val (.int lb), .val (.int lc), .val (.ref gg)] [(.ref tt2), (.int lb), (.int fb), (.ref tt1), (.int la), (.int fa), (.ref tt0), (.int (8 : Int32)), (.ref gg)])) tg
          refine XS.iload X234.here hx rfl (hb hby at_484) rfl ?_
          refine XS.iload X234.here hx rfl (hb hby at_486) rfl ?_
          exact kg
        obtain ⟨v237, T237, h237, Lc237, X237, e237, hQ237, st237⟩ := own_callS X234 hx hZ hown (hw _ (List.mem_of_getElem? (i := 60) rfl)) (hw _ (List.mem_of_getElem? (i := 61) rfl)) (hw _ (List.mem_of_getElem? (i := 2) rfl)) (hw _ (List.mem_of_getElem? (i := 62) rfl)) (by decide) (rm_at l Z a0 hw [] gg (8 : Int32) tt0 fa la tt1 fb lb tt2 fc lc kg ((((0 : Int32) + la) + lb) + lc) kt0 kt1 kt2 qa qb qc h196 n0 (by omega) f206 f211 f212 f213 i3fa i3fb i3fc i3la i3lb i3lc (by omega) ⟨by decide, by decide⟩) e234' (g := (mkF m 488 #[.val (.long qa), .second, .val (.long qb), .second, .val (.long qc), .second, .val (.int ip), .val (.int iq), .val (.ref tt0), .val (.ref tt1), .val (.ref tt2), .val (.int fa), .val (.int la), .val (.int fb), .val (.int lb), .val (.int fc), .val (.int lc), .val (.int r), .val (.ref b24), .val (.ref bb0), .val (.ref bb1), .val (.ref bb2), .val (.int la), .val (.int lb), .val (.int lc), .val (.ref gg)] [(.int lc), (.int fc), (.ref tt2), (.int lb), (.int fb), (.ref tt1), (.int la), (.int fa), (.ref tt0), (.int (8 : Int32)), (.ref gg)])) rfl (by rw [hml]; rfl) (argsL := [(.ref gg), (.int (8 : Int32)), (.ref tt0), (.int fa), (.int la), (.ref tt1), (.int fb), (.int lb), (.ref tt2), (.int fc), (.int lc)]) (rest := []) rfl (lenOf pd_7 rfl) rfl (W := 0) (by show 2 * 0 + _ ≤ _; exact Nat.le_of_eq rfl) (hb hby at_488) (by decide) (by decide) (by decide) (by decide)
        obtain ⟨rfl, Nq237, hs237⟩ := hQ237
        have N237 := Fr.app N234 Nq237
        have e237' : T237.heap = h196 := e237.trans hs237
        have k238 : Rch p e below (s₁.setTop (entryFrame m #[(.long qa), (.long qb), (.long qc), (.int ip), (.int iq)] maxLocals)) T237 (mkF m 491 #[.val (.long qa), .second, .val (.long qb), .second, .val (.long qc), .second, .val (.int ip), .val (.int iq), .val (.ref tt0), .val (.ref tt1), .val (.ref tt2), .val (.int fa), .val (.int la), .val (.int fb), .val (.int lb), .val (.int fc), .val (.int lc), .val (.int r), .val (.ref b24), .val (.ref bb0), .val (.ref bb1), .val (.ref bb2), .val (.int la), .val (.int lb), .val (.int lc), .val (.ref gg)] [(.int (1 : Int32))]) := fun tg kg => k236 tg (st237 tg kg)
        have k239 : Rch p e below (s₁.setTop (entryFrame m #[(.long qa), (.long qb), (.long qc), (.int ip), (.int iq)] maxLocals)) T237 (mkF m 499 #[.val (.long qa), .second, .val (.long qb), .second, .val (.long qc), .second, .val (.int ip), .val (.int iq), .val (.ref tt0), .val (.ref tt1), .val (.ref tt2), .val (.int fa), .val (.int la), .val (.int fb), .val (.int lb), .val (.int fc), .val (.int lc), .val (.int r), .val (.ref b24), .val (.ref bb0), .val (.ref bb1), .val (.ref bb2), .val (.int la), .val (.int lb), .val (.int lc), .val (.ref gg)] [(.int (1 : Int32))]) := fun tg kg => by
          refine k238 tg ?_
          show Steps p.tables e below (T237.setTop (mkF m 491 #[.val (.long qa), .second, .val (.long qb), .second, .val (.long qc), .second, .val (.int ip), .val (.int iq), .val (.ref tt0), .val (.ref tt1), .val (.ref tt2), .val (.int fa), .val (.int la), .val (.int fb), .val (.int lb), .val (.int fc), .val (.int lc), .val (.int r), .val (.ref b24), .val (.ref bb0), .val (.ref bb1), .val (.ref bb2), .val (.int la), .val (.int lb), .val (.int lc), .val (.ref gg)] [(.int (1 : Int32))])) tg
          refine XS.ifNo X237.here hx rfl (hb hby at_491) rfl ((if0 _ _).trans (feq (by decide)).1) ?_
          refine XS.iconst X237.here hx rfl (hb hby at_494) ?_
          refine XS.goto X237.here hx rfl (pc0 := 495) (pc' := 499) rfl (hb hby at_495) (by decide) (by decide) ?_
          exact kg
        obtain ⟨fs240, hr240, hrun240, hended240, hW240, hsame240⟩ := X237.leave (v := some (.int (nar .boolean (1 : Int32)))) (fun h => by rw [Bd.returns] at h; cases h)
        refine ⟨_, _, k239 _ ?_, hrun240, hended240, _, _, rfl, ?_, ⟨_, rfl⟩, hW240, hsame240.mono (by decide) (by decide)⟩
        · exact retN X237 hx (t := .boolean) Bd.returns (by simp) (hb hby at_499) hr240
        · show Q_rm0 Z qa qb qc ip iq h0 n0 _ T237.heap _
          rw [e237']
          exact ⟨rfl, N237⟩
set_option maxRecDepth 65536 in
set_option maxHeartbeats 40000000 in
theorem comes_1 {Post : Tables → Env → Array Value → State → Outcome → State → Prop} (hpost : ∀ tb e args s v u, (limb_1_1.after args s (.returned v) u = true ∧ limb_1_2.after args s (.returned v) u = true ∧ True) → FrameEnd s (.returned v) u (Jvm.fieldLocs frame_1_writes args s ++ Jvm.arrayLocs frame_1_arrays args s ++ Jvm.staticLocs frame_1_statics s) 24 192 → Post tb e args s (.returned v) u) :
    ArmFor flags0 classFile x code maxLocals ret World_1 tables_1 room_1 Calls_1 rest_1 Pre_1 Post := by
  intro l hfl _ _ p e ha hc hk s m args below hf hA hF happ hP
  obtain ⟨hcalls, hrest, hpre⟩ := hP
  obtain ⟨-, -, -, hnamed, -, -, -, hat⟩ := (Spec.applies_iff hf).mp happ
  obtain ⟨hg, hn⟩ := and_e (Cond.before_iff.mp (show (Jvm.Cond.and given_1 narrow_1).before args s = true from hpre))
  obtain ⟨g1, g2⟩ := and_e hg
  obtain ⟨g3, g4⟩ := and_e g2
  obtain ⟨g5, g6⟩ := and_e g4
  obtain ⟨g7, g8⟩ := and_e g6
  obtain ⟨g9, g10⟩ := and_e g8
  obtain ⟨w0, w1, w2, w3, w4, rfl⟩ : ∃ w0 w1 w2 w3 w4 : Value, args = #[w0, w1, w2, w3, w4] := by
    have hs : args.size = 5 := by simpa [Cond.value, given_1] using g1
    obtain ⟨L⟩ := args
    match L, hs with
    | [w0, w1, w2, w3, w4], _ => exact ⟨w0, w1, w2, w3, w4, rfl⟩
  have hw := fun d (hd : d ∈ tables_1) => atoms_spec (ws := Jvm.Cond.code x code maxLocals ret :: tables_1) hat d (List.mem_cons_of_mem _ hd)
  have hfit : Fit s := fun {y c} hc i hi => by
    obtain ⟨ha, rfl⟩ := Array.getElem?_eq_some_iff.mp hc
    have q := List.all_eq_true.mp ((Array.all_eq_true_iff_forall_mem.mp hF) _ (Array.getElem_mem ha)) i (List.mem_range.mpr hi)
    simpa [Array.getElem?_eq_getElem hi] using q
  obtain ⟨i0, ei0⟩ := isL_v g3
  obtain rfl : w0 = (.long i0) := Option.some.inj ei0
  obtain ⟨i1, ei1⟩ := isL_v g5
  obtain rfl : w1 = (.long i1) := Option.some.inj ei1
  obtain ⟨i2, ei2⟩ := isL_v g7
  obtain rfl : w2 = (.long i2) := Option.some.inj ei2
  obtain ⟨i3, ei3⟩ := is_v g9
  obtain rfl : w3 = (.int i3) := Option.some.inj ei3
  obtain ⟨i4, ei4⟩ := is_v g10
  obtain rfl : w4 = (.int i4) := Option.some.inj ei4
  obtain ⟨n, o, h1, h2, h3, _, L, rfl, ⟨rfl, N⟩, hq⟩ := rm0 l s _ hw tables_1 i0 i1 i2 i3 i4 s.heap s.heap.size (Nat.le_refl _)  p e ha hc hk s m _ below hf ((Spec.applies_iff_loose hf).mp happ).1 ⟨rfl, State.Warmed39.refl s, rfl⟩ trivial
  refine ⟨n, _, h1, h2, h3, hpost _ _ _ _ _ _ ⟨Cond.after_iff.mpr rfl, Cond.after_iff.mpr (eq_i res_at (Term.int_eval (1)) rfl), trivial⟩ ⟨hq.1, hq.2.1, (hq.2.2.sift fun y hy => Or.inr (N y hy)).mono (by decide) (by decide)⟩⟩
theorem main_1_1 : Claimed_1_1 := comes_1 fun _ _ _ _ _ _ h hF => ⟨h.1, hF⟩
theorem main_1_2 : Claimed_1_2 := comes_1 fun _ _ _ _ _ _ h hF => ⟨h.2.1, hF⟩
end Jvm.Pilot.@@N@@
namespace Jvm.Pilot.@@N@@
open Jvm Jvm.ClassFile Sem Op Lib Jvm.Free Jvm.Stand Jvm.Pilot.@@N@@.Jvm.D
/-! MADE BY PROGRAM (witnessworld.py) out of the Statement's table words and the real class files: 11 classes; the members and pool entries that the words name. The judged class is class 1, her method 1. -/
namespace start1
open Jvm.ClassFile
def u (s : String) : CpInfo := .utf8 (stringToUtf16 s)
/-- a pool by its gaps: so many unusable entries, then the entry; so many at the end -/
def gap : Nat → List CpInfo → List CpInfo
  | 0, r => r
  | n + 1, r => .unusable :: gap n r
def poolList (es : List (Nat × CpInfo)) (last : Nat) : List CpInfo := es.foldr (fun e r => gap e.1 (e.2 :: r)) (gap last [])
def pool (es : List (Nat × CpInfo)) (last : Nat) : Array CpInfo := ⟨poolList es last⟩
def fileOf (pool : Array CpInfo) (this : Nat) (attrs : Array Attribute := #[]) (ms : Array MethodInfo := #[]) (fl : Nat := 33) (sup : Nat := 0) (ifs : Array Nat := #[]) (fds : Array FieldInfo := #[]) : ClassFile where
  minorVersion := 0
  majorVersion := 65
  constantPool := pool
  accessFlags := fl
  thisClass := this
  superClass := sup
  interfaces := ifs
  fields := fds
  methods := ms
  attributes := attrs
def plain (name : String) (sup : Option ClassId) : Class where
  name := name
  kind := .ordinary
  loader := none
  accessFlags := 33
  super := sup
  interfaces := #[]
  cf := none
  fields := #[]
  methods := #[]
  instanceTypes := #[]
  staticTypes := #[]
  resolved := #[]
  callSites := []
  init := .initialized
  statics := none
  mirror := none

def pool0 : Array CpInfo := pool [(5, u "<init>"), (0, u "()V"), (1, .class_ 10), (1, u "java/lang/Object")] 113

def k0c0 : Code := { maxStack := 0, maxLocals := 1, code := object_method_1_code, exceptionTable := #[], attributes := #[] }
def k0m0 : Method := { name := "<init>", desc := "()V", sig := { parameters := [], returnType := none }, accessFlags := 1, code := some k0c0 }
/-- java/lang/Object -/
def k0 : Class := { plain "java/lang/Object" none with
  accessFlags := 33
  interfaces := #[]
  cf := some (fileOf pool0 8 #[] #[{ accessFlags := 1, nameIndex := 5, descriptorIndex := 6, attributes := #[] }] 33 0 #[] #[])
  fields := #[]
  methods := #[k0m0]
  instanceTypes := #[]
  staticTypes := #[]
  resolved := Array.replicate 124 none
  statics := none }

def pool1 : Array CpInfo := pool [(2, .class_ 4), (0, .nameAndType 5 6), (0, u "java/lang/Object"), (0, u "<init>"), (0, u "()V"), (0, .methodref 8 9), (0, .class_ 10), (0, .nameAndType 11 12), (0, u "dev/triadic/policy/TextLinesBytesPinLaw"), (0, u "drawn"), (0, u "(J)[B"), (0, .integer 2147483647), (0, .class_ 15), (0, u "dev/triadic/policy/TextLines"), (0, .methodref 14 3), (0, .methodref 14 18), (0, .nameAndType 19 20), (0, u "add"), (0, u "([BIII)Ldev/triadic/policy/TextLines$Line;"), (0, .methodref 14 22), (0, .nameAndType 23 24), (0, u "remove"), (0, u "(Ldev/triadic/policy/TextLines$Line;)V"), (0, .methodref 14 26), (0, .nameAndType 27 28), (0, u "bytes"), (0, u "()[B"), (0, .methodref 8 30), (0, .nameAndType 31 32), (0, u "at"), (0, u "([BI[BII[BII[BII)Z"), (2, u "law"), (0, u "(JJJII)Z")] 9

def k1m0 : Method := { name := "<init>", desc := "()V", sig := { parameters := [], returnType := none }, accessFlags := 1, code := none }
def k1c1 : Code := { maxStack := 11, maxLocals := 26, code := code, exceptionTable := #[], attributes := #[] }
def k1m1 : Method := { name := "law", desc := "(JJJII)Z", sig := { parameters := [.long, .long, .long, .int, .int], returnType := some .boolean }, accessFlags := 9, code := some k1c1 }
def k1c2 : Code := { maxStack := 5, maxLocals := 3, code := method_3_code, exceptionTable := #[], attributes := #[] }
def k1m2 : Method := { name := "drawn", desc := "(J)[B", sig := { parameters := [.long], returnType := some (.array .byte) }, accessFlags := 10, code := some k1c2 }
def k1c3 : Code := { maxStack := 3, maxLocals := 12, code := method_4_code, exceptionTable := #[], attributes := #[] }
def k1m3 : Method := { name := "at", desc := "([BI[BII[BII[BII)Z", sig := { parameters := [(.array .byte), .int, (.array .byte), .int, .int, (.array .byte), .int, .int, (.array .byte), .int, .int], returnType := some .boolean }, accessFlags := 10, code := some k1c3 }
/-- dev/triadic/policy/TextLinesBytesPinLaw -/
def k1 : Class := { plain "dev/triadic/policy/TextLinesBytesPinLaw" (some 0) with
  accessFlags := 49
  interfaces := #[]
  cf := some (fileOf pool1 8 #[] #[{ accessFlags := 1, nameIndex := 5, descriptorIndex := 6, attributes := #[] }, { accessFlags := 9, nameIndex := 35, descriptorIndex := 36, attributes := #[] }, { accessFlags := 10, nameIndex := 11, descriptorIndex := 12, attributes := #[] }, { accessFlags := 10, nameIndex := 31, descriptorIndex := 32, attributes := #[] }] 49 2 #[] #[])
  fields := #[]
  methods := #[k1m0, k1m1, k1m2, k1m3]
  instanceTypes := #[]
  staticTypes := #[]
  resolved := Array.replicate 46 none
  statics := none }

def pool2 : Array CpInfo := pool [(5, .methodref 6 7), (0, .class_ 8), (0, .nameAndType 9 10), (0, u "java/lang/Object"), (0, u "<init>"), (0, u "()V"), (0, .class_ 12), (0, u "dev/triadic/policy/TextLines$Line"), (0, .methodref 11 14), (0, .nameAndType 9 15), (0, u "([BIII)V"), (0, .fieldref 17 18), (0, .class_ 19), (0, .nameAndType 20 21), (0, u "dev/triadic/policy/TextLines"), (0, u "last"), (0, u "Ldev/triadic/policy/TextLines$Line;"), (0, .fieldref 11 23), (0, .nameAndType 24 21), (0, u "before"), (0, .fieldref 17 26), (0, .nameAndType 27 21), (0, u "first"), (0, .fieldref 11 29), (0, .nameAndType 30 21), (0, u "after"), (0, .fieldref 17 32), (0, .nameAndType 33 34), (0, u "length"), (0, u "I"), (0, .methodref 11 36), (0, .nameAndType 33 37), (0, u "()I"), (3, u "()[B"), (4, .fieldref 11 47), (0, .nameAndType 48 49), (0, u "bytes"), (0, u "[B"), (3, .fieldref 11 54), (0, .nameAndType 55 34), (0, u "from"), (16, u "add"), (0, u "([BIII)Ldev/triadic/policy/TextLines$Line;"), (3, .methodref 78 79), (0, .class_ 80), (0, .nameAndType 81 82), (0, u "java/lang/System"), (0, u "arraycopy"), (0, u "(Ljava/lang/Object;ILjava/lang/Object;II)V"), (37, u "remove"), (0, u "(Ldev/triadic/policy/TextLines$Line;)V")] 9

def k2c0 : Code := { maxStack := 1, maxLocals := 1, code := prog_75_method_1_code, exceptionTable := #[], attributes := #[] }
def k2m0 : Method := { name := "<init>", desc := "()V", sig := { parameters := [], returnType := none }, accessFlags := 0, code := some k2c0 }
def k2c1 : Code := { maxStack := 6, maxLocals := 6, code := prog_75_method_2_code, exceptionTable := #[], attributes := #[] }
def k2m1 : Method := { name := "add", desc := "([BIII)Ldev/triadic/policy/TextLines$Line;", sig := { parameters := [(.array .byte), .int, .int, .int], returnType := some (.object "dev/triadic/policy/TextLines$Line") }, accessFlags := 0, code := some k2c1 }
def k2c2 : Code := { maxStack := 3, maxLocals := 2, code := prog_75_method_5_code, exceptionTable := #[], attributes := #[] }
def k2m2 : Method := { name := "remove", desc := "(Ldev/triadic/policy/TextLines$Line;)V", sig := { parameters := [(.object "dev/triadic/policy/TextLines$Line")], returnType := none }, accessFlags := 0, code := some k2c2 }
def k2c3 : Code := { maxStack := 5, maxLocals := 4, code := prog_75_method_6_code, exceptionTable := #[], attributes := #[] }
def k2m3 : Method := { name := "bytes", desc := "()[B", sig := { parameters := [], returnType := some (.array .byte) }, accessFlags := 0, code := some k2c3 }
/-- dev/triadic/policy/TextLines -/
def k2 : Class := { plain "dev/triadic/policy/TextLines" (some 0) with
  accessFlags := 48
  interfaces := #[]
  cf := some (fileOf pool2 17 #[.nestMembers #[11]] #[{ accessFlags := 0, nameIndex := 9, descriptorIndex := 10, attributes := #[] }, { accessFlags := 0, nameIndex := 72, descriptorIndex := 73, attributes := #[] }, { accessFlags := 0, nameIndex := 120, descriptorIndex := 121, attributes := #[] }, { accessFlags := 0, nameIndex := 48, descriptorIndex := 41, attributes := #[] }] 48 6 #[] #[{ accessFlags := 2, nameIndex := 27, descriptorIndex := 21, attributes := #[] }, { accessFlags := 2, nameIndex := 20, descriptorIndex := 21, attributes := #[] }, { accessFlags := 2, nameIndex := 33, descriptorIndex := 34, attributes := #[] }])
  fields := #[{ name := "first", type := (.object "dev/triadic/policy/TextLines$Line"), accessFlags := 2, slot := 0, constantValue := 0 }, { name := "last", type := (.object "dev/triadic/policy/TextLines$Line"), accessFlags := 2, slot := 1, constantValue := 0 }, { name := "length", type := .int, accessFlags := 2, slot := 2, constantValue := 0 }]
  methods := #[k2m0, k2m1, k2m2, k2m3]
  instanceTypes := #[(.object "dev/triadic/policy/TextLines$Line"), (.object "dev/triadic/policy/TextLines$Line"), .int]
  staticTypes := #[]
  resolved := ((((((((Array.replicate 131 none).setIfInBounds 11 (some (.cls 3))).setIfInBounds 13 (some (.method ⟨3, 0⟩))).setIfInBounds 22 (some (.field 3 4))).setIfInBounds 28 (some (.field 3 5))).setIfInBounds 35 (some (.method ⟨3, 1⟩))).setIfInBounds 46 (some (.field 3 0))).setIfInBounds 53 (some (.field 3 1)))
  statics := none }

def pool3 : Array CpInfo := pool [(1, .methodref 2 3), (0, .class_ 4), (0, .nameAndType 5 6), (0, u "java/lang/Object"), (0, u "<init>"), (0, u "()V"), (0, .fieldref 8 9), (0, .class_ 10), (0, .nameAndType 11 12), (0, u "dev/triadic/policy/TextLines$Line"), (0, u "bytes"), (0, u "[B"), (0, .fieldref 8 14), (0, .nameAndType 15 16), (0, u "from"), (0, u "I"), (0, .fieldref 8 18), (0, .nameAndType 19 16), (0, u "wordsEnd"), (0, .fieldref 8 21), (0, .nameAndType 22 16), (0, u "to"), (0, u "before"), (0, u "Ldev/triadic/policy/TextLines$Line;"), (0, u "after"), (0, u "([BIII)V"), (2, u "length"), (0, u "()I"), (6, .class_ 38), (0, u "dev/triadic/policy/TextLines")] 2

def k3c0 : Code := { maxStack := 2, maxLocals := 5, code := prog_76_method_1_code, exceptionTable := #[], attributes := #[] }
def k3m0 : Method := { name := "<init>", desc := "([BIII)V", sig := { parameters := [(.array .byte), .int, .int, .int], returnType := none }, accessFlags := 2, code := some k3c0 }
def k3c1 : Code := { maxStack := 2, maxLocals := 1, code := prog_76_method_2_code, exceptionTable := #[], attributes := #[] }
def k3m1 : Method := { name := "length", desc := "()I", sig := { parameters := [], returnType := some .int }, accessFlags := 2, code := some k3c1 }
/-- dev/triadic/policy/TextLines$Line -/
def k3 : Class := { plain "dev/triadic/policy/TextLines$Line" (some 0) with
  accessFlags := 48
  interfaces := #[]
  cf := some (fileOf pool3 8 #[.nestHost 37] #[{ accessFlags := 2, nameIndex := 5, descriptorIndex := 26, attributes := #[] }, { accessFlags := 2, nameIndex := 29, descriptorIndex := 30, attributes := #[] }] 48 2 #[] #[{ accessFlags := 2, nameIndex := 11, descriptorIndex := 12, attributes := #[] }, { accessFlags := 2, nameIndex := 15, descriptorIndex := 16, attributes := #[] }, { accessFlags := 2, nameIndex := 19, descriptorIndex := 16, attributes := #[] }, { accessFlags := 2, nameIndex := 22, descriptorIndex := 16, attributes := #[] }, { accessFlags := 2, nameIndex := 23, descriptorIndex := 24, attributes := #[] }, { accessFlags := 2, nameIndex := 25, descriptorIndex := 24, attributes := #[] }])
  fields := #[{ name := "bytes", type := (.array .byte), accessFlags := 2, slot := 0, constantValue := 0 }, { name := "from", type := .int, accessFlags := 2, slot := 1, constantValue := 0 }, { name := "wordsEnd", type := .int, accessFlags := 2, slot := 2, constantValue := 0 }, { name := "to", type := .int, accessFlags := 2, slot := 3, constantValue := 0 }, { name := "before", type := (.object "dev/triadic/policy/TextLines$Line"), accessFlags := 2, slot := 4, constantValue := 0 }, { name := "after", type := (.object "dev/triadic/policy/TextLines$Line"), accessFlags := 2, slot := 5, constantValue := 0 }]
  methods := #[k3m0, k3m1]
  instanceTypes := #[(.array .byte), .int, .int, .int, (.object "dev/triadic/policy/TextLines$Line"), (.object "dev/triadic/policy/TextLines$Line")]
  staticTypes := #[]
  resolved := Array.replicate 41 none
  statics := none }

def pool4 : Array CpInfo := pool [(2, .class_ 4), (1, u "java/lang/Object"), (0, u "<init>"), (0, u "()V"), (1, .class_ 10), (1, u "java/lang/System"), (0, u "allowSecurityManager"), (0, u "I"), (16, u "cons"), (0, u "Ljava/io/Console;"), (77, .class_ 110), (1, u "java/lang/System$CallersHolder"), (43, u "initialErrStream"), (0, u "Ljava/io/PrintStream;"), (19, u "security"), (0, u "Ljava/lang/SecurityManager;"), (31, .class_ 209), (0, u "java/lang/System$1"), (7, u "props"), (0, u "Ljava/util/Properties;"), (2, u "lineSeparator"), (0, u "Ljava/lang/String;"), (96, .class_ 321), (1, u "java/lang/System$LoggerFinder"), (5, .class_ 328), (0, u "java/lang/System$Logger"), (67, u "err"), (2, u "out"), (91, u "notSupportedJnuEncoding"), (15, u "in"), (17, u "initialIn"), (0, u "Ljava/io/InputStream;"), (35, u "bootLayer"), (0, u "Ljava/lang/ModuleLayer;"), (99, .class_ 664), (0, u "java/lang/System$2"), (9, u "NEVER"), (2, u "MAYBE"), (49, u "arraycopy"), (0, u "(Ljava/lang/Object;ILjava/lang/Object;II)V"), (72, .class_ 802), (0, u "java/lang/System$Logger$Level")] 31

def k4m0 : Method := { name := "<init>", desc := "()V", sig := { parameters := [], returnType := none }, accessFlags := 2, code := none }
def k4m1 : Method := { name := "arraycopy", desc := "(Ljava/lang/Object;ILjava/lang/Object;II)V", sig := { parameters := [(.object "java/lang/Object"), .int, (.object "java/lang/Object"), .int, .int], returnType := none }, accessFlags := 265, code := none }
/-- java/lang/System -/
def k4 : Class := { plain "java/lang/System" (some 0) with
  accessFlags := 49
  interfaces := #[]
  cf := some (fileOf pool4 8 #[.nestMembers #[319, 327, 801, 108, 663, 208]] #[{ accessFlags := 2, nameIndex := 5, descriptorIndex := 6, attributes := #[] }, { accessFlags := 265, nameIndex := 727, descriptorIndex := 728, attributes := #[] }] 49 2 #[] #[{ accessFlags := 25, nameIndex := 507, descriptorIndex := 526, attributes := #[] }, { accessFlags := 25, nameIndex := 399, descriptorIndex := 155, attributes := #[] }, { accessFlags := 25, nameIndex := 396, descriptorIndex := 155, attributes := #[] }, { accessFlags := 10, nameIndex := 525, descriptorIndex := 526, attributes := #[] }, { accessFlags := 26, nameIndex := 674, descriptorIndex := 12, attributes := #[] }, { accessFlags := 26, nameIndex := 677, descriptorIndex := 12, attributes := #[] }, { accessFlags := 10, nameIndex := 11, descriptorIndex := 12, attributes := #[] }, { accessFlags := 74, nameIndex := 175, descriptorIndex := 176, attributes := #[] }, { accessFlags := 10, nameIndex := 491, descriptorIndex := 222, attributes := #[] }, { accessFlags := 74, nameIndex := 29, descriptorIndex := 30, attributes := #[] }, { accessFlags := 74, nameIndex := 154, descriptorIndex := 155, attributes := #[] }, { accessFlags := 10, nameIndex := 217, descriptorIndex := 218, attributes := #[] }, { accessFlags := 10, nameIndex := 221, descriptorIndex := 222, attributes := #[] }, { accessFlags := 8, nameIndex := 562, descriptorIndex := 563, attributes := #[] }])
  fields := #[{ name := "in", type := (.object "java/io/InputStream"), accessFlags := 25, slot := 0, constantValue := 0 }, { name := "out", type := (.object "java/io/PrintStream"), accessFlags := 25, slot := 1, constantValue := 0 }, { name := "err", type := (.object "java/io/PrintStream"), accessFlags := 25, slot := 2, constantValue := 0 }, { name := "initialIn", type := (.object "java/io/InputStream"), accessFlags := 10, slot := 3, constantValue := 0 }, { name := "NEVER", type := .int, accessFlags := 26, slot := 4, constantValue := 0 }, { name := "MAYBE", type := .int, accessFlags := 26, slot := 5, constantValue := 0 }, { name := "allowSecurityManager", type := .int, accessFlags := 10, slot := 6, constantValue := 0 }, { name := "security", type := (.object "java/lang/SecurityManager"), accessFlags := 74, slot := 7, constantValue := 0 }, { name := "notSupportedJnuEncoding", type := (.object "java/lang/String"), accessFlags := 10, slot := 8, constantValue := 0 }, { name := "cons", type := (.object "java/io/Console"), accessFlags := 74, slot := 9, constantValue := 0 }, { name := "initialErrStream", type := (.object "java/io/PrintStream"), accessFlags := 74, slot := 10, constantValue := 0 }, { name := "props", type := (.object "java/util/Properties"), accessFlags := 10, slot := 11, constantValue := 0 }, { name := "lineSeparator", type := (.object "java/lang/String"), accessFlags := 10, slot := 12, constantValue := 0 }, { name := "bootLayer", type := (.object "java/lang/ModuleLayer"), accessFlags := 8, slot := 13, constantValue := 0 }]
  methods := #[k4m0, k4m1]
  instanceTypes := #[]
  staticTypes := #[(.object "java/io/InputStream"), (.object "java/io/PrintStream"), (.object "java/io/PrintStream"), (.object "java/io/InputStream"), .int, .int, .int, (.object "java/lang/SecurityManager"), (.object "java/lang/String"), (.object "java/io/Console"), (.object "java/io/PrintStream"), (.object "java/util/Properties"), (.object "java/lang/String"), (.object "java/lang/ModuleLayer")]
  resolved := Array.replicate 834 none
  statics := none }

def pool5 : Array CpInfo := pool [(1, u "java/lang/Cloneable"), (0, .class_ 1), (0, u "java/lang/Object"), (0, .class_ 3)] 3

/-- java/lang/Cloneable -/
def k5 : Class := { plain "java/lang/Cloneable" (some 0) with
  accessFlags := 1537
  interfaces := #[]
  cf := some (fileOf pool5 2 #[] #[] 1537 4 #[] #[])
  fields := #[]
  methods := #[]
  instanceTypes := #[]
  staticTypes := #[]
  resolved := Array.replicate 8 none
  statics := none }

def pool6 : Array CpInfo := pool [(1, u "java/io/Serializable"), (0, .class_ 1), (0, u "java/lang/Object"), (0, .class_ 3)] 3

/-- java/io/Serializable -/
def k6 : Class := { plain "java/io/Serializable" (some 0) with
  accessFlags := 1537
  interfaces := #[]
  cf := some (fileOf pool6 2 #[] #[] 1537 4 #[] #[])
  fields := #[]
  methods := #[]
  instanceTypes := #[]
  staticTypes := #[]
  resolved := Array.replicate 8 none
  statics := none }

/-- the primitive byte -/
def k7 : Class := { plain "byte" none with kind := .primitive 'B', accessFlags := 0x411 }
/-- [B -/
def k8 : Class := { plain "[B" (some 0) with kind := .array 7 .byte, interfaces := #[5, 6], accessFlags := 1041 }

/-- the primitive int -/
def k9 : Class := { plain "int" none with kind := .primitive 'I', accessFlags := 0x411 }
/-- [I -/
def k10 : Class := { plain "[I" (some 0) with kind := .array 9 .int, interfaces := #[5, 6], accessFlags := 1041 }

def heap : Heap := #[]
def classes : Array Class := #[k0, k1, k2, k3, k4, k5, k6, k7, k8, k9, k10]
def interned : List (Array UInt16 × Addr) := []
def slotsUsed : Nat := 0
def theMethod : MethodId := ⟨1, 1⟩
def args0 : Array Value := #[.long 5, .long 7, .long 6, .int 3, .int 70]
def aboutOver (below : List Frame) : State where
  vm := { classes := classes, interned := interned.toArray }
  heap := heap
  slotsUsed := slotsUsed
  threads := #[{ frames := .invoking theMethod args0 :: below }]
def below0 : List Frame := [.native { method := ⟨0, 0⟩, args := #[] }]
def about1 : State := aboutOver below0
def p0 : Program := .bare "" "" ""
def e0 : Env := launch0.env 0 0 0
theorem w_frames : about1.frames = Frame.invoking theMethod args0 :: below0 := rfl
set_option maxRecDepth 65536 in
theorem w_args : argsFit about1.vm theMethod args0 = true := by decide +kernel
set_option maxRecDepth 65536 in
theorem w_heap : heapFits about1 = true := by decide +kernel
set_option maxRecDepth 65536 in
theorem w_runnable : about1.curStatus? = some .runnable := by decide +kernel
set_option maxRecDepth 65536 in
theorem w_alone : about1.alone = true := by decide +kernel
set_option maxRecDepth 65536 in
theorem w_named : about1.methodNamed? x = some theMethod := by decide +kernel
set_option maxRecDepth 65536 in
theorem w_hears : about1.hears theMethod below0 = true := by decide +kernel
set_option maxRecDepth 65536 in
theorem w_ripe : about1.ripe theMethod args0 below0 = true := by decide +kernel
theorem w_running : about1.status = .running := rfl
set_option maxRecDepth 65536 in
theorem w_room : about1.hasRoom e0.platform room_1 = true :=
  launch0.hasRoom_least _ room_1 (by decide +kernel) (by decide +kernel) (by decide +kernel) (by decide +kernel) (by decide +kernel) (by decide +kernel)
theorem allAtoms_all (ts : List Jvm.Cond) (a : Array Jvm.Value) (st : Jvm.State) : (allAtoms ts).before a st = ts.all (fun c => c.before a st) := by
  induction ts with
  | nil => rfl
  | cons c t ih =>
    show (Jvm.Cond.and c (allAtoms t)).before a st = _
    rw [Jvm.Cond.before_and, ih, List.all_cons]
def words1 : List Jvm.Cond := Jvm.Cond.code x code maxLocals ret :: tables_1
/-- a 'code' word, met by the world's own term for the bytes: nothing is compared byte by byte -/
theorem code_word {y : MethodName} {bytes : ByteArray} {mx : Nat} {rt : Option FieldType} {a : Array Value} {s : State} {m : MethodId} {meth : Method} {c : Code} (h1 : s.methodNamed? y = some m) (h2 : s.vm.method? m = some meth) (h3 : meth.code = some c) (h4 : c.code = bytes)
    (h5 : (c.maxLocals == mx && c.exceptionTable.isEmpty && decide (c.maxStack ≤ mostOperands) && decide (meth.sig.returnType = rt) && !meth.locks && decide (parseMethodDescriptor y.desc = some meth.sig)) = true) : (Jvm.Cond.code y bytes mx rt).before a s = true := by
  simp only [Bool.and_eq_true, beq_iff_eq, Bool.not_eq_true', decide_eq_true_eq] at h5
  obtain ⟨⟨⟨⟨⟨g1, g2⟩, g3⟩, g4⟩, g5⟩, g6⟩ := h5
  simp [Cond.before, Cond.holds, Cond.value, h1, h2, h3, h4, g1, g2, g3, g4, g5, g6]
def isCode : Jvm.Cond → Bool
  | .code _ _ _ _ => true
  | _ => false
theorem all_split {L : List Jvm.Cond} {P : Jvm.Cond → Bool} (h1 : L.all (fun c => isCode c || P c) = true) (h2 : ∀ c ∈ L.filter isCode, P c = true) : L.all P = true := by
  refine List.all_eq_true.mpr fun c hc => ?_
  have h := List.all_eq_true.mp h1 c hc
  rcases Bool.eq_false_or_eq_true (isCode c) with hi | hi
  · exact h2 c (List.mem_filter.mpr ⟨hc, hi⟩)
  · simpa [hi] using h
set_option maxRecDepth 65536 in
theorem w_c0 : (Jvm.Cond.code x code maxLocals ret).before args0 about1 = true := code_word (m := ⟨1, 1⟩) (meth := k1m1) (c := k1c1) (by decide +kernel) rfl rfl rfl (by decide +kernel)
set_option maxRecDepth 65536 in
theorem w_c1 : (Jvm.Cond.code ({ cls := "dev/triadic/policy/TextLinesBytesPinLaw", name := "drawn", desc := "(J)[B" } : Jvm.MethodName) method_3_code (3 : Nat) (Option.some (Jvm.ClassFile.FieldType.array Jvm.ClassFile.FieldType.byte))).before args0 about1 = true := code_word (m := ⟨1, 2⟩) (meth := k1m2) (c := k1c2) (by decide +kernel) rfl rfl rfl (by decide +kernel)
set_option maxRecDepth 65536 in
theorem w_c2 : (Jvm.Cond.code ({ cls := "dev/triadic/policy/TextLines", name := "<init>", desc := "()V" } : Jvm.MethodName) prog_75_method_1_code (1 : Nat) (Option.none : Option Jvm.ClassFile.FieldType)).before args0 about1 = true := code_word (m := ⟨2, 0⟩) (meth := k2m0) (c := k2c0) (by decide +kernel) rfl rfl rfl (by decide +kernel)
set_option maxRecDepth 65536 in
theorem w_c3 : (Jvm.Cond.code ({ cls := "java/lang/Object", name := "<init>", desc := "()V" } : Jvm.MethodName) object_method_1_code (1 : Nat) (Option.none : Option Jvm.ClassFile.FieldType)).before args0 about1 = true := code_word (m := ⟨0, 0⟩) (meth := k0m0) (c := k0c0) (by decide +kernel) rfl rfl rfl (by decide +kernel)
set_option maxRecDepth 65536 in
theorem w_c4 : (Jvm.Cond.code ({ cls := "dev/triadic/policy/TextLines", name := "add", desc := "([BIII)Ldev/triadic/policy/TextLines$Line;" } : Jvm.MethodName) prog_75_method_2_code (6 : Nat) (Option.some (Jvm.ClassFile.FieldType.object "dev/triadic/policy/TextLines$Line"))).before args0 about1 = true := code_word (m := ⟨2, 1⟩) (meth := k2m1) (c := k2c1) (by decide +kernel) rfl rfl rfl (by decide +kernel)
set_option maxRecDepth 65536 in
theorem w_c5 : (Jvm.Cond.code ({ cls := "dev/triadic/policy/TextLines$Line", name := "<init>", desc := "([BIII)V" } : Jvm.MethodName) prog_76_method_1_code (5 : Nat) (Option.none : Option Jvm.ClassFile.FieldType)).before args0 about1 = true := code_word (m := ⟨3, 0⟩) (meth := k3m0) (c := k3c0) (by decide +kernel) rfl rfl rfl (by decide +kernel)
set_option maxRecDepth 65536 in
theorem w_c6 : (Jvm.Cond.code ({ cls := "dev/triadic/policy/TextLines$Line", name := "length", desc := "()I" } : Jvm.MethodName) prog_76_method_2_code (1 : Nat) (Option.some Jvm.ClassFile.FieldType.int)).before args0 about1 = true := code_word (m := ⟨3, 1⟩) (meth := k3m1) (c := k3c1) (by decide +kernel) rfl rfl rfl (by decide +kernel)
set_option maxRecDepth 65536 in
theorem w_c7 : (Jvm.Cond.code ({ cls := "dev/triadic/policy/TextLines", name := "bytes", desc := "()[B" } : Jvm.MethodName) prog_75_method_6_code (4 : Nat) (Option.some (Jvm.ClassFile.FieldType.array Jvm.ClassFile.FieldType.byte))).before args0 about1 = true := code_word (m := ⟨2, 3⟩) (meth := k2m3) (c := k2c3) (by decide +kernel) rfl rfl rfl (by decide +kernel)
set_option maxRecDepth 65536 in
theorem w_c8 : (Jvm.Cond.code ({ cls := "dev/triadic/policy/TextLinesBytesPinLaw", name := "at", desc := "([BI[BII[BII[BII)Z" } : Jvm.MethodName) method_4_code (12 : Nat) (Option.some Jvm.ClassFile.FieldType.boolean)).before args0 about1 = true := code_word (m := ⟨1, 3⟩) (meth := k1m3) (c := k1c3) (by decide +kernel) rfl rfl rfl (by decide +kernel)
set_option maxRecDepth 65536 in
theorem w_c9 : (Jvm.Cond.code ({ cls := "dev/triadic/policy/TextLines", name := "remove", desc := "(Ldev/triadic/policy/TextLines$Line;)V" } : Jvm.MethodName) prog_75_method_5_code (2 : Nat) (Option.none : Option Jvm.ClassFile.FieldType)).before args0 about1 = true := code_word (m := ⟨2, 2⟩) (meth := k2m2) (c := k2c2) (by decide +kernel) rfl rfl rfl (by decide +kernel)
def codes1 : List Jvm.Cond := [Jvm.Cond.code x code maxLocals ret, Jvm.Cond.code ({ cls := "dev/triadic/policy/TextLinesBytesPinLaw", name := "drawn", desc := "(J)[B" } : Jvm.MethodName) method_3_code (3 : Nat) (Option.some (Jvm.ClassFile.FieldType.array Jvm.ClassFile.FieldType.byte)), Jvm.Cond.code ({ cls := "dev/triadic/policy/TextLines", name := "<init>", desc := "()V" } : Jvm.MethodName) prog_75_method_1_code (1 : Nat) (Option.none : Option Jvm.ClassFile.FieldType), Jvm.Cond.code ({ cls := "java/lang/Object", name := "<init>", desc := "()V" } : Jvm.MethodName) object_method_1_code (1 : Nat) (Option.none : Option Jvm.ClassFile.FieldType), Jvm.Cond.code ({ cls := "dev/triadic/policy/TextLines", name := "add", desc := "([BIII)Ldev/triadic/policy/TextLines$Line;" } : Jvm.MethodName) prog_75_method_2_code (6 : Nat) (Option.some (Jvm.ClassFile.FieldType.object "dev/triadic/policy/TextLines$Line")), Jvm.Cond.code ({ cls := "dev/triadic/policy/TextLines$Line", name := "<init>", desc := "([BIII)V" } : Jvm.MethodName) prog_76_method_1_code (5 : Nat) (Option.none : Option Jvm.ClassFile.FieldType), Jvm.Cond.code ({ cls := "dev/triadic/policy/TextLines$Line", name := "length", desc := "()I" } : Jvm.MethodName) prog_76_method_2_code (1 : Nat) (Option.some Jvm.ClassFile.FieldType.int), Jvm.Cond.code ({ cls := "dev/triadic/policy/TextLines", name := "bytes", desc := "()[B" } : Jvm.MethodName) prog_75_method_6_code (4 : Nat) (Option.some (Jvm.ClassFile.FieldType.array Jvm.ClassFile.FieldType.byte)), Jvm.Cond.code ({ cls := "dev/triadic/policy/TextLinesBytesPinLaw", name := "at", desc := "([BI[BII[BII[BII)Z" } : Jvm.MethodName) method_4_code (12 : Nat) (Option.some Jvm.ClassFile.FieldType.boolean), Jvm.Cond.code ({ cls := "dev/triadic/policy/TextLines", name := "remove", desc := "(Ldev/triadic/policy/TextLines$Line;)V" } : Jvm.MethodName) prog_75_method_5_code (2 : Nat) (Option.none : Option Jvm.ClassFile.FieldType)]
set_option maxRecDepth 65536 in
theorem codes_eq : words1.filter isCode = codes1 := rfl
theorem w_codes : ∀ c ∈ words1.filter isCode, c.before args0 about1 = true := by
  rw [codes_eq]
  intro c hc
  simp only [codes1, List.mem_cons, List.not_mem_nil, or_false] at hc
  rcases hc with rfl | rfl | rfl | rfl | rfl | rfl | rfl | rfl | rfl | rfl
  · exact w_c0
  · exact w_c1
  · exact w_c2
  · exact w_c3
  · exact w_c4
  · exact w_c5
  · exact w_c6
  · exact w_c7
  · exact w_c8
  · exact w_c9
set_option maxRecDepth 65536 in
theorem w_t1 : (words1.take 24).all (fun c => isCode c || c.before args0 about1) = true := by decide +kernel
set_option maxRecDepth 65536 in
theorem w_t2 : ((words1.drop 24).take 24).all (fun c => isCode c || c.before args0 about1) = true := by decide +kernel
set_option maxRecDepth 65536 in
theorem w_t3 : ((words1.drop 24).drop 24).all (fun c => isCode c || c.before args0 about1) = true := by decide +kernel
theorem w_tables : (allAtoms (Jvm.Cond.code x code maxLocals ret :: tables_1)).before args0 about1 = true := by
  rw [allAtoms_all]
  show words1.all (fun c => c.before args0 about1) = true
  refine all_split ?_ w_codes
  rw [← List.take_append_drop 24 words1, List.all_append, w_t1, ← List.take_append_drop 24 (words1.drop 24), List.all_append, w_t2, w_t3]
  rfl
set_option maxRecDepth 65536 in
theorem w_case : (Jvm.Cond.and given_1 narrow_1).before args0 about1 = true := by decide +kernel
theorem w_applies : (headSpec (Jvm.Cond.code x code maxLocals ret :: tables_1) room_1).applies x e0.platform about1 = true :=
  (Spec.applies_iff w_frames).mpr ⟨w_running, w_runnable, w_alone, w_named, w_hears, w_ripe, w_room, w_tables⟩
theorem atStart : AtStart classFile x code maxLocals ret World_1 tables_1 room_1 Calls_1 rest_1 Pre_1 launch0 p0 e0 about1 theMethod args0 below0 :=
  ⟨lists_1, trivial, launch0.admits_env _ _ _, launch0.least_env, fairChoices_fair.cas, fairChoices_fair.clock, w_frames, w_args, w_heap, w_applies, trivial, trivial, w_case⟩
end start1
theorem witness_1 : WitnessClaimed_1 := ⟨start1.p0, start1.e0, start1.about1, start1.theMethod, start1.args0, start1.below0, start1.atStart⟩
end Jvm.Pilot.@@N@@
