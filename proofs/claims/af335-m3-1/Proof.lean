import JvmDerived
import JvmDerived.Pilot.@@N@@Statement
import JvmDerived.Pilot.@@N@@Code
set_option linter.unusedVariables false
set_option linter.unusedSimpArgs false
namespace Jvm.Pilot.@@N@@
open Jvm Jvm.ClassFile Sem Op Lib Jvm.Free Jvm.Stand Jvm.LawKit Jvm.RoadKit Bundle Jvm.Pilot.@@N@@.Jvm.D
/-- from S0 the run comes to T with the frame g -/
abbrev Rch (p : Program) (e : Env) (below : List Frame) (S0 T : State) (g : JFrame) : Prop := ∀ t, Steps p.tables e below (T.setTop g) t → Steps p.tables e below S0 t
abbrev Con (l : Launch) (Z : State) (y : MethodName) (bytes : ByteArray) (maxL : Nat) (ret : Option FieldType) (ws : List Jvm.Cond) (rm : Room) (as' : Array Value) (h : Heap) (Q : Option Value → Heap → List Loc → Prop) : Prop :=
  MetFree l y (head1 (Jvm.Cond.code y bytes maxL ret :: ws) rm) (fun a U => a = as' ∧ Z.Warmed39 U.vm ∧ U.heap = h) (fun _ _ _ _ _ => True) (fun _ U o U' => ∃ v L, o = .returned v ∧ Q v U'.heap L ∧ FrameEnd U o U' L rm.cells rm.slots)
section OwnKit
variable {p : Program} {l : Launch} {e : Env} {R : Room} {s : State} {m : MethodId} {args : Array Value} {below : List Frame} {meth : Method} {c : Code} {T : State} {locs : List Loc} {cells slots : Nat} {Z : State} {a0 : Array Value} {h : Heap}
theorem own_callS (X : Stand p l e R s m args below meth c T locs cells slots) (hx : p.tables.exec = Jvm.exec) (hZ : Z.Warmed39 s.vm) {own : String} {index : Nat} {y : MethodName} {bytes : ByteArray} {maxL : Nat} {ret : Option FieldType} {rm : Room} {as' : Array Value} {Q : Option Value → Heap → List Loc → Prop}
    (hown : s.vm.findClass own = some m.cls) (w1 : (Cond.methodLink own index y).before a0 Z = true) (w2 : (Cond.static y).before a0 Z = true) (w3 : (Cond.initialized y.cls).before a0 Z = true) (w4 : (Cond.code y bytes maxL ret).before a0 Z = true)
    (hy : y.cls ≠ "java/lang/invoke/MethodHandle" ∧ y.cls ≠ "java/lang/invoke/VarHandle") (hM : Con l Z y bytes maxL ret [] rm as' h Q) (eT : T.heap = h)
    {g : JFrame} (hg : g.method = m) (hsize : g.locals.size = c.maxLocals) {argsL rest : List Value} (has : as' = argsL.toArray) (hlen : ∀ sig, parseMethodDescriptor y.desc = some sig → argsL.length = sig.parameters.length) (hs : g.stack = argsL.reverse ++ rest) {W : Nat} (hW : 2 * g.monitorRoom + (rest.map fun v => v.category).sum ≤ W)
    (hd : decode c.code g.pc = .ok (.invokestatic index, 3)) (hf : rm.frames + 1 ≤ R.frames) (hl : W + (maxL + 11) + rm.locals ≤ R.locals) (hc : cells + rm.cells ≤ R.cells) (hsl : slots + rm.slots ≤ R.slots) :
    ∃ (v : Option Value) (T' : State) (h' : Heap) (Lc : List Loc), Stand p l e R s m args below meth c T' (locs ++ Lc) (cells + rm.cells) (slots + rm.slots) ∧ T'.heap = h' ∧ Q v h' Lc ∧
      ∀ target, Steps p.tables e below (T'.setTop { g with pc := g.pc + 3, stack := v.toList ++ rest }) target → Steps p.tables e below (T.setTop g) target := by
  obtain ⟨v, _, ⟨T', L', k', n'⟩, -, X', ⟨Lc, hQ, hl', hk', hn'⟩, st⟩ := Jvm.LawKit.callS X hx (y := y) hown (mvT hZ w1) (mvT hZ w2) (mvT hZ w3) (mvT hZ w4) hy (backOf (W := W) hM hZ w4 w3 hf hl) hg hsize hlen hs hW hd (fun _ _ => ⟨has.symm, eT, hc, hsl⟩)
  dsimp only [Pt.U, Pt.locs, Pt.cells, Pt.slots] at X' hl' hk' hn' st hQ
  subst hl' hk' hn'
  exact ⟨v, T', _, Lc, X', rfl, hQ, st⟩
theorem own_callV (X : Stand p l e R s m args below meth c T locs cells slots) (hx : p.tables.exec = Jvm.exec) (hZ : Z.Warmed39 s.vm) {own C : String} {index : Nat} {y z : MethodName} {bytes : ByteArray} {maxL : Nat} {ret : Option FieldType} {rm : Room} {as' : Array Value} {Q : Option Value → Heap → List Loc → Prop}
    (hown : s.vm.findClass own = some m.cls) (w1 : (Cond.methodLink own index y).before a0 Z = true) (w2 : (Cond.declares y).before a0 Z = true) (nf : NotFace s y) (w3 : (Cond.selects C y z).before a0 Z = true) (w4 : (Cond.instanceMethod z).before a0 Z = true) (w5 : (Cond.code z bytes maxL ret).before a0 Z = true) (w6 : (Cond.initialized z.cls).before a0 Z = true)
    (hy : y.cls ≠ "java/lang/invoke/MethodHandle" ∧ y.cls ≠ "java/lang/invoke/VarHandle") (hM : Con l Z z bytes maxL ret [] rm as' h Q) (eT : T.heap = h) {a : Addr} (E : Exa Z h a C)
    {g : JFrame} (hg : g.method = m) (hsize : g.locals.size = c.maxLocals) {argsL rest : List Value} (has : as' = (Value.ref a :: argsL).toArray) (hlen : ∀ sig, parseMethodDescriptor y.desc = some sig → argsL.length = sig.parameters.length) (hs : g.stack = argsL.reverse ++ .ref a :: rest) {W : Nat} (hW : 2 * g.monitorRoom + (rest.map fun v => v.category).sum ≤ W)
    (hd : decode c.code g.pc = .ok (.invokevirtual index, 3)) (hf : rm.frames + 1 ≤ R.frames) (hl : W + (maxL + 11) + rm.locals ≤ R.locals) (hc : cells + rm.cells ≤ R.cells) (hsl : slots + rm.slots ≤ R.slots) :
    ∃ (v : Option Value) (T' : State) (h' : Heap) (Lc : List Loc), Stand p l e R s m args below meth c T' (locs ++ Lc) (cells + rm.cells) (slots + rm.slots) ∧ T'.heap = h' ∧ Q v h' Lc ∧
      ∀ target, Steps p.tables e below (T'.setTop { g with pc := g.pc + 3, stack := v.toList ++ rest }) target → Steps p.tables e below (T.setTop g) target := by
  obtain ⟨cq, kq, qa, qb, qc⟩ := isOf hZ eT E
  obtain ⟨v, _, ⟨T', L', k', n'⟩, -, X', ⟨Lc, hQ, hl', hk', hn'⟩, st⟩ := X.virtualBack hx (y := y) (z := z) hown (mvT hZ w1) (mvT hZ w2) nf (mvT hZ w3) (mvT hZ w4) hy (backOf (W := W) hM hZ w5 w6 hf hl) qa qc hg hsize (Steps.refl _) hlen hs hW hd (fun _ _ => ⟨has.symm, eT, hc, hsl⟩)
  dsimp only [Pt.U, Pt.locs, Pt.cells, Pt.slots] at X' hl' hk' hn' st hQ
  subst hl' hk' hn'
  exact ⟨v, T', _, Lc, X', rfl, hQ, fun t k => st.trans k⟩
theorem own_callC (X : Stand p l e R s m args below meth c T locs cells slots) (hx : p.tables.exec = Jvm.exec) (hZ : Z.Warmed39 s.vm) {own : String} {index : Nat} {y : MethodName} {bytes : ByteArray} {maxL : Nat} {rm : Room} {as' : Array Value} {Q : Option Value → Heap → List Loc → Prop} (hy1 : y.name = "<init>")
    (hown : s.vm.findClass own = some m.cls) (w1 : (Cond.methodLink own index y).before a0 Z = true) (w2 : (Cond.instanceMethod y).before a0 Z = true) (w3 : (Cond.initialized y.cls).before a0 Z = true) (w4 : (Cond.code y bytes maxL none).before a0 Z = true)
    (hy : y.cls ≠ "java/lang/invoke/MethodHandle" ∧ y.cls ≠ "java/lang/invoke/VarHandle") (hM : Con l Z y bytes maxL none [] rm as' h Q) (eT : T.heap = h) {a : Addr}
    {g : JFrame} (hg : g.method = m) (hsize : g.locals.size = c.maxLocals) {argsL rest : List Value} (has : as' = (Value.ref a :: argsL).toArray) (hlen : ∀ sig, parseMethodDescriptor y.desc = some sig → argsL.length = sig.parameters.length) (hs : g.stack = argsL.reverse ++ .ref a :: rest) {W : Nat} (hW : 2 * g.monitorRoom + (rest.map fun v => v.category).sum ≤ W)
    (hd : decode c.code g.pc = .ok (.invokespecial index, 3)) (hf : rm.frames + 1 ≤ R.frames) (hl : W + (maxL + 11) + rm.locals ≤ R.locals) (hc : cells + rm.cells ≤ R.cells) (hsl : slots + rm.slots ≤ R.slots) :
    ∃ (v : Option Value) (T' : State) (h' : Heap) (Lc : List Loc), Stand p l e R s m args below meth c T' (locs ++ Lc) (cells + rm.cells) (slots + rm.slots) ∧ T'.heap = h' ∧ Q v h' Lc ∧
      ∀ target, Steps p.tables e below (T'.setTop { g with pc := g.pc + 3, stack := v.toList ++ rest }) target → Steps p.tables e below (T.setTop g) target := by
  obtain ⟨v, _, ⟨T', L', k', n'⟩, -, X', ⟨Lc, hQ, hl', hk', hn'⟩, st⟩ := X.specialBack hx (y := y) hy1 hown (mvT hZ w1) (mvT hZ w2) (mvT hZ w4) hy (backOf (W := W) hM hZ w4 w3 hf hl) hg hsize (Steps.refl _) (a := a) hlen hs hW hd (fun _ _ => ⟨has.symm, eT, hc, hsl⟩)
  dsimp only [Pt.U, Pt.locs, Pt.cells, Pt.slots] at X' hl' hk' hn' st hQ
  subst hl' hk' hn'
  exact ⟨v, T', _, Lc, X', rfl, hQ, fun t k => st.trans k⟩
theorem own_callU (X : Stand p l e R s m args below meth c T locs cells slots) (hx : p.tables.exec = Jvm.exec) (hZ : Z.Warmed39 s.vm) {own C owner : String} {index : Nat} {x y : MethodName} {bytes : ByteArray} {maxL : Nat} {ret : Option FieldType} {rm : Room} {as' : Array Value} {Q : Option Value → Heap → List Loc → Prop}
    (hown : s.vm.findClass own = some m.cls) (w1 : (Cond.methodLink own index x).before a0 Z = true) (w2 : (Cond.sameMethod x.cls owner x.name x.desc).before a0 Z = true) (w2' : (Cond.declares ⟨owner, x.name, x.desc⟩).before a0 Z = true) (hy : owner ≠ "java/lang/invoke/MethodHandle" ∧ owner ≠ "java/lang/invoke/VarHandle") (w3 : (Cond.selects C x y).before a0 Z = true) (w4 : (Cond.instanceMethod y).before a0 Z = true) (w5 : (Cond.code y bytes maxL ret).before a0 Z = true) (w6 : (Cond.initialized y.cls).before a0 Z = true)
    (hM : Con l Z y bytes maxL ret [] rm as' h Q) (eT : T.heap = h) {a : Addr} (E : Exa Z h a C)
    {g : JFrame} (hg : g.method = m) (hsize : g.locals.size = c.maxLocals) {argsL rest : List Value} (has : as' = (Value.ref a :: argsL).toArray) (hlen : ∀ sig, parseMethodDescriptor x.desc = some sig → argsL.length = sig.parameters.length) (hs : g.stack = argsL.reverse ++ .ref a :: rest) {W : Nat} (hW : 2 * g.monitorRoom + (rest.map fun v => v.category).sum ≤ W)
    (hd : decode c.code g.pc = .ok (.invokevirtual index, 3)) (hf : rm.frames + 1 ≤ R.frames) (hl : W + (maxL + 11) + rm.locals ≤ R.locals) (hc : cells + rm.cells ≤ R.cells) (hsl : slots + rm.slots ≤ R.slots) :
    ∃ (v : Option Value) (T' : State) (h' : Heap) (Lc : List Loc), Stand p l e R s m args below meth c T' (locs ++ Lc) (cells + rm.cells) (slots + rm.slots) ∧ T'.heap = h' ∧ Q v h' Lc ∧
      ∀ target, Steps p.tables e below (T'.setTop { g with pc := g.pc + 3, stack := v.toList ++ rest }) target → Steps p.tables e below (T.setTop g) target := by
  obtain ⟨cq, kq, qa, qb, qc⟩ := isOf hZ eT E
  obtain ⟨v, _, ⟨T', L', k', n'⟩, -, X', ⟨Lc, hQ, hl', hk', hn'⟩, st⟩ := X.virtualBackUp hx (x := x) (y := y) hown (mvT hZ w1) (mvT hZ w2) (mvT hZ w2') hy (mvT hZ w3) (mvT hZ w4) (backOf (W := W) hM hZ w5 w6 hf hl) qa qc hg hsize (Steps.refl _) hlen hs hW hd (fun _ _ => ⟨has.symm, eT, hc, hsl⟩)
  dsimp only [Pt.U, Pt.locs, Pt.cells, Pt.slots] at X' hl' hk' hn' st hQ
  subst hl' hk' hn'
  exact ⟨v, T', _, Lc, X', rfl, hQ, fun t k => st.trans k⟩
theorem own_ne {a b : Nat} (h : a < b ∨ b < a) : a ≠ b := by omega
theorem own_ltN {a b : Nat} (h : a < b) : a < b := h
theorem own_neN {a b : Nat} (h : a ≠ b) : a ≠ b := h
theorem own_fldL {args : Array Value} {t : Term} {a : Addr} {C n d : String} {k : Int64} (ev : t.eval args Z none [] Z = some (.ref a)) (q : (Cond.eq (.field t C n d) (.long k)).value args Z none Z [] = some true) : Fld Z Z.heap a C n d (.long k) := by
  apply Fld.start
  cases hv : Z.fieldOf? a C n d with
  | none => simp [Cond.value, fld_at ev, hv] at q
  | some v => cases v <;> simp only [Cond.value, fld_at ev, hv, long_at] at q <;> simp at q <;> subst q <;> rfl
theorem own_fldI {args : Array Value} {t : Term} {a : Addr} {C n d : String} {k : Int32} (ev : t.eval args Z none [] Z = some (.ref a)) (q : (Cond.eq (.field t C n d) (.int k)).value args Z none Z [] = some true) : Fld Z Z.heap a C n d (.int k) := by
  apply Fld.start
  cases hv : Z.fieldOf? a C n d with
  | none => simp [Cond.value, fld_at ev, hv] at q
  | some v => cases v <;> simp only [Cond.value, fld_at ev, hv, Term.int_eval] at q <;> simp at q <;> subst q <;> rfl
variable {vm0 : Vm}
abbrev ConW (l : Launch) (Z : State) (y : MethodName) (bytes : ByteArray) (maxL : Nat) (ret : Option FieldType) (ws : List Jvm.Cond) (rm : Room) (as' : Array Value) (h : Heap) (Q : Option Value → Heap → List Loc → Prop) : Prop :=
  MetFree l y (head1 (Jvm.Cond.code y bytes maxL ret :: ws) rm) (fun a U => a = as' ∧ Z.Warmed39 U.vm ∧ U.heap = h) (fun _ _ _ _ _ => True) (fun _ U o U' => ∃ v L, o = .returned v ∧ Q v U'.heap L ∧ ReturnedEndW U o U' L rm.cells rm.slots)
theorem own_callSW (X : Stand p l e R (s.setVm vm0) m args below meth c T locs cells slots) (hx : p.tables.exec = Jvm.exec) (hZ : Z.Warmed39 vm0) {own : String} {index : Nat} {y : MethodName} {bytes : ByteArray} {maxL : Nat} {ret : Option FieldType} {rm : Room} {as' : Array Value} {Q : Option Value → Heap → List Loc → Prop}
    (hown : vm0.findClass own = some m.cls) (w1 : (Cond.methodLink own index y).before a0 Z = true) (w2 : (Cond.static y).before a0 Z = true) (w3 : (Cond.initialized y.cls).before a0 Z = true) (w4 : (Cond.code y bytes maxL ret).before a0 Z = true)
    (hy : y.cls ≠ "java/lang/invoke/MethodHandle" ∧ y.cls ≠ "java/lang/invoke/VarHandle") (hM : ConW l Z y bytes maxL ret [] rm as' h Q) (eT : T.heap = h) {k0 : Nat} (hS : s.Since vm0 k0) (hk : k0 ≤ h.size)
    {g : JFrame} (hg : g.method = m) (hsize : g.locals.size = c.maxLocals) {argsL rest : List Value} (has : as' = argsL.toArray) (hlen : ∀ sig, parseMethodDescriptor y.desc = some sig → argsL.length = sig.parameters.length) (hs : g.stack = argsL.reverse ++ rest) {W : Nat} (hW : 2 * g.monitorRoom + (rest.map fun v => v.category).sum ≤ W)
    (hd : decode c.code g.pc = .ok (.invokestatic index, 3)) (hf : rm.frames + 1 ≤ R.frames) (hl : W + (maxL + 11) + rm.locals ≤ R.locals) (hc : cells + rm.cells ≤ R.cells) (hsl : slots + rm.slots ≤ R.slots) :
    ∃ (v : Option Value) (T' : State) (h' : Heap) (Lc : List Loc), Stand p l e R (s.setVm T'.vm) m args below meth c T' (locs ++ Lc) (cells + rm.cells) (slots + rm.slots) ∧ T'.heap = h' ∧ Q v h' Lc ∧ s.Since T'.vm h'.size ∧ Z.Warmed39 T'.vm ∧ T'.vm.findClass own = some m.cls ∧
      ∀ target, Steps p.tables e below (T'.setTop { g with pc := g.pc + 3, stack := v.toList ++ rest }) target → Steps p.tables e below (T.setTop g) target := by
  subst eT
  obtain ⟨v, vm₁, ⟨T', L', k', n'⟩, -, X', hS', hgr, ⟨Lc, hQ, hl', hk', hn'⟩, st⟩ := callSS (s := s.setVm vm0) X hx (y := y) hown (mvT (s := s.setVm vm0) hZ w1) (mvT (s := s.setVm vm0) hZ w2) (mvT (s := s.setVm vm0) hZ w3) (mvT (s := s.setVm vm0) hZ w4) hy (backOfS (s := s.setVm vm0) (W := W) hM hZ w4 w3 hf hl) hg hsize hlen hs hW hd (fun _ _ => ⟨has.symm, rfl, hc, hsl⟩)
  dsimp only [Pt.U, Pt.locs, Pt.cells, Pt.slots] at X' hl' hk' hn' st hQ hS' hgr
  subst hl' hk' hn'
  exact ⟨v, T', _, Lc, X', rfl, hQ, hS.trans hS' (Nat.le_trans hk hgr), State.Warmed39.trans (t := s.setVm vm0) hZ hS'.1, by rw [hS'.1.alike.findClass]; exact hown, fun t k => st.trans k⟩
theorem own_callCW (X : Stand p l e R (s.setVm vm0) m args below meth c T locs cells slots) (hx : p.tables.exec = Jvm.exec) (hZ : Z.Warmed39 vm0) {own : String} {index : Nat} {y : MethodName} {bytes : ByteArray} {maxL : Nat} {rm : Room} {as' : Array Value} {Q : Option Value → Heap → List Loc → Prop} (hy1 : y.name = "<init>")
    (hown : vm0.findClass own = some m.cls) (w1 : (Cond.methodLink own index y).before a0 Z = true) (w2 : (Cond.instanceMethod y).before a0 Z = true) (w3 : (Cond.initialized y.cls).before a0 Z = true) (w4 : (Cond.code y bytes maxL none).before a0 Z = true)
    (hy : y.cls ≠ "java/lang/invoke/MethodHandle" ∧ y.cls ≠ "java/lang/invoke/VarHandle") (hM : ConW l Z y bytes maxL none [] rm as' h Q) (eT : T.heap = h) {k0 : Nat} (hS : s.Since vm0 k0) (hk : k0 ≤ h.size) {a : Addr}
    {g : JFrame} (hg : g.method = m) (hsize : g.locals.size = c.maxLocals) {argsL rest : List Value} (has : as' = (Value.ref a :: argsL).toArray) (hlen : ∀ sig, parseMethodDescriptor y.desc = some sig → argsL.length = sig.parameters.length) (hs : g.stack = argsL.reverse ++ .ref a :: rest) {W : Nat} (hW : 2 * g.monitorRoom + (rest.map fun v => v.category).sum ≤ W)
    (hd : decode c.code g.pc = .ok (.invokespecial index, 3)) (hf : rm.frames + 1 ≤ R.frames) (hl : W + (maxL + 11) + rm.locals ≤ R.locals) (hc : cells + rm.cells ≤ R.cells) (hsl : slots + rm.slots ≤ R.slots) :
    ∃ (v : Option Value) (T' : State) (h' : Heap) (Lc : List Loc), Stand p l e R (s.setVm T'.vm) m args below meth c T' (locs ++ Lc) (cells + rm.cells) (slots + rm.slots) ∧ T'.heap = h' ∧ Q v h' Lc ∧ s.Since T'.vm h'.size ∧ Z.Warmed39 T'.vm ∧ T'.vm.findClass own = some m.cls ∧
      ∀ target, Steps p.tables e below (T'.setTop { g with pc := g.pc + 3, stack := v.toList ++ rest }) target → Steps p.tables e below (T.setTop g) target := by
  subst eT
  obtain ⟨v, vm₁, ⟨T', L', k', n'⟩, -, X', hS', hgr, ⟨Lc, hQ, hl', hk', hn'⟩, st⟩ := Jvm.Stand.specialBackS (s := s.setVm vm0) X hx (y := y) hy1 hown (mvT (s := s.setVm vm0) hZ w1) (mvT (s := s.setVm vm0) hZ w2) (mvT (s := s.setVm vm0) hZ w4) hy (backOfS (s := s.setVm vm0) (W := W) hM hZ w4 w3 hf hl) hg hsize (Steps.refl _) (a := a) hlen hs hW hd (fun _ _ => ⟨has.symm, rfl, hc, hsl⟩)
  dsimp only [Pt.U, Pt.locs, Pt.cells, Pt.slots] at X' hl' hk' hn' st hQ hS' hgr
  subst hl' hk' hn'
  exact ⟨v, T', _, Lc, X', rfl, hQ, hS.trans hS' (Nat.le_trans hk hgr), State.Warmed39.trans (t := s.setVm vm0) hZ hS'.1, by rw [hS'.1.alike.findClass]; exact hown, fun t k => st.trans k⟩
theorem own_callVW (X : Stand p l e R (s.setVm vm0) m args below meth c T locs cells slots) (hx : p.tables.exec = Jvm.exec) (hZ : Z.Warmed39 vm0) {own C : String} {index : Nat} {y z : MethodName} {bytes : ByteArray} {maxL : Nat} {ret : Option FieldType} {rm : Room} {as' : Array Value} {Q : Option Value → Heap → List Loc → Prop}
    (hown : vm0.findClass own = some m.cls) (w1 : (Cond.methodLink own index y).before a0 Z = true) (w2 : (Cond.declares y).before a0 Z = true) (nf : NotFace (s.setVm vm0) y) (w3 : (Cond.selects C y z).before a0 Z = true) (w4 : (Cond.instanceMethod z).before a0 Z = true) (w5 : (Cond.code z bytes maxL ret).before a0 Z = true) (w6 : (Cond.initialized z.cls).before a0 Z = true)
    (hy : y.cls ≠ "java/lang/invoke/MethodHandle" ∧ y.cls ≠ "java/lang/invoke/VarHandle") (hM : ConW l Z z bytes maxL ret [] rm as' h Q) (eT : T.heap = h) {k0 : Nat} (hS : s.Since vm0 k0) (hk : k0 ≤ h.size) {a : Addr} (E : Exa Z h a C)
    {g : JFrame} (hg : g.method = m) (hsize : g.locals.size = c.maxLocals) {argsL rest : List Value} (has : as' = (Value.ref a :: argsL).toArray) (hlen : ∀ sig, parseMethodDescriptor y.desc = some sig → argsL.length = sig.parameters.length) (hs : g.stack = argsL.reverse ++ .ref a :: rest) {W : Nat} (hW : 2 * g.monitorRoom + (rest.map fun v => v.category).sum ≤ W)
    (hd : decode c.code g.pc = .ok (.invokevirtual index, 3)) (hf : rm.frames + 1 ≤ R.frames) (hl : W + (maxL + 11) + rm.locals ≤ R.locals) (hc : cells + rm.cells ≤ R.cells) (hsl : slots + rm.slots ≤ R.slots) :
    ∃ (v : Option Value) (T' : State) (h' : Heap) (Lc : List Loc), Stand p l e R (s.setVm T'.vm) m args below meth c T' (locs ++ Lc) (cells + rm.cells) (slots + rm.slots) ∧ T'.heap = h' ∧ Q v h' Lc ∧ s.Since T'.vm h'.size ∧ Z.Warmed39 T'.vm ∧ T'.vm.findClass own = some m.cls ∧
      ∀ target, Steps p.tables e below (T'.setTop { g with pc := g.pc + 3, stack := v.toList ++ rest }) target → Steps p.tables e below (T.setTop g) target := by
  subst eT
  obtain ⟨cq, kq, qa, qb, qc⟩ := isOf (s := s.setVm vm0) hZ rfl E
  obtain ⟨v, vm₁, ⟨T', L', k', n'⟩, -, X', hS', hgr, ⟨Lc, hQ, hl', hk', hn'⟩, st⟩ := Jvm.Stand.virtualBackS (s := s.setVm vm0) X hx (y := y) (z := z) hown (mvT (s := s.setVm vm0) hZ w1) (mvT (s := s.setVm vm0) hZ w2) nf (mvT (s := s.setVm vm0) hZ w3) (mvT (s := s.setVm vm0) hZ w4) hy (backOfS (s := s.setVm vm0) (W := W) hM hZ w5 w6 hf hl) qa qc hg hsize (Steps.refl _) hlen hs hW hd (fun _ _ => ⟨has.symm, rfl, hc, hsl⟩)
  dsimp only [Pt.U, Pt.locs, Pt.cells, Pt.slots] at X' hl' hk' hn' st hQ hS' hgr
  subst hl' hk' hn'
  exact ⟨v, T', _, Lc, X', rfl, hQ, hS.trans hS' (Nat.le_trans hk hgr), State.Warmed39.trans (t := s.setVm vm0) hZ hS'.1, by rw [hS'.1.alike.findClass]; exact hown, fun t k => st.trans k⟩
theorem own_callCB (X : Stand p l e R s m args below meth c T locs cells slots) (hx : p.tables.exec = Jvm.exec) (hZ : Z.Warmed39 s.vm) {own : String} {index : Nat} {y : MethodName} {bytes : ByteArray} {maxL kc ks : Nat} {as' : Array Value} {Q : Option Value → Heap → List Loc → Prop} (hy1 : y.name = "<init>")
    (hown : s.vm.findClass own = some m.cls) (w1 : (Cond.methodLink own index y).before a0 Z = true) (w2 : (Cond.instanceMethod y).before a0 Z = true) (w4 : (Cond.code y bytes maxL none).before a0 Z = true)
    (hy : y.cls ≠ "java/lang/invoke/MethodHandle" ∧ y.cls ≠ "java/lang/invoke/VarHandle") {W : Nat} (hK : Back l R p e below s args y 3 W (fun A a => a = as' ∧ A.U.heap = h ∧ A.cells + kc ≤ R.cells ∧ A.slots + ks ≤ R.slots) (fun A _ v B => ∃ L, Q v B.U.heap L ∧ B.locs = A.locs ++ L ∧ B.cells = A.cells + kc ∧ B.slots = A.slots + ks)) (eT : T.heap = h) {a : Addr}
    {g : JFrame} (hg : g.method = m) (hsize : g.locals.size = c.maxLocals) {argsL rest : List Value} (has : as' = (Value.ref a :: argsL).toArray) (hlen : ∀ sig, parseMethodDescriptor y.desc = some sig → argsL.length = sig.parameters.length) (hs : g.stack = argsL.reverse ++ .ref a :: rest) (hW : 2 * g.monitorRoom + (rest.map fun v => v.category).sum ≤ W)
    (hd : decode c.code g.pc = .ok (.invokespecial index, 3)) (hc : cells + kc ≤ R.cells) (hsl : slots + ks ≤ R.slots) :
    ∃ (v : Option Value) (T' : State) (h' : Heap) (Lc : List Loc), Stand p l e R s m args below meth c T' (locs ++ Lc) (cells + kc) (slots + ks) ∧ T'.heap = h' ∧ Q v h' Lc ∧
      ∀ target, Steps p.tables e below (T'.setTop { g with pc := g.pc + 3, stack := v.toList ++ rest }) target → Steps p.tables e below (T.setTop g) target := by
  obtain ⟨v, _, ⟨T', L', k', n'⟩, -, X', ⟨Lc, hQ, hl', hk', hn'⟩, st⟩ := X.specialBack hx (y := y) hy1 hown (mvT hZ w1) (mvT hZ w2) (mvT hZ w4) hy hK hg hsize (Steps.refl _) (a := a) hlen hs hW hd (fun _ _ => ⟨has.symm, eT, hc, hsl⟩)
  dsimp only [Pt.U, Pt.locs, Pt.cells, Pt.slots] at X' hl' hk' hn' st hQ
  subst hl' hk' hn'
  exact ⟨v, T', _, Lc, X', rfl, hQ, fun t k => st.trans k⟩
theorem own_callVB (X : Stand p l e R s m args below meth c T locs cells slots) (hx : p.tables.exec = Jvm.exec) (hZ : Z.Warmed39 s.vm) {own C : String} {index kc ks : Nat} {y z : MethodName} {as' : Array Value} {Q : Option Value → Heap → List Loc → Prop}
    (hown : s.vm.findClass own = some m.cls) (w1 : (Cond.methodLink own index y).before a0 Z = true) (w2 : (Cond.declares y).before a0 Z = true) (nf : NotFace s y) (w3 : (Cond.selects C y z).before a0 Z = true) (w4 : (Cond.instanceMethod z).before a0 Z = true)
    (hy : y.cls ≠ "java/lang/invoke/MethodHandle" ∧ y.cls ≠ "java/lang/invoke/VarHandle") {W : Nat} (hK : Back l R p e below s args z 3 W (fun A a => a = as' ∧ A.U.heap = h ∧ A.cells + kc ≤ R.cells ∧ A.slots + ks ≤ R.slots) (fun A _ v B => ∃ L, Q v B.U.heap L ∧ B.locs = A.locs ++ L ∧ B.cells = A.cells + kc ∧ B.slots = A.slots + ks)) (eT : T.heap = h) {a : Addr} (E : Exa Z h a C)
    {g : JFrame} (hg : g.method = m) (hsize : g.locals.size = c.maxLocals) {argsL rest : List Value} (has : as' = (Value.ref a :: argsL).toArray) (hlen : ∀ sig, parseMethodDescriptor y.desc = some sig → argsL.length = sig.parameters.length) (hs : g.stack = argsL.reverse ++ .ref a :: rest) (hW : 2 * g.monitorRoom + (rest.map fun v => v.category).sum ≤ W)
    (hd : decode c.code g.pc = .ok (.invokevirtual index, 3)) (hc : cells + kc ≤ R.cells) (hsl : slots + ks ≤ R.slots) :
    ∃ (v : Option Value) (T' : State) (h' : Heap) (Lc : List Loc), Stand p l e R s m args below meth c T' (locs ++ Lc) (cells + kc) (slots + ks) ∧ T'.heap = h' ∧ Q v h' Lc ∧
      ∀ target, Steps p.tables e below (T'.setTop { g with pc := g.pc + 3, stack := v.toList ++ rest }) target → Steps p.tables e below (T.setTop g) target := by
  obtain ⟨cq, kq, qa, qb, qc⟩ := isOf hZ eT E
  obtain ⟨v, _, ⟨T', L', k', n'⟩, -, X', ⟨Lc, hQ, hl', hk', hn'⟩, st⟩ := X.virtualBack hx (y := y) (z := z) hown (mvT hZ w1) (mvT hZ w2) nf (mvT hZ w3) (mvT hZ w4) hy hK qa qc hg hsize (Steps.refl _) hlen hs hW hd (fun _ _ => ⟨has.symm, eT, hc, hsl⟩)
  dsimp only [Pt.U, Pt.locs, Pt.cells, Pt.slots] at X' hl' hk' hn' st hQ
  subst hl' hk' hn'
  exact ⟨v, T', _, Lc, X', rfl, hQ, fun t k => st.trans k⟩
theorem own_more {cells' slots' : Nat} (X : Stand p l e R s m args below meth c T locs cells slots) (h1 : cells ≤ cells') (h2 : slots ≤ slots') : Stand p l e R s m args below meth c T locs cells' slots' := { X with same := X.same.mono h1 h2 }
theorem own_arrKeep {h h' : Heap} {a : Addr} {cl : Cell} {ty : FieldType} {ws : List Addr} (A : Arr Z h a cl ty) (K : Keep h h' ws) (q : a ∉ ws) : Arr Z h' a cl ty := ⟨K.2.1 a cl A.1 q, A.2⟩
end OwnKit
def own_sh (x : Int64) (k : Int32) : Int64 := ((x.toUInt64 >>> (k &&& 0x3f).toInt64.toUInt64).toInt64)
def own_m1 (z : Int64) : Int64 := ((z ^^^ own_sh z (30 : Int32)) * (-4658895280553007687 : Int64))
def own_m2 (z : Int64) : Int64 := ((z ^^^ own_sh z (27 : Int32)) * (-7723592293110705685 : Int64))
def own_m3 (z : Int64) : Int64 := (z ^^^ own_sh z (31 : Int32))
def own_mix (z : Int64) : Int64 := own_m3 (own_m2 (own_m1 z))
section OwnFl
open Jvm.FP.Core Jvm.Free.Fl
theorem own_l2d (a : Int64) (h0 : 0 ≤ a.toInt) (h1 : a.toInt < 9007199254740992) : ∃ (c : Nat) (q : Int), val64 (l2d a) = .fin false c q ∧ ((a.toInt = 0 ∧ c = 0 ∧ q = -1074) ∨ (4503599627370496 ≤ c ∧ c < 9007199254740992 ∧ -52 ≤ q ∧ q ≤ 0 ∧ (c : Int) = a.toInt * 2 ^ (-q).toNat)) := by
  rw [val64_l2d]
  have hs : decide (a.toInt < 0) = false := decide_eq_false (by omega)
  by_cases hz : a.toInt = 0
  · refine ⟨0, -1074, ?_, Or.inl ⟨hz, rfl, rfl⟩⟩
    rw [hz]; decide +kernel
  · obtain ⟨n, hn⟩ : ∃ n : Nat, a.toInt = n := ⟨a.toInt.toNat, by omega⟩
    have hn0 : n ≠ 0 := by omega
    have l1 : 2 ^ n.log2 ≤ n := Nat.log2_self_le hn0
    have l2 : n < 2 ^ (n.log2 + 1) := Nat.lt_log2_self
    have hL : n.log2 < 53 := (Nat.pow_lt_pow_iff_right (by decide : 1 < 2)).mp (Nat.lt_of_le_of_lt l1 (show n < 2 ^ 53 by omega))
    generalize n.log2 = L at l1 l2 hL
    have hc1 : 4503599627370496 ≤ n * 2 ^ (52 - L) := by
      have e : (4503599627370496 : Nat) = 2 ^ L * 2 ^ (52 - L) := by rw [← Nat.pow_add, show L + (52 - L) = 52 by omega]
      rw [e]; exact Nat.mul_le_mul_right _ l1
    have hc2 : n * 2 ^ (52 - L) < 9007199254740992 := by
      have e : (9007199254740992 : Nat) = 2 ^ (L + 1) * 2 ^ (52 - L) := by rw [← Nat.pow_add, show L + 1 + (52 - L) = 53 by omega]
      rw [e]; exact Nat.mul_lt_mul_of_pos_right l2 (Nat.two_pow_pos _)
    refine ⟨n * 2 ^ (52 - L), (L : Int) - 52, ?_, Or.inr ⟨hc1, hc2, by omega, by omega, ?_⟩⟩
    · show round b64 (.fin (decide (a.toInt < 0)) a.toInt.natAbs 0) = _
      rw [hs, hn, Int.natAbs_natCast]
      refine roundRatio_exact good_b64 (by decide) ⟨hc2, ?_, ?_, Or.inr hc1⟩ ?_
      · show (-1074 : Int) ≤ _; omega
      · show _ ≤ (971 : Int); omega
      · rw [show (0 - ((L : Int) - 52)).toNat = 52 - L by omega, show ((L : Int) - 52 - 0).toNat = 0 by omega]; simp
    · rw [hn, show (-((L : Int) - 52)).toNat = 52 - L by omega]; simp
theorem own_scale {x k : UInt64} {c : Nat} {q r : Int} (hx : val64 x = .fin false c q) (hk : val64 k = .fin false 4503599627370496 r) (h : (c = 0 ∧ q + r + 52 = q + r + 52) ∨ (4503599627370496 ≤ c ∧ c < 9007199254740992 ∧ -1074 ≤ q + r + 52 ∧ q + r + 52 ≤ 971)) : val64 (dmul x k) = if c = 0 then .fin false 0 (-1074) else .fin false c (q + r + 52) := by
  rw [val64_dmul, hx, hk]
  show roundRatio b64 false (c * 4503599627370496) 1 (q + r) = _
  rcases h with ⟨rfl, -⟩ | ⟨h1, h2, h3, h4⟩
  · rfl
  · rw [if_neg (by omega)]
    refine roundRatio_exact good_b64 (by decide) ⟨h2, h3, h4, Or.inr h1⟩ ?_
    rw [show (q + r - (q + r + 52)).toNat = 0 by omega, show (q + r + 52 - (q + r)).toNat = 52 by omega]
    simp
theorem own_v1 : val64 4368491638549381120 = .fin false 4503599627370496 (-105) := by decide +kernel
theorem own_v2 : val64 4845873199050653696 = .fin false 4503599627370496 1 := by decide +kernel
theorem own_nonan {x : UInt64} {s : Bool} {c : Nat} {q : Int} (h : val64 x = .fin s c q) : NoNaN64 x := by
  rw [noNaN64_no]
  show decide (val64 x = .nan) = false
  rw [h]; rfl
theorem own_fl (a : Int64) (h0 : 0 ≤ a.toInt) (h1 : a.toInt < 9007199254740992) :
    NoNaN64 (FP.dmul (FP.l2d a) 4368491638549381120) ∧ NoNaN64 (FP.dmul (FP.dmul (FP.l2d a) 4368491638549381120) 4845873199050653696) ∧ FP.d2l (FP.dmul (FP.dmul (FP.l2d a) 4368491638549381120) 4845873199050653696) = a ∧
    ¬ (Op.cmpValue (FP.dcmp (FP.dmul (FP.l2d a) 4368491638549381120) FP.dconst0) .l) < (0 : Int32) ∧ (Op.cmpValue (FP.dcmp (FP.dmul (FP.l2d a) 4368491638549381120) FP.dconst1) .g) < (0 : Int32) := by
  obtain ⟨c, q, hv, hc⟩ := own_l2d a h0 h1
  rcases hc with ⟨ha, rfl, rfl⟩ | ⟨c1, c2, q1, q2, hca⟩
  · obtain rfl : a = 0 := Int64.toInt_inj.mp (by rw [ha]; rfl)
    refine ⟨?_, ?_, ?_, ?_, ?_⟩ <;> decide +kernel
  · have d1 := own_scale hv own_v1 (Or.inr ⟨c1, c2, by omega, by omega⟩)
    rw [if_neg (by omega)] at d1
    have d2 := own_scale d1 own_v2 (Or.inr ⟨c1, c2, by omega, by omega⟩)
    rw [if_neg (by omega)] at d2
    refine ⟨own_nonan d1, own_nonan d2, ?_, ?_, ?_⟩
    · show toL (val64 (dmul (dmul (l2d a) 4368491638549381120) 4845873199050653696)) = a
      rw [d2]
      show Int64.ofInt (max (-2 ^ 63) (min (2 ^ 63 - 1) (signed false (c * 2 ^ (q + -105 + 52 + 1 + 52).toNat / 2 ^ (-(q + -105 + 52 + 1 + 52)).toNat)))) = a
      have e1 : (q + -105 + 52 + 1 + 52).toNat = 0 := by omega
      have e2 : (-(q + -105 + 52 + 1 + 52)).toNat = (-q).toNat := by omega
      rw [e1, e2]
      have e3 : c = a.toInt.toNat * 2 ^ (-q).toNat := by
        have : ((a.toInt.toNat * 2 ^ (-q).toNat : Nat) : Int) = (c : Int) := by
          rw [hca, Int.natCast_mul, Int.toNat_of_nonneg h0]; simp
        omega
      rw [e3, Nat.pow_zero, Nat.mul_one, Nat.mul_div_cancel _ (Nat.two_pow_pos _)]
      show Int64.ofInt (max (-2 ^ 63) (min (2 ^ 63 - 1) (a.toInt.toNat : Int))) = a
      rw [Int.toNat_of_nonneg h0, Int.min_eq_right (by omega), Int.max_eq_right (by omega)]
      exact Int64.ofInt_toInt a
    · show ¬ (Op.cmpValue (order (val64 (dmul (l2d a) 4368491638549381120)) (val64 0)) .l) < (0 : Int32)
      rw [d1, show val64 0 = .fin false 0 (-1074) by decide +kernel]
      have : compare (signed false (inUnits c (q + -105 + 52) (min (q + -105 + 52) (-1074)))) (signed false (inUnits 0 (-1074) (min (q + -105 + 52) (-1074)))) ≠ .lt := by
        intro z
        rw [Int.compare_eq_lt] at z
        have e0 : inUnits 0 (-1074) (min (q + -105 + 52) (-1074)) = 0 := by unfold inUnits; exact Nat.zero_mul _
        rw [e0] at z
        simp only [signed, Bool.false_eq_true, if_false] at z
        omega
      show ¬ (Op.cmpValue (some (compare (signed false (inUnits c (q + -105 + 52) (min (q + -105 + 52) (-1074)))) (signed false (inUnits 0 (-1074) (min (q + -105 + 52) (-1074)))))) .l) < (0 : Int32)
      revert this
      generalize compare (signed false (inUnits c (q + -105 + 52) (min (q + -105 + 52) (-1074)))) (signed false (inUnits 0 (-1074) (min (q + -105 + 52) (-1074)))) = o
      cases o <;> decide
    · show (Op.cmpValue (order (val64 (dmul (l2d a) 4368491638549381120)) (val64 4607182418800017408)) .g) < (0 : Int32)
      rw [d1, show val64 4607182418800017408 = .fin false 4503599627370496 (-52) by decide +kernel]
      have : compare (signed false (inUnits c (q + -105 + 52) (min (q + -105 + 52) (-52)))) (signed false (inUnits 4503599627370496 (-52) (min (q + -105 + 52) (-52)))) = .lt := by
        rw [Int.compare_eq_lt, Int.min_eq_left (by omega)]
        show ((c * 2 ^ (q + -105 + 52 - (q + -105 + 52)).toNat : Nat) : Int) < ((4503599627370496 * 2 ^ (-52 - (q + -105 + 52)).toNat : Nat) : Int)
        rw [show (q + -105 + 52 - (q + -105 + 52)).toNat = 0 by omega]
        have e : 2 ^ 1 ≤ 2 ^ (-52 - (q + -105 + 52)).toNat := Nat.pow_le_pow_right (by decide) (by omega)
        have e2 : 4503599627370496 * 2 ≤ 4503599627370496 * 2 ^ (-52 - (q + -105 + 52)).toNat := Nat.mul_le_mul_left _ e
        rw [Nat.pow_zero, Nat.mul_one]
        omega
      show (Op.cmpValue (some (compare (signed false (inUnits c (q + -105 + 52) (min (q + -105 + 52) (-52)))) (signed false (inUnits 4503599627370496 (-52) (min (q + -105 + 52) (-52)))))) .g) < (0 : Int32)
      rw [this]; decide
end OwnFl
theorem own_top (x : Int64) : 0 ≤ (own_sh x (11 : Int32)).toInt ∧ (own_sh x (11 : Int32)).toInt < 9007199254740992 := by
  have q := c_lushr x 11 11 (by decide) (by decide)
  have r := rng64 x
  rw [show (own_sh x (11 : Int32)).toInt = _ from q]
  omega
theorem pn_SplitMix64 : plainName "com/example/lightweave/lightweave/SplitMix64" = true := by first | (simp [plainName, overriddenIn]; done) | decide +kernel
theorem ef_rm_init (m : MethodId) (x0 : Addr) (x1 : Int64) : entryFrame m #[(.ref x0), (.long x1)] 3 = mkF m 0 #[.val (.ref x0), .val (.long x1), .second] [] := by first | (simp [entryFrame, mkF, argsToLocals, Value.category]; done) | rfl
def Q_rm_init (Z : State) (a : Addr) (q : Int64) (u : Value) (h0 : Heap) (n0 : Nat) (v : Option Value) (h : Heap) (L : List Loc) : Prop := (v = none) ∧ (Fr n0 L) ∧ (Keep h0 h [a]) ∧ (Exa Z h a "com/example/lightweave/lightweave/SplitMix64") ∧ (Fld Z h a "com/example/lightweave/lightweave/SplitMix64" "state" "J" (.long q))
theorem d1_0 : decode prog_29_method_1_code 0 = .ok (.aload_n 0, 1) := by decide +kernel
theorem d1_1 : decode prog_29_method_1_code 1 = .ok (.invokespecial 1, 3) := by decide +kernel
theorem d1_4 : decode prog_29_method_1_code 4 = .ok (.aload_n 0, 1) := by decide +kernel
theorem d1_5 : decode prog_29_method_1_code 5 = .ok (.lload_n 1, 1) := by decide +kernel
theorem d1_6 : decode prog_29_method_1_code 6 = .ok (.putfield 7, 3) := by decide +kernel
theorem d1_9 : decode prog_29_method_1_code 9 = .ok (.return_, 1) := by decide +kernel
set_option maxRecDepth 65536 in
set_option maxHeartbeats 40000000 in
theorem rm_init (l : Launch) (Z : State) (a0 : Array Value) (hw : ∀ d ∈ tables_1, d.before a0 Z = true) (ws : List Jvm.Cond) (a : Addr) (q : Int64) (u : Value) (h0 : Heap) (n0 : Nat) (Z0 : n0 ≤ h0.size) (E_a : Exa Z h0 a "com/example/lightweave/lightweave/SplitMix64") (F_a : Fld Z h0 a "com/example/lightweave/lightweave/SplitMix64" "state" "J" u) (g_a : n0 ≤ a) :
    Con l Z (⟨"com/example/lightweave/lightweave/SplitMix64", "<init>", "(J)V"⟩ : MethodName) prog_29_method_1_code 3 none ws ({ frames := 1, cells := 0, slots := 0, locals := 12 } : Room) #[(.ref a), (.long q)] h0 (Q_rm_init Z a q u h0 n0) := by
  refine MetFree.of_bodySF (plainFor_of_name pn_SplitMix64) hisR ?_
  intro p e s m args below meth c s₁ Bd hml0 hP hK
  obtain ⟨rfl, hZ, hh⟩ := hP
  have hx := Bd.exec
  have hby := Bd.bytes
  have hml : c.maxLocals = 3 := hml0
  have hown : s.vm.findClass "com/example/lightweave/lightweave/SplitMix64" = some m.cls := findClass_of_methodNamed Bd.named
  have hnm := (name_of_methodNamed Bd.named Bd.method).1
  have X0 : Stand p l e ({ frames := 1, cells := 0, slots := 0, locals := 12 } : Room) s m #[(.ref a), (.long q)] below meth c s₁ [] 0 0 := Stand.of_body Bd
  have e0 : s₁.heap = h0 := by rw [← hh, Bd.state]; rfl
  have N0 := Fr.nil n0
  have k0 : Rch p e below (s₁.setTop (entryFrame m #[(.ref a), (.long q)] 3)) s₁ (mkF m 0 #[.val (.ref a), .val (.long q), .second] []) := fun tg kg => castTop (ef_rm_init m a q) kg
  have lt_E_a := own_ltN E_a.lt
  have lt_F_a := own_ltN F_a.lt
  have k1 : Rch p e below (s₁.setTop (entryFrame m #[(.ref a), (.long q)] 3)) s₁ (mkF m 1 #[.val (.ref a), .val (.long q), .second] [(.ref a)]) := fun tg kg => by
    refine k0 tg ?_
    show Steps p.tables e below (s₁.setTop (mkF m 0 #[.val (.ref a), .val (.long q), .second] [])) tg
    refine XS.aloadN X0.here hx rfl (hb hby d1_0) rfl rfl ?_
    exact kg
  obtain ⟨T2, X2, e2, st2⟩ := initO X0 hx hZ hown (hw _ (List.mem_of_getElem? (i := 6) rfl)) (hw _ (List.mem_of_getElem? (i := 7) rfl)) (hw _ (List.mem_of_getElem? (i := 8) rfl)) e0 (g := (mkF m 1 #[.val (.ref a), .val (.long q), .second] [(.ref a)])) rfl (by rw [hml]; rfl) rfl (hb hby d1_1) (by decide) (W := 0) (by show 2 * 0 + _ ≤ _; exact Nat.le_of_eq rfl) (by decide)
  have k3 : Rch p e below (s₁.setTop (entryFrame m #[(.ref a), (.long q)] 3)) T2 (mkF m 4 #[.val (.ref a), .val (.long q), .second] []) := fun tg kg => k1 tg (st2 tg kg)
  have k4 : Rch p e below (s₁.setTop (entryFrame m #[(.ref a), (.long q)] 3)) T2 (mkF m 6 #[.val (.ref a), .val (.long q), .second] [(.long q), (.ref a)]) := fun tg kg => by
    refine k3 tg ?_
    show Steps p.tables e below (T2.setTop (mkF m 4 #[.val (.ref a), .val (.long q), .second] [])) tg
    refine XS.aloadN X2.here hx rfl (hb hby d1_4) rfl rfl ?_
    show Steps p.tables e below (T2.setTop (mkF m 5 #[.val (.ref a), .val (.long q), .second] [(.ref a)])) tg
    refine XS.lloadN X2.here hx rfl (hb hby d1_5) rfl ?_
    exact kg
  obtain ⟨T5, h5, X5, e5, W5, st5⟩ := putF X2 hx hZ hown (host := "") (Or.inl (hw _ (List.mem_of_getElem? (i := 9) rfl))) Via.refl e2 F_a E_a (Or.inl (hw _ (List.mem_of_getElem? (i := 10) rfl))) (hw _ (List.mem_of_getElem? (i := 1) rfl)) (ty := .long) (by decide) rfl rfl (g := (mkF m 6 #[.val (.ref a), .val (.long q), .second] [(.long q), (.ref a)])) rfl rfl (hb hby d1_6)
  have Fw5 := F_a.same W5
  have s5 : h5.size = h0.size := W5.size
  have N5 := Fr.snoc X5 N0 (by omega : n0 ≤ a)
  have k6 : Rch p e below (s₁.setTop (entryFrame m #[(.ref a), (.long q)] 3)) T5 (mkF m 9 #[.val (.ref a), .val (.long q), .second] []) := fun tg kg => k4 tg (st5 tg kg)
  have f7 : Exa Z h5 a "com/example/lightweave/lightweave/SplitMix64" := (E_a.wr W5)
  obtain ⟨fs8, hr8, hrun8, hended8, hW8, hsame8⟩ := X5.leave (v := none) (fun _ => rfl)
  refine ⟨_, _, k6 _ ?_, hrun8, hended8, _, _, rfl, ?_, ⟨_, rfl⟩, hW8, hsame8.mono (by decide) (by decide)⟩
  · exact X5.returnOut hx Bd.returns (hb hby d1_9) hr8
  · show Q_rm_init Z a q u h0 n0 _ T5.heap _
    rw [e5]
    exact ⟨rfl, N5, ((Keep.refl h0 [a]).wr W5 (Or.inl (List.mem_of_getElem? (i := 0) rfl))), f7, Fw5⟩
theorem ef_rm_next (m : MethodId) (x0 : Addr) : entryFrame m #[(.ref x0)] 3 = mkF m 0 #[.val (.ref x0), .unset, .unset] [] := by first | (simp [entryFrame, mkF, argsToLocals, Value.category]; done) | rfl
def Q_rm_next (Z : State) (a : Addr) (w0 : Int64) (h0 : Heap) (n0 : Nat) (v : Option Value) (h : Heap) (L : List Loc) : Prop := (v = some (.long (own_mix (w0 + (-7046029254386353131 : Int64))))) ∧ (Fr n0 L) ∧ (Keep h0 h [a]) ∧ (Exa Z h a "com/example/lightweave/lightweave/SplitMix64") ∧ (Fld Z h a "com/example/lightweave/lightweave/SplitMix64" "state" "J" (.long (w0 + (-7046029254386353131 : Int64))))
theorem d4_0 : decode prog_29_method_2_code 0 = .ok (.aload_n 0, 1) := by decide +kernel
theorem d4_1 : decode prog_29_method_2_code 1 = .ok (.dup, 1) := by decide +kernel
theorem d4_2 : decode prog_29_method_2_code 2 = .ok (.getfield 7, 3) := by decide +kernel
theorem d4_5 : decode prog_29_method_2_code 5 = .ok (.ldc2_w 13, 3) := by decide +kernel
theorem d4_8 : decode prog_29_method_2_code 8 = .ok (.ladd, 1) := by decide +kernel
theorem d4_9 : decode prog_29_method_2_code 9 = .ok (.putfield 7, 3) := by decide +kernel
theorem d4_12 : decode prog_29_method_2_code 12 = .ok (.aload_n 0, 1) := by decide +kernel
theorem d4_13 : decode prog_29_method_2_code 13 = .ok (.getfield 7, 3) := by decide +kernel
theorem d4_16 : decode prog_29_method_2_code 16 = .ok (.lstore_n 1, 1) := by decide +kernel
theorem d4_17 : decode prog_29_method_2_code 17 = .ok (.lload_n 1, 1) := by decide +kernel
theorem d4_18 : decode prog_29_method_2_code 18 = .ok (.lload_n 1, 1) := by decide +kernel
theorem d4_19 : decode prog_29_method_2_code 19 = .ok (.bipush 30, 2) := by decide +kernel
theorem d4_21 : decode prog_29_method_2_code 21 = .ok (.lushr, 1) := by decide +kernel
theorem d4_22 : decode prog_29_method_2_code 22 = .ok (.lxor, 1) := by decide +kernel
theorem d4_23 : decode prog_29_method_2_code 23 = .ok (.ldc2_w 15, 3) := by decide +kernel
theorem d4_26 : decode prog_29_method_2_code 26 = .ok (.lmul, 1) := by decide +kernel
theorem d4_27 : decode prog_29_method_2_code 27 = .ok (.lstore_n 1, 1) := by decide +kernel
theorem d4_28 : decode prog_29_method_2_code 28 = .ok (.lload_n 1, 1) := by decide +kernel
theorem d4_29 : decode prog_29_method_2_code 29 = .ok (.lload_n 1, 1) := by decide +kernel
theorem d4_30 : decode prog_29_method_2_code 30 = .ok (.bipush 27, 2) := by decide +kernel
theorem d4_32 : decode prog_29_method_2_code 32 = .ok (.lushr, 1) := by decide +kernel
theorem d4_33 : decode prog_29_method_2_code 33 = .ok (.lxor, 1) := by decide +kernel
theorem d4_34 : decode prog_29_method_2_code 34 = .ok (.ldc2_w 17, 3) := by decide +kernel
theorem d4_37 : decode prog_29_method_2_code 37 = .ok (.lmul, 1) := by decide +kernel
theorem d4_38 : decode prog_29_method_2_code 38 = .ok (.lstore_n 1, 1) := by decide +kernel
theorem d4_39 : decode prog_29_method_2_code 39 = .ok (.lload_n 1, 1) := by decide +kernel
theorem d4_40 : decode prog_29_method_2_code 40 = .ok (.lload_n 1, 1) := by decide +kernel
theorem d4_41 : decode prog_29_method_2_code 41 = .ok (.bipush 31, 2) := by decide +kernel
theorem d4_43 : decode prog_29_method_2_code 43 = .ok (.lushr, 1) := by decide +kernel
theorem d4_44 : decode prog_29_method_2_code 44 = .ok (.lxor, 1) := by decide +kernel
theorem d4_45 : decode prog_29_method_2_code 45 = .ok (.lreturn, 1) := by decide +kernel
set_option maxRecDepth 65536 in
set_option maxHeartbeats 40000000 in
theorem rm_next (l : Launch) (Z : State) (a0 : Array Value) (hw : ∀ d ∈ tables_1, d.before a0 Z = true) (ws : List Jvm.Cond) (a : Addr) (w0 : Int64) (h0 : Heap) (n0 : Nat) (Z0 : n0 ≤ h0.size) (E_a : Exa Z h0 a "com/example/lightweave/lightweave/SplitMix64") (F_a : Fld Z h0 a "com/example/lightweave/lightweave/SplitMix64" "state" "J" (.long w0)) (g_a : n0 ≤ a) :
    Con l Z (⟨"com/example/lightweave/lightweave/SplitMix64", "nextLong", "()J"⟩ : MethodName) prog_29_method_2_code 3 (some .long) ws ({ frames := 0, cells := 0, slots := 0, locals := 0 } : Room) #[(.ref a)] h0 (Q_rm_next Z a w0 h0 n0) := by
  refine MetFree.of_bodySF (plainFor_of_name pn_SplitMix64) hisR ?_
  intro p e s m args below meth c s₁ Bd hml0 hP hK
  obtain ⟨rfl, hZ, hh⟩ := hP
  have hx := Bd.exec
  have hby := Bd.bytes
  have hml : c.maxLocals = 3 := hml0
  have hown : s.vm.findClass "com/example/lightweave/lightweave/SplitMix64" = some m.cls := findClass_of_methodNamed Bd.named
  have hnm := (name_of_methodNamed Bd.named Bd.method).1
  have X0 : Stand p l e ({ frames := 0, cells := 0, slots := 0, locals := 0 } : Room) s m #[(.ref a)] below meth c s₁ [] 0 0 := Stand.of_body Bd
  have e0 : s₁.heap = h0 := by rw [← hh, Bd.state]; rfl
  have N0 := Fr.nil n0
  have k0 : Rch p e below (s₁.setTop (entryFrame m #[(.ref a)] 3)) s₁ (mkF m 0 #[.val (.ref a), .unset, .unset] []) := fun tg kg => castTop (ef_rm_next m a) kg
  have lt_E_a := own_ltN E_a.lt
  have lt_F_a := own_ltN F_a.lt
  have k1 : Rch p e below (s₁.setTop (entryFrame m #[(.ref a)] 3)) s₁ (mkF m 2 #[.val (.ref a), .unset, .unset] [(.ref a), (.ref a)]) := fun tg kg => by
    refine k0 tg ?_
    show Steps p.tables e below (s₁.setTop (mkF m 0 #[.val (.ref a), .unset, .unset] [])) tg
    refine XS.aloadN X0.here hx rfl (hb hby d4_0) rfl rfl ?_
    show Steps p.tables e below (s₁.setTop (mkF m 1 #[.val (.ref a), .unset, .unset] [(.ref a)])) tg
    refine XS.dup X0.here hx rfl (hb hby d4_1) rfl rfl ?_
    exact kg
  obtain ⟨T2, X2, e2, st2⟩ := getF X0 hx hZ hown (host := "") (Or.inl (hw _ (List.mem_of_getElem? (i := 9) rfl))) Via.refl e0 F_a (g := (mkF m 2 #[.val (.ref a), .unset, .unset] [(.ref a), (.ref a)])) rfl rfl (hb hby d4_2)
  have k3 : Rch p e below (s₁.setTop (entryFrame m #[(.ref a)] 3)) T2 (mkF m 5 #[.val (.ref a), .unset, .unset] [(.long w0), (.ref a)]) := fun tg kg => k1 tg (st2 tg kg)
  have k4 : Rch p e below (s₁.setTop (entryFrame m #[(.ref a)] 3)) T2 (mkF m 9 #[.val (.ref a), .unset, .unset] [(.long (w0 + (-7046029254386353131 : Int64))), (.ref a)]) := fun tg kg => by
    refine k3 tg ?_
    show Steps p.tables e below (T2.setTop (mkF m 5 #[.val (.ref a), .unset, .unset] [(.long w0), (.ref a)])) tg
    refine X2.ldc2Long hx hown (mvT hZ (hw _ (List.mem_of_getElem? (i := 21) rfl))) (g := (mkF m 5 #[.val (.ref a), .unset, .unset] [(.long w0), (.ref a)])) rfl (hb hby d4_5) _ ?_
    show Steps p.tables e below (T2.setTop (mkF m 8 #[.val (.ref a), .unset, .unset] [(.long (-7046029254386353131 : Int64)), (.long w0), (.ref a)])) tg
    refine XS.ladd X2.here hx rfl (hb hby d4_8) rfl ?_
    exact kg
  obtain ⟨T5, h5, X5, e5, W5, st5⟩ := putF X2 hx hZ hown (host := "") (Or.inl (hw _ (List.mem_of_getElem? (i := 9) rfl))) Via.refl e2 F_a E_a (Or.inl (hw _ (List.mem_of_getElem? (i := 10) rfl))) (hw _ (List.mem_of_getElem? (i := 1) rfl)) (ty := .long) (by decide) rfl rfl (g := (mkF m 9 #[.val (.ref a), .unset, .unset] [(.long (w0 + (-7046029254386353131 : Int64))), (.ref a)])) rfl rfl (hb hby d4_9)
  have Fw5 := F_a.same W5
  have s5 : h5.size = h0.size := W5.size
  have N5 := Fr.snoc X5 N0 (by omega : n0 ≤ a)
  have k6 : Rch p e below (s₁.setTop (entryFrame m #[(.ref a)] 3)) T5 (mkF m 12 #[.val (.ref a), .unset, .unset] []) := fun tg kg => k4 tg (st5 tg kg)
  have k7 : Rch p e below (s₁.setTop (entryFrame m #[(.ref a)] 3)) T5 (mkF m 13 #[.val (.ref a), .unset, .unset] [(.ref a)]) := fun tg kg => by
    refine k6 tg ?_
    show Steps p.tables e below (T5.setTop (mkF m 12 #[.val (.ref a), .unset, .unset] [])) tg
    refine XS.aloadN X5.here hx rfl (hb hby d4_12) rfl rfl ?_
    exact kg
  obtain ⟨T8, X8, e8, st8⟩ := getF X5 hx hZ hown (host := "") (Or.inl (hw _ (List.mem_of_getElem? (i := 9) rfl))) Via.refl e5 Fw5 (g := (mkF m 13 #[.val (.ref a), .unset, .unset] [(.ref a)])) rfl rfl (hb hby d4_13)
  have k9 : Rch p e below (s₁.setTop (entryFrame m #[(.ref a)] 3)) T8 (mkF m 16 #[.val (.ref a), .unset, .unset] [(.long (w0 + (-7046029254386353131 : Int64)))]) := fun tg kg => k7 tg (st8 tg kg)
  have k10 : Rch p e below (s₁.setTop (entryFrame m #[(.ref a)] 3)) T8 (mkF m 17 #[.val (.ref a), .val (.long (w0 + (-7046029254386353131 : Int64))), .second] []) := fun tg kg => by
    refine k9 tg ?_
    show Steps p.tables e below (T8.setTop (mkF m 16 #[.val (.ref a), .unset, .unset] [(.long (w0 + (-7046029254386353131 : Int64)))])) tg
    refine XS.lstoreN X8.here hx rfl (hb hby d4_16) rfl (l' := #[.val (.ref a), .val (.long (w0 + (-7046029254386353131 : Int64))), .second]) rfl ?_
    exact kg
  obtain ⟨n11, hn11, k12⟩ : ∃ n11 : Int64, n11 = (w0 + (-7046029254386353131 : Int64)) ∧ Rch p e below (s₁.setTop (entryFrame m #[(.ref a)] 3)) T8 (mkF m 17 #[.val (.ref a), .val (.long n11), .second] []) := ⟨_, rfl, k10⟩
  have k13 : Rch p e below (s₁.setTop (entryFrame m #[(.ref a)] 3)) T8 (mkF m 28 #[.val (.ref a), .val (.long ((n11 ^^^ ((n11.toUInt64 >>> ((30 : Int32) &&& 0x3f).toInt64.toUInt64).toInt64)) * (-4658895280553007687 : Int64))), .second] []) := fun tg kg => by
    refine k12 tg ?_
    show Steps p.tables e below (T8.setTop (mkF m 17 #[.val (.ref a), .val (.long n11), .second] [])) tg
    refine XS.lloadN X8.here hx rfl (hb hby d4_17) rfl ?_
    show Steps p.tables e below (T8.setTop (mkF m 18 #[.val (.ref a), .val (.long n11), .second] [(.long n11)])) tg
    refine XS.lloadN X8.here hx rfl (hb hby d4_18) rfl ?_
    show Steps p.tables e below (T8.setTop (mkF m 19 #[.val (.ref a), .val (.long n11), .second] [(.long n11), (.long n11)])) tg
    refine XS.bipush X8.here hx rfl (hb hby d4_19) ?_
    show Steps p.tables e below (T8.setTop (mkF m 21 #[.val (.ref a), .val (.long n11), .second] [(.int (30 : Int32)), (.long n11), (.long n11)])) tg
    refine XS.lushr X8.here hx rfl (hb hby d4_21) rfl ?_
    show Steps p.tables e below (T8.setTop (mkF m 22 #[.val (.ref a), .val (.long n11), .second] [(.long ((n11.toUInt64 >>> ((30 : Int32) &&& 0x3f).toInt64.toUInt64).toInt64)), (.long n11)])) tg
    refine XS.lxor X8.here hx rfl (hb hby d4_22) rfl ?_
    show Steps p.tables e below (T8.setTop (mkF m 23 #[.val (.ref a), .val (.long n11), .second] [(.long (n11 ^^^ ((n11.toUInt64 >>> ((30 : Int32) &&& 0x3f).toInt64.toUInt64).toInt64)))])) tg
    refine X8.ldc2Long hx hown (mvT hZ (hw _ (List.mem_of_getElem? (i := 22) rfl))) (g := (mkF m 23 #[.val (.ref a), .val (.long n11), .second] [(.long (n11 ^^^ ((n11.toUInt64 >>> ((30 : Int32) &&& 0x3f).toInt64.toUInt64).toInt64)))])) rfl (hb hby d4_23) _ ?_
    show Steps p.tables e below (T8.setTop (mkF m 26 #[.val (.ref a), .val (.long n11), .second] [(.long (-4658895280553007687 : Int64)), (.long (n11 ^^^ ((n11.toUInt64 >>> ((30 : Int32) &&& 0x3f).toInt64.toUInt64).toInt64)))])) tg
    refine XS.lmul X8.here hx rfl (hb hby d4_26) rfl ?_
    show Steps p.tables e below (T8.setTop (mkF m 27 #[.val (.ref a), .val (.long n11), .second] [(.long ((n11 ^^^ ((n11.toUInt64 >>> ((30 : Int32) &&& 0x3f).toInt64.toUInt64).toInt64)) * (-4658895280553007687 : Int64)))])) tg
    refine XS.lstoreN X8.here hx rfl (hb hby d4_27) rfl (l' := #[.val (.ref a), .val (.long ((n11 ^^^ ((n11.toUInt64 >>> ((30 : Int32) &&& 0x3f).toInt64.toUInt64).toInt64)) * (-4658895280553007687 : Int64))), .second]) rfl ?_
    exact kg
  obtain ⟨n14, hn14, k15⟩ : ∃ n14 : Int64, n14 = ((n11 ^^^ ((n11.toUInt64 >>> ((30 : Int32) &&& 0x3f).toInt64.toUInt64).toInt64)) * (-4658895280553007687 : Int64)) ∧ Rch p e below (s₁.setTop (entryFrame m #[(.ref a)] 3)) T8 (mkF m 28 #[.val (.ref a), .val (.long n14), .second] []) := ⟨_, rfl, k13⟩
  have k16 : Rch p e below (s₁.setTop (entryFrame m #[(.ref a)] 3)) T8 (mkF m 39 #[.val (.ref a), .val (.long ((n14 ^^^ ((n14.toUInt64 >>> ((27 : Int32) &&& 0x3f).toInt64.toUInt64).toInt64)) * (-7723592293110705685 : Int64))), .second] []) := fun tg kg => by
    refine k15 tg ?_
    show Steps p.tables e below (T8.setTop (mkF m 28 #[.val (.ref a), .val (.long n14), .second] [])) tg
    refine XS.lloadN X8.here hx rfl (hb hby d4_28) rfl ?_
    show Steps p.tables e below (T8.setTop (mkF m 29 #[.val (.ref a), .val (.long n14), .second] [(.long n14)])) tg
    refine XS.lloadN X8.here hx rfl (hb hby d4_29) rfl ?_
    show Steps p.tables e below (T8.setTop (mkF m 30 #[.val (.ref a), .val (.long n14), .second] [(.long n14), (.long n14)])) tg
    refine XS.bipush X8.here hx rfl (hb hby d4_30) ?_
    show Steps p.tables e below (T8.setTop (mkF m 32 #[.val (.ref a), .val (.long n14), .second] [(.int (27 : Int32)), (.long n14), (.long n14)])) tg
    refine XS.lushr X8.here hx rfl (hb hby d4_32) rfl ?_
    show Steps p.tables e below (T8.setTop (mkF m 33 #[.val (.ref a), .val (.long n14), .second] [(.long ((n14.toUInt64 >>> ((27 : Int32) &&& 0x3f).toInt64.toUInt64).toInt64)), (.long n14)])) tg
    refine XS.lxor X8.here hx rfl (hb hby d4_33) rfl ?_
    show Steps p.tables e below (T8.setTop (mkF m 34 #[.val (.ref a), .val (.long n14), .second] [(.long (n14 ^^^ ((n14.toUInt64 >>> ((27 : Int32) &&& 0x3f).toInt64.toUInt64).toInt64)))])) tg
    refine X8.ldc2Long hx hown (mvT hZ (hw _ (List.mem_of_getElem? (i := 23) rfl))) (g := (mkF m 34 #[.val (.ref a), .val (.long n14), .second] [(.long (n14 ^^^ ((n14.toUInt64 >>> ((27 : Int32) &&& 0x3f).toInt64.toUInt64).toInt64)))])) rfl (hb hby d4_34) _ ?_
    show Steps p.tables e below (T8.setTop (mkF m 37 #[.val (.ref a), .val (.long n14), .second] [(.long (-7723592293110705685 : Int64)), (.long (n14 ^^^ ((n14.toUInt64 >>> ((27 : Int32) &&& 0x3f).toInt64.toUInt64).toInt64)))])) tg
    refine XS.lmul X8.here hx rfl (hb hby d4_37) rfl ?_
    show Steps p.tables e below (T8.setTop (mkF m 38 #[.val (.ref a), .val (.long n14), .second] [(.long ((n14 ^^^ ((n14.toUInt64 >>> ((27 : Int32) &&& 0x3f).toInt64.toUInt64).toInt64)) * (-7723592293110705685 : Int64)))])) tg
    refine XS.lstoreN X8.here hx rfl (hb hby d4_38) rfl (l' := #[.val (.ref a), .val (.long ((n14 ^^^ ((n14.toUInt64 >>> ((27 : Int32) &&& 0x3f).toInt64.toUInt64).toInt64)) * (-7723592293110705685 : Int64))), .second]) rfl ?_
    exact kg
  obtain ⟨n17, hn17, k18⟩ : ∃ n17 : Int64, n17 = ((n14 ^^^ ((n14.toUInt64 >>> ((27 : Int32) &&& 0x3f).toInt64.toUInt64).toInt64)) * (-7723592293110705685 : Int64)) ∧ Rch p e below (s₁.setTop (entryFrame m #[(.ref a)] 3)) T8 (mkF m 39 #[.val (.ref a), .val (.long n17), .second] []) := ⟨_, rfl, k16⟩
  have k19 : Rch p e below (s₁.setTop (entryFrame m #[(.ref a)] 3)) T8 (mkF m 45 #[.val (.ref a), .val (.long n17), .second] [(.long (n17 ^^^ ((n17.toUInt64 >>> ((31 : Int32) &&& 0x3f).toInt64.toUInt64).toInt64)))]) := fun tg kg => by
    refine k18 tg ?_
    show Steps p.tables e below (T8.setTop (mkF m 39 #[.val (.ref a), .val (.long n17), .second] [])) tg
    refine XS.lloadN X8.here hx rfl (hb hby d4_39) rfl ?_
    show Steps p.tables e below (T8.setTop (mkF m 40 #[.val (.ref a), .val (.long n17), .second] [(.long n17)])) tg
    refine XS.lloadN X8.here hx rfl (hb hby d4_40) rfl ?_
    show Steps p.tables e below (T8.setTop (mkF m 41 #[.val (.ref a), .val (.long n17), .second] [(.long n17), (.long n17)])) tg
    refine XS.bipush X8.here hx rfl (hb hby d4_41) ?_
    show Steps p.tables e below (T8.setTop (mkF m 43 #[.val (.ref a), .val (.long n17), .second] [(.int (31 : Int32)), (.long n17), (.long n17)])) tg
    refine XS.lushr X8.here hx rfl (hb hby d4_43) rfl ?_
    show Steps p.tables e below (T8.setTop (mkF m 44 #[.val (.ref a), .val (.long n17), .second] [(.long ((n17.toUInt64 >>> ((31 : Int32) &&& 0x3f).toInt64.toUInt64).toInt64)), (.long n17)])) tg
    refine XS.lxor X8.here hx rfl (hb hby d4_44) rfl ?_
    exact kg
  have f20 : Exa Z h5 a "com/example/lightweave/lightweave/SplitMix64" := (E_a.wr W5)
  obtain ⟨fs21, hr21, hrun21, hended21, hW21, hsame21⟩ := X8.leave (v := some (.long (n17 ^^^ ((n17.toUInt64 >>> ((31 : Int32) &&& 0x3f).toInt64.toUInt64).toInt64)))) (fun h => by rw [Bd.returns] at h; cases h)
  refine ⟨_, _, k19 _ ?_, hrun21, hended21, _, _, rfl, ?_, ⟨_, rfl⟩, hW21, hsame21.mono (by decide) (by decide)⟩
  · exact retOut X8 hx Bd.returns rfl (Or.inr (Or.inl ⟨rfl, rfl, _, rfl⟩)) (hb hby d4_45) hr21
  · show Q_rm_next Z a w0 h0 n0 _ T8.heap _
    rw [e8]
    exact ⟨(by rw [hn17, hn14, hn11]; rfl), N5, ((Keep.refl h0 [a]).wr W5 (Or.inl (List.mem_of_getElem? (i := 0) rfl))), f20, Fw5⟩
theorem ef_rm_dbl (m : MethodId) (x0 : Addr) : entryFrame m #[(.ref x0)] 1 = mkF m 0 #[.val (.ref x0)] [] := by first | (simp [entryFrame, mkF, argsToLocals, Value.category]; done) | rfl
def Q_rm_dbl (Z : State) (a : Addr) (w0 : Int64) (h0 : Heap) (n0 : Nat) (v : Option Value) (h : Heap) (L : List Loc) : Prop := (v = some (.double (FP.dmul (FP.l2d (own_sh (own_mix (w0 + (-7046029254386353131 : Int64))) (11 : Int32))) (4368491638549381120 : UInt64)))) ∧ (Fr n0 L) ∧ (Keep h0 h [a]) ∧ (Exa Z h a "com/example/lightweave/lightweave/SplitMix64") ∧ (Fld Z h a "com/example/lightweave/lightweave/SplitMix64" "state" "J" (.long (w0 + (-7046029254386353131 : Int64))))
theorem d3_0 : decode prog_29_method_3_code 0 = .ok (.aload_n 0, 1) := by decide +kernel
theorem pd_0 : parseMethodDescriptor "()J" = some ⟨[], some .long⟩ := by decide +kernel
theorem d3_1 : decode prog_29_method_3_code 1 = .ok (.invokevirtual 19, 3) := by decide +kernel
theorem d3_4 : decode prog_29_method_3_code 4 = .ok (.bipush 11, 2) := by decide +kernel
theorem d3_6 : decode prog_29_method_3_code 6 = .ok (.lushr, 1) := by decide +kernel
theorem d3_7 : decode prog_29_method_3_code 7 = .ok (.l2d, 1) := by decide +kernel
theorem d3_8 : decode prog_29_method_3_code 8 = .ok (.ldc2_w 23, 3) := by decide +kernel
theorem d3_11 : decode prog_29_method_3_code 11 = .ok (.dmul, 1) := by decide +kernel
theorem d3_12 : decode prog_29_method_3_code 12 = .ok (.dreturn, 1) := by decide +kernel
set_option maxRecDepth 65536 in
set_option maxHeartbeats 40000000 in
theorem rm_dbl (l : Launch) (Z : State) (a0 : Array Value) (hw : ∀ d ∈ tables_1, d.before a0 Z = true) (ws : List Jvm.Cond) (a : Addr) (w0 : Int64) (h0 : Heap) (n0 : Nat) (Z0 : n0 ≤ h0.size) (E_a : Exa Z h0 a "com/example/lightweave/lightweave/SplitMix64") (F_a : Fld Z h0 a "com/example/lightweave/lightweave/SplitMix64" "state" "J" (.long w0)) (g_a : n0 ≤ a) :
    Con l Z (⟨"com/example/lightweave/lightweave/SplitMix64", "nextDouble", "()D"⟩ : MethodName) prog_29_method_3_code 1 (some .double) ws ({ frames := 1, cells := 0, slots := 0, locals := 14 } : Room) #[(.ref a)] h0 (Q_rm_dbl Z a w0 h0 n0) := by
  refine MetFree.of_bodySF (plainFor_of_name pn_SplitMix64) hisR ?_
  intro p e s m args below meth c s₁ Bd hml0 hP hK
  obtain ⟨rfl, hZ, hh⟩ := hP
  have hx := Bd.exec
  have hby := Bd.bytes
  have hml : c.maxLocals = 1 := hml0
  have hown : s.vm.findClass "com/example/lightweave/lightweave/SplitMix64" = some m.cls := findClass_of_methodNamed Bd.named
  have hnm := (name_of_methodNamed Bd.named Bd.method).1
  have X0 : Stand p l e ({ frames := 1, cells := 0, slots := 0, locals := 14 } : Room) s m #[(.ref a)] below meth c s₁ [] 0 0 := Stand.of_body Bd
  have e0 : s₁.heap = h0 := by rw [← hh, Bd.state]; rfl
  have N0 := Fr.nil n0
  have k0 : Rch p e below (s₁.setTop (entryFrame m #[(.ref a)] 1)) s₁ (mkF m 0 #[.val (.ref a)] []) := fun tg kg => castTop (ef_rm_dbl m a) kg
  have lt_E_a := own_ltN E_a.lt
  have lt_F_a := own_ltN F_a.lt
  have k1 : Rch p e below (s₁.setTop (entryFrame m #[(.ref a)] 1)) s₁ (mkF m 1 #[.val (.ref a)] [(.ref a)]) := fun tg kg => by
    refine k0 tg ?_
    show Steps p.tables e below (s₁.setTop (mkF m 0 #[.val (.ref a)] [])) tg
    refine XS.aloadN X0.here hx rfl (hb hby d3_0) rfl rfl ?_
    exact kg
  obtain ⟨v2, T2, h2, Lc2, X2, e2, hQ2, st2⟩ := own_callV X0 hx hZ hown (hw _ (List.mem_of_getElem? (i := 16) rfl)) (hw _ (List.mem_of_getElem? (i := 17) rfl)) (notFace_of_selects (args := #[]) (mvT hZ (hw _ (List.mem_of_getElem? (i := 19) rfl)))) (hw _ (List.mem_of_getElem? (i := 19) rfl)) (hw _ (List.mem_of_getElem? (i := 18) rfl)) (hw _ (List.mem_of_getElem? (i := 20) rfl)) (hw _ (List.mem_of_getElem? (i := 2) rfl)) (by decide) (rm_next l Z a0 hw [] a w0 h0 n0 (by omega) E_a F_a g_a) e0 E_a (g := (mkF m 1 #[.val (.ref a)] [(.ref a)])) rfl (by rw [hml]; rfl) (argsL := []) (rest := []) rfl (lenOf pd_0 rfl) rfl (W := 0) (by show 2 * 0 + _ ≤ _; exact Nat.le_of_eq rfl) (hb hby d3_1) (by decide) (by decide) (by decide) (by decide)
  obtain ⟨rfl, Nq2, K2, fq2_3, fq2_4⟩ := hQ2
  have N2 := Fr.app N0 Nq2
  have s2 : h0.size ≤ h2.size := K2.1
  have k3 : Rch p e below (s₁.setTop (entryFrame m #[(.ref a)] 1)) T2 (mkF m 4 #[.val (.ref a)] [(.long (own_mix (w0 + (-7046029254386353131 : Int64))))]) := fun tg kg => k1 tg (st2 tg kg)
  have lt_fq2_3 := own_ltN fq2_3.lt
  have lt_fq2_4 := own_ltN fq2_4.lt
  have k4 : Rch p e below (s₁.setTop (entryFrame m #[(.ref a)] 1)) T2 (mkF m 7 #[.val (.ref a)] [(.long (((own_mix (w0 + (-7046029254386353131 : Int64))).toUInt64 >>> ((11 : Int32) &&& 0x3f).toInt64.toUInt64).toInt64))]) := fun tg kg => by
    refine k3 tg ?_
    show Steps p.tables e below (T2.setTop (mkF m 4 #[.val (.ref a)] [(.long (own_mix (w0 + (-7046029254386353131 : Int64))))])) tg
    refine XS.bipush X2.here hx rfl (hb hby d3_4) ?_
    show Steps p.tables e below (T2.setTop (mkF m 6 #[.val (.ref a)] [(.int (11 : Int32)), (.long (own_mix (w0 + (-7046029254386353131 : Int64))))])) tg
    refine XS.lushr X2.here hx rfl (hb hby d3_6) rfl ?_
    exact kg
  obtain ⟨n5, hn5, k6⟩ : ∃ n5 : Int64, n5 = (((own_mix (w0 + (-7046029254386353131 : Int64))).toUInt64 >>> ((11 : Int32) &&& 0x3f).toInt64.toUInt64).toInt64) ∧ Rch p e below (s₁.setTop (entryFrame m #[(.ref a)] 1)) T2 (mkF m 7 #[.val (.ref a)] [(.long n5)]) := ⟨_, rfl, k4⟩
  have htp : n5 = (own_sh (own_mix (w0 + (-7046029254386353131 : Int64))) (11 : Int32)) := hn5
  obtain ⟨t1, t2⟩ : 0 ≤ n5.toInt ∧ n5.toInt < 9007199254740992 := by rw [htp]; exact own_top _
  obtain ⟨nn1, nn2, nn3, nn4, nn5⟩ := own_fl n5 t1 t2
  have k7 : Rch p e below (s₁.setTop (entryFrame m #[(.ref a)] 1)) T2 (mkF m 12 #[.val (.ref a)] [(.double (FP.dmul (FP.l2d n5) (4368491638549381120 : UInt64)))]) := fun tg kg => by
    refine k6 tg ?_
    show Steps p.tables e below (T2.setTop (mkF m 7 #[.val (.ref a)] [(.long n5)])) tg
    refine XS.l2dS X2.here hx rfl (hb hby d3_7) rfl rfl ?_
    show Steps p.tables e below (T2.setTop (mkF m 8 #[.val (.ref a)] [(.double (FP.l2d n5))])) tg
    refine X2.ldc2DoubleC hx hown (mvT hZ (hw _ (List.mem_of_getElem? (i := 24) rfl))) (g := (mkF m 8 #[.val (.ref a)] [(.double (FP.l2d n5))])) rfl (hb hby d3_8) _ ?_
    show Steps p.tables e below (T2.setTop (mkF m 11 #[.val (.ref a)] [(.double (4368491638549381120 : UInt64)), (.double (FP.l2d n5))])) tg
    refine XS.dmulS X2.here hx rfl (hb hby d3_11) rfl nn1 rfl ?_
    exact kg
  obtain ⟨fs8, hr8, hrun8, hended8, hW8, hsame8⟩ := X2.leave (v := some (.double (FP.dmul (FP.l2d n5) (4368491638549381120 : UInt64)))) (fun h => by rw [Bd.returns] at h; cases h)
  refine ⟨_, _, k7 _ ?_, hrun8, hended8, _, _, rfl, ?_, ⟨_, rfl⟩, hW8, hsame8.mono (by decide) (by decide)⟩
  · exact retOut X2 hx Bd.returns rfl (Or.inr (Or.inr (Or.inl ⟨rfl, rfl, _, rfl⟩))) (hb hby d3_12) hr8
  · show Q_rm_dbl Z a w0 h0 n0 _ T2.heap _
    rw [e2]
    exact ⟨(by rw [← htp]), N2, ((Keep.refl h0 [a]).trans K2 (allS (Or.inl (List.mem_of_getElem? (i := 0) rfl)) all0)), fq2_3, fq2_4⟩
theorem pn_SplitMix64NextDoublePinLaw : plainName "com/example/lightweave/lightweave/SplitMix64NextDoublePinLaw" = true := by first | (simp [plainName, overriddenIn]; done) | decide +kernel
theorem ef_rm0 (m : MethodId) (x0 : Int64) : entryFrame m #[(.long x0)] maxLocals = mkF m 0 #[.val (.long x0), .second, .unset, .unset, .unset, .unset, .unset, .unset, .unset, .unset, .unset, .unset, .unset, .unset] [] := by first | (simp [entryFrame, mkF, argsToLocals, Value.category, maxLocals]; done) | rfl
def Q_rm0 (Z : State) (q1 : Int64) (h0 : Heap) (n0 : Nat) (v : Option Value) (h : Heap) (L : List Loc) : Prop := (v = some (.int 1)) ∧ (Fr n0 L)
theorem pd_1 : parseMethodDescriptor "(J)V" = some ⟨[.long], none⟩ := by decide +kernel
theorem pd_2 : parseMethodDescriptor "()D" = some ⟨[], some .double⟩ := by decide +kernel
set_option maxRecDepth 65536 in
set_option maxHeartbeats 40000000 in
theorem rm0 (l : Launch) (Z : State) (a0 : Array Value) (hw : ∀ d ∈ tables_1, d.before a0 Z = true) (ws : List Jvm.Cond) (q1 : Int64) (h0 : Heap) (n0 : Nat) (Z0 : n0 ≤ h0.size)  :
    Con l Z x code maxLocals ret ws room_1 #[(.long q1)] h0 (Q_rm0 Z q1 h0 n0) := by
  refine MetFree.of_bodySF (plainFor_of_name pn_SplitMix64NextDoublePinLaw) hisR ?_
  intro p e s m args below meth c s₁ Bd hml0 hP hK
  obtain ⟨rfl, hZ, hh⟩ := hP
  have hx := Bd.exec
  have hby := Bd.bytes
  have hml : c.maxLocals = 14 := hml0
  have hown : s.vm.findClass "com/example/lightweave/lightweave/SplitMix64NextDoublePinLaw" = some m.cls := findClass_of_methodNamed Bd.named
  have hnm := (name_of_methodNamed Bd.named Bd.method).1
  have X0 : Stand p l e room_1 s m #[(.long q1)] below meth c s₁ [] 0 0 := Stand.of_body Bd
  have e0 : s₁.heap = h0 := by rw [← hh, Bd.state]; rfl
  have N0 := Fr.nil n0
  have k0 : Rch p e below (s₁.setTop (entryFrame m #[(.long q1)] maxLocals)) s₁ (mkF m 0 #[.val (.long q1), .second, .unset, .unset, .unset, .unset, .unset, .unset, .unset, .unset, .unset, .unset, .unset, .unset] []) := fun tg kg => castTop (ef_rm0 m q1) kg
  obtain ⟨T1, h1, X1, e1, E1, A1, D1, -, st1⟩ := newO X0 hx hZ hown (hw _ (List.mem_of_getElem? (i := 0) rfl)) (hw _ (List.mem_of_getElem? (i := 1) rfl)) (hw _ (List.mem_of_getElem? (i := 2) rfl)) e0 (g := (mkF m 0 #[.val (.long q1), .second, .unset, .unset, .unset, .unset, .unset, .unset, .unset, .unset, .unset, .unset, .unset, .unset] [])) rfl (hb hby at_0) (by decide) (by decide)
  obtain ⟨b1, g1⟩ : ∃ z, z = h0.size := ⟨_, rfl⟩
  rw [← g1] at A1 D1 st1
  have s1 : h0.size ≤ h1.size := E1.1
  have lt1 : b1 < h1.size := A1.lt
  have k2 : Rch p e below (s₁.setTop (entryFrame m #[(.long q1)] maxLocals)) T1 (mkF m 3 #[.val (.long q1), .second, .unset, .unset, .unset, .unset, .unset, .unset, .unset, .unset, .unset, .unset, .unset, .unset] [(.ref b1)]) := fun tg kg => k0 tg (st1 tg kg)
  have F1_state : Fld Z h1 b1 "com/example/lightweave/lightweave/SplitMix64" "state" "J" (.long (0 : Int64)) := D1 (Or.inl (hw _ (List.mem_of_getElem? (i := 10) rfl))) (ty := .long) (by decide)
  have k3 : Rch p e below (s₁.setTop (entryFrame m #[(.long q1)] maxLocals)) T1 (mkF m 5 #[.val (.long q1), .second, .unset, .unset, .unset, .unset, .unset, .unset, .unset, .unset, .unset, .unset, .unset, .unset] [(.long q1), (.ref b1), (.ref b1)]) := fun tg kg => by
    refine k2 tg ?_
    show Steps p.tables e below (T1.setTop (mkF m 3 #[.val (.long q1), .second, .unset, .unset, .unset, .unset, .unset, .unset, .unset, .unset, .unset, .unset, .unset, .unset] [(.ref b1)])) tg
    refine XS.dup X1.here hx rfl (hb hby at_3) rfl rfl ?_
    show Steps p.tables e below (T1.setTop (mkF m 4 #[.val (.long q1), .second, .unset, .unset, .unset, .unset, .unset, .unset, .unset, .unset, .unset, .unset, .unset, .unset] [(.ref b1), (.ref b1)])) tg
    refine XS.lloadN X1.here hx rfl (hb hby at_4) rfl ?_
    exact kg
  obtain ⟨v4, T4, h4, Lc4, X4, e4, hQ4, st4⟩ := own_callC X1 hx hZ rfl hown (hw _ (List.mem_of_getElem? (i := 3) rfl)) (hw _ (List.mem_of_getElem? (i := 4) rfl)) (hw _ (List.mem_of_getElem? (i := 2) rfl)) (hw _ (List.mem_of_getElem? (i := 5) rfl)) (by decide) (rm_init l Z a0 hw [] b1 q1 (.long (0 : Int64)) h1 n0 (by omega) A1 F1_state (by omega)) e1 (a := b1) (g := (mkF m 5 #[.val (.long q1), .second, .unset, .unset, .unset, .unset, .unset, .unset, .unset, .unset, .unset, .unset, .unset, .unset] [(.long q1), (.ref b1), (.ref b1)])) rfl (by rw [hml]; rfl) (argsL := [(.long q1)]) (rest := [(.ref b1)]) rfl (lenOf pd_1 rfl) rfl (W := 1) (by show 2 * 0 + _ ≤ _; exact Nat.le_of_eq rfl) (hb hby at_5) (by decide) (by decide) (by decide) (by decide)
  obtain ⟨rfl, Nq4, K4, fq4_3, fq4_4⟩ := hQ4
  have N4 := Fr.app N0 Nq4
  have s4 : h1.size ≤ h4.size := K4.1
  have k5 : Rch p e below (s₁.setTop (entryFrame m #[(.long q1)] maxLocals)) T4 (mkF m 8 #[.val (.long q1), .second, .unset, .unset, .unset, .unset, .unset, .unset, .unset, .unset, .unset, .unset, .unset, .unset] [(.ref b1)]) := fun tg kg => k3 tg (st4 tg kg)
  have lt_fq4_3 := own_ltN fq4_3.lt
  have lt_fq4_4 := own_ltN fq4_4.lt
  have k6 : Rch p e below (s₁.setTop (entryFrame m #[(.long q1)] maxLocals)) T4 (mkF m 9 #[.val (.long q1), .second, .val (.ref b1), .unset, .unset, .unset, .unset, .unset, .unset, .unset, .unset, .unset, .unset, .unset] []) := fun tg kg => by
    refine k5 tg ?_
    show Steps p.tables e below (T4.setTop (mkF m 8 #[.val (.long q1), .second, .unset, .unset, .unset, .unset, .unset, .unset, .unset, .unset, .unset, .unset, .unset, .unset] [(.ref b1)])) tg
    refine XS.astoreN X4.here hx rfl (hb hby at_8) rfl rfl (l' := #[.val (.long q1), .second, .val (.ref b1), .unset, .unset, .unset, .unset, .unset, .unset, .unset, .unset, .unset, .unset, .unset]) rfl ?_
    exact kg
  obtain ⟨T7, h7, X7, e7, E7, A7, D7, -, st7⟩ := newO X4 hx hZ hown (hw _ (List.mem_of_getElem? (i := 0) rfl)) (hw _ (List.mem_of_getElem? (i := 1) rfl)) (hw _ (List.mem_of_getElem? (i := 2) rfl)) e4 (g := (mkF m 9 #[.val (.long q1), .second, .val (.ref b1), .unset, .unset, .unset, .unset, .unset, .unset, .unset, .unset, .unset, .unset, .unset] [])) rfl (hb hby at_9) (by decide) (by decide)
  obtain ⟨b7, g7⟩ : ∃ z, z = h4.size := ⟨_, rfl⟩
  rw [← g7] at A7 D7 st7
  have s7 : h4.size ≤ h7.size := E7.1
  have lt7 : b7 < h7.size := A7.lt
  have k8 : Rch p e below (s₁.setTop (entryFrame m #[(.long q1)] maxLocals)) T7 (mkF m 12 #[.val (.long q1), .second, .val (.ref b1), .unset, .unset, .unset, .unset, .unset, .unset, .unset, .unset, .unset, .unset, .unset] [(.ref b7)]) := fun tg kg => k6 tg (st7 tg kg)
  have F7_state : Fld Z h7 b7 "com/example/lightweave/lightweave/SplitMix64" "state" "J" (.long (0 : Int64)) := D7 (Or.inl (hw _ (List.mem_of_getElem? (i := 10) rfl))) (ty := .long) (by decide)
  have k9 : Rch p e below (s₁.setTop (entryFrame m #[(.long q1)] maxLocals)) T7 (mkF m 14 #[.val (.long q1), .second, .val (.ref b1), .unset, .unset, .unset, .unset, .unset, .unset, .unset, .unset, .unset, .unset, .unset] [(.long q1), (.ref b7), (.ref b7)]) := fun tg kg => by
    refine k8 tg ?_
    show Steps p.tables e below (T7.setTop (mkF m 12 #[.val (.long q1), .second, .val (.ref b1), .unset, .unset, .unset, .unset, .unset, .unset, .unset, .unset, .unset, .unset, .unset] [(.ref b7)])) tg
    refine XS.dup X7.here hx rfl (hb hby at_12) rfl rfl ?_
    show Steps p.tables e below (T7.setTop (mkF m 13 #[.val (.long q1), .second, .val (.ref b1), .unset, .unset, .unset, .unset, .unset, .unset, .unset, .unset, .unset, .unset, .unset] [(.ref b7), (.ref b7)])) tg
    refine XS.lloadN X7.here hx rfl (hb hby at_13) rfl ?_
    exact kg
  obtain ⟨v10, T10, h10, Lc10, X10, e10, hQ10, st10⟩ := own_callC X7 hx hZ rfl hown (hw _ (List.mem_of_getElem? (i := 3) rfl)) (hw _ (List.mem_of_getElem? (i := 4) rfl)) (hw _ (List.mem_of_getElem? (i := 2) rfl)) (hw _ (List.mem_of_getElem? (i := 5) rfl)) (by decide) (rm_init l Z a0 hw [] b7 q1 (.long (0 : Int64)) h7 n0 (by omega) A7 F7_state (by omega)) e7 (a := b7) (g := (mkF m 14 #[.val (.long q1), .second, .val (.ref b1), .unset, .unset, .unset, .unset, .unset, .unset, .unset, .unset, .unset, .unset, .unset] [(.long q1), (.ref b7), (.ref b7)])) rfl (by rw [hml]; rfl) (argsL := [(.long q1)]) (rest := [(.ref b7)]) rfl (lenOf pd_1 rfl) rfl (W := 1) (by show 2 * 0 + _ ≤ _; exact Nat.le_of_eq rfl) (hb hby at_14) (by decide) (by decide) (by decide) (by decide)
  obtain ⟨rfl, Nq10, K10, fq10_3, fq10_4⟩ := hQ10
  have N10 := Fr.app N4 Nq10
  have s10 : h7.size ≤ h10.size := K10.1
  have k11 : Rch p e below (s₁.setTop (entryFrame m #[(.long q1)] maxLocals)) T10 (mkF m 17 #[.val (.long q1), .second, .val (.ref b1), .unset, .unset, .unset, .unset, .unset, .unset, .unset, .unset, .unset, .unset, .unset] [(.ref b7)]) := fun tg kg => k9 tg (st10 tg kg)
  have lt_fq10_3 := own_ltN fq10_3.lt
  have lt_fq10_4 := own_ltN fq10_4.lt
  have k12 : Rch p e below (s₁.setTop (entryFrame m #[(.long q1)] maxLocals)) T10 (mkF m 19 #[.val (.long q1), .second, .val (.ref b1), .val (.ref b7), .unset, .unset, .unset, .unset, .unset, .unset, .unset, .unset, .unset, .unset] [(.ref b1)]) := fun tg kg => by
    refine k11 tg ?_
    show Steps p.tables e below (T10.setTop (mkF m 17 #[.val (.long q1), .second, .val (.ref b1), .unset, .unset, .unset, .unset, .unset, .unset, .unset, .unset, .unset, .unset, .unset] [(.ref b7)])) tg
    refine XS.astoreN X10.here hx rfl (hb hby at_17) rfl rfl (l' := #[.val (.long q1), .second, .val (.ref b1), .val (.ref b7), .unset, .unset, .unset, .unset, .unset, .unset, .unset, .unset, .unset, .unset]) rfl ?_
    show Steps p.tables e below (T10.setTop (mkF m 18 #[.val (.long q1), .second, .val (.ref b1), .val (.ref b7), .unset, .unset, .unset, .unset, .unset, .unset, .unset, .unset, .unset, .unset] [])) tg
    refine XS.aloadN X10.here hx rfl (hb hby at_18) rfl rfl ?_
    exact kg
  have f14 : Exa Z h10 b1 "com/example/lightweave/lightweave/SplitMix64" := ((fq4_3.ext E7).keep K10)
  have f15 : Fld Z h10 b1 "com/example/lightweave/lightweave/SplitMix64" "state" "J" (.long q1) := ((fq4_4.ext E7).keep K10 (ninS (by first | exact own_ne (by omega) | assumption | (apply Ne.symm; assumption)) nin0))
  obtain ⟨v13, T13, h13, Lc13, X13, e13, hQ13, st13⟩ := own_callV X10 hx hZ hown (hw _ (List.mem_of_getElem? (i := 11) rfl)) (hw _ (List.mem_of_getElem? (i := 12) rfl)) (notFace_of_selects (args := #[]) (mvT hZ (hw _ (List.mem_of_getElem? (i := 14) rfl)))) (hw _ (List.mem_of_getElem? (i := 14) rfl)) (hw _ (List.mem_of_getElem? (i := 13) rfl)) (hw _ (List.mem_of_getElem? (i := 15) rfl)) (hw _ (List.mem_of_getElem? (i := 2) rfl)) (by decide) (rm_dbl l Z a0 hw [] b1 q1 h10 n0 (by omega) f14 f15 (by omega)) e10 f14 (g := (mkF m 19 #[.val (.long q1), .second, .val (.ref b1), .val (.ref b7), .unset, .unset, .unset, .unset, .unset, .unset, .unset, .unset, .unset, .unset] [(.ref b1)])) rfl (by rw [hml]; rfl) (argsL := []) (rest := []) rfl (lenOf pd_2 rfl) rfl (W := 0) (by show 2 * 0 + _ ≤ _; exact Nat.le_of_eq rfl) (hb hby at_19) (by decide) (by decide) (by decide) (by decide)
  obtain ⟨rfl, Nq13, K13, fq13_3, fq13_4⟩ := hQ13
  have N13 := Fr.app N10 Nq13
  have s13 : h10.size ≤ h13.size := K13.1
  have k16 : Rch p e below (s₁.setTop (entryFrame m #[(.long q1)] maxLocals)) T13 (mkF m 22 #[.val (.long q1), .second, .val (.ref b1), .val (.ref b7), .unset, .unset, .unset, .unset, .unset, .unset, .unset, .unset, .unset, .unset] [(.double (FP.dmul (FP.l2d (own_sh (own_mix (q1 + (-7046029254386353131 : Int64))) (11 : Int32))) (4368491638549381120 : UInt64)))]) := fun tg kg => k12 tg (st13 tg kg)
  have lt_fq13_3 := own_ltN fq13_3.lt
  have lt_fq13_4 := own_ltN fq13_4.lt
  obtain ⟨tp, htp⟩ : ∃ tp : Int64, tp = (own_sh (own_mix (q1 + (-7046029254386353131 : Int64))) (11 : Int32)) := ⟨_, rfl⟩
  obtain ⟨t1, t2⟩ : 0 ≤ tp.toInt ∧ tp.toInt < 9007199254740992 := by rw [htp]; exact own_top _
  obtain ⟨nn1, nn2, nn3, nn4, nn5⟩ := own_fl tp t1 t2
  have k17 : Rch p e below (s₁.setTop (entryFrame m #[(.long q1)] maxLocals)) T13 (mkF m 22 #[.val (.long q1), .second, .val (.ref b1), .val (.ref b7), .unset, .unset, .unset, .unset, .unset, .unset, .unset, .unset, .unset, .unset] [(.double (FP.dmul (FP.l2d tp) (4368491638549381120 : UInt64)))]) := by rw [htp]; exact k16
  have k18 : Rch p e below (s₁.setTop (entryFrame m #[(.long q1)] maxLocals)) T13 (mkF m 24 #[.val (.long q1), .second, .val (.ref b1), .val (.ref b7), .val (.double (FP.dmul (FP.l2d tp) (4368491638549381120 : UInt64))), .second, .unset, .unset, .unset, .unset, .unset, .unset, .unset, .unset] []) := fun tg kg => by
    refine k17 tg ?_
    show Steps p.tables e below (T13.setTop (mkF m 22 #[.val (.long q1), .second, .val (.ref b1), .val (.ref b7), .unset, .unset, .unset, .unset, .unset, .unset, .unset, .unset, .unset, .unset] [(.double (FP.dmul (FP.l2d tp) (4368491638549381120 : UInt64)))])) tg
    refine XS.dstore X13.here hx rfl (hb hby at_22) rfl (l' := #[.val (.long q1), .second, .val (.ref b1), .val (.ref b7), .val (.double (FP.dmul (FP.l2d tp) (4368491638549381120 : UInt64))), .second, .unset, .unset, .unset, .unset, .unset, .unset, .unset, .unset]) rfl ?_
    exact kg
  obtain ⟨d, hd, k19⟩ : ∃ d : UInt64, d = (FP.dmul (FP.l2d tp) (4368491638549381120 : UInt64)) ∧ Rch p e below (s₁.setTop (entryFrame m #[(.long q1)] maxLocals)) T13 (mkF m 24 #[.val (.long q1), .second, .val (.ref b1), .val (.ref b7), .val (.double d), .second, .unset, .unset, .unset, .unset, .unset, .unset, .unset, .unset] []) := ⟨_, rfl, k18⟩
  rw [← hd] at nn1 nn2 nn3 nn4 nn5
  have k20 : Rch p e below (s₁.setTop (entryFrame m #[(.long q1)] maxLocals)) T13 (mkF m 25 #[.val (.long q1), .second, .val (.ref b1), .val (.ref b7), .val (.double d), .second, .unset, .unset, .unset, .unset, .unset, .unset, .unset, .unset] [(.ref b7)]) := fun tg kg => by
    refine k19 tg ?_
    show Steps p.tables e below (T13.setTop (mkF m 24 #[.val (.long q1), .second, .val (.ref b1), .val (.ref b7), .val (.double d), .second, .unset, .unset, .unset, .unset, .unset, .unset, .unset, .unset] [])) tg
    refine XS.aloadN X13.here hx rfl (hb hby at_24) rfl rfl ?_
    exact kg
  have f22 : Exa Z h13 b7 "com/example/lightweave/lightweave/SplitMix64" := (fq10_3.keep K13)
  have f23 : Fld Z h13 b7 "com/example/lightweave/lightweave/SplitMix64" "state" "J" (.long q1) := (fq10_4.keep K13 (ninS (by first | exact own_ne (by omega) | assumption | (apply Ne.symm; assumption)) nin0))
  obtain ⟨v21, T21, h21, Lc21, X21, e21, hQ21, st21⟩ := own_callV X13 hx hZ hown (hw _ (List.mem_of_getElem? (i := 25) rfl)) (hw _ (List.mem_of_getElem? (i := 17) rfl)) (notFace_of_selects (args := #[]) (mvT hZ (hw _ (List.mem_of_getElem? (i := 19) rfl)))) (hw _ (List.mem_of_getElem? (i := 19) rfl)) (hw _ (List.mem_of_getElem? (i := 18) rfl)) (hw _ (List.mem_of_getElem? (i := 20) rfl)) (hw _ (List.mem_of_getElem? (i := 2) rfl)) (by decide) (rm_next l Z a0 hw [] b7 q1 h13 n0 (by omega) f22 f23 (by omega)) e13 f22 (g := (mkF m 25 #[.val (.long q1), .second, .val (.ref b1), .val (.ref b7), .val (.double d), .second, .unset, .unset, .unset, .unset, .unset, .unset, .unset, .unset] [(.ref b7)])) rfl (by rw [hml]; rfl) (argsL := []) (rest := []) rfl (lenOf pd_0 rfl) rfl (W := 0) (by show 2 * 0 + _ ≤ _; exact Nat.le_of_eq rfl) (hb hby at_25) (by decide) (by decide) (by decide) (by decide)
  obtain ⟨rfl, Nq21, K21, fq21_3, fq21_4⟩ := hQ21
  have N21 := Fr.app N13 Nq21
  have s21 : h13.size ≤ h21.size := K21.1
  have k24 : Rch p e below (s₁.setTop (entryFrame m #[(.long q1)] maxLocals)) T21 (mkF m 28 #[.val (.long q1), .second, .val (.ref b1), .val (.ref b7), .val (.double d), .second, .unset, .unset, .unset, .unset, .unset, .unset, .unset, .unset] [(.long (own_mix (q1 + (-7046029254386353131 : Int64))))]) := fun tg kg => k20 tg (st21 tg kg)
  have lt_fq21_3 := own_ltN fq21_3.lt
  have lt_fq21_4 := own_ltN fq21_4.lt
  have k25 : Rch p e below (s₁.setTop (entryFrame m #[(.long q1)] maxLocals)) T21 (mkF m 33 #[.val (.long q1), .second, .val (.ref b1), .val (.ref b7), .val (.double d), .second, .val (.long (((own_mix (q1 + (-7046029254386353131 : Int64))).toUInt64 >>> ((11 : Int32) &&& 0x3f).toInt64.toUInt64).toInt64)), .second, .unset, .unset, .unset, .unset, .unset, .unset] []) := fun tg kg => by
    refine k24 tg ?_
    show Steps p.tables e below (T21.setTop (mkF m 28 #[.val (.long q1), .second, .val (.ref b1), .val (.ref b7), .val (.double d), .second, .unset, .unset, .unset, .unset, .unset, .unset, .unset, .unset] [(.long (own_mix (q1 + (-7046029254386353131 : Int64))))])) tg
    refine XS.bipush X21.here hx rfl (hb hby at_28) ?_
    show Steps p.tables e below (T21.setTop (mkF m 30 #[.val (.long q1), .second, .val (.ref b1), .val (.ref b7), .val (.double d), .second, .unset, .unset, .unset, .unset, .unset, .unset, .unset, .unset] [(.int (11 : Int32)), (.long (own_mix (q1 + (-7046029254386353131 : Int64))))])) tg
    refine XS.lushr X21.here hx rfl (hb hby at_30) rfl ?_
    show Steps p.tables e below (T21.setTop (mkF m 31 #[.val (.long q1), .second, .val (.ref b1), .val (.ref b7), .val (.double d), .second, .unset, .unset, .unset, .unset, .unset, .unset, .unset, .unset] [(.long (((own_mix (q1 + (-7046029254386353131 : Int64))).toUInt64 >>> ((11 : Int32) &&& 0x3f).toInt64.toUInt64).toInt64))])) tg
    refine XS.lstore X21.here hx rfl (hb hby at_31) rfl (l' := #[.val (.long q1), .second, .val (.ref b1), .val (.ref b7), .val (.double d), .second, .val (.long (((own_mix (q1 + (-7046029254386353131 : Int64))).toUInt64 >>> ((11 : Int32) &&& 0x3f).toInt64.toUInt64).toInt64)), .second, .unset, .unset, .unset, .unset, .unset, .unset]) rfl ?_
    exact kg
  obtain ⟨tp2, htp2, k26⟩ : ∃ tp2 : Int64, tp2 = (((own_mix (q1 + (-7046029254386353131 : Int64))).toUInt64 >>> ((11 : Int32) &&& 0x3f).toInt64.toUInt64).toInt64) ∧ Rch p e below (s₁.setTop (entryFrame m #[(.long q1)] maxLocals)) T21 (mkF m 33 #[.val (.long q1), .second, .val (.ref b1), .val (.ref b7), .val (.double d), .second, .val (.long tp2), .second, .unset, .unset, .unset, .unset, .unset, .unset] []) := ⟨_, rfl, k25⟩
  have htt : tp2 = tp := by rw [htp2, htp]; rfl
  have k27 : Rch p e below (s₁.setTop (entryFrame m #[(.long q1)] maxLocals)) T21 (mkF m 63 #[.val (.long q1), .second, .val (.ref b1), .val (.ref b7), .val (.double d), .second, .val (.long tp2), .second, .val (.int (1 : Int32)), .val (.long (FP.d2l (FP.dmul d (4845873199050653696 : UInt64)))), .second, .unset, .unset, .unset] []) := fun tg kg => by
    refine k26 tg ?_
    show Steps p.tables e below (T21.setTop (mkF m 33 #[.val (.long q1), .second, .val (.ref b1), .val (.ref b7), .val (.double d), .second, .val (.long tp2), .second, .unset, .unset, .unset, .unset, .unset, .unset] [])) tg
    refine XS.dload X21.here hx rfl (hb hby at_33) rfl ?_
    show Steps p.tables e below (T21.setTop (mkF m 35 #[.val (.long q1), .second, .val (.ref b1), .val (.ref b7), .val (.double d), .second, .val (.long tp2), .second, .unset, .unset, .unset, .unset, .unset, .unset] [(.double d)])) tg
    refine XS.dconst0 X21.here hx rfl (hb hby at_35) rfl ?_
    show Steps p.tables e below (T21.setTop (mkF m 36 #[.val (.long q1), .second, .val (.ref b1), .val (.ref b7), .val (.double d), .second, .val (.long tp2), .second, .unset, .unset, .unset, .unset, .unset, .unset] [(.double FP.dconst0), (.double d)])) tg
    refine XS.dcmpS X21.here hx rfl (hb hby at_36) rfl rfl ?_
    show Steps p.tables e below (T21.setTop (mkF m 37 #[.val (.long q1), .second, .val (.ref b1), .val (.ref b7), .val (.double d), .second, .val (.long tp2), .second, .unset, .unset, .unset, .unset, .unset, .unset] [(.int (Op.cmpValue (FP.dcmp d FP.dconst0) .l))])) tg
    refine XS.ifNo X21.here hx rfl (hb hby at_37) rfl ((if0 _ _).trans (flt nn4).1) ?_
    show Steps p.tables e below (T21.setTop (mkF m 40 #[.val (.long q1), .second, .val (.ref b1), .val (.ref b7), .val (.double d), .second, .val (.long tp2), .second, .unset, .unset, .unset, .unset, .unset, .unset] [])) tg
    refine XS.dload X21.here hx rfl (hb hby at_40) rfl ?_
    show Steps p.tables e below (T21.setTop (mkF m 42 #[.val (.long q1), .second, .val (.ref b1), .val (.ref b7), .val (.double d), .second, .val (.long tp2), .second, .unset, .unset, .unset, .unset, .unset, .unset] [(.double d)])) tg
    refine XS.dconst1 X21.here hx rfl (hb hby at_42) rfl ?_
    show Steps p.tables e below (T21.setTop (mkF m 43 #[.val (.long q1), .second, .val (.ref b1), .val (.ref b7), .val (.double d), .second, .val (.long tp2), .second, .unset, .unset, .unset, .unset, .unset, .unset] [(.double FP.dconst1), (.double d)])) tg
    refine XS.dcmpS X21.here hx rfl (hb hby at_43) rfl rfl ?_
    show Steps p.tables e below (T21.setTop (mkF m 44 #[.val (.long q1), .second, .val (.ref b1), .val (.ref b7), .val (.double d), .second, .val (.long tp2), .second, .unset, .unset, .unset, .unset, .unset, .unset] [(.int (Op.cmpValue (FP.dcmp d FP.dconst1) .g))])) tg
    refine XS.ifNo X21.here hx rfl (hb hby at_44) rfl ((if0 _ _).trans (tlt nn5).2.1) ?_
    show Steps p.tables e below (T21.setTop (mkF m 47 #[.val (.long q1), .second, .val (.ref b1), .val (.ref b7), .val (.double d), .second, .val (.long tp2), .second, .unset, .unset, .unset, .unset, .unset, .unset] [])) tg
    refine XS.iconst X21.here hx rfl (hb hby at_47) ?_
    show Steps p.tables e below (T21.setTop (mkF m 48 #[.val (.long q1), .second, .val (.ref b1), .val (.ref b7), .val (.double d), .second, .val (.long tp2), .second, .unset, .unset, .unset, .unset, .unset, .unset] [(.int (1 : Int32))])) tg
    refine XS.goto X21.here hx rfl (pc0 := 48) (pc' := 52) rfl (hb hby at_48) (by decide) (by decide) ?_
    show Steps p.tables e below (T21.setTop (mkF m 52 #[.val (.long q1), .second, .val (.ref b1), .val (.ref b7), .val (.double d), .second, .val (.long tp2), .second, .unset, .unset, .unset, .unset, .unset, .unset] [(.int (1 : Int32))])) tg
    refine XS.istore X21.here hx rfl (hb hby at_52) rfl (l' := #[.val (.long q1), .second, .val (.ref b1), .val (.ref b7), .val (.double d), .second, .val (.long tp2), .second, .val (.int (1 : Int32)), .unset, .unset, .unset, .unset, .unset]) rfl ?_
    show Steps p.tables e below (T21.setTop (mkF m 54 #[.val (.long q1), .second, .val (.ref b1), .val (.ref b7), .val (.double d), .second, .val (.long tp2), .second, .val (.int (1 : Int32)), .unset, .unset, .unset, .unset, .unset] [])) tg
    refine XS.dload X21.here hx rfl (hb hby at_54) rfl ?_
    show Steps p.tables e below (T21.setTop (mkF m 56 #[.val (.long q1), .second, .val (.ref b1), .val (.ref b7), .val (.double d), .second, .val (.long tp2), .second, .val (.int (1 : Int32)), .unset, .unset, .unset, .unset, .unset] [(.double d)])) tg
    refine X21.ldc2DoubleC hx hown (mvT hZ (hw _ (List.mem_of_getElem? (i := 26) rfl))) (g := (mkF m 56 #[.val (.long q1), .second, .val (.ref b1), .val (.ref b7), .val (.double d), .second, .val (.long tp2), .second, .val (.int (1 : Int32)), .unset, .unset, .unset, .unset, .unset] [(.double d)])) rfl (hb hby at_56) _ ?_
    show Steps p.tables e below (T21.setTop (mkF m 59 #[.val (.long q1), .second, .val (.ref b1), .val (.ref b7), .val (.double d), .second, .val (.long tp2), .second, .val (.int (1 : Int32)), .unset, .unset, .unset, .unset, .unset] [(.double (4845873199050653696 : UInt64)), (.double d)])) tg
    refine XS.dmulS X21.here hx rfl (hb hby at_59) rfl nn2 rfl ?_
    show Steps p.tables e below (T21.setTop (mkF m 60 #[.val (.long q1), .second, .val (.ref b1), .val (.ref b7), .val (.double d), .second, .val (.long tp2), .second, .val (.int (1 : Int32)), .unset, .unset, .unset, .unset, .unset] [(.double (FP.dmul d (4845873199050653696 : UInt64)))])) tg
    refine XS.d2lS X21.here hx rfl (hb hby at_60) rfl rfl ?_
    show Steps p.tables e below (T21.setTop (mkF m 61 #[.val (.long q1), .second, .val (.ref b1), .val (.ref b7), .val (.double d), .second, .val (.long tp2), .second, .val (.int (1 : Int32)), .unset, .unset, .unset, .unset, .unset] [(.long (FP.d2l (FP.dmul d (4845873199050653696 : UInt64))))])) tg
    refine XS.lstore X21.here hx rfl (hb hby at_61) rfl (l' := #[.val (.long q1), .second, .val (.ref b1), .val (.ref b7), .val (.double d), .second, .val (.long tp2), .second, .val (.int (1 : Int32)), .val (.long (FP.d2l (FP.dmul d (4845873199050653696 : UInt64)))), .second, .unset, .unset, .unset]) rfl ?_
    exact kg
  obtain ⟨mm, hmm, k28⟩ : ∃ mm : Int64, mm = (FP.d2l (FP.dmul d (4845873199050653696 : UInt64))) ∧ Rch p e below (s₁.setTop (entryFrame m #[(.long q1)] maxLocals)) T21 (mkF m 63 #[.val (.long q1), .second, .val (.ref b1), .val (.ref b7), .val (.double d), .second, .val (.long tp2), .second, .val (.int (1 : Int32)), .val (.long mm), .second, .unset, .unset, .unset] []) := ⟨_, rfl, k27⟩
  have hmt : mm = tp := by rw [hmm, nn3]
  have k29 : Rch p e below (s₁.setTop (entryFrame m #[(.long q1)] maxLocals)) T21 (mkF m 99 #[.val (.long q1), .second, .val (.ref b1), .val (.ref b7), .val (.double d), .second, .val (.long tp2), .second, .val (.int (1 : Int32)), .val (.long mm), .second, .val (.int (1 : Int32)), .val (.int (1 : Int32)), .unset] [(.ref b1)]) := fun tg kg => by
    refine k28 tg ?_
    show Steps p.tables e below (T21.setTop (mkF m 63 #[.val (.long q1), .second, .val (.ref b1), .val (.ref b7), .val (.double d), .second, .val (.long tp2), .second, .val (.int (1 : Int32)), .val (.long mm), .second, .unset, .unset, .unset] [])) tg
    refine XS.lload X21.here hx rfl (hb hby at_63) rfl ?_
    show Steps p.tables e below (T21.setTop (mkF m 65 #[.val (.long q1), .second, .val (.ref b1), .val (.ref b7), .val (.double d), .second, .val (.long tp2), .second, .val (.int (1 : Int32)), .val (.long mm), .second, .unset, .unset, .unset] [(.long mm)])) tg
    refine XS.l2dS X21.here hx rfl (hb hby at_65) rfl rfl ?_
    show Steps p.tables e below (T21.setTop (mkF m 66 #[.val (.long q1), .second, .val (.ref b1), .val (.ref b7), .val (.double d), .second, .val (.long tp2), .second, .val (.int (1 : Int32)), .val (.long mm), .second, .unset, .unset, .unset] [(.double (FP.l2d mm))])) tg
    refine X21.ldc2DoubleC hx hown (mvT hZ (hw _ (List.mem_of_getElem? (i := 27) rfl))) (g := (mkF m 66 #[.val (.long q1), .second, .val (.ref b1), .val (.ref b7), .val (.double d), .second, .val (.long tp2), .second, .val (.int (1 : Int32)), .val (.long mm), .second, .unset, .unset, .unset] [(.double (FP.l2d mm))])) rfl (hb hby at_66) _ ?_
    show Steps p.tables e below (T21.setTop (mkF m 69 #[.val (.long q1), .second, .val (.ref b1), .val (.ref b7), .val (.double d), .second, .val (.long tp2), .second, .val (.int (1 : Int32)), .val (.long mm), .second, .unset, .unset, .unset] [(.double (4368491638549381120 : UInt64)), (.double (FP.l2d mm))])) tg
    refine XS.dmulS X21.here hx rfl (hb hby at_69) rfl (by rw [hmt, ← hd]; exact nn1) rfl ?_
    show Steps p.tables e below (T21.setTop (mkF m 70 #[.val (.long q1), .second, .val (.ref b1), .val (.ref b7), .val (.double d), .second, .val (.long tp2), .second, .val (.int (1 : Int32)), .val (.long mm), .second, .unset, .unset, .unset] [(.double (FP.dmul (FP.l2d mm) (4368491638549381120 : UInt64)))])) tg
    refine XS.dload X21.here hx rfl (hb hby at_70) rfl ?_
    show Steps p.tables e below (T21.setTop (mkF m 72 #[.val (.long q1), .second, .val (.ref b1), .val (.ref b7), .val (.double d), .second, .val (.long tp2), .second, .val (.int (1 : Int32)), .val (.long mm), .second, .unset, .unset, .unset] [(.double d), (.double (FP.dmul (FP.l2d mm) (4368491638549381120 : UInt64)))])) tg
    refine XS.dcmpS X21.here hx rfl (hb hby at_72) rfl rfl ?_
    show Steps p.tables e below (T21.setTop (mkF m 73 #[.val (.long q1), .second, .val (.ref b1), .val (.ref b7), .val (.double d), .second, .val (.long tp2), .second, .val (.int (1 : Int32)), .val (.long mm), .second, .unset, .unset, .unset] [(.int (Op.cmpValue (FP.dcmp (FP.dmul (FP.l2d mm) (4368491638549381120 : UInt64)) d) .l))])) tg
    refine XS.ifNo X21.here hx rfl (hb hby at_73) rfl ((if0 _ _).trans (teq (by rw [hmt, ← hd]; exact dcmpV_self nn1 _)).2) ?_
    show Steps p.tables e below (T21.setTop (mkF m 76 #[.val (.long q1), .second, .val (.ref b1), .val (.ref b7), .val (.double d), .second, .val (.long tp2), .second, .val (.int (1 : Int32)), .val (.long mm), .second, .unset, .unset, .unset] [])) tg
    refine XS.iconst X21.here hx rfl (hb hby at_76) ?_
    show Steps p.tables e below (T21.setTop (mkF m 77 #[.val (.long q1), .second, .val (.ref b1), .val (.ref b7), .val (.double d), .second, .val (.long tp2), .second, .val (.int (1 : Int32)), .val (.long mm), .second, .unset, .unset, .unset] [(.int (1 : Int32))])) tg
    refine XS.goto X21.here hx rfl (pc0 := 77) (pc' := 81) rfl (hb hby at_77) (by decide) (by decide) ?_
    show Steps p.tables e below (T21.setTop (mkF m 81 #[.val (.long q1), .second, .val (.ref b1), .val (.ref b7), .val (.double d), .second, .val (.long tp2), .second, .val (.int (1 : Int32)), .val (.long mm), .second, .unset, .unset, .unset] [(.int (1 : Int32))])) tg
    refine XS.istore X21.here hx rfl (hb hby at_81) rfl (l' := #[.val (.long q1), .second, .val (.ref b1), .val (.ref b7), .val (.double d), .second, .val (.long tp2), .second, .val (.int (1 : Int32)), .val (.long mm), .second, .val (.int (1 : Int32)), .unset, .unset]) rfl ?_
    show Steps p.tables e below (T21.setTop (mkF m 83 #[.val (.long q1), .second, .val (.ref b1), .val (.ref b7), .val (.double d), .second, .val (.long tp2), .second, .val (.int (1 : Int32)), .val (.long mm), .second, .val (.int (1 : Int32)), .unset, .unset] [])) tg
    refine XS.lload X21.here hx rfl (hb hby at_83) rfl ?_
    show Steps p.tables e below (T21.setTop (mkF m 85 #[.val (.long q1), .second, .val (.ref b1), .val (.ref b7), .val (.double d), .second, .val (.long tp2), .second, .val (.int (1 : Int32)), .val (.long mm), .second, .val (.int (1 : Int32)), .unset, .unset] [(.long mm)])) tg
    refine XS.lload X21.here hx rfl (hb hby at_85) rfl ?_
    show Steps p.tables e below (T21.setTop (mkF m 87 #[.val (.long q1), .second, .val (.ref b1), .val (.ref b7), .val (.double d), .second, .val (.long tp2), .second, .val (.int (1 : Int32)), .val (.long mm), .second, .val (.int (1 : Int32)), .unset, .unset] [(.long tp2), (.long mm)])) tg
    refine XS.lcmp X21.here hx rfl (hb hby at_87) rfl ?_
    show Steps p.tables e below (T21.setTop (mkF m 88 #[.val (.long q1), .second, .val (.ref b1), .val (.ref b7), .val (.double d), .second, .val (.long tp2), .second, .val (.int (1 : Int32)), .val (.long mm), .second, .val (.int (1 : Int32)), .unset, .unset] [(.int (lcmpW mm tp2))])) tg
    refine XS.ifNo X21.here hx rfl (hb hby at_88) rfl ((if0 _ _).trans (teq ((lw_eq _ _).mpr (by rw [hmt, htt]))).2) ?_
    show Steps p.tables e below (T21.setTop (mkF m 91 #[.val (.long q1), .second, .val (.ref b1), .val (.ref b7), .val (.double d), .second, .val (.long tp2), .second, .val (.int (1 : Int32)), .val (.long mm), .second, .val (.int (1 : Int32)), .unset, .unset] [])) tg
    refine XS.iconst X21.here hx rfl (hb hby at_91) ?_
    show Steps p.tables e below (T21.setTop (mkF m 92 #[.val (.long q1), .second, .val (.ref b1), .val (.ref b7), .val (.double d), .second, .val (.long tp2), .second, .val (.int (1 : Int32)), .val (.long mm), .second, .val (.int (1 : Int32)), .unset, .unset] [(.int (1 : Int32))])) tg
    refine XS.goto X21.here hx rfl (pc0 := 92) (pc' := 96) rfl (hb hby at_92) (by decide) (by decide) ?_
    show Steps p.tables e below (T21.setTop (mkF m 96 #[.val (.long q1), .second, .val (.ref b1), .val (.ref b7), .val (.double d), .second, .val (.long tp2), .second, .val (.int (1 : Int32)), .val (.long mm), .second, .val (.int (1 : Int32)), .unset, .unset] [(.int (1 : Int32))])) tg
    refine XS.istore X21.here hx rfl (hb hby at_96) rfl (l' := #[.val (.long q1), .second, .val (.ref b1), .val (.ref b7), .val (.double d), .second, .val (.long tp2), .second, .val (.int (1 : Int32)), .val (.long mm), .second, .val (.int (1 : Int32)), .val (.int (1 : Int32)), .unset]) rfl ?_
    show Steps p.tables e below (T21.setTop (mkF m 98 #[.val (.long q1), .second, .val (.ref b1), .val (.ref b7), .val (.double d), .second, .val (.long tp2), .second, .val (.int (1 : Int32)), .val (.long mm), .second, .val (.int (1 : Int32)), .val (.int (1 : Int32)), .unset] [])) tg
    refine XS.aloadN X21.here hx rfl (hb hby at_98) rfl rfl ?_
    exact kg
  have f31 : Exa Z h21 b1 "com/example/lightweave/lightweave/SplitMix64" := (fq13_3.keep K21)
  have f32 : Fld Z h21 b1 "com/example/lightweave/lightweave/SplitMix64" "state" "J" (.long (q1 + (-7046029254386353131 : Int64))) := (fq13_4.keep K21 (ninS (by first | exact own_ne (by omega) | assumption | (apply Ne.symm; assumption)) nin0))
  obtain ⟨v30, T30, h30, Lc30, X30, e30, hQ30, st30⟩ := own_callV X21 hx hZ hown (hw _ (List.mem_of_getElem? (i := 25) rfl)) (hw _ (List.mem_of_getElem? (i := 17) rfl)) (notFace_of_selects (args := #[]) (mvT hZ (hw _ (List.mem_of_getElem? (i := 19) rfl)))) (hw _ (List.mem_of_getElem? (i := 19) rfl)) (hw _ (List.mem_of_getElem? (i := 18) rfl)) (hw _ (List.mem_of_getElem? (i := 20) rfl)) (hw _ (List.mem_of_getElem? (i := 2) rfl)) (by decide) (rm_next l Z a0 hw [] b1 (q1 + (-7046029254386353131 : Int64)) h21 n0 (by omega) f31 f32 (by omega)) e21 f31 (g := (mkF m 99 #[.val (.long q1), .second, .val (.ref b1), .val (.ref b7), .val (.double d), .second, .val (.long tp2), .second, .val (.int (1 : Int32)), .val (.long mm), .second, .val (.int (1 : Int32)), .val (.int (1 : Int32)), .unset] [(.ref b1)])) rfl (by rw [hml]; rfl) (argsL := []) (rest := []) rfl (lenOf pd_0 rfl) rfl (W := 0) (by show 2 * 0 + _ ≤ _; exact Nat.le_of_eq rfl) (hb hby at_99) (by decide) (by decide) (by decide) (by decide)
  obtain ⟨rfl, Nq30, K30, fq30_3, fq30_4⟩ := hQ30
  have N30 := Fr.app N21 Nq30
  have s30 : h21.size ≤ h30.size := K30.1
  have k33 : Rch p e below (s₁.setTop (entryFrame m #[(.long q1)] maxLocals)) T30 (mkF m 102 #[.val (.long q1), .second, .val (.ref b1), .val (.ref b7), .val (.double d), .second, .val (.long tp2), .second, .val (.int (1 : Int32)), .val (.long mm), .second, .val (.int (1 : Int32)), .val (.int (1 : Int32)), .unset] [(.long (own_mix ((q1 + (-7046029254386353131 : Int64)) + (-7046029254386353131 : Int64))))]) := fun tg kg => k29 tg (st30 tg kg)
  have lt_fq30_3 := own_ltN fq30_3.lt
  have lt_fq30_4 := own_ltN fq30_4.lt
  have k34 : Rch p e below (s₁.setTop (entryFrame m #[(.long q1)] maxLocals)) T30 (mkF m 103 #[.val (.long q1), .second, .val (.ref b1), .val (.ref b7), .val (.double d), .second, .val (.long tp2), .second, .val (.int (1 : Int32)), .val (.long mm), .second, .val (.int (1 : Int32)), .val (.int (1 : Int32)), .unset] [(.ref b7), (.long (own_mix ((q1 + (-7046029254386353131 : Int64)) + (-7046029254386353131 : Int64))))]) := fun tg kg => by
    refine k33 tg ?_
    show Steps p.tables e below (T30.setTop (mkF m 102 #[.val (.long q1), .second, .val (.ref b1), .val (.ref b7), .val (.double d), .second, .val (.long tp2), .second, .val (.int (1 : Int32)), .val (.long mm), .second, .val (.int (1 : Int32)), .val (.int (1 : Int32)), .unset] [(.long (own_mix ((q1 + (-7046029254386353131 : Int64)) + (-7046029254386353131 : Int64))))])) tg
    refine XS.aloadN X30.here hx rfl (hb hby at_102) rfl rfl ?_
    exact kg
  have f36 : Exa Z h30 b7 "com/example/lightweave/lightweave/SplitMix64" := (fq21_3.keep K30)
  have f37 : Fld Z h30 b7 "com/example/lightweave/lightweave/SplitMix64" "state" "J" (.long (q1 + (-7046029254386353131 : Int64))) := (fq21_4.keep K30 (ninS (by first | exact own_ne (by omega) | assumption | (apply Ne.symm; assumption)) nin0))
  obtain ⟨v35, T35, h35, Lc35, X35, e35, hQ35, st35⟩ := own_callV X30 hx hZ hown (hw _ (List.mem_of_getElem? (i := 25) rfl)) (hw _ (List.mem_of_getElem? (i := 17) rfl)) (notFace_of_selects (args := #[]) (mvT hZ (hw _ (List.mem_of_getElem? (i := 19) rfl)))) (hw _ (List.mem_of_getElem? (i := 19) rfl)) (hw _ (List.mem_of_getElem? (i := 18) rfl)) (hw _ (List.mem_of_getElem? (i := 20) rfl)) (hw _ (List.mem_of_getElem? (i := 2) rfl)) (by decide) (rm_next l Z a0 hw [] b7 (q1 + (-7046029254386353131 : Int64)) h30 n0 (by omega) f36 f37 (by omega)) e30 f36 (g := (mkF m 103 #[.val (.long q1), .second, .val (.ref b1), .val (.ref b7), .val (.double d), .second, .val (.long tp2), .second, .val (.int (1 : Int32)), .val (.long mm), .second, .val (.int (1 : Int32)), .val (.int (1 : Int32)), .unset] [(.ref b7), (.long (own_mix ((q1 + (-7046029254386353131 : Int64)) + (-7046029254386353131 : Int64))))])) rfl (by rw [hml]; rfl) (argsL := []) (rest := [(.long (own_mix ((q1 + (-7046029254386353131 : Int64)) + (-7046029254386353131 : Int64))))]) rfl (lenOf pd_0 rfl) rfl (W := 2) (by show 2 * 0 + _ ≤ _; exact Nat.le_of_eq rfl) (hb hby at_103) (by decide) (by decide) (by decide) (by decide)
  obtain ⟨rfl, Nq35, K35, fq35_3, fq35_4⟩ := hQ35
  have N35 := Fr.app N30 Nq35
  have s35 : h30.size ≤ h35.size := K35.1
  have k38 : Rch p e below (s₁.setTop (entryFrame m #[(.long q1)] maxLocals)) T35 (mkF m 106 #[.val (.long q1), .second, .val (.ref b1), .val (.ref b7), .val (.double d), .second, .val (.long tp2), .second, .val (.int (1 : Int32)), .val (.long mm), .second, .val (.int (1 : Int32)), .val (.int (1 : Int32)), .unset] [(.long (own_mix ((q1 + (-7046029254386353131 : Int64)) + (-7046029254386353131 : Int64)))), (.long (own_mix ((q1 + (-7046029254386353131 : Int64)) + (-7046029254386353131 : Int64))))]) := fun tg kg => k34 tg (st35 tg kg)
  have lt_fq35_3 := own_ltN fq35_3.lt
  have lt_fq35_4 := own_ltN fq35_4.lt
  have k39 : Rch p e below (s₁.setTop (entryFrame m #[(.long q1)] maxLocals)) T35 (mkF m 142 #[.val (.long q1), .second, .val (.ref b1), .val (.ref b7), .val (.double d), .second, .val (.long tp2), .second, .val (.int (1 : Int32)), .val (.long mm), .second, .val (.int (1 : Int32)), .val (.int (1 : Int32)), .val (.int (1 : Int32))] [(.int (1 : Int32))]) := fun tg kg => by
    refine k38 tg ?_
    show Steps p.tables e below (T35.setTop (mkF m 106 #[.val (.long q1), .second, .val (.ref b1), .val (.ref b7), .val (.double d), .second, .val (.long tp2), .second, .val (.int (1 : Int32)), .val (.long mm), .second, .val (.int (1 : Int32)), .val (.int (1 : Int32)), .unset] [(.long (own_mix ((q1 + (-7046029254386353131 : Int64)) + (-7046029254386353131 : Int64)))), (.long (own_mix ((q1 + (-7046029254386353131 : Int64)) + (-7046029254386353131 : Int64))))])) tg
    refine XS.lcmp X35.here hx rfl (hb hby at_106) rfl ?_
    show Steps p.tables e below (T35.setTop (mkF m 107 #[.val (.long q1), .second, .val (.ref b1), .val (.ref b7), .val (.double d), .second, .val (.long tp2), .second, .val (.int (1 : Int32)), .val (.long mm), .second, .val (.int (1 : Int32)), .val (.int (1 : Int32)), .unset] [(.int (lcmpW (own_mix ((q1 + (-7046029254386353131 : Int64)) + (-7046029254386353131 : Int64))) (own_mix ((q1 + (-7046029254386353131 : Int64)) + (-7046029254386353131 : Int64)))))])) tg
    refine XS.ifNo X35.here hx rfl (hb hby at_107) rfl ((if0 _ _).trans (teq ((lw_eq _ _).mpr rfl)).2) ?_
    show Steps p.tables e below (T35.setTop (mkF m 110 #[.val (.long q1), .second, .val (.ref b1), .val (.ref b7), .val (.double d), .second, .val (.long tp2), .second, .val (.int (1 : Int32)), .val (.long mm), .second, .val (.int (1 : Int32)), .val (.int (1 : Int32)), .unset] [])) tg
    refine XS.iconst X35.here hx rfl (hb hby at_110) ?_
    show Steps p.tables e below (T35.setTop (mkF m 111 #[.val (.long q1), .second, .val (.ref b1), .val (.ref b7), .val (.double d), .second, .val (.long tp2), .second, .val (.int (1 : Int32)), .val (.long mm), .second, .val (.int (1 : Int32)), .val (.int (1 : Int32)), .unset] [(.int (1 : Int32))])) tg
    refine XS.goto X35.here hx rfl (pc0 := 111) (pc' := 115) rfl (hb hby at_111) (by decide) (by decide) ?_
    show Steps p.tables e below (T35.setTop (mkF m 115 #[.val (.long q1), .second, .val (.ref b1), .val (.ref b7), .val (.double d), .second, .val (.long tp2), .second, .val (.int (1 : Int32)), .val (.long mm), .second, .val (.int (1 : Int32)), .val (.int (1 : Int32)), .unset] [(.int (1 : Int32))])) tg
    refine XS.istore X35.here hx rfl (hb hby at_115) rfl (l' := #[.val (.long q1), .second, .val (.ref b1), .val (.ref b7), .val (.double d), .second, .val (.long tp2), .second, .val (.int (1 : Int32)), .val (.long mm), .second, .val (.int (1 : Int32)), .val (.int (1 : Int32)), .val (.int (1 : Int32))]) rfl ?_
    show Steps p.tables e below (T35.setTop (mkF m 117 #[.val (.long q1), .second, .val (.ref b1), .val (.ref b7), .val (.double d), .second, .val (.long tp2), .second, .val (.int (1 : Int32)), .val (.long mm), .second, .val (.int (1 : Int32)), .val (.int (1 : Int32)), .val (.int (1 : Int32))] [])) tg
    refine XS.iload X35.here hx rfl (hb hby at_117) rfl ?_
    show Steps p.tables e below (T35.setTop (mkF m 119 #[.val (.long q1), .second, .val (.ref b1), .val (.ref b7), .val (.double d), .second, .val (.long tp2), .second, .val (.int (1 : Int32)), .val (.long mm), .second, .val (.int (1 : Int32)), .val (.int (1 : Int32)), .val (.int (1 : Int32))] [(.int (1 : Int32))])) tg
    refine XS.ifNo X35.here hx rfl (hb hby at_119) rfl ((if0 _ _).trans (feq (by decide)).1) ?_
    show Steps p.tables e below (T35.setTop (mkF m 122 #[.val (.long q1), .second, .val (.ref b1), .val (.ref b7), .val (.double d), .second, .val (.long tp2), .second, .val (.int (1 : Int32)), .val (.long mm), .second, .val (.int (1 : Int32)), .val (.int (1 : Int32)), .val (.int (1 : Int32))] [])) tg
    refine XS.iload X35.here hx rfl (hb hby at_122) rfl ?_
    show Steps p.tables e below (T35.setTop (mkF m 124 #[.val (.long q1), .second, .val (.ref b1), .val (.ref b7), .val (.double d), .second, .val (.long tp2), .second, .val (.int (1 : Int32)), .val (.long mm), .second, .val (.int (1 : Int32)), .val (.int (1 : Int32)), .val (.int (1 : Int32))] [(.int (1 : Int32))])) tg
    refine XS.ifNo X35.here hx rfl (hb hby at_124) rfl ((if0 _ _).trans (feq (by decide)).1) ?_
    show Steps p.tables e below (T35.setTop (mkF m 127 #[.val (.long q1), .second, .val (.ref b1), .val (.ref b7), .val (.double d), .second, .val (.long tp2), .second, .val (.int (1 : Int32)), .val (.long mm), .second, .val (.int (1 : Int32)), .val (.int (1 : Int32)), .val (.int (1 : Int32))] [])) tg
    refine XS.iload X35.here hx rfl (hb hby at_127) rfl ?_
    show Steps p.tables e below (T35.setTop (mkF m 129 #[.val (.long q1), .second, .val (.ref b1), .val (.ref b7), .val (.double d), .second, .val (.long tp2), .second, .val (.int (1 : Int32)), .val (.long mm), .second, .val (.int (1 : Int32)), .val (.int (1 : Int32)), .val (.int (1 : Int32))] [(.int (1 : Int32))])) tg
    refine XS.ifNo X35.here hx rfl (hb hby at_129) rfl ((if0 _ _).trans (feq (by decide)).1) ?_
    show Steps p.tables e below (T35.setTop (mkF m 132 #[.val (.long q1), .second, .val (.ref b1), .val (.ref b7), .val (.double d), .second, .val (.long tp2), .second, .val (.int (1 : Int32)), .val (.long mm), .second, .val (.int (1 : Int32)), .val (.int (1 : Int32)), .val (.int (1 : Int32))] [])) tg
    refine XS.iload X35.here hx rfl (hb hby at_132) rfl ?_
    show Steps p.tables e below (T35.setTop (mkF m 134 #[.val (.long q1), .second, .val (.ref b1), .val (.ref b7), .val (.double d), .second, .val (.long tp2), .second, .val (.int (1 : Int32)), .val (.long mm), .second, .val (.int (1 : Int32)), .val (.int (1 : Int32)), .val (.int (1 : Int32))] [(.int (1 : Int32))])) tg
    refine XS.ifNo X35.here hx rfl (hb hby at_134) rfl ((if0 _ _).trans (feq (by decide)).1) ?_
    show Steps p.tables e below (T35.setTop (mkF m 137 #[.val (.long q1), .second, .val (.ref b1), .val (.ref b7), .val (.double d), .second, .val (.long tp2), .second, .val (.int (1 : Int32)), .val (.long mm), .second, .val (.int (1 : Int32)), .val (.int (1 : Int32)), .val (.int (1 : Int32))] [])) tg
    refine XS.iconst X35.here hx rfl (hb hby at_137) ?_
    show Steps p.tables e below (T35.setTop (mkF m 138 #[.val (.long q1), .second, .val (.ref b1), .val (.ref b7), .val (.double d), .second, .val (.long tp2), .second, .val (.int (1 : Int32)), .val (.long mm), .second, .val (.int (1 : Int32)), .val (.int (1 : Int32)), .val (.int (1 : Int32))] [(.int (1 : Int32))])) tg
    refine XS.goto X35.here hx rfl (pc0 := 138) (pc' := 142) rfl (hb hby at_138) (by decide) (by decide) ?_
    exact kg
  obtain ⟨fs40, hr40, hrun40, hended40, hW40, hsame40⟩ := X35.leave (v := some (.int (nar .boolean (1 : Int32)))) (fun h => by rw [Bd.returns] at h; cases h)
  refine ⟨_, _, k39 _ ?_, hrun40, hended40, _, _, rfl, ?_, ⟨_, rfl⟩, hW40, hsame40.mono (by decide) (by decide)⟩
  · exact retN X35 hx (t := .boolean) Bd.returns (by simp) (hb hby at_142) hr40
  · show Q_rm0 Z q1 h0 n0 _ T35.heap _
    rw [e35]
    exact ⟨rfl, N35⟩
set_option maxRecDepth 65536 in
set_option maxHeartbeats 40000000 in
theorem comes_1 {Post : Tables → Env → Array Value → State → Outcome → State → Prop} (hpost : ∀ tb e args s v u, (limb_1_1.after args s (.returned v) u = true ∧ limb_1_2.after args s (.returned v) u = true ∧ True) → FrameEnd s (.returned v) u (Jvm.fieldLocs frame_1_writes args s ++ Jvm.arrayLocs frame_1_arrays args s ++ Jvm.staticLocs frame_1_statics s) 16 128 → Post tb e args s (.returned v) u) :
    ArmFor flags0 classFile x code maxLocals ret World_1 tables_1 room_1 Calls_1 rest_1 Pre_1 Post := by
  intro l hfl _ _ p e ha hc hk s m args below hf hA hF happ hP
  obtain ⟨hcalls, hrest, hpre⟩ := hP
  obtain ⟨-, -, -, hnamed, -, -, -, hat⟩ := (Spec.applies_iff hf).mp happ
  obtain ⟨hg, hn⟩ := and_e (Cond.before_iff.mp (show (Jvm.Cond.and given_1 narrow_1).before args s = true from hpre))
  obtain ⟨g1, g2⟩ := and_e hg
  obtain ⟨w0, rfl⟩ : ∃ w0 : Value, args = #[w0] := by
    have hs : args.size = 1 := by simpa [Cond.value, given_1] using g1
    obtain ⟨L⟩ := args
    match L, hs with
    | [w0], _ => exact ⟨w0, rfl⟩
  have hw := fun d (hd : d ∈ tables_1) => atoms_spec (ws := Jvm.Cond.code x code maxLocals ret :: tables_1) hat d (List.mem_cons_of_mem _ hd)
  have hfit : Fit s := fun {y c} hc i hi => by
    obtain ⟨ha, rfl⟩ := Array.getElem?_eq_some_iff.mp hc
    have q := List.all_eq_true.mp ((Array.all_eq_true_iff_forall_mem.mp hF) _ (Array.getElem_mem ha)) i (List.mem_range.mpr hi)
    simpa [Array.getElem?_eq_getElem hi] using q
  obtain ⟨i0, ei0⟩ := isL_v g2
  obtain rfl : w0 = (.long i0) := Option.some.inj ei0
  obtain ⟨n, o, h1, h2, h3, _, L, rfl, ⟨rfl, N⟩, hq⟩ := rm0 l s _ hw tables_1 i0 s.heap s.heap.size (Nat.le_refl _)  p e ha hc hk s m _ below hf ((Spec.applies_iff_loose hf).mp happ).1 ⟨rfl, State.Warmed39.refl s, rfl⟩ trivial
  refine ⟨n, _, h1, h2, h3, hpost _ _ _ _ _ _ ⟨Cond.after_iff.mpr rfl, Cond.after_iff.mpr (eq_i res_at (Term.int_eval (1)) rfl), trivial⟩ ⟨hq.1, hq.2.1, (hq.2.2.sift fun y hy => Or.inr (N y hy)).mono (by decide) (by decide)⟩⟩
theorem main_1_1 : Claimed_1_1 := comes_1 fun _ _ _ _ _ _ h hF => ⟨h.1, hF⟩
theorem main_1_2 : Claimed_1_2 := comes_1 fun _ _ _ _ _ _ h hF => ⟨h.2.1, hF⟩
end Jvm.Pilot.@@N@@
namespace Jvm.Pilot.@@N@@
open Jvm Jvm.ClassFile Sem Op Lib Jvm.Free Jvm.Stand Jvm.Pilot.@@N@@.Jvm.D
/-! MADE BY PROGRAM (witnessworld.py) out of the Statement's table words and the real class files: 9 classes; the members and pool entries that the words name. The judged class is class 1, her method 1. -/
namespace start1
open Jvm.ClassFile
def u (s : String) : CpInfo := .utf8 (stringToUtf16 s)
/-- a pool by its gaps: so many unusable entries, then the entry; so many at the end -/
def gap : Nat → List CpInfo → List CpInfo
  | 0, r => r
  | n + 1, r => .unusable :: gap n r
def poolList (es : List (Nat × CpInfo)) (last : Nat) : List CpInfo := es.foldr (fun e r => gap e.1 (e.2 :: r)) (gap last [])
def pool (es : List (Nat × CpInfo)) (last : Nat) : Array CpInfo := ⟨poolList es last⟩
def fileOf (pool : Array CpInfo) (this : Nat) (attrs : Array Attribute := #[]) (ms : Array MethodInfo := #[]) (fl : Nat := 33) (sup : Nat := 0) (ifs : Array Nat := #[]) (fds : Array FieldInfo := #[]) : ClassFile where
  minorVersion := 0
  majorVersion := 65
  constantPool := pool
  accessFlags := fl
  thisClass := this
  superClass := sup
  interfaces := ifs
  fields := fds
  methods := ms
  attributes := attrs
def plain (name : String) (sup : Option ClassId) : Class where
  name := name
  kind := .ordinary
  loader := none
  accessFlags := 33
  super := sup
  interfaces := #[]
  cf := none
  fields := #[]
  methods := #[]
  instanceTypes := #[]
  staticTypes := #[]
  resolved := #[]
  callSites := []
  init := .initialized
  statics := none
  mirror := none

def pool0 : Array CpInfo := pool [(5, u "<init>"), (0, u "()V"), (1, .class_ 10), (1, u "java/lang/Object")] 113

def k0c0 : Code := { maxStack := 0, maxLocals := 1, code := object_method_1_code, exceptionTable := #[], attributes := #[] }
def k0m0 : Method := { name := "<init>", desc := "()V", sig := { parameters := [], returnType := none }, accessFlags := 1, code := some k0c0 }
/-- java/lang/Object -/
def k0 : Class := { plain "java/lang/Object" none with
  accessFlags := 33
  interfaces := #[]
  cf := some (fileOf pool0 8 #[] #[{ accessFlags := 1, nameIndex := 5, descriptorIndex := 6, attributes := #[] }] 33 0 #[] #[])
  fields := #[]
  methods := #[k0m0]
  instanceTypes := #[]
  staticTypes := #[]
  resolved := Array.replicate 124 none
  statics := none }

def pool1 : Array CpInfo := pool [(2, .class_ 4), (1, u "java/lang/Object"), (0, u "<init>"), (0, u "()V"), (0, .class_ 8), (0, u "com/example/lightweave/lightweave/SplitMix64"), (0, .methodref 7 10), (0, .nameAndType 5 11), (0, u "(J)V"), (0, .methodref 7 13), (0, .nameAndType 14 15), (0, u "nextDouble"), (0, u "()D"), (0, .methodref 7 17), (0, .nameAndType 18 19), (0, u "nextLong"), (0, u "()J"), (0, .double 4845873199050653696), (1, .double 4368491638549381120), (1, .class_ 25), (0, u "com/example/lightweave/lightweave/SplitMix64NextDoublePinLaw"), (2, u "law"), (0, u "(J)Z")] 3

def k1m0 : Method := { name := "<init>", desc := "()V", sig := { parameters := [], returnType := none }, accessFlags := 1, code := none }
def k1c1 : Code := { maxStack := 4, maxLocals := 14, code := code, exceptionTable := #[], attributes := #[] }
def k1m1 : Method := { name := "law", desc := "(J)Z", sig := { parameters := [.long], returnType := some .boolean }, accessFlags := 9, code := some k1c1 }
/-- com/example/lightweave/lightweave/SplitMix64NextDoublePinLaw -/
def k1 : Class := { plain "com/example/lightweave/lightweave/SplitMix64NextDoublePinLaw" (some 0) with
  accessFlags := 49
  interfaces := #[]
  cf := some (fileOf pool1 24 #[] #[{ accessFlags := 1, nameIndex := 5, descriptorIndex := 6, attributes := #[] }, { accessFlags := 9, nameIndex := 28, descriptorIndex := 29, attributes := #[] }] 49 2 #[] #[])
  fields := #[]
  methods := #[k1m0, k1m1]
  instanceTypes := #[]
  staticTypes := #[]
  resolved := Array.replicate 33 none
  statics := none }

def pool2 : Array CpInfo := pool [(1, .methodref 2 3), (0, .class_ 4), (0, .nameAndType 5 6), (0, u "java/lang/Object"), (0, u "<init>"), (0, u "()V"), (0, .fieldref 8 9), (0, .class_ 10), (0, .nameAndType 11 12), (0, u "com/example/lightweave/lightweave/SplitMix64"), (0, u "state"), (0, u "J"), (0, .long 11400714819323198485), (1, .long 13787848793156543929), (1, .long 10723151780598845931), (1, .methodref 8 20), (0, .nameAndType 21 22), (0, u "nextLong"), (0, u "()J"), (0, .double 4368491638549381120), (10, u "STEP"), (1, u "(J)V"), (2, u "nextDouble"), (0, u "()D")] 20

def k2c0 : Code := { maxStack := 3, maxLocals := 3, code := prog_29_method_1_code, exceptionTable := #[], attributes := #[] }
def k2m0 : Method := { name := "<init>", desc := "(J)V", sig := { parameters := [.long], returnType := none }, accessFlags := 0, code := some k2c0 }
def k2c1 : Code := { maxStack := 5, maxLocals := 3, code := prog_29_method_2_code, exceptionTable := #[], attributes := #[] }
def k2m1 : Method := { name := "nextLong", desc := "()J", sig := { parameters := [], returnType := some .long }, accessFlags := 0, code := some k2c1 }
def k2c2 : Code := { maxStack := 4, maxLocals := 1, code := prog_29_method_3_code, exceptionTable := #[], attributes := #[] }
def k2m2 : Method := { name := "nextDouble", desc := "()D", sig := { parameters := [], returnType := some .double }, accessFlags := 0, code := some k2c2 }
/-- com/example/lightweave/lightweave/SplitMix64 -/
def k2 : Class := { plain "com/example/lightweave/lightweave/SplitMix64" (some 0) with
  accessFlags := 48
  interfaces := #[]
  cf := some (fileOf pool2 8 #[] #[{ accessFlags := 0, nameIndex := 5, descriptorIndex := 36, attributes := #[] }, { accessFlags := 0, nameIndex := 21, descriptorIndex := 22, attributes := #[] }, { accessFlags := 0, nameIndex := 39, descriptorIndex := 40, attributes := #[] }] 48 2 #[] #[{ accessFlags := 26, nameIndex := 34, descriptorIndex := 12, attributes := #[] }, { accessFlags := 2, nameIndex := 11, descriptorIndex := 12, attributes := #[] }])
  fields := #[{ name := "STEP", type := .long, accessFlags := 26, slot := 0, constantValue := 0 }, { name := "state", type := .long, accessFlags := 2, slot := 0, constantValue := 0 }]
  methods := #[k2m0, k2m1, k2m2]
  instanceTypes := #[.long]
  staticTypes := #[.long]
  resolved := Array.replicate 61 none
  statics := none }

def pool3 : Array CpInfo := pool [(1, u "java/lang/Cloneable"), (0, .class_ 1), (0, u "java/lang/Object"), (0, .class_ 3)] 3

/-- java/lang/Cloneable -/
def k3 : Class := { plain "java/lang/Cloneable" (some 0) with
  accessFlags := 1537
  interfaces := #[]
  cf := some (fileOf pool3 2 #[] #[] 1537 4 #[] #[])
  fields := #[]
  methods := #[]
  instanceTypes := #[]
  staticTypes := #[]
  resolved := Array.replicate 8 none
  statics := none }

def pool4 : Array CpInfo := pool [(1, u "java/io/Serializable"), (0, .class_ 1), (0, u "java/lang/Object"), (0, .class_ 3)] 3

/-- java/io/Serializable -/
def k4 : Class := { plain "java/io/Serializable" (some 0) with
  accessFlags := 1537
  interfaces := #[]
  cf := some (fileOf pool4 2 #[] #[] 1537 4 #[] #[])
  fields := #[]
  methods := #[]
  instanceTypes := #[]
  staticTypes := #[]
  resolved := Array.replicate 8 none
  statics := none }

/-- the primitive byte -/
def k5 : Class := { plain "byte" none with kind := .primitive 'B', accessFlags := 0x411 }
/-- [B -/
def k6 : Class := { plain "[B" (some 0) with kind := .array 5 .byte, interfaces := #[3, 4], accessFlags := 1041 }

/-- the primitive int -/
def k7 : Class := { plain "int" none with kind := .primitive 'I', accessFlags := 0x411 }
/-- [I -/
def k8 : Class := { plain "[I" (some 0) with kind := .array 7 .int, interfaces := #[3, 4], accessFlags := 1041 }

def heap : Heap := #[]
def classes : Array Class := #[k0, k1, k2, k3, k4, k5, k6, k7, k8]
def interned : List (Array UInt16 × Addr) := []
def slotsUsed : Nat := 0
def theMethod : MethodId := ⟨1, 1⟩
def args0 : Array Value := #[.long 5]
def aboutOver (below : List Frame) : State where
  vm := { classes := classes, interned := interned.toArray }
  heap := heap
  slotsUsed := slotsUsed
  threads := #[{ frames := .invoking theMethod args0 :: below }]
def below0 : List Frame := [.native { method := ⟨0, 0⟩, args := #[] }]
def about1 : State := aboutOver below0
def p0 : Program := .bare "" "" ""
def e0 : Env := launch0.env 0 0 0
theorem w_frames : about1.frames = Frame.invoking theMethod args0 :: below0 := rfl
set_option maxRecDepth 65536 in
theorem w_args : argsFit about1.vm theMethod args0 = true := by decide +kernel
set_option maxRecDepth 65536 in
theorem w_heap : heapFits about1 = true := by decide +kernel
set_option maxRecDepth 65536 in
theorem w_runnable : about1.curStatus? = some .runnable := by decide +kernel
set_option maxRecDepth 65536 in
theorem w_alone : about1.alone = true := by decide +kernel
set_option maxRecDepth 65536 in
theorem w_named : about1.methodNamed? x = some theMethod := by decide +kernel
set_option maxRecDepth 65536 in
theorem w_hears : about1.hears theMethod below0 = true := by decide +kernel
set_option maxRecDepth 65536 in
theorem w_ripe : about1.ripe theMethod args0 below0 = true := by decide +kernel
theorem w_running : about1.status = .running := rfl
set_option maxRecDepth 65536 in
theorem w_room : about1.hasRoom e0.platform room_1 = true :=
  launch0.hasRoom_least _ room_1 (by decide +kernel) (by decide +kernel) (by decide +kernel) (by decide +kernel) (by decide +kernel) (by decide +kernel)
theorem allAtoms_all (ts : List Jvm.Cond) (a : Array Jvm.Value) (st : Jvm.State) : (allAtoms ts).before a st = ts.all (fun c => c.before a st) := by
  induction ts with
  | nil => rfl
  | cons c t ih =>
    show (Jvm.Cond.and c (allAtoms t)).before a st = _
    rw [Jvm.Cond.before_and, ih, List.all_cons]
def words1 : List Jvm.Cond := Jvm.Cond.code x code maxLocals ret :: tables_1
/-- a 'code' word, met by the world's own term for the bytes: nothing is compared byte by byte -/
theorem code_word {y : MethodName} {bytes : ByteArray} {mx : Nat} {rt : Option FieldType} {a : Array Value} {s : State} {m : MethodId} {meth : Method} {c : Code} (h1 : s.methodNamed? y = some m) (h2 : s.vm.method? m = some meth) (h3 : meth.code = some c) (h4 : c.code = bytes)
    (h5 : (c.maxLocals == mx && c.exceptionTable.isEmpty && decide (c.maxStack ≤ mostOperands) && decide (meth.sig.returnType = rt) && !meth.locks && decide (parseMethodDescriptor y.desc = some meth.sig)) = true) : (Jvm.Cond.code y bytes mx rt).before a s = true := by
  simp only [Bool.and_eq_true, beq_iff_eq, Bool.not_eq_true', decide_eq_true_eq] at h5
  obtain ⟨⟨⟨⟨⟨g1, g2⟩, g3⟩, g4⟩, g5⟩, g6⟩ := h5
  simp [Cond.before, Cond.holds, Cond.value, h1, h2, h3, h4, g1, g2, g3, g4, g5, g6]
def isCode : Jvm.Cond → Bool
  | .code _ _ _ _ => true
  | _ => false
theorem all_split {L : List Jvm.Cond} {P : Jvm.Cond → Bool} (h1 : L.all (fun c => isCode c || P c) = true) (h2 : ∀ c ∈ L.filter isCode, P c = true) : L.all P = true := by
  refine List.all_eq_true.mpr fun c hc => ?_
  have h := List.all_eq_true.mp h1 c hc
  rcases Bool.eq_false_or_eq_true (isCode c) with hi | hi
  · exact h2 c (List.mem_filter.mpr ⟨hc, hi⟩)
  · simpa [hi] using h
set_option maxRecDepth 65536 in
theorem w_c0 : (Jvm.Cond.code x code maxLocals ret).before args0 about1 = true := code_word (m := ⟨1, 1⟩) (meth := k1m1) (c := k1c1) (by decide +kernel) rfl rfl rfl (by decide +kernel)
set_option maxRecDepth 65536 in
theorem w_c1 : (Jvm.Cond.code ({ cls := "com/example/lightweave/lightweave/SplitMix64", name := "<init>", desc := "(J)V" } : Jvm.MethodName) prog_29_method_1_code (3 : Nat) (Option.none : Option Jvm.ClassFile.FieldType)).before args0 about1 = true := code_word (m := ⟨2, 0⟩) (meth := k2m0) (c := k2c0) (by decide +kernel) rfl rfl rfl (by decide +kernel)
set_option maxRecDepth 65536 in
theorem w_c2 : (Jvm.Cond.code ({ cls := "java/lang/Object", name := "<init>", desc := "()V" } : Jvm.MethodName) object_method_1_code (1 : Nat) (Option.none : Option Jvm.ClassFile.FieldType)).before args0 about1 = true := code_word (m := ⟨0, 0⟩) (meth := k0m0) (c := k0c0) (by decide +kernel) rfl rfl rfl (by decide +kernel)
set_option maxRecDepth 65536 in
theorem w_c3 : (Jvm.Cond.code ({ cls := "com/example/lightweave/lightweave/SplitMix64", name := "nextDouble", desc := "()D" } : Jvm.MethodName) prog_29_method_3_code (1 : Nat) (Option.some Jvm.ClassFile.FieldType.double)).before args0 about1 = true := code_word (m := ⟨2, 2⟩) (meth := k2m2) (c := k2c2) (by decide +kernel) rfl rfl rfl (by decide +kernel)
set_option maxRecDepth 65536 in
theorem w_c4 : (Jvm.Cond.code ({ cls := "com/example/lightweave/lightweave/SplitMix64", name := "nextLong", desc := "()J" } : Jvm.MethodName) prog_29_method_2_code (3 : Nat) (Option.some Jvm.ClassFile.FieldType.long)).before args0 about1 = true := code_word (m := ⟨2, 1⟩) (meth := k2m1) (c := k2c1) (by decide +kernel) rfl rfl rfl (by decide +kernel)
def codes1 : List Jvm.Cond := [Jvm.Cond.code x code maxLocals ret, Jvm.Cond.code ({ cls := "com/example/lightweave/lightweave/SplitMix64", name := "<init>", desc := "(J)V" } : Jvm.MethodName) prog_29_method_1_code (3 : Nat) (Option.none : Option Jvm.ClassFile.FieldType), Jvm.Cond.code ({ cls := "java/lang/Object", name := "<init>", desc := "()V" } : Jvm.MethodName) object_method_1_code (1 : Nat) (Option.none : Option Jvm.ClassFile.FieldType), Jvm.Cond.code ({ cls := "com/example/lightweave/lightweave/SplitMix64", name := "nextDouble", desc := "()D" } : Jvm.MethodName) prog_29_method_3_code (1 : Nat) (Option.some Jvm.ClassFile.FieldType.double), Jvm.Cond.code ({ cls := "com/example/lightweave/lightweave/SplitMix64", name := "nextLong", desc := "()J" } : Jvm.MethodName) prog_29_method_2_code (3 : Nat) (Option.some Jvm.ClassFile.FieldType.long)]
set_option maxRecDepth 65536 in
theorem codes_eq : words1.filter isCode = codes1 := rfl
theorem w_codes : ∀ c ∈ words1.filter isCode, c.before args0 about1 = true := by
  rw [codes_eq]
  intro c hc
  simp only [codes1, List.mem_cons, List.not_mem_nil, or_false] at hc
  rcases hc with rfl | rfl | rfl | rfl | rfl
  · exact w_c0
  · exact w_c1
  · exact w_c2
  · exact w_c3
  · exact w_c4
set_option maxRecDepth 65536 in
theorem w_t1 : (words1.take 24).all (fun c => isCode c || c.before args0 about1) = true := by decide +kernel
set_option maxRecDepth 65536 in
theorem w_t2 : (words1.drop 24).all (fun c => isCode c || c.before args0 about1) = true := by decide +kernel
theorem w_tables : (allAtoms (Jvm.Cond.code x code maxLocals ret :: tables_1)).before args0 about1 = true := by
  rw [allAtoms_all]
  show words1.all (fun c => c.before args0 about1) = true
  refine all_split ?_ w_codes
  rw [← List.take_append_drop 24 words1, List.all_append, w_t1, w_t2]
  rfl
set_option maxRecDepth 65536 in
theorem w_case : (Jvm.Cond.and given_1 narrow_1).before args0 about1 = true := by decide +kernel
theorem w_applies : (headSpec (Jvm.Cond.code x code maxLocals ret :: tables_1) room_1).applies x e0.platform about1 = true :=
  (Spec.applies_iff w_frames).mpr ⟨w_running, w_runnable, w_alone, w_named, w_hears, w_ripe, w_room, w_tables⟩
theorem atStart : AtStart classFile x code maxLocals ret World_1 tables_1 room_1 Calls_1 rest_1 Pre_1 launch0 p0 e0 about1 theMethod args0 below0 :=
  ⟨lists_1, trivial, launch0.admits_env _ _ _, launch0.least_env, fairChoices_fair.cas, fairChoices_fair.clock, w_frames, w_args, w_heap, w_applies, trivial, trivial, w_case⟩
end start1
theorem witness_1 : WitnessClaimed_1 := ⟨start1.p0, start1.e0, start1.about1, start1.theMethod, start1.args0, start1.below0, start1.atStart⟩
end Jvm.Pilot.@@N@@
