import JvmDerived
import JvmDerived.Pilot.@@N@@Statement
import JvmDerived.Pilot.@@N@@Code
set_option linter.unusedVariables false
set_option linter.unusedSimpArgs false
namespace Jvm.Pilot.@@N@@
open Jvm Jvm.ClassFile Sem Op Lib Jvm.Free Jvm.Stand Jvm.LawKit Jvm.RoadKit Bundle Jvm.Pilot.@@N@@.Jvm.D
/-- from S0 the run comes to T with the frame g -/
abbrev Rch (p : Program) (e : Env) (below : List Frame) (S0 T : State) (g : JFrame) : Prop := ∀ t, Steps p.tables e below (T.setTop g) t → Steps p.tables e below S0 t
abbrev Con (l : Launch) (Z : State) (y : MethodName) (bytes : ByteArray) (maxL : Nat) (ret : Option FieldType) (ws : List Jvm.Cond) (rm : Room) (as' : Array Value) (h : Heap) (Q : Option Value → Heap → List Loc → Prop) : Prop :=
  MetFree l y (head1 (Jvm.Cond.code y bytes maxL ret :: ws) rm) (fun a U => a = as' ∧ Z.Warmed39 U.vm ∧ U.heap = h) (fun _ _ _ _ _ => True) (fun _ U o U' => ∃ v L, o = .returned v ∧ Q v U'.heap L ∧ FrameEnd U o U' L rm.cells rm.slots)
section OwnKit
variable {p : Program} {l : Launch} {e : Env} {R : Room} {s : State} {m : MethodId} {args : Array Value} {below : List Frame} {meth : Method} {c : Code} {T : State} {locs : List Loc} {cells slots : Nat} {Z : State} {a0 : Array Value} {h : Heap}
theorem own_callS (X : Stand p l e R s m args below meth c T locs cells slots) (hx : p.tables.exec = Jvm.exec) (hZ : Z.Warmed39 s.vm) {own : String} {index : Nat} {y : MethodName} {bytes : ByteArray} {maxL : Nat} {ret : Option FieldType} {rm : Room} {as' : Array Value} {Q : Option Value → Heap → List Loc → Prop}
    (hown : s.vm.findClass own = some m.cls) (w1 : (Cond.methodLink own index y).before a0 Z = true) (w2 : (Cond.static y).before a0 Z = true) (w3 : (Cond.initialized y.cls).before a0 Z = true) (w4 : (Cond.code y bytes maxL ret).before a0 Z = true)
    (hy : y.cls ≠ "java/lang/invoke/MethodHandle" ∧ y.cls ≠ "java/lang/invoke/VarHandle") (hM : Con l Z y bytes maxL ret [] rm as' h Q) (eT : T.heap = h)
    {g : JFrame} (hg : g.method = m) (hsize : g.locals.size = c.maxLocals) {argsL rest : List Value} (has : as' = argsL.toArray) (hlen : ∀ sig, parseMethodDescriptor y.desc = some sig → argsL.length = sig.parameters.length) (hs : g.stack = argsL.reverse ++ rest) {W : Nat} (hW : 2 * g.monitorRoom + (rest.map fun v => v.category).sum ≤ W)
    (hd : decode c.code g.pc = .ok (.invokestatic index, 3)) (hf : rm.frames + 1 ≤ R.frames) (hl : W + (maxL + 11) + rm.locals ≤ R.locals) (hc : cells + rm.cells ≤ R.cells) (hsl : slots + rm.slots ≤ R.slots) :
    ∃ (v : Option Value) (T' : State) (h' : Heap) (Lc : List Loc), Stand p l e R s m args below meth c T' (locs ++ Lc) (cells + rm.cells) (slots + rm.slots) ∧ T'.heap = h' ∧ Q v h' Lc ∧
      ∀ target, Steps p.tables e below (T'.setTop { g with pc := g.pc + 3, stack := v.toList ++ rest }) target → Steps p.tables e below (T.setTop g) target := by
  obtain ⟨v, _, ⟨T', L', k', n'⟩, -, X', ⟨Lc, hQ, hl', hk', hn'⟩, st⟩ := Jvm.LawKit.callS X hx (y := y) hown (mvT hZ w1) (mvT hZ w2) (mvT hZ w3) (mvT hZ w4) hy (backOf (W := W) hM hZ w4 w3 hf hl) hg hsize hlen hs hW hd (fun _ _ => ⟨has.symm, eT, hc, hsl⟩)
  dsimp only [Pt.U, Pt.locs, Pt.cells, Pt.slots] at X' hl' hk' hn' st hQ
  subst hl' hk' hn'
  exact ⟨v, T', _, Lc, X', rfl, hQ, st⟩
theorem own_callV (X : Stand p l e R s m args below meth c T locs cells slots) (hx : p.tables.exec = Jvm.exec) (hZ : Z.Warmed39 s.vm) {own C : String} {index : Nat} {y z : MethodName} {bytes : ByteArray} {maxL : Nat} {ret : Option FieldType} {rm : Room} {as' : Array Value} {Q : Option Value → Heap → List Loc → Prop}
    (hown : s.vm.findClass own = some m.cls) (w1 : (Cond.methodLink own index y).before a0 Z = true) (w2 : (Cond.declares y).before a0 Z = true) (nf : NotFace s y) (w3 : (Cond.selects C y z).before a0 Z = true) (w4 : (Cond.instanceMethod z).before a0 Z = true) (w5 : (Cond.code z bytes maxL ret).before a0 Z = true) (w6 : (Cond.initialized z.cls).before a0 Z = true)
    (hy : y.cls ≠ "java/lang/invoke/MethodHandle" ∧ y.cls ≠ "java/lang/invoke/VarHandle") (hM : Con l Z z bytes maxL ret [] rm as' h Q) (eT : T.heap = h) {a : Addr} (E : Exa Z h a C)
    {g : JFrame} (hg : g.method = m) (hsize : g.locals.size = c.maxLocals) {argsL rest : List Value} (has : as' = (Value.ref a :: argsL).toArray) (hlen : ∀ sig, parseMethodDescriptor y.desc = some sig → argsL.length = sig.parameters.length) (hs : g.stack = argsL.reverse ++ .ref a :: rest) {W : Nat} (hW : 2 * g.monitorRoom + (rest.map fun v => v.category).sum ≤ W)
    (hd : decode c.code g.pc = .ok (.invokevirtual index, 3)) (hf : rm.frames + 1 ≤ R.frames) (hl : W + (maxL + 11) + rm.locals ≤ R.locals) (hc : cells + rm.cells ≤ R.cells) (hsl : slots + rm.slots ≤ R.slots) :
    ∃ (v : Option Value) (T' : State) (h' : Heap) (Lc : List Loc), Stand p l e R s m args below meth c T' (locs ++ Lc) (cells + rm.cells) (slots + rm.slots) ∧ T'.heap = h' ∧ Q v h' Lc ∧
      ∀ target, Steps p.tables e below (T'.setTop { g with pc := g.pc + 3, stack := v.toList ++ rest }) target → Steps p.tables e below (T.setTop g) target := by
  obtain ⟨cq, kq, qa, qb, qc⟩ := isOf hZ eT E
  obtain ⟨v, _, ⟨T', L', k', n'⟩, -, X', ⟨Lc, hQ, hl', hk', hn'⟩, st⟩ := X.virtualBack hx (y := y) (z := z) hown (mvT hZ w1) (mvT hZ w2) nf (mvT hZ w3) (mvT hZ w4) hy (backOf (W := W) hM hZ w5 w6 hf hl) qa qc hg hsize (Steps.refl _) hlen hs hW hd (fun _ _ => ⟨has.symm, eT, hc, hsl⟩)
  dsimp only [Pt.U, Pt.locs, Pt.cells, Pt.slots] at X' hl' hk' hn' st hQ
  subst hl' hk' hn'
  exact ⟨v, T', _, Lc, X', rfl, hQ, fun t k => st.trans k⟩
theorem own_callC (X : Stand p l e R s m args below meth c T locs cells slots) (hx : p.tables.exec = Jvm.exec) (hZ : Z.Warmed39 s.vm) {own : String} {index : Nat} {y : MethodName} {bytes : ByteArray} {maxL : Nat} {rm : Room} {as' : Array Value} {Q : Option Value → Heap → List Loc → Prop} (hy1 : y.name = "<init>")
    (hown : s.vm.findClass own = some m.cls) (w1 : (Cond.methodLink own index y).before a0 Z = true) (w2 : (Cond.instanceMethod y).before a0 Z = true) (w3 : (Cond.initialized y.cls).before a0 Z = true) (w4 : (Cond.code y bytes maxL none).before a0 Z = true)
    (hy : y.cls ≠ "java/lang/invoke/MethodHandle" ∧ y.cls ≠ "java/lang/invoke/VarHandle") (hM : Con l Z y bytes maxL none [] rm as' h Q) (eT : T.heap = h) {a : Addr}
    {g : JFrame} (hg : g.method = m) (hsize : g.locals.size = c.maxLocals) {argsL rest : List Value} (has : as' = (Value.ref a :: argsL).toArray) (hlen : ∀ sig, parseMethodDescriptor y.desc = some sig → argsL.length = sig.parameters.length) (hs : g.stack = argsL.reverse ++ .ref a :: rest) {W : Nat} (hW : 2 * g.monitorRoom + (rest.map fun v => v.category).sum ≤ W)
    (hd : decode c.code g.pc = .ok (.invokespecial index, 3)) (hf : rm.frames + 1 ≤ R.frames) (hl : W + (maxL + 11) + rm.locals ≤ R.locals) (hc : cells + rm.cells ≤ R.cells) (hsl : slots + rm.slots ≤ R.slots) :
    ∃ (v : Option Value) (T' : State) (h' : Heap) (Lc : List Loc), Stand p l e R s m args below meth c T' (locs ++ Lc) (cells + rm.cells) (slots + rm.slots) ∧ T'.heap = h' ∧ Q v h' Lc ∧
      ∀ target, Steps p.tables e below (T'.setTop { g with pc := g.pc + 3, stack := v.toList ++ rest }) target → Steps p.tables e below (T.setTop g) target := by
  obtain ⟨v, _, ⟨T', L', k', n'⟩, -, X', ⟨Lc, hQ, hl', hk', hn'⟩, st⟩ := X.specialBack hx (y := y) hy1 hown (mvT hZ w1) (mvT hZ w2) (mvT hZ w4) hy (backOf (W := W) hM hZ w4 w3 hf hl) hg hsize (Steps.refl _) (a := a) hlen hs hW hd (fun _ _ => ⟨has.symm, eT, hc, hsl⟩)
  dsimp only [Pt.U, Pt.locs, Pt.cells, Pt.slots] at X' hl' hk' hn' st hQ
  subst hl' hk' hn'
  exact ⟨v, T', _, Lc, X', rfl, hQ, fun t k => st.trans k⟩
theorem own_callU (X : Stand p l e R s m args below meth c T locs cells slots) (hx : p.tables.exec = Jvm.exec) (hZ : Z.Warmed39 s.vm) {own C owner : String} {index : Nat} {x y : MethodName} {bytes : ByteArray} {maxL : Nat} {ret : Option FieldType} {rm : Room} {as' : Array Value} {Q : Option Value → Heap → List Loc → Prop}
    (hown : s.vm.findClass own = some m.cls) (w1 : (Cond.methodLink own index x).before a0 Z = true) (w2 : (Cond.sameMethod x.cls owner x.name x.desc).before a0 Z = true) (w2' : (Cond.declares ⟨owner, x.name, x.desc⟩).before a0 Z = true) (hy : owner ≠ "java/lang/invoke/MethodHandle" ∧ owner ≠ "java/lang/invoke/VarHandle") (w3 : (Cond.selects C x y).before a0 Z = true) (w4 : (Cond.instanceMethod y).before a0 Z = true) (w5 : (Cond.code y bytes maxL ret).before a0 Z = true) (w6 : (Cond.initialized y.cls).before a0 Z = true)
    (hM : Con l Z y bytes maxL ret [] rm as' h Q) (eT : T.heap = h) {a : Addr} (E : Exa Z h a C)
    {g : JFrame} (hg : g.method = m) (hsize : g.locals.size = c.maxLocals) {argsL rest : List Value} (has : as' = (Value.ref a :: argsL).toArray) (hlen : ∀ sig, parseMethodDescriptor x.desc = some sig → argsL.length = sig.parameters.length) (hs : g.stack = argsL.reverse ++ .ref a :: rest) {W : Nat} (hW : 2 * g.monitorRoom + (rest.map fun v => v.category).sum ≤ W)
    (hd : decode c.code g.pc = .ok (.invokevirtual index, 3)) (hf : rm.frames + 1 ≤ R.frames) (hl : W + (maxL + 11) + rm.locals ≤ R.locals) (hc : cells + rm.cells ≤ R.cells) (hsl : slots + rm.slots ≤ R.slots) :
    ∃ (v : Option Value) (T' : State) (h' : Heap) (Lc : List Loc), Stand p l e R s m args below meth c T' (locs ++ Lc) (cells + rm.cells) (slots + rm.slots) ∧ T'.heap = h' ∧ Q v h' Lc ∧
      ∀ target, Steps p.tables e below (T'.setTop { g with pc := g.pc + 3, stack := v.toList ++ rest }) target → Steps p.tables e below (T.setTop g) target := by
  obtain ⟨cq, kq, qa, qb, qc⟩ := isOf hZ eT E
  obtain ⟨v, _, ⟨T', L', k', n'⟩, -, X', ⟨Lc, hQ, hl', hk', hn'⟩, st⟩ := X.virtualBackUp hx (x := x) (y := y) hown (mvT hZ w1) (mvT hZ w2) (mvT hZ w2') hy (mvT hZ w3) (mvT hZ w4) (backOf (W := W) hM hZ w5 w6 hf hl) qa qc hg hsize (Steps.refl _) hlen hs hW hd (fun _ _ => ⟨has.symm, eT, hc, hsl⟩)
  dsimp only [Pt.U, Pt.locs, Pt.cells, Pt.slots] at X' hl' hk' hn' st hQ
  subst hl' hk' hn'
  exact ⟨v, T', _, Lc, X', rfl, hQ, fun t k => st.trans k⟩
theorem own_ne {a b : Nat} (h : a < b ∨ b < a) : a ≠ b := by omega
theorem own_ltN {a b : Nat} (h : a < b) : a < b := h
theorem own_neN {a b : Nat} (h : a ≠ b) : a ≠ b := h
theorem own_fldL {args : Array Value} {t : Term} {a : Addr} {C n d : String} {k : Int64} (ev : t.eval args Z none [] Z = some (.ref a)) (q : (Cond.eq (.field t C n d) (.long k)).value args Z none Z [] = some true) : Fld Z Z.heap a C n d (.long k) := by
  apply Fld.start
  cases hv : Z.fieldOf? a C n d with
  | none => simp [Cond.value, fld_at ev, hv] at q
  | some v => cases v <;> simp only [Cond.value, fld_at ev, hv, long_at] at q <;> simp at q <;> subst q <;> rfl
theorem own_fldI {args : Array Value} {t : Term} {a : Addr} {C n d : String} {k : Int32} (ev : t.eval args Z none [] Z = some (.ref a)) (q : (Cond.eq (.field t C n d) (.int k)).value args Z none Z [] = some true) : Fld Z Z.heap a C n d (.int k) := by
  apply Fld.start
  cases hv : Z.fieldOf? a C n d with
  | none => simp [Cond.value, fld_at ev, hv] at q
  | some v => cases v <;> simp only [Cond.value, fld_at ev, hv, Term.int_eval] at q <;> simp at q <;> subst q <;> rfl
variable {vm0 : Vm}
abbrev ConW (l : Launch) (Z : State) (y : MethodName) (bytes : ByteArray) (maxL : Nat) (ret : Option FieldType) (ws : List Jvm.Cond) (rm : Room) (as' : Array Value) (h : Heap) (Q : Option Value → Heap → List Loc → Prop) : Prop :=
  MetFree l y (head1 (Jvm.Cond.code y bytes maxL ret :: ws) rm) (fun a U => a = as' ∧ Z.Warmed39 U.vm ∧ U.heap = h) (fun _ _ _ _ _ => True) (fun _ U o U' => ∃ v L, o = .returned v ∧ Q v U'.heap L ∧ ReturnedEndW U o U' L rm.cells rm.slots)
theorem own_callSW (X : Stand p l e R (s.setVm vm0) m args below meth c T locs cells slots) (hx : p.tables.exec = Jvm.exec) (hZ : Z.Warmed39 vm0) {own : String} {index : Nat} {y : MethodName} {bytes : ByteArray} {maxL : Nat} {ret : Option FieldType} {rm : Room} {as' : Array Value} {Q : Option Value → Heap → List Loc → Prop}
    (hown : vm0.findClass own = some m.cls) (w1 : (Cond.methodLink own index y).before a0 Z = true) (w2 : (Cond.static y).before a0 Z = true) (w3 : (Cond.initialized y.cls).before a0 Z = true) (w4 : (Cond.code y bytes maxL ret).before a0 Z = true)
    (hy : y.cls ≠ "java/lang/invoke/MethodHandle" ∧ y.cls ≠ "java/lang/invoke/VarHandle") (hM : ConW l Z y bytes maxL ret [] rm as' h Q) (eT : T.heap = h) {k0 : Nat} (hS : s.Since vm0 k0) (hk : k0 ≤ h.size)
    {g : JFrame} (hg : g.method = m) (hsize : g.locals.size = c.maxLocals) {argsL rest : List Value} (has : as' = argsL.toArray) (hlen : ∀ sig, parseMethodDescriptor y.desc = some sig → argsL.length = sig.parameters.length) (hs : g.stack = argsL.reverse ++ rest) {W : Nat} (hW : 2 * g.monitorRoom + (rest.map fun v => v.category).sum ≤ W)
    (hd : decode c.code g.pc = .ok (.invokestatic index, 3)) (hf : rm.frames + 1 ≤ R.frames) (hl : W + (maxL + 11) + rm.locals ≤ R.locals) (hc : cells + rm.cells ≤ R.cells) (hsl : slots + rm.slots ≤ R.slots) :
    ∃ (v : Option Value) (T' : State) (h' : Heap) (Lc : List Loc), Stand p l e R (s.setVm T'.vm) m args below meth c T' (locs ++ Lc) (cells + rm.cells) (slots + rm.slots) ∧ T'.heap = h' ∧ Q v h' Lc ∧ s.Since T'.vm h'.size ∧ Z.Warmed39 T'.vm ∧ T'.vm.findClass own = some m.cls ∧
      ∀ target, Steps p.tables e below (T'.setTop { g with pc := g.pc + 3, stack := v.toList ++ rest }) target → Steps p.tables e below (T.setTop g) target := by
  subst eT
  obtain ⟨v, vm₁, ⟨T', L', k', n'⟩, -, X', hS', hgr, ⟨Lc, hQ, hl', hk', hn'⟩, st⟩ := callSS (s := s.setVm vm0) X hx (y := y) hown (mvT (s := s.setVm vm0) hZ w1) (mvT (s := s.setVm vm0) hZ w2) (mvT (s := s.setVm vm0) hZ w3) (mvT (s := s.setVm vm0) hZ w4) hy (backOfS (s := s.setVm vm0) (W := W) hM hZ w4 w3 hf hl) hg hsize hlen hs hW hd (fun _ _ => ⟨has.symm, rfl, hc, hsl⟩)
  dsimp only [Pt.U, Pt.locs, Pt.cells, Pt.slots] at X' hl' hk' hn' st hQ hS' hgr
  subst hl' hk' hn'
  exact ⟨v, T', _, Lc, X', rfl, hQ, hS.trans hS' (Nat.le_trans hk hgr), State.Warmed39.trans (t := s.setVm vm0) hZ hS'.1, by rw [hS'.1.alike.findClass]; exact hown, fun t k => st.trans k⟩
theorem own_callCW (X : Stand p l e R (s.setVm vm0) m args below meth c T locs cells slots) (hx : p.tables.exec = Jvm.exec) (hZ : Z.Warmed39 vm0) {own : String} {index : Nat} {y : MethodName} {bytes : ByteArray} {maxL : Nat} {rm : Room} {as' : Array Value} {Q : Option Value → Heap → List Loc → Prop} (hy1 : y.name = "<init>")
    (hown : vm0.findClass own = some m.cls) (w1 : (Cond.methodLink own index y).before a0 Z = true) (w2 : (Cond.instanceMethod y).before a0 Z = true) (w3 : (Cond.initialized y.cls).before a0 Z = true) (w4 : (Cond.code y bytes maxL none).before a0 Z = true)
    (hy : y.cls ≠ "java/lang/invoke/MethodHandle" ∧ y.cls ≠ "java/lang/invoke/VarHandle") (hM : ConW l Z y bytes maxL none [] rm as' h Q) (eT : T.heap = h) {k0 : Nat} (hS : s.Since vm0 k0) (hk : k0 ≤ h.size) {a : Addr}
    {g : JFrame} (hg : g.method = m) (hsize : g.locals.size = c.maxLocals) {argsL rest : List Value} (has : as' = (Value.ref a :: argsL).toArray) (hlen : ∀ sig, parseMethodDescriptor y.desc = some sig → argsL.length = sig.parameters.length) (hs : g.stack = argsL.reverse ++ .ref a :: rest) {W : Nat} (hW : 2 * g.monitorRoom + (rest.map fun v => v.category).sum ≤ W)
    (hd : decode c.code g.pc = .ok (.invokespecial index, 3)) (hf : rm.frames + 1 ≤ R.frames) (hl : W + (maxL + 11) + rm.locals ≤ R.locals) (hc : cells + rm.cells ≤ R.cells) (hsl : slots + rm.slots ≤ R.slots) :
    ∃ (v : Option Value) (T' : State) (h' : Heap) (Lc : List Loc), Stand p l e R (s.setVm T'.vm) m args below meth c T' (locs ++ Lc) (cells + rm.cells) (slots + rm.slots) ∧ T'.heap = h' ∧ Q v h' Lc ∧ s.Since T'.vm h'.size ∧ Z.Warmed39 T'.vm ∧ T'.vm.findClass own = some m.cls ∧
      ∀ target, Steps p.tables e below (T'.setTop { g with pc := g.pc + 3, stack := v.toList ++ rest }) target → Steps p.tables e below (T.setTop g) target := by
  subst eT
  obtain ⟨v, vm₁, ⟨T', L', k', n'⟩, -, X', hS', hgr, ⟨Lc, hQ, hl', hk', hn'⟩, st⟩ := Jvm.Stand.specialBackS (s := s.setVm vm0) X hx (y := y) hy1 hown (mvT (s := s.setVm vm0) hZ w1) (mvT (s := s.setVm vm0) hZ w2) (mvT (s := s.setVm vm0) hZ w4) hy (backOfS (s := s.setVm vm0) (W := W) hM hZ w4 w3 hf hl) hg hsize (Steps.refl _) (a := a) hlen hs hW hd (fun _ _ => ⟨has.symm, rfl, hc, hsl⟩)
  dsimp only [Pt.U, Pt.locs, Pt.cells, Pt.slots] at X' hl' hk' hn' st hQ hS' hgr
  subst hl' hk' hn'
  exact ⟨v, T', _, Lc, X', rfl, hQ, hS.trans hS' (Nat.le_trans hk hgr), State.Warmed39.trans (t := s.setVm vm0) hZ hS'.1, by rw [hS'.1.alike.findClass]; exact hown, fun t k => st.trans k⟩
theorem own_callVW (X : Stand p l e R (s.setVm vm0) m args below meth c T locs cells slots) (hx : p.tables.exec = Jvm.exec) (hZ : Z.Warmed39 vm0) {own C : String} {index : Nat} {y z : MethodName} {bytes : ByteArray} {maxL : Nat} {ret : Option FieldType} {rm : Room} {as' : Array Value} {Q : Option Value → Heap → List Loc → Prop}
    (hown : vm0.findClass own = some m.cls) (w1 : (Cond.methodLink own index y).before a0 Z = true) (w2 : (Cond.declares y).before a0 Z = true) (nf : NotFace (s.setVm vm0) y) (w3 : (Cond.selects C y z).before a0 Z = true) (w4 : (Cond.instanceMethod z).before a0 Z = true) (w5 : (Cond.code z bytes maxL ret).before a0 Z = true) (w6 : (Cond.initialized z.cls).before a0 Z = true)
    (hy : y.cls ≠ "java/lang/invoke/MethodHandle" ∧ y.cls ≠ "java/lang/invoke/VarHandle") (hM : ConW l Z z bytes maxL ret [] rm as' h Q) (eT : T.heap = h) {k0 : Nat} (hS : s.Since vm0 k0) (hk : k0 ≤ h.size) {a : Addr} (E : Exa Z h a C)
    {g : JFrame} (hg : g.method = m) (hsize : g.locals.size = c.maxLocals) {argsL rest : List Value} (has : as' = (Value.ref a :: argsL).toArray) (hlen : ∀ sig, parseMethodDescriptor y.desc = some sig → argsL.length = sig.parameters.length) (hs : g.stack = argsL.reverse ++ .ref a :: rest) {W : Nat} (hW : 2 * g.monitorRoom + (rest.map fun v => v.category).sum ≤ W)
    (hd : decode c.code g.pc = .ok (.invokevirtual index, 3)) (hf : rm.frames + 1 ≤ R.frames) (hl : W + (maxL + 11) + rm.locals ≤ R.locals) (hc : cells + rm.cells ≤ R.cells) (hsl : slots + rm.slots ≤ R.slots) :
    ∃ (v : Option Value) (T' : State) (h' : Heap) (Lc : List Loc), Stand p l e R (s.setVm T'.vm) m args below meth c T' (locs ++ Lc) (cells + rm.cells) (slots + rm.slots) ∧ T'.heap = h' ∧ Q v h' Lc ∧ s.Since T'.vm h'.size ∧ Z.Warmed39 T'.vm ∧ T'.vm.findClass own = some m.cls ∧
      ∀ target, Steps p.tables e below (T'.setTop { g with pc := g.pc + 3, stack := v.toList ++ rest }) target → Steps p.tables e below (T.setTop g) target := by
  subst eT
  obtain ⟨cq, kq, qa, qb, qc⟩ := isOf (s := s.setVm vm0) hZ rfl E
  obtain ⟨v, vm₁, ⟨T', L', k', n'⟩, -, X', hS', hgr, ⟨Lc, hQ, hl', hk', hn'⟩, st⟩ := Jvm.Stand.virtualBackS (s := s.setVm vm0) X hx (y := y) (z := z) hown (mvT (s := s.setVm vm0) hZ w1) (mvT (s := s.setVm vm0) hZ w2) nf (mvT (s := s.setVm vm0) hZ w3) (mvT (s := s.setVm vm0) hZ w4) hy (backOfS (s := s.setVm vm0) (W := W) hM hZ w5 w6 hf hl) qa qc hg hsize (Steps.refl _) hlen hs hW hd (fun _ _ => ⟨has.symm, rfl, hc, hsl⟩)
  dsimp only [Pt.U, Pt.locs, Pt.cells, Pt.slots] at X' hl' hk' hn' st hQ hS' hgr
  subst hl' hk' hn'
  exact ⟨v, T', _, Lc, X', rfl, hQ, hS.trans hS' (Nat.le_trans hk hgr), State.Warmed39.trans (t := s.setVm vm0) hZ hS'.1, by rw [hS'.1.alike.findClass]; exact hown, fun t k => st.trans k⟩
theorem own_more {cells' slots' : Nat} (X : Stand p l e R s m args below meth c T locs cells slots) (h1 : cells ≤ cells') (h2 : slots ≤ slots') : Stand p l e R s m args below meth c T locs cells' slots' := { X with same := X.same.mono h1 h2 }
theorem own_arrKeep {h h' : Heap} {a : Addr} {cl : Cell} {ty : FieldType} {ws : List Addr} (A : Arr Z h a cl ty) (K : Keep h h' ws) (q : a ∉ ws) : Arr Z h' a cl ty := ⟨K.2.1 a cl A.1 q, A.2⟩
end OwnKit
def own_len (x : Nat) : Nat := if x < 10 then 1 else if x < 100 then 2 else if x < 1000 then 3 else if x < 10000 then 4 else if x < 100000 then 5 else if x < 1000000 then 6 else if x < 10000000 then 7 else if x < 100000000 then 8 else if x < 1000000000 then 9 else 10
def own_lenI (x : Int32) : Int32 := if x < (10 : Int32) then (1 : Int32) else if x < (100 : Int32) then (2 : Int32) else if x < (1000 : Int32) then (3 : Int32) else if x < (10000 : Int32) then (4 : Int32) else if x < (100000 : Int32) then (5 : Int32) else if x < (1000000 : Int32) then (6 : Int32) else if x < (10000000 : Int32) then (7 : Int32) else if x < (100000000 : Int32) then (8 : Int32) else if x < (1000000000 : Int32) then (9 : Int32) else (10 : Int32)
theorem own_lenI_eq {x : Int32} (h : 1 ≤ x.toInt) : (own_lenI x).toInt = (own_len x.toInt.toNat : Nat) := by
  unfold own_lenI own_len
  simp only [Int32.lt_iff_toInt_lt, show (10 : Int32).toInt = 10 by decide, show (100 : Int32).toInt = 100 by decide, show (1000 : Int32).toInt = 1000 by decide, show (10000 : Int32).toInt = 10000 by decide, show (100000 : Int32).toInt = 100000 by decide, show (1000000 : Int32).toInt = 1000000 by decide, show (10000000 : Int32).toInt = 10000000 by decide, show (100000000 : Int32).toInt = 100000000 by decide, show (1000000000 : Int32).toInt = 1000000000 by decide]
  by_cases c0 : x.toInt < 10
  · rw [if_pos c0, if_pos (show x.toInt.toNat < 10 by omega)]; decide
  rw [if_neg c0, if_neg (show ¬ x.toInt.toNat < 10 by omega)]
  by_cases c1 : x.toInt < 100
  · rw [if_pos c1, if_pos (show x.toInt.toNat < 100 by omega)]; decide
  rw [if_neg c1, if_neg (show ¬ x.toInt.toNat < 100 by omega)]
  by_cases c2 : x.toInt < 1000
  · rw [if_pos c2, if_pos (show x.toInt.toNat < 1000 by omega)]; decide
  rw [if_neg c2, if_neg (show ¬ x.toInt.toNat < 1000 by omega)]
  by_cases c3 : x.toInt < 10000
  · rw [if_pos c3, if_pos (show x.toInt.toNat < 10000 by omega)]; decide
  rw [if_neg c3, if_neg (show ¬ x.toInt.toNat < 10000 by omega)]
  by_cases c4 : x.toInt < 100000
  · rw [if_pos c4, if_pos (show x.toInt.toNat < 100000 by omega)]; decide
  rw [if_neg c4, if_neg (show ¬ x.toInt.toNat < 100000 by omega)]
  by_cases c5 : x.toInt < 1000000
  · rw [if_pos c5, if_pos (show x.toInt.toNat < 1000000 by omega)]; decide
  rw [if_neg c5, if_neg (show ¬ x.toInt.toNat < 1000000 by omega)]
  by_cases c6 : x.toInt < 10000000
  · rw [if_pos c6, if_pos (show x.toInt.toNat < 10000000 by omega)]; decide
  rw [if_neg c6, if_neg (show ¬ x.toInt.toNat < 10000000 by omega)]
  by_cases c7 : x.toInt < 100000000
  · rw [if_pos c7, if_pos (show x.toInt.toNat < 100000000 by omega)]; decide
  rw [if_neg c7, if_neg (show ¬ x.toInt.toNat < 100000000 by omega)]
  by_cases c8 : x.toInt < 1000000000
  · rw [if_pos c8, if_pos (show x.toInt.toNat < 1000000000 by omega)]; decide
  rw [if_neg c8, if_neg (show ¬ x.toInt.toNat < 1000000000 by omega)]
  decide
theorem own_len_spec {x : Nat} (h1 : 1 ≤ x) (h2 : x < 10000000000) : 1 ≤ own_len x ∧ own_len x ≤ 10 ∧ 10 ^ (own_len x - 1) ≤ x ∧ x < 10 ^ own_len x := by
  unfold own_len
  repeat' split
  all_goals (refine ⟨by decide, by decide, ?_, ?_⟩ <;> simp <;> omega)
theorem own_len_uniq {x L : Nat} (h1 : 1 ≤ x) (h2 : x < 10000000000) (hL : 1 ≤ L) (a : 10 ^ (L - 1) ≤ x) (b : x < 10 ^ L) : own_len x = L := by
  obtain ⟨p1, p2, p3, p4⟩ := own_len_spec h1 h2
  rcases Nat.lt_trichotomy (own_len x) L with q | q | q
  · have := Nat.pow_le_pow_right (n := 10) (by decide) (show own_len x ≤ L - 1 by omega); omega
  · exact q
  · have := Nat.pow_le_pow_right (n := 10) (by decide) (show L ≤ own_len x - 1 by omega); omega
def own_P (x : Nat) : Nat := x * 10 ^ (10 - own_len x)
def own_key (x : Nat) : Nat := own_P x * 16 + own_len x
theorem own_P_lt {x : Nat} (h1 : 1 ≤ x) (h2 : x < 10000000000) : own_P x < 10000000000 := by
  obtain ⟨p1, p2, p3, p4⟩ := own_len_spec h1 h2
  have e : (10000000000 : Nat) = 10 ^ own_len x * 10 ^ (10 - own_len x) := by
    rw [← Nat.pow_add, show own_len x + (10 - own_len x) = 10 by omega]
  rw [e]
  exact Nat.mul_lt_mul_of_pos_right p4 (Nat.pow_pos (by decide))
theorem own_mul10 {n m : Nat} (h1 : 1 ≤ n) (h2 : 10 * n ≤ m) (hm : m < 2147483648) : own_key (10 * n) = own_key n + 1 := by
  obtain ⟨p1, p2, p3, p4⟩ := own_len_spec h1 (by omega : n < 10000000000)
  have e1 : (10 : Nat) ^ own_len n = 10 * 10 ^ (own_len n - 1) := by rw [← Nat.pow_succ', show (own_len n - 1).succ = own_len n by omega]
  have hL : own_len n < 10 := by
    refine Nat.lt_of_not_le fun q => ?_
    have : own_len n = 10 := by omega
    rw [this] at p3
    simp at p3; omega
  have e2 : own_len (10 * n) = own_len n + 1 := by
    refine own_len_uniq (by omega) (by omega) (by omega) ?_ ?_
    · rw [Nat.add_sub_cancel, e1]; omega
    · rw [Nat.pow_succ]; omega
  have e3 : (10 : Nat) ^ (10 - own_len n) = 10 * 10 ^ (10 - (own_len n + 1)) := by rw [← Nat.pow_succ', show (10 - (own_len n + 1)).succ = 10 - own_len n by omega]
  unfold own_key own_P
  rw [e2, e3, ← Nat.mul_assoc n 10, Nat.mul_comm n 10]
  omega
def own_Inv (n m q : Nat) : Prop := ∃ i, i ≤ own_len n ∧ q = n / 10 ^ i ∧ ∀ k, 1 ≤ k → k ≤ m → own_key n < own_key k → (q + 1) * 10 ^ (10 - own_len n + i) ≤ own_P k
theorem own_key_lt {n k : Nat} (h1 : 1 ≤ n) (h2 : n < 10000000000) (g1 : 1 ≤ k) (g2 : k < 10000000000) (h : own_key n < own_key k) : own_P n < own_P k ∨ (own_P n = own_P k ∧ own_len n < own_len k) := by
  obtain ⟨p1, p2, -, -⟩ := own_len_spec h1 h2
  obtain ⟨q1, q2, -, -⟩ := own_len_spec g1 g2
  unfold own_key at h; omega
theorem own_inv0 {n m : Nat} (h1 : 1 ≤ n) (h2 : n ≤ m) (hm : m < 2147483648) (h10 : m < 10 * n) : own_Inv n m n := by
  refine ⟨0, by omega, by simp, fun k k1 k2 hk => ?_⟩
  have a := own_key_lt h1 (by omega) k1 (by omega) hk
  obtain ⟨p1, p2, p3, p4⟩ := own_len_spec h1 (by omega : n < 10000000000)
  obtain ⟨q1, q2, q3, q4⟩ := own_len_spec k1 (by omega : k < 10000000000)
  by_cases hl : own_len n < own_len k
  · exfalso
    have e : (10 : Nat) ^ (10 - own_len n) = 10 ^ (own_len k - own_len n) * 10 ^ (10 - own_len k) := by rw [← Nat.pow_add, show own_len k - own_len n + (10 - own_len k) = 10 - own_len n by omega]
    have le : own_P n ≤ own_P k := by omega
    unfold own_P at le
    rw [e, ← Nat.mul_assoc] at le
    have le2 := Nat.le_of_mul_le_mul_right le (Nat.pow_pos (by decide))
    have e2 : (10 : Nat) ^ (own_len k - own_len n) = 10 * 10 ^ (own_len k - own_len n - 1) := by rw [← Nat.pow_succ', show (own_len k - own_len n - 1).succ = own_len k - own_len n by omega]
    have pos : 1 ≤ 10 ^ (own_len k - own_len n - 1) := Nat.pow_pos (by decide)
    have : n * 10 ≤ n * 10 ^ (own_len k - own_len n) := Nat.mul_le_mul_left n (by omega)
    omega
  · have lt : own_P n < own_P k := by omega
    have e : (10 : Nat) ^ (10 - own_len k) = 10 ^ (own_len n - own_len k) * 10 ^ (10 - own_len n) := by rw [← Nat.pow_add, show own_len n - own_len k + (10 - own_len n) = 10 - own_len k by omega]
    unfold own_P at lt ⊢
    rw [e, ← Nat.mul_assoc] at lt ⊢
    have lt2 := Nat.lt_of_mul_lt_mul_right lt
    rw [Nat.add_zero]
    exact Nat.mul_le_mul_right _ lt2
theorem own_inv_lt {n m q i : Nat} (h1 : 1 ≤ n) (hm : n < 10000000000) (hi : i ≤ own_len n) (hq : q = n / 10 ^ i) (h : 1 ≤ q) : i < own_len n := by
  refine Nat.lt_of_not_le fun z => ?_
  have : i = own_len n := by omega
  obtain ⟨p1, p2, p3, p4⟩ := own_len_spec h1 hm
  rw [this, Nat.div_eq_of_lt p4] at hq
  omega
theorem own_inv9 {n m q : Nat} (h1 : 1 ≤ n) (hm : n < 10000000000) (inv : own_Inv n m q) (h : q % 10 = 9) : own_Inv n m (q / 10) := by
  obtain ⟨i, hi, hq, H⟩ := inv
  have lt := own_inv_lt (m := m) h1 hm hi hq (by omega)
  refine ⟨i + 1, lt, by rw [hq, Nat.div_div_eq_div_mul, Nat.pow_succ], fun k k1 k2 hk => ?_⟩
  have a := H k k1 k2 hk
  have e : q + 1 = (q / 10 + 1) * 10 := by omega
  rw [e, Nat.mul_assoc, ← Nat.pow_succ'] at a
  exact a
theorem own_invM {n m q : Nat} (h1 : 1 ≤ n) (h2 : n ≤ m) (hm : m < 2147483648) (inv : own_Inv n m q) (h : m ≤ q) : own_Inv n m (q / 10) := by
  obtain ⟨i, hi, hq, H⟩ := inv
  have hle : n / 10 ^ i ≤ n := Nat.div_le_self ..
  have hi0 : i = 0 := by
    refine Nat.eq_zero_of_not_pos fun z => ?_
    have p : 1 < 10 ^ i := Nat.one_lt_pow (by omega) (by decide)
    have := Nat.div_lt_self (show 0 < n by omega) p
    omega
  subst hi0
  have e0 : q = n := by rw [hq]; simp
  have e1 : n = m := by omega
  subst e1
  subst e0
  obtain ⟨p1, p2, p3, p4⟩ := own_len_spec h1 (by omega : q < 10000000000)
  refine ⟨1, p1, by simp, fun k k1 k2 hk => ?_⟩
  have a := H k k1 k2 hk
  obtain ⟨q1, q2, q3, q4⟩ := own_len_spec k1 (by omega : k < 10000000000)
  rw [Nat.add_zero] at a
  have hlk : own_len k ≤ own_len q := by
    refine Nat.le_of_not_lt fun z => ?_
    have := Nat.pow_le_pow_right (n := 10) (by decide) (show own_len q ≤ own_len k - 1 by omega); omega
  have hlk2 : own_len k < own_len q := by
    refine Nat.lt_of_le_of_ne hlk fun z => ?_
    unfold own_P at a
    rw [z] at a
    have := Nat.le_of_mul_le_mul_right a (Nat.pow_pos (by decide)); omega
  have e : (10 : Nat) ^ (10 - own_len k) = 10 ^ (own_len q - own_len k - 1) * 10 * 10 ^ (10 - own_len q) := by rw [← Nat.pow_succ, ← Nat.pow_add, show (own_len q - own_len k - 1).succ + (10 - own_len q) = 10 - own_len k by omega]
  unfold own_P at a ⊢
  rw [e, ← Nat.mul_assoc] at a
  have a2 := Nat.le_of_mul_le_mul_right a (Nat.pow_pos (by decide))
  rw [← Nat.mul_assoc] at a2
  have a3 : q / 10 + 1 ≤ k * 10 ^ (own_len q - own_len k - 1) := by
    generalize k * 10 ^ (own_len q - own_len k - 1) = y at a2 ⊢; omega
  have e3 : (10 : Nat) ^ (10 - own_len k) = 10 ^ (own_len q - own_len k - 1) * 10 ^ (10 - own_len q + 1) := by rw [← Nat.pow_add, show own_len q - own_len k - 1 + (10 - own_len q + 1) = 10 - own_len k by omega]
  rw [e3, ← Nat.mul_assoc]
  exact Nat.mul_le_mul_right _ a3
theorem own_fin0 {n m : Nat} (h1 : 1 ≤ n) (h2 : n ≤ m) (hm : m < 2147483648) (inv : own_Inv n m 0) : ∀ k, 1 ≤ k → k ≤ m → ¬ own_key n < own_key k := fun k k1 k2 hk => by
  obtain ⟨i, hi, hq, H⟩ := inv
  have a := H k k1 k2 hk
  obtain ⟨p1, p2, p3, p4⟩ := own_len_spec h1 (by omega : n < 10000000000)
  have hiL : i = own_len n := by
    refine Nat.le_antisymm hi (Nat.le_of_not_lt fun z => ?_)
    have q1 := Nat.pow_le_pow_right (n := 10) (by decide) (show i ≤ own_len n - 1 by omega)
    have := Nat.div_pos (show 10 ^ i ≤ n by omega) (Nat.pow_pos (by decide)); omega
  rw [hiL, show 10 - own_len n + own_len n = 10 by omega] at a
  have := own_P_lt k1 (by omega : k < 10000000000)
  simp at a; omega
theorem own_fin {n m q : Nat} (h1 : 1 ≤ n) (h2 : n ≤ m) (hm : m < 2147483648) (inv : own_Inv n m q) (hq1 : 1 ≤ q) (h9 : q % 10 ≠ 9) (hqm : q < m) : own_key n < own_key (q + 1) ∧ ∀ k, 1 ≤ k → k ≤ m → ¬ (own_key n < own_key k ∧ own_key k < own_key (q + 1)) := by
  obtain ⟨i, hi, hq, H⟩ := inv
  have lt := own_inv_lt (m := m) h1 (by omega) hi hq hq1
  obtain ⟨p1, p2, p3, p4⟩ := own_len_spec h1 (by omega : n < 10000000000)
  have pp : 0 < 10 ^ i := Nat.pow_pos (by decide)
  have b1 : 10 ^ (own_len n - i - 1) ≤ q := by
    rw [hq, Nat.le_div_iff_mul_le pp, ← Nat.pow_add, show own_len n - i - 1 + i = own_len n - 1 by omega]; exact p3
  have b2 : q < 10 ^ (own_len n - i) := by
    rw [hq, Nat.div_lt_iff_lt_mul pp, ← Nat.pow_add, show own_len n - i + i = own_len n by omega]; exact p4
  have b3 : q + 1 < 10 ^ (own_len n - i) := by
    have e : (10 : Nat) ^ (own_len n - i) = 10 * 10 ^ (own_len n - i - 1) := by rw [← Nat.pow_succ', show (own_len n - i - 1).succ = own_len n - i by omega]
    generalize (10 : Nat) ^ (own_len n - i - 1) = y at e
    omega
  have eL : own_len (q + 1) = own_len n - i := own_len_uniq (by omega) (by omega) (by omega) (by omega) b3
  have eP : own_P (q + 1) = (q + 1) * 10 ^ (10 - own_len n + i) := by
    unfold own_P; rw [eL, show 10 - (own_len n - i) = 10 - own_len n + i by omega]
  have nlt : n < (q + 1) * 10 ^ i := by
    have := Nat.lt_mul_div_succ n pp
    rw [hq, Nat.mul_comm]; exact this
  have plt : own_P n < own_P (q + 1) := by
    rw [eP]; unfold own_P
    have e9 : (10 : Nat) ^ (10 - own_len n + i) = 10 ^ i * 10 ^ (10 - own_len n) := by rw [← Nat.pow_add, Nat.add_comm]
    rw [e9, ← Nat.mul_assoc]
    exact Nat.mul_lt_mul_of_pos_right nlt (Nat.pow_pos (by decide))
  obtain ⟨r1, r2, -, -⟩ := own_len_spec (show 1 ≤ q + 1 by omega) (by omega)
  refine ⟨by unfold own_key; omega, fun k k1 k2 hk => ?_⟩
  obtain ⟨q1, q2, q3, q4⟩ := own_len_spec k1 (by omega : k < 10000000000)
  have a := H k k1 k2 hk.1
  rw [← eP] at a
  have c := own_key_lt k1 (by omega) (by omega) (by omega) hk.2
  have c1 : own_P k = own_P (q + 1) := by omega
  have c2 : own_len k < own_len (q + 1) := by omega
  unfold own_P at c1
  have e : (10 : Nat) ^ (10 - own_len k) = 10 ^ (own_len (q + 1) - own_len k - 1) * 10 * 10 ^ (10 - own_len (q + 1)) := by rw [← Nat.pow_succ, ← Nat.pow_add, show (own_len (q + 1) - own_len k - 1).succ + (10 - own_len (q + 1)) = 10 - own_len k by omega]
  rw [e, ← Nat.mul_assoc] at c1
  have c3 := Nat.eq_of_mul_eq_mul_right (Nat.pow_pos (by decide)) c1
  rw [← Nat.mul_assoc] at c3
  generalize k * 10 ^ (own_len (q + 1) - own_len k - 1) = y at c3
  omega
def own_Res (n m r : Nat) : Prop := (r = 0 ∧ ∀ k, 1 ≤ k → k ≤ m → ¬ own_key n < own_key k) ∨ (1 ≤ r ∧ r ≤ m ∧ own_key n < own_key r ∧ ∀ k, 1 ≤ k → k ≤ m → ¬ (own_key n < own_key k ∧ own_key k < own_key r))
theorem own_res10 {n m : Nat} (h1 : 1 ≤ n) (h2 : 10 * n ≤ m) (hm : m < 2147483648) : own_Res n m (10 * n) := by
  have e := own_mul10 h1 h2 hm
  exact Or.inr ⟨by omega, h2, by omega, fun k _ _ q => by omega⟩
theorem own_res0 {n m : Nat} (h1 : 1 ≤ n) (h2 : n ≤ m) (hm : m < 2147483648) (inv : own_Inv n m 0) : own_Res n m 0 := Or.inl ⟨rfl, own_fin0 h1 h2 hm inv⟩
theorem own_resS {n m q : Nat} (h1 : 1 ≤ n) (h2 : n ≤ m) (hm : m < 2147483648) (inv : own_Inv n m q) (hq1 : 1 ≤ q) (h9 : q % 10 ≠ 9) (hqm : q < m) : own_Res n m (q + 1) := by
  obtain ⟨a, b⟩ := own_fin h1 h2 hm inv hq1 h9 hqm
  exact Or.inr ⟨by omega, hqm, a, b⟩
theorem own_i10 : (10 : Int32).toInt = 10 := by decide
theorem own_div10 {q : Int32} (h : 0 ≤ q.toInt) : (q / (10 : Int32)).toInt = q.toInt / 10 := (c_idiv q 10 10 (by decide) (by decide)).1 h
theorem own_rem10 {q : Int32} (h : 0 ≤ q.toInt) : (q % (10 : Int32)).toInt = q.toInt % 10 := (c_irem q 10 10 (by decide)).1 h
theorem own_pad (i : Fin 10) : ([(.long (1 : Int64)), (.long (10 : Int64)), (.long (100 : Int64)), (.long (1000 : Int64)), (.long (10000 : Int64)), (.long (100000 : Int64)), (.long (1000000 : Int64)), (.long (10000000 : Int64)), (.long (100000000 : Int64)), (.long (1000000000 : Int64))] : List Value).getD i.1 (.long (0 : Int64)) = .long (Int64.ofNat (10 ^ i.1)) := by
  revert i; decide +kernel
theorem own_keyv {x l : Int32} (h : 1 ≤ x.toInt) (hl : l = own_lenI x) : ¬ ((10 : Int32) - l) < 0 ∧ ((10 : Int32) - l) < 10 ∧ (((x.toInt64 * (Int64.ofNat (10 ^ ((10 : Int32) - l).toNatClampNeg))) * (16 : Int64)) + l.toInt64).toInt = (own_key x.toInt.toNat : Nat) := by
  have e1 := own_lenI_eq h
  rw [← hl] at e1
  have r := rng32 x
  obtain ⟨p1, p2, p3, p4⟩ := own_len_spec (x := x.toInt.toNat) (by omega) (by omega)
  have e2 : ((10 : Int32) - l).toInt = 10 - l.toInt := by
    have q := c_isub 10 l; have r2 := rng32 ((10 : Int32) - l); rw [own_i10] at q; omega
  have e3 : ((10 : Int32) - l).toNatClampNeg = 10 - own_len x.toInt.toNat := by
    show ((10 : Int32) - l).toInt.toNat = _
    omega
  refine ⟨by rw [Int32.lt_iff_toInt_lt, show (0 : Int32).toInt = 0 by decide]; omega, by rw [Int32.lt_iff_toInt_lt, own_i10]; omega, ?_⟩
  rw [e3]
  have hP := own_P_lt (x := x.toInt.toNat) (by omega) (by omega)
  have hp10 : 10 ^ (10 - own_len x.toInt.toNat) ≤ 1000000000 := by
    have := Nat.pow_le_pow_right (n := 10) (by decide) (show 10 - own_len x.toInt.toNat ≤ 9 by omega)
    simpa using this
  have e4 : (Int64.ofNat (10 ^ (10 - own_len x.toInt.toNat))).toInt = ((10 ^ (10 - own_len x.toInt.toNat) : Nat) : Int) := Int64.toInt_ofNat_of_lt (by omega)
  have e5 : x.toInt64.toInt * (Int64.ofNat (10 ^ (10 - own_len x.toInt.toNat))).toInt = (own_P x.toInt.toNat : Nat) := by
    rw [e4, c_i2l]
    unfold own_P
    rw [Int.natCast_mul, Int.toNat_of_nonneg (by omega)]
  have c1 := c_lmul x.toInt64 (Int64.ofNat (10 ^ (10 - own_len x.toInt.toNat)))
  rw [e5] at c1
  have r1 := rng64 (x.toInt64 * (Int64.ofNat (10 ^ (10 - own_len x.toInt.toNat))))
  generalize x.toInt64 * (Int64.ofNat (10 ^ (10 - own_len x.toInt.toNat))) = A at c1 r1 ⊢
  have c2 := c_lmul A 16
  rw [show (16 : Int64).toInt = 16 by decide] at c2
  have r2 := rng64 (A * (16 : Int64))
  have c3 := c_ladd (A * (16 : Int64)) l.toInt64
  rw [c_i2l] at c3
  have r3 := rng64 (A * (16 : Int64) + l.toInt64)
  unfold own_key
  omega
theorem ef_rm_max (m : MethodId) (x0 : Int32) (x1 : Int32) : entryFrame m #[(.int x0), (.int x1)] 2 = mkF m 0 #[.val (.int x0), .val (.int x1)] [] := by first | (simp [entryFrame, mkF, argsToLocals, Value.category]; done) | rfl
def Q_rm_max (Z : State) (i : Int32) (j : Int32) (h0 : Heap) (n0 : Nat) (v : Option Value) (h : Heap) (L : List Loc) : Prop := (v = some (.int (if i < j then j else i))) ∧ (Fr n0 L) ∧ (h = h0)
theorem d1_0 : decode jdk_29_method_65_code 0 = .ok (.iload_n 0, 1) := by decide +kernel
theorem d1_1 : decode jdk_29_method_65_code 1 = .ok (.iload_n 1, 1) := by decide +kernel
theorem d1_2 : decode jdk_29_method_65_code 2 = .ok (.if_icmp .lt 7, 3) := by decide +kernel
theorem d1_9 : decode jdk_29_method_65_code 9 = .ok (.iload_n 1, 1) := by decide +kernel
theorem d1_10 : decode jdk_29_method_65_code 10 = .ok (.ireturn, 1) := by decide +kernel
theorem d1_5 : decode jdk_29_method_65_code 5 = .ok (.iload_n 0, 1) := by decide +kernel
theorem d1_6 : decode jdk_29_method_65_code 6 = .ok (.goto 4, 3) := by decide +kernel
set_option maxRecDepth 65536 in
set_option maxHeartbeats 40000000 in
theorem rm_max (l : Launch) (Z : State) (a0 : Array Value) (hw : ∀ d ∈ tables_1, d.before a0 Z = true) (ws : List Jvm.Cond) (i : Int32) (j : Int32) (h0 : Heap) (n0 : Nat) (Z0 : n0 ≤ h0.size)  :
    Con l Z (⟨"java/lang/Math", "max", "(II)I"⟩ : MethodName) jdk_29_method_65_code 2 (some .int) ws ({ frames := 0, cells := 0, slots := 0, locals := 0 } : Room) #[(.int i), (.int j)] h0 (Q_rm_max Z i j h0 n0) := by
  refine MetFree.of_bodySF (Jvm.Free.JP.mathPlain rfl (by decide +kernel)) hisR ?_
  intro p e s m args below meth c s₁ Bd hml0 hP hK
  obtain ⟨rfl, hZ, hh⟩ := hP
  have hx := Bd.exec
  have hby := Bd.bytes
  have hml : c.maxLocals = 2 := hml0
  have hown : s.vm.findClass "java/lang/Math" = some m.cls := findClass_of_methodNamed Bd.named
  have hnm := (name_of_methodNamed Bd.named Bd.method).1
  have X0 : Stand p l e ({ frames := 0, cells := 0, slots := 0, locals := 0 } : Room) s m #[(.int i), (.int j)] below meth c s₁ [] 0 0 := Stand.of_body Bd
  have e0 : s₁.heap = h0 := by rw [← hh, Bd.state]; rfl
  have N0 := Fr.nil n0
  have k0 : Rch p e below (s₁.setTop (entryFrame m #[(.int i), (.int j)] 2)) s₁ (mkF m 0 #[.val (.int i), .val (.int j)] []) := fun tg kg => castTop (ef_rm_max m i j) kg
  have k1 : Rch p e below (s₁.setTop (entryFrame m #[(.int i), (.int j)] 2)) s₁ (mkF m 2 #[.val (.int i), .val (.int j)] [(.int j), (.int i)]) := fun tg kg => by
    refine k0 tg ?_
    show Steps p.tables e below (s₁.setTop (mkF m 0 #[.val (.int i), .val (.int j)] [])) tg
    refine XS.iloadN X0.here hx rfl (hb hby d1_0) rfl ?_
    show Steps p.tables e below (s₁.setTop (mkF m 1 #[.val (.int i), .val (.int j)] [(.int i)])) tg
    refine XS.iloadN X0.here hx rfl (hb hby d1_1) rfl ?_
    exact kg
  by_cases hc2_2 : i < j
  · have k3 : Rch p e below (s₁.setTop (entryFrame m #[(.int i), (.int j)] 2)) s₁ (mkF m 10 #[.val (.int i), .val (.int j)] [(.int j)]) := fun tg kg => by
      refine k1 tg ?_
      show Steps p.tables e below (s₁.setTop (mkF m 2 #[.val (.int i), .val (.int j)] [(.int j), (.int i)])) tg
      refine XS.icmpYes X0.here hx rfl (pc0 := 2) (pc' := 9) rfl (hb hby d1_2) rfl (tlt hc2_2).1 (by decide) (by decide) ?_
      show Steps p.tables e below (s₁.setTop (mkF m 9 #[.val (.int i), .val (.int j)] [])) tg
      refine XS.iloadN X0.here hx rfl (hb hby d1_9) rfl ?_
      exact kg
    obtain ⟨fs4, hr4, hrun4, hended4, hW4, hsame4⟩ := X0.leave (v := some (.int j)) (fun h => by rw [Bd.returns] at h; cases h)
    refine ⟨_, _, k3 _ ?_, hrun4, hended4, _, _, rfl, ?_, ⟨_, rfl⟩, hW4, hsame4.mono (by decide) (by decide)⟩
    · exact retOut X0 hx Bd.returns rfl (Or.inl ⟨rfl, Or.inl rfl, _, rfl⟩) (hb hby d1_10) hr4
    · show Q_rm_max Z i j h0 n0 _ s₁.heap _
      rw [e0]
      exact ⟨(by rw [if_pos hc2_2]), N0, rfl⟩
  · have k5 : Rch p e below (s₁.setTop (entryFrame m #[(.int i), (.int j)] 2)) s₁ (mkF m 10 #[.val (.int i), .val (.int j)] [(.int i)]) := fun tg kg => by
      refine k1 tg ?_
      show Steps p.tables e below (s₁.setTop (mkF m 2 #[.val (.int i), .val (.int j)] [(.int j), (.int i)])) tg
      refine XS.icmpNo X0.here hx rfl (hb hby d1_2) rfl (flt hc2_2).1 ?_
      show Steps p.tables e below (s₁.setTop (mkF m 5 #[.val (.int i), .val (.int j)] [])) tg
      refine XS.iloadN X0.here hx rfl (hb hby d1_5) rfl ?_
      show Steps p.tables e below (s₁.setTop (mkF m 6 #[.val (.int i), .val (.int j)] [(.int i)])) tg
      refine XS.goto X0.here hx rfl (pc0 := 6) (pc' := 10) rfl (hb hby d1_6) (by decide) (by decide) ?_
      exact kg
    obtain ⟨fs6, hr6, hrun6, hended6, hW6, hsame6⟩ := X0.leave (v := some (.int i)) (fun h => by rw [Bd.returns] at h; cases h)
    refine ⟨_, _, k5 _ ?_, hrun6, hended6, _, _, rfl, ?_, ⟨_, rfl⟩, hW6, hsame6.mono (by decide) (by decide)⟩
    · exact retOut X0 hx Bd.returns rfl (Or.inl ⟨rfl, Or.inl rfl, _, rfl⟩) (hb hby d1_10) hr6
    · show Q_rm_max Z i j h0 n0 _ s₁.heap _
      rw [e0]
      exact ⟨(by rw [if_neg hc2_2]), N0, rfl⟩
theorem pn_EntriesNextByDigitsPinLaw : plainName "com/example/clerestory/clerestory/builders/EntriesNextByDigitsPinLaw" = true := by first | (simp [plainName, overriddenIn]; done) | decide +kernel
theorem ef_rm_len (m : MethodId) (x0 : Int32) : entryFrame m #[(.int x0)] 1 = mkF m 0 #[.val (.int x0)] [] := by first | (simp [entryFrame, mkF, argsToLocals, Value.category]; done) | rfl
def Q_rm_len (Z : State) (i : Int32) (h0 : Heap) (n0 : Nat) (v : Option Value) (h : Heap) (L : List Loc) : Prop := (v = some (.int (own_lenI i))) ∧ (Fr n0 L) ∧ (h = h0)
theorem d4_0 : decode method_3_code 0 = .ok (.iload_n 0, 1) := by decide +kernel
theorem d4_1 : decode method_3_code 1 = .ok (.bipush 10, 2) := by decide +kernel
theorem d4_3 : decode method_3_code 3 = .ok (.if_icmp .ge 5, 3) := by decide +kernel
theorem d4_6 : decode method_3_code 6 = .ok (.iconst 1, 1) := by decide +kernel
theorem d4_7 : decode method_3_code 7 = .ok (.ireturn, 1) := by decide +kernel
theorem d4_8 : decode method_3_code 8 = .ok (.iload_n 0, 1) := by decide +kernel
theorem d4_9 : decode method_3_code 9 = .ok (.bipush 100, 2) := by decide +kernel
theorem d4_11 : decode method_3_code 11 = .ok (.if_icmp .ge 5, 3) := by decide +kernel
theorem d4_14 : decode method_3_code 14 = .ok (.iconst 2, 1) := by decide +kernel
theorem d4_15 : decode method_3_code 15 = .ok (.ireturn, 1) := by decide +kernel
theorem d4_16 : decode method_3_code 16 = .ok (.iload_n 0, 1) := by decide +kernel
theorem d4_17 : decode method_3_code 17 = .ok (.sipush 1000, 3) := by decide +kernel
theorem d4_20 : decode method_3_code 20 = .ok (.if_icmp .ge 5, 3) := by decide +kernel
theorem d4_23 : decode method_3_code 23 = .ok (.iconst 3, 1) := by decide +kernel
theorem d4_24 : decode method_3_code 24 = .ok (.ireturn, 1) := by decide +kernel
theorem d4_25 : decode method_3_code 25 = .ok (.iload_n 0, 1) := by decide +kernel
theorem d4_26 : decode method_3_code 26 = .ok (.sipush 10000, 3) := by decide +kernel
theorem d4_29 : decode method_3_code 29 = .ok (.if_icmp .ge 5, 3) := by decide +kernel
theorem d4_32 : decode method_3_code 32 = .ok (.iconst 4, 1) := by decide +kernel
theorem d4_33 : decode method_3_code 33 = .ok (.ireturn, 1) := by decide +kernel
theorem d4_34 : decode method_3_code 34 = .ok (.iload_n 0, 1) := by decide +kernel
theorem d4_35 : decode method_3_code 35 = .ok (.ldc 25, 2) := by decide +kernel
theorem d4_37 : decode method_3_code 37 = .ok (.if_icmp .ge 5, 3) := by decide +kernel
theorem d4_40 : decode method_3_code 40 = .ok (.iconst 5, 1) := by decide +kernel
theorem d4_41 : decode method_3_code 41 = .ok (.ireturn, 1) := by decide +kernel
theorem d4_42 : decode method_3_code 42 = .ok (.iload_n 0, 1) := by decide +kernel
theorem d4_43 : decode method_3_code 43 = .ok (.ldc 26, 2) := by decide +kernel
theorem d4_45 : decode method_3_code 45 = .ok (.if_icmp .ge 6, 3) := by decide +kernel
theorem d4_48 : decode method_3_code 48 = .ok (.bipush 6, 2) := by decide +kernel
theorem d4_50 : decode method_3_code 50 = .ok (.ireturn, 1) := by decide +kernel
theorem d4_51 : decode method_3_code 51 = .ok (.iload_n 0, 1) := by decide +kernel
theorem d4_52 : decode method_3_code 52 = .ok (.ldc 27, 2) := by decide +kernel
theorem d4_54 : decode method_3_code 54 = .ok (.if_icmp .ge 6, 3) := by decide +kernel
theorem d4_57 : decode method_3_code 57 = .ok (.bipush 7, 2) := by decide +kernel
theorem d4_59 : decode method_3_code 59 = .ok (.ireturn, 1) := by decide +kernel
theorem d4_60 : decode method_3_code 60 = .ok (.iload_n 0, 1) := by decide +kernel
theorem d4_61 : decode method_3_code 61 = .ok (.ldc 28, 2) := by decide +kernel
theorem d4_63 : decode method_3_code 63 = .ok (.if_icmp .ge 6, 3) := by decide +kernel
theorem d4_66 : decode method_3_code 66 = .ok (.bipush 8, 2) := by decide +kernel
theorem d4_68 : decode method_3_code 68 = .ok (.ireturn, 1) := by decide +kernel
theorem d4_69 : decode method_3_code 69 = .ok (.iload_n 0, 1) := by decide +kernel
theorem d4_70 : decode method_3_code 70 = .ok (.ldc 29, 2) := by decide +kernel
theorem d4_72 : decode method_3_code 72 = .ok (.if_icmp .ge 6, 3) := by decide +kernel
theorem d4_75 : decode method_3_code 75 = .ok (.bipush 9, 2) := by decide +kernel
theorem d4_77 : decode method_3_code 77 = .ok (.ireturn, 1) := by decide +kernel
theorem d4_78 : decode method_3_code 78 = .ok (.bipush 10, 2) := by decide +kernel
theorem d4_80 : decode method_3_code 80 = .ok (.ireturn, 1) := by decide +kernel
set_option maxRecDepth 65536 in
set_option maxHeartbeats 40000000 in
theorem rm_len (l : Launch) (Z : State) (a0 : Array Value) (hw : ∀ d ∈ tables_1, d.before a0 Z = true) (ws : List Jvm.Cond) (i : Int32) (h0 : Heap) (n0 : Nat) (Z0 : n0 ≤ h0.size)  :
    Con l Z (⟨"com/example/clerestory/clerestory/builders/EntriesNextByDigitsPinLaw", "len", "(I)I"⟩ : MethodName) method_3_code 1 (some .int) ws ({ frames := 0, cells := 0, slots := 0, locals := 0 } : Room) #[(.int i)] h0 (Q_rm_len Z i h0 n0) := by
  refine MetFree.of_bodySF (plainFor_of_name pn_EntriesNextByDigitsPinLaw) hisR ?_
  intro p e s m args below meth c s₁ Bd hml0 hP hK
  obtain ⟨rfl, hZ, hh⟩ := hP
  have hx := Bd.exec
  have hby := Bd.bytes
  have hml : c.maxLocals = 1 := hml0
  have hown : s.vm.findClass "com/example/clerestory/clerestory/builders/EntriesNextByDigitsPinLaw" = some m.cls := findClass_of_methodNamed Bd.named
  have hnm := (name_of_methodNamed Bd.named Bd.method).1
  have X0 : Stand p l e ({ frames := 0, cells := 0, slots := 0, locals := 0 } : Room) s m #[(.int i)] below meth c s₁ [] 0 0 := Stand.of_body Bd
  have e0 : s₁.heap = h0 := by rw [← hh, Bd.state]; rfl
  have N0 := Fr.nil n0
  have k0 : Rch p e below (s₁.setTop (entryFrame m #[(.int i)] 1)) s₁ (mkF m 0 #[.val (.int i)] []) := fun tg kg => castTop (ef_rm_len m i) kg
  have k1 : Rch p e below (s₁.setTop (entryFrame m #[(.int i)] 1)) s₁ (mkF m 3 #[.val (.int i)] [(.int (10 : Int32)), (.int i)]) := fun tg kg => by
    refine k0 tg ?_
    show Steps p.tables e below (s₁.setTop (mkF m 0 #[.val (.int i)] [])) tg
    refine XS.iloadN X0.here hx rfl (hb hby d4_0) rfl ?_
    show Steps p.tables e below (s₁.setTop (mkF m 1 #[.val (.int i)] [(.int i)])) tg
    refine XS.bipush X0.here hx rfl (hb hby d4_1) ?_
    exact kg
  by_cases hc3_2 : i < (10 : Int32)
  · have k3 : Rch p e below (s₁.setTop (entryFrame m #[(.int i)] 1)) s₁ (mkF m 7 #[.val (.int i)] [(.int (1 : Int32))]) := fun tg kg => by
      refine k1 tg ?_
      show Steps p.tables e below (s₁.setTop (mkF m 3 #[.val (.int i)] [(.int (10 : Int32)), (.int i)])) tg
      refine XS.icmpNo X0.here hx rfl (hb hby d4_3) rfl (tlt hc3_2).2.1 ?_
      show Steps p.tables e below (s₁.setTop (mkF m 6 #[.val (.int i)] [])) tg
      refine XS.iconst X0.here hx rfl (hb hby d4_6) ?_
      exact kg
    obtain ⟨fs4, hr4, hrun4, hended4, hW4, hsame4⟩ := X0.leave (v := some (.int (1 : Int32))) (fun h => by rw [Bd.returns] at h; cases h)
    refine ⟨_, _, k3 _ ?_, hrun4, hended4, _, _, rfl, ?_, ⟨_, rfl⟩, hW4, hsame4.mono (by decide) (by decide)⟩
    · exact retOut X0 hx Bd.returns rfl (Or.inl ⟨rfl, Or.inl rfl, _, rfl⟩) (hb hby d4_7) hr4
    · show Q_rm_len Z i h0 n0 _ s₁.heap _
      rw [e0]
      exact ⟨(by rw [show own_lenI i = (1 : Int32) from by simp only [own_lenI, if_pos hc3_2]]), N0, rfl⟩
  · have k5 : Rch p e below (s₁.setTop (entryFrame m #[(.int i)] 1)) s₁ (mkF m 11 #[.val (.int i)] [(.int (100 : Int32)), (.int i)]) := fun tg kg => by
      refine k1 tg ?_
      show Steps p.tables e below (s₁.setTop (mkF m 3 #[.val (.int i)] [(.int (10 : Int32)), (.int i)])) tg
      refine XS.icmpYes X0.here hx rfl (pc0 := 3) (pc' := 8) rfl (hb hby d4_3) rfl (flt hc3_2).2.1 (by decide) (by decide) ?_
      show Steps p.tables e below (s₁.setTop (mkF m 8 #[.val (.int i)] [])) tg
      refine XS.iloadN X0.here hx rfl (hb hby d4_8) rfl ?_
      show Steps p.tables e below (s₁.setTop (mkF m 9 #[.val (.int i)] [(.int i)])) tg
      refine XS.bipush X0.here hx rfl (hb hby d4_9) ?_
      exact kg
    by_cases hc11_6 : i < (100 : Int32)
    · have k7 : Rch p e below (s₁.setTop (entryFrame m #[(.int i)] 1)) s₁ (mkF m 15 #[.val (.int i)] [(.int (2 : Int32))]) := fun tg kg => by
        refine k5 tg ?_
        show Steps p.tables e below (s₁.setTop (mkF m 11 #[.val (.int i)] [(.int (100 : Int32)), (.int i)])) tg
        refine XS.icmpNo X0.here hx rfl (hb hby d4_11) rfl (tlt hc11_6).2.1 ?_
        show Steps p.tables e below (s₁.setTop (mkF m 14 #[.val (.int i)] [])) tg
        refine XS.iconst X0.here hx rfl (hb hby d4_14) ?_
        exact kg
      obtain ⟨fs8, hr8, hrun8, hended8, hW8, hsame8⟩ := X0.leave (v := some (.int (2 : Int32))) (fun h => by rw [Bd.returns] at h; cases h)
      refine ⟨_, _, k7 _ ?_, hrun8, hended8, _, _, rfl, ?_, ⟨_, rfl⟩, hW8, hsame8.mono (by decide) (by decide)⟩
      · exact retOut X0 hx Bd.returns rfl (Or.inl ⟨rfl, Or.inl rfl, _, rfl⟩) (hb hby d4_15) hr8
      · show Q_rm_len Z i h0 n0 _ s₁.heap _
        rw [e0]
        exact ⟨(by rw [show own_lenI i = (2 : Int32) from by simp only [own_lenI, if_neg hc3_2, if_pos hc11_6]]), N0, rfl⟩
    · have k9 : Rch p e below (s₁.setTop (entryFrame m #[(.int i)] 1)) s₁ (mkF m 20 #[.val (.int i)] [(.int (1000 : Int32)), (.int i)]) := fun tg kg => by
        refine k5 tg ?_
        show Steps p.tables e below (s₁.setTop (mkF m 11 #[.val (.int i)] [(.int (100 : Int32)), (.int i)])) tg
        refine XS.icmpYes X0.here hx rfl (pc0 := 11) (pc' := 16) rfl (hb hby d4_11) rfl (flt hc11_6).2.1 (by decide) (by decide) ?_
        show Steps p.tables e below (s₁.setTop (mkF m 16 #[.val (.int i)] [])) tg
        refine XS.iloadN X0.here hx rfl (hb hby d4_16) rfl ?_
        show Steps p.tables e below (s₁.setTop (mkF m 17 #[.val (.int i)] [(.int i)])) tg
        refine XS.sipush X0.here hx rfl (hb hby d4_17) ?_
        exact kg
      by_cases hc20_10 : i < (1000 : Int32)
      · have k11 : Rch p e below (s₁.setTop (entryFrame m #[(.int i)] 1)) s₁ (mkF m 24 #[.val (.int i)] [(.int (3 : Int32))]) := fun tg kg => by
          refine k9 tg ?_
          show Steps p.tables e below (s₁.setTop (mkF m 20 #[.val (.int i)] [(.int (1000 : Int32)), (.int i)])) tg
          refine XS.icmpNo X0.here hx rfl (hb hby d4_20) rfl (tlt hc20_10).2.1 ?_
          show Steps p.tables e below (s₁.setTop (mkF m 23 #[.val (.int i)] [])) tg
          refine XS.iconst X0.here hx rfl (hb hby d4_23) ?_
          exact kg
        obtain ⟨fs12, hr12, hrun12, hended12, hW12, hsame12⟩ := X0.leave (v := some (.int (3 : Int32))) (fun h => by rw [Bd.returns] at h; cases h)
        refine ⟨_, _, k11 _ ?_, hrun12, hended12, _, _, rfl, ?_, ⟨_, rfl⟩, hW12, hsame12.mono (by decide) (by decide)⟩
        · exact retOut X0 hx Bd.returns rfl (Or.inl ⟨rfl, Or.inl rfl, _, rfl⟩) (hb hby d4_24) hr12
        · show Q_rm_len Z i h0 n0 _ s₁.heap _
          rw [e0]
          exact ⟨(by rw [show own_lenI i = (3 : Int32) from by simp only [own_lenI, if_neg hc3_2, if_neg hc11_6, if_pos hc20_10]]), N0, rfl⟩
      · have k13 : Rch p e below (s₁.setTop (entryFrame m #[(.int i)] 1)) s₁ (mkF m 29 #[.val (.int i)] [(.int (10000 : Int32)), (.int i)]) := fun tg kg => by
          refine k9 tg ?_
          show Steps p.tables e below (s₁.setTop (mkF m 20 #[.val (.int i)] [(.int (1000 : Int32)), (.int i)])) tg
          refine XS.icmpYes X0.here hx rfl (pc0 := 20) (pc' := 25) rfl (hb hby d4_20) rfl (flt hc20_10).2.1 (by decide) (by decide) ?_
          show Steps p.tables e below (s₁.setTop (mkF m 25 #[.val (.int i)] [])) tg
          refine XS.iloadN X0.here hx rfl (hb hby d4_25) rfl ?_
          show Steps p.tables e below (s₁.setTop (mkF m 26 #[.val (.int i)] [(.int i)])) tg
          refine XS.sipush X0.here hx rfl (hb hby d4_26) ?_
          exact kg
        by_cases hc29_14 : i < (10000 : Int32)
        · have k15 : Rch p e below (s₁.setTop (entryFrame m #[(.int i)] 1)) s₁ (mkF m 33 #[.val (.int i)] [(.int (4 : Int32))]) := fun tg kg => by
            refine k13 tg ?_
            show Steps p.tables e below (s₁.setTop (mkF m 29 #[.val (.int i)] [(.int (10000 : Int32)), (.int i)])) tg
            refine XS.icmpNo X0.here hx rfl (hb hby d4_29) rfl (tlt hc29_14).2.1 ?_
            show Steps p.tables e below (s₁.setTop (mkF m 32 #[.val (.int i)] [])) tg
            refine XS.iconst X0.here hx rfl (hb hby d4_32) ?_
            exact kg
          obtain ⟨fs16, hr16, hrun16, hended16, hW16, hsame16⟩ := X0.leave (v := some (.int (4 : Int32))) (fun h => by rw [Bd.returns] at h; cases h)
          refine ⟨_, _, k15 _ ?_, hrun16, hended16, _, _, rfl, ?_, ⟨_, rfl⟩, hW16, hsame16.mono (by decide) (by decide)⟩
          · exact retOut X0 hx Bd.returns rfl (Or.inl ⟨rfl, Or.inl rfl, _, rfl⟩) (hb hby d4_33) hr16
          · show Q_rm_len Z i h0 n0 _ s₁.heap _
            rw [e0]
            exact ⟨(by rw [show own_lenI i = (4 : Int32) from by simp only [own_lenI, if_neg hc3_2, if_neg hc11_6, if_neg hc20_10, if_pos hc29_14]]), N0, rfl⟩
        · have k17 : Rch p e below (s₁.setTop (entryFrame m #[(.int i)] 1)) s₁ (mkF m 37 #[.val (.int i)] [(.int (100000 : Int32)), (.int i)]) := fun tg kg => by
            refine k13 tg ?_
            show Steps p.tables e below (s₁.setTop (mkF m 29 #[.val (.int i)] [(.int (10000 : Int32)), (.int i)])) tg
            refine XS.icmpYes X0.here hx rfl (pc0 := 29) (pc' := 34) rfl (hb hby d4_29) rfl (flt hc29_14).2.1 (by decide) (by decide) ?_
            show Steps p.tables e below (s₁.setTop (mkF m 34 #[.val (.int i)] [])) tg
            refine XS.iloadN X0.here hx rfl (hb hby d4_34) rfl ?_
            show Steps p.tables e below (s₁.setTop (mkF m 35 #[.val (.int i)] [(.int i)])) tg
            refine X0.ldcInt hx hown (mvT hZ (hw _ (List.mem_of_getElem? (i := 27) rfl))) (g := (mkF m 35 #[.val (.int i)] [(.int i)])) rfl (hb hby d4_35) _ ?_
            exact kg
          by_cases hc37_18 : i < (100000 : Int32)
          · have k19 : Rch p e below (s₁.setTop (entryFrame m #[(.int i)] 1)) s₁ (mkF m 41 #[.val (.int i)] [(.int (5 : Int32))]) := fun tg kg => by
              refine k17 tg ?_
              show Steps p.tables e below (s₁.setTop (mkF m 37 #[.val (.int i)] [(.int (100000 : Int32)), (.int i)])) tg
              refine XS.icmpNo X0.here hx rfl (hb hby d4_37) rfl (tlt hc37_18).2.1 ?_
              show Steps p.tables e below (s₁.setTop (mkF m 40 #[.val (.int i)] [])) tg
              refine XS.iconst X0.here hx rfl (hb hby d4_40) ?_
              exact kg
            obtain ⟨fs20, hr20, hrun20, hended20, hW20, hsame20⟩ := X0.leave (v := some (.int (5 : Int32))) (fun h => by rw [Bd.returns] at h; cases h)
            refine ⟨_, _, k19 _ ?_, hrun20, hended20, _, _, rfl, ?_, ⟨_, rfl⟩, hW20, hsame20.mono (by decide) (by decide)⟩
            · exact retOut X0 hx Bd.returns rfl (Or.inl ⟨rfl, Or.inl rfl, _, rfl⟩) (hb hby d4_41) hr20
            · show Q_rm_len Z i h0 n0 _ s₁.heap _
              rw [e0]
              exact ⟨(by rw [show own_lenI i = (5 : Int32) from by simp only [own_lenI, if_neg hc3_2, if_neg hc11_6, if_neg hc20_10, if_neg hc29_14, if_pos hc37_18]]), N0, rfl⟩
          · have k21 : Rch p e below (s₁.setTop (entryFrame m #[(.int i)] 1)) s₁ (mkF m 45 #[.val (.int i)] [(.int (1000000 : Int32)), (.int i)]) := fun tg kg => by
              refine k17 tg ?_
              show Steps p.tables e below (s₁.setTop (mkF m 37 #[.val (.int i)] [(.int (100000 : Int32)), (.int i)])) tg
              refine XS.icmpYes X0.here hx rfl (pc0 := 37) (pc' := 42) rfl (hb hby d4_37) rfl (flt hc37_18).2.1 (by decide) (by decide) ?_
              show Steps p.tables e below (s₁.setTop (mkF m 42 #[.val (.int i)] [])) tg
              refine XS.iloadN X0.here hx rfl (hb hby d4_42) rfl ?_
              show Steps p.tables e below (s₁.setTop (mkF m 43 #[.val (.int i)] [(.int i)])) tg
              refine X0.ldcInt hx hown (mvT hZ (hw _ (List.mem_of_getElem? (i := 28) rfl))) (g := (mkF m 43 #[.val (.int i)] [(.int i)])) rfl (hb hby d4_43) _ ?_
              exact kg
            by_cases hc45_22 : i < (1000000 : Int32)
            · have k23 : Rch p e below (s₁.setTop (entryFrame m #[(.int i)] 1)) s₁ (mkF m 50 #[.val (.int i)] [(.int (6 : Int32))]) := fun tg kg => by
                refine k21 tg ?_
                show Steps p.tables e below (s₁.setTop (mkF m 45 #[.val (.int i)] [(.int (1000000 : Int32)), (.int i)])) tg
                refine XS.icmpNo X0.here hx rfl (hb hby d4_45) rfl (tlt hc45_22).2.1 ?_
                show Steps p.tables e below (s₁.setTop (mkF m 48 #[.val (.int i)] [])) tg
                refine XS.bipush X0.here hx rfl (hb hby d4_48) ?_
                exact kg
              obtain ⟨fs24, hr24, hrun24, hended24, hW24, hsame24⟩ := X0.leave (v := some (.int (6 : Int32))) (fun h => by rw [Bd.returns] at h; cases h)
              refine ⟨_, _, k23 _ ?_, hrun24, hended24, _, _, rfl, ?_, ⟨_, rfl⟩, hW24, hsame24.mono (by decide) (by decide)⟩
              · exact retOut X0 hx Bd.returns rfl (Or.inl ⟨rfl, Or.inl rfl, _, rfl⟩) (hb hby d4_50) hr24
              · show Q_rm_len Z i h0 n0 _ s₁.heap _
                rw [e0]
                exact ⟨(by rw [show own_lenI i = (6 : Int32) from by simp only [own_lenI, if_neg hc3_2, if_neg hc11_6, if_neg hc20_10, if_neg hc29_14, if_neg hc37_18, if_pos hc45_22]]), N0, rfl⟩
            · have k25 : Rch p e below (s₁.setTop (entryFrame m #[(.int i)] 1)) s₁ (mkF m 54 #[.val (.int i)] [(.int (10000000 : Int32)), (.int i)]) := fun tg kg => by
                refine k21 tg ?_
                show Steps p.tables e below (s₁.setTop (mkF m 45 #[.val (.int i)] [(.int (1000000 : Int32)), (.int i)])) tg
                refine XS.icmpYes X0.here hx rfl (pc0 := 45) (pc' := 51) rfl (hb hby d4_45) rfl (flt hc45_22).2.1 (by decide) (by decide) ?_
                show Steps p.tables e below (s₁.setTop (mkF m 51 #[.val (.int i)] [])) tg
                refine XS.iloadN X0.here hx rfl (hb hby d4_51) rfl ?_
                show Steps p.tables e below (s₁.setTop (mkF m 52 #[.val (.int i)] [(.int i)])) tg
                refine X0.ldcInt hx hown (mvT hZ (hw _ (List.mem_of_getElem? (i := 29) rfl))) (g := (mkF m 52 #[.val (.int i)] [(.int i)])) rfl (hb hby d4_52) _ ?_
                exact kg
              by_cases hc54_26 : i < (10000000 : Int32)
              · have k27 : Rch p e below (s₁.setTop (entryFrame m #[(.int i)] 1)) s₁ (mkF m 59 #[.val (.int i)] [(.int (7 : Int32))]) := fun tg kg => by
                  refine k25 tg ?_
                  show Steps p.tables e below (s₁.setTop (mkF m 54 #[.val (.int i)] [(.int (10000000 : Int32)), (.int i)])) tg
                  refine XS.icmpNo X0.here hx rfl (hb hby d4_54) rfl (tlt hc54_26).2.1 ?_
                  show Steps p.tables e below (s₁.setTop (mkF m 57 #[.val (.int i)] [])) tg
                  refine XS.bipush X0.here hx rfl (hb hby d4_57) ?_
                  exact kg
                obtain ⟨fs28, hr28, hrun28, hended28, hW28, hsame28⟩ := X0.leave (v := some (.int (7 : Int32))) (fun h => by rw [Bd.returns] at h; cases h)
                refine ⟨_, _, k27 _ ?_, hrun28, hended28, _, _, rfl, ?_, ⟨_, rfl⟩, hW28, hsame28.mono (by decide) (by decide)⟩
                · exact retOut X0 hx Bd.returns rfl (Or.inl ⟨rfl, Or.inl rfl, _, rfl⟩) (hb hby d4_59) hr28
                · show Q_rm_len Z i h0 n0 _ s₁.heap _
                  rw [e0]
                  exact ⟨(by rw [show own_lenI i = (7 : Int32) from by simp only [own_lenI, if_neg hc3_2, if_neg hc11_6, if_neg hc20_10, if_neg hc29_14, if_neg hc37_18, if_neg hc45_22, if_pos hc54_26]]), N0, rfl⟩
              · have k29 : Rch p e below (s₁.setTop (entryFrame m #[(.int i)] 1)) s₁ (mkF m 63 #[.val (.int i)] [(.int (100000000 : Int32)), (.int i)]) := fun tg kg => by
                  refine k25 tg ?_
                  show Steps p.tables e below (s₁.setTop (mkF m 54 #[.val (.int i)] [(.int (10000000 : Int32)), (.int i)])) tg
                  refine XS.icmpYes X0.here hx rfl (pc0 := 54) (pc' := 60) rfl (hb hby d4_54) rfl (flt hc54_26).2.1 (by decide) (by decide) ?_
                  show Steps p.tables e below (s₁.setTop (mkF m 60 #[.val (.int i)] [])) tg
                  refine XS.iloadN X0.here hx rfl (hb hby d4_60) rfl ?_
                  show Steps p.tables e below (s₁.setTop (mkF m 61 #[.val (.int i)] [(.int i)])) tg
                  refine X0.ldcInt hx hown (mvT hZ (hw _ (List.mem_of_getElem? (i := 30) rfl))) (g := (mkF m 61 #[.val (.int i)] [(.int i)])) rfl (hb hby d4_61) _ ?_
                  exact kg
                by_cases hc63_30 : i < (100000000 : Int32)
                · have k31 : Rch p e below (s₁.setTop (entryFrame m #[(.int i)] 1)) s₁ (mkF m 68 #[.val (.int i)] [(.int (8 : Int32))]) := fun tg kg => by
                    refine k29 tg ?_
                    show Steps p.tables e below (s₁.setTop (mkF m 63 #[.val (.int i)] [(.int (100000000 : Int32)), (.int i)])) tg
                    refine XS.icmpNo X0.here hx rfl (hb hby d4_63) rfl (tlt hc63_30).2.1 ?_
                    show Steps p.tables e below (s₁.setTop (mkF m 66 #[.val (.int i)] [])) tg
                    refine XS.bipush X0.here hx rfl (hb hby d4_66) ?_
                    exact kg
                  obtain ⟨fs32, hr32, hrun32, hended32, hW32, hsame32⟩ := X0.leave (v := some (.int (8 : Int32))) (fun h => by rw [Bd.returns] at h; cases h)
                  refine ⟨_, _, k31 _ ?_, hrun32, hended32, _, _, rfl, ?_, ⟨_, rfl⟩, hW32, hsame32.mono (by decide) (by decide)⟩
                  · exact retOut X0 hx Bd.returns rfl (Or.inl ⟨rfl, Or.inl rfl, _, rfl⟩) (hb hby d4_68) hr32
                  · show Q_rm_len Z i h0 n0 _ s₁.heap _
                    rw [e0]
                    exact ⟨(by rw [show own_lenI i = (8 : Int32) from by simp only [own_lenI, if_neg hc3_2, if_neg hc11_6, if_neg hc20_10, if_neg hc29_14, if_neg hc37_18, if_neg hc45_22, if_neg hc54_26, if_pos hc63_30]]), N0, rfl⟩
                · have k33 : Rch p e below (s₁.setTop (entryFrame m #[(.int i)] 1)) s₁ (mkF m 72 #[.val (.int i)] [(.int (1000000000 : Int32)), (.int i)]) := fun tg kg => by
                    refine k29 tg ?_
                    show Steps p.tables e below (s₁.setTop (mkF m 63 #[.val (.int i)] [(.int (100000000 : Int32)), (.int i)])) tg
                    refine XS.icmpYes X0.here hx rfl (pc0 := 63) (pc' := 69) rfl (hb hby d4_63) rfl (flt hc63_30).2.1 (by decide) (by decide) ?_
                    show Steps p.tables e below (s₁.setTop (mkF m 69 #[.val (.int i)] [])) tg
                    refine XS.iloadN X0.here hx rfl (hb hby d4_69) rfl ?_
                    show Steps p.tables e below (s₁.setTop (mkF m 70 #[.val (.int i)] [(.int i)])) tg
                    refine X0.ldcInt hx hown (mvT hZ (hw _ (List.mem_of_getElem? (i := 31) rfl))) (g := (mkF m 70 #[.val (.int i)] [(.int i)])) rfl (hb hby d4_70) _ ?_
                    exact kg
                  by_cases hc72_34 : i < (1000000000 : Int32)
                  · have k35 : Rch p e below (s₁.setTop (entryFrame m #[(.int i)] 1)) s₁ (mkF m 77 #[.val (.int i)] [(.int (9 : Int32))]) := fun tg kg => by
                      refine k33 tg ?_
                      show Steps p.tables e below (s₁.setTop (mkF m 72 #[.val (.int i)] [(.int (1000000000 : Int32)), (.int i)])) tg
                      refine XS.icmpNo X0.here hx rfl (hb hby d4_72) rfl (tlt hc72_34).2.1 ?_
                      show Steps p.tables e below (s₁.setTop (mkF m 75 #[.val (.int i)] [])) tg
                      refine XS.bipush X0.here hx rfl (hb hby d4_75) ?_
                      exact kg
                    obtain ⟨fs36, hr36, hrun36, hended36, hW36, hsame36⟩ := X0.leave (v := some (.int (9 : Int32))) (fun h => by rw [Bd.returns] at h; cases h)
                    refine ⟨_, _, k35 _ ?_, hrun36, hended36, _, _, rfl, ?_, ⟨_, rfl⟩, hW36, hsame36.mono (by decide) (by decide)⟩
                    · exact retOut X0 hx Bd.returns rfl (Or.inl ⟨rfl, Or.inl rfl, _, rfl⟩) (hb hby d4_77) hr36
                    · show Q_rm_len Z i h0 n0 _ s₁.heap _
                      rw [e0]
                      exact ⟨(by rw [show own_lenI i = (9 : Int32) from by simp only [own_lenI, if_neg hc3_2, if_neg hc11_6, if_neg hc20_10, if_neg hc29_14, if_neg hc37_18, if_neg hc45_22, if_neg hc54_26, if_neg hc63_30, if_pos hc72_34]]), N0, rfl⟩
                  · have k37 : Rch p e below (s₁.setTop (entryFrame m #[(.int i)] 1)) s₁ (mkF m 80 #[.val (.int i)] [(.int (10 : Int32))]) := fun tg kg => by
                      refine k33 tg ?_
                      show Steps p.tables e below (s₁.setTop (mkF m 72 #[.val (.int i)] [(.int (1000000000 : Int32)), (.int i)])) tg
                      refine XS.icmpYes X0.here hx rfl (pc0 := 72) (pc' := 78) rfl (hb hby d4_72) rfl (flt hc72_34).2.1 (by decide) (by decide) ?_
                      show Steps p.tables e below (s₁.setTop (mkF m 78 #[.val (.int i)] [])) tg
                      refine XS.bipush X0.here hx rfl (hb hby d4_78) ?_
                      exact kg
                    obtain ⟨fs38, hr38, hrun38, hended38, hW38, hsame38⟩ := X0.leave (v := some (.int (10 : Int32))) (fun h => by rw [Bd.returns] at h; cases h)
                    refine ⟨_, _, k37 _ ?_, hrun38, hended38, _, _, rfl, ?_, ⟨_, rfl⟩, hW38, hsame38.mono (by decide) (by decide)⟩
                    · exact retOut X0 hx Bd.returns rfl (Or.inl ⟨rfl, Or.inl rfl, _, rfl⟩) (hb hby d4_80) hr38
                    · show Q_rm_len Z i h0 n0 _ s₁.heap _
                      rw [e0]
                      exact ⟨(by rw [show own_lenI i = (10 : Int32) from by simp only [own_lenI, if_neg hc3_2, if_neg hc11_6, if_neg hc20_10, if_neg hc29_14, if_neg hc37_18, if_neg hc45_22, if_neg hc54_26, if_neg hc63_30, if_neg hc72_34]]), N0, rfl⟩
theorem ef_rm_key (m : MethodId) (x0 : Int32) : entryFrame m #[(.int x0)] 3 = mkF m 0 #[.val (.int x0), .unset, .unset] [] := by first | (simp [entryFrame, mkF, argsToLocals, Value.category]; done) | rfl
def Q_rm_key (Z : State) (i : Int32) (h0 : Heap) (n0 : Nat) (v : Option Value) (h : Heap) (L : List Loc) : Prop := ∃ (z : Int64), (v = some (.long z)) ∧ (Fr n0 L) ∧ (Keep h0 h []) ∧ (z.toInt = (own_key i.toInt.toNat : Nat))
theorem d3_0 : decode method_4_code 0 = .ok (.iload_n 0, 1) := by decide +kernel
theorem pd_0 : parseMethodDescriptor "(I)I" = some ⟨[.int], some .int⟩ := by decide +kernel
theorem d3_1 : decode method_4_code 1 = .ok (.invokestatic 30, 3) := by decide +kernel
theorem d3_4 : decode method_4_code 4 = .ok (.istore_n 1, 1) := by decide +kernel
theorem d3_5 : decode method_4_code 5 = .ok (.bipush 10, 2) := by decide +kernel
theorem d3_7 : decode method_4_code 7 = .ok (.newarray .long, 2) := by decide +kernel
theorem d3_9 : decode method_4_code 9 = .ok (.dup, 1) := by decide +kernel
theorem d3_10 : decode method_4_code 10 = .ok (.iconst 0, 1) := by decide +kernel
theorem d3_11 : decode method_4_code 11 = .ok (.lconst 1, 1) := by decide +kernel
theorem d3_12 : decode method_4_code 12 = .ok (.lastore, 1) := by decide +kernel
theorem d3_13 : decode method_4_code 13 = .ok (.dup, 1) := by decide +kernel
theorem d3_14 : decode method_4_code 14 = .ok (.iconst 1, 1) := by decide +kernel
theorem d3_15 : decode method_4_code 15 = .ok (.ldc2_w 34, 3) := by decide +kernel
theorem d3_18 : decode method_4_code 18 = .ok (.lastore, 1) := by decide +kernel
theorem d3_19 : decode method_4_code 19 = .ok (.dup, 1) := by decide +kernel
theorem d3_20 : decode method_4_code 20 = .ok (.iconst 2, 1) := by decide +kernel
theorem d3_21 : decode method_4_code 21 = .ok (.ldc2_w 36, 3) := by decide +kernel
theorem d3_24 : decode method_4_code 24 = .ok (.lastore, 1) := by decide +kernel
theorem d3_25 : decode method_4_code 25 = .ok (.dup, 1) := by decide +kernel
theorem d3_26 : decode method_4_code 26 = .ok (.iconst 3, 1) := by decide +kernel
theorem d3_27 : decode method_4_code 27 = .ok (.ldc2_w 38, 3) := by decide +kernel
theorem d3_30 : decode method_4_code 30 = .ok (.lastore, 1) := by decide +kernel
theorem d3_31 : decode method_4_code 31 = .ok (.dup, 1) := by decide +kernel
theorem d3_32 : decode method_4_code 32 = .ok (.iconst 4, 1) := by decide +kernel
theorem d3_33 : decode method_4_code 33 = .ok (.ldc2_w 40, 3) := by decide +kernel
theorem d3_36 : decode method_4_code 36 = .ok (.lastore, 1) := by decide +kernel
theorem d3_37 : decode method_4_code 37 = .ok (.dup, 1) := by decide +kernel
theorem d3_38 : decode method_4_code 38 = .ok (.iconst 5, 1) := by decide +kernel
theorem d3_39 : decode method_4_code 39 = .ok (.ldc2_w 42, 3) := by decide +kernel
theorem d3_42 : decode method_4_code 42 = .ok (.lastore, 1) := by decide +kernel
theorem d3_43 : decode method_4_code 43 = .ok (.dup, 1) := by decide +kernel
theorem d3_44 : decode method_4_code 44 = .ok (.bipush 6, 2) := by decide +kernel
theorem d3_46 : decode method_4_code 46 = .ok (.ldc2_w 44, 3) := by decide +kernel
theorem d3_49 : decode method_4_code 49 = .ok (.lastore, 1) := by decide +kernel
theorem d3_50 : decode method_4_code 50 = .ok (.dup, 1) := by decide +kernel
theorem d3_51 : decode method_4_code 51 = .ok (.bipush 7, 2) := by decide +kernel
theorem d3_53 : decode method_4_code 53 = .ok (.ldc2_w 46, 3) := by decide +kernel
theorem d3_56 : decode method_4_code 56 = .ok (.lastore, 1) := by decide +kernel
theorem d3_57 : decode method_4_code 57 = .ok (.dup, 1) := by decide +kernel
theorem d3_58 : decode method_4_code 58 = .ok (.bipush 8, 2) := by decide +kernel
theorem d3_60 : decode method_4_code 60 = .ok (.ldc2_w 48, 3) := by decide +kernel
theorem d3_63 : decode method_4_code 63 = .ok (.lastore, 1) := by decide +kernel
theorem d3_64 : decode method_4_code 64 = .ok (.dup, 1) := by decide +kernel
theorem d3_65 : decode method_4_code 65 = .ok (.bipush 9, 2) := by decide +kernel
theorem d3_67 : decode method_4_code 67 = .ok (.ldc2_w 50, 3) := by decide +kernel
theorem d3_70 : decode method_4_code 70 = .ok (.lastore, 1) := by decide +kernel
theorem d3_71 : decode method_4_code 71 = .ok (.astore_n 2, 1) := by decide +kernel
theorem d3_72 : decode method_4_code 72 = .ok (.iload_n 0, 1) := by decide +kernel
theorem d3_73 : decode method_4_code 73 = .ok (.i2l, 1) := by decide +kernel
theorem d3_74 : decode method_4_code 74 = .ok (.aload_n 2, 1) := by decide +kernel
theorem d3_75 : decode method_4_code 75 = .ok (.bipush 10, 2) := by decide +kernel
theorem d3_77 : decode method_4_code 77 = .ok (.iload_n 1, 1) := by decide +kernel
theorem d3_78 : decode method_4_code 78 = .ok (.isub, 1) := by decide +kernel
theorem d3_79 : decode method_4_code 79 = .ok (.laload, 1) := by decide +kernel
theorem d3_80 : decode method_4_code 80 = .ok (.lmul, 1) := by decide +kernel
theorem d3_81 : decode method_4_code 81 = .ok (.ldc2_w 52, 3) := by decide +kernel
theorem d3_84 : decode method_4_code 84 = .ok (.lmul, 1) := by decide +kernel
theorem d3_85 : decode method_4_code 85 = .ok (.iload_n 1, 1) := by decide +kernel
theorem d3_86 : decode method_4_code 86 = .ok (.i2l, 1) := by decide +kernel
theorem d3_87 : decode method_4_code 87 = .ok (.ladd, 1) := by decide +kernel
theorem d3_88 : decode method_4_code 88 = .ok (.lreturn, 1) := by decide +kernel
set_option maxRecDepth 65536 in
set_option maxHeartbeats 40000000 in
theorem rm_key (l : Launch) (Z : State) (a0 : Array Value) (hw : ∀ d ∈ tables_1, d.before a0 Z = true) (ws : List Jvm.Cond) (i : Int32) (h0 : Heap) (n0 : Nat) (Z0 : n0 ≤ h0.size) (hi : 1 ≤ i.toInt) :
    Con l Z (⟨"com/example/clerestory/clerestory/builders/EntriesNextByDigitsPinLaw", "key", "(I)J"⟩ : MethodName) method_4_code 3 (some .long) ws ({ frames := 1, cells := 1, slots := 10, locals := 12 } : Room) #[(.int i)] h0 (Q_rm_key Z i h0 n0) := by
  refine MetFree.of_bodySF (plainFor_of_name pn_EntriesNextByDigitsPinLaw) hisR ?_
  intro p e s m args below meth c s₁ Bd hml0 hP hK
  obtain ⟨rfl, hZ, hh⟩ := hP
  have hx := Bd.exec
  have hby := Bd.bytes
  have hml : c.maxLocals = 3 := hml0
  have hown : s.vm.findClass "com/example/clerestory/clerestory/builders/EntriesNextByDigitsPinLaw" = some m.cls := findClass_of_methodNamed Bd.named
  have hnm := (name_of_methodNamed Bd.named Bd.method).1
  have X0 : Stand p l e ({ frames := 1, cells := 1, slots := 10, locals := 12 } : Room) s m #[(.int i)] below meth c s₁ [] 0 0 := Stand.of_body Bd
  have e0 : s₁.heap = h0 := by rw [← hh, Bd.state]; rfl
  have N0 := Fr.nil n0
  have k0 : Rch p e below (s₁.setTop (entryFrame m #[(.int i)] 3)) s₁ (mkF m 0 #[.val (.int i), .unset, .unset] []) := fun tg kg => castTop (ef_rm_key m i) kg
  have k1 : Rch p e below (s₁.setTop (entryFrame m #[(.int i)] 3)) s₁ (mkF m 1 #[.val (.int i), .unset, .unset] [(.int i)]) := fun tg kg => by
    refine k0 tg ?_
    show Steps p.tables e below (s₁.setTop (mkF m 0 #[.val (.int i), .unset, .unset] [])) tg
    refine XS.iloadN X0.here hx rfl (hb hby d3_0) rfl ?_
    exact kg
  obtain ⟨v2, T2, h2, Lc2, X2, e2, hQ2, st2⟩ := own_callS X0 hx hZ hown (hw _ (List.mem_of_getElem? (i := 13) rfl)) (hw _ (List.mem_of_getElem? (i := 14) rfl)) (hw _ (List.mem_of_getElem? (i := 11) rfl)) (hw _ (List.mem_of_getElem? (i := 15) rfl)) (by decide) (rm_len l Z a0 hw [] i h0 n0 (by omega) ) e0 (g := (mkF m 1 #[.val (.int i), .unset, .unset] [(.int i)])) rfl (by rw [hml]; rfl) (argsL := [(.int i)]) (rest := []) rfl (lenOf pd_0 rfl) rfl (W := 0) (by show 2 * 0 + _ ≤ _; exact Nat.le_of_eq rfl) (hb hby d3_1) (by decide) (by decide) (by decide) (by decide)
  obtain ⟨rfl, Nq2, hs2⟩ := hQ2
  have N2 := Fr.app N0 Nq2
  have e2' : T2.heap = h0 := e2.trans hs2
  have k3 : Rch p e below (s₁.setTop (entryFrame m #[(.int i)] 3)) T2 (mkF m 4 #[.val (.int i), .unset, .unset] [(.int (own_lenI i))]) := fun tg kg => k1 tg (st2 tg kg)
  have k4 : Rch p e below (s₁.setTop (entryFrame m #[(.int i)] 3)) T2 (mkF m 5 #[.val (.int i), .val (.int (own_lenI i)), .unset] []) := fun tg kg => by
    refine k3 tg ?_
    show Steps p.tables e below (T2.setTop (mkF m 4 #[.val (.int i), .unset, .unset] [(.int (own_lenI i))])) tg
    refine XS.istoreN X2.here hx rfl (hb hby d3_4) rfl (l' := #[.val (.int i), .val (.int (own_lenI i)), .unset]) rfl ?_
    exact kg
  obtain ⟨n5, hn5, k6⟩ : ∃ n5 : Int32, n5 = (own_lenI i) ∧ Rch p e below (s₁.setTop (entryFrame m #[(.int i)] 3)) T2 (mkF m 5 #[.val (.int i), .val (.int n5), .unset] []) := ⟨_, rfl, k4⟩
  have k7 : Rch p e below (s₁.setTop (entryFrame m #[(.int i)] 3)) T2 (mkF m 7 #[.val (.int i), .val (.int n5), .unset] [(.int (10 : Int32))]) := fun tg kg => by
    refine k6 tg ?_
    show Steps p.tables e below (T2.setTop (mkF m 5 #[.val (.int i), .val (.int n5), .unset] [])) tg
    refine XS.bipush X2.here hx rfl (hb hby d3_5) ?_
    exact kg
  obtain ⟨T8, h8, c8, X8, e8, E8, A8, st8⟩ := newP X2 hx hZ (hw _ (List.mem_of_getElem? (i := 16) rfl)) e2' (g := (mkF m 7 #[.val (.int i), .val (.int n5), .unset] [(.int (10 : Int32))])) rfl (hb hby d3_7) rfl (by decide) (cap := 10) (by decide) (by decide) (by decide) (by decide)
  obtain ⟨b8, g8⟩ : ∃ z, z = h0.size := ⟨_, rfl⟩
  rw [← g8] at A8 st8
  have s8 : h0.size ≤ h8.size := E8.1
  have lt8 : b8 < h8.size := A8.lt
  have k9 : Rch p e below (s₁.setTop (entryFrame m #[(.int i)] 3)) T8 (mkF m 9 #[.val (.int i), .val (.int n5), .unset] [(.ref b8)]) := fun tg kg => k7 tg (st8 tg kg)
  have V8 : Arv Z h8 b8 c8 .long (10 : Int32) [(.long (0 : Int64)), (.long (0 : Int64)), (.long (0 : Int64)), (.long (0 : Int64)), (.long (0 : Int64)), (.long (0 : Int64)), (.long (0 : Int64)), (.long (0 : Int64)), (.long (0 : Int64)), (.long (0 : Int64))] (.long (0 : Int64)) := (Arv.new A8 (by decide)).pad (pad_rep [] (.long (0 : Int64)) 10)
  have k10 : Rch p e below (s₁.setTop (entryFrame m #[(.int i)] 3)) T8 (mkF m 12 #[.val (.int i), .val (.int n5), .unset] [(.long (1 : Int64)), (.int (0 : Int32)), (.ref b8), (.ref b8)]) := fun tg kg => by
    refine k9 tg ?_
    show Steps p.tables e below (T8.setTop (mkF m 9 #[.val (.int i), .val (.int n5), .unset] [(.ref b8)])) tg
    refine XS.dup X8.here hx rfl (hb hby d3_9) rfl rfl ?_
    show Steps p.tables e below (T8.setTop (mkF m 10 #[.val (.int i), .val (.int n5), .unset] [(.ref b8), (.ref b8)])) tg
    refine XS.iconst X8.here hx rfl (hb hby d3_10) ?_
    show Steps p.tables e below (T8.setTop (mkF m 11 #[.val (.int i), .val (.int n5), .unset] [(.int (0 : Int32)), (.ref b8), (.ref b8)])) tg
    refine XS.lconst X8.here hx rfl (hb hby d3_11) ?_
    exact kg
  obtain ⟨cl11, Ar11, q11, S11, N11', H11, G11⟩ := V8
  have hin11 : ¬ ((0 : Int32) < 0 ∨ cl11.slots.size ≤ ((0 : Int32)).toNatClampNeg) := inb_of S11 ⟨by decide, by decide⟩
  obtain ⟨T11, h11, X11, e11, W11, st11⟩ := stJ X8 hx hZ e8 Ar11 (j := (0 : Int32)) hin11 (g := (mkF m 12 #[.val (.int i), .val (.int n5), .unset] [(.long (1 : Int64)), (.int (0 : Int32)), (.ref b8), (.ref b8)])) rfl rfl (hb hby d3_12)
  have s11 : h11.size = h8.size := W11.size
  have N11 := Fr.snoc X11 N2 (by omega : n0 ≤ b8)
  have k12 : Rch p e below (s₁.setTop (entryFrame m #[(.int i)] 3)) T11 (mkF m 13 #[.val (.int i), .val (.int n5), .unset] [(.ref b8)]) := fun tg kg => k10 tg (st11 tg kg)
  have V11 : Arv Z h11 b8 c8 .long (10 : Int32) [(.long (1 : Int64)), (.long (0 : Int64)), (.long (0 : Int64)), (.long (0 : Int64)), (.long (0 : Int64)), (.long (0 : Int64)), (.long (0 : Int64)), (.long (0 : Int64)), (.long (0 : Int64)), (.long (0 : Int64))] (.long (0 : Int64)) := Arv.set Ar11 q11 S11 N11' H11 G11 rfl W11 0 rfl (Nat.le_of_ble_eq_true rfl)
  have k13 : Rch p e below (s₁.setTop (entryFrame m #[(.int i)] 3)) T11 (mkF m 18 #[.val (.int i), .val (.int n5), .unset] [(.long (10 : Int64)), (.int (1 : Int32)), (.ref b8), (.ref b8)]) := fun tg kg => by
    refine k12 tg ?_
    show Steps p.tables e below (T11.setTop (mkF m 13 #[.val (.int i), .val (.int n5), .unset] [(.ref b8)])) tg
    refine XS.dup X11.here hx rfl (hb hby d3_13) rfl rfl ?_
    show Steps p.tables e below (T11.setTop (mkF m 14 #[.val (.int i), .val (.int n5), .unset] [(.ref b8), (.ref b8)])) tg
    refine XS.iconst X11.here hx rfl (hb hby d3_14) ?_
    show Steps p.tables e below (T11.setTop (mkF m 15 #[.val (.int i), .val (.int n5), .unset] [(.int (1 : Int32)), (.ref b8), (.ref b8)])) tg
    refine X11.ldc2Long hx hown (mvT hZ (hw _ (List.mem_of_getElem? (i := 17) rfl))) (g := (mkF m 15 #[.val (.int i), .val (.int n5), .unset] [(.int (1 : Int32)), (.ref b8), (.ref b8)])) rfl (hb hby d3_15) _ ?_
    exact kg
  obtain ⟨cl14, Ar14, q14, S14, N14', H14, G14⟩ := V11
  have hin14 : ¬ ((1 : Int32) < 0 ∨ cl14.slots.size ≤ ((1 : Int32)).toNatClampNeg) := inb_of S14 ⟨by decide, by decide⟩
  obtain ⟨T14, h14, X14, e14, W14, st14⟩ := stJ X11 hx hZ e11 Ar14 (j := (1 : Int32)) hin14 (g := (mkF m 18 #[.val (.int i), .val (.int n5), .unset] [(.long (10 : Int64)), (.int (1 : Int32)), (.ref b8), (.ref b8)])) rfl rfl (hb hby d3_18)
  have s14 : h14.size = h11.size := W14.size
  have N14 := Fr.snoc X14 N11 (by omega : n0 ≤ b8)
  have k15 : Rch p e below (s₁.setTop (entryFrame m #[(.int i)] 3)) T14 (mkF m 19 #[.val (.int i), .val (.int n5), .unset] [(.ref b8)]) := fun tg kg => k13 tg (st14 tg kg)
  have V14 : Arv Z h14 b8 c8 .long (10 : Int32) [(.long (1 : Int64)), (.long (10 : Int64)), (.long (0 : Int64)), (.long (0 : Int64)), (.long (0 : Int64)), (.long (0 : Int64)), (.long (0 : Int64)), (.long (0 : Int64)), (.long (0 : Int64)), (.long (0 : Int64))] (.long (0 : Int64)) := Arv.set Ar14 q14 S14 N14' H14 G14 rfl W14 1 rfl (Nat.le_of_ble_eq_true rfl)
  have k16 : Rch p e below (s₁.setTop (entryFrame m #[(.int i)] 3)) T14 (mkF m 24 #[.val (.int i), .val (.int n5), .unset] [(.long (100 : Int64)), (.int (2 : Int32)), (.ref b8), (.ref b8)]) := fun tg kg => by
    refine k15 tg ?_
    show Steps p.tables e below (T14.setTop (mkF m 19 #[.val (.int i), .val (.int n5), .unset] [(.ref b8)])) tg
    refine XS.dup X14.here hx rfl (hb hby d3_19) rfl rfl ?_
    show Steps p.tables e below (T14.setTop (mkF m 20 #[.val (.int i), .val (.int n5), .unset] [(.ref b8), (.ref b8)])) tg
    refine XS.iconst X14.here hx rfl (hb hby d3_20) ?_
    show Steps p.tables e below (T14.setTop (mkF m 21 #[.val (.int i), .val (.int n5), .unset] [(.int (2 : Int32)), (.ref b8), (.ref b8)])) tg
    refine X14.ldc2Long hx hown (mvT hZ (hw _ (List.mem_of_getElem? (i := 18) rfl))) (g := (mkF m 21 #[.val (.int i), .val (.int n5), .unset] [(.int (2 : Int32)), (.ref b8), (.ref b8)])) rfl (hb hby d3_21) _ ?_
    exact kg
  obtain ⟨cl17, Ar17, q17, S17, N17', H17, G17⟩ := V14
  have hin17 : ¬ ((2 : Int32) < 0 ∨ cl17.slots.size ≤ ((2 : Int32)).toNatClampNeg) := inb_of S17 ⟨by decide, by decide⟩
  obtain ⟨T17, h17, X17, e17, W17, st17⟩ := stJ X14 hx hZ e14 Ar17 (j := (2 : Int32)) hin17 (g := (mkF m 24 #[.val (.int i), .val (.int n5), .unset] [(.long (100 : Int64)), (.int (2 : Int32)), (.ref b8), (.ref b8)])) rfl rfl (hb hby d3_24)
  have s17 : h17.size = h14.size := W17.size
  have N17 := Fr.snoc X17 N14 (by omega : n0 ≤ b8)
  have k18 : Rch p e below (s₁.setTop (entryFrame m #[(.int i)] 3)) T17 (mkF m 25 #[.val (.int i), .val (.int n5), .unset] [(.ref b8)]) := fun tg kg => k16 tg (st17 tg kg)
  have V17 : Arv Z h17 b8 c8 .long (10 : Int32) [(.long (1 : Int64)), (.long (10 : Int64)), (.long (100 : Int64)), (.long (0 : Int64)), (.long (0 : Int64)), (.long (0 : Int64)), (.long (0 : Int64)), (.long (0 : Int64)), (.long (0 : Int64)), (.long (0 : Int64))] (.long (0 : Int64)) := Arv.set Ar17 q17 S17 N17' H17 G17 rfl W17 2 rfl (Nat.le_of_ble_eq_true rfl)
  have k19 : Rch p e below (s₁.setTop (entryFrame m #[(.int i)] 3)) T17 (mkF m 30 #[.val (.int i), .val (.int n5), .unset] [(.long (1000 : Int64)), (.int (3 : Int32)), (.ref b8), (.ref b8)]) := fun tg kg => by
    refine k18 tg ?_
    show Steps p.tables e below (T17.setTop (mkF m 25 #[.val (.int i), .val (.int n5), .unset] [(.ref b8)])) tg
    refine XS.dup X17.here hx rfl (hb hby d3_25) rfl rfl ?_
    show Steps p.tables e below (T17.setTop (mkF m 26 #[.val (.int i), .val (.int n5), .unset] [(.ref b8), (.ref b8)])) tg
    refine XS.iconst X17.here hx rfl (hb hby d3_26) ?_
    show Steps p.tables e below (T17.setTop (mkF m 27 #[.val (.int i), .val (.int n5), .unset] [(.int (3 : Int32)), (.ref b8), (.ref b8)])) tg
    refine X17.ldc2Long hx hown (mvT hZ (hw _ (List.mem_of_getElem? (i := 19) rfl))) (g := (mkF m 27 #[.val (.int i), .val (.int n5), .unset] [(.int (3 : Int32)), (.ref b8), (.ref b8)])) rfl (hb hby d3_27) _ ?_
    exact kg
  obtain ⟨cl20, Ar20, q20, S20, N20', H20, G20⟩ := V17
  have hin20 : ¬ ((3 : Int32) < 0 ∨ cl20.slots.size ≤ ((3 : Int32)).toNatClampNeg) := inb_of S20 ⟨by decide, by decide⟩
  obtain ⟨T20, h20, X20, e20, W20, st20⟩ := stJ X17 hx hZ e17 Ar20 (j := (3 : Int32)) hin20 (g := (mkF m 30 #[.val (.int i), .val (.int n5), .unset] [(.long (1000 : Int64)), (.int (3 : Int32)), (.ref b8), (.ref b8)])) rfl rfl (hb hby d3_30)
  have s20 : h20.size = h17.size := W20.size
  have N20 := Fr.snoc X20 N17 (by omega : n0 ≤ b8)
  have k21 : Rch p e below (s₁.setTop (entryFrame m #[(.int i)] 3)) T20 (mkF m 31 #[.val (.int i), .val (.int n5), .unset] [(.ref b8)]) := fun tg kg => k19 tg (st20 tg kg)
  have V20 : Arv Z h20 b8 c8 .long (10 : Int32) [(.long (1 : Int64)), (.long (10 : Int64)), (.long (100 : Int64)), (.long (1000 : Int64)), (.long (0 : Int64)), (.long (0 : Int64)), (.long (0 : Int64)), (.long (0 : Int64)), (.long (0 : Int64)), (.long (0 : Int64))] (.long (0 : Int64)) := Arv.set Ar20 q20 S20 N20' H20 G20 rfl W20 3 rfl (Nat.le_of_ble_eq_true rfl)
  have k22 : Rch p e below (s₁.setTop (entryFrame m #[(.int i)] 3)) T20 (mkF m 36 #[.val (.int i), .val (.int n5), .unset] [(.long (10000 : Int64)), (.int (4 : Int32)), (.ref b8), (.ref b8)]) := fun tg kg => by
    refine k21 tg ?_
    show Steps p.tables e below (T20.setTop (mkF m 31 #[.val (.int i), .val (.int n5), .unset] [(.ref b8)])) tg
    refine XS.dup X20.here hx rfl (hb hby d3_31) rfl rfl ?_
    show Steps p.tables e below (T20.setTop (mkF m 32 #[.val (.int i), .val (.int n5), .unset] [(.ref b8), (.ref b8)])) tg
    refine XS.iconst X20.here hx rfl (hb hby d3_32) ?_
    show Steps p.tables e below (T20.setTop (mkF m 33 #[.val (.int i), .val (.int n5), .unset] [(.int (4 : Int32)), (.ref b8), (.ref b8)])) tg
    refine X20.ldc2Long hx hown (mvT hZ (hw _ (List.mem_of_getElem? (i := 20) rfl))) (g := (mkF m 33 #[.val (.int i), .val (.int n5), .unset] [(.int (4 : Int32)), (.ref b8), (.ref b8)])) rfl (hb hby d3_33) _ ?_
    exact kg
  obtain ⟨cl23, Ar23, q23, S23, N23', H23, G23⟩ := V20
  have hin23 : ¬ ((4 : Int32) < 0 ∨ cl23.slots.size ≤ ((4 : Int32)).toNatClampNeg) := inb_of S23 ⟨by decide, by decide⟩
  obtain ⟨T23, h23, X23, e23, W23, st23⟩ := stJ X20 hx hZ e20 Ar23 (j := (4 : Int32)) hin23 (g := (mkF m 36 #[.val (.int i), .val (.int n5), .unset] [(.long (10000 : Int64)), (.int (4 : Int32)), (.ref b8), (.ref b8)])) rfl rfl (hb hby d3_36)
  have s23 : h23.size = h20.size := W23.size
  have N23 := Fr.snoc X23 N20 (by omega : n0 ≤ b8)
  have k24 : Rch p e below (s₁.setTop (entryFrame m #[(.int i)] 3)) T23 (mkF m 37 #[.val (.int i), .val (.int n5), .unset] [(.ref b8)]) := fun tg kg => k22 tg (st23 tg kg)
  have V23 : Arv Z h23 b8 c8 .long (10 : Int32) [(.long (1 : Int64)), (.long (10 : Int64)), (.long (100 : Int64)), (.long (1000 : Int64)), (.long (10000 : Int64)), (.long (0 : Int64)), (.long (0 : Int64)), (.long (0 : Int64)), (.long (0 : Int64)), (.long (0 : Int64))] (.long (0 : Int64)) := Arv.set Ar23 q23 S23 N23' H23 G23 rfl W23 4 rfl (Nat.le_of_ble_eq_true rfl)
  have k25 : Rch p e below (s₁.setTop (entryFrame m #[(.int i)] 3)) T23 (mkF m 42 #[.val (.int i), .val (.int n5), .unset] [(.long (100000 : Int64)), (.int (5 : Int32)), (.ref b8), (.ref b8)]) := fun tg kg => by
    refine k24 tg ?_
    show Steps p.tables e below (T23.setTop (mkF m 37 #[.val (.int i), .val (.int n5), .unset] [(.ref b8)])) tg
    refine XS.dup X23.here hx rfl (hb hby d3_37) rfl rfl ?_
    show Steps p.tables e below (T23.setTop (mkF m 38 #[.val (.int i), .val (.int n5), .unset] [(.ref b8), (.ref b8)])) tg
    refine XS.iconst X23.here hx rfl (hb hby d3_38) ?_
    show Steps p.tables e below (T23.setTop (mkF m 39 #[.val (.int i), .val (.int n5), .unset] [(.int (5 : Int32)), (.ref b8), (.ref b8)])) tg
    refine X23.ldc2Long hx hown (mvT hZ (hw _ (List.mem_of_getElem? (i := 21) rfl))) (g := (mkF m 39 #[.val (.int i), .val (.int n5), .unset] [(.int (5 : Int32)), (.ref b8), (.ref b8)])) rfl (hb hby d3_39) _ ?_
    exact kg
  obtain ⟨cl26, Ar26, q26, S26, N26', H26, G26⟩ := V23
  have hin26 : ¬ ((5 : Int32) < 0 ∨ cl26.slots.size ≤ ((5 : Int32)).toNatClampNeg) := inb_of S26 ⟨by decide, by decide⟩
  obtain ⟨T26, h26, X26, e26, W26, st26⟩ := stJ X23 hx hZ e23 Ar26 (j := (5 : Int32)) hin26 (g := (mkF m 42 #[.val (.int i), .val (.int n5), .unset] [(.long (100000 : Int64)), (.int (5 : Int32)), (.ref b8), (.ref b8)])) rfl rfl (hb hby d3_42)
  have s26 : h26.size = h23.size := W26.size
  have N26 := Fr.snoc X26 N23 (by omega : n0 ≤ b8)
  have k27 : Rch p e below (s₁.setTop (entryFrame m #[(.int i)] 3)) T26 (mkF m 43 #[.val (.int i), .val (.int n5), .unset] [(.ref b8)]) := fun tg kg => k25 tg (st26 tg kg)
  have V26 : Arv Z h26 b8 c8 .long (10 : Int32) [(.long (1 : Int64)), (.long (10 : Int64)), (.long (100 : Int64)), (.long (1000 : Int64)), (.long (10000 : Int64)), (.long (100000 : Int64)), (.long (0 : Int64)), (.long (0 : Int64)), (.long (0 : Int64)), (.long (0 : Int64))] (.long (0 : Int64)) := Arv.set Ar26 q26 S26 N26' H26 G26 rfl W26 5 rfl (Nat.le_of_ble_eq_true rfl)
  have k28 : Rch p e below (s₁.setTop (entryFrame m #[(.int i)] 3)) T26 (mkF m 49 #[.val (.int i), .val (.int n5), .unset] [(.long (1000000 : Int64)), (.int (6 : Int32)), (.ref b8), (.ref b8)]) := fun tg kg => by
    refine k27 tg ?_
    show Steps p.tables e below (T26.setTop (mkF m 43 #[.val (.int i), .val (.int n5), .unset] [(.ref b8)])) tg
    refine XS.dup X26.here hx rfl (hb hby d3_43) rfl rfl ?_
    show Steps p.tables e below (T26.setTop (mkF m 44 #[.val (.int i), .val (.int n5), .unset] [(.ref b8), (.ref b8)])) tg
    refine XS.bipush X26.here hx rfl (hb hby d3_44) ?_
    show Steps p.tables e below (T26.setTop (mkF m 46 #[.val (.int i), .val (.int n5), .unset] [(.int (6 : Int32)), (.ref b8), (.ref b8)])) tg
    refine X26.ldc2Long hx hown (mvT hZ (hw _ (List.mem_of_getElem? (i := 22) rfl))) (g := (mkF m 46 #[.val (.int i), .val (.int n5), .unset] [(.int (6 : Int32)), (.ref b8), (.ref b8)])) rfl (hb hby d3_46) _ ?_
    exact kg
  obtain ⟨cl29, Ar29, q29, S29, N29', H29, G29⟩ := V26
  have hin29 : ¬ ((6 : Int32) < 0 ∨ cl29.slots.size ≤ ((6 : Int32)).toNatClampNeg) := inb_of S29 ⟨by decide, by decide⟩
  obtain ⟨T29, h29, X29, e29, W29, st29⟩ := stJ X26 hx hZ e26 Ar29 (j := (6 : Int32)) hin29 (g := (mkF m 49 #[.val (.int i), .val (.int n5), .unset] [(.long (1000000 : Int64)), (.int (6 : Int32)), (.ref b8), (.ref b8)])) rfl rfl (hb hby d3_49)
  have s29 : h29.size = h26.size := W29.size
  have N29 := Fr.snoc X29 N26 (by omega : n0 ≤ b8)
  have k30 : Rch p e below (s₁.setTop (entryFrame m #[(.int i)] 3)) T29 (mkF m 50 #[.val (.int i), .val (.int n5), .unset] [(.ref b8)]) := fun tg kg => k28 tg (st29 tg kg)
  have V29 : Arv Z h29 b8 c8 .long (10 : Int32) [(.long (1 : Int64)), (.long (10 : Int64)), (.long (100 : Int64)), (.long (1000 : Int64)), (.long (10000 : Int64)), (.long (100000 : Int64)), (.long (1000000 : Int64)), (.long (0 : Int64)), (.long (0 : Int64)), (.long (0 : Int64))] (.long (0 : Int64)) := Arv.set Ar29 q29 S29 N29' H29 G29 rfl W29 6 rfl (Nat.le_of_ble_eq_true rfl)
  have k31 : Rch p e below (s₁.setTop (entryFrame m #[(.int i)] 3)) T29 (mkF m 56 #[.val (.int i), .val (.int n5), .unset] [(.long (10000000 : Int64)), (.int (7 : Int32)), (.ref b8), (.ref b8)]) := fun tg kg => by
    refine k30 tg ?_
    show Steps p.tables e below (T29.setTop (mkF m 50 #[.val (.int i), .val (.int n5), .unset] [(.ref b8)])) tg
    refine XS.dup X29.here hx rfl (hb hby d3_50) rfl rfl ?_
    show Steps p.tables e below (T29.setTop (mkF m 51 #[.val (.int i), .val (.int n5), .unset] [(.ref b8), (.ref b8)])) tg
    refine XS.bipush X29.here hx rfl (hb hby d3_51) ?_
    show Steps p.tables e below (T29.setTop (mkF m 53 #[.val (.int i), .val (.int n5), .unset] [(.int (7 : Int32)), (.ref b8), (.ref b8)])) tg
    refine X29.ldc2Long hx hown (mvT hZ (hw _ (List.mem_of_getElem? (i := 23) rfl))) (g := (mkF m 53 #[.val (.int i), .val (.int n5), .unset] [(.int (7 : Int32)), (.ref b8), (.ref b8)])) rfl (hb hby d3_53) _ ?_
    exact kg
  obtain ⟨cl32, Ar32, q32, S32, N32', H32, G32⟩ := V29
  have hin32 : ¬ ((7 : Int32) < 0 ∨ cl32.slots.size ≤ ((7 : Int32)).toNatClampNeg) := inb_of S32 ⟨by decide, by decide⟩
  obtain ⟨T32, h32, X32, e32, W32, st32⟩ := stJ X29 hx hZ e29 Ar32 (j := (7 : Int32)) hin32 (g := (mkF m 56 #[.val (.int i), .val (.int n5), .unset] [(.long (10000000 : Int64)), (.int (7 : Int32)), (.ref b8), (.ref b8)])) rfl rfl (hb hby d3_56)
  have s32 : h32.size = h29.size := W32.size
  have N32 := Fr.snoc X32 N29 (by omega : n0 ≤ b8)
  have k33 : Rch p e below (s₁.setTop (entryFrame m #[(.int i)] 3)) T32 (mkF m 57 #[.val (.int i), .val (.int n5), .unset] [(.ref b8)]) := fun tg kg => k31 tg (st32 tg kg)
  have V32 : Arv Z h32 b8 c8 .long (10 : Int32) [(.long (1 : Int64)), (.long (10 : Int64)), (.long (100 : Int64)), (.long (1000 : Int64)), (.long (10000 : Int64)), (.long (100000 : Int64)), (.long (1000000 : Int64)), (.long (10000000 : Int64)), (.long (0 : Int64)), (.long (0 : Int64))] (.long (0 : Int64)) := Arv.set Ar32 q32 S32 N32' H32 G32 rfl W32 7 rfl (Nat.le_of_ble_eq_true rfl)
  have k34 : Rch p e below (s₁.setTop (entryFrame m #[(.int i)] 3)) T32 (mkF m 63 #[.val (.int i), .val (.int n5), .unset] [(.long (100000000 : Int64)), (.int (8 : Int32)), (.ref b8), (.ref b8)]) := fun tg kg => by
    refine k33 tg ?_
    show Steps p.tables e below (T32.setTop (mkF m 57 #[.val (.int i), .val (.int n5), .unset] [(.ref b8)])) tg
    refine XS.dup X32.here hx rfl (hb hby d3_57) rfl rfl ?_
    show Steps p.tables e below (T32.setTop (mkF m 58 #[.val (.int i), .val (.int n5), .unset] [(.ref b8), (.ref b8)])) tg
    refine XS.bipush X32.here hx rfl (hb hby d3_58) ?_
    show Steps p.tables e below (T32.setTop (mkF m 60 #[.val (.int i), .val (.int n5), .unset] [(.int (8 : Int32)), (.ref b8), (.ref b8)])) tg
    refine X32.ldc2Long hx hown (mvT hZ (hw _ (List.mem_of_getElem? (i := 24) rfl))) (g := (mkF m 60 #[.val (.int i), .val (.int n5), .unset] [(.int (8 : Int32)), (.ref b8), (.ref b8)])) rfl (hb hby d3_60) _ ?_
    exact kg
  obtain ⟨cl35, Ar35, q35, S35, N35', H35, G35⟩ := V32
  have hin35 : ¬ ((8 : Int32) < 0 ∨ cl35.slots.size ≤ ((8 : Int32)).toNatClampNeg) := inb_of S35 ⟨by decide, by decide⟩
  obtain ⟨T35, h35, X35, e35, W35, st35⟩ := stJ X32 hx hZ e32 Ar35 (j := (8 : Int32)) hin35 (g := (mkF m 63 #[.val (.int i), .val (.int n5), .unset] [(.long (100000000 : Int64)), (.int (8 : Int32)), (.ref b8), (.ref b8)])) rfl rfl (hb hby d3_63)
  have s35 : h35.size = h32.size := W35.size
  have N35 := Fr.snoc X35 N32 (by omega : n0 ≤ b8)
  have k36 : Rch p e below (s₁.setTop (entryFrame m #[(.int i)] 3)) T35 (mkF m 64 #[.val (.int i), .val (.int n5), .unset] [(.ref b8)]) := fun tg kg => k34 tg (st35 tg kg)
  have V35 : Arv Z h35 b8 c8 .long (10 : Int32) [(.long (1 : Int64)), (.long (10 : Int64)), (.long (100 : Int64)), (.long (1000 : Int64)), (.long (10000 : Int64)), (.long (100000 : Int64)), (.long (1000000 : Int64)), (.long (10000000 : Int64)), (.long (100000000 : Int64)), (.long (0 : Int64))] (.long (0 : Int64)) := Arv.set Ar35 q35 S35 N35' H35 G35 rfl W35 8 rfl (Nat.le_of_ble_eq_true rfl)
  have k37 : Rch p e below (s₁.setTop (entryFrame m #[(.int i)] 3)) T35 (mkF m 70 #[.val (.int i), .val (.int n5), .unset] [(.long (1000000000 : Int64)), (.int (9 : Int32)), (.ref b8), (.ref b8)]) := fun tg kg => by
    refine k36 tg ?_
    show Steps p.tables e below (T35.setTop (mkF m 64 #[.val (.int i), .val (.int n5), .unset] [(.ref b8)])) tg
    refine XS.dup X35.here hx rfl (hb hby d3_64) rfl rfl ?_
    show Steps p.tables e below (T35.setTop (mkF m 65 #[.val (.int i), .val (.int n5), .unset] [(.ref b8), (.ref b8)])) tg
    refine XS.bipush X35.here hx rfl (hb hby d3_65) ?_
    show Steps p.tables e below (T35.setTop (mkF m 67 #[.val (.int i), .val (.int n5), .unset] [(.int (9 : Int32)), (.ref b8), (.ref b8)])) tg
    refine X35.ldc2Long hx hown (mvT hZ (hw _ (List.mem_of_getElem? (i := 25) rfl))) (g := (mkF m 67 #[.val (.int i), .val (.int n5), .unset] [(.int (9 : Int32)), (.ref b8), (.ref b8)])) rfl (hb hby d3_67) _ ?_
    exact kg
  obtain ⟨cl38, Ar38, q38, S38, N38', H38, G38⟩ := V35
  have hin38 : ¬ ((9 : Int32) < 0 ∨ cl38.slots.size ≤ ((9 : Int32)).toNatClampNeg) := inb_of S38 ⟨by decide, by decide⟩
  obtain ⟨T38, h38, X38, e38, W38, st38⟩ := stJ X35 hx hZ e35 Ar38 (j := (9 : Int32)) hin38 (g := (mkF m 70 #[.val (.int i), .val (.int n5), .unset] [(.long (1000000000 : Int64)), (.int (9 : Int32)), (.ref b8), (.ref b8)])) rfl rfl (hb hby d3_70)
  have s38 : h38.size = h35.size := W38.size
  have N38 := Fr.snoc X38 N35 (by omega : n0 ≤ b8)
  have k39 : Rch p e below (s₁.setTop (entryFrame m #[(.int i)] 3)) T38 (mkF m 71 #[.val (.int i), .val (.int n5), .unset] [(.ref b8)]) := fun tg kg => k37 tg (st38 tg kg)
  have V38 : Arv Z h38 b8 c8 .long (10 : Int32) [(.long (1 : Int64)), (.long (10 : Int64)), (.long (100 : Int64)), (.long (1000 : Int64)), (.long (10000 : Int64)), (.long (100000 : Int64)), (.long (1000000 : Int64)), (.long (10000000 : Int64)), (.long (100000000 : Int64)), (.long (1000000000 : Int64))] (.long (0 : Int64)) := Arv.set Ar38 q38 S38 N38' H38 G38 rfl W38 9 rfl (Nat.le_of_ble_eq_true rfl)
  have k40 : Rch p e below (s₁.setTop (entryFrame m #[(.int i)] 3)) T38 (mkF m 79 #[.val (.int i), .val (.int n5), .val (.ref b8)] [(.int ((10 : Int32) - n5)), (.ref b8), (.long (i.toInt64))]) := fun tg kg => by
    refine k39 tg ?_
    show Steps p.tables e below (T38.setTop (mkF m 71 #[.val (.int i), .val (.int n5), .unset] [(.ref b8)])) tg
    refine XS.astoreN X38.here hx rfl (hb hby d3_71) rfl rfl (l' := #[.val (.int i), .val (.int n5), .val (.ref b8)]) rfl ?_
    show Steps p.tables e below (T38.setTop (mkF m 72 #[.val (.int i), .val (.int n5), .val (.ref b8)] [])) tg
    refine XS.iloadN X38.here hx rfl (hb hby d3_72) rfl ?_
    show Steps p.tables e below (T38.setTop (mkF m 73 #[.val (.int i), .val (.int n5), .val (.ref b8)] [(.int i)])) tg
    refine XS.i2l X38.here hx rfl (hb hby d3_73) rfl ?_
    show Steps p.tables e below (T38.setTop (mkF m 74 #[.val (.int i), .val (.int n5), .val (.ref b8)] [(.long (i.toInt64))])) tg
    refine XS.aloadN X38.here hx rfl (hb hby d3_74) rfl rfl ?_
    show Steps p.tables e below (T38.setTop (mkF m 75 #[.val (.int i), .val (.int n5), .val (.ref b8)] [(.ref b8), (.long (i.toInt64))])) tg
    refine XS.bipush X38.here hx rfl (hb hby d3_75) ?_
    show Steps p.tables e below (T38.setTop (mkF m 77 #[.val (.int i), .val (.int n5), .val (.ref b8)] [(.int (10 : Int32)), (.ref b8), (.long (i.toInt64))])) tg
    refine XS.iloadN X38.here hx rfl (hb hby d3_77) rfl ?_
    show Steps p.tables e below (T38.setTop (mkF m 78 #[.val (.int i), .val (.int n5), .val (.ref b8)] [(.int n5), (.int (10 : Int32)), (.ref b8), (.long (i.toInt64))])) tg
    refine XS.isub X38.here hx rfl (hb hby d3_78) rfl ?_
    exact kg
  obtain ⟨cl41, Ar41, q41, S41, M41, H41, G41⟩ := id V38
  obtain ⟨g1, g2, g3⟩ := own_keyv hi hn5
  have hin : ¬ (((10 : Int32) - n5) < 0 ∨ cl41.slots.size ≤ ((10 : Int32) - n5).toNatClampNeg) := inb_of S41 ⟨g1, g2⟩
  have hlt : ((10 : Int32) - n5).toNatClampNeg < 10 := by
    have := Nat.lt_of_not_le (fun q => hin (Or.inr q)); rw [S41] at this; exact this
  have hat := Has.at H41 hin (own_pad ⟨_, hlt⟩)
  have k42 : Rch p e below (s₁.setTop (entryFrame m #[(.int i)] 3)) T38 (mkF m 88 #[.val (.int i), .val (.int n5), .val (.ref b8)] [(.long ((((i.toInt64) * (Int64.ofNat (10 ^ ((10 : Int32) - n5).toNatClampNeg))) * (16 : Int64)) + (n5.toInt64)))]) := fun tg kg => by
    refine k40 tg ?_
    show Steps p.tables e below (T38.setTop (mkF m 79 #[.val (.int i), .val (.int n5), .val (.ref b8)] [(.int ((10 : Int32) - n5)), (.ref b8), (.long (i.toInt64))])) tg
    refine X38.laload hx (j := ((10 : Int32) - n5)) (v := (.long (Int64.ofNat (10 ^ ((10 : Int32) - n5).toNatClampNeg)))) (by rw [e38]; exact Ar41.1) (State.isArrayOf_alike hZ.alike Ar41.2.1) Ar41.2.2 hin hat (g := (mkF m 79 #[.val (.int i), .val (.int n5), .val (.ref b8)] [(.int ((10 : Int32) - n5)), (.ref b8), (.long (i.toInt64))])) rfl rfl (hb hby d3_79) _ ?_
    show Steps p.tables e below (T38.setTop (mkF m 80 #[.val (.int i), .val (.int n5), .val (.ref b8)] [(.long (Int64.ofNat (10 ^ ((10 : Int32) - n5).toNatClampNeg))), (.long (i.toInt64))])) tg
    refine XS.lmul X38.here hx rfl (hb hby d3_80) rfl ?_
    show Steps p.tables e below (T38.setTop (mkF m 81 #[.val (.int i), .val (.int n5), .val (.ref b8)] [(.long ((i.toInt64) * (Int64.ofNat (10 ^ ((10 : Int32) - n5).toNatClampNeg))))])) tg
    refine X38.ldc2Long hx hown (mvT hZ (hw _ (List.mem_of_getElem? (i := 26) rfl))) (g := (mkF m 81 #[.val (.int i), .val (.int n5), .val (.ref b8)] [(.long ((i.toInt64) * (Int64.ofNat (10 ^ ((10 : Int32) - n5).toNatClampNeg))))])) rfl (hb hby d3_81) _ ?_
    show Steps p.tables e below (T38.setTop (mkF m 84 #[.val (.int i), .val (.int n5), .val (.ref b8)] [(.long (16 : Int64)), (.long ((i.toInt64) * (Int64.ofNat (10 ^ ((10 : Int32) - n5).toNatClampNeg))))])) tg
    refine XS.lmul X38.here hx rfl (hb hby d3_84) rfl ?_
    show Steps p.tables e below (T38.setTop (mkF m 85 #[.val (.int i), .val (.int n5), .val (.ref b8)] [(.long (((i.toInt64) * (Int64.ofNat (10 ^ ((10 : Int32) - n5).toNatClampNeg))) * (16 : Int64)))])) tg
    refine XS.iloadN X38.here hx rfl (hb hby d3_85) rfl ?_
    show Steps p.tables e below (T38.setTop (mkF m 86 #[.val (.int i), .val (.int n5), .val (.ref b8)] [(.int n5), (.long (((i.toInt64) * (Int64.ofNat (10 ^ ((10 : Int32) - n5).toNatClampNeg))) * (16 : Int64)))])) tg
    refine XS.i2l X38.here hx rfl (hb hby d3_86) rfl ?_
    show Steps p.tables e below (T38.setTop (mkF m 87 #[.val (.int i), .val (.int n5), .val (.ref b8)] [(.long (n5.toInt64)), (.long (((i.toInt64) * (Int64.ofNat (10 ^ ((10 : Int32) - n5).toNatClampNeg))) * (16 : Int64)))])) tg
    refine XS.ladd X38.here hx rfl (hb hby d3_87) rfl ?_
    exact kg
  obtain ⟨fs43, hr43, hrun43, hended43, hW43, hsame43⟩ := X38.leave (v := some (.long ((((i.toInt64) * (Int64.ofNat (10 ^ ((10 : Int32) - n5).toNatClampNeg))) * (16 : Int64)) + (n5.toInt64)))) (fun h => by rw [Bd.returns] at h; cases h)
  refine ⟨_, _, k42 _ ?_, hrun43, hended43, _, _, rfl, ?_, ⟨_, rfl⟩, hW43, hsame43.mono (by decide) (by decide)⟩
  · exact retOut X38 hx Bd.returns rfl (Or.inr (Or.inl ⟨rfl, rfl, _, rfl⟩)) (hb hby d3_88) hr43
  · show Q_rm_key Z i h0 n0 _ T38.heap _
    rw [e38]
    exact ⟨((((i.toInt64) * (Int64.ofNat (10 ^ ((10 : Int32) - n5).toNatClampNeg))) * (16 : Int64)) + (n5.toInt64)), rfl, N38, ((((((((((((Keep.refl h0 []).ext E8).wr W11 (Or.inr (by omega))).wr W14 (Or.inr (by omega))).wr W17 (Or.inr (by omega))).wr W20 (Or.inr (by omega))).wr W23 (Or.inr (by omega))).wr W26 (Or.inr (by omega))).wr W29 (Or.inr (by omega))).wr W32 (Or.inr (by omega))).wr W35 (Or.inr (by omega))).wr W38 (Or.inr (by omega))), g3⟩
theorem pn_Entries : plainName "com/example/clerestory/clerestory/builders/Entries" = true := by first | (simp [plainName, overriddenIn]; done) | decide +kernel
theorem ef_rm_next (m : MethodId) (x0 : Int32) (x1 : Int32) : entryFrame m #[(.int x0), (.int x1)] 3 = mkF m 0 #[.val (.int x0), .val (.int x1), .unset] [] := by first | (simp [entryFrame, mkF, argsToLocals, Value.category]; done) | rfl
def Q_rm_next (Z : State) (i : Int32) (j : Int32) (h0 : Heap) (n0 : Nat) (v : Option Value) (h : Heap) (L : List Loc) : Prop := ∃ (r : Int32), (v = some (.int r)) ∧ (Fr n0 L) ∧ (h = h0) ∧ (0 ≤ r.toInt ∧ own_Res i.toInt.toNat j.toInt.toNat r.toInt.toNat)
theorem d2_0 : decode prog_25_method_14_code 0 = .ok (.iload_n 0, 1) := by decide +kernel
theorem d2_1 : decode prog_25_method_14_code 1 = .ok (.istore_n 2, 1) := by decide +kernel
theorem d2_2 : decode prog_25_method_14_code 2 = .ok (.iload_n 2, 1) := by decide +kernel
theorem d2_3 : decode prog_25_method_14_code 3 = .ok (.iload_n 1, 1) := by decide +kernel
theorem d2_4 : decode prog_25_method_14_code 4 = .ok (.bipush 10, 2) := by decide +kernel
theorem d2_6 : decode prog_25_method_14_code 6 = .ok (.idiv, 1) := by decide +kernel
theorem d2_7 : decode prog_25_method_14_code 7 = .ok (.if_icmp .gt 11, 3) := by decide +kernel
theorem d2_18 : decode prog_25_method_14_code 18 = .ok (.iload_n 2, 1) := by decide +kernel
theorem d2_19 : decode prog_25_method_14_code 19 = .ok (.bipush 10, 2) := by decide +kernel
theorem d2_21 : decode prog_25_method_14_code 21 = .ok (.irem, 1) := by decide +kernel
theorem d2_22 : decode prog_25_method_14_code 22 = .ok (.bipush 9, 2) := by decide +kernel
theorem d2_24 : decode prog_25_method_14_code 24 = .ok (.if_icmp .eq 8, 3) := by decide +kernel
theorem d2_27 : decode prog_25_method_14_code 27 = .ok (.iload_n 2, 1) := by decide +kernel
theorem d2_28 : decode prog_25_method_14_code 28 = .ok (.iload_n 1, 1) := by decide +kernel
theorem d2_29 : decode prog_25_method_14_code 29 = .ok (.if_icmp .lt 11, 3) := by decide +kernel
theorem d2_32 : decode prog_25_method_14_code 32 = .ok (.iload_n 2, 1) := by decide +kernel
theorem d2_33 : decode prog_25_method_14_code 33 = .ok (.bipush 10, 2) := by decide +kernel
theorem d2_35 : decode prog_25_method_14_code 35 = .ok (.idiv, 1) := by decide +kernel
theorem d2_36 : decode prog_25_method_14_code 36 = .ok (.istore_n 2, 1) := by decide +kernel
theorem d2_37 : decode prog_25_method_14_code 37 = .ok (.goto (-19), 3) := by decide +kernel
theorem d2_40 : decode prog_25_method_14_code 40 = .ok (.iinc 2 1, 3) := by decide +kernel
theorem d2_43 : decode prog_25_method_14_code 43 = .ok (.iload_n 2, 1) := by decide +kernel
theorem d2_44 : decode prog_25_method_14_code 44 = .ok (.iconst 1, 1) := by decide +kernel
theorem d2_45 : decode prog_25_method_14_code 45 = .ok (.if_icmp .ne 7, 3) := by decide +kernel
theorem d2_48 : decode prog_25_method_14_code 48 = .ok (.iconst 0, 1) := by decide +kernel
theorem d2_49 : decode prog_25_method_14_code 49 = .ok (.goto 4, 3) := by decide +kernel
theorem d2_53 : decode prog_25_method_14_code 53 = .ok (.ireturn, 1) := by decide +kernel
theorem d2_52 : decode prog_25_method_14_code 52 = .ok (.iload_n 2, 1) := by decide +kernel
theorem d2_10 : decode prog_25_method_14_code 10 = .ok (.iload_n 2, 1) := by decide +kernel
theorem d2_11 : decode prog_25_method_14_code 11 = .ok (.bipush 10, 2) := by decide +kernel
theorem d2_13 : decode prog_25_method_14_code 13 = .ok (.imul, 1) := by decide +kernel
theorem d2_14 : decode prog_25_method_14_code 14 = .ok (.istore_n 2, 1) := by decide +kernel
theorem d2_15 : decode prog_25_method_14_code 15 = .ok (.goto 28, 3) := by decide +kernel
set_option maxRecDepth 65536 in
set_option maxHeartbeats 40000000 in
theorem rm_next (l : Launch) (Z : State) (a0 : Array Value) (hw : ∀ d ∈ tables_1, d.before a0 Z = true) (ws : List Jvm.Cond) (i : Int32) (j : Int32) (h0 : Heap) (n0 : Nat) (Z0 : n0 ≤ h0.size) (h1 : 1 ≤ i.toInt) (h2 : i.toInt ≤ j.toInt) :
    Con l Z (⟨"com/example/clerestory/clerestory/builders/Entries", "nextByDigits", "(II)I"⟩ : MethodName) prog_25_method_14_code 3 (some .int) ws ({ frames := 0, cells := 0, slots := 0, locals := 0 } : Room) #[(.int i), (.int j)] h0 (Q_rm_next Z i j h0 n0) := by
  refine MetFree.of_bodySF (plainFor_of_name pn_Entries) hisR ?_
  intro p e s m args below meth c s₁ Bd hml0 hP hK
  obtain ⟨rfl, hZ, hh⟩ := hP
  have hx := Bd.exec
  have hby := Bd.bytes
  have hml : c.maxLocals = 3 := hml0
  have hown : s.vm.findClass "com/example/clerestory/clerestory/builders/Entries" = some m.cls := findClass_of_methodNamed Bd.named
  have hnm := (name_of_methodNamed Bd.named Bd.method).1
  have X0 : Stand p l e ({ frames := 0, cells := 0, slots := 0, locals := 0 } : Room) s m #[(.int i), (.int j)] below meth c s₁ [] 0 0 := Stand.of_body Bd
  have e0 : s₁.heap = h0 := by rw [← hh, Bd.state]; rfl
  have N0 := Fr.nil n0
  have k0 : Rch p e below (s₁.setTop (entryFrame m #[(.int i), (.int j)] 3)) s₁ (mkF m 0 #[.val (.int i), .val (.int j), .unset] []) := fun tg kg => castTop (ef_rm_next m i j) kg
  have rj := rng32 j
  have e1 : (1 : Int32).toInt = 1 := by decide
  have e9 : (9 : Int32).toInt = 9 := by decide
  have k1 : Rch p e below (s₁.setTop (entryFrame m #[(.int i), (.int j)] 3)) s₁ (mkF m 7 #[.val (.int i), .val (.int j), .val (.int i)] [(.int (j / (10 : Int32))), (.int i)]) := fun tg kg => by
    refine k0 tg ?_
    show Steps p.tables e below (s₁.setTop (mkF m 0 #[.val (.int i), .val (.int j), .unset] [])) tg
    refine XS.iloadN X0.here hx rfl (hb hby d2_0) rfl ?_
    show Steps p.tables e below (s₁.setTop (mkF m 1 #[.val (.int i), .val (.int j), .unset] [(.int i)])) tg
    refine XS.istoreN X0.here hx rfl (hb hby d2_1) rfl (l' := #[.val (.int i), .val (.int j), .val (.int i)]) rfl ?_
    show Steps p.tables e below (s₁.setTop (mkF m 2 #[.val (.int i), .val (.int j), .val (.int i)] [])) tg
    refine XS.iloadN X0.here hx rfl (hb hby d2_2) rfl ?_
    show Steps p.tables e below (s₁.setTop (mkF m 3 #[.val (.int i), .val (.int j), .val (.int i)] [(.int i)])) tg
    refine XS.iloadN X0.here hx rfl (hb hby d2_3) rfl ?_
    show Steps p.tables e below (s₁.setTop (mkF m 4 #[.val (.int i), .val (.int j), .val (.int i)] [(.int j), (.int i)])) tg
    refine XS.bipush X0.here hx rfl (hb hby d2_4) ?_
    show Steps p.tables e below (s₁.setTop (mkF m 6 #[.val (.int i), .val (.int j), .val (.int i)] [(.int (10 : Int32)), (.int j), (.int i)])) tg
    refine XS.idiv X0.here hx rfl (hb hby d2_6) rfl (by decide) ?_
    exact kg
  by_cases hc7_2 : (j / (10 : Int32)) < i
  · have k3 : Rch p e below (s₁.setTop (entryFrame m #[(.int i), (.int j)] 3)) s₁ (mkF m 18 #[.val (.int i), .val (.int j), .val (.int i)] []) := fun tg kg => by
      refine k1 tg ?_
      show Steps p.tables e below (s₁.setTop (mkF m 7 #[.val (.int i), .val (.int j), .val (.int i)] [(.int (j / (10 : Int32))), (.int i)])) tg
      refine XS.icmpYes X0.here hx rfl (pc0 := 7) (pc' := 18) rfl (hb hby d2_7) rfl (tlt hc7_2).2.2.1 (by decide) (by decide) ?_
      exact kg
    have hdd := hc7_2
    rw [Int32.lt_iff_toInt_lt, own_div10 (by omega)] at hdd
    have loop : ∀ (N : Nat) (q : Int32), 0 ≤ q.toInt → q.toInt.toNat ≤ N → own_Inv i.toInt.toNat j.toInt.toNat q.toInt.toNat → Rch p e below (s₁.setTop (entryFrame m #[(.int i), (.int j)] 3)) s₁ (mkF m 18 #[.val (.int i), .val (.int j), .val (.int q)] []) → ∃ q' : Int32, (0 ≤ q'.toInt ∧ own_Inv i.toInt.toNat j.toInt.toNat q'.toInt.toNat ∧ q'.toInt % 10 ≠ 9 ∧ q'.toInt < j.toInt) ∧ Rch p e below (s₁.setTop (entryFrame m #[(.int i), (.int j)] 3)) s₁ (mkF m 40 #[.val (.int i), .val (.int j), .val (.int q')] []) := by
      intro N
      induction N with
      | zero =>
        intro q hq0 hqN inv kk
        have hq : q.toInt = 0 := by omega
        have k4 : Rch p e below (s₁.setTop (entryFrame m #[(.int i), (.int j)] 3)) s₁ (mkF m 40 #[.val (.int i), .val (.int j), .val (.int q)] []) := fun tg kg => by
          refine kk tg ?_
          show Steps p.tables e below (s₁.setTop (mkF m 18 #[.val (.int i), .val (.int j), .val (.int q)] [])) tg
          refine XS.iloadN X0.here hx rfl (hb hby d2_18) rfl ?_
          show Steps p.tables e below (s₁.setTop (mkF m 19 #[.val (.int i), .val (.int j), .val (.int q)] [(.int q)])) tg
          refine XS.bipush X0.here hx rfl (hb hby d2_19) ?_
          show Steps p.tables e below (s₁.setTop (mkF m 21 #[.val (.int i), .val (.int j), .val (.int q)] [(.int (10 : Int32)), (.int q)])) tg
          refine iremM X0 hx rfl (hb hby d2_21) rfl (by decide) ?_
          show Steps p.tables e below (s₁.setTop (mkF m 22 #[.val (.int i), .val (.int j), .val (.int q)] [(.int (q % (10 : Int32)))])) tg
          refine XS.bipush X0.here hx rfl (hb hby d2_22) ?_
          show Steps p.tables e below (s₁.setTop (mkF m 24 #[.val (.int i), .val (.int j), .val (.int q)] [(.int (9 : Int32)), (.int (q % (10 : Int32)))])) tg
          refine XS.icmpNo X0.here hx rfl (hb hby d2_24) rfl (feq (fun z => by have := congrArg Int32.toInt z; rw [own_rem10 hq0, e9] at this; omega)).1 ?_
          show Steps p.tables e below (s₁.setTop (mkF m 27 #[.val (.int i), .val (.int j), .val (.int q)] [])) tg
          refine XS.iloadN X0.here hx rfl (hb hby d2_27) rfl ?_
          show Steps p.tables e below (s₁.setTop (mkF m 28 #[.val (.int i), .val (.int j), .val (.int q)] [(.int q)])) tg
          refine XS.iloadN X0.here hx rfl (hb hby d2_28) rfl ?_
          show Steps p.tables e below (s₁.setTop (mkF m 29 #[.val (.int i), .val (.int j), .val (.int q)] [(.int j), (.int q)])) tg
          refine XS.icmpYes X0.here hx rfl (pc0 := 29) (pc' := 40) rfl (hb hby d2_29) rfl (tlt (by rw [Int32.lt_iff_toInt_lt]; omega)).1 (by decide) (by decide) ?_
          exact kg
        exact ⟨q, ⟨hq0, inv, by omega, by omega⟩, k4⟩
      | succ N ih =>
        intro q hq0 hqN inv kk
        have d10 := own_div10 hq0
        have k5 : Rch p e below (s₁.setTop (entryFrame m #[(.int i), (.int j)] 3)) s₁ (mkF m 24 #[.val (.int i), .val (.int j), .val (.int q)] [(.int (9 : Int32)), (.int (q % (10 : Int32)))]) := fun tg kg => by
          refine kk tg ?_
          show Steps p.tables e below (s₁.setTop (mkF m 18 #[.val (.int i), .val (.int j), .val (.int q)] [])) tg
          refine XS.iloadN X0.here hx rfl (hb hby d2_18) rfl ?_
          show Steps p.tables e below (s₁.setTop (mkF m 19 #[.val (.int i), .val (.int j), .val (.int q)] [(.int q)])) tg
          refine XS.bipush X0.here hx rfl (hb hby d2_19) ?_
          show Steps p.tables e below (s₁.setTop (mkF m 21 #[.val (.int i), .val (.int j), .val (.int q)] [(.int (10 : Int32)), (.int q)])) tg
          refine iremM X0 hx rfl (hb hby d2_21) rfl (by decide) ?_
          show Steps p.tables e below (s₁.setTop (mkF m 22 #[.val (.int i), .val (.int j), .val (.int q)] [(.int (q % (10 : Int32)))])) tg
          refine XS.bipush X0.here hx rfl (hb hby d2_22) ?_
          exact kg
        by_cases hc24_6 : (q % (10 : Int32)) = (9 : Int32)
        · have g9 : q.toInt % 10 = 9 := by have := congrArg Int32.toInt hc24_6; rw [own_rem10 hq0, e9] at this; exact this
          have k7 : Rch p e below (s₁.setTop (entryFrame m #[(.int i), (.int j)] 3)) s₁ (mkF m 18 #[.val (.int i), .val (.int j), .val (.int (q / (10 : Int32)))] []) := fun tg kg => by
            refine k5 tg ?_
            show Steps p.tables e below (s₁.setTop (mkF m 24 #[.val (.int i), .val (.int j), .val (.int q)] [(.int (9 : Int32)), (.int (q % (10 : Int32)))])) tg
            refine XS.icmpYes X0.here hx rfl (pc0 := 24) (pc' := 32) rfl (hb hby d2_24) rfl (teq hc24_6).1 (by decide) (by decide) ?_
            show Steps p.tables e below (s₁.setTop (mkF m 32 #[.val (.int i), .val (.int j), .val (.int q)] [])) tg
            refine XS.iloadN X0.here hx rfl (hb hby d2_32) rfl ?_
            show Steps p.tables e below (s₁.setTop (mkF m 33 #[.val (.int i), .val (.int j), .val (.int q)] [(.int q)])) tg
            refine XS.bipush X0.here hx rfl (hb hby d2_33) ?_
            show Steps p.tables e below (s₁.setTop (mkF m 35 #[.val (.int i), .val (.int j), .val (.int q)] [(.int (10 : Int32)), (.int q)])) tg
            refine XS.idiv X0.here hx rfl (hb hby d2_35) rfl (by decide) ?_
            show Steps p.tables e below (s₁.setTop (mkF m 36 #[.val (.int i), .val (.int j), .val (.int q)] [(.int (q / (10 : Int32)))])) tg
            refine XS.istoreN X0.here hx rfl (hb hby d2_36) rfl (l' := #[.val (.int i), .val (.int j), .val (.int (q / (10 : Int32)))]) rfl ?_
            show Steps p.tables e below (s₁.setTop (mkF m 37 #[.val (.int i), .val (.int j), .val (.int (q / (10 : Int32)))] [])) tg
            refine XS.goto X0.here hx rfl (pc0 := 37) (pc' := 18) rfl (hb hby d2_37) (by decide) (by decide) ?_
            exact kg
          have inv2 := own_inv9 (m := j.toInt.toNat) (by omega) (by omega) inv (by omega)
          refine ih _ (by omega) (by omega) ?_ k7
          rw [show (q / (10 : Int32)).toInt.toNat = q.toInt.toNat / 10 by omega]; exact inv2
        · have g9 : q.toInt % 10 ≠ 9 := fun z => hc24_6 (Int32.toInt_inj.mp (by rw [own_rem10 hq0, e9]; exact z))
          have k8 : Rch p e below (s₁.setTop (entryFrame m #[(.int i), (.int j)] 3)) s₁ (mkF m 29 #[.val (.int i), .val (.int j), .val (.int q)] [(.int j), (.int q)]) := fun tg kg => by
            refine k5 tg ?_
            show Steps p.tables e below (s₁.setTop (mkF m 24 #[.val (.int i), .val (.int j), .val (.int q)] [(.int (9 : Int32)), (.int (q % (10 : Int32)))])) tg
            refine XS.icmpNo X0.here hx rfl (hb hby d2_24) rfl (feq hc24_6).1 ?_
            show Steps p.tables e below (s₁.setTop (mkF m 27 #[.val (.int i), .val (.int j), .val (.int q)] [])) tg
            refine XS.iloadN X0.here hx rfl (hb hby d2_27) rfl ?_
            show Steps p.tables e below (s₁.setTop (mkF m 28 #[.val (.int i), .val (.int j), .val (.int q)] [(.int q)])) tg
            refine XS.iloadN X0.here hx rfl (hb hby d2_28) rfl ?_
            exact kg
          by_cases hc29_9 : q < j
          · have k10 : Rch p e below (s₁.setTop (entryFrame m #[(.int i), (.int j)] 3)) s₁ (mkF m 40 #[.val (.int i), .val (.int j), .val (.int q)] []) := fun tg kg => by
              refine k8 tg ?_
              show Steps p.tables e below (s₁.setTop (mkF m 29 #[.val (.int i), .val (.int j), .val (.int q)] [(.int j), (.int q)])) tg
              refine XS.icmpYes X0.here hx rfl (pc0 := 29) (pc' := 40) rfl (hb hby d2_29) rfl (tlt hc29_9).1 (by decide) (by decide) ?_
              exact kg
            rw [Int32.lt_iff_toInt_lt] at hc29_9
            exact ⟨q, ⟨hq0, inv, g9, hc29_9⟩, k10⟩
          · have k11 : Rch p e below (s₁.setTop (entryFrame m #[(.int i), (.int j)] 3)) s₁ (mkF m 18 #[.val (.int i), .val (.int j), .val (.int (q / (10 : Int32)))] []) := fun tg kg => by
              refine k8 tg ?_
              show Steps p.tables e below (s₁.setTop (mkF m 29 #[.val (.int i), .val (.int j), .val (.int q)] [(.int j), (.int q)])) tg
              refine XS.icmpNo X0.here hx rfl (hb hby d2_29) rfl (flt hc29_9).1 ?_
              show Steps p.tables e below (s₁.setTop (mkF m 32 #[.val (.int i), .val (.int j), .val (.int q)] [])) tg
              refine XS.iloadN X0.here hx rfl (hb hby d2_32) rfl ?_
              show Steps p.tables e below (s₁.setTop (mkF m 33 #[.val (.int i), .val (.int j), .val (.int q)] [(.int q)])) tg
              refine XS.bipush X0.here hx rfl (hb hby d2_33) ?_
              show Steps p.tables e below (s₁.setTop (mkF m 35 #[.val (.int i), .val (.int j), .val (.int q)] [(.int (10 : Int32)), (.int q)])) tg
              refine XS.idiv X0.here hx rfl (hb hby d2_35) rfl (by decide) ?_
              show Steps p.tables e below (s₁.setTop (mkF m 36 #[.val (.int i), .val (.int j), .val (.int q)] [(.int (q / (10 : Int32)))])) tg
              refine XS.istoreN X0.here hx rfl (hb hby d2_36) rfl (l' := #[.val (.int i), .val (.int j), .val (.int (q / (10 : Int32)))]) rfl ?_
              show Steps p.tables e below (s₁.setTop (mkF m 37 #[.val (.int i), .val (.int j), .val (.int (q / (10 : Int32)))] [])) tg
              refine XS.goto X0.here hx rfl (pc0 := 37) (pc' := 18) rfl (hb hby d2_37) (by decide) (by decide) ?_
              exact kg
            rw [Int32.lt_iff_toInt_lt] at hc29_9
            have inv2 := own_invM (by omega) (by omega) (by omega) inv (by omega)
            refine ih _ (by omega) (by omega) ?_ k11
            rw [show (q / (10 : Int32)).toInt.toNat = q.toInt.toNat / 10 by omega]; exact inv2
    obtain ⟨q, ⟨hq0, inv, h9, hqm⟩, kL⟩ := loop _ i (by omega) (Nat.le_refl _) (own_inv0 (by omega) (by omega) (by omega) (by omega)) k3
    have eq1 : (q + (1 : Int32)).toInt = q.toInt + 1 := by have z := c_iadd q 1; have z2 := rng32 (q + (1 : Int32)); rw [e1] at z; omega
    have k12 : Rch p e below (s₁.setTop (entryFrame m #[(.int i), (.int j)] 3)) s₁ (mkF m 45 #[.val (.int i), .val (.int j), .val (.int (q + (1 : Int32)))] [(.int (1 : Int32)), (.int (q + (1 : Int32)))]) := fun tg kg => by
      refine kL tg ?_
      show Steps p.tables e below (s₁.setTop (mkF m 40 #[.val (.int i), .val (.int j), .val (.int q)] [])) tg
      refine XS.iinc X0.here hx rfl (hb hby d2_40) rfl (l' := #[.val (.int i), .val (.int j), .val (.int (q + (1 : Int32)))]) rfl ?_
      show Steps p.tables e below (s₁.setTop (mkF m 43 #[.val (.int i), .val (.int j), .val (.int (q + (1 : Int32)))] [])) tg
      refine XS.iloadN X0.here hx rfl (hb hby d2_43) rfl ?_
      show Steps p.tables e below (s₁.setTop (mkF m 44 #[.val (.int i), .val (.int j), .val (.int (q + (1 : Int32)))] [(.int (q + (1 : Int32)))])) tg
      refine XS.iconst X0.here hx rfl (hb hby d2_44) ?_
      exact kg
    by_cases hc45_13 : (q + (1 : Int32)) = (1 : Int32)
    · have q0 : q.toInt = 0 := by have := congrArg Int32.toInt hc45_13; rw [eq1, e1] at this; omega
      rw [show q.toInt.toNat = 0 by omega] at inv
      have k14 : Rch p e below (s₁.setTop (entryFrame m #[(.int i), (.int j)] 3)) s₁ (mkF m 53 #[.val (.int i), .val (.int j), .val (.int (q + (1 : Int32)))] [(.int (0 : Int32))]) := fun tg kg => by
        refine k12 tg ?_
        show Steps p.tables e below (s₁.setTop (mkF m 45 #[.val (.int i), .val (.int j), .val (.int (q + (1 : Int32)))] [(.int (1 : Int32)), (.int (q + (1 : Int32)))])) tg
        refine XS.icmpNo X0.here hx rfl (hb hby d2_45) rfl (teq hc45_13).2 ?_
        show Steps p.tables e below (s₁.setTop (mkF m 48 #[.val (.int i), .val (.int j), .val (.int (q + (1 : Int32)))] [])) tg
        refine XS.iconst X0.here hx rfl (hb hby d2_48) ?_
        show Steps p.tables e below (s₁.setTop (mkF m 49 #[.val (.int i), .val (.int j), .val (.int (q + (1 : Int32)))] [(.int (0 : Int32))])) tg
        refine XS.goto X0.here hx rfl (pc0 := 49) (pc' := 53) rfl (hb hby d2_49) (by decide) (by decide) ?_
        exact kg
      obtain ⟨fs15, hr15, hrun15, hended15, hW15, hsame15⟩ := X0.leave (v := some (.int (0 : Int32))) (fun h => by rw [Bd.returns] at h; cases h)
      refine ⟨_, _, k14 _ ?_, hrun15, hended15, _, _, rfl, ?_, ⟨_, rfl⟩, hW15, hsame15.mono (by decide) (by decide)⟩
      · exact retOut X0 hx Bd.returns rfl (Or.inl ⟨rfl, Or.inl rfl, _, rfl⟩) (hb hby d2_53) hr15
      · show Q_rm_next Z i j h0 n0 _ s₁.heap _
        rw [e0]
        exact ⟨0, rfl, N0, rfl, ⟨by decide, own_res0 (by omega) (by omega) (by omega) inv⟩⟩
    · have q0 : q.toInt ≠ 0 := fun z => hc45_13 (Int32.toInt_inj.mp (by rw [eq1, e1]; omega))
      have k16 : Rch p e below (s₁.setTop (entryFrame m #[(.int i), (.int j)] 3)) s₁ (mkF m 53 #[.val (.int i), .val (.int j), .val (.int (q + (1 : Int32)))] [(.int (q + (1 : Int32)))]) := fun tg kg => by
        refine k12 tg ?_
        show Steps p.tables e below (s₁.setTop (mkF m 45 #[.val (.int i), .val (.int j), .val (.int (q + (1 : Int32)))] [(.int (1 : Int32)), (.int (q + (1 : Int32)))])) tg
        refine XS.icmpYes X0.here hx rfl (pc0 := 45) (pc' := 52) rfl (hb hby d2_45) rfl (feq hc45_13).2 (by decide) (by decide) ?_
        show Steps p.tables e below (s₁.setTop (mkF m 52 #[.val (.int i), .val (.int j), .val (.int (q + (1 : Int32)))] [])) tg
        refine XS.iloadN X0.here hx rfl (hb hby d2_52) rfl ?_
        exact kg
      obtain ⟨fs17, hr17, hrun17, hended17, hW17, hsame17⟩ := X0.leave (v := some (.int (q + (1 : Int32)))) (fun h => by rw [Bd.returns] at h; cases h)
      refine ⟨_, _, k16 _ ?_, hrun17, hended17, _, _, rfl, ?_, ⟨_, rfl⟩, hW17, hsame17.mono (by decide) (by decide)⟩
      · exact retOut X0 hx Bd.returns rfl (Or.inl ⟨rfl, Or.inl rfl, _, rfl⟩) (hb hby d2_53) hr17
      · show Q_rm_next Z i j h0 n0 _ s₁.heap _
        rw [e0]
        exact ⟨(q + (1 : Int32)), rfl, N0, rfl, ⟨by omega, by rw [show (q + (1 : Int32)).toInt.toNat = q.toInt.toNat + 1 by omega]; exact own_resS (by omega) (by omega) (by omega) inv (by omega) (by omega) (by omega)⟩⟩
  · have hdd := hc7_2
    rw [Int32.lt_iff_toInt_lt, own_div10 (by omega)] at hdd
    have em : (i * (10 : Int32)).toInt = i.toInt * 10 := by have z := c_imul i 10; have z2 := rng32 (i * (10 : Int32)); rw [own_i10] at z; omega
    have k18 : Rch p e below (s₁.setTop (entryFrame m #[(.int i), (.int j)] 3)) s₁ (mkF m 53 #[.val (.int i), .val (.int j), .val (.int (i * (10 : Int32)))] [(.int (i * (10 : Int32)))]) := fun tg kg => by
      refine k1 tg ?_
      show Steps p.tables e below (s₁.setTop (mkF m 7 #[.val (.int i), .val (.int j), .val (.int i)] [(.int (j / (10 : Int32))), (.int i)])) tg
      refine XS.icmpNo X0.here hx rfl (hb hby d2_7) rfl (flt hc7_2).2.2.1 ?_
      show Steps p.tables e below (s₁.setTop (mkF m 10 #[.val (.int i), .val (.int j), .val (.int i)] [])) tg
      refine XS.iloadN X0.here hx rfl (hb hby d2_10) rfl ?_
      show Steps p.tables e below (s₁.setTop (mkF m 11 #[.val (.int i), .val (.int j), .val (.int i)] [(.int i)])) tg
      refine XS.bipush X0.here hx rfl (hb hby d2_11) ?_
      show Steps p.tables e below (s₁.setTop (mkF m 13 #[.val (.int i), .val (.int j), .val (.int i)] [(.int (10 : Int32)), (.int i)])) tg
      refine XS.imul X0.here hx rfl (hb hby d2_13) rfl ?_
      show Steps p.tables e below (s₁.setTop (mkF m 14 #[.val (.int i), .val (.int j), .val (.int i)] [(.int (i * (10 : Int32)))])) tg
      refine XS.istoreN X0.here hx rfl (hb hby d2_14) rfl (l' := #[.val (.int i), .val (.int j), .val (.int (i * (10 : Int32)))]) rfl ?_
      show Steps p.tables e below (s₁.setTop (mkF m 15 #[.val (.int i), .val (.int j), .val (.int (i * (10 : Int32)))] [])) tg
      refine XS.goto X0.here hx rfl (pc0 := 15) (pc' := 43) rfl (hb hby d2_15) (by decide) (by decide) ?_
      show Steps p.tables e below (s₁.setTop (mkF m 43 #[.val (.int i), .val (.int j), .val (.int (i * (10 : Int32)))] [])) tg
      refine XS.iloadN X0.here hx rfl (hb hby d2_43) rfl ?_
      show Steps p.tables e below (s₁.setTop (mkF m 44 #[.val (.int i), .val (.int j), .val (.int (i * (10 : Int32)))] [(.int (i * (10 : Int32)))])) tg
      refine XS.iconst X0.here hx rfl (hb hby d2_44) ?_
      show Steps p.tables e below (s₁.setTop (mkF m 45 #[.val (.int i), .val (.int j), .val (.int (i * (10 : Int32)))] [(.int (1 : Int32)), (.int (i * (10 : Int32)))])) tg
      refine XS.icmpYes X0.here hx rfl (pc0 := 45) (pc' := 52) rfl (hb hby d2_45) rfl (feq (fun z => by have := congrArg Int32.toInt z; rw [em, e1] at this; omega)).2 (by decide) (by decide) ?_
      show Steps p.tables e below (s₁.setTop (mkF m 52 #[.val (.int i), .val (.int j), .val (.int (i * (10 : Int32)))] [])) tg
      refine XS.iloadN X0.here hx rfl (hb hby d2_52) rfl ?_
      exact kg
    obtain ⟨fs19, hr19, hrun19, hended19, hW19, hsame19⟩ := X0.leave (v := some (.int (i * (10 : Int32)))) (fun h => by rw [Bd.returns] at h; cases h)
    refine ⟨_, _, k18 _ ?_, hrun19, hended19, _, _, rfl, ?_, ⟨_, rfl⟩, hW19, hsame19.mono (by decide) (by decide)⟩
    · exact retOut X0 hx Bd.returns rfl (Or.inl ⟨rfl, Or.inl rfl, _, rfl⟩) (hb hby d2_53) hr19
    · show Q_rm_next Z i j h0 n0 _ s₁.heap _
      rw [e0]
      exact ⟨(i * (10 : Int32)), rfl, N0, rfl, ⟨by omega, by rw [show (i * (10 : Int32)).toInt.toNat = 10 * i.toInt.toNat by omega]; exact own_res10 (by omega) (by omega) (by omega)⟩⟩
theorem ef_rm0 (m : MethodId) (x0 : Int32) (x1 : Int32) (x2 : Int32) (x3 : Int32) : entryFrame m #[(.int x0), (.int x1), (.int x2), (.int x3)] maxLocals = mkF m 0 #[.val (.int x0), .val (.int x1), .val (.int x2), .val (.int x3), .unset, .unset, .unset, .unset, .unset, .unset, .unset, .unset, .unset, .unset] [] := by first | (simp [entryFrame, mkF, argsToLocals, Value.category, maxLocals]; done) | rfl
def Q_rm0 (Z : State) (p1 : Int32) (p2 : Int32) (p3 : Int32) (p4 : Int32) (h0 : Heap) (n0 : Nat) (v : Option Value) (h : Heap) (L : List Loc) : Prop := (v = some (.int 1)) ∧ (Fr n0 L)
theorem pd_1 : parseMethodDescriptor "(II)I" = some ⟨[.int, .int], some .int⟩ := by decide +kernel
theorem own_nk {b mm : Int32} (h : 1 ≤ mm.toInt) : 1 ≤ ((1 : Int32) + ((b &&& (2147483647 : Int32)) % mm)).toInt ∧ ((1 : Int32) + ((b &&& (2147483647 : Int32)) % mm)).toInt ≤ mm.toInt := by
  have q := (c_and b 2147483647 (by decide)).1
  have r := (c_iremV (b &&& (2147483647 : Int32)) mm).1 q (by omega)
  have s := c_iadd 1 ((b &&& (2147483647 : Int32)) % mm)
  rw [show (1 : Int32).toInt = 1 by decide] at s
  have t := rng32 ((1 : Int32) + ((b &&& (2147483647 : Int32)) % mm))
  have u := rng32 mm
  omega
theorem pd_2 : parseMethodDescriptor "(I)J" = some ⟨[.int], some .long⟩ := by decide +kernel
set_option maxRecDepth 65536 in
set_option maxHeartbeats 40000000 in
theorem rm0 (l : Launch) (Z : State) (a0 : Array Value) (hw : ∀ d ∈ tables_1, d.before a0 Z = true) (ws : List Jvm.Cond) (p1 : Int32) (p2 : Int32) (p3 : Int32) (p4 : Int32) (h0 : Heap) (n0 : Nat) (Z0 : n0 ≤ h0.size)  :
    Con l Z x code maxLocals ret ws room_1 #[(.int p1), (.int p2), (.int p3), (.int p4)] h0 (Q_rm0 Z p1 p2 p3 p4 h0 n0) := by
  refine MetFree.of_bodySF (plainFor_of_name pn_EntriesNextByDigitsPinLaw) hisR ?_
  intro p e s m args below meth c s₁ Bd hml0 hP hK
  obtain ⟨rfl, hZ, hh⟩ := hP
  have hx := Bd.exec
  have hby := Bd.bytes
  have hml : c.maxLocals = 14 := hml0
  have hown : s.vm.findClass "com/example/clerestory/clerestory/builders/EntriesNextByDigitsPinLaw" = some m.cls := findClass_of_methodNamed Bd.named
  have hnm := (name_of_methodNamed Bd.named Bd.method).1
  have X0 : Stand p l e room_1 s m #[(.int p1), (.int p2), (.int p3), (.int p4)] below meth c s₁ [] 0 0 := Stand.of_body Bd
  have e0 : s₁.heap = h0 := by rw [← hh, Bd.state]; rfl
  have N0 := Fr.nil n0
  have k0 : Rch p e below (s₁.setTop (entryFrame m #[(.int p1), (.int p2), (.int p3), (.int p4)] maxLocals)) s₁ (mkF m 0 #[.val (.int p1), .val (.int p2), .val (.int p3), .val (.int p4), .unset, .unset, .unset, .unset, .unset, .unset, .unset, .unset, .unset, .unset] []) := fun tg kg => castTop (ef_rm0 m p1 p2 p3 p4) kg
  have k1 : Rch p e below (s₁.setTop (entryFrame m #[(.int p1), (.int p2), (.int p3), (.int p4)] maxLocals)) s₁ (mkF m 10 #[.val (.int p1), .val (.int p2), .val (.int p3), .val (.int p4), .unset, .unset, .unset, .unset, .unset, .unset, .unset, .unset, .unset, .unset] [(.int ((p1 &&& (2147483647 : Int32)) >>> ((p4 &&& (31 : Int32)) &&& 31))), (.int (1 : Int32))]) := fun tg kg => by
    refine k0 tg ?_
    show Steps p.tables e below (s₁.setTop (mkF m 0 #[.val (.int p1), .val (.int p2), .val (.int p3), .val (.int p4), .unset, .unset, .unset, .unset, .unset, .unset, .unset, .unset, .unset, .unset] [])) tg
    refine XS.iconst X0.here hx rfl (hb hby at_0) ?_
    show Steps p.tables e below (s₁.setTop (mkF m 1 #[.val (.int p1), .val (.int p2), .val (.int p3), .val (.int p4), .unset, .unset, .unset, .unset, .unset, .unset, .unset, .unset, .unset, .unset] [(.int (1 : Int32))])) tg
    refine XS.iloadN X0.here hx rfl (hb hby at_1) rfl ?_
    show Steps p.tables e below (s₁.setTop (mkF m 2 #[.val (.int p1), .val (.int p2), .val (.int p3), .val (.int p4), .unset, .unset, .unset, .unset, .unset, .unset, .unset, .unset, .unset, .unset] [(.int p1), (.int (1 : Int32))])) tg
    refine X0.ldcInt hx hown (mvT hZ (hw _ (List.mem_of_getElem? (i := 0) rfl))) (g := (mkF m 2 #[.val (.int p1), .val (.int p2), .val (.int p3), .val (.int p4), .unset, .unset, .unset, .unset, .unset, .unset, .unset, .unset, .unset, .unset] [(.int p1), (.int (1 : Int32))])) rfl (hb hby at_2) _ ?_
    show Steps p.tables e below (s₁.setTop (mkF m 4 #[.val (.int p1), .val (.int p2), .val (.int p3), .val (.int p4), .unset, .unset, .unset, .unset, .unset, .unset, .unset, .unset, .unset, .unset] [(.int (2147483647 : Int32)), (.int p1), (.int (1 : Int32))])) tg
    refine XS.iand X0.here hx rfl (hb hby at_4) rfl ?_
    show Steps p.tables e below (s₁.setTop (mkF m 5 #[.val (.int p1), .val (.int p2), .val (.int p3), .val (.int p4), .unset, .unset, .unset, .unset, .unset, .unset, .unset, .unset, .unset, .unset] [(.int (p1 &&& (2147483647 : Int32))), (.int (1 : Int32))])) tg
    refine XS.iloadN X0.here hx rfl (hb hby at_5) rfl ?_
    show Steps p.tables e below (s₁.setTop (mkF m 6 #[.val (.int p1), .val (.int p2), .val (.int p3), .val (.int p4), .unset, .unset, .unset, .unset, .unset, .unset, .unset, .unset, .unset, .unset] [(.int p4), (.int (p1 &&& (2147483647 : Int32))), (.int (1 : Int32))])) tg
    refine XS.bipush X0.here hx rfl (hb hby at_6) ?_
    show Steps p.tables e below (s₁.setTop (mkF m 8 #[.val (.int p1), .val (.int p2), .val (.int p3), .val (.int p4), .unset, .unset, .unset, .unset, .unset, .unset, .unset, .unset, .unset, .unset] [(.int (31 : Int32)), (.int p4), (.int (p1 &&& (2147483647 : Int32))), (.int (1 : Int32))])) tg
    refine XS.iand X0.here hx rfl (hb hby at_8) rfl ?_
    show Steps p.tables e below (s₁.setTop (mkF m 9 #[.val (.int p1), .val (.int p2), .val (.int p3), .val (.int p4), .unset, .unset, .unset, .unset, .unset, .unset, .unset, .unset, .unset, .unset] [(.int (p4 &&& (31 : Int32))), (.int (p1 &&& (2147483647 : Int32))), (.int (1 : Int32))])) tg
    refine XS.ishr X0.here hx rfl (hb hby at_9) rfl ?_
    exact kg
  obtain ⟨v2, T2, h2, Lc2, X2, e2, hQ2, st2⟩ := own_callS X0 hx hZ hown (hw _ (List.mem_of_getElem? (i := 1) rfl)) (hw _ (List.mem_of_getElem? (i := 2) rfl)) (hw _ (List.mem_of_getElem? (i := 3) rfl)) (hw _ (List.mem_of_getElem? (i := 4) rfl)) (by decide) (rm_max l Z a0 hw [] (1 : Int32) ((p1 &&& (2147483647 : Int32)) >>> ((p4 &&& (31 : Int32)) &&& 31)) h0 n0 (by omega) ) e0 (g := (mkF m 10 #[.val (.int p1), .val (.int p2), .val (.int p3), .val (.int p4), .unset, .unset, .unset, .unset, .unset, .unset, .unset, .unset, .unset, .unset] [(.int ((p1 &&& (2147483647 : Int32)) >>> ((p4 &&& (31 : Int32)) &&& 31))), (.int (1 : Int32))])) rfl (by rw [hml]; rfl) (argsL := [(.int (1 : Int32)), (.int ((p1 &&& (2147483647 : Int32)) >>> ((p4 &&& (31 : Int32)) &&& 31)))]) (rest := []) rfl (lenOf pd_1 rfl) rfl (W := 0) (by show 2 * 0 + _ ≤ _; exact Nat.le_of_eq rfl) (hb hby at_10) (by decide) (by decide) (by decide) (by decide)
  obtain ⟨rfl, Nq2, hs2⟩ := hQ2
  have N2 := Fr.app N0 Nq2
  have e2' : T2.heap = h0 := e2.trans hs2
  have k3 : Rch p e below (s₁.setTop (entryFrame m #[(.int p1), (.int p2), (.int p3), (.int p4)] maxLocals)) T2 (mkF m 13 #[.val (.int p1), .val (.int p2), .val (.int p3), .val (.int p4), .unset, .unset, .unset, .unset, .unset, .unset, .unset, .unset, .unset, .unset] [(.int (if (1 : Int32) < ((p1 &&& (2147483647 : Int32)) >>> ((p4 &&& (31 : Int32)) &&& 31)) then ((p1 &&& (2147483647 : Int32)) >>> ((p4 &&& (31 : Int32)) &&& 31)) else (1 : Int32)))]) := fun tg kg => k1 tg (st2 tg kg)
  have k4 : Rch p e below (s₁.setTop (entryFrame m #[(.int p1), (.int p2), (.int p3), (.int p4)] maxLocals)) T2 (mkF m 15 #[.val (.int p1), .val (.int p2), .val (.int p3), .val (.int p4), .val (.int (if (1 : Int32) < ((p1 &&& (2147483647 : Int32)) >>> ((p4 &&& (31 : Int32)) &&& 31)) then ((p1 &&& (2147483647 : Int32)) >>> ((p4 &&& (31 : Int32)) &&& 31)) else (1 : Int32))), .unset, .unset, .unset, .unset, .unset, .unset, .unset, .unset, .unset] []) := fun tg kg => by
    refine k3 tg ?_
    show Steps p.tables e below (T2.setTop (mkF m 13 #[.val (.int p1), .val (.int p2), .val (.int p3), .val (.int p4), .unset, .unset, .unset, .unset, .unset, .unset, .unset, .unset, .unset, .unset] [(.int (if (1 : Int32) < ((p1 &&& (2147483647 : Int32)) >>> ((p4 &&& (31 : Int32)) &&& 31)) then ((p1 &&& (2147483647 : Int32)) >>> ((p4 &&& (31 : Int32)) &&& 31)) else (1 : Int32)))])) tg
    refine XS.istore X2.here hx rfl (hb hby at_13) rfl (l' := #[.val (.int p1), .val (.int p2), .val (.int p3), .val (.int p4), .val (.int (if (1 : Int32) < ((p1 &&& (2147483647 : Int32)) >>> ((p4 &&& (31 : Int32)) &&& 31)) then ((p1 &&& (2147483647 : Int32)) >>> ((p4 &&& (31 : Int32)) &&& 31)) else (1 : Int32))), .unset, .unset, .unset, .unset, .unset, .unset, .unset, .unset, .unset]) rfl ?_
    exact kg
  obtain ⟨mm, hmm, k5⟩ : ∃ mm : Int32, mm = (if (1 : Int32) < ((p1 &&& (2147483647 : Int32)) >>> ((p4 &&& (31 : Int32)) &&& 31)) then ((p1 &&& (2147483647 : Int32)) >>> ((p4 &&& (31 : Int32)) &&& 31)) else (1 : Int32)) ∧ Rch p e below (s₁.setTop (entryFrame m #[(.int p1), (.int p2), (.int p3), (.int p4)] maxLocals)) T2 (mkF m 15 #[.val (.int p1), .val (.int p2), .val (.int p3), .val (.int p4), .val (.int mm), .unset, .unset, .unset, .unset, .unset, .unset, .unset, .unset, .unset] []) := ⟨_, rfl, k4⟩
  have e1 : (1 : Int32).toInt = 1 := by decide
  have e0 : (0 : Int32).toInt = 0 := by decide
  have hm1 : 1 ≤ mm.toInt := by
    rw [hmm]; split
    · rename_i q; rw [Int32.lt_iff_toInt_lt, e1] at q; omega
    · omega
  have rm := rng32 mm
  have hm0 : mm ≠ 0 := fun z => by rw [z, e0] at hm1; omega
  have k6 : Rch p e below (s₁.setTop (entryFrame m #[(.int p1), (.int p2), (.int p3), (.int p4)] maxLocals)) T2 (mkF m 26 #[.val (.int p1), .val (.int p2), .val (.int p3), .val (.int p4), .val (.int mm), .val (.int ((1 : Int32) + ((p2 &&& (2147483647 : Int32)) % mm))), .unset, .unset, .unset, .unset, .unset, .unset, .unset, .unset] []) := fun tg kg => by
    refine k5 tg ?_
    show Steps p.tables e below (T2.setTop (mkF m 15 #[.val (.int p1), .val (.int p2), .val (.int p3), .val (.int p4), .val (.int mm), .unset, .unset, .unset, .unset, .unset, .unset, .unset, .unset, .unset] [])) tg
    refine XS.iconst X2.here hx rfl (hb hby at_15) ?_
    show Steps p.tables e below (T2.setTop (mkF m 16 #[.val (.int p1), .val (.int p2), .val (.int p3), .val (.int p4), .val (.int mm), .unset, .unset, .unset, .unset, .unset, .unset, .unset, .unset, .unset] [(.int (1 : Int32))])) tg
    refine XS.iloadN X2.here hx rfl (hb hby at_16) rfl ?_
    show Steps p.tables e below (T2.setTop (mkF m 17 #[.val (.int p1), .val (.int p2), .val (.int p3), .val (.int p4), .val (.int mm), .unset, .unset, .unset, .unset, .unset, .unset, .unset, .unset, .unset] [(.int p2), (.int (1 : Int32))])) tg
    refine X2.ldcInt hx hown (mvT hZ (hw _ (List.mem_of_getElem? (i := 0) rfl))) (g := (mkF m 17 #[.val (.int p1), .val (.int p2), .val (.int p3), .val (.int p4), .val (.int mm), .unset, .unset, .unset, .unset, .unset, .unset, .unset, .unset, .unset] [(.int p2), (.int (1 : Int32))])) rfl (hb hby at_17) _ ?_
    show Steps p.tables e below (T2.setTop (mkF m 19 #[.val (.int p1), .val (.int p2), .val (.int p3), .val (.int p4), .val (.int mm), .unset, .unset, .unset, .unset, .unset, .unset, .unset, .unset, .unset] [(.int (2147483647 : Int32)), (.int p2), (.int (1 : Int32))])) tg
    refine XS.iand X2.here hx rfl (hb hby at_19) rfl ?_
    show Steps p.tables e below (T2.setTop (mkF m 20 #[.val (.int p1), .val (.int p2), .val (.int p3), .val (.int p4), .val (.int mm), .unset, .unset, .unset, .unset, .unset, .unset, .unset, .unset, .unset] [(.int (p2 &&& (2147483647 : Int32))), (.int (1 : Int32))])) tg
    refine XS.iload X2.here hx rfl (hb hby at_20) rfl ?_
    show Steps p.tables e below (T2.setTop (mkF m 22 #[.val (.int p1), .val (.int p2), .val (.int p3), .val (.int p4), .val (.int mm), .unset, .unset, .unset, .unset, .unset, .unset, .unset, .unset, .unset] [(.int mm), (.int (p2 &&& (2147483647 : Int32))), (.int (1 : Int32))])) tg
    refine iremM X2 hx rfl (hb hby at_22) rfl hm0 ?_
    show Steps p.tables e below (T2.setTop (mkF m 23 #[.val (.int p1), .val (.int p2), .val (.int p3), .val (.int p4), .val (.int mm), .unset, .unset, .unset, .unset, .unset, .unset, .unset, .unset, .unset] [(.int ((p2 &&& (2147483647 : Int32)) % mm)), (.int (1 : Int32))])) tg
    refine XS.iadd X2.here hx rfl (hb hby at_23) rfl ?_
    show Steps p.tables e below (T2.setTop (mkF m 24 #[.val (.int p1), .val (.int p2), .val (.int p3), .val (.int p4), .val (.int mm), .unset, .unset, .unset, .unset, .unset, .unset, .unset, .unset, .unset] [(.int ((1 : Int32) + ((p2 &&& (2147483647 : Int32)) % mm)))])) tg
    refine XS.istore X2.here hx rfl (hb hby at_24) rfl (l' := #[.val (.int p1), .val (.int p2), .val (.int p3), .val (.int p4), .val (.int mm), .val (.int ((1 : Int32) + ((p2 &&& (2147483647 : Int32)) % mm))), .unset, .unset, .unset, .unset, .unset, .unset, .unset, .unset]) rfl ?_
    exact kg
  obtain ⟨nn, hnn, k7⟩ : ∃ nn : Int32, nn = ((1 : Int32) + ((p2 &&& (2147483647 : Int32)) % mm)) ∧ Rch p e below (s₁.setTop (entryFrame m #[(.int p1), (.int p2), (.int p3), (.int p4)] maxLocals)) T2 (mkF m 26 #[.val (.int p1), .val (.int p2), .val (.int p3), .val (.int p4), .val (.int mm), .val (.int nn), .unset, .unset, .unset, .unset, .unset, .unset, .unset, .unset] []) := ⟨_, rfl, k6⟩
  have k8 : Rch p e below (s₁.setTop (entryFrame m #[(.int p1), (.int p2), (.int p3), (.int p4)] maxLocals)) T2 (mkF m 37 #[.val (.int p1), .val (.int p2), .val (.int p3), .val (.int p4), .val (.int mm), .val (.int nn), .val (.int ((1 : Int32) + ((p3 &&& (2147483647 : Int32)) % mm))), .unset, .unset, .unset, .unset, .unset, .unset, .unset] []) := fun tg kg => by
    refine k7 tg ?_
    show Steps p.tables e below (T2.setTop (mkF m 26 #[.val (.int p1), .val (.int p2), .val (.int p3), .val (.int p4), .val (.int mm), .val (.int nn), .unset, .unset, .unset, .unset, .unset, .unset, .unset, .unset] [])) tg
    refine XS.iconst X2.here hx rfl (hb hby at_26) ?_
    show Steps p.tables e below (T2.setTop (mkF m 27 #[.val (.int p1), .val (.int p2), .val (.int p3), .val (.int p4), .val (.int mm), .val (.int nn), .unset, .unset, .unset, .unset, .unset, .unset, .unset, .unset] [(.int (1 : Int32))])) tg
    refine XS.iloadN X2.here hx rfl (hb hby at_27) rfl ?_
    show Steps p.tables e below (T2.setTop (mkF m 28 #[.val (.int p1), .val (.int p2), .val (.int p3), .val (.int p4), .val (.int mm), .val (.int nn), .unset, .unset, .unset, .unset, .unset, .unset, .unset, .unset] [(.int p3), (.int (1 : Int32))])) tg
    refine X2.ldcInt hx hown (mvT hZ (hw _ (List.mem_of_getElem? (i := 0) rfl))) (g := (mkF m 28 #[.val (.int p1), .val (.int p2), .val (.int p3), .val (.int p4), .val (.int mm), .val (.int nn), .unset, .unset, .unset, .unset, .unset, .unset, .unset, .unset] [(.int p3), (.int (1 : Int32))])) rfl (hb hby at_28) _ ?_
    show Steps p.tables e below (T2.setTop (mkF m 30 #[.val (.int p1), .val (.int p2), .val (.int p3), .val (.int p4), .val (.int mm), .val (.int nn), .unset, .unset, .unset, .unset, .unset, .unset, .unset, .unset] [(.int (2147483647 : Int32)), (.int p3), (.int (1 : Int32))])) tg
    refine XS.iand X2.here hx rfl (hb hby at_30) rfl ?_
    show Steps p.tables e below (T2.setTop (mkF m 31 #[.val (.int p1), .val (.int p2), .val (.int p3), .val (.int p4), .val (.int mm), .val (.int nn), .unset, .unset, .unset, .unset, .unset, .unset, .unset, .unset] [(.int (p3 &&& (2147483647 : Int32))), (.int (1 : Int32))])) tg
    refine XS.iload X2.here hx rfl (hb hby at_31) rfl ?_
    show Steps p.tables e below (T2.setTop (mkF m 33 #[.val (.int p1), .val (.int p2), .val (.int p3), .val (.int p4), .val (.int mm), .val (.int nn), .unset, .unset, .unset, .unset, .unset, .unset, .unset, .unset] [(.int mm), (.int (p3 &&& (2147483647 : Int32))), (.int (1 : Int32))])) tg
    refine iremM X2 hx rfl (hb hby at_33) rfl hm0 ?_
    show Steps p.tables e below (T2.setTop (mkF m 34 #[.val (.int p1), .val (.int p2), .val (.int p3), .val (.int p4), .val (.int mm), .val (.int nn), .unset, .unset, .unset, .unset, .unset, .unset, .unset, .unset] [(.int ((p3 &&& (2147483647 : Int32)) % mm)), (.int (1 : Int32))])) tg
    refine XS.iadd X2.here hx rfl (hb hby at_34) rfl ?_
    show Steps p.tables e below (T2.setTop (mkF m 35 #[.val (.int p1), .val (.int p2), .val (.int p3), .val (.int p4), .val (.int mm), .val (.int nn), .unset, .unset, .unset, .unset, .unset, .unset, .unset, .unset] [(.int ((1 : Int32) + ((p3 &&& (2147483647 : Int32)) % mm)))])) tg
    refine XS.istore X2.here hx rfl (hb hby at_35) rfl (l' := #[.val (.int p1), .val (.int p2), .val (.int p3), .val (.int p4), .val (.int mm), .val (.int nn), .val (.int ((1 : Int32) + ((p3 &&& (2147483647 : Int32)) % mm))), .unset, .unset, .unset, .unset, .unset, .unset, .unset]) rfl ?_
    exact kg
  obtain ⟨kk0, hkk0, k9⟩ : ∃ kk0 : Int32, kk0 = ((1 : Int32) + ((p3 &&& (2147483647 : Int32)) % mm)) ∧ Rch p e below (s₁.setTop (entryFrame m #[(.int p1), (.int p2), (.int p3), (.int p4)] maxLocals)) T2 (mkF m 37 #[.val (.int p1), .val (.int p2), .val (.int p3), .val (.int p4), .val (.int mm), .val (.int nn), .val (.int kk0), .unset, .unset, .unset, .unset, .unset, .unset, .unset] []) := ⟨_, rfl, k8⟩
  obtain ⟨n1, n2⟩ : 1 ≤ nn.toInt ∧ nn.toInt ≤ mm.toInt := by rw [hnn]; exact own_nk hm1
  obtain ⟨k1, k2⟩ : 1 ≤ kk0.toInt ∧ kk0.toInt ≤ mm.toInt := by rw [hkk0]; exact own_nk hm1
  have k10 : Rch p e below (s₁.setTop (entryFrame m #[(.int p1), (.int p2), (.int p3), (.int p4)] maxLocals)) T2 (mkF m 41 #[.val (.int p1), .val (.int p2), .val (.int p3), .val (.int p4), .val (.int mm), .val (.int nn), .val (.int kk0), .unset, .unset, .unset, .unset, .unset, .unset, .unset] [(.int mm), (.int nn)]) := fun tg kg => by
    refine k9 tg ?_
    show Steps p.tables e below (T2.setTop (mkF m 37 #[.val (.int p1), .val (.int p2), .val (.int p3), .val (.int p4), .val (.int mm), .val (.int nn), .val (.int kk0), .unset, .unset, .unset, .unset, .unset, .unset, .unset] [])) tg
    refine XS.iload X2.here hx rfl (hb hby at_37) rfl ?_
    show Steps p.tables e below (T2.setTop (mkF m 39 #[.val (.int p1), .val (.int p2), .val (.int p3), .val (.int p4), .val (.int mm), .val (.int nn), .val (.int kk0), .unset, .unset, .unset, .unset, .unset, .unset, .unset] [(.int nn)])) tg
    refine XS.iload X2.here hx rfl (hb hby at_39) rfl ?_
    exact kg
  obtain ⟨v11, T11, h11, Lc11, X11, e11, hQ11, st11⟩ := own_callS X2 hx hZ hown (hw _ (List.mem_of_getElem? (i := 5) rfl)) (hw _ (List.mem_of_getElem? (i := 6) rfl)) (hw _ (List.mem_of_getElem? (i := 7) rfl)) (hw _ (List.mem_of_getElem? (i := 8) rfl)) (by decide) (rm_next l Z a0 hw [] nn mm h0 n0 (by omega) n1 n2) e2' (g := (mkF m 41 #[.val (.int p1), .val (.int p2), .val (.int p3), .val (.int p4), .val (.int mm), .val (.int nn), .val (.int kk0), .unset, .unset, .unset, .unset, .unset, .unset, .unset] [(.int mm), (.int nn)])) rfl (by rw [hml]; rfl) (argsL := [(.int nn), (.int mm)]) (rest := []) rfl (lenOf pd_1 rfl) rfl (W := 0) (by show 2 * 0 + _ ≤ _; exact Nat.le_of_eq rfl) (hb hby at_41) (by decide) (by decide) (by decide) (by decide)
  obtain ⟨rr, rfl, Nq11, hs11, hp11_R⟩ := hQ11
  have N11 := Fr.app N2 Nq11
  have e11' : T11.heap = h0 := e11.trans hs11
  have k12 : Rch p e below (s₁.setTop (entryFrame m #[(.int p1), (.int p2), (.int p3), (.int p4)] maxLocals)) T11 (mkF m 44 #[.val (.int p1), .val (.int p2), .val (.int p3), .val (.int p4), .val (.int mm), .val (.int nn), .val (.int kk0), .unset, .unset, .unset, .unset, .unset, .unset, .unset] [(.int rr)]) := fun tg kg => k10 tg (st11 tg kg)
  obtain ⟨r0, hR⟩ := hp11_R
  have k13 : Rch p e below (s₁.setTop (entryFrame m #[(.int p1), (.int p2), (.int p3), (.int p4)] maxLocals)) T11 (mkF m 48 #[.val (.int p1), .val (.int p2), .val (.int p3), .val (.int p4), .val (.int mm), .val (.int nn), .val (.int kk0), .val (.int rr), .unset, .unset, .unset, .unset, .unset, .unset] [(.int nn)]) := fun tg kg => by
    refine k12 tg ?_
    show Steps p.tables e below (T11.setTop (mkF m 44 #[.val (.int p1), .val (.int p2), .val (.int p3), .val (.int p4), .val (.int mm), .val (.int nn), .val (.int kk0), .unset, .unset, .unset, .unset, .unset, .unset, .unset] [(.int rr)])) tg
    refine XS.istore X11.here hx rfl (hb hby at_44) rfl (l' := #[.val (.int p1), .val (.int p2), .val (.int p3), .val (.int p4), .val (.int mm), .val (.int nn), .val (.int kk0), .val (.int rr), .unset, .unset, .unset, .unset, .unset, .unset]) rfl ?_
    show Steps p.tables e below (T11.setTop (mkF m 46 #[.val (.int p1), .val (.int p2), .val (.int p3), .val (.int p4), .val (.int mm), .val (.int nn), .val (.int kk0), .val (.int rr), .unset, .unset, .unset, .unset, .unset, .unset] [])) tg
    refine XS.iload X11.here hx rfl (hb hby at_46) rfl ?_
    exact kg
  obtain ⟨v14, T14, h14, Lc14, X14, e14, hQ14, st14⟩ := own_callS X11 hx hZ hown (hw _ (List.mem_of_getElem? (i := 9) rfl)) (hw _ (List.mem_of_getElem? (i := 10) rfl)) (hw _ (List.mem_of_getElem? (i := 11) rfl)) (hw _ (List.mem_of_getElem? (i := 12) rfl)) (by decide) (rm_key l Z a0 hw [] nn h0 n0 (by omega) n1) e11' (g := (mkF m 48 #[.val (.int p1), .val (.int p2), .val (.int p3), .val (.int p4), .val (.int mm), .val (.int nn), .val (.int kk0), .val (.int rr), .unset, .unset, .unset, .unset, .unset, .unset] [(.int nn)])) rfl (by rw [hml]; rfl) (argsL := [(.int nn)]) (rest := []) rfl (lenOf pd_2 rfl) rfl (W := 0) (by show 2 * 0 + _ ≤ _; exact Nat.le_of_eq rfl) (hb hby at_48) (by decide) (by decide) (by decide) (by decide)
  obtain ⟨kn, rfl, Nq14, K14, hp14_K⟩ := hQ14
  have N14 := Fr.app N11 Nq14
  have s14 : h0.size ≤ h14.size := K14.1
  have k15 : Rch p e below (s₁.setTop (entryFrame m #[(.int p1), (.int p2), (.int p3), (.int p4)] maxLocals)) T14 (mkF m 51 #[.val (.int p1), .val (.int p2), .val (.int p3), .val (.int p4), .val (.int mm), .val (.int nn), .val (.int kk0), .val (.int rr), .unset, .unset, .unset, .unset, .unset, .unset] [(.long kn)]) := fun tg kg => k13 tg (st14 tg kg)
  have k16 : Rch p e below (s₁.setTop (entryFrame m #[(.int p1), (.int p2), (.int p3), (.int p4)] maxLocals)) T14 (mkF m 55 #[.val (.int p1), .val (.int p2), .val (.int p3), .val (.int p4), .val (.int mm), .val (.int nn), .val (.int kk0), .val (.int rr), .val (.long kn), .second, .unset, .unset, .unset, .unset] [(.int kk0)]) := fun tg kg => by
    refine k15 tg ?_
    show Steps p.tables e below (T14.setTop (mkF m 51 #[.val (.int p1), .val (.int p2), .val (.int p3), .val (.int p4), .val (.int mm), .val (.int nn), .val (.int kk0), .val (.int rr), .unset, .unset, .unset, .unset, .unset, .unset] [(.long kn)])) tg
    refine XS.lstore X14.here hx rfl (hb hby at_51) rfl (l' := #[.val (.int p1), .val (.int p2), .val (.int p3), .val (.int p4), .val (.int mm), .val (.int nn), .val (.int kk0), .val (.int rr), .val (.long kn), .second, .unset, .unset, .unset, .unset]) rfl ?_
    show Steps p.tables e below (T14.setTop (mkF m 53 #[.val (.int p1), .val (.int p2), .val (.int p3), .val (.int p4), .val (.int mm), .val (.int nn), .val (.int kk0), .val (.int rr), .val (.long kn), .second, .unset, .unset, .unset, .unset] [])) tg
    refine XS.iload X14.here hx rfl (hb hby at_53) rfl ?_
    exact kg
  obtain ⟨v17, T17, h17, Lc17, X17, e17, hQ17, st17⟩ := own_callS X14 hx hZ hown (hw _ (List.mem_of_getElem? (i := 9) rfl)) (hw _ (List.mem_of_getElem? (i := 10) rfl)) (hw _ (List.mem_of_getElem? (i := 11) rfl)) (hw _ (List.mem_of_getElem? (i := 12) rfl)) (by decide) (rm_key l Z a0 hw [] kk0 h14 n0 (by omega) k1) e14 (g := (mkF m 55 #[.val (.int p1), .val (.int p2), .val (.int p3), .val (.int p4), .val (.int mm), .val (.int nn), .val (.int kk0), .val (.int rr), .val (.long kn), .second, .unset, .unset, .unset, .unset] [(.int kk0)])) rfl (by rw [hml]; rfl) (argsL := [(.int kk0)]) (rest := []) rfl (lenOf pd_2 rfl) rfl (W := 0) (by show 2 * 0 + _ ≤ _; exact Nat.le_of_eq rfl) (hb hby at_55) (by decide) (by decide) (by decide) (by decide)
  obtain ⟨kk1, rfl, Nq17, K17, hp17_K⟩ := hQ17
  have N17 := Fr.app N14 Nq17
  have s17 : h14.size ≤ h17.size := K17.1
  have k18 : Rch p e below (s₁.setTop (entryFrame m #[(.int p1), (.int p2), (.int p3), (.int p4)] maxLocals)) T17 (mkF m 58 #[.val (.int p1), .val (.int p2), .val (.int p3), .val (.int p4), .val (.int mm), .val (.int nn), .val (.int kk0), .val (.int rr), .val (.long kn), .second, .unset, .unset, .unset, .unset] [(.long kk1)]) := fun tg kg => k16 tg (st17 tg kg)
  have hnkey : ∀ a b : Int64, lcmpW a b < (0 : Int32) ↔ a.toInt < b.toInt := fun a b => by rw [lw_lt, Int64.lt_iff_toInt_lt]
  have k19 : Rch p e below (s₁.setTop (entryFrame m #[(.int p1), (.int p2), (.int p3), (.int p4)] maxLocals)) T17 (mkF m 62 #[.val (.int p1), .val (.int p2), .val (.int p3), .val (.int p4), .val (.int mm), .val (.int nn), .val (.int kk0), .val (.int rr), .val (.long kn), .second, .val (.long kk1), .second, .unset, .unset] [(.int rr)]) := fun tg kg => by
    refine k18 tg ?_
    show Steps p.tables e below (T17.setTop (mkF m 58 #[.val (.int p1), .val (.int p2), .val (.int p3), .val (.int p4), .val (.int mm), .val (.int nn), .val (.int kk0), .val (.int rr), .val (.long kn), .second, .unset, .unset, .unset, .unset] [(.long kk1)])) tg
    refine XS.lstore X17.here hx rfl (hb hby at_58) rfl (l' := #[.val (.int p1), .val (.int p2), .val (.int p3), .val (.int p4), .val (.int mm), .val (.int nn), .val (.int kk0), .val (.int rr), .val (.long kn), .second, .val (.long kk1), .second, .unset, .unset]) rfl ?_
    show Steps p.tables e below (T17.setTop (mkF m 60 #[.val (.int p1), .val (.int p2), .val (.int p3), .val (.int p4), .val (.int mm), .val (.int nn), .val (.int kk0), .val (.int rr), .val (.long kn), .second, .val (.long kk1), .second, .unset, .unset] [])) tg
    refine XS.iload X17.here hx rfl (hb hby at_60) rfl ?_
    exact kg
  by_cases hc62_20 : rr = (0 : Int32)
  · have hr0 : rr.toInt = 0 := by rw [hc62_20]; exact e0
    have hno : ¬ own_key nn.toInt.toNat < own_key kk0.toInt.toNat := by
      rcases hR with ⟨-, q⟩ | ⟨q, -⟩
      · exact q _ (by omega) (by omega)
      · omega
    have k21 : Rch p e below (s₁.setTop (entryFrame m #[(.int p1), (.int p2), (.int p3), (.int p4)] maxLocals)) T17 (mkF m 78 #[.val (.int p1), .val (.int p2), .val (.int p3), .val (.int p4), .val (.int mm), .val (.int nn), .val (.int kk0), .val (.int rr), .val (.long kn), .second, .val (.long kk1), .second, .unset, .unset] [(.int (1 : Int32))]) := fun tg kg => by
      refine k19 tg ?_
      show Steps p.tables e below (T17.setTop (mkF m 62 #[.val (.int p1), .val (.int p2), .val (.int p3), .val (.int p4), .val (.int mm), .val (.int nn), .val (.int kk0), .val (.int rr), .val (.long kn), .second, .val (.long kk1), .second, .unset, .unset] [(.int rr)])) tg
      refine XS.ifNo X17.here hx rfl (hb hby at_62) rfl ((if0 _ _).trans (teq hc62_20).2) ?_
      show Steps p.tables e below (T17.setTop (mkF m 65 #[.val (.int p1), .val (.int p2), .val (.int p3), .val (.int p4), .val (.int mm), .val (.int nn), .val (.int kk0), .val (.int rr), .val (.long kn), .second, .val (.long kk1), .second, .unset, .unset] [])) tg
      refine XS.lload X17.here hx rfl (hb hby at_65) rfl ?_
      show Steps p.tables e below (T17.setTop (mkF m 67 #[.val (.int p1), .val (.int p2), .val (.int p3), .val (.int p4), .val (.int mm), .val (.int nn), .val (.int kk0), .val (.int rr), .val (.long kn), .second, .val (.long kk1), .second, .unset, .unset] [(.long kn)])) tg
      refine XS.lload X17.here hx rfl (hb hby at_67) rfl ?_
      show Steps p.tables e below (T17.setTop (mkF m 69 #[.val (.int p1), .val (.int p2), .val (.int p3), .val (.int p4), .val (.int mm), .val (.int nn), .val (.int kk0), .val (.int rr), .val (.long kn), .second, .val (.long kk1), .second, .unset, .unset] [(.long kk1), (.long kn)])) tg
      refine XS.lcmp X17.here hx rfl (hb hby at_69) rfl ?_
      show Steps p.tables e below (T17.setTop (mkF m 70 #[.val (.int p1), .val (.int p2), .val (.int p3), .val (.int p4), .val (.int mm), .val (.int nn), .val (.int kk0), .val (.int rr), .val (.long kn), .second, .val (.long kk1), .second, .unset, .unset] [(.int (lcmpW kn kk1))])) tg
      refine XS.ifNo X17.here hx rfl (hb hby at_70) rfl ((if0 _ _).trans (flt (fun q => by rw [hnkey] at q; omega)).1) ?_
      show Steps p.tables e below (T17.setTop (mkF m 73 #[.val (.int p1), .val (.int p2), .val (.int p3), .val (.int p4), .val (.int mm), .val (.int nn), .val (.int kk0), .val (.int rr), .val (.long kn), .second, .val (.long kk1), .second, .unset, .unset] [])) tg
      refine XS.iconst X17.here hx rfl (hb hby at_73) ?_
      show Steps p.tables e below (T17.setTop (mkF m 74 #[.val (.int p1), .val (.int p2), .val (.int p3), .val (.int p4), .val (.int mm), .val (.int nn), .val (.int kk0), .val (.int rr), .val (.long kn), .second, .val (.long kk1), .second, .unset, .unset] [(.int (1 : Int32))])) tg
      refine XS.goto X17.here hx rfl (pc0 := 74) (pc' := 78) rfl (hb hby at_74) (by decide) (by decide) ?_
      exact kg
    obtain ⟨fs22, hr22, hrun22, hended22, hW22, hsame22⟩ := X17.leave (v := some (.int (nar .boolean (1 : Int32)))) (fun h => by rw [Bd.returns] at h; cases h)
    refine ⟨_, _, k21 _ ?_, hrun22, hended22, _, _, rfl, ?_, ⟨_, rfl⟩, hW22, hsame22.mono (by decide) (by decide)⟩
    · exact retN X17 hx (t := .boolean) Bd.returns (by simp) (hb hby at_78) hr22
    · show Q_rm0 Z p1 p2 p3 p4 h0 n0 _ T17.heap _
      rw [e17]
      exact ⟨rfl, N17⟩
  · have hr0 : rr.toInt ≠ 0 := fun q => hc62_20 (Int32.toInt_inj.mp (by rw [q, e0]))
    obtain ⟨x1, x2, x3, x4⟩ : 1 ≤ rr.toInt.toNat ∧ rr.toInt.toNat ≤ mm.toInt.toNat ∧ own_key nn.toInt.toNat < own_key rr.toInt.toNat ∧ ∀ k, 1 ≤ k → k ≤ mm.toInt.toNat → ¬ (own_key nn.toInt.toNat < own_key k ∧ own_key k < own_key rr.toInt.toNat) := by
      rcases hR with ⟨q, -⟩ | q
      · omega
      · exact q
    have k23 : Rch p e below (s₁.setTop (entryFrame m #[(.int p1), (.int p2), (.int p3), (.int p4)] maxLocals)) T17 (mkF m 96 #[.val (.int p1), .val (.int p2), .val (.int p3), .val (.int p4), .val (.int mm), .val (.int nn), .val (.int kk0), .val (.int rr), .val (.long kn), .second, .val (.long kk1), .second, .unset, .unset] [(.int rr)]) := fun tg kg => by
      refine k19 tg ?_
      show Steps p.tables e below (T17.setTop (mkF m 62 #[.val (.int p1), .val (.int p2), .val (.int p3), .val (.int p4), .val (.int mm), .val (.int nn), .val (.int kk0), .val (.int rr), .val (.long kn), .second, .val (.long kk1), .second, .unset, .unset] [(.int rr)])) tg
      refine XS.ifYes X17.here hx rfl (pc0 := 62) (pc' := 79) rfl (hb hby at_62) rfl ((if0 _ _).trans (feq hc62_20).2) (by decide) (by decide) ?_
      show Steps p.tables e below (T17.setTop (mkF m 79 #[.val (.int p1), .val (.int p2), .val (.int p3), .val (.int p4), .val (.int mm), .val (.int nn), .val (.int kk0), .val (.int rr), .val (.long kn), .second, .val (.long kk1), .second, .unset, .unset] [])) tg
      refine XS.iload X17.here hx rfl (hb hby at_79) rfl ?_
      show Steps p.tables e below (T17.setTop (mkF m 81 #[.val (.int p1), .val (.int p2), .val (.int p3), .val (.int p4), .val (.int mm), .val (.int nn), .val (.int kk0), .val (.int rr), .val (.long kn), .second, .val (.long kk1), .second, .unset, .unset] [(.int rr)])) tg
      refine XS.iconst X17.here hx rfl (hb hby at_81) ?_
      show Steps p.tables e below (T17.setTop (mkF m 82 #[.val (.int p1), .val (.int p2), .val (.int p3), .val (.int p4), .val (.int mm), .val (.int nn), .val (.int kk0), .val (.int rr), .val (.long kn), .second, .val (.long kk1), .second, .unset, .unset] [(.int (1 : Int32)), (.int rr)])) tg
      refine XS.icmpNo X17.here hx rfl (hb hby at_82) rfl (flt (fun q => by rw [Int32.lt_iff_toInt_lt, e1] at q; omega)).1 ?_
      show Steps p.tables e below (T17.setTop (mkF m 85 #[.val (.int p1), .val (.int p2), .val (.int p3), .val (.int p4), .val (.int mm), .val (.int nn), .val (.int kk0), .val (.int rr), .val (.long kn), .second, .val (.long kk1), .second, .unset, .unset] [])) tg
      refine XS.iload X17.here hx rfl (hb hby at_85) rfl ?_
      show Steps p.tables e below (T17.setTop (mkF m 87 #[.val (.int p1), .val (.int p2), .val (.int p3), .val (.int p4), .val (.int mm), .val (.int nn), .val (.int kk0), .val (.int rr), .val (.long kn), .second, .val (.long kk1), .second, .unset, .unset] [(.int rr)])) tg
      refine XS.iload X17.here hx rfl (hb hby at_87) rfl ?_
      show Steps p.tables e below (T17.setTop (mkF m 89 #[.val (.int p1), .val (.int p2), .val (.int p3), .val (.int p4), .val (.int mm), .val (.int nn), .val (.int kk0), .val (.int rr), .val (.long kn), .second, .val (.long kk1), .second, .unset, .unset] [(.int mm), (.int rr)])) tg
      refine XS.icmpYes X17.here hx rfl (pc0 := 89) (pc' := 94) rfl (hb hby at_89) rfl (flt (fun q => by rw [Int32.lt_iff_toInt_lt] at q; omega)).2.2.2 (by decide) (by decide) ?_
      show Steps p.tables e below (T17.setTop (mkF m 94 #[.val (.int p1), .val (.int p2), .val (.int p3), .val (.int p4), .val (.int mm), .val (.int nn), .val (.int kk0), .val (.int rr), .val (.long kn), .second, .val (.long kk1), .second, .unset, .unset] [])) tg
      refine XS.iload X17.here hx rfl (hb hby at_94) rfl ?_
      exact kg
    obtain ⟨v24, T24, h24, Lc24, X24, e24, hQ24, st24⟩ := own_callS X17 hx hZ hown (hw _ (List.mem_of_getElem? (i := 9) rfl)) (hw _ (List.mem_of_getElem? (i := 10) rfl)) (hw _ (List.mem_of_getElem? (i := 11) rfl)) (hw _ (List.mem_of_getElem? (i := 12) rfl)) (by decide) (rm_key l Z a0 hw [] rr h17 n0 (by omega) (by omega)) e17 (g := (mkF m 96 #[.val (.int p1), .val (.int p2), .val (.int p3), .val (.int p4), .val (.int mm), .val (.int nn), .val (.int kk0), .val (.int rr), .val (.long kn), .second, .val (.long kk1), .second, .unset, .unset] [(.int rr)])) rfl (by rw [hml]; rfl) (argsL := [(.int rr)]) (rest := []) rfl (lenOf pd_2 rfl) rfl (W := 0) (by show 2 * 0 + _ ≤ _; exact Nat.le_of_eq rfl) (hb hby at_96) (by decide) (by decide) (by decide) (by decide)
    obtain ⟨kr, rfl, Nq24, K24, hp24_K⟩ := hQ24
    have N24 := Fr.app N17 Nq24
    have s24 : h17.size ≤ h24.size := K24.1
    have k25 : Rch p e below (s₁.setTop (entryFrame m #[(.int p1), (.int p2), (.int p3), (.int p4)] maxLocals)) T24 (mkF m 99 #[.val (.int p1), .val (.int p2), .val (.int p3), .val (.int p4), .val (.int mm), .val (.int nn), .val (.int kk0), .val (.int rr), .val (.long kn), .second, .val (.long kk1), .second, .unset, .unset] [(.long kr)]) := fun tg kg => k23 tg (st24 tg kg)
    have x5 := x4 kk0.toInt.toNat (by omega) (by omega)
    have k26 : Rch p e below (s₁.setTop (entryFrame m #[(.int p1), (.int p2), (.int p3), (.int p4)] maxLocals)) T24 (mkF m 114 #[.val (.int p1), .val (.int p2), .val (.int p3), .val (.int p4), .val (.int mm), .val (.int nn), .val (.int kk0), .val (.int rr), .val (.long kn), .second, .val (.long kk1), .second, .val (.long kr), .second] [(.int (lcmpW kn kk1))]) := fun tg kg => by
      refine k25 tg ?_
      show Steps p.tables e below (T24.setTop (mkF m 99 #[.val (.int p1), .val (.int p2), .val (.int p3), .val (.int p4), .val (.int mm), .val (.int nn), .val (.int kk0), .val (.int rr), .val (.long kn), .second, .val (.long kk1), .second, .unset, .unset] [(.long kr)])) tg
      refine XS.lstore X24.here hx rfl (hb hby at_99) rfl (l' := #[.val (.int p1), .val (.int p2), .val (.int p3), .val (.int p4), .val (.int mm), .val (.int nn), .val (.int kk0), .val (.int rr), .val (.long kn), .second, .val (.long kk1), .second, .val (.long kr), .second]) rfl ?_
      show Steps p.tables e below (T24.setTop (mkF m 101 #[.val (.int p1), .val (.int p2), .val (.int p3), .val (.int p4), .val (.int mm), .val (.int nn), .val (.int kk0), .val (.int rr), .val (.long kn), .second, .val (.long kk1), .second, .val (.long kr), .second] [])) tg
      refine XS.lload X24.here hx rfl (hb hby at_101) rfl ?_
      show Steps p.tables e below (T24.setTop (mkF m 103 #[.val (.int p1), .val (.int p2), .val (.int p3), .val (.int p4), .val (.int mm), .val (.int nn), .val (.int kk0), .val (.int rr), .val (.long kn), .second, .val (.long kk1), .second, .val (.long kr), .second] [(.long kn)])) tg
      refine XS.lload X24.here hx rfl (hb hby at_103) rfl ?_
      show Steps p.tables e below (T24.setTop (mkF m 105 #[.val (.int p1), .val (.int p2), .val (.int p3), .val (.int p4), .val (.int mm), .val (.int nn), .val (.int kk0), .val (.int rr), .val (.long kn), .second, .val (.long kk1), .second, .val (.long kr), .second] [(.long kr), (.long kn)])) tg
      refine XS.lcmp X24.here hx rfl (hb hby at_105) rfl ?_
      show Steps p.tables e below (T24.setTop (mkF m 106 #[.val (.int p1), .val (.int p2), .val (.int p3), .val (.int p4), .val (.int mm), .val (.int nn), .val (.int kk0), .val (.int rr), .val (.long kn), .second, .val (.long kk1), .second, .val (.long kr), .second] [(.int (lcmpW kn kr))])) tg
      refine XS.ifNo X24.here hx rfl (hb hby at_106) rfl ((if0 _ _).trans (tlt (by rw [hnkey]; omega)).2.1) ?_
      show Steps p.tables e below (T24.setTop (mkF m 109 #[.val (.int p1), .val (.int p2), .val (.int p3), .val (.int p4), .val (.int mm), .val (.int nn), .val (.int kk0), .val (.int rr), .val (.long kn), .second, .val (.long kk1), .second, .val (.long kr), .second] [])) tg
      refine XS.lload X24.here hx rfl (hb hby at_109) rfl ?_
      show Steps p.tables e below (T24.setTop (mkF m 111 #[.val (.int p1), .val (.int p2), .val (.int p3), .val (.int p4), .val (.int mm), .val (.int nn), .val (.int kk0), .val (.int rr), .val (.long kn), .second, .val (.long kk1), .second, .val (.long kr), .second] [(.long kn)])) tg
      refine XS.lload X24.here hx rfl (hb hby at_111) rfl ?_
      show Steps p.tables e below (T24.setTop (mkF m 113 #[.val (.int p1), .val (.int p2), .val (.int p3), .val (.int p4), .val (.int mm), .val (.int nn), .val (.int kk0), .val (.int rr), .val (.long kn), .second, .val (.long kk1), .second, .val (.long kr), .second] [(.long kk1), (.long kn)])) tg
      refine XS.lcmp X24.here hx rfl (hb hby at_113) rfl ?_
      exact kg
    by_cases hc114_27 : (lcmpW kn kk1) < (0 : Int32)
    · have hgg := hc114_27
      rw [hnkey] at hgg
      have k28 : Rch p e below (s₁.setTop (entryFrame m #[(.int p1), (.int p2), (.int p3), (.int p4)] maxLocals)) T24 (mkF m 130 #[.val (.int p1), .val (.int p2), .val (.int p3), .val (.int p4), .val (.int mm), .val (.int nn), .val (.int kk0), .val (.int rr), .val (.long kn), .second, .val (.long kk1), .second, .val (.long kr), .second] [(.int (1 : Int32))]) := fun tg kg => by
        refine k26 tg ?_
        show Steps p.tables e below (T24.setTop (mkF m 114 #[.val (.int p1), .val (.int p2), .val (.int p3), .val (.int p4), .val (.int mm), .val (.int nn), .val (.int kk0), .val (.int rr), .val (.long kn), .second, .val (.long kk1), .second, .val (.long kr), .second] [(.int (lcmpW kn kk1))])) tg
        refine XS.ifNo X24.here hx rfl (hb hby at_114) rfl ((if0 _ _).trans (tlt hc114_27).2.1) ?_
        show Steps p.tables e below (T24.setTop (mkF m 117 #[.val (.int p1), .val (.int p2), .val (.int p3), .val (.int p4), .val (.int mm), .val (.int nn), .val (.int kk0), .val (.int rr), .val (.long kn), .second, .val (.long kk1), .second, .val (.long kr), .second] [])) tg
        refine XS.lload X24.here hx rfl (hb hby at_117) rfl ?_
        show Steps p.tables e below (T24.setTop (mkF m 119 #[.val (.int p1), .val (.int p2), .val (.int p3), .val (.int p4), .val (.int mm), .val (.int nn), .val (.int kk0), .val (.int rr), .val (.long kn), .second, .val (.long kk1), .second, .val (.long kr), .second] [(.long kk1)])) tg
        refine XS.lload X24.here hx rfl (hb hby at_119) rfl ?_
        show Steps p.tables e below (T24.setTop (mkF m 121 #[.val (.int p1), .val (.int p2), .val (.int p3), .val (.int p4), .val (.int mm), .val (.int nn), .val (.int kk0), .val (.int rr), .val (.long kn), .second, .val (.long kk1), .second, .val (.long kr), .second] [(.long kr), (.long kk1)])) tg
        refine XS.lcmp X24.here hx rfl (hb hby at_121) rfl ?_
        show Steps p.tables e below (T24.setTop (mkF m 122 #[.val (.int p1), .val (.int p2), .val (.int p3), .val (.int p4), .val (.int mm), .val (.int nn), .val (.int kk0), .val (.int rr), .val (.long kn), .second, .val (.long kk1), .second, .val (.long kr), .second] [(.int (lcmpW kk1 kr))])) tg
        refine XS.ifNo X24.here hx rfl (hb hby at_122) rfl ((if0 _ _).trans (flt (fun q => by rw [hnkey] at q; omega)).1) ?_
        show Steps p.tables e below (T24.setTop (mkF m 125 #[.val (.int p1), .val (.int p2), .val (.int p3), .val (.int p4), .val (.int mm), .val (.int nn), .val (.int kk0), .val (.int rr), .val (.long kn), .second, .val (.long kk1), .second, .val (.long kr), .second] [])) tg
        refine XS.iconst X24.here hx rfl (hb hby at_125) ?_
        show Steps p.tables e below (T24.setTop (mkF m 126 #[.val (.int p1), .val (.int p2), .val (.int p3), .val (.int p4), .val (.int mm), .val (.int nn), .val (.int kk0), .val (.int rr), .val (.long kn), .second, .val (.long kk1), .second, .val (.long kr), .second] [(.int (1 : Int32))])) tg
        refine XS.goto X24.here hx rfl (pc0 := 126) (pc' := 130) rfl (hb hby at_126) (by decide) (by decide) ?_
        exact kg
      obtain ⟨fs29, hr29, hrun29, hended29, hW29, hsame29⟩ := X24.leave (v := some (.int (nar .boolean (1 : Int32)))) (fun h => by rw [Bd.returns] at h; cases h)
      refine ⟨_, _, k28 _ ?_, hrun29, hended29, _, _, rfl, ?_, ⟨_, rfl⟩, hW29, hsame29.mono (by decide) (by decide)⟩
      · exact retN X24 hx (t := .boolean) Bd.returns (by simp) (hb hby at_130) hr29
      · show Q_rm0 Z p1 p2 p3 p4 h0 n0 _ T24.heap _
        rw [e24]
        exact ⟨rfl, N24⟩
    · have k30 : Rch p e below (s₁.setTop (entryFrame m #[(.int p1), (.int p2), (.int p3), (.int p4)] maxLocals)) T24 (mkF m 130 #[.val (.int p1), .val (.int p2), .val (.int p3), .val (.int p4), .val (.int mm), .val (.int nn), .val (.int kk0), .val (.int rr), .val (.long kn), .second, .val (.long kk1), .second, .val (.long kr), .second] [(.int (1 : Int32))]) := fun tg kg => by
        refine k26 tg ?_
        show Steps p.tables e below (T24.setTop (mkF m 114 #[.val (.int p1), .val (.int p2), .val (.int p3), .val (.int p4), .val (.int mm), .val (.int nn), .val (.int kk0), .val (.int rr), .val (.long kn), .second, .val (.long kk1), .second, .val (.long kr), .second] [(.int (lcmpW kn kk1))])) tg
        refine XS.ifYes X24.here hx rfl (pc0 := 114) (pc' := 125) rfl (hb hby at_114) rfl ((if0 _ _).trans (flt hc114_27).2.1) (by decide) (by decide) ?_
        show Steps p.tables e below (T24.setTop (mkF m 125 #[.val (.int p1), .val (.int p2), .val (.int p3), .val (.int p4), .val (.int mm), .val (.int nn), .val (.int kk0), .val (.int rr), .val (.long kn), .second, .val (.long kk1), .second, .val (.long kr), .second] [])) tg
        refine XS.iconst X24.here hx rfl (hb hby at_125) ?_
        show Steps p.tables e below (T24.setTop (mkF m 126 #[.val (.int p1), .val (.int p2), .val (.int p3), .val (.int p4), .val (.int mm), .val (.int nn), .val (.int kk0), .val (.int rr), .val (.long kn), .second, .val (.long kk1), .second, .val (.long kr), .second] [(.int (1 : Int32))])) tg
        refine XS.goto X24.here hx rfl (pc0 := 126) (pc' := 130) rfl (hb hby at_126) (by decide) (by decide) ?_
        exact kg
      obtain ⟨fs31, hr31, hrun31, hended31, hW31, hsame31⟩ := X24.leave (v := some (.int (nar .boolean (1 : Int32)))) (fun h => by rw [Bd.returns] at h; cases h)
      refine ⟨_, _, k30 _ ?_, hrun31, hended31, _, _, rfl, ?_, ⟨_, rfl⟩, hW31, hsame31.mono (by decide) (by decide)⟩
      · exact retN X24 hx (t := .boolean) Bd.returns (by simp) (hb hby at_130) hr31
      · show Q_rm0 Z p1 p2 p3 p4 h0 n0 _ T24.heap _
        rw [e24]
        exact ⟨rfl, N24⟩
set_option maxRecDepth 65536 in
set_option maxHeartbeats 40000000 in
theorem comes_1 {Post : Tables → Env → Array Value → State → Outcome → State → Prop} (hpost : ∀ tb e args s v u, (limb_1_1.after args s (.returned v) u = true ∧ limb_1_2.after args s (.returned v) u = true ∧ True) → FrameEnd s (.returned v) u (Jvm.fieldLocs frame_1_writes args s ++ Jvm.arrayLocs frame_1_arrays args s ++ Jvm.staticLocs frame_1_statics s) 16 128 → Post tb e args s (.returned v) u) :
    ArmFor flags0 classFile x code maxLocals ret World_1 tables_1 room_1 Calls_1 rest_1 Pre_1 Post := by
  intro l hfl _ _ p e ha hc hk s m args below hf hA hF happ hP
  obtain ⟨hcalls, hrest, hpre⟩ := hP
  obtain ⟨-, -, -, hnamed, -, -, -, hat⟩ := (Spec.applies_iff hf).mp happ
  obtain ⟨hg, hn⟩ := and_e (Cond.before_iff.mp (show (Jvm.Cond.and given_1 narrow_1).before args s = true from hpre))
  obtain ⟨g1, g2⟩ := and_e hg
  obtain ⟨g3, g4⟩ := and_e g2
  obtain ⟨g5, g6⟩ := and_e g4
  obtain ⟨g7, g8⟩ := and_e g6
  obtain ⟨w0, w1, w2, w3, rfl⟩ : ∃ w0 w1 w2 w3 : Value, args = #[w0, w1, w2, w3] := by
    have hs : args.size = 4 := by simpa [Cond.value, given_1] using g1
    obtain ⟨L⟩ := args
    match L, hs with
    | [w0, w1, w2, w3], _ => exact ⟨w0, w1, w2, w3, rfl⟩
  have hw := fun d (hd : d ∈ tables_1) => atoms_spec (ws := Jvm.Cond.code x code maxLocals ret :: tables_1) hat d (List.mem_cons_of_mem _ hd)
  have hfit : Fit s := fun {y c} hc i hi => by
    obtain ⟨ha, rfl⟩ := Array.getElem?_eq_some_iff.mp hc
    have q := List.all_eq_true.mp ((Array.all_eq_true_iff_forall_mem.mp hF) _ (Array.getElem_mem ha)) i (List.mem_range.mpr hi)
    simpa [Array.getElem?_eq_getElem hi] using q
  obtain ⟨i0, ei0⟩ := is_v g3
  obtain rfl : w0 = (.int i0) := Option.some.inj ei0
  obtain ⟨i1, ei1⟩ := is_v g5
  obtain rfl : w1 = (.int i1) := Option.some.inj ei1
  obtain ⟨i2, ei2⟩ := is_v g7
  obtain rfl : w2 = (.int i2) := Option.some.inj ei2
  obtain ⟨i3, ei3⟩ := is_v g8
  obtain rfl : w3 = (.int i3) := Option.some.inj ei3
  obtain ⟨n, o, h1, h2, h3, _, L, rfl, ⟨rfl, N⟩, hq⟩ := rm0 l s _ hw tables_1 i0 i1 i2 i3 s.heap s.heap.size (Nat.le_refl _)  p e ha hc hk s m _ below hf ((Spec.applies_iff_loose hf).mp happ).1 ⟨rfl, State.Warmed39.refl s, rfl⟩ trivial
  refine ⟨n, _, h1, h2, h3, hpost _ _ _ _ _ _ ⟨Cond.after_iff.mpr rfl, Cond.after_iff.mpr (eq_i res_at (Term.int_eval (1)) rfl), trivial⟩ ⟨hq.1, hq.2.1, (hq.2.2.sift fun y hy => Or.inr (N y hy)).mono (by decide) (by decide)⟩⟩
theorem main_1_1 : Claimed_1_1 := comes_1 fun _ _ _ _ _ _ h hF => ⟨h.1, hF⟩
theorem main_1_2 : Claimed_1_2 := comes_1 fun _ _ _ _ _ _ h hF => ⟨h.2.1, hF⟩
end Jvm.Pilot.@@N@@
namespace Jvm.Pilot.@@N@@
open Jvm Jvm.ClassFile Sem Op Lib Jvm.Free Jvm.Stand Jvm.Pilot.@@N@@.Jvm.D
/-! MADE BY PROGRAM (witnessworld.py) out of the Statement's table words and the real class files: 12 classes; the members and pool entries that the words name. The judged class is class 1, her method 1. -/
namespace start1
open Jvm.ClassFile
def u (s : String) : CpInfo := .utf8 (stringToUtf16 s)
/-- a pool by its gaps: so many unusable entries, then the entry; so many at the end -/
def gap : Nat → List CpInfo → List CpInfo
  | 0, r => r
  | n + 1, r => .unusable :: gap n r
def poolList (es : List (Nat × CpInfo)) (last : Nat) : List CpInfo := es.foldr (fun e r => gap e.1 (e.2 :: r)) (gap last [])
def pool (es : List (Nat × CpInfo)) (last : Nat) : Array CpInfo := ⟨poolList es last⟩
def fileOf (pool : Array CpInfo) (this : Nat) (attrs : Array Attribute := #[]) (ms : Array MethodInfo := #[]) (fl : Nat := 33) (sup : Nat := 0) (ifs : Array Nat := #[]) (fds : Array FieldInfo := #[]) : ClassFile where
  minorVersion := 0
  majorVersion := 65
  constantPool := pool
  accessFlags := fl
  thisClass := this
  superClass := sup
  interfaces := ifs
  fields := fds
  methods := ms
  attributes := attrs
def plain (name : String) (sup : Option ClassId) : Class where
  name := name
  kind := .ordinary
  loader := none
  accessFlags := 33
  super := sup
  interfaces := #[]
  cf := none
  fields := #[]
  methods := #[]
  instanceTypes := #[]
  staticTypes := #[]
  resolved := #[]
  callSites := []
  init := .initialized
  statics := none
  mirror := none

def pool0 : Array CpInfo := pool [(5, u "<init>"), (0, u "()V"), (1, .class_ 10), (1, u "java/lang/Object")] 113

def k0m0 : Method := { name := "<init>", desc := "()V", sig := { parameters := [], returnType := none }, accessFlags := 1, code := none }
/-- java/lang/Object -/
def k0 : Class := { plain "java/lang/Object" none with
  accessFlags := 33
  interfaces := #[]
  cf := some (fileOf pool0 8 #[] #[{ accessFlags := 1, nameIndex := 5, descriptorIndex := 6, attributes := #[] }] 33 0 #[] #[])
  fields := #[]
  methods := #[k0m0]
  instanceTypes := #[]
  staticTypes := #[]
  resolved := Array.replicate 124 none
  statics := none }

def pool1 : Array CpInfo := pool [(2, .class_ 4), (1, u "java/lang/Object"), (0, u "<init>"), (0, u "()V"), (0, .integer 2147483647), (0, .methodref 9 10), (0, .class_ 11), (0, .nameAndType 12 13), (0, u "java/lang/Math"), (0, u "max"), (0, u "(II)I"), (0, .methodref 15 16), (0, .class_ 17), (0, .nameAndType 18 13), (0, u "com/example/clerestory/clerestory/builders/Entries"), (0, u "nextByDigits"), (0, .methodref 20 21), (0, .class_ 22), (0, .nameAndType 23 24), (0, u "com/example/clerestory/clerestory/builders/EntriesNextByDigitsPinLaw"), (0, u "key"), (0, u "(I)J"), (0, .integer 100000), (0, .integer 1000000), (0, .integer 10000000), (0, .integer 100000000), (0, .integer 1000000000), (0, .methodref 20 31), (0, .nameAndType 32 33), (0, u "len"), (0, u "(I)I"), (0, .long 10), (1, .long 100), (1, .long 1000), (1, .long 10000), (1, .long 100000), (1, .long 1000000), (1, .long 10000000), (1, .long 100000000), (1, .long 1000000000), (1, .long 16), (3, u "law"), (0, u "(IIII)Z")] 3

def k1m0 : Method := { name := "<init>", desc := "()V", sig := { parameters := [], returnType := none }, accessFlags := 1, code := none }
def k1c1 : Code := { maxStack := 4, maxLocals := 14, code := code, exceptionTable := #[], attributes := #[] }
def k1m1 : Method := { name := "law", desc := "(IIII)Z", sig := { parameters := [.int, .int, .int, .int], returnType := some .boolean }, accessFlags := 9, code := some k1c1 }
def k1c2 : Code := { maxStack := 2, maxLocals := 1, code := method_3_code, exceptionTable := #[], attributes := #[] }
def k1m2 : Method := { name := "len", desc := "(I)I", sig := { parameters := [.int], returnType := some .int }, accessFlags := 10, code := some k1c2 }
def k1c3 : Code := { maxStack := 5, maxLocals := 3, code := method_4_code, exceptionTable := #[], attributes := #[] }
def k1m3 : Method := { name := "key", desc := "(I)J", sig := { parameters := [.int], returnType := some .long }, accessFlags := 10, code := some k1c3 }
/-- com/example/clerestory/clerestory/builders/EntriesNextByDigitsPinLaw -/
def k1 : Class := { plain "com/example/clerestory/clerestory/builders/EntriesNextByDigitsPinLaw" (some 0) with
  accessFlags := 49
  interfaces := #[]
  cf := some (fileOf pool1 20 #[] #[{ accessFlags := 1, nameIndex := 5, descriptorIndex := 6, attributes := #[] }, { accessFlags := 9, nameIndex := 56, descriptorIndex := 57, attributes := #[] }, { accessFlags := 10, nameIndex := 32, descriptorIndex := 33, attributes := #[] }, { accessFlags := 10, nameIndex := 23, descriptorIndex := 24, attributes := #[] }] 49 2 #[] #[])
  fields := #[]
  methods := #[k1m0, k1m1, k1m2, k1m3]
  instanceTypes := #[]
  staticTypes := #[]
  resolved := Array.replicate 61 none
  statics := none }

def pool2 : Array CpInfo := pool [(1, .class_ 2), (0, u "java/lang/Math"), (1, .class_ 6), (1, u "java/lang/Object"), (0, u "<init>"), (0, u "()V"), (89, .class_ 100), (1, u "java/lang/Math$RandomNumberGeneratorHolder"), (71, u "negativeZeroFloatBits"), (0, u "J"), (2, u "negativeZeroDoubleBits"), (21, u "max"), (46, u "$assertionsDisabled"), (0, u "Z"), (88, u "(II)I"), (2, u "twoToTheDoubleScaleDown"), (0, u "D"), (4, u "twoToTheDoubleScaleUp"), (9, u "E"), (3, u "PI"), (2, u "TAU"), (2, u "DEGREES_TO_RADIANS"), (0, u "RADIANS_TO_DEGREES")] 94

def k2m0 : Method := { name := "<init>", desc := "()V", sig := { parameters := [], returnType := none }, accessFlags := 2, code := none }
def k2c1 : Code := { maxStack := 2, maxLocals := 2, code := jdk_29_method_65_code, exceptionTable := #[], attributes := #[] }
def k2m1 : Method := { name := "max", desc := "(II)I", sig := { parameters := [.int, .int], returnType := some .int }, accessFlags := 9, code := some k2c1 }
/-- java/lang/Math -/
def k2 : Class := { plain "java/lang/Math" (some 0) with
  accessFlags := 49
  interfaces := #[]
  cf := some (fileOf pool2 1 #[.nestMembers #[98]] #[{ accessFlags := 2, nameIndex := 7, descriptorIndex := 8, attributes := #[] }, { accessFlags := 9, nameIndex := 198, descriptorIndex := 335, attributes := #[] }] 49 4 #[] #[{ accessFlags := 25, nameIndex := 354, descriptorIndex := 339, attributes := #[] }, { accessFlags := 25, nameIndex := 358, descriptorIndex := 339, attributes := #[] }, { accessFlags := 25, nameIndex := 361, descriptorIndex := 339, attributes := #[] }, { accessFlags := 26, nameIndex := 364, descriptorIndex := 339, attributes := #[] }, { accessFlags := 26, nameIndex := 365, descriptorIndex := 339, attributes := #[] }, { accessFlags := 26, nameIndex := 172, descriptorIndex := 173, attributes := #[] }, { accessFlags := 26, nameIndex := 176, descriptorIndex := 173, attributes := #[] }, { accessFlags := 8, nameIndex := 344, descriptorIndex := 339, attributes := #[] }, { accessFlags := 8, nameIndex := 338, descriptorIndex := 339, attributes := #[] }, { accessFlags := 4120, nameIndex := 245, descriptorIndex := 246, attributes := #[] }])
  fields := #[{ name := "E", type := .double, accessFlags := 25, slot := 0, constantValue := 0 }, { name := "PI", type := .double, accessFlags := 25, slot := 1, constantValue := 0 }, { name := "TAU", type := .double, accessFlags := 25, slot := 2, constantValue := 0 }, { name := "DEGREES_TO_RADIANS", type := .double, accessFlags := 26, slot := 3, constantValue := 0 }, { name := "RADIANS_TO_DEGREES", type := .double, accessFlags := 26, slot := 4, constantValue := 0 }, { name := "negativeZeroFloatBits", type := .long, accessFlags := 26, slot := 5, constantValue := 0 }, { name := "negativeZeroDoubleBits", type := .long, accessFlags := 26, slot := 6, constantValue := 0 }, { name := "twoToTheDoubleScaleUp", type := .double, accessFlags := 8, slot := 7, constantValue := 0 }, { name := "twoToTheDoubleScaleDown", type := .double, accessFlags := 8, slot := 8, constantValue := 0 }, { name := "$assertionsDisabled", type := .boolean, accessFlags := 4120, slot := 9, constantValue := 0 }]
  methods := #[k2m0, k2m1]
  instanceTypes := #[]
  staticTypes := #[.double, .double, .double, .double, .double, .long, .long, .double, .double, .boolean]
  resolved := Array.replicate 460 none
  statics := none }

def pool3 : Array CpInfo := pool [(2, .class_ 4), (1, u "java/lang/Object"), (0, u "<init>"), (0, u "()V"), (55, .class_ 64), (1, u "com/example/clerestory/clerestory/builders/Entries"), (38, u "(II)I"), (16, u "nextByDigits"), (208, u "MAX_COUNT"), (0, u "I"), (2, u "MAX_DIGITS")] 142

def k3m0 : Method := { name := "<init>", desc := "()V", sig := { parameters := [], returnType := none }, accessFlags := 2, code := none }
def k3c1 : Code := { maxStack := 3, maxLocals := 3, code := prog_25_method_14_code, exceptionTable := #[], attributes := #[] }
def k3m1 : Method := { name := "nextByDigits", desc := "(II)I", sig := { parameters := [.int, .int], returnType := some .int }, accessFlags := 8, code := some k3c1 }
/-- com/example/clerestory/clerestory/builders/Entries -/
def k3 : Class := { plain "com/example/clerestory/clerestory/builders/Entries" (some 0) with
  accessFlags := 48
  interfaces := #[]
  cf := some (fileOf pool3 62 #[] #[{ accessFlags := 2, nameIndex := 5, descriptorIndex := 6, attributes := #[] }, { accessFlags := 8, nameIndex := 120, descriptorIndex := 103, attributes := #[] }] 48 2 #[] #[{ accessFlags := 24, nameIndex := 329, descriptorIndex := 330, attributes := #[] }, { accessFlags := 26, nameIndex := 333, descriptorIndex := 330, attributes := #[] }])
  fields := #[{ name := "MAX_COUNT", type := .int, accessFlags := 24, slot := 0, constantValue := 0 }, { name := "MAX_DIGITS", type := .int, accessFlags := 26, slot := 1, constantValue := 0 }]
  methods := #[k3m0, k3m1]
  instanceTypes := #[]
  staticTypes := #[.int, .int]
  resolved := Array.replicate 476 none
  statics := none }

def pool4 : Array CpInfo := pool [(1, u "java/lang/Cloneable"), (0, .class_ 1), (0, u "java/lang/Object"), (0, .class_ 3)] 3

/-- java/lang/Cloneable -/
def k4 : Class := { plain "java/lang/Cloneable" (some 0) with
  accessFlags := 1537
  interfaces := #[]
  cf := some (fileOf pool4 2 #[] #[] 1537 4 #[] #[])
  fields := #[]
  methods := #[]
  instanceTypes := #[]
  staticTypes := #[]
  resolved := Array.replicate 8 none
  statics := none }

def pool5 : Array CpInfo := pool [(1, u "java/io/Serializable"), (0, .class_ 1), (0, u "java/lang/Object"), (0, .class_ 3)] 3

/-- java/io/Serializable -/
def k5 : Class := { plain "java/io/Serializable" (some 0) with
  accessFlags := 1537
  interfaces := #[]
  cf := some (fileOf pool5 2 #[] #[] 1537 4 #[] #[])
  fields := #[]
  methods := #[]
  instanceTypes := #[]
  staticTypes := #[]
  resolved := Array.replicate 8 none
  statics := none }

/-- the primitive byte -/
def k6 : Class := { plain "byte" none with kind := .primitive 'B', accessFlags := 0x411 }
/-- [B -/
def k7 : Class := { plain "[B" (some 0) with kind := .array 6 .byte, interfaces := #[4, 5], accessFlags := 1041 }

/-- the primitive int -/
def k8 : Class := { plain "int" none with kind := .primitive 'I', accessFlags := 0x411 }
/-- [I -/
def k9 : Class := { plain "[I" (some 0) with kind := .array 8 .int, interfaces := #[4, 5], accessFlags := 1041 }

/-- the primitive long -/
def k10 : Class := { plain "long" none with kind := .primitive 'J', accessFlags := 0x411 }
/-- [J -/
def k11 : Class := { plain "[J" (some 0) with kind := .array 10 .long, interfaces := #[4, 5], accessFlags := 1041 }

def heap : Heap := #[]
def classes : Array Class := #[k0, k1, k2, k3, k4, k5, k6, k7, k8, k9, k10, k11]
def interned : List (Array UInt16 × Addr) := []
def slotsUsed : Nat := 0
def theMethod : MethodId := ⟨1, 1⟩
def args0 : Array Value := #[.int 500, .int 37, .int 51, .int 2]
def aboutOver (below : List Frame) : State where
  vm := { classes := classes, interned := interned.toArray }
  heap := heap
  slotsUsed := slotsUsed
  threads := #[{ frames := .invoking theMethod args0 :: below }]
def below0 : List Frame := [.native { method := ⟨0, 0⟩, args := #[] }]
def about1 : State := aboutOver below0
def p0 : Program := .bare "" "" ""
def e0 : Env := launch0.env 0 0 0
theorem w_frames : about1.frames = Frame.invoking theMethod args0 :: below0 := rfl
set_option maxRecDepth 65536 in
theorem w_args : argsFit about1.vm theMethod args0 = true := by decide +kernel
set_option maxRecDepth 65536 in
theorem w_heap : heapFits about1 = true := by decide +kernel
set_option maxRecDepth 65536 in
theorem w_runnable : about1.curStatus? = some .runnable := by decide +kernel
set_option maxRecDepth 65536 in
theorem w_alone : about1.alone = true := by decide +kernel
set_option maxRecDepth 65536 in
theorem w_named : about1.methodNamed? x = some theMethod := by decide +kernel
set_option maxRecDepth 65536 in
theorem w_hears : about1.hears theMethod below0 = true := by decide +kernel
set_option maxRecDepth 65536 in
theorem w_ripe : about1.ripe theMethod args0 below0 = true := by decide +kernel
theorem w_running : about1.status = .running := rfl
set_option maxRecDepth 65536 in
theorem w_room : about1.hasRoom e0.platform room_1 = true :=
  launch0.hasRoom_least _ room_1 (by decide +kernel) (by decide +kernel) (by decide +kernel) (by decide +kernel) (by decide +kernel) (by decide +kernel)
theorem allAtoms_all (ts : List Jvm.Cond) (a : Array Jvm.Value) (st : Jvm.State) : (allAtoms ts).before a st = ts.all (fun c => c.before a st) := by
  induction ts with
  | nil => rfl
  | cons c t ih =>
    show (Jvm.Cond.and c (allAtoms t)).before a st = _
    rw [Jvm.Cond.before_and, ih, List.all_cons]
def words1 : List Jvm.Cond := Jvm.Cond.code x code maxLocals ret :: tables_1
/-- a 'code' word, met by the world's own term for the bytes: nothing is compared byte by byte -/
theorem code_word {y : MethodName} {bytes : ByteArray} {mx : Nat} {rt : Option FieldType} {a : Array Value} {s : State} {m : MethodId} {meth : Method} {c : Code} (h1 : s.methodNamed? y = some m) (h2 : s.vm.method? m = some meth) (h3 : meth.code = some c) (h4 : c.code = bytes)
    (h5 : (c.maxLocals == mx && c.exceptionTable.isEmpty && decide (c.maxStack ≤ mostOperands) && decide (meth.sig.returnType = rt) && !meth.locks && decide (parseMethodDescriptor y.desc = some meth.sig)) = true) : (Jvm.Cond.code y bytes mx rt).before a s = true := by
  simp only [Bool.and_eq_true, beq_iff_eq, Bool.not_eq_true', decide_eq_true_eq] at h5
  obtain ⟨⟨⟨⟨⟨g1, g2⟩, g3⟩, g4⟩, g5⟩, g6⟩ := h5
  simp [Cond.before, Cond.holds, Cond.value, h1, h2, h3, h4, g1, g2, g3, g4, g5, g6]
def isCode : Jvm.Cond → Bool
  | .code _ _ _ _ => true
  | _ => false
theorem all_split {L : List Jvm.Cond} {P : Jvm.Cond → Bool} (h1 : L.all (fun c => isCode c || P c) = true) (h2 : ∀ c ∈ L.filter isCode, P c = true) : L.all P = true := by
  refine List.all_eq_true.mpr fun c hc => ?_
  have h := List.all_eq_true.mp h1 c hc
  rcases Bool.eq_false_or_eq_true (isCode c) with hi | hi
  · exact h2 c (List.mem_filter.mpr ⟨hc, hi⟩)
  · simpa [hi] using h
set_option maxRecDepth 65536 in
theorem w_c0 : (Jvm.Cond.code x code maxLocals ret).before args0 about1 = true := code_word (m := ⟨1, 1⟩) (meth := k1m1) (c := k1c1) (by decide +kernel) rfl rfl rfl (by decide +kernel)
set_option maxRecDepth 65536 in
theorem w_c1 : (Jvm.Cond.code ({ cls := "java/lang/Math", name := "max", desc := "(II)I" } : Jvm.MethodName) jdk_29_method_65_code (2 : Nat) (Option.some Jvm.ClassFile.FieldType.int)).before args0 about1 = true := code_word (m := ⟨2, 1⟩) (meth := k2m1) (c := k2c1) (by decide +kernel) rfl rfl rfl (by decide +kernel)
set_option maxRecDepth 65536 in
theorem w_c2 : (Jvm.Cond.code ({ cls := "com/example/clerestory/clerestory/builders/Entries", name := "nextByDigits", desc := "(II)I" } : Jvm.MethodName) prog_25_method_14_code (3 : Nat) (Option.some Jvm.ClassFile.FieldType.int)).before args0 about1 = true := code_word (m := ⟨3, 1⟩) (meth := k3m1) (c := k3c1) (by decide +kernel) rfl rfl rfl (by decide +kernel)
set_option maxRecDepth 65536 in
theorem w_c3 : (Jvm.Cond.code ({ cls := "com/example/clerestory/clerestory/builders/EntriesNextByDigitsPinLaw", name := "key", desc := "(I)J" } : Jvm.MethodName) method_4_code (3 : Nat) (Option.some Jvm.ClassFile.FieldType.long)).before args0 about1 = true := code_word (m := ⟨1, 3⟩) (meth := k1m3) (c := k1c3) (by decide +kernel) rfl rfl rfl (by decide +kernel)
set_option maxRecDepth 65536 in
theorem w_c4 : (Jvm.Cond.code ({ cls := "com/example/clerestory/clerestory/builders/EntriesNextByDigitsPinLaw", name := "len", desc := "(I)I" } : Jvm.MethodName) method_3_code (1 : Nat) (Option.some Jvm.ClassFile.FieldType.int)).before args0 about1 = true := code_word (m := ⟨1, 2⟩) (meth := k1m2) (c := k1c2) (by decide +kernel) rfl rfl rfl (by decide +kernel)
def codes1 : List Jvm.Cond := [Jvm.Cond.code x code maxLocals ret, Jvm.Cond.code ({ cls := "java/lang/Math", name := "max", desc := "(II)I" } : Jvm.MethodName) jdk_29_method_65_code (2 : Nat) (Option.some Jvm.ClassFile.FieldType.int), Jvm.Cond.code ({ cls := "com/example/clerestory/clerestory/builders/Entries", name := "nextByDigits", desc := "(II)I" } : Jvm.MethodName) prog_25_method_14_code (3 : Nat) (Option.some Jvm.ClassFile.FieldType.int), Jvm.Cond.code ({ cls := "com/example/clerestory/clerestory/builders/EntriesNextByDigitsPinLaw", name := "key", desc := "(I)J" } : Jvm.MethodName) method_4_code (3 : Nat) (Option.some Jvm.ClassFile.FieldType.long), Jvm.Cond.code ({ cls := "com/example/clerestory/clerestory/builders/EntriesNextByDigitsPinLaw", name := "len", desc := "(I)I" } : Jvm.MethodName) method_3_code (1 : Nat) (Option.some Jvm.ClassFile.FieldType.int)]
set_option maxRecDepth 65536 in
theorem codes_eq : words1.filter isCode = codes1 := rfl
theorem w_codes : ∀ c ∈ words1.filter isCode, c.before args0 about1 = true := by
  rw [codes_eq]
  intro c hc
  simp only [codes1, List.mem_cons, List.not_mem_nil, or_false] at hc
  rcases hc with rfl | rfl | rfl | rfl | rfl
  · exact w_c0
  · exact w_c1
  · exact w_c2
  · exact w_c3
  · exact w_c4
set_option maxRecDepth 65536 in
theorem w_t1 : (words1.take 24).all (fun c => isCode c || c.before args0 about1) = true := by decide +kernel
set_option maxRecDepth 65536 in
theorem w_t2 : (words1.drop 24).all (fun c => isCode c || c.before args0 about1) = true := by decide +kernel
theorem w_tables : (allAtoms (Jvm.Cond.code x code maxLocals ret :: tables_1)).before args0 about1 = true := by
  rw [allAtoms_all]
  show words1.all (fun c => c.before args0 about1) = true
  refine all_split ?_ w_codes
  rw [← List.take_append_drop 24 words1, List.all_append, w_t1, w_t2]
  rfl
set_option maxRecDepth 65536 in
theorem w_case : (Jvm.Cond.and given_1 narrow_1).before args0 about1 = true := by decide +kernel
theorem w_applies : (headSpec (Jvm.Cond.code x code maxLocals ret :: tables_1) room_1).applies x e0.platform about1 = true :=
  (Spec.applies_iff w_frames).mpr ⟨w_running, w_runnable, w_alone, w_named, w_hears, w_ripe, w_room, w_tables⟩
theorem atStart : AtStart classFile x code maxLocals ret World_1 tables_1 room_1 Calls_1 rest_1 Pre_1 launch0 p0 e0 about1 theMethod args0 below0 :=
  ⟨lists_1, trivial, launch0.admits_env _ _ _, launch0.least_env, fairChoices_fair.cas, fairChoices_fair.clock, w_frames, w_args, w_heap, w_applies, trivial, trivial, w_case⟩
end start1
theorem witness_1 : WitnessClaimed_1 := ⟨start1.p0, start1.e0, start1.about1, start1.theMethod, start1.args0, start1.below0, start1.atStart⟩
end Jvm.Pilot.@@N@@
