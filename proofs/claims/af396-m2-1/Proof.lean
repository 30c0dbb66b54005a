import JvmDerived
import JvmDerived.Pilot.@@N@@Statement
import JvmDerived.Pilot.@@N@@Code
set_option linter.unusedVariables false
set_option linter.unusedSimpArgs false
namespace Jvm.Pilot.@@N@@
open Jvm Jvm.ClassFile Sem Op Lib Jvm.Free Jvm.Stand Jvm.LawKit Jvm.RoadKit Bundle Jvm.Pilot.@@N@@.Jvm.D
/-- from S0 the run comes to T with the frame g -/
abbrev Rch (p : Program) (e : Env) (below : List Frame) (S0 T : State) (g : JFrame) : Prop := ∀ t, Steps p.tables e below (T.setTop g) t → Steps p.tables e below S0 t
abbrev Con (l : Launch) (Z : State) (y : MethodName) (bytes : ByteArray) (maxL : Nat) (ret : Option FieldType) (ws : List Jvm.Cond) (rm : Room) (as' : Array Value) (h : Heap) (Q : Option Value → Heap → List Loc → Prop) : Prop :=
  MetFree l y (head1 (Jvm.Cond.code y bytes maxL ret :: ws) rm) (fun a U => a = as' ∧ Z.Warmed39 U.vm ∧ U.heap = h) (fun _ _ _ _ _ => True) (fun _ U o U' => ∃ v L, o = .returned v ∧ Q v U'.heap L ∧ FrameEnd U o U' L rm.cells rm.slots)
section OwnKit
variable {p : Program} {l : Launch} {e : Env} {R : Room} {s : State} {m : MethodId} {args : Array Value} {below : List Frame} {meth : Method} {c : Code} {T : State} {locs : List Loc} {cells slots : Nat} {Z : State} {a0 : Array Value} {h : Heap}
theorem own_callS (X : Stand p l e R s m args below meth c T locs cells slots) (hx : p.tables.exec = Jvm.exec) (hZ : Z.Warmed39 s.vm) {own : String} {index : Nat} {y : MethodName} {bytes : ByteArray} {maxL : Nat} {ret : Option FieldType} {rm : Room} {as' : Array Value} {Q : Option Value → Heap → List Loc → Prop}
    (hown : s.vm.findClass own = some m.cls) (w1 : (Cond.methodLink own index y).before a0 Z = true) (w2 : (Cond.static y).before a0 Z = true) (w3 : (Cond.initialized y.cls).before a0 Z = true) (w4 : (Cond.code y bytes maxL ret).before a0 Z = true)
    (hy : y.cls ≠ "java/lang/invoke/MethodHandle" ∧ y.cls ≠ "java/lang/invoke/VarHandle") (hM : Con l Z y bytes maxL ret [] rm as' h Q) (eT : T.heap = h)
    {g : JFrame} (hg : g.method = m) (hsize : g.locals.size = c.maxLocals) {argsL rest : List Value} (has : as' = argsL.toArray) (hlen : ∀ sig, parseMethodDescriptor y.desc = some sig → argsL.length = sig.parameters.length) (hs : g.stack = argsL.reverse ++ rest) {W : Nat} (hW : 2 * g.monitorRoom + (rest.map fun v => v.category).sum ≤ W)
    (hd : decode c.code g.pc = .ok (.invokestatic index, 3)) (hf : rm.frames + 1 ≤ R.frames) (hl : W + (maxL + 11) + rm.locals ≤ R.locals) (hc : cells + rm.cells ≤ R.cells) (hsl : slots + rm.slots ≤ R.slots) :
    ∃ (v : Option Value) (T' : State) (h' : Heap) (Lc : List Loc), Stand p l e R s m args below meth c T' (locs ++ Lc) (cells + rm.cells) (slots + rm.slots) ∧ T'.heap = h' ∧ Q v h' Lc ∧
      ∀ target, Steps p.tables e below (T'.setTop { g with pc := g.pc + 3, stack := v.toList ++ rest }) target → Steps p.tables e below (T.setTop g) target := by
  obtain ⟨v, _, ⟨T', L', k', n'⟩, -, X', ⟨Lc, hQ, hl', hk', hn'⟩, st⟩ := Jvm.LawKit.callS X hx (y := y) hown (mvT hZ w1) (mvT hZ w2) (mvT hZ w3) (mvT hZ w4) hy (backOf (W := W) hM hZ w4 w3 hf hl) hg hsize hlen hs hW hd (fun _ _ => ⟨has.symm, eT, hc, hsl⟩)
  dsimp only [Pt.U, Pt.locs, Pt.cells, Pt.slots] at X' hl' hk' hn' st hQ
  subst hl' hk' hn'
  exact ⟨v, T', _, Lc, X', rfl, hQ, st⟩
theorem own_callV (X : Stand p l e R s m args below meth c T locs cells slots) (hx : p.tables.exec = Jvm.exec) (hZ : Z.Warmed39 s.vm) {own C : String} {index : Nat} {y z : MethodName} {bytes : ByteArray} {maxL : Nat} {ret : Option FieldType} {rm : Room} {as' : Array Value} {Q : Option Value → Heap → List Loc → Prop}
    (hown : s.vm.findClass own = some m.cls) (w1 : (Cond.methodLink own index y).before a0 Z = true) (w2 : (Cond.declares y).before a0 Z = true) (nf : NotFace s y) (w3 : (Cond.selects C y z).before a0 Z = true) (w4 : (Cond.instanceMethod z).before a0 Z = true) (w5 : (Cond.code z bytes maxL ret).before a0 Z = true) (w6 : (Cond.initialized z.cls).before a0 Z = true)
    (hy : y.cls ≠ "java/lang/invoke/MethodHandle" ∧ y.cls ≠ "java/lang/invoke/VarHandle") (hM : Con l Z z bytes maxL ret [] rm as' h Q) (eT : T.heap = h) {a : Addr} (E : Exa Z h a C)
    {g : JFrame} (hg : g.method = m) (hsize : g.locals.size = c.maxLocals) {argsL rest : List Value} (has : as' = (Value.ref a :: argsL).toArray) (hlen : ∀ sig, parseMethodDescriptor y.desc = some sig → argsL.length = sig.parameters.length) (hs : g.stack = argsL.reverse ++ .ref a :: rest) {W : Nat} (hW : 2 * g.monitorRoom + (rest.map fun v => v.category).sum ≤ W)
    (hd : decode c.code g.pc = .ok (.invokevirtual index, 3)) (hf : rm.frames + 1 ≤ R.frames) (hl : W + (maxL + 11) + rm.locals ≤ R.locals) (hc : cells + rm.cells ≤ R.cells) (hsl : slots + rm.slots ≤ R.slots) :
    ∃ (v : Option Value) (T' : State) (h' : Heap) (Lc : List Loc), Stand p l e R s m args below meth c T' (locs ++ Lc) (cells + rm.cells) (slots + rm.slots) ∧ T'.heap = h' ∧ Q v h' Lc ∧
      ∀ target, Steps p.tables e below (T'.setTop { g with pc := g.pc + 3, stack := v.toList ++ rest }) target → Steps p.tables e below (T.setTop g) target := by
  obtain ⟨cq, kq, qa, qb, qc⟩ := isOf hZ eT E
  obtain ⟨v, _, ⟨T', L', k', n'⟩, -, X', ⟨Lc, hQ, hl', hk', hn'⟩, st⟩ := X.virtualBack hx (y := y) (z := z) hown (mvT hZ w1) (mvT hZ w2) nf (mvT hZ w3) (mvT hZ w4) hy (backOf (W := W) hM hZ w5 w6 hf hl) qa qc hg hsize (Steps.refl _) hlen hs hW hd (fun _ _ => ⟨has.symm, eT, hc, hsl⟩)
  dsimp only [Pt.U, Pt.locs, Pt.cells, Pt.slots] at X' hl' hk' hn' st hQ
  subst hl' hk' hn'
  exact ⟨v, T', _, Lc, X', rfl, hQ, fun t k => st.trans k⟩
theorem own_callC (X : Stand p l e R s m args below meth c T locs cells slots) (hx : p.tables.exec = Jvm.exec) (hZ : Z.Warmed39 s.vm) {own : String} {index : Nat} {y : MethodName} {bytes : ByteArray} {maxL : Nat} {rm : Room} {as' : Array Value} {Q : Option Value → Heap → List Loc → Prop} (hy1 : y.name = "<init>")
    (hown : s.vm.findClass own = some m.cls) (w1 : (Cond.methodLink own index y).before a0 Z = true) (w2 : (Cond.instanceMethod y).before a0 Z = true) (w3 : (Cond.initialized y.cls).before a0 Z = true) (w4 : (Cond.code y bytes maxL none).before a0 Z = true)
    (hy : y.cls ≠ "java/lang/invoke/MethodHandle" ∧ y.cls ≠ "java/lang/invoke/VarHandle") (hM : Con l Z y bytes maxL none [] rm as' h Q) (eT : T.heap = h) {a : Addr}
    {g : JFrame} (hg : g.method = m) (hsize : g.locals.size = c.maxLocals) {argsL rest : List Value} (has : as' = (Value.ref a :: argsL).toArray) (hlen : ∀ sig, parseMethodDescriptor y.desc = some sig → argsL.length = sig.parameters.length) (hs : g.stack = argsL.reverse ++ .ref a :: rest) {W : Nat} (hW : 2 * g.monitorRoom + (rest.map fun v => v.category).sum ≤ W)
    (hd : decode c.code g.pc = .ok (.invokespecial index, 3)) (hf : rm.frames + 1 ≤ R.frames) (hl : W + (maxL + 11) + rm.locals ≤ R.locals) (hc : cells + rm.cells ≤ R.cells) (hsl : slots + rm.slots ≤ R.slots) :
    ∃ (v : Option Value) (T' : State) (h' : Heap) (Lc : List Loc), Stand p l e R s m args below meth c T' (locs ++ Lc) (cells + rm.cells) (slots + rm.slots) ∧ T'.heap = h' ∧ Q v h' Lc ∧
      ∀ target, Steps p.tables e below (T'.setTop { g with pc := g.pc + 3, stack := v.toList ++ rest }) target → Steps p.tables e below (T.setTop g) target := by
  obtain ⟨v, _, ⟨T', L', k', n'⟩, -, X', ⟨Lc, hQ, hl', hk', hn'⟩, st⟩ := X.specialBack hx (y := y) hy1 hown (mvT hZ w1) (mvT hZ w2) (mvT hZ w4) hy (backOf (W := W) hM hZ w4 w3 hf hl) hg hsize (Steps.refl _) (a := a) hlen hs hW hd (fun _ _ => ⟨has.symm, eT, hc, hsl⟩)
  dsimp only [Pt.U, Pt.locs, Pt.cells, Pt.slots] at X' hl' hk' hn' st hQ
  subst hl' hk' hn'
  exact ⟨v, T', _, Lc, X', rfl, hQ, fun t k => st.trans k⟩
theorem own_callU (X : Stand p l e R s m args below meth c T locs cells slots) (hx : p.tables.exec = Jvm.exec) (hZ : Z.Warmed39 s.vm) {own C owner : String} {index : Nat} {x y : MethodName} {bytes : ByteArray} {maxL : Nat} {ret : Option FieldType} {rm : Room} {as' : Array Value} {Q : Option Value → Heap → List Loc → Prop}
    (hown : s.vm.findClass own = some m.cls) (w1 : (Cond.methodLink own index x).before a0 Z = true) (w2 : (Cond.sameMethod x.cls owner x.name x.desc).before a0 Z = true) (w2' : (Cond.declares ⟨owner, x.name, x.desc⟩).before a0 Z = true) (hy : owner ≠ "java/lang/invoke/MethodHandle" ∧ owner ≠ "java/lang/invoke/VarHandle") (w3 : (Cond.selects C x y).before a0 Z = true) (w4 : (Cond.instanceMethod y).before a0 Z = true) (w5 : (Cond.code y bytes maxL ret).before a0 Z = true) (w6 : (Cond.initialized y.cls).before a0 Z = true)
    (hM : Con l Z y bytes maxL ret [] rm as' h Q) (eT : T.heap = h) {a : Addr} (E : Exa Z h a C)
    {g : JFrame} (hg : g.method = m) (hsize : g.locals.size = c.maxLocals) {argsL rest : List Value} (has : as' = (Value.ref a :: argsL).toArray) (hlen : ∀ sig, parseMethodDescriptor x.desc = some sig → argsL.length = sig.parameters.length) (hs : g.stack = argsL.reverse ++ .ref a :: rest) {W : Nat} (hW : 2 * g.monitorRoom + (rest.map fun v => v.category).sum ≤ W)
    (hd : decode c.code g.pc = .ok (.invokevirtual index, 3)) (hf : rm.frames + 1 ≤ R.frames) (hl : W + (maxL + 11) + rm.locals ≤ R.locals) (hc : cells + rm.cells ≤ R.cells) (hsl : slots + rm.slots ≤ R.slots) :
    ∃ (v : Option Value) (T' : State) (h' : Heap) (Lc : List Loc), Stand p l e R s m args below meth c T' (locs ++ Lc) (cells + rm.cells) (slots + rm.slots) ∧ T'.heap = h' ∧ Q v h' Lc ∧
      ∀ target, Steps p.tables e below (T'.setTop { g with pc := g.pc + 3, stack := v.toList ++ rest }) target → Steps p.tables e below (T.setTop g) target := by
  obtain ⟨cq, kq, qa, qb, qc⟩ := isOf hZ eT E
  obtain ⟨v, _, ⟨T', L', k', n'⟩, -, X', ⟨Lc, hQ, hl', hk', hn'⟩, st⟩ := X.virtualBackUp hx (x := x) (y := y) hown (mvT hZ w1) (mvT hZ w2) (mvT hZ w2') hy (mvT hZ w3) (mvT hZ w4) (backOf (W := W) hM hZ w5 w6 hf hl) qa qc hg hsize (Steps.refl _) hlen hs hW hd (fun _ _ => ⟨has.symm, eT, hc, hsl⟩)
  dsimp only [Pt.U, Pt.locs, Pt.cells, Pt.slots] at X' hl' hk' hn' st hQ
  subst hl' hk' hn'
  exact ⟨v, T', _, Lc, X', rfl, hQ, fun t k => st.trans k⟩
theorem own_ne {a b : Nat} (h : a < b ∨ b < a) : a ≠ b := by omega
theorem own_ltN {a b : Nat} (h : a < b) : a < b := h
theorem own_neN {a b : Nat} (h : a ≠ b) : a ≠ b := h
theorem own_fldL {args : Array Value} {t : Term} {a : Addr} {C n d : String} {k : Int64} (ev : t.eval args Z none [] Z = some (.ref a)) (q : (Cond.eq (.field t C n d) (.long k)).value args Z none Z [] = some true) : Fld Z Z.heap a C n d (.long k) := by
  apply Fld.start
  cases hv : Z.fieldOf? a C n d with
  | none => simp [Cond.value, fld_at ev, hv] at q
  | some v => cases v <;> simp only [Cond.value, fld_at ev, hv, long_at] at q <;> simp at q <;> subst q <;> rfl
theorem own_fldI {args : Array Value} {t : Term} {a : Addr} {C n d : String} {k : Int32} (ev : t.eval args Z none [] Z = some (.ref a)) (q : (Cond.eq (.field t C n d) (.int k)).value args Z none Z [] = some true) : Fld Z Z.heap a C n d (.int k) := by
  apply Fld.start
  cases hv : Z.fieldOf? a C n d with
  | none => simp [Cond.value, fld_at ev, hv] at q
  | some v => cases v <;> simp only [Cond.value, fld_at ev, hv, Term.int_eval] at q <;> simp at q <;> subst q <;> rfl
variable {vm0 : Vm}
abbrev ConW (l : Launch) (Z : State) (y : MethodName) (bytes : ByteArray) (maxL : Nat) (ret : Option FieldType) (ws : List Jvm.Cond) (rm : Room) (as' : Array Value) (h : Heap) (Q : Option Value → Heap → List Loc → Prop) : Prop :=
  MetFree l y (head1 (Jvm.Cond.code y bytes maxL ret :: ws) rm) (fun a U => a = as' ∧ Z.Warmed39 U.vm ∧ U.heap = h) (fun _ _ _ _ _ => True) (fun _ U o U' => ∃ v L, o = .returned v ∧ Q v U'.heap L ∧ ReturnedEndW U o U' L rm.cells rm.slots)
theorem own_callSW (X : Stand p l e R (s.setVm vm0) m args below meth c T locs cells slots) (hx : p.tables.exec = Jvm.exec) (hZ : Z.Warmed39 vm0) {own : String} {index : Nat} {y : MethodName} {bytes : ByteArray} {maxL : Nat} {ret : Option FieldType} {rm : Room} {as' : Array Value} {Q : Option Value → Heap → List Loc → Prop}
    (hown : vm0.findClass own = some m.cls) (w1 : (Cond.methodLink own index y).before a0 Z = true) (w2 : (Cond.static y).before a0 Z = true) (w3 : (Cond.initialized y.cls).before a0 Z = true) (w4 : (Cond.code y bytes maxL ret).before a0 Z = true)
    (hy : y.cls ≠ "java/lang/invoke/MethodHandle" ∧ y.cls ≠ "java/lang/invoke/VarHandle") (hM : ConW l Z y bytes maxL ret [] rm as' h Q) (eT : T.heap = h) {k0 : Nat} (hS : s.Since vm0 k0) (hk : k0 ≤ h.size)
    {g : JFrame} (hg : g.method = m) (hsize : g.locals.size = c.maxLocals) {argsL rest : List Value} (has : as' = argsL.toArray) (hlen : ∀ sig, parseMethodDescriptor y.desc = some sig → argsL.length = sig.parameters.length) (hs : g.stack = argsL.reverse ++ rest) {W : Nat} (hW : 2 * g.monitorRoom + (rest.map fun v => v.category).sum ≤ W)
    (hd : decode c.code g.pc = .ok (.invokestatic index, 3)) (hf : rm.frames + 1 ≤ R.frames) (hl : W + (maxL + 11) + rm.locals ≤ R.locals) (hc : cells + rm.cells ≤ R.cells) (hsl : slots + rm.slots ≤ R.slots) :
    ∃ (v : Option Value) (T' : State) (h' : Heap) (Lc : List Loc), Stand p l e R (s.setVm T'.vm) m args below meth c T' (locs ++ Lc) (cells + rm.cells) (slots + rm.slots) ∧ T'.heap = h' ∧ Q v h' Lc ∧ s.Since T'.vm h'.size ∧ Z.Warmed39 T'.vm ∧ T'.vm.findClass own = some m.cls ∧
      ∀ target, Steps p.tables e below (T'.setTop { g with pc := g.pc + 3, stack := v.toList ++ rest }) target → Steps p.tables e below (T.setTop g) target := by
  subst eT
  obtain ⟨v, vm₁, ⟨T', L', k', n'⟩, -, X', hS', hgr, ⟨Lc, hQ, hl', hk', hn'⟩, st⟩ := callSS (s := s.setVm vm0) X hx (y := y) hown (mvT (s := s.setVm vm0) hZ w1) (mvT (s := s.setVm vm0) hZ w2) (mvT (s := s.setVm vm0) hZ w3) (mvT (s := s.setVm vm0) hZ w4) hy (backOfS (s := s.setVm vm0) (W := W) hM hZ w4 w3 hf hl) hg hsize hlen hs hW hd (fun _ _ => ⟨has.symm, rfl, hc, hsl⟩)
  dsimp only [Pt.U, Pt.locs, Pt.cells, Pt.slots] at X' hl' hk' hn' st hQ hS' hgr
  subst hl' hk' hn'
  exact ⟨v, T', _, Lc, X', rfl, hQ, hS.trans hS' (Nat.le_trans hk hgr), State.Warmed39.trans (t := s.setVm vm0) hZ hS'.1, by rw [hS'.1.alike.findClass]; exact hown, fun t k => st.trans k⟩
theorem own_callCW (X : Stand p l e R (s.setVm vm0) m args below meth c T locs cells slots) (hx : p.tables.exec = Jvm.exec) (hZ : Z.Warmed39 vm0) {own : String} {index : Nat} {y : MethodName} {bytes : ByteArray} {maxL : Nat} {rm : Room} {as' : Array Value} {Q : Option Value → Heap → List Loc → Prop} (hy1 : y.name = "<init>")
    (hown : vm0.findClass own = some m.cls) (w1 : (Cond.methodLink own index y).before a0 Z = true) (w2 : (Cond.instanceMethod y).before a0 Z = true) (w3 : (Cond.initialized y.cls).before a0 Z = true) (w4 : (Cond.code y bytes maxL none).before a0 Z = true)
    (hy : y.cls ≠ "java/lang/invoke/MethodHandle" ∧ y.cls ≠ "java/lang/invoke/VarHandle") (hM : ConW l Z y bytes maxL none [] rm as' h Q) (eT : T.heap = h) {k0 : Nat} (hS : s.Since vm0 k0) (hk : k0 ≤ h.size) {a : Addr}
    {g : JFrame} (hg : g.method = m) (hsize : g.locals.size = c.maxLocals) {argsL rest : List Value} (has : as' = (Value.ref a :: argsL).toArray) (hlen : ∀ sig, parseMethodDescriptor y.desc = some sig → argsL.length = sig.parameters.length) (hs : g.stack = argsL.reverse ++ .ref a :: rest) {W : Nat} (hW : 2 * g.monitorRoom + (rest.map fun v => v.category).sum ≤ W)
    (hd : decode c.code g.pc = .ok (.invokespecial index, 3)) (hf : rm.frames + 1 ≤ R.frames) (hl : W + (maxL + 11) + rm.locals ≤ R.locals) (hc : cells + rm.cells ≤ R.cells) (hsl : slots + rm.slots ≤ R.slots) :
    ∃ (v : Option Value) (T' : State) (h' : Heap) (Lc : List Loc), Stand p l e R (s.setVm T'.vm) m args below meth c T' (locs ++ Lc) (cells + rm.cells) (slots + rm.slots) ∧ T'.heap = h' ∧ Q v h' Lc ∧ s.Since T'.vm h'.size ∧ Z.Warmed39 T'.vm ∧ T'.vm.findClass own = some m.cls ∧
      ∀ target, Steps p.tables e below (T'.setTop { g with pc := g.pc + 3, stack := v.toList ++ rest }) target → Steps p.tables e below (T.setTop g) target := by
  subst eT
  obtain ⟨v, vm₁, ⟨T', L', k', n'⟩, -, X', hS', hgr, ⟨Lc, hQ, hl', hk', hn'⟩, st⟩ := Jvm.Stand.specialBackS (s := s.setVm vm0) X hx (y := y) hy1 hown (mvT (s := s.setVm vm0) hZ w1) (mvT (s := s.setVm vm0) hZ w2) (mvT (s := s.setVm vm0) hZ w4) hy (backOfS (s := s.setVm vm0) (W := W) hM hZ w4 w3 hf hl) hg hsize (Steps.refl _) (a := a) hlen hs hW hd (fun _ _ => ⟨has.symm, rfl, hc, hsl⟩)
  dsimp only [Pt.U, Pt.locs, Pt.cells, Pt.slots] at X' hl' hk' hn' st hQ hS' hgr
  subst hl' hk' hn'
  exact ⟨v, T', _, Lc, X', rfl, hQ, hS.trans hS' (Nat.le_trans hk hgr), State.Warmed39.trans (t := s.setVm vm0) hZ hS'.1, by rw [hS'.1.alike.findClass]; exact hown, fun t k => st.trans k⟩
theorem own_callVW (X : Stand p l e R (s.setVm vm0) m args below meth c T locs cells slots) (hx : p.tables.exec = Jvm.exec) (hZ : Z.Warmed39 vm0) {own C : String} {index : Nat} {y z : MethodName} {bytes : ByteArray} {maxL : Nat} {ret : Option FieldType} {rm : Room} {as' : Array Value} {Q : Option Value → Heap → List Loc → Prop}
    (hown : vm0.findClass own = some m.cls) (w1 : (Cond.methodLink own index y).before a0 Z = true) (w2 : (Cond.declares y).before a0 Z = true) (nf : NotFace (s.setVm vm0) y) (w3 : (Cond.selects C y z).before a0 Z = true) (w4 : (Cond.instanceMethod z).before a0 Z = true) (w5 : (Cond.code z bytes maxL ret).before a0 Z = true) (w6 : (Cond.initialized z.cls).before a0 Z = true)
    (hy : y.cls ≠ "java/lang/invoke/MethodHandle" ∧ y.cls ≠ "java/lang/invoke/VarHandle") (hM : ConW l Z z bytes maxL ret [] rm as' h Q) (eT : T.heap = h) {k0 : Nat} (hS : s.Since vm0 k0) (hk : k0 ≤ h.size) {a : Addr} (E : Exa Z h a C)
    {g : JFrame} (hg : g.method = m) (hsize : g.locals.size = c.maxLocals) {argsL rest : List Value} (has : as' = (Value.ref a :: argsL).toArray) (hlen : ∀ sig, parseMethodDescriptor y.desc = some sig → argsL.length = sig.parameters.length) (hs : g.stack = argsL.reverse ++ .ref a :: rest) {W : Nat} (hW : 2 * g.monitorRoom + (rest.map fun v => v.category).sum ≤ W)
    (hd : decode c.code g.pc = .ok (.invokevirtual index, 3)) (hf : rm.frames + 1 ≤ R.frames) (hl : W + (maxL + 11) + rm.locals ≤ R.locals) (hc : cells + rm.cells ≤ R.cells) (hsl : slots + rm.slots ≤ R.slots) :
    ∃ (v : Option Value) (T' : State) (h' : Heap) (Lc : List Loc), Stand p l e R (s.setVm T'.vm) m args below meth c T' (locs ++ Lc) (cells + rm.cells) (slots + rm.slots) ∧ T'.heap = h' ∧ Q v h' Lc ∧ s.Since T'.vm h'.size ∧ Z.Warmed39 T'.vm ∧ T'.vm.findClass own = some m.cls ∧
      ∀ target, Steps p.tables e below (T'.setTop { g with pc := g.pc + 3, stack := v.toList ++ rest }) target → Steps p.tables e below (T.setTop g) target := by
  subst eT
  obtain ⟨cq, kq, qa, qb, qc⟩ := isOf (s := s.setVm vm0) hZ rfl E
  obtain ⟨v, vm₁, ⟨T', L', k', n'⟩, -, X', hS', hgr, ⟨Lc, hQ, hl', hk', hn'⟩, st⟩ := Jvm.Stand.virtualBackS (s := s.setVm vm0) X hx (y := y) (z := z) hown (mvT (s := s.setVm vm0) hZ w1) (mvT (s := s.setVm vm0) hZ w2) nf (mvT (s := s.setVm vm0) hZ w3) (mvT (s := s.setVm vm0) hZ w4) hy (backOfS (s := s.setVm vm0) (W := W) hM hZ w5 w6 hf hl) qa qc hg hsize (Steps.refl _) hlen hs hW hd (fun _ _ => ⟨has.symm, rfl, hc, hsl⟩)
  dsimp only [Pt.U, Pt.locs, Pt.cells, Pt.slots] at X' hl' hk' hn' st hQ hS' hgr
  subst hl' hk' hn'
  exact ⟨v, T', _, Lc, X', rfl, hQ, hS.trans hS' (Nat.le_trans hk hgr), State.Warmed39.trans (t := s.setVm vm0) hZ hS'.1, by rw [hS'.1.alike.findClass]; exact hown, fun t k => st.trans k⟩
theorem own_callCB (X : Stand p l e R s m args below meth c T locs cells slots) (hx : p.tables.exec = Jvm.exec) (hZ : Z.Warmed39 s.vm) {own : String} {index : Nat} {y : MethodName} {bytes : ByteArray} {maxL kc ks : Nat} {as' : Array Value} {Q : Option Value → Heap → List Loc → Prop} (hy1 : y.name = "<init>")
    (hown : s.vm.findClass own = some m.cls) (w1 : (Cond.methodLink own index y).before a0 Z = true) (w2 : (Cond.instanceMethod y).before a0 Z = true) (w4 : (Cond.code y bytes maxL none).before a0 Z = true)
    (hy : y.cls ≠ "java/lang/invoke/MethodHandle" ∧ y.cls ≠ "java/lang/invoke/VarHandle") {W : Nat} (hK : Back l R p e below s args y 3 W (fun A a => a = as' ∧ A.U.heap = h ∧ A.cells + kc ≤ R.cells ∧ A.slots + ks ≤ R.slots) (fun A _ v B => ∃ L, Q v B.U.heap L ∧ B.locs = A.locs ++ L ∧ B.cells = A.cells + kc ∧ B.slots = A.slots + ks)) (eT : T.heap = h) {a : Addr}
    {g : JFrame} (hg : g.method = m) (hsize : g.locals.size = c.maxLocals) {argsL rest : List Value} (has : as' = (Value.ref a :: argsL).toArray) (hlen : ∀ sig, parseMethodDescriptor y.desc = some sig → argsL.length = sig.parameters.length) (hs : g.stack = argsL.reverse ++ .ref a :: rest) (hW : 2 * g.monitorRoom + (rest.map fun v => v.category).sum ≤ W)
    (hd : decode c.code g.pc = .ok (.invokespecial index, 3)) (hc : cells + kc ≤ R.cells) (hsl : slots + ks ≤ R.slots) :
    ∃ (v : Option Value) (T' : State) (h' : Heap) (Lc : List Loc), Stand p l e R s m args below meth c T' (locs ++ Lc) (cells + kc) (slots + ks) ∧ T'.heap = h' ∧ Q v h' Lc ∧
      ∀ target, Steps p.tables e below (T'.setTop { g with pc := g.pc + 3, stack := v.toList ++ rest }) target → Steps p.tables e below (T.setTop g) target := by
  obtain ⟨v, _, ⟨T', L', k', n'⟩, -, X', ⟨Lc, hQ, hl', hk', hn'⟩, st⟩ := X.specialBack hx (y := y) hy1 hown (mvT hZ w1) (mvT hZ w2) (mvT hZ w4) hy hK hg hsize (Steps.refl _) (a := a) hlen hs hW hd (fun _ _ => ⟨has.symm, eT, hc, hsl⟩)
  dsimp only [Pt.U, Pt.locs, Pt.cells, Pt.slots] at X' hl' hk' hn' st hQ
  subst hl' hk' hn'
  exact ⟨v, T', _, Lc, X', rfl, hQ, fun t k => st.trans k⟩
theorem own_callVB (X : Stand p l e R s m args below meth c T locs cells slots) (hx : p.tables.exec = Jvm.exec) (hZ : Z.Warmed39 s.vm) {own C : String} {index kc ks : Nat} {y z : MethodName} {as' : Array Value} {Q : Option Value → Heap → List Loc → Prop}
    (hown : s.vm.findClass own = some m.cls) (w1 : (Cond.methodLink own index y).before a0 Z = true) (w2 : (Cond.declares y).before a0 Z = true) (nf : NotFace s y) (w3 : (Cond.selects C y z).before a0 Z = true) (w4 : (Cond.instanceMethod z).before a0 Z = true)
    (hy : y.cls ≠ "java/lang/invoke/MethodHandle" ∧ y.cls ≠ "java/lang/invoke/VarHandle") {W : Nat} (hK : Back l R p e below s args z 3 W (fun A a => a = as' ∧ A.U.heap = h ∧ A.cells + kc ≤ R.cells ∧ A.slots + ks ≤ R.slots) (fun A _ v B => ∃ L, Q v B.U.heap L ∧ B.locs = A.locs ++ L ∧ B.cells = A.cells + kc ∧ B.slots = A.slots + ks)) (eT : T.heap = h) {a : Addr} (E : Exa Z h a C)
    {g : JFrame} (hg : g.method = m) (hsize : g.locals.size = c.maxLocals) {argsL rest : List Value} (has : as' = (Value.ref a :: argsL).toArray) (hlen : ∀ sig, parseMethodDescriptor y.desc = some sig → argsL.length = sig.parameters.length) (hs : g.stack = argsL.reverse ++ .ref a :: rest) (hW : 2 * g.monitorRoom + (rest.map fun v => v.category).sum ≤ W)
    (hd : decode c.code g.pc = .ok (.invokevirtual index, 3)) (hc : cells + kc ≤ R.cells) (hsl : slots + ks ≤ R.slots) :
    ∃ (v : Option Value) (T' : State) (h' : Heap) (Lc : List Loc), Stand p l e R s m args below meth c T' (locs ++ Lc) (cells + kc) (slots + ks) ∧ T'.heap = h' ∧ Q v h' Lc ∧
      ∀ target, Steps p.tables e below (T'.setTop { g with pc := g.pc + 3, stack := v.toList ++ rest }) target → Steps p.tables e below (T.setTop g) target := by
  obtain ⟨cq, kq, qa, qb, qc⟩ := isOf hZ eT E
  obtain ⟨v, _, ⟨T', L', k', n'⟩, -, X', ⟨Lc, hQ, hl', hk', hn'⟩, st⟩ := X.virtualBack hx (y := y) (z := z) hown (mvT hZ w1) (mvT hZ w2) nf (mvT hZ w3) (mvT hZ w4) hy hK qa qc hg hsize (Steps.refl _) hlen hs hW hd (fun _ _ => ⟨has.symm, eT, hc, hsl⟩)
  dsimp only [Pt.U, Pt.locs, Pt.cells, Pt.slots] at X' hl' hk' hn' st hQ
  subst hl' hk' hn'
  exact ⟨v, T', _, Lc, X', rfl, hQ, fun t k => st.trans k⟩
theorem own_more {cells' slots' : Nat} (X : Stand p l e R s m args below meth c T locs cells slots) (h1 : cells ≤ cells') (h2 : slots ≤ slots') : Stand p l e R s m args below meth c T locs cells' slots' := { X with same := X.same.mono h1 h2 }
theorem own_arrKeep {h h' : Heap} {a : Addr} {cl : Cell} {ty : FieldType} {ws : List Addr} (A : Arr Z h a cl ty) (K : Keep h h' ws) (q : a ∉ ws) : Arr Z h' a cl ty := ⟨K.2.1 a cl A.1 q, A.2⟩
end OwnKit
section OwnPriv
variable {p : Program} {l : Launch} {e : Env} {R : Room} {s : State} {m : MethodId} {args : Array Value} {below : List Frame} {meth : Method} {c : Code} {T : State} {locs : List Loc} {cells slots : Nat} {Z : State} {a0 : Array Value} {h : Heap}
/-- a private method by invokevirtual: its 'selects' comes of privateMethod and instantiable -/
theorem own_callP (X : Stand p l e R s m args below meth c T locs cells slots) (hx : p.tables.exec = Jvm.exec) (hZ : Z.Warmed39 s.vm) {own : String} {index kI : Nat} {y : MethodName} {bytes : ByteArray} {maxL : Nat} {ret : Option FieldType} {rm : Room} {as' : Array Value} {Q : Option Value → Heap → List Loc → Prop}
    (hown : s.vm.findClass own = some m.cls) (w1 : (Cond.methodLink own index y).before a0 Z = true) (w2 : (Cond.instanceMethod y).before a0 Z = true) (wp : (Cond.privateMethod y).before a0 Z = true) (wi : (Cond.instantiable y.cls kI).before a0 Z = true) (w3 : (Cond.initialized y.cls).before a0 Z = true) (w4 : (Cond.code y bytes maxL ret).before a0 Z = true)
    (hy : y.cls ≠ "java/lang/invoke/MethodHandle" ∧ y.cls ≠ "java/lang/invoke/VarHandle") (hM : Con l Z y bytes maxL ret [] rm as' h Q) (eT : T.heap = h) {a : Addr} {C : String} (E : Exa Z h a C)
    {g : JFrame} (hg : g.method = m) (hsize : g.locals.size = c.maxLocals) {argsL rest : List Value} (has : as' = (Value.ref a :: argsL).toArray) (hlen : ∀ sig, parseMethodDescriptor y.desc = some sig → argsL.length = sig.parameters.length) (hs : g.stack = argsL.reverse ++ .ref a :: rest) {W : Nat} (hW : 2 * g.monitorRoom + (rest.map fun v => v.category).sum ≤ W)
    (hd : decode c.code g.pc = .ok (.invokevirtual index, 3)) (hf : rm.frames + 1 ≤ R.frames) (hl : W + (maxL + 11) + rm.locals ≤ R.locals) (hc : cells + rm.cells ≤ R.cells) (hsl : slots + rm.slots ≤ R.slots) :
    ∃ (v : Option Value) (T' : State) (h' : Heap) (Lc : List Loc), Stand p l e R s m args below meth c T' (locs ++ Lc) (cells + rm.cells) (slots + rm.slots) ∧ T'.heap = h' ∧ Q v h' Lc ∧
      ∀ target, Steps p.tables e below (T'.setTop { g with pc := g.pc + 3, stack := v.toList ++ rest }) target → Steps p.tables e below (T.setTop g) target := by
  have hpr : s.PrivateAt y := Cond.privateMethod_at (mvP (s := s) hZ wp (args := args))
  obtain ⟨t, kt, g1, g2, g3, g4, -⟩ := Cond.instantiable_spec (mv (s := s) (args := args) hZ wi)
  have hni : kt.isInterface = false := by revert g4; cases kt.isInterface <;> simp
  have hsel : (Cond.selects y.cls y y).before args s = true := selects_self_of_private g1 g2 hni hpr (mv (s := s) (args := args) hZ w2) hy
  obtain ⟨cell, hcell, hobj⟩ := E.cell
  obtain ⟨v, _, ⟨T', L', k', n'⟩, -, X', ⟨Lc, hQ, hl', hk', hn'⟩, st⟩ := X.privateBack hx (y := y) hown (mvT hZ w1) (mvT hZ w2) hsel hpr (mvT hZ w4) hy (backOf (W := W) hM hZ w4 w3 hf hl) hg hsize (Steps.refl _) (a := a) (cell := cell) (by rw [eT]; exact hcell) hobj hlen hs hW hd (fun _ _ => ⟨has.symm, eT, hc, hsl⟩)
  dsimp only [Pt.U, Pt.locs, Pt.cells, Pt.slots] at X' hl' hk' hn' st hQ
  subst hl' hk' hn'
  exact ⟨v, T', _, Lc, X', rfl, hQ, fun t k => st.trans k⟩
end OwnPriv

theorem own_cases {i : Int32} (h0 : 0 ≤ i.toInt) (h1 : i.toInt ≤ 15) : i = (0 : Int32) ∨ i = (1 : Int32) ∨ i = (2 : Int32) ∨ i = (3 : Int32) ∨ i = (4 : Int32) ∨ i = (5 : Int32) ∨ i = (6 : Int32) ∨ i = (7 : Int32) ∨ i = (8 : Int32) ∨ i = (9 : Int32) ∨ i = (10 : Int32) ∨ i = (11 : Int32) ∨ i = (12 : Int32) ∨ i = (13 : Int32) ∨ i = (14 : Int32) ∨ i = (15 : Int32) := by
  have z0 : (0 : Int32).toInt = 0 := by decide
  have z1 : (1 : Int32).toInt = 1 := by decide
  have z2 : (2 : Int32).toInt = 2 := by decide
  have z3 : (3 : Int32).toInt = 3 := by decide
  have z4 : (4 : Int32).toInt = 4 := by decide
  have z5 : (5 : Int32).toInt = 5 := by decide
  have z6 : (6 : Int32).toInt = 6 := by decide
  have z7 : (7 : Int32).toInt = 7 := by decide
  have z8 : (8 : Int32).toInt = 8 := by decide
  have z9 : (9 : Int32).toInt = 9 := by decide
  have z10 : (10 : Int32).toInt = 10 := by decide
  have z11 : (11 : Int32).toInt = 11 := by decide
  have z12 : (12 : Int32).toInt = 12 := by decide
  have z13 : (13 : Int32).toInt = 13 := by decide
  have z14 : (14 : Int32).toInt = 14 := by decide
  have z15 : (15 : Int32).toInt = 15 := by decide
  simp only [← Int32.toInt_inj, z0, z1, z2, z3, z4, z5, z6, z7, z8, z9, z10, z11, z12, z13, z14, z15]
  omega
theorem own_sh16 {i : Int32} (h0 : 0 ≤ i.toInt) (h1 : i.toInt ≤ 15) : ((i.toUInt32 >>> ((16 : Int32) &&& 31).toUInt32).toInt32) = 0 := by
  rcases own_cases h0 h1 with rfl | rfl | rfl | rfl | rfl | rfl | rfl | rfl | rfl | rfl | rfl | rfl | rfl | rfl | rfl | rfl <;> decide
theorem own_m16 {i : Int32} (h0 : 0 ≤ i.toInt) (h1 : i.toInt ≤ 15) : (i &&& (65535 : Int32)) = i := by
  rcases own_cases h0 h1 with rfl | rfl | rfl | rfl | rfl | rfl | rfl | rfl | rfl | rfl | rfl | rfl | rfl | rfl | rfl | rfl <;> decide
theorem own_off {i : Int32} (h0 : 0 ≤ i.toInt) (h1 : i.toInt ≤ 15) : ((i &&& (65535 : Int32)) * (1 : Int32)) = i := by
  rcases own_cases h0 h1 with rfl | rfl | rfl | rfl | rfl | rfl | rfl | rfl | rfl | rfl | rfl | rfl | rfl | rfl | rfl | rfl <;> decide
theorem own_next {i : Int32} (h0 : 0 ≤ i.toInt) (h1 : i.toInt ≤ 15) : (0 ≤ ((i + (1 : Int32)) &&& (15 : Int32)).toInt ∧ ((i + (1 : Int32)) &&& (15 : Int32)).toInt ≤ 15) ∧ ((i + (1 : Int32)) &&& (15 : Int32)).toNatClampNeg = (i.toNatClampNeg + 1) % 16 := by
  rcases own_cases h0 h1 with rfl | rfl | rfl | rfl | rfl | rfl | rfl | rfl | rfl | rfl | rfl | rfl | rfl | rfl | rfl | rfl <;> decide
theorem own_lt16 {i : Int32} (h0 : 0 ≤ i.toInt) (h1 : i.toInt ≤ 15) : i.toNatClampNeg < 16 ∧ ¬ i < 0 ∧ i < (16 : Int32) := by
  rcases own_cases h0 h1 with rfl | rfl | rfl | rfl | rfl | rfl | rfl | rfl | rfl | rfl | rfl | rfl | rfl | rfl | rfl | rfl <;> decide
theorem own_room {i : Int32} (h0 : 0 ≤ i.toInt) (h1 : i.toInt ≤ 7) : ¬ (0 : Int32) < lcmpW ((2 : Int64) * (i + (1 : Int32)).toInt64) (16 : Int64) := by
  have h1' : i.toInt ≤ 15 := by omega
  rcases own_cases h0 h1' with rfl | rfl | rfl | rfl | rfl | rfl | rfl | rfl | rfl | rfl | rfl | rfl | rfl | rfl | rfl | rfl <;> first | decide | (exfalso; revert h1; decide)
theorem own_cap {i : Int32} (h0 : 0 ≤ i.toInt) (h1 : i.toInt ≤ 15) : ¬ (0 : Int32) < lcmpW (i.toInt64 + (1 : Int64)) (2147483639 : Int64) := by
  rcases own_cases h0 h1 with rfl | rfl | rfl | rfl | rfl | rfl | rfl | rfl | rfl | rfl | rfl | rfl | rfl | rfl | rfl | rfl <;> decide
theorem own_p8 {i : Int32} (h0 : 0 ≤ i.toInt) (h1 : i.toInt ≤ 7) : ¬ i < 0 ∧ i < (8 : Int32) ∧ ¬ (8 : Int32) < i + (1 : Int32) ∧ i.toNatClampNeg + 1 ≤ 8 ∧ i + (0 : Int32) = i := by
  have h1' : i.toInt ≤ 15 := by omega
  rcases own_cases h0 h1' with rfl | rfl | rfl | rfl | rfl | rfl | rfl | rfl | rfl | rfl | rfl | rfl | rfl | rfl | rfl | rfl <;> first | decide | (exfalso; revert h1; decide)
theorem own_first (x : Int32) : 0 ≤ (x &&& (15 : Int32)).toInt ∧ (x &&& (15 : Int32)).toInt ≤ 15 := by
  have q := c_and x 15 (by decide)
  have e : (15 : Int32).toInt = 15 := by decide
  exact ⟨by omega, by omega⟩
def own_tab (ts : List Int32) (n : Int32) : Prop := ts.length = 16 ∧ (∀ t ∈ ts, 0 ≤ t.toInt ∧ t.toInt ≤ n.toInt) ∧ ((ts.countP (fun t => t != 0) : Nat) : Int) ≤ n.toInt
theorem own_tab_start : own_tab [0, 0, 0, 0, 0, 0, 0, 0, 0, 0, 0, 0, 0, 0, 0, 0] 0 := ⟨rfl, by decide, by decide⟩
theorem own_tab_get {ts : List Int32} {n : Int32} (h : own_tab ts n) {j : Nat} (hj : j < 16) : ∃ t : Int32, ts[j]? = some t ∧ (ts.map Value.int).getD j (.int (0 : Int32)) = .int t ∧ 0 ≤ t.toInt ∧ t.toInt ≤ n.toInt := by
  have hl : j < ts.length := by rw [h.1]; exact hj
  exact ⟨ts[j], List.getElem?_eq_getElem hl, by simp [List.getD_eq_getElem?_getD, hl], h.2.1 _ (List.getElem_mem hl)⟩
theorem own_tab_zero {ts : List Int32} {n : Int32} (h : own_tab ts n) (hn : n.toInt ≤ 7) : ∃ j, j < 16 ∧ ts[j]? = some 0 := by
  by_cases q : ∃ t ∈ ts, t = 0
  · obtain ⟨t, ht, rfl⟩ := q
    obtain ⟨j, hj, e⟩ := List.mem_iff_getElem.mp ht
    exact ⟨j, by rw [← h.1]; exact hj, by rw [List.getElem?_eq_getElem hj, e]⟩
  · have e : ts.countP (fun t => t != 0) = ts.length := List.countP_eq_length.mpr fun t ht => by
      have : ¬ t = 0 := fun z => q ⟨t, ht, z⟩
      simpa using this
    have h3 := h.2.2
    rw [e, h.1] at h3
    omega
theorem own_tab_set {ts : List Int32} {n : Int32} (h : own_tab ts n) (h0 : 0 ≤ n.toInt) (h1 : n.toInt ≤ 7) {j : Nat} (hj : j < 16) : own_tab (ts.set j (n + 1)) (n + 1) := by
  have hl : j < ts.length := by rw [h.1]; exact hj
  have en : (n + 1).toInt = n.toInt + 1 := by
    have z1 := c_iadd n 1; have z2 := rng32 (n + 1); rw [show (1 : Int32).toInt = 1 by decide] at z1; omega
  refine ⟨by rw [List.length_set]; exact h.1, fun t ht => ?_, ?_⟩
  · rcases List.mem_or_eq_of_mem_set ht with q | q
    · have := h.2.1 t q; omega
    · rw [q]; omega
  · rw [List.countP_set hl]
    have h3 := h.2.2
    have : (if (n + 1 != 0) = true then 1 else 0) ≤ 1 := by split <;> omega
    omega
theorem own_tab_map (ts : List Int32) (j : Nat) (x : Int32) : (ts.map Value.int).set j (.int x) = (ts.set j x).map Value.int := by rw [List.map_set]
theorem own_fitI {v : Value} (h : fits .int v = true) : ∃ x, v = .int x := by cases v <;> simp [fits] at h ⊢
theorem own_rows (rs : List Value) (x : Value) {k : Nat} (h : rs.length = 8) (hk : k + 1 ≤ 8) : (rs.take k ++ [x] ++ rs.drop (k + 1)).length = 8 := by
  simp [h]; omega
def own_ltI (x y : Int32) : Int32 := if x < y then 1 else 0
theorem own_add {n r : Int32} {k : Int} (h0 : 0 ≤ n.toInt) (h1 : n.toInt ≤ k) (hk : k ≤ 20) (r0 : 0 ≤ r.toInt) (r1 : r.toInt ≤ 1) : 0 ≤ (n + r).toInt ∧ (n + r).toInt ≤ k + 1 := by
  have z1 := c_iadd n r; have z2 := rng32 (n + r)
  exact ⟨by omega, by omega⟩
theorem own_grow {n : Int32} (h0 : 0 ≤ n.toInt) (h1 : n.toInt ≤ 7) : n < n + 1 := by
  have z1 := c_iadd n 1; have z2 := rng32 (n + 1); rw [show (1 : Int32).toInt = 1 by decide] at z1
  rw [Int32.lt_iff_toInt_lt]; omega
theorem own_ent {t n : Int32} (h0 : 0 ≤ t.toInt) (h1 : t.toInt ≤ n.toInt) (hn : n.toInt ≤ 7) : ((t - 1) < 0 ↔ t = 0) ∧ (¬ (t - 1) < 0 → 0 ≤ (t - 1).toInt ∧ (t - 1).toInt ≤ 6) := by
  have h1' : t.toInt ≤ 15 := by omega
  have h7 : t.toInt ≤ 7 := by omega
  rcases own_cases h0 h1' with rfl | rfl | rfl | rfl | rfl | rfl | rfl | rfl | rfl | rfl | rfl | rfl | rfl | rfl | rfl | rfl <;> first | decide | (exfalso; revert h7; decide)

theorem pn_Integer : plainName "java/lang/Integer" = true := by first | (simp [plainName, overriddenIn]; done) | decide +kernel
theorem ef_rm_nlz (m : MethodId) (x0 : Int32) : entryFrame m #[(.int x0)] 2 = mkF m 0 #[.val (.int x0), .unset] [] := by first | (simp [entryFrame, mkF, argsToLocals, Value.category]; done) | rfl
def Q_rm_nlz (Z : State) (x : Int32) (h0 : Heap) (n0 : Nat) (v : Option Value) (h : Heap) (L : List Loc) : Prop := (v = some (.int (32 : Int32))) ∧ (Fr n0 L) ∧ (h = h0)
theorem d10_0 : decode jdk_33_method_47_code 0 = .ok (.iload_n 0, 1) := by decide +kernel
theorem d10_1 : decode jdk_33_method_47_code 1 = .ok (.ifCond .gt 14, 3) := by decide +kernel
theorem d10_4 : decode jdk_33_method_47_code 4 = .ok (.iload_n 0, 1) := by decide +kernel
theorem d10_5 : decode jdk_33_method_47_code 5 = .ok (.ifCond .ne 8, 3) := by decide +kernel
theorem d10_8 : decode jdk_33_method_47_code 8 = .ok (.bipush 32, 2) := by decide +kernel
theorem d10_10 : decode jdk_33_method_47_code 10 = .ok (.goto 4, 3) := by decide +kernel
theorem d10_14 : decode jdk_33_method_47_code 14 = .ok (.ireturn, 1) := by decide +kernel
set_option maxRecDepth 65536 in
set_option maxHeartbeats 40000000 in
theorem rm_nlz (l : Launch) (Z : State) (a0 : Array Value) (hw : ∀ d ∈ tables_1, d.before a0 Z = true) (ws : List Jvm.Cond) (x : Int32) (h0 : Heap) (n0 : Nat) (Z0 : n0 ≤ h0.size) (hx0 : x = (0 : Int32)) :
    Con l Z (⟨"java/lang/Integer", "numberOfLeadingZeros", "(I)I"⟩ : MethodName) jdk_33_method_47_code 2 (some .int) ws ({ frames := 0, cells := 0, slots := 0, locals := 0 } : Room) #[(.int x)] h0 (Q_rm_nlz Z x h0 n0) := by
  refine MetFree.of_bodySF (plainFor_of_name pn_Integer) hisR ?_
  intro p e s m args below meth c s₁ Bd hml0 hP hK
  obtain ⟨rfl, hZ, hh⟩ := hP
  have hx := Bd.exec
  have hby := Bd.bytes
  have hml : c.maxLocals = 2 := hml0
  have hown : s.vm.findClass "java/lang/Integer" = some m.cls := findClass_of_methodNamed Bd.named
  have hnm := (name_of_methodNamed Bd.named Bd.method).1
  have X0 : Stand p l e ({ frames := 0, cells := 0, slots := 0, locals := 0 } : Room) s m #[(.int x)] below meth c s₁ [] 0 0 := Stand.of_body Bd
  have e0 : s₁.heap = h0 := by rw [← hh, Bd.state]; rfl
  have N0 := Fr.nil n0
  have k0 : Rch p e below (s₁.setTop (entryFrame m #[(.int x)] 2)) s₁ (mkF m 0 #[.val (.int x), .unset] []) := fun tg kg => castTop (ef_rm_nlz m x) kg
  have hxg : ¬ (0 : Int32) < x := by rw [hx0]; decide
  have k1 : Rch p e below (s₁.setTop (entryFrame m #[(.int x)] 2)) s₁ (mkF m 14 #[.val (.int x), .unset] [(.int (32 : Int32))]) := fun tg kg => by
    refine k0 tg ?_
    show Steps p.tables e below (s₁.setTop (mkF m 0 #[.val (.int x), .unset] [])) tg
    refine XS.iloadN X0.here hx rfl (hb hby d10_0) rfl ?_
    refine XS.ifNo X0.here hx rfl (hb hby d10_1) rfl ((if0 _ _).trans (flt hxg).2.2.1) ?_
    refine XS.iloadN X0.here hx rfl (hb hby d10_4) rfl ?_
    refine XS.ifNo X0.here hx rfl (hb hby d10_5) rfl ((if0 _ _).trans (teq hx0).2) ?_
    refine XS.bipush X0.here hx rfl (hb hby d10_8) ?_
    show Steps p.tables e below (s₁.setTop (mkF m 10 #[.val (.int x), .unset] [(.int (32 : Int32))])) tg
    refine XS.goto X0.here hx rfl (pc0 := 10) (pc' := 14) rfl (hb hby d10_10) (by decide) (by decide) ?_
    exact kg
  obtain ⟨fs2, hr2, hrun2, hended2, hW2, hsame2⟩ := X0.leave (v := some (.int (32 : Int32))) (fun h => by rw [Bd.returns] at h; cases h)
  refine ⟨_, _, k1 _ ?_, hrun2, hended2, _, _, rfl, ?_, ⟨_, rfl⟩, hW2, hsame2.mono (by decide) (by decide)⟩
  · exact retOut X0 hx Bd.returns rfl (Or.inl ⟨rfl, Or.inl rfl, _, rfl⟩) (hb hby d10_14) hr2
  · show Q_rm_nlz Z x h0 n0 _ s₁.heap _
    rw [e0]
    exact ⟨rfl, N0, rfl⟩
theorem ef_rm_max1 (m : MethodId) (x0 : Int32) (x1 : Int32) : entryFrame m #[(.int x0), (.int x1)] 2 = mkF m 0 #[.val (.int x0), .val (.int x1)] [] := by first | (simp [entryFrame, mkF, argsToLocals, Value.category]; done) | rfl
def Q_rm_max1 (Z : State) (q1 : Int32) (q2 : Int32) (h0 : Heap) (n0 : Nat) (v : Option Value) (h : Heap) (L : List Loc) : Prop := (v = some (.int q1)) ∧ (Fr n0 L) ∧ (h = h0)
theorem d9_0 : decode jdk_29_method_65_code 0 = .ok (.iload_n 0, 1) := by decide +kernel
theorem d9_1 : decode jdk_29_method_65_code 1 = .ok (.iload_n 1, 1) := by decide +kernel
theorem d9_2 : decode jdk_29_method_65_code 2 = .ok (.if_icmp .lt 7, 3) := by decide +kernel
theorem d9_5 : decode jdk_29_method_65_code 5 = .ok (.iload_n 0, 1) := by decide +kernel
theorem d9_6 : decode jdk_29_method_65_code 6 = .ok (.goto 4, 3) := by decide +kernel
theorem d9_10 : decode jdk_29_method_65_code 10 = .ok (.ireturn, 1) := by decide +kernel
set_option maxRecDepth 65536 in
set_option maxHeartbeats 40000000 in
theorem rm_max1 (l : Launch) (Z : State) (a0 : Array Value) (hw : ∀ d ∈ tables_1, d.before a0 Z = true) (ws : List Jvm.Cond) (q1 : Int32) (q2 : Int32) (h0 : Heap) (n0 : Nat) (Z0 : n0 ≤ h0.size) (hq : ¬ q1 < q2) :
    Con l Z (⟨"java/lang/Math", "max", "(II)I"⟩ : MethodName) jdk_29_method_65_code 2 (some .int) ws ({ frames := 0, cells := 0, slots := 0, locals := 0 } : Room) #[(.int q1), (.int q2)] h0 (Q_rm_max1 Z q1 q2 h0 n0) := by
  refine MetFree.of_bodySF (Jvm.Free.JP.mathPlain rfl (by decide +kernel)) hisR ?_
  intro p e s m args below meth c s₁ Bd hml0 hP hK
  obtain ⟨rfl, hZ, hh⟩ := hP
  have hx := Bd.exec
  have hby := Bd.bytes
  have hml : c.maxLocals = 2 := hml0
  have hown : s.vm.findClass "java/lang/Math" = some m.cls := findClass_of_methodNamed Bd.named
  have hnm := (name_of_methodNamed Bd.named Bd.method).1
  have X0 : Stand p l e ({ frames := 0, cells := 0, slots := 0, locals := 0 } : Room) s m #[(.int q1), (.int q2)] below meth c s₁ [] 0 0 := Stand.of_body Bd
  have e0 : s₁.heap = h0 := by rw [← hh, Bd.state]; rfl
  have N0 := Fr.nil n0
  have k0 : Rch p e below (s₁.setTop (entryFrame m #[(.int q1), (.int q2)] 2)) s₁ (mkF m 0 #[.val (.int q1), .val (.int q2)] []) := fun tg kg => castTop (ef_rm_max1 m q1 q2) kg
  have k1 : Rch p e below (s₁.setTop (entryFrame m #[(.int q1), (.int q2)] 2)) s₁ (mkF m 10 #[.val (.int q1), .val (.int q2)] [(.int q1)]) := fun tg kg => by
    refine k0 tg ?_
    show Steps p.tables e below (s₁.setTop (mkF m 0 #[.val (.int q1), .val (.int q2)] [])) tg
    refine XS.iloadN X0.here hx rfl (hb hby d9_0) rfl ?_
    refine XS.iloadN X0.here hx rfl (hb hby d9_1) rfl ?_
    refine XS.icmpNo X0.here hx rfl (hb hby d9_2) rfl (flt hq).1 ?_
    refine XS.iloadN X0.here hx rfl (hb hby d9_5) rfl ?_
    refine XS.goto X0.here hx rfl (pc0 := 6) (pc' := 10) rfl (hb hby d9_6) (by decide) (by decide) ?_
    exact kg
  obtain ⟨fs2, hr2, hrun2, hended2, hW2, hsame2⟩ := X0.leave (v := some (.int q1)) (fun h => by rw [Bd.returns] at h; cases h)
  refine ⟨_, _, k1 _ ?_, hrun2, hended2, _, _, rfl, ?_, ⟨_, rfl⟩, hW2, hsame2.mono (by decide) (by decide)⟩
  · exact retOut X0 hx Bd.returns rfl (Or.inl ⟨rfl, Or.inl rfl, _, rfl⟩) (hb hby d9_10) hr2
  · show Q_rm_max1 Z q1 q2 h0 n0 _ s₁.heap _
    rw [e0]
    exact ⟨rfl, N0, rfl⟩
theorem ef_rm_max2 (m : MethodId) (x0 : Int32) (x1 : Int32) : entryFrame m #[(.int x0), (.int x1)] 2 = mkF m 0 #[.val (.int x0), .val (.int x1)] [] := by first | (simp [entryFrame, mkF, argsToLocals, Value.category]; done) | rfl
def Q_rm_max2 (Z : State) (q1 : Int32) (q2 : Int32) (h0 : Heap) (n0 : Nat) (v : Option Value) (h : Heap) (L : List Loc) : Prop := (v = some (.int q2)) ∧ (Fr n0 L) ∧ (h = h0)
theorem d9_9 : decode jdk_29_method_65_code 9 = .ok (.iload_n 1, 1) := by decide +kernel
set_option maxRecDepth 65536 in
set_option maxHeartbeats 40000000 in
theorem rm_max2 (l : Launch) (Z : State) (a0 : Array Value) (hw : ∀ d ∈ tables_1, d.before a0 Z = true) (ws : List Jvm.Cond) (q1 : Int32) (q2 : Int32) (h0 : Heap) (n0 : Nat) (Z0 : n0 ≤ h0.size) (hq : q1 < q2) :
    Con l Z (⟨"java/lang/Math", "max", "(II)I"⟩ : MethodName) jdk_29_method_65_code 2 (some .int) ws ({ frames := 0, cells := 0, slots := 0, locals := 0 } : Room) #[(.int q1), (.int q2)] h0 (Q_rm_max2 Z q1 q2 h0 n0) := by
  refine MetFree.of_bodySF (Jvm.Free.JP.mathPlain rfl (by decide +kernel)) hisR ?_
  intro p e s m args below meth c s₁ Bd hml0 hP hK
  obtain ⟨rfl, hZ, hh⟩ := hP
  have hx := Bd.exec
  have hby := Bd.bytes
  have hml : c.maxLocals = 2 := hml0
  have hown : s.vm.findClass "java/lang/Math" = some m.cls := findClass_of_methodNamed Bd.named
  have hnm := (name_of_methodNamed Bd.named Bd.method).1
  have X0 : Stand p l e ({ frames := 0, cells := 0, slots := 0, locals := 0 } : Room) s m #[(.int q1), (.int q2)] below meth c s₁ [] 0 0 := Stand.of_body Bd
  have e0 : s₁.heap = h0 := by rw [← hh, Bd.state]; rfl
  have N0 := Fr.nil n0
  have k0 : Rch p e below (s₁.setTop (entryFrame m #[(.int q1), (.int q2)] 2)) s₁ (mkF m 0 #[.val (.int q1), .val (.int q2)] []) := fun tg kg => castTop (ef_rm_max2 m q1 q2) kg
  have k1 : Rch p e below (s₁.setTop (entryFrame m #[(.int q1), (.int q2)] 2)) s₁ (mkF m 10 #[.val (.int q1), .val (.int q2)] [(.int q2)]) := fun tg kg => by
    refine k0 tg ?_
    show Steps p.tables e below (s₁.setTop (mkF m 0 #[.val (.int q1), .val (.int q2)] [])) tg
    refine XS.iloadN X0.here hx rfl (hb hby d9_0) rfl ?_
    refine XS.iloadN X0.here hx rfl (hb hby d9_1) rfl ?_
    refine XS.icmpYes X0.here hx rfl (pc0 := 2) (pc' := 9) rfl (hb hby d9_2) rfl (tlt hq).1 (by decide) (by decide) ?_
    refine XS.iloadN X0.here hx rfl (hb hby d9_9) rfl ?_
    exact kg
  obtain ⟨fs2, hr2, hrun2, hended2, hW2, hsame2⟩ := X0.leave (v := some (.int q2)) (fun h => by rw [Bd.returns] at h; cases h)
  refine ⟨_, _, k1 _ ?_, hrun2, hended2, _, _, rfl, ?_, ⟨_, rfl⟩, hW2, hsame2.mono (by decide) (by decide)⟩
  · exact retOut X0 hx Bd.returns rfl (Or.inl ⟨rfl, Or.inl rfl, _, rfl⟩) (hb hby d9_10) hr2
  · show Q_rm_max2 Z q1 q2 h0 n0 _ s₁.heap _
    rw [e0]
    exact ⟨rfl, N0, rfl⟩
theorem ef_rm_min1 (m : MethodId) (x0 : Int32) (x1 : Int32) : entryFrame m #[(.int x0), (.int x1)] 2 = mkF m 0 #[.val (.int x0), .val (.int x1)] [] := by first | (simp [entryFrame, mkF, argsToLocals, Value.category]; done) | rfl
def Q_rm_min1 (Z : State) (q1 : Int32) (q2 : Int32) (h0 : Heap) (n0 : Nat) (v : Option Value) (h : Heap) (L : List Loc) : Prop := (v = some (.int q1)) ∧ (Fr n0 L) ∧ (h = h0)
theorem d11_0 : decode jdk_29_method_69_code 0 = .ok (.iload_n 0, 1) := by decide +kernel
theorem d11_1 : decode jdk_29_method_69_code 1 = .ok (.iload_n 1, 1) := by decide +kernel
theorem d11_2 : decode jdk_29_method_69_code 2 = .ok (.if_icmp .gt 7, 3) := by decide +kernel
theorem d11_5 : decode jdk_29_method_69_code 5 = .ok (.iload_n 0, 1) := by decide +kernel
theorem d11_6 : decode jdk_29_method_69_code 6 = .ok (.goto 4, 3) := by decide +kernel
theorem d11_10 : decode jdk_29_method_69_code 10 = .ok (.ireturn, 1) := by decide +kernel
set_option maxRecDepth 65536 in
set_option maxHeartbeats 40000000 in
theorem rm_min1 (l : Launch) (Z : State) (a0 : Array Value) (hw : ∀ d ∈ tables_1, d.before a0 Z = true) (ws : List Jvm.Cond) (q1 : Int32) (q2 : Int32) (h0 : Heap) (n0 : Nat) (Z0 : n0 ≤ h0.size) (hq : ¬ q2 < q1) :
    Con l Z (⟨"java/lang/Math", "min", "(II)I"⟩ : MethodName) jdk_29_method_69_code 2 (some .int) ws ({ frames := 0, cells := 0, slots := 0, locals := 0 } : Room) #[(.int q1), (.int q2)] h0 (Q_rm_min1 Z q1 q2 h0 n0) := by
  refine MetFree.of_bodySF (Jvm.Free.JP.mathPlain rfl (by decide +kernel)) hisR ?_
  intro p e s m args below meth c s₁ Bd hml0 hP hK
  obtain ⟨rfl, hZ, hh⟩ := hP
  have hx := Bd.exec
  have hby := Bd.bytes
  have hml : c.maxLocals = 2 := hml0
  have hown : s.vm.findClass "java/lang/Math" = some m.cls := findClass_of_methodNamed Bd.named
  have hnm := (name_of_methodNamed Bd.named Bd.method).1
  have X0 : Stand p l e ({ frames := 0, cells := 0, slots := 0, locals := 0 } : Room) s m #[(.int q1), (.int q2)] below meth c s₁ [] 0 0 := Stand.of_body Bd
  have e0 : s₁.heap = h0 := by rw [← hh, Bd.state]; rfl
  have N0 := Fr.nil n0
  have k0 : Rch p e below (s₁.setTop (entryFrame m #[(.int q1), (.int q2)] 2)) s₁ (mkF m 0 #[.val (.int q1), .val (.int q2)] []) := fun tg kg => castTop (ef_rm_min1 m q1 q2) kg
  have k1 : Rch p e below (s₁.setTop (entryFrame m #[(.int q1), (.int q2)] 2)) s₁ (mkF m 10 #[.val (.int q1), .val (.int q2)] [(.int q1)]) := fun tg kg => by
    refine k0 tg ?_
    show Steps p.tables e below (s₁.setTop (mkF m 0 #[.val (.int q1), .val (.int q2)] [])) tg
    refine XS.iloadN X0.here hx rfl (hb hby d11_0) rfl ?_
    refine XS.iloadN X0.here hx rfl (hb hby d11_1) rfl ?_
    refine XS.icmpNo X0.here hx rfl (hb hby d11_2) rfl (flt hq).2.2.1 ?_
    refine XS.iloadN X0.here hx rfl (hb hby d11_5) rfl ?_
    refine XS.goto X0.here hx rfl (pc0 := 6) (pc' := 10) rfl (hb hby d11_6) (by decide) (by decide) ?_
    exact kg
  obtain ⟨fs2, hr2, hrun2, hended2, hW2, hsame2⟩ := X0.leave (v := some (.int q1)) (fun h => by rw [Bd.returns] at h; cases h)
  refine ⟨_, _, k1 _ ?_, hrun2, hended2, _, _, rfl, ?_, ⟨_, rfl⟩, hW2, hsame2.mono (by decide) (by decide)⟩
  · exact retOut X0 hx Bd.returns rfl (Or.inl ⟨rfl, Or.inl rfl, _, rfl⟩) (hb hby d11_10) hr2
  · show Q_rm_min1 Z q1 q2 h0 n0 _ s₁.heap _
    rw [e0]
    exact ⟨rfl, N0, rfl⟩
theorem pn_AbstractCollection : plainName "java/util/AbstractCollection" = true := by first | (simp [plainName, overriddenIn]; done) | decide +kernel
theorem ef_rm_acol (m : MethodId) (x0 : Addr) : entryFrame m #[(.ref x0)] 1 = mkF m 0 #[.val (.ref x0)] [] := by first | (simp [entryFrame, mkF, argsToLocals, Value.category]; done) | rfl
def Q_rm_acol (Z : State) (a : Addr) (h0 : Heap) (n0 : Nat) (v : Option Value) (h : Heap) (L : List Loc) : Prop := (v = none) ∧ (Fr n0 L) ∧ (h = h0)
theorem d8_0 : decode jdk_22_method_1_code 0 = .ok (.aload_n 0, 1) := by decide +kernel
theorem d8_1 : decode jdk_22_method_1_code 1 = .ok (.invokespecial 1, 3) := by decide +kernel
theorem d8_4 : decode jdk_22_method_1_code 4 = .ok (.return_, 1) := by decide +kernel
set_option maxRecDepth 65536 in
set_option maxHeartbeats 40000000 in
theorem rm_acol (l : Launch) (Z : State) (a0 : Array Value) (hw : ∀ d ∈ tables_1, d.before a0 Z = true) (ws : List Jvm.Cond) (a : Addr) (h0 : Heap) (n0 : Nat) (Z0 : n0 ≤ h0.size)  :
    Con l Z (⟨"java/util/AbstractCollection", "<init>", "()V"⟩ : MethodName) jdk_22_method_1_code 1 none ws ({ frames := 1, cells := 0, slots := 0, locals := 12 } : Room) #[(.ref a)] h0 (Q_rm_acol Z a h0 n0) := by
  refine MetFree.of_bodySF (plainFor_of_name pn_AbstractCollection) hisR ?_
  intro p e s m args below meth c s₁ Bd hml0 hP hK
  obtain ⟨rfl, hZ, hh⟩ := hP
  have hx := Bd.exec
  have hby := Bd.bytes
  have hml : c.maxLocals = 1 := hml0
  have hown : s.vm.findClass "java/util/AbstractCollection" = some m.cls := findClass_of_methodNamed Bd.named
  have hnm := (name_of_methodNamed Bd.named Bd.method).1
  have X0 : Stand p l e ({ frames := 1, cells := 0, slots := 0, locals := 12 } : Room) s m #[(.ref a)] below meth c s₁ [] 0 0 := Stand.of_body Bd
  have e0 : s₁.heap = h0 := by rw [← hh, Bd.state]; rfl
  have N0 := Fr.nil n0
  have k0 : Rch p e below (s₁.setTop (entryFrame m #[(.ref a)] 1)) s₁ (mkF m 0 #[.val (.ref a)] []) := fun tg kg => castTop (ef_rm_acol m a) kg
  have k1 : Rch p e below (s₁.setTop (entryFrame m #[(.ref a)] 1)) s₁ (mkF m 1 #[.val (.ref a)] [(.ref a)]) := fun tg kg => by
    refine k0 tg ?_
    show Steps p.tables e below (s₁.setTop (mkF m 0 #[.val (.ref a)] [])) tg
    refine XS.aloadN X0.here hx rfl (hb hby d8_0) rfl rfl ?_
    exact kg
  obtain ⟨T2, X2, e2, st2⟩ := initO X0 hx hZ hown (hw _ (List.mem_of_getElem? (i := 56) rfl)) (hw _ (List.mem_of_getElem? (i := 8) rfl)) (hw _ (List.mem_of_getElem? (i := 9) rfl)) e0 (g := (mkF m 1 #[.val (.ref a)] [(.ref a)])) rfl (by rw [hml]; rfl) rfl (hb hby d8_1) (by decide) (W := 0) (by show 2 * 0 + _ ≤ _; exact Nat.le_of_eq rfl) (by decide)
  have k3 : Rch p e below (s₁.setTop (entryFrame m #[(.ref a)] 1)) T2 (mkF m 4 #[.val (.ref a)] []) := fun tg kg => k1 tg (st2 tg kg)
  obtain ⟨fs4, hr4, hrun4, hended4, hW4, hsame4⟩ := X2.leave (v := none) (fun _ => rfl)
  refine ⟨_, _, k3 _ ?_, hrun4, hended4, _, _, rfl, ?_, ⟨_, rfl⟩, hW4, hsame4.mono (by decide) (by decide)⟩
  · exact X2.returnOut hx Bd.returns (hb hby d8_4) hr4
  · show Q_rm_acol Z a h0 n0 _ T2.heap _
    rw [e2]
    exact ⟨rfl, N0, rfl⟩
theorem pn_AbstractList : plainName "java/util/AbstractList" = true := by first | (simp [plainName, overriddenIn]; done) | decide +kernel
theorem ef_rm_alist (m : MethodId) (x0 : Addr) : entryFrame m #[(.ref x0)] 1 = mkF m 0 #[.val (.ref x0)] [] := by first | (simp [entryFrame, mkF, argsToLocals, Value.category]; done) | rfl
def Q_rm_alist (Z : State) (a : Addr) (u : Value) (u' : Value) (h0 : Heap) (n0 : Nat) (v : Option Value) (h : Heap) (L : List Loc) : Prop := (v = none) ∧ (Fr n0 L) ∧ (Keep h0 h [a]) ∧ (Exa Z h a "java/util/ArrayList") ∧ (Fld Z h a "java/util/ArrayList" "elementData" "[Ljava/lang/Object;" u')
theorem d7_0 : decode jdk_39_method_1_code 0 = .ok (.aload_n 0, 1) := by decide +kernel
theorem pd_0 : parseMethodDescriptor "()V" = some ⟨[], none⟩ := by decide +kernel
theorem d7_1 : decode jdk_39_method_1_code 1 = .ok (.invokespecial 1, 3) := by decide +kernel
theorem d7_4 : decode jdk_39_method_1_code 4 = .ok (.aload_n 0, 1) := by decide +kernel
theorem d7_5 : decode jdk_39_method_1_code 5 = .ok (.iconst 0, 1) := by decide +kernel
theorem d7_6 : decode jdk_39_method_1_code 6 = .ok (.putfield 7, 3) := by decide +kernel
theorem d7_9 : decode jdk_39_method_1_code 9 = .ok (.return_, 1) := by decide +kernel
set_option maxRecDepth 65536 in
set_option maxHeartbeats 40000000 in
theorem rm_alist (l : Launch) (Z : State) (a0 : Array Value) (hw : ∀ d ∈ tables_1, d.before a0 Z = true) (ws : List Jvm.Cond) (a : Addr) (u : Value) (u' : Value) (h0 : Heap) (n0 : Nat) (Z0 : n0 ≤ h0.size) (E_a : Exa Z h0 a "java/util/ArrayList") (F_m : Fld Z h0 a "java/util/AbstractList" "modCount" "I" u) (F_e : Fld Z h0 a "java/util/ArrayList" "elementData" "[Ljava/lang/Object;" u') (g_a : n0 ≤ a) :
    Con l Z (⟨"java/util/AbstractList", "<init>", "()V"⟩ : MethodName) jdk_39_method_1_code 1 none ws ({ frames := 2, cells := 0, slots := 0, locals := 24 } : Room) #[(.ref a)] h0 (Q_rm_alist Z a u u' h0 n0) := by
  refine MetFree.of_bodySF (plainFor_of_name pn_AbstractList) hisR ?_
  intro p e s m args below meth c s₁ Bd hml0 hP hK
  obtain ⟨rfl, hZ, hh⟩ := hP
  have hx := Bd.exec
  have hby := Bd.bytes
  have hml : c.maxLocals = 1 := hml0
  have hown : s.vm.findClass "java/util/AbstractList" = some m.cls := findClass_of_methodNamed Bd.named
  have hnm := (name_of_methodNamed Bd.named Bd.method).1
  have X0 : Stand p l e ({ frames := 2, cells := 0, slots := 0, locals := 24 } : Room) s m #[(.ref a)] below meth c s₁ [] 0 0 := Stand.of_body Bd
  have e0 : s₁.heap = h0 := by rw [← hh, Bd.state]; rfl
  have N0 := Fr.nil n0
  have k0 : Rch p e below (s₁.setTop (entryFrame m #[(.ref a)] 1)) s₁ (mkF m 0 #[.val (.ref a)] []) := fun tg kg => castTop (ef_rm_alist m a) kg
  have lt_E_a := own_ltN E_a.lt
  have lt_F_m := own_ltN F_m.lt
  have lt_F_e := own_ltN F_e.lt
  have k1 : Rch p e below (s₁.setTop (entryFrame m #[(.ref a)] 1)) s₁ (mkF m 1 #[.val (.ref a)] [(.ref a)]) := fun tg kg => by
    refine k0 tg ?_
    show Steps p.tables e below (s₁.setTop (mkF m 0 #[.val (.ref a)] [])) tg
    refine XS.aloadN X0.here hx rfl (hb hby d7_0) rfl rfl ?_
    exact kg
  obtain ⟨v2, T2, h2, Lc2, X2, e2, hQ2, st2⟩ := own_callC X0 hx hZ rfl hown (hw _ (List.mem_of_getElem? (i := 50) rfl)) (hw _ (List.mem_of_getElem? (i := 51) rfl)) (hw _ (List.mem_of_getElem? (i := 54) rfl)) (hw _ (List.mem_of_getElem? (i := 55) rfl)) (by decide) (rm_acol l Z a0 hw [] a h0 n0 (by omega) ) e0 (a := a) (g := (mkF m 1 #[.val (.ref a)] [(.ref a)])) rfl (by rw [hml]; rfl) (argsL := []) (rest := []) rfl (lenOf pd_0 rfl) rfl (W := 0) (by show 2 * 0 + _ ≤ _; exact Nat.le_of_eq rfl) (hb hby d7_1) (by decide) (by decide) (by decide) (by decide)
  obtain ⟨rfl, Nq2, hs2⟩ := hQ2
  have N2 := Fr.app N0 Nq2
  have e2' : T2.heap = h0 := e2.trans hs2
  have k3 : Rch p e below (s₁.setTop (entryFrame m #[(.ref a)] 1)) T2 (mkF m 4 #[.val (.ref a)] []) := fun tg kg => k1 tg (st2 tg kg)
  have k4 : Rch p e below (s₁.setTop (entryFrame m #[(.ref a)] 1)) T2 (mkF m 6 #[.val (.ref a)] [(.int (0 : Int32)), (.ref a)]) := fun tg kg => by
    refine k3 tg ?_
    show Steps p.tables e below (T2.setTop (mkF m 4 #[.val (.ref a)] [])) tg
    refine XS.aloadN X2.here hx rfl (hb hby d7_4) rfl rfl ?_
    refine XS.iconst X2.here hx rfl (hb hby d7_5) ?_
    exact kg
  obtain ⟨T5, h5, X5, e5, W5, st5⟩ := putF X2 hx hZ hown (host := "") (Or.inl (hw _ (List.mem_of_getElem? (i := 57) rfl))) Via.refl e2' F_m E_a (Or.inl (hw _ (List.mem_of_getElem? (i := 58) rfl))) (hw _ (List.mem_of_getElem? (i := 39) rfl)) (ty := .int) (by decide) rfl rfl (g := (mkF m 6 #[.val (.ref a)] [(.int (0 : Int32)), (.ref a)])) rfl rfl (hb hby d7_6)
  have Fw5 := F_m.same W5
  have s5 : h5.size = h0.size := W5.size
  have N5 := Fr.snoc X5 N2 (by omega : n0 ≤ a)
  have k6 : Rch p e below (s₁.setTop (entryFrame m #[(.ref a)] 1)) T5 (mkF m 9 #[.val (.ref a)] []) := fun tg kg => k4 tg (st5 tg kg)
  have f7 : Exa Z h5 a "java/util/ArrayList" := (E_a.wr W5)
  have f8 : Fld Z h5 a "java/util/ArrayList" "elementData" "[Ljava/lang/Object;" u' := (F_e.other W5 (Or.inr (slot_ne (Or.inl (hw _ (List.mem_of_getElem? (i := 61) rfl))) (Or.inl (hw _ (List.mem_of_getElem? (i := 58) rfl))) (by decide) (t := (.array (.object "java/lang/Object"))) (t' := .int) (by decide) (by decide))))
  obtain ⟨fs9, hr9, hrun9, hended9, hW9, hsame9⟩ := X5.leave (v := none) (fun _ => rfl)
  refine ⟨_, _, k6 _ ?_, hrun9, hended9, _, _, rfl, ?_, ⟨_, rfl⟩, hW9, hsame9.mono (by decide) (by decide)⟩
  · exact X5.returnOut hx Bd.returns (hb hby d7_9) hr9
  · show Q_rm_alist Z a u u' h0 n0 _ T5.heap _
    rw [e5]
    exact ⟨rfl, N5, ((Keep.refl h0 [a]).wr W5 (Or.inl (List.mem_of_getElem? (i := 0) rfl))), f7, f8⟩
theorem pn_ArrayList : plainName "java/util/ArrayList" = true := by first | (simp [plainName, overriddenIn]; done) | decide +kernel
theorem ef_rm_list (m : MethodId) (x0 : Addr) : entryFrame m #[(.ref x0)] 1 = mkF m 0 #[.val (.ref x0)] [] := by first | (simp [entryFrame, mkF, argsToLocals, Value.category]; done) | rfl
def Q_rm_list (Z : State) (a : Addr) (u : Value) (u' : Value) (ed : Addr) (h0 : Heap) (n0 : Nat) (v : Option Value) (h : Heap) (L : List Loc) : Prop := (v = none) ∧ (Fr n0 L) ∧ (Keep h0 h [a])
theorem d6_0 : decode jdk_38_method_2_code 0 = .ok (.aload_n 0, 1) := by decide +kernel
theorem d6_1 : decode jdk_38_method_2_code 1 = .ok (.invokespecial 1, 3) := by decide +kernel
theorem d6_4 : decode jdk_38_method_2_code 4 = .ok (.aload_n 0, 1) := by decide +kernel
theorem d6_5 : decode jdk_38_method_2_code 5 = .ok (.getstatic 39, 3) := by decide +kernel
theorem d6_8 : decode jdk_38_method_2_code 8 = .ok (.putfield 9, 3) := by decide +kernel
theorem d6_11 : decode jdk_38_method_2_code 11 = .ok (.return_, 1) := by decide +kernel
set_option maxRecDepth 65536 in
set_option maxHeartbeats 40000000 in
theorem rm_list (l : Launch) (Z : State) (a0 : Array Value) (hw : ∀ d ∈ tables_1, d.before a0 Z = true) (ws : List Jvm.Cond) (a : Addr) (u : Value) (u' : Value) (ed : Addr) (h0 : Heap) (n0 : Nat) (Z0 : n0 ≤ h0.size) (E_a : Exa Z h0 a "java/util/ArrayList") (F_m : Fld Z h0 a "java/util/AbstractList" "modCount" "I" u) (F_e : Fld Z h0 a "java/util/ArrayList" "elementData" "[Ljava/lang/Object;" u') (g_a : n0 ≤ a) (S_ed : Sta Z Z.heap "java/util/ArrayList" "DEFAULTCAPACITY_EMPTY_ELEMENTDATA" "[Ljava/lang/Object;" (.ref ed)) (OL : Old Z n0 h0) :
    Con l Z (⟨"java/util/ArrayList", "<init>", "()V"⟩ : MethodName) jdk_38_method_2_code 1 none ws ({ frames := 3, cells := 0, slots := 0, locals := 36 } : Room) #[(.ref a)] h0 (Q_rm_list Z a u u' ed h0 n0) := by
  refine MetFree.of_bodySF (plainFor_of_name pn_ArrayList) hisR ?_
  intro p e s m args below meth c s₁ Bd hml0 hP hK
  obtain ⟨rfl, hZ, hh⟩ := hP
  have hx := Bd.exec
  have hby := Bd.bytes
  have hml : c.maxLocals = 1 := hml0
  have hown : s.vm.findClass "java/util/ArrayList" = some m.cls := findClass_of_methodNamed Bd.named
  have hnm := (name_of_methodNamed Bd.named Bd.method).1
  have X0 : Stand p l e ({ frames := 3, cells := 0, slots := 0, locals := 36 } : Room) s m #[(.ref a)] below meth c s₁ [] 0 0 := Stand.of_body Bd
  have e0 : s₁.heap = h0 := by rw [← hh, Bd.state]; rfl
  have N0 := Fr.nil n0
  have k0 : Rch p e below (s₁.setTop (entryFrame m #[(.ref a)] 1)) s₁ (mkF m 0 #[.val (.ref a)] []) := fun tg kg => castTop (ef_rm_list m a) kg
  have lt_E_a := own_ltN E_a.lt
  have lt_F_m := own_ltN F_m.lt
  have lt_F_e := own_ltN F_e.lt
  have k1 : Rch p e below (s₁.setTop (entryFrame m #[(.ref a)] 1)) s₁ (mkF m 1 #[.val (.ref a)] [(.ref a)]) := fun tg kg => by
    refine k0 tg ?_
    show Steps p.tables e below (s₁.setTop (mkF m 0 #[.val (.ref a)] [])) tg
    refine XS.aloadN X0.here hx rfl (hb hby d6_0) rfl rfl ?_
    exact kg
  obtain ⟨v2, T2, h2, Lc2, X2, e2, hQ2, st2⟩ := own_callC X0 hx hZ rfl hown (hw _ (List.mem_of_getElem? (i := 44) rfl)) (hw _ (List.mem_of_getElem? (i := 45) rfl)) (hw _ (List.mem_of_getElem? (i := 48) rfl)) (hw _ (List.mem_of_getElem? (i := 49) rfl)) (by decide) (rm_alist l Z a0 hw [] a u u' h0 n0 (by omega) E_a F_m F_e (by assumption)) e0 (a := a) (g := (mkF m 1 #[.val (.ref a)] [(.ref a)])) rfl (by rw [hml]; rfl) (argsL := []) (rest := []) rfl (lenOf pd_0 rfl) rfl (W := 0) (by show 2 * 0 + _ ≤ _; exact Nat.le_of_eq rfl) (hb hby d6_1) (by decide) (by decide) (by decide) (by decide)
  obtain ⟨rfl, Nq2, K2, fq2_3, fq2_4⟩ := hQ2
  have N2 := Fr.app N0 Nq2
  have s2 : h0.size ≤ h2.size := K2.1
  have k3 : Rch p e below (s₁.setTop (entryFrame m #[(.ref a)] 1)) T2 (mkF m 4 #[.val (.ref a)] []) := fun tg kg => k1 tg (st2 tg kg)
  have lt_fq2_3 := own_ltN fq2_3.lt
  have lt_fq2_4 := own_ltN fq2_4.lt
  have k4 : Rch p e below (s₁.setTop (entryFrame m #[(.ref a)] 1)) T2 (mkF m 5 #[.val (.ref a)] [(.ref a)]) := fun tg kg => by
    refine k3 tg ?_
    show Steps p.tables e below (T2.setTop (mkF m 4 #[.val (.ref a)] [])) tg
    refine XS.aloadN X2.here hx rfl (hb hby d6_4) rfl rfl ?_
    exact kg
  have f5 : Old Z n0 h2 := (OL.keep K2 (allS (by omega) all0))
  obtain ⟨T6, X6, e6, st6⟩ := getS2 X2 hx hZ hown (host := "") (Or.inl (hw _ (List.mem_of_getElem? (i := 59) rfl))) Via.refl e2 (S_ed.ext f5.2) (g := (mkF m 5 #[.val (.ref a)] [(.ref a)])) rfl (hb hby d6_5)
  have k7 : Rch p e below (s₁.setTop (entryFrame m #[(.ref a)] 1)) T6 (mkF m 8 #[.val (.ref a)] [(.ref ed), (.ref a)]) := fun tg kg => k4 tg (st6 tg kg)
  obtain ⟨T8, h8, X8, e8, W8, st8⟩ := putF X6 hx hZ hown (host := "") (Or.inl (hw _ (List.mem_of_getElem? (i := 60) rfl))) Via.refl e6 fq2_4 fq2_3 (Or.inl (hw _ (List.mem_of_getElem? (i := 61) rfl))) (hw _ (List.mem_of_getElem? (i := 39) rfl)) (ty := (.array (.object "java/lang/Object"))) (by decide) rfl rfl (g := (mkF m 8 #[.val (.ref a)] [(.ref ed), (.ref a)])) rfl rfl (hb hby d6_8)
  have Fw8 := fq2_4.same W8
  have s8 : h8.size = h2.size := W8.size
  have N8 := Fr.snoc X8 N2 (by omega : n0 ≤ a)
  have k9 : Rch p e below (s₁.setTop (entryFrame m #[(.ref a)] 1)) T8 (mkF m 11 #[.val (.ref a)] []) := fun tg kg => k7 tg (st8 tg kg)
  obtain ⟨fs10, hr10, hrun10, hended10, hW10, hsame10⟩ := X8.leave (v := none) (fun _ => rfl)
  refine ⟨_, _, k9 _ ?_, hrun10, hended10, _, _, rfl, ?_, ⟨_, rfl⟩, hW10, hsame10.mono (by decide) (by decide)⟩
  · exact X8.returnOut hx Bd.returns (hb hby d6_11) hr10
  · show Q_rm_list Z a u u' ed h0 n0 _ T8.heap _
    rw [e8]
    exact ⟨rfl, N8, (((Keep.refl h0 [a]).trans K2 (allS (Or.inl (List.mem_of_getElem? (i := 0) rfl)) all0)).wr W8 (Or.inl (List.mem_of_getElem? (i := 0) rfl)))⟩
theorem pn_HashSlots : plainName "com/example/verum/verum/HashSlots" = true := by first | (simp [plainName, overriddenIn]; done) | decide +kernel
theorem ef_rm_clear (m : MethodId) (x0 : Addr) (x1 : Int64) : entryFrame m #[(.ref x0), (.long x1)] 6 = mkF m 0 #[.val (.ref x0), .val (.long x1), .second, .unset, .unset, .unset] [] := by first | (simp [entryFrame, mkF, argsToLocals, Value.category]; done) | rfl
def Q_rm_clear (Z : State) (a : Addr) (u : Value) (u' : Value) (u'' : Value) (h0 : Heap) (n0 : Nat) (v : Option Value) (h : Heap) (L : List Loc) : Prop := ∃ (hp : Addr) (ht : Addr) (khp : ClassId) (kht : ClassId), (v = none) ∧ (Fr n0 L) ∧ (Keep h0 h [a]) ∧ (Exa Z h a "com/example/verum/verum/HashSlots") ∧ (Fld Z h a "com/example/verum/verum/HashSlots" "pages" "[[I" (.ref hp)) ∧ (Fld Z h a "com/example/verum/verum/HashSlots" "mask" "I" (.int (15 : Int32))) ∧ (Fld Z h a "com/example/verum/verum/HashSlots" "shared" "Z" (.int (0 : Int32))) ∧ (Arv Z h hp khp (.array .int) (1 : Int32) [(.ref ht)] .null) ∧ (Arv Z h ht kht .int (16 : Int32) [(.int (0 : Int32)), (.int (0 : Int32)), (.int (0 : Int32)), (.int (0 : Int32)), (.int (0 : Int32)), (.int (0 : Int32)), (.int (0 : Int32)), (.int (0 : Int32)), (.int (0 : Int32)), (.int (0 : Int32)), (.int (0 : Int32)), (.int (0 : Int32)), (.int (0 : Int32)), (.int (0 : Int32)), (.int (0 : Int32)), (.int (0 : Int32))] (.int (0 : Int32))) ∧ (h0.size ≤ hp ∧ hp < ht ∧ (ht : Nat) < h.size)
theorem d5_0 : decode prog_36_method_12_code 0 = .ok (.lload_n 1, 1) := by decide +kernel
theorem d5_1 : decode prog_36_method_12_code 1 = .ok (.ldc2_w 57, 3) := by decide +kernel
theorem d5_4 : decode prog_36_method_12_code 4 = .ok (.lcmp, 1) := by decide +kernel
theorem d5_5 : decode prog_36_method_12_code 5 = .ok (.ifCond .gt 21, 3) := by decide +kernel
theorem d5_8 : decode prog_36_method_12_code 8 = .ok (.aload_n 0, 1) := by decide +kernel
theorem d5_9 : decode prog_36_method_12_code 9 = .ok (.iconst 1, 1) := by decide +kernel
theorem d5_10 : decode prog_36_method_12_code 10 = .ok (.anewarray 14, 3) := by decide +kernel
theorem d5_13 : decode prog_36_method_12_code 13 = .ok (.dup, 1) := by decide +kernel
theorem d5_14 : decode prog_36_method_12_code 14 = .ok (.iconst 0, 1) := by decide +kernel
theorem d5_15 : decode prog_36_method_12_code 15 = .ok (.lload_n 1, 1) := by decide +kernel
theorem d5_16 : decode prog_36_method_12_code 16 = .ok (.l2i, 1) := by decide +kernel
theorem d5_17 : decode prog_36_method_12_code 17 = .ok (.newarray .int, 2) := by decide +kernel
theorem d5_19 : decode prog_36_method_12_code 19 = .ok (.aastore, 1) := by decide +kernel
theorem d5_20 : decode prog_36_method_12_code 20 = .ok (.putfield 16, 3) := by decide +kernel
theorem d5_23 : decode prog_36_method_12_code 23 = .ok (.goto 109, 3) := by decide +kernel
theorem d5_132 : decode prog_36_method_12_code 132 = .ok (.aload_n 0, 1) := by decide +kernel
theorem d5_133 : decode prog_36_method_12_code 133 = .ok (.lload_n 1, 1) := by decide +kernel
theorem d5_134 : decode prog_36_method_12_code 134 = .ok (.lconst 1, 1) := by decide +kernel
theorem d5_135 : decode prog_36_method_12_code 135 = .ok (.lsub, 1) := by decide +kernel
theorem d5_136 : decode prog_36_method_12_code 136 = .ok (.l2i, 1) := by decide +kernel
theorem d5_137 : decode prog_36_method_12_code 137 = .ok (.putfield 23, 3) := by decide +kernel
theorem d5_140 : decode prog_36_method_12_code 140 = .ok (.aload_n 0, 1) := by decide +kernel
theorem d5_141 : decode prog_36_method_12_code 141 = .ok (.iconst 0, 1) := by decide +kernel
theorem d5_142 : decode prog_36_method_12_code 142 = .ok (.putfield 27, 3) := by decide +kernel
theorem d5_145 : decode prog_36_method_12_code 145 = .ok (.return_, 1) := by decide +kernel
set_option maxRecDepth 65536 in
set_option maxHeartbeats 40000000 in
theorem rm_clear (l : Launch) (Z : State) (a0 : Array Value) (hw : ∀ d ∈ tables_1, d.before a0 Z = true) (ws : List Jvm.Cond) (a : Addr) (u : Value) (u' : Value) (u'' : Value) (h0 : Heap) (n0 : Nat) (Z0 : n0 ≤ h0.size) (Pf_0 : Exa Z h0 a "com/example/verum/verum/HashSlots") (Pf_1 : Fld Z h0 a "com/example/verum/verum/HashSlots" "pages" "[[I" u) (Pf_2 : Fld Z h0 a "com/example/verum/verum/HashSlots" "mask" "I" u') (Pf_3 : Fld Z h0 a "com/example/verum/verum/HashSlots" "shared" "Z" u'') (g_a : n0 ≤ a) :
    Con l Z (⟨"com/example/verum/verum/HashSlots", "clear", "(J)V"⟩ : MethodName) prog_36_method_12_code 6 none ws ({ frames := 0, cells := 2, slots := 17, locals := 0 } : Room) #[(.ref a), (.long (16 : Int64))] h0 (Q_rm_clear Z a u u' u'' h0 n0) := by
  refine MetFree.of_bodySF (plainFor_of_name pn_HashSlots) hisR ?_
  intro p e s m args below meth c s₁ Bd hml0 hP hK
  obtain ⟨rfl, hZ, hh⟩ := hP
  have hx := Bd.exec
  have hby := Bd.bytes
  have hml : c.maxLocals = 6 := hml0
  have hown : s.vm.findClass "com/example/verum/verum/HashSlots" = some m.cls := findClass_of_methodNamed Bd.named
  have hnm := (name_of_methodNamed Bd.named Bd.method).1
  have X0 : Stand p l e ({ frames := 0, cells := 2, slots := 17, locals := 0 } : Room) s m #[(.ref a), (.long (16 : Int64))] below meth c s₁ [] 0 0 := Stand.of_body Bd
  have e0 : s₁.heap = h0 := by rw [← hh, Bd.state]; rfl
  have N0 := Fr.nil n0
  have k0 : Rch p e below (s₁.setTop (entryFrame m #[(.ref a), (.long (16 : Int64))] 6)) s₁ (mkF m 0 #[.val (.ref a), .val (.long (16 : Int64)), .second, .unset, .unset, .unset] []) := fun tg kg => castTop (ef_rm_clear m a (16 : Int64)) kg
  have lt_Pf_0 := own_ltN Pf_0.lt
  have lt_Pf_1 := own_ltN Pf_1.lt
  have lt_Pf_2 := own_ltN Pf_2.lt
  have lt_Pf_3 := own_ltN Pf_3.lt
  have k1 : Rch p e below (s₁.setTop (entryFrame m #[(.ref a), (.long (16 : Int64))] 6)) s₁ (mkF m 10 #[.val (.ref a), .val (.long (16 : Int64)), .second, .unset, .unset, .unset] [(.int (1 : Int32)), (.ref a)]) := fun tg kg => by
    refine k0 tg ?_
    show Steps p.tables e below (s₁.setTop (mkF m 0 #[.val (.ref a), .val (.long (16 : Int64)), .second, .unset, .unset, .unset] [])) tg
    refine XS.lloadN X0.here hx rfl (hb hby d5_0) rfl ?_
    refine X0.ldc2Long hx hown (mvT hZ (hw _ (List.mem_of_getElem? (i := 30) rfl))) (g := (mkF m 1 #[.val (.ref a), .val (.long (16 : Int64)), .second, .unset, .unset, .unset] [(.long (16 : Int64))])) rfl (hb hby d5_1) _ ?_
    refine XS.lcmp X0.here hx rfl (hb hby d5_4) rfl ?_
    refine XS.ifNo X0.here hx rfl (hb hby d5_5) rfl ((if0 _ _).trans (flt (by decide)).2.2.1) ?_
    refine XS.aloadN X0.here hx rfl (hb hby d5_8) rfl rfl ?_
    show Steps p.tables e below (s₁.setTop (mkF m 9 #[.val (.ref a), .val (.long (16 : Int64)), .second, .unset, .unset, .unset] [(.ref a)])) tg
    refine XS.iconst X0.here hx rfl (hb hby d5_9) ?_
    exact kg
  obtain ⟨T2, h2, c2, X2, e2, E2, A2, Ea2, O2, st2⟩ := newRA X0 hx hZ hown (ty := .int) (by decide) (hw _ (List.mem_of_getElem? (i := 21) rfl)) (hw _ (List.mem_of_getElem? (i := 22) rfl)) e0 (g := (mkF m 10 #[.val (.ref a), .val (.long (16 : Int64)), .second, .unset, .unset, .unset] [(.int (1 : Int32)), (.ref a)])) rfl (hb hby d5_10) rfl (by decide) (cap := 1) (by decide) (by decide) (by decide) (by decide) (ad := "[[I") rfl
  obtain ⟨b2, g2⟩ : ∃ z, z = h0.size := ⟨_, rfl⟩
  rw [← g2] at A2 st2 Ea2
  have s2 : h0.size ≤ h2.size := E2.1
  have lt2 : b2 < h2.size := A2.lt
  have k3 : Rch p e below (s₁.setTop (entryFrame m #[(.ref a), (.long (16 : Int64))] 6)) T2 (mkF m 13 #[.val (.ref a), .val (.long (16 : Int64)), .second, .unset, .unset, .unset] [(.ref b2), (.ref a)]) := fun tg kg => k1 tg (st2 tg kg)
  have V2 : Arv Z h2 b2 c2 (.array .int) (1 : Int32) [.null] .null := (Arv.new A2 (by decide)).pad (pad_rep [] .null 1)
  have k4 : Rch p e below (s₁.setTop (entryFrame m #[(.ref a), (.long (16 : Int64))] 6)) T2 (mkF m 17 #[.val (.ref a), .val (.long (16 : Int64)), .second, .unset, .unset, .unset] [(.int ((16 : Int64).toInt32)), (.int (0 : Int32)), (.ref b2), (.ref b2), (.ref a)]) := fun tg kg => by
    refine k3 tg ?_
    show Steps p.tables e below (T2.setTop (mkF m 13 #[.val (.ref a), .val (.long (16 : Int64)), .second, .unset, .unset, .unset] [(.ref b2), (.ref a)])) tg
    refine XS.dup X2.here hx rfl (hb hby d5_13) rfl rfl ?_
    refine XS.iconst X2.here hx rfl (hb hby d5_14) ?_
    refine XS.lloadN X2.here hx rfl (hb hby d5_15) rfl ?_
    refine XS.l2i X2.here hx rfl (hb hby d5_16) rfl ?_
    exact kg
  obtain ⟨T5, h5, c5, X5, e5, E5, A5, Ea5, st5⟩ := newPE X2 hx hZ (hw _ (List.mem_of_getElem? (i := 0) rfl)) e2 (g := (mkF m 17 #[.val (.ref a), .val (.long (16 : Int64)), .second, .unset, .unset, .unset] [(.int ((16 : Int64).toInt32)), (.int (0 : Int32)), (.ref b2), (.ref b2), (.ref a)])) rfl (hb hby d5_17) rfl (by decide) (cap := 16) (by decide) (by decide) (by decide) (by decide) (ad := "[I") rfl
  obtain ⟨b5, g5⟩ : ∃ z, z = h2.size := ⟨_, rfl⟩
  rw [← g5] at A5 st5 Ea5
  have s5 : h2.size ≤ h5.size := E5.1
  have lt5 : b5 < h5.size := A5.lt
  have k6 : Rch p e below (s₁.setTop (entryFrame m #[(.ref a), (.long (16 : Int64))] 6)) T5 (mkF m 19 #[.val (.ref a), .val (.long (16 : Int64)), .second, .unset, .unset, .unset] [(.ref b5), (.int (0 : Int32)), (.ref b2), (.ref b2), (.ref a)]) := fun tg kg => k4 tg (st5 tg kg)
  have V5 : Arv Z h5 b5 c5 .int ((16 : Int64).toInt32) [(.int (0 : Int32)), (.int (0 : Int32)), (.int (0 : Int32)), (.int (0 : Int32)), (.int (0 : Int32)), (.int (0 : Int32)), (.int (0 : Int32)), (.int (0 : Int32)), (.int (0 : Int32)), (.int (0 : Int32)), (.int (0 : Int32)), (.int (0 : Int32)), (.int (0 : Int32)), (.int (0 : Int32)), (.int (0 : Int32)), (.int (0 : Int32))] (.int (0 : Int32)) := (Arv.new A5 (by decide)).pad (pad_rep [] (.int (0 : Int32)) 16)
  have f7 : Arv Z h5 b5 c5 .int (16 : Int32) [(.int (0 : Int32)), (.int (0 : Int32)), (.int (0 : Int32)), (.int (0 : Int32)), (.int (0 : Int32)), (.int (0 : Int32)), (.int (0 : Int32)), (.int (0 : Int32)), (.int (0 : Int32)), (.int (0 : Int32)), (.int (0 : Int32)), (.int (0 : Int32)), (.int (0 : Int32)), (.int (0 : Int32)), (.int (0 : Int32)), (.int (0 : Int32))] (.int (0 : Int32)) := V5
  have f8 : Arv Z h5 b2 c2 (.array .int) (1 : Int32) [.null] .null := (V2.ext E5)
  obtain ⟨cl9, Ar9, q9, S9, N9', H9, G9⟩ := f8
  have hin9 : ¬ ((0 : Int32) < 0 ∨ cl9.slots.size ≤ ((0 : Int32)).toNatClampNeg) := inb_of S9 ⟨by decide, by decide⟩
  obtain ⟨T9, h9, X9, e9, W9, st9⟩ := stR X5 hx hZ e5 Ar9 (j := (0 : Int32)) hin9 rfl (Sto.ofVA Ar9 q9 O2 (Ins.self Ea5)) (g := (mkF m 19 #[.val (.ref a), .val (.long (16 : Int64)), .second, .unset, .unset, .unset] [(.ref b5), (.int (0 : Int32)), (.ref b2), (.ref b2), (.ref a)])) rfl rfl (hb hby d5_19)
  have s9 : h9.size = h5.size := W9.size
  have N9 := Fr.snoc X9 N0 (by omega : n0 ≤ b2)
  have k10 : Rch p e below (s₁.setTop (entryFrame m #[(.ref a), (.long (16 : Int64))] 6)) T9 (mkF m 20 #[.val (.ref a), .val (.long (16 : Int64)), .second, .unset, .unset, .unset] [(.ref b2), (.ref a)]) := fun tg kg => k6 tg (st9 tg kg)
  have V9 : Arv Z h9 b2 c2 (.array .int) (1 : Int32) [(.ref b5)] .null := Arv.set Ar9 q9 S9 N9' H9 G9 rfl W9 0 rfl (Nat.le_of_ble_eq_true rfl)
  have f11 : Fld Z h9 a "com/example/verum/verum/HashSlots" "pages" "[[I" u := (((Pf_1.ext E2).ext E5).other W9 (Or.inl (by first | exact own_ne (by omega) | assumption | (apply Ne.symm; assumption))))
  have f12 : Exa Z h9 a "com/example/verum/verum/HashSlots" := (((Pf_0.ext E2).ext E5).wr W9)
  obtain ⟨T13, h13, X13, e13, W13, st13⟩ := putF X9 hx hZ hown (host := "") (Or.inl (hw _ (List.mem_of_getElem? (i := 23) rfl))) Via.refl e9 f11 f12 (Or.inl (hw _ (List.mem_of_getElem? (i := 24) rfl))) (hw _ (List.mem_of_getElem? (i := 11) rfl)) (ty := (.array (.array .int))) (by decide) rfl rfl (g := (mkF m 20 #[.val (.ref a), .val (.long (16 : Int64)), .second, .unset, .unset, .unset] [(.ref b2), (.ref a)])) rfl rfl (hb hby d5_20)
  have Fw13 := f11.same W13
  have s13 : h13.size = h9.size := W13.size
  have N13 := Fr.snoc X13 N9 (by omega : n0 ≤ a)
  have k14 : Rch p e below (s₁.setTop (entryFrame m #[(.ref a), (.long (16 : Int64))] 6)) T13 (mkF m 23 #[.val (.ref a), .val (.long (16 : Int64)), .second, .unset, .unset, .unset] []) := fun tg kg => k10 tg (st13 tg kg)
  have k15 : Rch p e below (s₁.setTop (entryFrame m #[(.ref a), (.long (16 : Int64))] 6)) T13 (mkF m 137 #[.val (.ref a), .val (.long (16 : Int64)), .second, .unset, .unset, .unset] [(.int (((16 : Int64) - (1 : Int64)).toInt32)), (.ref a)]) := fun tg kg => by
    refine k14 tg ?_
    show Steps p.tables e below (T13.setTop (mkF m 23 #[.val (.ref a), .val (.long (16 : Int64)), .second, .unset, .unset, .unset] [])) tg
    refine XS.goto X13.here hx rfl (pc0 := 23) (pc' := 132) rfl (hb hby d5_23) (by decide) (by decide) ?_
    show Steps p.tables e below (T13.setTop (mkF m 132 #[.val (.ref a), .val (.long (16 : Int64)), .second, .unset, .unset, .unset] [])) tg
    refine XS.aloadN X13.here hx rfl (hb hby d5_132) rfl rfl ?_
    refine XS.lloadN X13.here hx rfl (hb hby d5_133) rfl ?_
    refine XS.lconst X13.here hx rfl (hb hby d5_134) ?_
    refine XS.lsub X13.here hx rfl (hb hby d5_135) rfl ?_
    refine XS.l2i X13.here hx rfl (hb hby d5_136) rfl ?_
    exact kg
  have f16 : Fld Z h13 a "com/example/verum/verum/HashSlots" "mask" "I" u' := ((((Pf_2.ext E2).ext E5).other W9 (Or.inl (by first | exact own_ne (by omega) | assumption | (apply Ne.symm; assumption)))).other W13 (Or.inr (slot_ne (Or.inl (hw _ (List.mem_of_getElem? (i := 33) rfl))) (Or.inl (hw _ (List.mem_of_getElem? (i := 24) rfl))) (by decide) (t := .int) (t' := (.array (.array .int))) (by decide) (by decide))))
  have f17 : Exa Z h13 a "com/example/verum/verum/HashSlots" := (f12.wr W13)
  obtain ⟨T18, h18, X18, e18, W18, st18⟩ := putF X13 hx hZ hown (host := "") (Or.inl (hw _ (List.mem_of_getElem? (i := 32) rfl))) Via.refl e13 f16 f17 (Or.inl (hw _ (List.mem_of_getElem? (i := 33) rfl))) (hw _ (List.mem_of_getElem? (i := 11) rfl)) (ty := .int) (by decide) rfl rfl (g := (mkF m 137 #[.val (.ref a), .val (.long (16 : Int64)), .second, .unset, .unset, .unset] [(.int (((16 : Int64) - (1 : Int64)).toInt32)), (.ref a)])) rfl rfl (hb hby d5_137)
  have Fw18 := f16.same W18
  have s18 : h18.size = h13.size := W18.size
  have N18 := Fr.snoc X18 N13 (by omega : n0 ≤ a)
  have k19 : Rch p e below (s₁.setTop (entryFrame m #[(.ref a), (.long (16 : Int64))] 6)) T18 (mkF m 140 #[.val (.ref a), .val (.long (16 : Int64)), .second, .unset, .unset, .unset] []) := fun tg kg => k15 tg (st18 tg kg)
  have f20 : Fld Z h18 a "com/example/verum/verum/HashSlots" "mask" "I" (.int (15 : Int32)) := Fw18
  have k21 : Rch p e below (s₁.setTop (entryFrame m #[(.ref a), (.long (16 : Int64))] 6)) T18 (mkF m 142 #[.val (.ref a), .val (.long (16 : Int64)), .second, .unset, .unset, .unset] [(.int (0 : Int32)), (.ref a)]) := fun tg kg => by
    refine k19 tg ?_
    show Steps p.tables e below (T18.setTop (mkF m 140 #[.val (.ref a), .val (.long (16 : Int64)), .second, .unset, .unset, .unset] [])) tg
    refine XS.aloadN X18.here hx rfl (hb hby d5_140) rfl rfl ?_
    show Steps p.tables e below (T18.setTop (mkF m 141 #[.val (.ref a), .val (.long (16 : Int64)), .second, .unset, .unset, .unset] [(.ref a)])) tg
    refine XS.iconst X18.here hx rfl (hb hby d5_141) ?_
    exact kg
  have f22 : Fld Z h18 a "com/example/verum/verum/HashSlots" "shared" "Z" u'' := (((((Pf_3.ext E2).ext E5).other W9 (Or.inl (by first | exact own_ne (by omega) | assumption | (apply Ne.symm; assumption)))).other W13 (Or.inr (slot_ne (Or.inl (hw _ (List.mem_of_getElem? (i := 35) rfl))) (Or.inl (hw _ (List.mem_of_getElem? (i := 24) rfl))) (by decide) (t := .boolean) (t' := (.array (.array .int))) (by decide) (by decide)))).other W18 (Or.inr (slot_ne (Or.inl (hw _ (List.mem_of_getElem? (i := 35) rfl))) (Or.inl (hw _ (List.mem_of_getElem? (i := 33) rfl))) (by decide) (t := .boolean) (t' := .int) (by decide) (by decide))))
  have f23 : Exa Z h18 a "com/example/verum/verum/HashSlots" := (f17.wr W18)
  obtain ⟨T24, h24, X24, e24, W24, st24⟩ := putFN X18 hx hZ hown (hw _ (List.mem_of_getElem? (i := 34) rfl)) Via.refl e18 f22 f23 (Or.inl (hw _ (List.mem_of_getElem? (i := 35) rfl))) (hw _ (List.mem_of_getElem? (i := 11) rfl)) (ty := .boolean) (v' := (.int (nar .boolean (0 : Int32)))) (by decide) rfl (fits_nar_bool _) (g := (mkF m 142 #[.val (.ref a), .val (.long (16 : Int64)), .second, .unset, .unset, .unset] [(.int (0 : Int32)), (.ref a)])) rfl rfl (hb hby d5_142)
  have Fw24 := f22.same W24
  have s24 : h24.size = h18.size := W24.size
  have N24 := Fr.snoc X24 N18 (by omega : n0 ≤ a)
  have k25 : Rch p e below (s₁.setTop (entryFrame m #[(.ref a), (.long (16 : Int64))] 6)) T24 (mkF m 145 #[.val (.ref a), .val (.long (16 : Int64)), .second, .unset, .unset, .unset] []) := fun tg kg => k21 tg (st24 tg kg)
  have f26 : Fld Z h24 a "com/example/verum/verum/HashSlots" "shared" "Z" (.int (0 : Int32)) := Fw24
  have f27 : Exa Z h24 a "com/example/verum/verum/HashSlots" := (f23.wr W24)
  have f28 : Fld Z h24 a "com/example/verum/verum/HashSlots" "pages" "[[I" (.ref b2) := ((Fw13.other W18 (Or.inr (slot_ne (Or.inl (hw _ (List.mem_of_getElem? (i := 24) rfl))) (Or.inl (hw _ (List.mem_of_getElem? (i := 33) rfl))) (by decide) (t := (.array (.array .int))) (t' := .int) (by decide) (by decide)))).other W24 (Or.inr (slot_ne (Or.inl (hw _ (List.mem_of_getElem? (i := 24) rfl))) (Or.inl (hw _ (List.mem_of_getElem? (i := 35) rfl))) (by decide) (t := (.array (.array .int))) (t' := .boolean) (by decide) (by decide))))
  have f29 : Fld Z h24 a "com/example/verum/verum/HashSlots" "mask" "I" (.int (15 : Int32)) := (f20.other W24 (Or.inr (slot_ne (Or.inl (hw _ (List.mem_of_getElem? (i := 33) rfl))) (Or.inl (hw _ (List.mem_of_getElem? (i := 35) rfl))) (by decide) (t := .int) (t' := .boolean) (by decide) (by decide))))
  have f30 : Arv Z h24 b2 c2 (.array .int) (1 : Int32) [(.ref b5)] .null := (((V9.other W13 (by first | exact own_ne (by omega) | assumption | (apply Ne.symm; assumption))).other W18 (by first | exact own_ne (by omega) | assumption | (apply Ne.symm; assumption))).other W24 (by first | exact own_ne (by omega) | assumption | (apply Ne.symm; assumption)))
  have f31 : Arv Z h24 b5 c5 .int (16 : Int32) [(.int (0 : Int32)), (.int (0 : Int32)), (.int (0 : Int32)), (.int (0 : Int32)), (.int (0 : Int32)), (.int (0 : Int32)), (.int (0 : Int32)), (.int (0 : Int32)), (.int (0 : Int32)), (.int (0 : Int32)), (.int (0 : Int32)), (.int (0 : Int32)), (.int (0 : Int32)), (.int (0 : Int32)), (.int (0 : Int32)), (.int (0 : Int32))] (.int (0 : Int32)) := ((((f7.other W9 (by first | exact own_ne (by omega) | assumption | (apply Ne.symm; assumption))).other W13 (by first | exact own_ne (by omega) | assumption | (apply Ne.symm; assumption))).other W18 (by first | exact own_ne (by omega) | assumption | (apply Ne.symm; assumption))).other W24 (by first | exact own_ne (by omega) | assumption | (apply Ne.symm; assumption)))
  obtain ⟨fs32, hr32, hrun32, hended32, hW32, hsame32⟩ := X24.leave (v := none) (fun _ => rfl)
  refine ⟨_, _, k25 _ ?_, hrun32, hended32, _, _, rfl, ?_, ⟨_, rfl⟩, hW32, hsame32.mono (by decide) (by decide)⟩
  · exact X24.returnOut hx Bd.returns (hb hby d5_145) hr32
  · show Q_rm_clear Z a u u' u'' h0 n0 _ T24.heap _
    rw [e24]
    exact ⟨b2, b5, c2, c5, rfl, N24, (((((((Keep.refl h0 [a]).ext E2).ext E5).wr W9 (Or.inr (by omega))).wr W13 (Or.inl (List.mem_of_getElem? (i := 0) rfl))).wr W18 (Or.inl (List.mem_of_getElem? (i := 0) rfl))).wr W24 (Or.inl (List.mem_of_getElem? (i := 0) rfl))), f27, f28, f29, f26, f30, f31, ⟨by omega, own_ltN (by omega), own_ltN (by omega)⟩⟩
theorem ef_rm_hs1 (m : MethodId) (x0 : Addr) (x1 : Int64) : entryFrame m #[(.ref x0), (.long x1)] 3 = mkF m 0 #[.val (.ref x0), .val (.long x1), .second] [] := by first | (simp [entryFrame, mkF, argsToLocals, Value.category]; done) | rfl
def Q_rm_hs1 (Z : State) (a : Addr) (u : Value) (u' : Value) (u'' : Value) (h0 : Heap) (n0 : Nat) (v : Option Value) (h : Heap) (L : List Loc) : Prop := ∃ (hp : Addr) (ht : Addr) (khp : ClassId) (kht : ClassId), (v = none) ∧ (Fr n0 L) ∧ (Keep h0 h [a]) ∧ (Exa Z h a "com/example/verum/verum/HashSlots") ∧ (Fld Z h a "com/example/verum/verum/HashSlots" "pages" "[[I" (.ref hp)) ∧ (Fld Z h a "com/example/verum/verum/HashSlots" "mask" "I" (.int (15 : Int32))) ∧ (Fld Z h a "com/example/verum/verum/HashSlots" "shared" "Z" (.int (0 : Int32))) ∧ (Arv Z h hp khp (.array .int) (1 : Int32) [(.ref ht)] .null) ∧ (Arv Z h ht kht .int (16 : Int32) [(.int (0 : Int32)), (.int (0 : Int32)), (.int (0 : Int32)), (.int (0 : Int32)), (.int (0 : Int32)), (.int (0 : Int32)), (.int (0 : Int32)), (.int (0 : Int32)), (.int (0 : Int32)), (.int (0 : Int32)), (.int (0 : Int32)), (.int (0 : Int32)), (.int (0 : Int32)), (.int (0 : Int32)), (.int (0 : Int32)), (.int (0 : Int32))] (.int (0 : Int32))) ∧ (h0.size ≤ hp ∧ hp < ht ∧ (ht : Nat) < h.size)
theorem d4_0 : decode prog_36_method_2_code 0 = .ok (.aload_n 0, 1) := by decide +kernel
theorem d4_1 : decode prog_36_method_2_code 1 = .ok (.invokespecial 9, 3) := by decide +kernel
theorem d4_4 : decode prog_36_method_2_code 4 = .ok (.aload_n 0, 1) := by decide +kernel
theorem d4_5 : decode prog_36_method_2_code 5 = .ok (.iconst 0, 1) := by decide +kernel
theorem d4_6 : decode prog_36_method_2_code 6 = .ok (.anewarray 14, 3) := by decide +kernel
theorem d4_9 : decode prog_36_method_2_code 9 = .ok (.putfield 16, 3) := by decide +kernel
theorem d4_12 : decode prog_36_method_2_code 12 = .ok (.aload_n 0, 1) := by decide +kernel
theorem d4_13 : decode prog_36_method_2_code 13 = .ok (.lload_n 1, 1) := by decide +kernel
theorem pd_1 : parseMethodDescriptor "(J)V" = some ⟨[.long], none⟩ := by decide +kernel
theorem d4_14 : decode prog_36_method_2_code 14 = .ok (.invokevirtual 20, 3) := by decide +kernel
theorem d4_17 : decode prog_36_method_2_code 17 = .ok (.return_, 1) := by decide +kernel
set_option maxRecDepth 65536 in
set_option maxHeartbeats 40000000 in
theorem rm_hs1 (l : Launch) (Z : State) (a0 : Array Value) (hw : ∀ d ∈ tables_1, d.before a0 Z = true) (ws : List Jvm.Cond) (a : Addr) (u : Value) (u' : Value) (u'' : Value) (h0 : Heap) (n0 : Nat) (Z0 : n0 ≤ h0.size) (Pf_0 : Exa Z h0 a "com/example/verum/verum/HashSlots") (Pf_1 : Fld Z h0 a "com/example/verum/verum/HashSlots" "pages" "[[I" u) (Pf_2 : Fld Z h0 a "com/example/verum/verum/HashSlots" "mask" "I" u') (Pf_3 : Fld Z h0 a "com/example/verum/verum/HashSlots" "shared" "Z" u'') (g_a : n0 ≤ a) :
    Con l Z (⟨"com/example/verum/verum/HashSlots", "<init>", "(J)V"⟩ : MethodName) prog_36_method_2_code 3 none ws ({ frames := 1, cells := 3, slots := 17, locals := 17 } : Room) #[(.ref a), (.long (16 : Int64))] h0 (Q_rm_hs1 Z a u u' u'' h0 n0) := by
  refine MetFree.of_bodySF (plainFor_of_name pn_HashSlots) hisR ?_
  intro p e s m args below meth c s₁ Bd hml0 hP hK
  obtain ⟨rfl, hZ, hh⟩ := hP
  have hx := Bd.exec
  have hby := Bd.bytes
  have hml : c.maxLocals = 3 := hml0
  have hown : s.vm.findClass "com/example/verum/verum/HashSlots" = some m.cls := findClass_of_methodNamed Bd.named
  have hnm := (name_of_methodNamed Bd.named Bd.method).1
  have X0 : Stand p l e ({ frames := 1, cells := 3, slots := 17, locals := 17 } : Room) s m #[(.ref a), (.long (16 : Int64))] below meth c s₁ [] 0 0 := Stand.of_body Bd
  have e0 : s₁.heap = h0 := by rw [← hh, Bd.state]; rfl
  have N0 := Fr.nil n0
  have k0 : Rch p e below (s₁.setTop (entryFrame m #[(.ref a), (.long (16 : Int64))] 3)) s₁ (mkF m 0 #[.val (.ref a), .val (.long (16 : Int64)), .second] []) := fun tg kg => castTop (ef_rm_hs1 m a (16 : Int64)) kg
  have lt_Pf_0 := own_ltN Pf_0.lt
  have lt_Pf_1 := own_ltN Pf_1.lt
  have lt_Pf_2 := own_ltN Pf_2.lt
  have lt_Pf_3 := own_ltN Pf_3.lt
  have k1 : Rch p e below (s₁.setTop (entryFrame m #[(.ref a), (.long (16 : Int64))] 3)) s₁ (mkF m 1 #[.val (.ref a), .val (.long (16 : Int64)), .second] [(.ref a)]) := fun tg kg => by
    refine k0 tg ?_
    show Steps p.tables e below (s₁.setTop (mkF m 0 #[.val (.ref a), .val (.long (16 : Int64)), .second] [])) tg
    refine XS.aloadN X0.here hx rfl (hb hby d4_0) rfl rfl ?_
    exact kg
  obtain ⟨T2, X2, e2, st2⟩ := initO X0 hx hZ hown (hw _ (List.mem_of_getElem? (i := 20) rfl)) (hw _ (List.mem_of_getElem? (i := 8) rfl)) (hw _ (List.mem_of_getElem? (i := 9) rfl)) e0 (g := (mkF m 1 #[.val (.ref a), .val (.long (16 : Int64)), .second] [(.ref a)])) rfl (by rw [hml]; rfl) rfl (hb hby d4_1) (by decide) (W := 0) (by show 2 * 0 + _ ≤ _; exact Nat.le_of_eq rfl) (by decide)
  have k3 : Rch p e below (s₁.setTop (entryFrame m #[(.ref a), (.long (16 : Int64))] 3)) T2 (mkF m 4 #[.val (.ref a), .val (.long (16 : Int64)), .second] []) := fun tg kg => k1 tg (st2 tg kg)
  have k4 : Rch p e below (s₁.setTop (entryFrame m #[(.ref a), (.long (16 : Int64))] 3)) T2 (mkF m 6 #[.val (.ref a), .val (.long (16 : Int64)), .second] [(.int (0 : Int32)), (.ref a)]) := fun tg kg => by
    refine k3 tg ?_
    show Steps p.tables e below (T2.setTop (mkF m 4 #[.val (.ref a), .val (.long (16 : Int64)), .second] [])) tg
    refine XS.aloadN X2.here hx rfl (hb hby d4_4) rfl rfl ?_
    refine XS.iconst X2.here hx rfl (hb hby d4_5) ?_
    exact kg
  obtain ⟨T5, h5, c5, X5, e5, E5, A5, Ea5, O5, st5⟩ := newRA X2 hx hZ hown (ty := .int) (by decide) (hw _ (List.mem_of_getElem? (i := 21) rfl)) (hw _ (List.mem_of_getElem? (i := 22) rfl)) e2 (g := (mkF m 6 #[.val (.ref a), .val (.long (16 : Int64)), .second] [(.int (0 : Int32)), (.ref a)])) rfl (hb hby d4_6) rfl (by decide) (cap := 0) (by decide) (by decide) (by decide) (by decide) (ad := "[[I") rfl
  obtain ⟨b5, g5⟩ : ∃ z, z = h0.size := ⟨_, rfl⟩
  rw [← g5] at A5 st5 Ea5
  have s5 : h0.size ≤ h5.size := E5.1
  have lt5 : b5 < h5.size := A5.lt
  have k6 : Rch p e below (s₁.setTop (entryFrame m #[(.ref a), (.long (16 : Int64))] 3)) T5 (mkF m 9 #[.val (.ref a), .val (.long (16 : Int64)), .second] [(.ref b5), (.ref a)]) := fun tg kg => k4 tg (st5 tg kg)
  have V5 : Arv Z h5 b5 c5 (.array .int) (0 : Int32) [] .null := (Arv.new A5 (by decide)).pad (pad_rep [] .null 0)
  have f7 : Fld Z h5 a "com/example/verum/verum/HashSlots" "pages" "[[I" u := (Pf_1.ext E5)
  have f8 : Exa Z h5 a "com/example/verum/verum/HashSlots" := (Pf_0.ext E5)
  obtain ⟨T9, h9, X9, e9, W9, st9⟩ := putF X5 hx hZ hown (host := "") (Or.inl (hw _ (List.mem_of_getElem? (i := 23) rfl))) Via.refl e5 f7 f8 (Or.inl (hw _ (List.mem_of_getElem? (i := 24) rfl))) (hw _ (List.mem_of_getElem? (i := 11) rfl)) (ty := (.array (.array .int))) (by decide) rfl rfl (g := (mkF m 9 #[.val (.ref a), .val (.long (16 : Int64)), .second] [(.ref b5), (.ref a)])) rfl rfl (hb hby d4_9)
  have Fw9 := f7.same W9
  have s9 : h9.size = h5.size := W9.size
  have N9 := Fr.snoc X9 N0 (by omega : n0 ≤ a)
  have k10 : Rch p e below (s₁.setTop (entryFrame m #[(.ref a), (.long (16 : Int64))] 3)) T9 (mkF m 12 #[.val (.ref a), .val (.long (16 : Int64)), .second] []) := fun tg kg => k6 tg (st9 tg kg)
  have k11 : Rch p e below (s₁.setTop (entryFrame m #[(.ref a), (.long (16 : Int64))] 3)) T9 (mkF m 14 #[.val (.ref a), .val (.long (16 : Int64)), .second] [(.long (16 : Int64)), (.ref a)]) := fun tg kg => by
    refine k10 tg ?_
    show Steps p.tables e below (T9.setTop (mkF m 12 #[.val (.ref a), .val (.long (16 : Int64)), .second] [])) tg
    refine XS.aloadN X9.here hx rfl (hb hby d4_12) rfl rfl ?_
    refine XS.lloadN X9.here hx rfl (hb hby d4_13) rfl ?_
    exact kg
  have f13 : Exa Z h9 a "com/example/verum/verum/HashSlots" := (f8.wr W9)
  have f14 : Fld Z h9 a "com/example/verum/verum/HashSlots" "mask" "I" u' := ((Pf_2.ext E5).other W9 (Or.inr (slot_ne (Or.inl (hw _ (List.mem_of_getElem? (i := 33) rfl))) (Or.inl (hw _ (List.mem_of_getElem? (i := 24) rfl))) (by decide) (t := .int) (t' := (.array (.array .int))) (by decide) (by decide))))
  have f15 : Fld Z h9 a "com/example/verum/verum/HashSlots" "shared" "Z" u'' := ((Pf_3.ext E5).other W9 (Or.inr (slot_ne (Or.inl (hw _ (List.mem_of_getElem? (i := 35) rfl))) (Or.inl (hw _ (List.mem_of_getElem? (i := 24) rfl))) (by decide) (t := .boolean) (t' := (.array (.array .int))) (by decide) (by decide))))
  obtain ⟨v12, T12, h12, Lc12, X12, e12, hQ12, st12⟩ := own_callV X9 hx hZ hown (hw _ (List.mem_of_getElem? (i := 25) rfl)) (hw _ (List.mem_of_getElem? (i := 26) rfl)) (notFace_of_selects (args := #[]) (mvT hZ (hw _ (List.mem_of_getElem? (i := 28) rfl)))) (hw _ (List.mem_of_getElem? (i := 28) rfl)) (hw _ (List.mem_of_getElem? (i := 27) rfl)) (hw _ (List.mem_of_getElem? (i := 29) rfl)) (hw _ (List.mem_of_getElem? (i := 12) rfl)) (by decide) (rm_clear l Z a0 hw [] a (.ref b5) u' u'' h9 n0 (by omega) f13 Fw9 f14 f15 (by assumption)) e9 f13 (g := (mkF m 14 #[.val (.ref a), .val (.long (16 : Int64)), .second] [(.long (16 : Int64)), (.ref a)])) rfl (by rw [hml]; rfl) (argsL := [(.long (16 : Int64))]) (rest := []) rfl (lenOf pd_1 rfl) rfl (W := 0) (by show 2 * 0 + _ ≤ _; exact Nat.le_of_eq rfl) (hb hby d4_14) (by decide) (by decide) (by decide) (by decide)
  obtain ⟨hpq, htq, khpq, khtq, rfl, Nq12, K12, fq12_3, fq12_4, fq12_5, fq12_6, fq12_7, fq12_8, hp12_ord⟩ := hQ12
  have N12 := Fr.app N9 Nq12
  have s12 : h9.size ≤ h12.size := K12.1
  have k16 : Rch p e below (s₁.setTop (entryFrame m #[(.ref a), (.long (16 : Int64))] 3)) T12 (mkF m 17 #[.val (.ref a), .val (.long (16 : Int64)), .second] []) := fun tg kg => k11 tg (st12 tg kg)
  have lt_fq12_3 := own_ltN fq12_3.lt
  have lt_fq12_4 := own_ltN fq12_4.lt
  have lt_fq12_5 := own_ltN fq12_5.lt
  have lt_fq12_6 := own_ltN fq12_6.lt
  have lt_fq12_7 := own_ltN fq12_7.lt
  have lt_fq12_8 := own_ltN fq12_8.lt
  obtain ⟨o1, o2, o3⟩ := hp12_ord
  obtain ⟨fs17, hr17, hrun17, hended17, hW17, hsame17⟩ := X12.leave (v := none) (fun _ => rfl)
  refine ⟨_, _, k16 _ ?_, hrun17, hended17, _, _, rfl, ?_, ⟨_, rfl⟩, hW17, hsame17.mono (by decide) (by decide)⟩
  · exact X12.returnOut hx Bd.returns (hb hby d4_17) hr17
  · show Q_rm_hs1 Z a u u' u'' h0 n0 _ T12.heap _
    rw [e12]
    exact ⟨hpq, htq, khpq, khtq, rfl, N12, ((((Keep.refl h0 [a]).ext E5).wr W9 (Or.inl (List.mem_of_getElem? (i := 0) rfl))).trans K12 (allS (Or.inl (List.mem_of_getElem? (i := 0) rfl)) all0)), fq12_3, fq12_4, fq12_5, fq12_6, fq12_7, fq12_8, ⟨by omega, o2, o3⟩⟩
theorem ef_rm_hs0 (m : MethodId) (x0 : Addr) : entryFrame m #[(.ref x0)] 1 = mkF m 0 #[.val (.ref x0)] [] := by first | (simp [entryFrame, mkF, argsToLocals, Value.category]; done) | rfl
def Q_rm_hs0 (Z : State) (a : Addr) (u : Value) (u' : Value) (u'' : Value) (h0 : Heap) (n0 : Nat) (v : Option Value) (h : Heap) (L : List Loc) : Prop := ∃ (hp : Addr) (ht : Addr) (khp : ClassId) (kht : ClassId), (v = none) ∧ (Fr n0 L) ∧ (Keep h0 h [a]) ∧ (Exa Z h a "com/example/verum/verum/HashSlots") ∧ (Fld Z h a "com/example/verum/verum/HashSlots" "pages" "[[I" (.ref hp)) ∧ (Fld Z h a "com/example/verum/verum/HashSlots" "mask" "I" (.int (15 : Int32))) ∧ (Fld Z h a "com/example/verum/verum/HashSlots" "shared" "Z" (.int (0 : Int32))) ∧ (Arv Z h hp khp (.array .int) (1 : Int32) [(.ref ht)] .null) ∧ (Arv Z h ht kht .int (16 : Int32) [(.int (0 : Int32)), (.int (0 : Int32)), (.int (0 : Int32)), (.int (0 : Int32)), (.int (0 : Int32)), (.int (0 : Int32)), (.int (0 : Int32)), (.int (0 : Int32)), (.int (0 : Int32)), (.int (0 : Int32)), (.int (0 : Int32)), (.int (0 : Int32)), (.int (0 : Int32)), (.int (0 : Int32)), (.int (0 : Int32)), (.int (0 : Int32))] (.int (0 : Int32))) ∧ (h0.size ≤ hp ∧ hp < ht ∧ (ht : Nat) < h.size)
theorem d3_0 : decode prog_36_method_1_code 0 = .ok (.aload_n 0, 1) := by decide +kernel
theorem d3_1 : decode prog_36_method_1_code 1 = .ok (.ldc2_w 3, 3) := by decide +kernel
theorem d3_4 : decode prog_36_method_1_code 4 = .ok (.invokespecial 5, 3) := by decide +kernel
theorem d3_7 : decode prog_36_method_1_code 7 = .ok (.return_, 1) := by decide +kernel
set_option maxRecDepth 65536 in
set_option maxHeartbeats 40000000 in
theorem rm_hs0 (l : Launch) (Z : State) (a0 : Array Value) (hw : ∀ d ∈ tables_1, d.before a0 Z = true) (ws : List Jvm.Cond) (a : Addr) (u : Value) (u' : Value) (u'' : Value) (h0 : Heap) (n0 : Nat) (Z0 : n0 ≤ h0.size) (Pf_0 : Exa Z h0 a "com/example/verum/verum/HashSlots") (Pf_1 : Fld Z h0 a "com/example/verum/verum/HashSlots" "pages" "[[I" u) (Pf_2 : Fld Z h0 a "com/example/verum/verum/HashSlots" "mask" "I" u') (Pf_3 : Fld Z h0 a "com/example/verum/verum/HashSlots" "shared" "Z" u'') (g_a : n0 ≤ a) :
    Con l Z (⟨"com/example/verum/verum/HashSlots", "<init>", "()V"⟩ : MethodName) prog_36_method_1_code 1 none ws ({ frames := 2, cells := 3, slots := 17, locals := 31 } : Room) #[(.ref a)] h0 (Q_rm_hs0 Z a u u' u'' h0 n0) := by
  refine MetFree.of_bodySF (plainFor_of_name pn_HashSlots) hisR ?_
  intro p e s m args below meth c s₁ Bd hml0 hP hK
  obtain ⟨rfl, hZ, hh⟩ := hP
  have hx := Bd.exec
  have hby := Bd.bytes
  have hml : c.maxLocals = 1 := hml0
  have hown : s.vm.findClass "com/example/verum/verum/HashSlots" = some m.cls := findClass_of_methodNamed Bd.named
  have hnm := (name_of_methodNamed Bd.named Bd.method).1
  have X0 : Stand p l e ({ frames := 2, cells := 3, slots := 17, locals := 31 } : Room) s m #[(.ref a)] below meth c s₁ [] 0 0 := Stand.of_body Bd
  have e0 : s₁.heap = h0 := by rw [← hh, Bd.state]; rfl
  have N0 := Fr.nil n0
  have k0 : Rch p e below (s₁.setTop (entryFrame m #[(.ref a)] 1)) s₁ (mkF m 0 #[.val (.ref a)] []) := fun tg kg => castTop (ef_rm_hs0 m a) kg
  have lt_Pf_0 := own_ltN Pf_0.lt
  have lt_Pf_1 := own_ltN Pf_1.lt
  have lt_Pf_2 := own_ltN Pf_2.lt
  have lt_Pf_3 := own_ltN Pf_3.lt
  have k1 : Rch p e below (s₁.setTop (entryFrame m #[(.ref a)] 1)) s₁ (mkF m 4 #[.val (.ref a)] [(.long (16 : Int64)), (.ref a)]) := fun tg kg => by
    refine k0 tg ?_
    show Steps p.tables e below (s₁.setTop (mkF m 0 #[.val (.ref a)] [])) tg
    refine XS.aloadN X0.here hx rfl (hb hby d3_0) rfl rfl ?_
    refine X0.ldc2Long hx hown (mvT hZ (hw _ (List.mem_of_getElem? (i := 16) rfl))) (g := (mkF m 1 #[.val (.ref a)] [(.ref a)])) rfl (hb hby d3_1) _ ?_
    exact kg
  obtain ⟨v2, T2, h2, Lc2, X2, e2, hQ2, st2⟩ := own_callC X0 hx hZ rfl hown (hw _ (List.mem_of_getElem? (i := 17) rfl)) (hw _ (List.mem_of_getElem? (i := 18) rfl)) (hw _ (List.mem_of_getElem? (i := 12) rfl)) (hw _ (List.mem_of_getElem? (i := 19) rfl)) (by decide) (rm_hs1 l Z a0 hw [] a u u' u'' h0 n0 (by omega) Pf_0 Pf_1 Pf_2 Pf_3 (by assumption)) e0 (a := a) (g := (mkF m 4 #[.val (.ref a)] [(.long (16 : Int64)), (.ref a)])) rfl (by rw [hml]; rfl) (argsL := [(.long (16 : Int64))]) (rest := []) rfl (lenOf pd_1 rfl) rfl (W := 0) (by show 2 * 0 + _ ≤ _; exact Nat.le_of_eq rfl) (hb hby d3_4) (by decide) (by decide) (by decide) (by decide)
  obtain ⟨hpq, htq, khpq, khtq, rfl, Nq2, K2, fq2_3, fq2_4, fq2_5, fq2_6, fq2_7, fq2_8, hp2_ord⟩ := hQ2
  have N2 := Fr.app N0 Nq2
  have s2 : h0.size ≤ h2.size := K2.1
  have k3 : Rch p e below (s₁.setTop (entryFrame m #[(.ref a)] 1)) T2 (mkF m 7 #[.val (.ref a)] []) := fun tg kg => k1 tg (st2 tg kg)
  have lt_fq2_3 := own_ltN fq2_3.lt
  have lt_fq2_4 := own_ltN fq2_4.lt
  have lt_fq2_5 := own_ltN fq2_5.lt
  have lt_fq2_6 := own_ltN fq2_6.lt
  have lt_fq2_7 := own_ltN fq2_7.lt
  have lt_fq2_8 := own_ltN fq2_8.lt
  obtain ⟨fs4, hr4, hrun4, hended4, hW4, hsame4⟩ := X2.leave (v := none) (fun _ => rfl)
  refine ⟨_, _, k3 _ ?_, hrun4, hended4, _, _, rfl, ?_, ⟨_, rfl⟩, hW4, hsame4.mono (by decide) (by decide)⟩
  · exact X2.returnOut hx Bd.returns (hb hby d3_7) hr4
  · show Q_rm_hs0 Z a u u' u'' h0 n0 _ T2.heap _
    rw [e2]
    exact ⟨hpq, htq, khpq, khtq, rfl, N2, ((Keep.refl h0 [a]).trans K2 (allS (Or.inl (List.mem_of_getElem? (i := 0) rfl)) all0)), fq2_3, fq2_4, fq2_5, fq2_6, fq2_7, fq2_8, hp2_ord⟩
theorem pn_Relation : plainName "com/example/verum/verum/Relation" = true := by first | (simp [plainName, overriddenIn]; done) | decide +kernel
theorem ef_rm_rel (m : MethodId) (x0 : Addr) (x1 : Int32) : entryFrame m #[(.ref x0), (.int x1)] 3 = mkF m 0 #[.val (.ref x0), .val (.int x1), .unset] [] := by first | (simp [entryFrame, mkF, argsToLocals, Value.category]; done) | rfl
def Q_rm_rel (Z : State) (a : Addr) (ed : Addr) (h0 : Heap) (n0 : Nat) (v : Option Value) (h : Heap) (L : List Loc) : Prop := ∃ (hs : Addr) (pg : Addr) (pz : Addr) (hp : Addr) (ht : Addr) (kpg : ClassId) (kpz : ClassId) (khp : ClassId) (kht : ClassId), (v = none) ∧ (Fr n0 L) ∧ (Keep h0 h [a]) ∧ (Exa Z h a "com/example/verum/verum/Relation") ∧ (Fld Z h a "com/example/verum/verum/Relation" "slots" "Lcom/example/verum/verum/HashSlots;" (.ref hs)) ∧ (Fld Z h a "com/example/verum/verum/Relation" "arity" "I" (.int (1 : Int32))) ∧ (Fld Z h a "com/example/verum/verum/Relation" "pageBits" "I" (.int (16 : Int32))) ∧ (Fld Z h a "com/example/verum/verum/Relation" "pageMask" "I" (.int (65535 : Int32))) ∧ (Fld Z h a "com/example/verum/verum/Relation" "pages" "[[I" (.ref pg)) ∧ (Fld Z h a "com/example/verum/verum/Relation" "size" "I" (.int (0 : Int32))) ∧ (Fld Z h a "com/example/verum/verum/Relation" "deltaStart" "I" (.int (0 : Int32))) ∧ (Fld Z h a "com/example/verum/verum/Relation" "deltaEnd" "I" (.int (0 : Int32))) ∧ (Fld Z h a "com/example/verum/verum/Relation" "shared" "Z" (.int (0 : Int32))) ∧ (Exa Z h hs "com/example/verum/verum/HashSlots") ∧ (Fld Z h hs "com/example/verum/verum/HashSlots" "pages" "[[I" (.ref hp)) ∧ (Fld Z h hs "com/example/verum/verum/HashSlots" "mask" "I" (.int (15 : Int32))) ∧ (Fld Z h hs "com/example/verum/verum/HashSlots" "shared" "Z" (.int (0 : Int32))) ∧ (Arv Z h pg kpg (.array .int) (1 : Int32) [(.ref pz)] .null) ∧ (Arv Z h pz kpz .int (8 : Int32) [(.int (0 : Int32)), (.int (0 : Int32)), (.int (0 : Int32)), (.int (0 : Int32)), (.int (0 : Int32)), (.int (0 : Int32)), (.int (0 : Int32)), (.int (0 : Int32))] (.int (0 : Int32))) ∧ (Arv Z h hp khp (.array .int) (1 : Int32) [(.ref ht)] .null) ∧ (Arv Z h ht kht .int (16 : Int32) [(.int (0 : Int32)), (.int (0 : Int32)), (.int (0 : Int32)), (.int (0 : Int32)), (.int (0 : Int32)), (.int (0 : Int32)), (.int (0 : Int32)), (.int (0 : Int32)), (.int (0 : Int32)), (.int (0 : Int32)), (.int (0 : Int32)), (.int (0 : Int32)), (.int (0 : Int32)), (.int (0 : Int32)), (.int (0 : Int32)), (.int (0 : Int32))] (.int (0 : Int32))) ∧ (h0.size ≤ hs ∧ hs < hp ∧ hp < ht ∧ ht < pg ∧ pg < pz)
theorem d1_0 : decode prog_70_method_1_code 0 = .ok (.aload_n 0, 1) := by decide +kernel
theorem d1_1 : decode prog_70_method_1_code 1 = .ok (.invokespecial 1, 3) := by decide +kernel
theorem d1_4 : decode prog_70_method_1_code 4 = .ok (.aload_n 0, 1) := by decide +kernel
theorem d1_5 : decode prog_70_method_1_code 5 = .ok (.new 7, 3) := by decide +kernel
theorem d1_8 : decode prog_70_method_1_code 8 = .ok (.dup, 1) := by decide +kernel
theorem d1_9 : decode prog_70_method_1_code 9 = .ok (.invokespecial 9, 3) := by decide +kernel
theorem d1_12 : decode prog_70_method_1_code 12 = .ok (.putfield 10, 3) := by decide +kernel
theorem d1_15 : decode prog_70_method_1_code 15 = .ok (.aload_n 0, 1) := by decide +kernel
theorem d1_16 : decode prog_70_method_1_code 16 = .ok (.new 16, 3) := by decide +kernel
theorem d1_19 : decode prog_70_method_1_code 19 = .ok (.dup, 1) := by decide +kernel
theorem d1_20 : decode prog_70_method_1_code 20 = .ok (.invokespecial 18, 3) := by decide +kernel
theorem d1_23 : decode prog_70_method_1_code 23 = .ok (.putfield 19, 3) := by decide +kernel
theorem d1_26 : decode prog_70_method_1_code 26 = .ok (.aload_n 0, 1) := by decide +kernel
theorem d1_27 : decode prog_70_method_1_code 27 = .ok (.iload_n 1, 1) := by decide +kernel
theorem d1_28 : decode prog_70_method_1_code 28 = .ok (.putfield 23, 3) := by decide +kernel
theorem d1_31 : decode prog_70_method_1_code 31 = .ok (.iconst 1, 1) := by decide +kernel
theorem d1_32 : decode prog_70_method_1_code 32 = .ok (.iload_n 1, 1) := by decide +kernel
theorem pd_2 : parseMethodDescriptor "(II)I" = some ⟨[.int, .int], some .int⟩ := by decide +kernel
theorem d1_33 : decode prog_70_method_1_code 33 = .ok (.invokestatic 27, 3) := by decide +kernel
theorem d1_36 : decode prog_70_method_1_code 36 = .ok (.istore_n 2, 1) := by decide +kernel
theorem d1_37 : decode prog_70_method_1_code 37 = .ok (.aload_n 0, 1) := by decide +kernel
theorem d1_38 : decode prog_70_method_1_code 38 = .ok (.iconst 0, 1) := by decide +kernel
theorem d1_39 : decode prog_70_method_1_code 39 = .ok (.bipush 16, 2) := by decide +kernel
theorem d1_41 : decode prog_70_method_1_code 41 = .ok (.bipush 32, 2) := by decide +kernel
theorem d1_43 : decode prog_70_method_1_code 43 = .ok (.iload_n 2, 1) := by decide +kernel
theorem d1_44 : decode prog_70_method_1_code 44 = .ok (.iconst 1, 1) := by decide +kernel
theorem d1_45 : decode prog_70_method_1_code 45 = .ok (.isub, 1) := by decide +kernel
theorem pd_3 : parseMethodDescriptor "(I)I" = some ⟨[.int], some .int⟩ := by decide +kernel
theorem d1_46 : decode prog_70_method_1_code 46 = .ok (.invokestatic 35, 3) := by decide +kernel
theorem d1_49 : decode prog_70_method_1_code 49 = .ok (.isub, 1) := by decide +kernel
theorem d1_50 : decode prog_70_method_1_code 50 = .ok (.isub, 1) := by decide +kernel
theorem d1_51 : decode prog_70_method_1_code 51 = .ok (.invokestatic 27, 3) := by decide +kernel
theorem d1_54 : decode prog_70_method_1_code 54 = .ok (.putfield 39, 3) := by decide +kernel
theorem d1_57 : decode prog_70_method_1_code 57 = .ok (.aload_n 0, 1) := by decide +kernel
theorem d1_58 : decode prog_70_method_1_code 58 = .ok (.iconst 1, 1) := by decide +kernel
theorem d1_59 : decode prog_70_method_1_code 59 = .ok (.aload_n 0, 1) := by decide +kernel
theorem d1_60 : decode prog_70_method_1_code 60 = .ok (.getfield 39, 3) := by decide +kernel
theorem d1_63 : decode prog_70_method_1_code 63 = .ok (.ishl, 1) := by decide +kernel
theorem d1_64 : decode prog_70_method_1_code 64 = .ok (.iconst 1, 1) := by decide +kernel
theorem d1_65 : decode prog_70_method_1_code 65 = .ok (.isub, 1) := by decide +kernel
theorem d1_66 : decode prog_70_method_1_code 66 = .ok (.putfield 42, 3) := by decide +kernel
theorem d1_69 : decode prog_70_method_1_code 69 = .ok (.aload_n 0, 1) := by decide +kernel
theorem d1_70 : decode prog_70_method_1_code 70 = .ok (.iload_n 2, 1) := by decide +kernel
theorem d1_71 : decode prog_70_method_1_code 71 = .ok (.aload_n 0, 1) := by decide +kernel
theorem d1_72 : decode prog_70_method_1_code 72 = .ok (.getfield 39, 3) := by decide +kernel
theorem d1_75 : decode prog_70_method_1_code 75 = .ok (.ishl, 1) := by decide +kernel
theorem d1_76 : decode prog_70_method_1_code 76 = .ok (.putfield 45, 3) := by decide +kernel
theorem d1_79 : decode prog_70_method_1_code 79 = .ok (.aload_n 0, 1) := by decide +kernel
theorem d1_80 : decode prog_70_method_1_code 80 = .ok (.iconst 1, 1) := by decide +kernel
theorem d1_81 : decode prog_70_method_1_code 81 = .ok (.anewarray 48, 3) := by decide +kernel
theorem d1_84 : decode prog_70_method_1_code 84 = .ok (.dup, 1) := by decide +kernel
theorem d1_85 : decode prog_70_method_1_code 85 = .ok (.iconst 0, 1) := by decide +kernel
theorem d1_86 : decode prog_70_method_1_code 86 = .ok (.iload_n 2, 1) := by decide +kernel
theorem d1_87 : decode prog_70_method_1_code 87 = .ok (.bipush 8, 2) := by decide +kernel
theorem d1_89 : decode prog_70_method_1_code 89 = .ok (.iconst 1, 1) := by decide +kernel
theorem d1_90 : decode prog_70_method_1_code 90 = .ok (.aload_n 0, 1) := by decide +kernel
theorem d1_91 : decode prog_70_method_1_code 91 = .ok (.getfield 39, 3) := by decide +kernel
theorem d1_94 : decode prog_70_method_1_code 94 = .ok (.ishl, 1) := by decide +kernel
theorem d1_95 : decode prog_70_method_1_code 95 = .ok (.invokestatic 50, 3) := by decide +kernel
theorem d1_98 : decode prog_70_method_1_code 98 = .ok (.imul, 1) := by decide +kernel
theorem d1_99 : decode prog_70_method_1_code 99 = .ok (.newarray .int, 2) := by decide +kernel
theorem d1_101 : decode prog_70_method_1_code 101 = .ok (.aastore, 1) := by decide +kernel
theorem d1_102 : decode prog_70_method_1_code 102 = .ok (.putfield 53, 3) := by decide +kernel
theorem d1_105 : decode prog_70_method_1_code 105 = .ok (.return_, 1) := by decide +kernel
set_option maxRecDepth 65536 in
set_option maxHeartbeats 40000000 in
theorem rm_rel (l : Launch) (Z : State) (a0 : Array Value) (hw : ∀ d ∈ tables_1, d.before a0 Z = true) (ws : List Jvm.Cond) (a : Addr) (ed : Addr) (h0 : Heap) (n0 : Nat) (Z0 : n0 ≤ h0.size) (E_a : Exa Z h0 a "com/example/verum/verum/Relation") (F_slots : Fld Z h0 a "com/example/verum/verum/Relation" "slots" "Lcom/example/verum/verum/HashSlots;" .null) (F_indexes : Fld Z h0 a "com/example/verum/verum/Relation" "indexes" "Ljava/util/List;" .null) (F_arity : Fld Z h0 a "com/example/verum/verum/Relation" "arity" "I" (.int (0 : Int32))) (F_pageBits : Fld Z h0 a "com/example/verum/verum/Relation" "pageBits" "I" (.int (0 : Int32))) (F_pageMask : Fld Z h0 a "com/example/verum/verum/Relation" "pageMask" "I" (.int (0 : Int32))) (F_pageCells : Fld Z h0 a "com/example/verum/verum/Relation" "pageCells" "I" (.int (0 : Int32))) (F_pages : Fld Z h0 a "com/example/verum/verum/Relation" "pages" "[[I" .null) (F_deltaEnd : Fld Z h0 a "com/example/verum/verum/Relation" "deltaEnd" "I" (.int (0 : Int32))) (F_deltaStart : Fld Z h0 a "com/example/verum/verum/Relation" "deltaStart" "I" (.int (0 : Int32))) (F_size : Fld Z h0 a "com/example/verum/verum/Relation" "size" "I" (.int (0 : Int32))) (F_shared : Fld Z h0 a "com/example/verum/verum/Relation" "shared" "Z" (.int (0 : Int32))) (g_a : n0 ≤ a) (S_ed : Sta Z Z.heap "java/util/ArrayList" "DEFAULTCAPACITY_EMPTY_ELEMENTDATA" "[Ljava/lang/Object;" (.ref ed)) (OL : Old Z n0 h0) :
    Con l Z (⟨"com/example/verum/verum/Relation", "<init>", "(I)V"⟩ : MethodName) prog_70_method_1_code 3 none ws ({ frames := 4, cells := 7, slots := 32, locals := 50 } : Room) #[(.ref a), (.int (1 : Int32))] h0 (Q_rm_rel Z a ed h0 n0) := by
  refine MetFree.of_bodySF (plainFor_of_name pn_Relation) hisR ?_
  intro p e s m args below meth c s₁ Bd hml0 hP hK
  obtain ⟨rfl, hZ, hh⟩ := hP
  have hx := Bd.exec
  have hby := Bd.bytes
  have hml : c.maxLocals = 3 := hml0
  have hown : s.vm.findClass "com/example/verum/verum/Relation" = some m.cls := findClass_of_methodNamed Bd.named
  have hnm := (name_of_methodNamed Bd.named Bd.method).1
  have X0 : Stand p l e ({ frames := 4, cells := 7, slots := 32, locals := 50 } : Room) s m #[(.ref a), (.int (1 : Int32))] below meth c s₁ [] 0 0 := Stand.of_body Bd
  have e0 : s₁.heap = h0 := by rw [← hh, Bd.state]; rfl
  have N0 := Fr.nil n0
  have k0 : Rch p e below (s₁.setTop (entryFrame m #[(.ref a), (.int (1 : Int32))] 3)) s₁ (mkF m 0 #[.val (.ref a), .val (.int (1 : Int32)), .unset] []) := fun tg kg => castTop (ef_rm_rel m a (1 : Int32)) kg
  have lt_E_a := own_ltN E_a.lt
  have lt_F_slots := own_ltN F_slots.lt
  have lt_F_indexes := own_ltN F_indexes.lt
  have lt_F_arity := own_ltN F_arity.lt
  have lt_F_pageBits := own_ltN F_pageBits.lt
  have lt_F_pageMask := own_ltN F_pageMask.lt
  have lt_F_pageCells := own_ltN F_pageCells.lt
  have lt_F_pages := own_ltN F_pages.lt
  have lt_F_deltaEnd := own_ltN F_deltaEnd.lt
  have lt_F_deltaStart := own_ltN F_deltaStart.lt
  have lt_F_size := own_ltN F_size.lt
  have lt_F_shared := own_ltN F_shared.lt
  have k1 : Rch p e below (s₁.setTop (entryFrame m #[(.ref a), (.int (1 : Int32))] 3)) s₁ (mkF m 1 #[.val (.ref a), .val (.int (1 : Int32)), .unset] [(.ref a)]) := fun tg kg => by
    refine k0 tg ?_
    show Steps p.tables e below (s₁.setTop (mkF m 0 #[.val (.ref a), .val (.int (1 : Int32)), .unset] [])) tg
    refine XS.aloadN X0.here hx rfl (hb hby d1_0) rfl rfl ?_
    exact kg
  obtain ⟨T2, X2, e2, st2⟩ := initO X0 hx hZ hown (hw _ (List.mem_of_getElem? (i := 7) rfl)) (hw _ (List.mem_of_getElem? (i := 8) rfl)) (hw _ (List.mem_of_getElem? (i := 9) rfl)) e0 (g := (mkF m 1 #[.val (.ref a), .val (.int (1 : Int32)), .unset] [(.ref a)])) rfl (by rw [hml]; rfl) rfl (hb hby d1_1) (by decide) (W := 0) (by show 2 * 0 + _ ≤ _; exact Nat.le_of_eq rfl) (by decide)
  have k3 : Rch p e below (s₁.setTop (entryFrame m #[(.ref a), (.int (1 : Int32))] 3)) T2 (mkF m 4 #[.val (.ref a), .val (.int (1 : Int32)), .unset] []) := fun tg kg => k1 tg (st2 tg kg)
  have k4 : Rch p e below (s₁.setTop (entryFrame m #[(.ref a), (.int (1 : Int32))] 3)) T2 (mkF m 5 #[.val (.ref a), .val (.int (1 : Int32)), .unset] [(.ref a)]) := fun tg kg => by
    refine k3 tg ?_
    show Steps p.tables e below (T2.setTop (mkF m 4 #[.val (.ref a), .val (.int (1 : Int32)), .unset] [])) tg
    refine XS.aloadN X2.here hx rfl (hb hby d1_4) rfl rfl ?_
    exact kg
  obtain ⟨T5, h5, X5, e5, E5, A5, D5, -, st5⟩ := newO X2 hx hZ hown (hw _ (List.mem_of_getElem? (i := 10) rfl)) (hw _ (List.mem_of_getElem? (i := 11) rfl)) (hw _ (List.mem_of_getElem? (i := 12) rfl)) e2 (g := (mkF m 5 #[.val (.ref a), .val (.int (1 : Int32)), .unset] [(.ref a)])) rfl (hb hby d1_5) (by decide) (by decide)
  obtain ⟨b5, g5⟩ : ∃ z, z = h0.size := ⟨_, rfl⟩
  rw [← g5] at A5 D5 st5
  have s5 : h0.size ≤ h5.size := E5.1
  have lt5 : b5 < h5.size := A5.lt
  have k6 : Rch p e below (s₁.setTop (entryFrame m #[(.ref a), (.int (1 : Int32))] 3)) T5 (mkF m 8 #[.val (.ref a), .val (.int (1 : Int32)), .unset] [(.ref b5), (.ref a)]) := fun tg kg => k4 tg (st5 tg kg)
  have F5_pages : Fld Z h5 b5 "com/example/verum/verum/HashSlots" "pages" "[[I" .null := D5 (Or.inl (hw _ (List.mem_of_getElem? (i := 24) rfl))) (ty := (.array (.array .int))) (by decide)
  have F5_mask : Fld Z h5 b5 "com/example/verum/verum/HashSlots" "mask" "I" (.int (0 : Int32)) := D5 (Or.inl (hw _ (List.mem_of_getElem? (i := 33) rfl))) (ty := .int) (by decide)
  have F5_shared : Fld Z h5 b5 "com/example/verum/verum/HashSlots" "shared" "Z" (.int (0 : Int32)) := D5 (Or.inl (hw _ (List.mem_of_getElem? (i := 35) rfl))) (ty := .boolean) (by decide)
  have k7 : Rch p e below (s₁.setTop (entryFrame m #[(.ref a), (.int (1 : Int32))] 3)) T5 (mkF m 9 #[.val (.ref a), .val (.int (1 : Int32)), .unset] [(.ref b5), (.ref b5), (.ref a)]) := fun tg kg => by
    refine k6 tg ?_
    show Steps p.tables e below (T5.setTop (mkF m 8 #[.val (.ref a), .val (.int (1 : Int32)), .unset] [(.ref b5), (.ref a)])) tg
    refine XS.dup X5.here hx rfl (hb hby d1_8) rfl rfl ?_
    exact kg
  obtain ⟨v8, T8, h8, Lc8, X8, e8, hQ8, st8⟩ := own_callC X5 hx hZ rfl hown (hw _ (List.mem_of_getElem? (i := 13) rfl)) (hw _ (List.mem_of_getElem? (i := 14) rfl)) (hw _ (List.mem_of_getElem? (i := 12) rfl)) (hw _ (List.mem_of_getElem? (i := 15) rfl)) (by decide) (rm_hs0 l Z a0 hw [] b5 .null (.int (0 : Int32)) (.int (0 : Int32)) h5 n0 (by omega) A5 F5_pages F5_mask F5_shared (by omega)) e5 (a := b5) (g := (mkF m 9 #[.val (.ref a), .val (.int (1 : Int32)), .unset] [(.ref b5), (.ref b5), (.ref a)])) rfl (by rw [hml]; rfl) (argsL := []) (rest := [(.ref b5), (.ref a)]) rfl (lenOf pd_0 rfl) rfl (W := 2) (by show 2 * 0 + _ ≤ _; exact Nat.le_of_eq rfl) (hb hby d1_9) (by decide) (by decide) (by decide) (by decide)
  obtain ⟨hpq, htq, khpq, khtq, rfl, Nq8, K8, fq8_3, fq8_4, fq8_5, fq8_6, fq8_7, fq8_8, hp8_ord⟩ := hQ8
  have N8 := Fr.app N0 Nq8
  have s8 : h5.size ≤ h8.size := K8.1
  have k9 : Rch p e below (s₁.setTop (entryFrame m #[(.ref a), (.int (1 : Int32))] 3)) T8 (mkF m 12 #[.val (.ref a), .val (.int (1 : Int32)), .unset] [(.ref b5), (.ref a)]) := fun tg kg => k7 tg (st8 tg kg)
  have lt_fq8_3 := own_ltN fq8_3.lt
  have lt_fq8_4 := own_ltN fq8_4.lt
  have lt_fq8_5 := own_ltN fq8_5.lt
  have lt_fq8_6 := own_ltN fq8_6.lt
  have lt_fq8_7 := own_ltN fq8_7.lt
  have lt_fq8_8 := own_ltN fq8_8.lt
  obtain ⟨o1, o2, o3⟩ := hp8_ord
  have o2' := own_ltN o2
  have o3' := own_ltN o3
  have f10 : Fld Z h8 a "com/example/verum/verum/Relation" "slots" "Lcom/example/verum/verum/HashSlots;" .null := ((F_slots.ext E5).keep K8 (ninS (by first | exact own_ne (by omega) | assumption | (apply Ne.symm; assumption)) nin0))
  have f11 : Exa Z h8 a "com/example/verum/verum/Relation" := ((E_a.ext E5).keep K8)
  obtain ⟨T12, h12, X12, e12, W12, st12⟩ := putF X8 hx hZ hown (host := "") (Or.inl (hw _ (List.mem_of_getElem? (i := 36) rfl))) Via.refl e8 f10 f11 (Or.inl (hw _ (List.mem_of_getElem? (i := 37) rfl))) (hw _ (List.mem_of_getElem? (i := 2) rfl)) (ty := (.object "com/example/verum/verum/HashSlots")) (by decide) rfl rfl (g := (mkF m 12 #[.val (.ref a), .val (.int (1 : Int32)), .unset] [(.ref b5), (.ref a)])) rfl rfl (hb hby d1_12)
  have Fw12 := f10.same W12
  have s12 : h12.size = h8.size := W12.size
  have N12 := Fr.snoc X12 N8 (by omega : n0 ≤ a)
  have k13 : Rch p e below (s₁.setTop (entryFrame m #[(.ref a), (.int (1 : Int32))] 3)) T12 (mkF m 15 #[.val (.ref a), .val (.int (1 : Int32)), .unset] []) := fun tg kg => k9 tg (st12 tg kg)
  have k14 : Rch p e below (s₁.setTop (entryFrame m #[(.ref a), (.int (1 : Int32))] 3)) T12 (mkF m 16 #[.val (.ref a), .val (.int (1 : Int32)), .unset] [(.ref a)]) := fun tg kg => by
    refine k13 tg ?_
    show Steps p.tables e below (T12.setTop (mkF m 15 #[.val (.ref a), .val (.int (1 : Int32)), .unset] [])) tg
    refine XS.aloadN X12.here hx rfl (hb hby d1_15) rfl rfl ?_
    exact kg
  obtain ⟨T15, h15, X15, e15, E15, A15, D15, -, st15⟩ := newO X12 hx hZ hown (hw _ (List.mem_of_getElem? (i := 38) rfl)) (hw _ (List.mem_of_getElem? (i := 39) rfl)) (hw _ (List.mem_of_getElem? (i := 40) rfl)) e12 (g := (mkF m 16 #[.val (.ref a), .val (.int (1 : Int32)), .unset] [(.ref a)])) rfl (hb hby d1_16) (by decide) (by decide)
  obtain ⟨b15, g15⟩ : ∃ z, z = h12.size := ⟨_, rfl⟩
  rw [← g15] at A15 D15 st15
  have s15 : h12.size ≤ h15.size := E15.1
  have lt15 : b15 < h15.size := A15.lt
  have k16 : Rch p e below (s₁.setTop (entryFrame m #[(.ref a), (.int (1 : Int32))] 3)) T15 (mkF m 19 #[.val (.ref a), .val (.int (1 : Int32)), .unset] [(.ref b15), (.ref a)]) := fun tg kg => k14 tg (st15 tg kg)
  have F15_modCount : Fld Z h15 b15 "java/util/AbstractList" "modCount" "I" (.int (0 : Int32)) := D15 (Or.inl (hw _ (List.mem_of_getElem? (i := 58) rfl))) (ty := .int) (by decide)
  have F15_elementData : Fld Z h15 b15 "java/util/ArrayList" "elementData" "[Ljava/lang/Object;" .null := D15 (Or.inl (hw _ (List.mem_of_getElem? (i := 61) rfl))) (ty := (.array (.object "java/lang/Object"))) (by decide)
  have k17 : Rch p e below (s₁.setTop (entryFrame m #[(.ref a), (.int (1 : Int32))] 3)) T15 (mkF m 20 #[.val (.ref a), .val (.int (1 : Int32)), .unset] [(.ref b15), (.ref b15), (.ref a)]) := fun tg kg => by
    refine k16 tg ?_
    show Steps p.tables e below (T15.setTop (mkF m 19 #[.val (.ref a), .val (.int (1 : Int32)), .unset] [(.ref b15), (.ref a)])) tg
    refine XS.dup X15.here hx rfl (hb hby d1_19) rfl rfl ?_
    exact kg
  have f19 : Old Z n0 h15 := ((((OL.ext E5).keep K8 (allS (by omega) all0)).wr W12 (by omega)).ext E15)
  obtain ⟨v18, T18, h18, Lc18, X18, e18, hQ18, st18⟩ := own_callC X15 hx hZ rfl hown (hw _ (List.mem_of_getElem? (i := 41) rfl)) (hw _ (List.mem_of_getElem? (i := 42) rfl)) (hw _ (List.mem_of_getElem? (i := 40) rfl)) (hw _ (List.mem_of_getElem? (i := 43) rfl)) (by decide) (rm_list l Z a0 hw [] b15 (.int (0 : Int32)) .null ed h15 n0 (by omega) A15 F15_modCount F15_elementData (by omega) S_ed f19) e15 (a := b15) (g := (mkF m 20 #[.val (.ref a), .val (.int (1 : Int32)), .unset] [(.ref b15), (.ref b15), (.ref a)])) rfl (by rw [hml]; rfl) (argsL := []) (rest := [(.ref b15), (.ref a)]) rfl (lenOf pd_0 rfl) rfl (W := 2) (by show 2 * 0 + _ ≤ _; exact Nat.le_of_eq rfl) (hb hby d1_20) (by decide) (by decide) (by decide) (by decide)
  obtain ⟨rfl, Nq18, K18⟩ := hQ18
  have N18 := Fr.app N12 Nq18
  have s18 : h15.size ≤ h18.size := K18.1
  have k20 : Rch p e below (s₁.setTop (entryFrame m #[(.ref a), (.int (1 : Int32))] 3)) T18 (mkF m 23 #[.val (.ref a), .val (.int (1 : Int32)), .unset] [(.ref b15), (.ref a)]) := fun tg kg => k17 tg (st18 tg kg)
  have f21 : Fld Z h18 a "com/example/verum/verum/Relation" "indexes" "Ljava/util/List;" .null := (((((F_indexes.ext E5).keep K8 (ninS (by first | exact own_ne (by omega) | assumption | (apply Ne.symm; assumption)) nin0)).other W12 (Or.inr (slot_ne (Or.inr (hw _ (List.mem_of_getElem? (i := 63) rfl))) (Or.inl (hw _ (List.mem_of_getElem? (i := 37) rfl))) (by decide) (t := (.object "java/util/List")) (t' := (.object "com/example/verum/verum/HashSlots")) (by decide) (by decide)))).ext E15).keep K18 (ninS (by first | exact own_ne (by omega) | assumption | (apply Ne.symm; assumption)) nin0))
  have f22 : Exa Z h18 a "com/example/verum/verum/Relation" := (((f11.wr W12).ext E15).keep K18)
  obtain ⟨T23, h23, X23, e23, W23, st23⟩ := putF X18 hx hZ hown (host := "") (Or.inl (hw _ (List.mem_of_getElem? (i := 62) rfl))) Via.refl e18 f21 f22 (Or.inr ⟨(hw _ (List.mem_of_getElem? (i := 63) rfl)), rfl, hnm⟩) (hw _ (List.mem_of_getElem? (i := 2) rfl)) (ty := (.object "java/util/List")) (by decide) rfl rfl (g := (mkF m 23 #[.val (.ref a), .val (.int (1 : Int32)), .unset] [(.ref b15), (.ref a)])) rfl rfl (hb hby d1_23)
  have Fw23 := f21.same W23
  have s23 : h23.size = h18.size := W23.size
  have N23 := Fr.snoc X23 N18 (by omega : n0 ≤ a)
  have k24 : Rch p e below (s₁.setTop (entryFrame m #[(.ref a), (.int (1 : Int32))] 3)) T23 (mkF m 26 #[.val (.ref a), .val (.int (1 : Int32)), .unset] []) := fun tg kg => k20 tg (st23 tg kg)
  have k25 : Rch p e below (s₁.setTop (entryFrame m #[(.ref a), (.int (1 : Int32))] 3)) T23 (mkF m 28 #[.val (.ref a), .val (.int (1 : Int32)), .unset] [(.int (1 : Int32)), (.ref a)]) := fun tg kg => by
    refine k24 tg ?_
    show Steps p.tables e below (T23.setTop (mkF m 26 #[.val (.ref a), .val (.int (1 : Int32)), .unset] [])) tg
    refine XS.aloadN X23.here hx rfl (hb hby d1_26) rfl rfl ?_
    refine XS.iloadN X23.here hx rfl (hb hby d1_27) rfl ?_
    exact kg
  have f26 : Fld Z h23 a "com/example/verum/verum/Relation" "arity" "I" (.int (0 : Int32)) := ((((((F_arity.ext E5).keep K8 (ninS (by first | exact own_ne (by omega) | assumption | (apply Ne.symm; assumption)) nin0)).other W12 (Or.inr (slot_ne (Or.inr (hw _ (List.mem_of_getElem? (i := 65) rfl))) (Or.inl (hw _ (List.mem_of_getElem? (i := 37) rfl))) (by decide) (t := .int) (t' := (.object "com/example/verum/verum/HashSlots")) (by decide) (by decide)))).ext E15).keep K18 (ninS (by first | exact own_ne (by omega) | assumption | (apply Ne.symm; assumption)) nin0)).other W23 (Or.inr (slot_ne (Or.inr (hw _ (List.mem_of_getElem? (i := 65) rfl))) (Or.inr (hw _ (List.mem_of_getElem? (i := 63) rfl))) (by decide) (t := .int) (t' := (.object "java/util/List")) (by decide) (by decide))))
  have f27 : Exa Z h23 a "com/example/verum/verum/Relation" := (f22.wr W23)
  obtain ⟨T28, h28, X28, e28, W28, st28⟩ := putF X23 hx hZ hown (host := "") (Or.inl (hw _ (List.mem_of_getElem? (i := 64) rfl))) Via.refl e23 f26 f27 (Or.inr ⟨(hw _ (List.mem_of_getElem? (i := 65) rfl)), rfl, hnm⟩) (hw _ (List.mem_of_getElem? (i := 2) rfl)) (ty := .int) (by decide) rfl rfl (g := (mkF m 28 #[.val (.ref a), .val (.int (1 : Int32)), .unset] [(.int (1 : Int32)), (.ref a)])) rfl rfl (hb hby d1_28)
  have Fw28 := f26.same W28
  have s28 : h28.size = h23.size := W28.size
  have N28 := Fr.snoc X28 N23 (by omega : n0 ≤ a)
  have k29 : Rch p e below (s₁.setTop (entryFrame m #[(.ref a), (.int (1 : Int32))] 3)) T28 (mkF m 31 #[.val (.ref a), .val (.int (1 : Int32)), .unset] []) := fun tg kg => k25 tg (st28 tg kg)
  have k30 : Rch p e below (s₁.setTop (entryFrame m #[(.ref a), (.int (1 : Int32))] 3)) T28 (mkF m 33 #[.val (.ref a), .val (.int (1 : Int32)), .unset] [(.int (1 : Int32)), (.int (1 : Int32))]) := fun tg kg => by
    refine k29 tg ?_
    show Steps p.tables e below (T28.setTop (mkF m 31 #[.val (.ref a), .val (.int (1 : Int32)), .unset] [])) tg
    refine XS.iconst X28.here hx rfl (hb hby d1_31) ?_
    refine XS.iloadN X28.here hx rfl (hb hby d1_32) rfl ?_
    exact kg
  obtain ⟨v31, T31, h31, Lc31, X31, e31, hQ31, st31⟩ := own_callS X28 hx hZ hown (hw _ (List.mem_of_getElem? (i := 66) rfl)) (hw _ (List.mem_of_getElem? (i := 67) rfl)) (hw _ (List.mem_of_getElem? (i := 68) rfl)) (hw _ (List.mem_of_getElem? (i := 69) rfl)) (by decide) (rm_max1 l Z a0 hw [] (1 : Int32) (1 : Int32) h28 n0 (by omega) (by decide)) e28 (g := (mkF m 33 #[.val (.ref a), .val (.int (1 : Int32)), .unset] [(.int (1 : Int32)), (.int (1 : Int32))])) rfl (by rw [hml]; rfl) (argsL := [(.int (1 : Int32)), (.int (1 : Int32))]) (rest := []) rfl (lenOf pd_2 rfl) rfl (W := 0) (by show 2 * 0 + _ ≤ _; exact Nat.le_of_eq rfl) (hb hby d1_33) (by decide) (by decide) (by decide) (by decide)
  obtain ⟨rfl, Nq31, hs31⟩ := hQ31
  have N31 := Fr.app N28 Nq31
  have e31' : T31.heap = h28 := e31.trans hs31
  have k32 : Rch p e below (s₁.setTop (entryFrame m #[(.ref a), (.int (1 : Int32))] 3)) T31 (mkF m 36 #[.val (.ref a), .val (.int (1 : Int32)), .unset] [(.int (1 : Int32))]) := fun tg kg => k30 tg (st31 tg kg)
  have k33 : Rch p e below (s₁.setTop (entryFrame m #[(.ref a), (.int (1 : Int32))] 3)) T31 (mkF m 46 #[.val (.ref a), .val (.int (1 : Int32)), .val (.int (1 : Int32))] [(.int ((1 : Int32) - (1 : Int32))), (.int (32 : Int32)), (.int (16 : Int32)), (.int (0 : Int32)), (.ref a)]) := fun tg kg => by
    refine k32 tg ?_
    show Steps p.tables e below (T31.setTop (mkF m 36 #[.val (.ref a), .val (.int (1 : Int32)), .unset] [(.int (1 : Int32))])) tg
    refine XS.istoreN X31.here hx rfl (hb hby d1_36) rfl (l' := #[.val (.ref a), .val (.int (1 : Int32)), .val (.int (1 : Int32))]) rfl ?_
    refine XS.aloadN X31.here hx rfl (hb hby d1_37) rfl rfl ?_
    show Steps p.tables e below (T31.setTop (mkF m 38 #[.val (.ref a), .val (.int (1 : Int32)), .val (.int (1 : Int32))] [(.ref a)])) tg
    refine XS.iconst X31.here hx rfl (hb hby d1_38) ?_
    refine XS.bipush X31.here hx rfl (hb hby d1_39) ?_
    refine XS.bipush X31.here hx rfl (hb hby d1_41) ?_
    refine XS.iloadN X31.here hx rfl (hb hby d1_43) rfl ?_
    refine XS.iconst X31.here hx rfl (hb hby d1_44) ?_
    refine XS.isub X31.here hx rfl (hb hby d1_45) rfl ?_
    exact kg
  obtain ⟨v34, T34, h34, Lc34, X34, e34, hQ34, st34⟩ := own_callS X31 hx hZ hown (hw _ (List.mem_of_getElem? (i := 70) rfl)) (hw _ (List.mem_of_getElem? (i := 71) rfl)) (hw _ (List.mem_of_getElem? (i := 72) rfl)) (hw _ (List.mem_of_getElem? (i := 73) rfl)) (by decide) (rm_nlz l Z a0 hw [] ((1 : Int32) - (1 : Int32)) h28 n0 (by omega) (by decide)) e31' (g := (mkF m 46 #[.val (.ref a), .val (.int (1 : Int32)), .val (.int (1 : Int32))] [(.int ((1 : Int32) - (1 : Int32))), (.int (32 : Int32)), (.int (16 : Int32)), (.int (0 : Int32)), (.ref a)])) rfl (by rw [hml]; rfl) (argsL := [(.int ((1 : Int32) - (1 : Int32)))]) (rest := [(.int (32 : Int32)), (.int (16 : Int32)), (.int (0 : Int32)), (.ref a)]) rfl (lenOf pd_3 rfl) rfl (W := 4) (by show 2 * 0 + _ ≤ _; exact Nat.le_of_eq rfl) (hb hby d1_46) (by decide) (by decide) (by decide) (by decide)
  obtain ⟨rfl, Nq34, hs34⟩ := hQ34
  have N34 := Fr.app N31 Nq34
  have e34' : T34.heap = h28 := e34.trans hs34
  have k35 : Rch p e below (s₁.setTop (entryFrame m #[(.ref a), (.int (1 : Int32))] 3)) T34 (mkF m 49 #[.val (.ref a), .val (.int (1 : Int32)), .val (.int (1 : Int32))] [(.int (32 : Int32)), (.int (32 : Int32)), (.int (16 : Int32)), (.int (0 : Int32)), (.ref a)]) := fun tg kg => k33 tg (st34 tg kg)
  have k36 : Rch p e below (s₁.setTop (entryFrame m #[(.ref a), (.int (1 : Int32))] 3)) T34 (mkF m 51 #[.val (.ref a), .val (.int (1 : Int32)), .val (.int (1 : Int32))] [(.int ((16 : Int32) - ((32 : Int32) - (32 : Int32)))), (.int (0 : Int32)), (.ref a)]) := fun tg kg => by
    refine k35 tg ?_
    show Steps p.tables e below (T34.setTop (mkF m 49 #[.val (.ref a), .val (.int (1 : Int32)), .val (.int (1 : Int32))] [(.int (32 : Int32)), (.int (32 : Int32)), (.int (16 : Int32)), (.int (0 : Int32)), (.ref a)])) tg
    refine XS.isub X34.here hx rfl (hb hby d1_49) rfl ?_
    refine XS.isub X34.here hx rfl (hb hby d1_50) rfl ?_
    exact kg
  obtain ⟨v37, T37, h37, Lc37, X37, e37, hQ37, st37⟩ := own_callS X34 hx hZ hown (hw _ (List.mem_of_getElem? (i := 66) rfl)) (hw _ (List.mem_of_getElem? (i := 67) rfl)) (hw _ (List.mem_of_getElem? (i := 68) rfl)) (hw _ (List.mem_of_getElem? (i := 69) rfl)) (by decide) (rm_max2 l Z a0 hw [] (0 : Int32) ((16 : Int32) - ((32 : Int32) - (32 : Int32))) h28 n0 (by omega) (by decide)) e34' (g := (mkF m 51 #[.val (.ref a), .val (.int (1 : Int32)), .val (.int (1 : Int32))] [(.int ((16 : Int32) - ((32 : Int32) - (32 : Int32)))), (.int (0 : Int32)), (.ref a)])) rfl (by rw [hml]; rfl) (argsL := [(.int (0 : Int32)), (.int ((16 : Int32) - ((32 : Int32) - (32 : Int32))))]) (rest := [(.ref a)]) rfl (lenOf pd_2 rfl) rfl (W := 1) (by show 2 * 0 + _ ≤ _; exact Nat.le_of_eq rfl) (hb hby d1_51) (by decide) (by decide) (by decide) (by decide)
  obtain ⟨rfl, Nq37, hs37⟩ := hQ37
  have N37 := Fr.app N34 Nq37
  have e37' : T37.heap = h28 := e37.trans hs37
  have k38 : Rch p e below (s₁.setTop (entryFrame m #[(.ref a), (.int (1 : Int32))] 3)) T37 (mkF m 54 #[.val (.ref a), .val (.int (1 : Int32)), .val (.int (1 : Int32))] [(.int ((16 : Int32) - ((32 : Int32) - (32 : Int32)))), (.ref a)]) := fun tg kg => k36 tg (st37 tg kg)
  have f39 : Fld Z h28 a "com/example/verum/verum/Relation" "pageBits" "I" (.int (0 : Int32)) := (((((((F_pageBits.ext E5).keep K8 (ninS (by first | exact own_ne (by omega) | assumption | (apply Ne.symm; assumption)) nin0)).other W12 (Or.inr (slot_ne (Or.inr (hw _ (List.mem_of_getElem? (i := 75) rfl))) (Or.inl (hw _ (List.mem_of_getElem? (i := 37) rfl))) (by decide) (t := .int) (t' := (.object "com/example/verum/verum/HashSlots")) (by decide) (by decide)))).ext E15).keep K18 (ninS (by first | exact own_ne (by omega) | assumption | (apply Ne.symm; assumption)) nin0)).other W23 (Or.inr (slot_ne (Or.inr (hw _ (List.mem_of_getElem? (i := 75) rfl))) (Or.inr (hw _ (List.mem_of_getElem? (i := 63) rfl))) (by decide) (t := .int) (t' := (.object "java/util/List")) (by decide) (by decide)))).other W28 (Or.inr (slot_ne (Or.inr (hw _ (List.mem_of_getElem? (i := 75) rfl))) (Or.inr (hw _ (List.mem_of_getElem? (i := 65) rfl))) (by decide) (t := .int) (t' := .int) (by decide) (by decide))))
  have f40 : Exa Z h28 a "com/example/verum/verum/Relation" := (f27.wr W28)
  obtain ⟨T41, h41, X41, e41, W41, st41⟩ := putF X37 hx hZ hown (host := "") (Or.inl (hw _ (List.mem_of_getElem? (i := 74) rfl))) Via.refl e37' f39 f40 (Or.inr ⟨(hw _ (List.mem_of_getElem? (i := 75) rfl)), rfl, hnm⟩) (hw _ (List.mem_of_getElem? (i := 2) rfl)) (ty := .int) (by decide) rfl rfl (g := (mkF m 54 #[.val (.ref a), .val (.int (1 : Int32)), .val (.int (1 : Int32))] [(.int ((16 : Int32) - ((32 : Int32) - (32 : Int32)))), (.ref a)])) rfl rfl (hb hby d1_54)
  have Fw41 := f39.same W41
  have s41 : h41.size = h28.size := W41.size
  have N41 := Fr.snoc X41 N37 (by omega : n0 ≤ a)
  have k42 : Rch p e below (s₁.setTop (entryFrame m #[(.ref a), (.int (1 : Int32))] 3)) T41 (mkF m 57 #[.val (.ref a), .val (.int (1 : Int32)), .val (.int (1 : Int32))] []) := fun tg kg => k38 tg (st41 tg kg)
  have f43 : Fld Z h41 a "com/example/verum/verum/Relation" "pageBits" "I" (.int (16 : Int32)) := Fw41
  have k44 : Rch p e below (s₁.setTop (entryFrame m #[(.ref a), (.int (1 : Int32))] 3)) T41 (mkF m 60 #[.val (.ref a), .val (.int (1 : Int32)), .val (.int (1 : Int32))] [(.ref a), (.int (1 : Int32)), (.ref a)]) := fun tg kg => by
    refine k42 tg ?_
    show Steps p.tables e below (T41.setTop (mkF m 57 #[.val (.ref a), .val (.int (1 : Int32)), .val (.int (1 : Int32))] [])) tg
    refine XS.aloadN X41.here hx rfl (hb hby d1_57) rfl rfl ?_
    refine XS.iconst X41.here hx rfl (hb hby d1_58) ?_
    refine XS.aloadN X41.here hx rfl (hb hby d1_59) rfl rfl ?_
    exact kg
  obtain ⟨T45, X45, e45, st45⟩ := getF X41 hx hZ hown (host := "") (Or.inl (hw _ (List.mem_of_getElem? (i := 74) rfl))) Via.refl e41 f43 (g := (mkF m 60 #[.val (.ref a), .val (.int (1 : Int32)), .val (.int (1 : Int32))] [(.ref a), (.int (1 : Int32)), (.ref a)])) rfl rfl (hb hby d1_60)
  have k46 : Rch p e below (s₁.setTop (entryFrame m #[(.ref a), (.int (1 : Int32))] 3)) T45 (mkF m 63 #[.val (.ref a), .val (.int (1 : Int32)), .val (.int (1 : Int32))] [(.int (16 : Int32)), (.int (1 : Int32)), (.ref a)]) := fun tg kg => k44 tg (st45 tg kg)
  have k47 : Rch p e below (s₁.setTop (entryFrame m #[(.ref a), (.int (1 : Int32))] 3)) T45 (mkF m 66 #[.val (.ref a), .val (.int (1 : Int32)), .val (.int (1 : Int32))] [(.int (((1 : Int32) <<< ((16 : Int32) &&& 31)) - (1 : Int32))), (.ref a)]) := fun tg kg => by
    refine k46 tg ?_
    show Steps p.tables e below (T45.setTop (mkF m 63 #[.val (.ref a), .val (.int (1 : Int32)), .val (.int (1 : Int32))] [(.int (16 : Int32)), (.int (1 : Int32)), (.ref a)])) tg
    refine XS.ishl X45.here hx rfl (hb hby d1_63) rfl ?_
    show Steps p.tables e below (T45.setTop (mkF m 64 #[.val (.ref a), .val (.int (1 : Int32)), .val (.int (1 : Int32))] [(.int ((1 : Int32) <<< ((16 : Int32) &&& 31))), (.ref a)])) tg
    refine XS.iconst X45.here hx rfl (hb hby d1_64) ?_
    refine XS.isub X45.here hx rfl (hb hby d1_65) rfl ?_
    exact kg
  have f48 : Fld Z h41 a "com/example/verum/verum/Relation" "pageMask" "I" (.int (0 : Int32)) := ((((((((F_pageMask.ext E5).keep K8 (ninS (by first | exact own_ne (by omega) | assumption | (apply Ne.symm; assumption)) nin0)).other W12 (Or.inr (slot_ne (Or.inr (hw _ (List.mem_of_getElem? (i := 77) rfl))) (Or.inl (hw _ (List.mem_of_getElem? (i := 37) rfl))) (by decide) (t := .int) (t' := (.object "com/example/verum/verum/HashSlots")) (by decide) (by decide)))).ext E15).keep K18 (ninS (by first | exact own_ne (by omega) | assumption | (apply Ne.symm; assumption)) nin0)).other W23 (Or.inr (slot_ne (Or.inr (hw _ (List.mem_of_getElem? (i := 77) rfl))) (Or.inr (hw _ (List.mem_of_getElem? (i := 63) rfl))) (by decide) (t := .int) (t' := (.object "java/util/List")) (by decide) (by decide)))).other W28 (Or.inr (slot_ne (Or.inr (hw _ (List.mem_of_getElem? (i := 77) rfl))) (Or.inr (hw _ (List.mem_of_getElem? (i := 65) rfl))) (by decide) (t := .int) (t' := .int) (by decide) (by decide)))).other W41 (Or.inr (slot_ne (Or.inr (hw _ (List.mem_of_getElem? (i := 77) rfl))) (Or.inr (hw _ (List.mem_of_getElem? (i := 75) rfl))) (by decide) (t := .int) (t' := .int) (by decide) (by decide))))
  have f49 : Exa Z h41 a "com/example/verum/verum/Relation" := (f40.wr W41)
  obtain ⟨T50, h50, X50, e50, W50, st50⟩ := putF X45 hx hZ hown (host := "") (Or.inl (hw _ (List.mem_of_getElem? (i := 76) rfl))) Via.refl e45 f48 f49 (Or.inr ⟨(hw _ (List.mem_of_getElem? (i := 77) rfl)), rfl, hnm⟩) (hw _ (List.mem_of_getElem? (i := 2) rfl)) (ty := .int) (by decide) rfl rfl (g := (mkF m 66 #[.val (.ref a), .val (.int (1 : Int32)), .val (.int (1 : Int32))] [(.int (((1 : Int32) <<< ((16 : Int32) &&& 31)) - (1 : Int32))), (.ref a)])) rfl rfl (hb hby d1_66)
  have Fw50 := f48.same W50
  have s50 : h50.size = h41.size := W50.size
  have N50 := Fr.snoc X50 N41 (by omega : n0 ≤ a)
  have k51 : Rch p e below (s₁.setTop (entryFrame m #[(.ref a), (.int (1 : Int32))] 3)) T50 (mkF m 69 #[.val (.ref a), .val (.int (1 : Int32)), .val (.int (1 : Int32))] []) := fun tg kg => k47 tg (st50 tg kg)
  have f52 : Fld Z h50 a "com/example/verum/verum/Relation" "pageMask" "I" (.int (65535 : Int32)) := Fw50
  have k53 : Rch p e below (s₁.setTop (entryFrame m #[(.ref a), (.int (1 : Int32))] 3)) T50 (mkF m 72 #[.val (.ref a), .val (.int (1 : Int32)), .val (.int (1 : Int32))] [(.ref a), (.int (1 : Int32)), (.ref a)]) := fun tg kg => by
    refine k51 tg ?_
    show Steps p.tables e below (T50.setTop (mkF m 69 #[.val (.ref a), .val (.int (1 : Int32)), .val (.int (1 : Int32))] [])) tg
    refine XS.aloadN X50.here hx rfl (hb hby d1_69) rfl rfl ?_
    refine XS.iloadN X50.here hx rfl (hb hby d1_70) rfl ?_
    refine XS.aloadN X50.here hx rfl (hb hby d1_71) rfl rfl ?_
    exact kg
  have f54 : Fld Z h50 a "com/example/verum/verum/Relation" "pageBits" "I" (.int (16 : Int32)) := (f43.other W50 (Or.inr (slot_ne (Or.inr (hw _ (List.mem_of_getElem? (i := 75) rfl))) (Or.inr (hw _ (List.mem_of_getElem? (i := 77) rfl))) (by decide) (t := .int) (t' := .int) (by decide) (by decide))))
  obtain ⟨T55, X55, e55, st55⟩ := getF X50 hx hZ hown (host := "") (Or.inl (hw _ (List.mem_of_getElem? (i := 74) rfl))) Via.refl e50 f54 (g := (mkF m 72 #[.val (.ref a), .val (.int (1 : Int32)), .val (.int (1 : Int32))] [(.ref a), (.int (1 : Int32)), (.ref a)])) rfl rfl (hb hby d1_72)
  have k56 : Rch p e below (s₁.setTop (entryFrame m #[(.ref a), (.int (1 : Int32))] 3)) T55 (mkF m 75 #[.val (.ref a), .val (.int (1 : Int32)), .val (.int (1 : Int32))] [(.int (16 : Int32)), (.int (1 : Int32)), (.ref a)]) := fun tg kg => k53 tg (st55 tg kg)
  have k57 : Rch p e below (s₁.setTop (entryFrame m #[(.ref a), (.int (1 : Int32))] 3)) T55 (mkF m 76 #[.val (.ref a), .val (.int (1 : Int32)), .val (.int (1 : Int32))] [(.int ((1 : Int32) <<< ((16 : Int32) &&& 31))), (.ref a)]) := fun tg kg => by
    refine k56 tg ?_
    show Steps p.tables e below (T55.setTop (mkF m 75 #[.val (.ref a), .val (.int (1 : Int32)), .val (.int (1 : Int32))] [(.int (16 : Int32)), (.int (1 : Int32)), (.ref a)])) tg
    refine XS.ishl X55.here hx rfl (hb hby d1_75) rfl ?_
    exact kg
  have f58 : Fld Z h50 a "com/example/verum/verum/Relation" "pageCells" "I" (.int (0 : Int32)) := (((((((((F_pageCells.ext E5).keep K8 (ninS (by first | exact own_ne (by omega) | assumption | (apply Ne.symm; assumption)) nin0)).other W12 (Or.inr (slot_ne (Or.inr (hw _ (List.mem_of_getElem? (i := 79) rfl))) (Or.inl (hw _ (List.mem_of_getElem? (i := 37) rfl))) (by decide) (t := .int) (t' := (.object "com/example/verum/verum/HashSlots")) (by decide) (by decide)))).ext E15).keep K18 (ninS (by first | exact own_ne (by omega) | assumption | (apply Ne.symm; assumption)) nin0)).other W23 (Or.inr (slot_ne (Or.inr (hw _ (List.mem_of_getElem? (i := 79) rfl))) (Or.inr (hw _ (List.mem_of_getElem? (i := 63) rfl))) (by decide) (t := .int) (t' := (.object "java/util/List")) (by decide) (by decide)))).other W28 (Or.inr (slot_ne (Or.inr (hw _ (List.mem_of_getElem? (i := 79) rfl))) (Or.inr (hw _ (List.mem_of_getElem? (i := 65) rfl))) (by decide) (t := .int) (t' := .int) (by decide) (by decide)))).other W41 (Or.inr (slot_ne (Or.inr (hw _ (List.mem_of_getElem? (i := 79) rfl))) (Or.inr (hw _ (List.mem_of_getElem? (i := 75) rfl))) (by decide) (t := .int) (t' := .int) (by decide) (by decide)))).other W50 (Or.inr (slot_ne (Or.inr (hw _ (List.mem_of_getElem? (i := 79) rfl))) (Or.inr (hw _ (List.mem_of_getElem? (i := 77) rfl))) (by decide) (t := .int) (t' := .int) (by decide) (by decide))))
  have f59 : Exa Z h50 a "com/example/verum/verum/Relation" := (f49.wr W50)
  obtain ⟨T60, h60, X60, e60, W60, st60⟩ := putF X55 hx hZ hown (host := "") (Or.inl (hw _ (List.mem_of_getElem? (i := 78) rfl))) Via.refl e55 f58 f59 (Or.inr ⟨(hw _ (List.mem_of_getElem? (i := 79) rfl)), rfl, hnm⟩) (hw _ (List.mem_of_getElem? (i := 2) rfl)) (ty := .int) (by decide) rfl rfl (g := (mkF m 76 #[.val (.ref a), .val (.int (1 : Int32)), .val (.int (1 : Int32))] [(.int ((1 : Int32) <<< ((16 : Int32) &&& 31))), (.ref a)])) rfl rfl (hb hby d1_76)
  have Fw60 := f58.same W60
  have s60 : h60.size = h50.size := W60.size
  have N60 := Fr.snoc X60 N50 (by omega : n0 ≤ a)
  have k61 : Rch p e below (s₁.setTop (entryFrame m #[(.ref a), (.int (1 : Int32))] 3)) T60 (mkF m 79 #[.val (.ref a), .val (.int (1 : Int32)), .val (.int (1 : Int32))] []) := fun tg kg => k57 tg (st60 tg kg)
  have k62 : Rch p e below (s₁.setTop (entryFrame m #[(.ref a), (.int (1 : Int32))] 3)) T60 (mkF m 81 #[.val (.ref a), .val (.int (1 : Int32)), .val (.int (1 : Int32))] [(.int (1 : Int32)), (.ref a)]) := fun tg kg => by
    refine k61 tg ?_
    show Steps p.tables e below (T60.setTop (mkF m 79 #[.val (.ref a), .val (.int (1 : Int32)), .val (.int (1 : Int32))] [])) tg
    refine XS.aloadN X60.here hx rfl (hb hby d1_79) rfl rfl ?_
    refine XS.iconst X60.here hx rfl (hb hby d1_80) ?_
    exact kg
  obtain ⟨T63, h63, c63, X63, e63, E63, A63, Ea63, O63, st63⟩ := newRA X60 hx hZ hown (ty := .int) (by decide) (hw _ (List.mem_of_getElem? (i := 80) rfl)) (hw _ (List.mem_of_getElem? (i := 22) rfl)) e60 (g := (mkF m 81 #[.val (.ref a), .val (.int (1 : Int32)), .val (.int (1 : Int32))] [(.int (1 : Int32)), (.ref a)])) rfl (hb hby d1_81) rfl (by decide) (cap := 1) (by decide) (by decide) (by decide) (by decide) (ad := "[[I") rfl
  obtain ⟨b63, g63⟩ : ∃ z, z = h60.size := ⟨_, rfl⟩
  rw [← g63] at A63 st63 Ea63
  have s63 : h60.size ≤ h63.size := E63.1
  have lt63 : b63 < h63.size := A63.lt
  have k64 : Rch p e below (s₁.setTop (entryFrame m #[(.ref a), (.int (1 : Int32))] 3)) T63 (mkF m 84 #[.val (.ref a), .val (.int (1 : Int32)), .val (.int (1 : Int32))] [(.ref b63), (.ref a)]) := fun tg kg => k62 tg (st63 tg kg)
  have V63 : Arv Z h63 b63 c63 (.array .int) (1 : Int32) [.null] .null := (Arv.new A63 (by decide)).pad (pad_rep [] .null 1)
  have k65 : Rch p e below (s₁.setTop (entryFrame m #[(.ref a), (.int (1 : Int32))] 3)) T63 (mkF m 91 #[.val (.ref a), .val (.int (1 : Int32)), .val (.int (1 : Int32))] [(.ref a), (.int (1 : Int32)), (.int (8 : Int32)), (.int (1 : Int32)), (.int (0 : Int32)), (.ref b63), (.ref b63), (.ref a)]) := fun tg kg => by
    refine k64 tg ?_
    show Steps p.tables e below (T63.setTop (mkF m 84 #[.val (.ref a), .val (.int (1 : Int32)), .val (.int (1 : Int32))] [(.ref b63), (.ref a)])) tg
    refine XS.dup X63.here hx rfl (hb hby d1_84) rfl rfl ?_
    refine XS.iconst X63.here hx rfl (hb hby d1_85) ?_
    refine XS.iloadN X63.here hx rfl (hb hby d1_86) rfl ?_
    refine XS.bipush X63.here hx rfl (hb hby d1_87) ?_
    show Steps p.tables e below (T63.setTop (mkF m 89 #[.val (.ref a), .val (.int (1 : Int32)), .val (.int (1 : Int32))] [(.int (8 : Int32)), (.int (1 : Int32)), (.int (0 : Int32)), (.ref b63), (.ref b63), (.ref a)])) tg
    refine XS.iconst X63.here hx rfl (hb hby d1_89) ?_
    refine XS.aloadN X63.here hx rfl (hb hby d1_90) rfl rfl ?_
    exact kg
  have f66 : Fld Z h63 a "com/example/verum/verum/Relation" "pageBits" "I" (.int (16 : Int32)) := ((f54.other W60 (Or.inr (slot_ne (Or.inr (hw _ (List.mem_of_getElem? (i := 75) rfl))) (Or.inr (hw _ (List.mem_of_getElem? (i := 79) rfl))) (by decide) (t := .int) (t' := .int) (by decide) (by decide)))).ext E63)
  obtain ⟨T67, X67, e67, st67⟩ := getF X63 hx hZ hown (host := "") (Or.inl (hw _ (List.mem_of_getElem? (i := 74) rfl))) Via.refl e63 f66 (g := (mkF m 91 #[.val (.ref a), .val (.int (1 : Int32)), .val (.int (1 : Int32))] [(.ref a), (.int (1 : Int32)), (.int (8 : Int32)), (.int (1 : Int32)), (.int (0 : Int32)), (.ref b63), (.ref b63), (.ref a)])) rfl rfl (hb hby d1_91)
  have k68 : Rch p e below (s₁.setTop (entryFrame m #[(.ref a), (.int (1 : Int32))] 3)) T67 (mkF m 94 #[.val (.ref a), .val (.int (1 : Int32)), .val (.int (1 : Int32))] [(.int (16 : Int32)), (.int (1 : Int32)), (.int (8 : Int32)), (.int (1 : Int32)), (.int (0 : Int32)), (.ref b63), (.ref b63), (.ref a)]) := fun tg kg => k65 tg (st67 tg kg)
  have k69 : Rch p e below (s₁.setTop (entryFrame m #[(.ref a), (.int (1 : Int32))] 3)) T67 (mkF m 95 #[.val (.ref a), .val (.int (1 : Int32)), .val (.int (1 : Int32))] [(.int ((1 : Int32) <<< ((16 : Int32) &&& 31))), (.int (8 : Int32)), (.int (1 : Int32)), (.int (0 : Int32)), (.ref b63), (.ref b63), (.ref a)]) := fun tg kg => by
    refine k68 tg ?_
    show Steps p.tables e below (T67.setTop (mkF m 94 #[.val (.ref a), .val (.int (1 : Int32)), .val (.int (1 : Int32))] [(.int (16 : Int32)), (.int (1 : Int32)), (.int (8 : Int32)), (.int (1 : Int32)), (.int (0 : Int32)), (.ref b63), (.ref b63), (.ref a)])) tg
    refine XS.ishl X67.here hx rfl (hb hby d1_94) rfl ?_
    exact kg
  obtain ⟨v70, T70, h70, Lc70, X70, e70, hQ70, st70⟩ := own_callS X67 hx hZ hown (hw _ (List.mem_of_getElem? (i := 81) rfl)) (hw _ (List.mem_of_getElem? (i := 82) rfl)) (hw _ (List.mem_of_getElem? (i := 68) rfl)) (hw _ (List.mem_of_getElem? (i := 83) rfl)) (by decide) (rm_min1 l Z a0 hw [] (8 : Int32) ((1 : Int32) <<< ((16 : Int32) &&& 31)) h63 n0 (by omega) (by decide)) e67 (g := (mkF m 95 #[.val (.ref a), .val (.int (1 : Int32)), .val (.int (1 : Int32))] [(.int ((1 : Int32) <<< ((16 : Int32) &&& 31))), (.int (8 : Int32)), (.int (1 : Int32)), (.int (0 : Int32)), (.ref b63), (.ref b63), (.ref a)])) rfl (by rw [hml]; rfl) (argsL := [(.int (8 : Int32)), (.int ((1 : Int32) <<< ((16 : Int32) &&& 31)))]) (rest := [(.int (1 : Int32)), (.int (0 : Int32)), (.ref b63), (.ref b63), (.ref a)]) rfl (lenOf pd_2 rfl) rfl (W := 5) (by show 2 * 0 + _ ≤ _; exact Nat.le_of_eq rfl) (hb hby d1_95) (by decide) (by decide) (by decide) (by decide)
  obtain ⟨rfl, Nq70, hs70⟩ := hQ70
  have N70 := Fr.app N60 Nq70
  have e70' : T70.heap = h63 := e70.trans hs70
  have k71 : Rch p e below (s₁.setTop (entryFrame m #[(.ref a), (.int (1 : Int32))] 3)) T70 (mkF m 98 #[.val (.ref a), .val (.int (1 : Int32)), .val (.int (1 : Int32))] [(.int (8 : Int32)), (.int (1 : Int32)), (.int (0 : Int32)), (.ref b63), (.ref b63), (.ref a)]) := fun tg kg => k69 tg (st70 tg kg)
  have k72 : Rch p e below (s₁.setTop (entryFrame m #[(.ref a), (.int (1 : Int32))] 3)) T70 (mkF m 99 #[.val (.ref a), .val (.int (1 : Int32)), .val (.int (1 : Int32))] [(.int ((1 : Int32) * (8 : Int32))), (.int (0 : Int32)), (.ref b63), (.ref b63), (.ref a)]) := fun tg kg => by
    refine k71 tg ?_
    show Steps p.tables e below (T70.setTop (mkF m 98 #[.val (.ref a), .val (.int (1 : Int32)), .val (.int (1 : Int32))] [(.int (8 : Int32)), (.int (1 : Int32)), (.int (0 : Int32)), (.ref b63), (.ref b63), (.ref a)])) tg
    refine XS.imul X70.here hx rfl (hb hby d1_98) rfl ?_
    exact kg
  obtain ⟨T73, h73, c73, X73, e73, E73, A73, Ea73, st73⟩ := newPE X70 hx hZ (hw _ (List.mem_of_getElem? (i := 0) rfl)) e70' (g := (mkF m 99 #[.val (.ref a), .val (.int (1 : Int32)), .val (.int (1 : Int32))] [(.int ((1 : Int32) * (8 : Int32))), (.int (0 : Int32)), (.ref b63), (.ref b63), (.ref a)])) rfl (hb hby d1_99) rfl (by decide) (cap := 8) (by decide) (by decide) (by decide) (by decide) (ad := "[I") rfl
  obtain ⟨b73, g73⟩ : ∃ z, z = h63.size := ⟨_, rfl⟩
  rw [← g73] at A73 st73 Ea73
  have s73 : h63.size ≤ h73.size := E73.1
  have lt73 : b73 < h73.size := A73.lt
  have k74 : Rch p e below (s₁.setTop (entryFrame m #[(.ref a), (.int (1 : Int32))] 3)) T73 (mkF m 101 #[.val (.ref a), .val (.int (1 : Int32)), .val (.int (1 : Int32))] [(.ref b73), (.int (0 : Int32)), (.ref b63), (.ref b63), (.ref a)]) := fun tg kg => k72 tg (st73 tg kg)
  have V73 : Arv Z h73 b73 c73 .int ((1 : Int32) * (8 : Int32)) [(.int (0 : Int32)), (.int (0 : Int32)), (.int (0 : Int32)), (.int (0 : Int32)), (.int (0 : Int32)), (.int (0 : Int32)), (.int (0 : Int32)), (.int (0 : Int32))] (.int (0 : Int32)) := (Arv.new A73 (by decide)).pad (pad_rep [] (.int (0 : Int32)) 8)
  have f75 : Arv Z h73 b73 c73 .int (8 : Int32) [(.int (0 : Int32)), (.int (0 : Int32)), (.int (0 : Int32)), (.int (0 : Int32)), (.int (0 : Int32)), (.int (0 : Int32)), (.int (0 : Int32)), (.int (0 : Int32))] (.int (0 : Int32)) := V73
  have f76 : Arv Z h73 b63 c63 (.array .int) (1 : Int32) [.null] .null := (V63.ext E73)
  obtain ⟨cl77, Ar77, q77, S77, N77', H77, G77⟩ := f76
  have hin77 : ¬ ((0 : Int32) < 0 ∨ cl77.slots.size ≤ ((0 : Int32)).toNatClampNeg) := inb_of S77 ⟨by decide, by decide⟩
  obtain ⟨T77, h77, X77, e77, W77, st77⟩ := stR X73 hx hZ e73 Ar77 (j := (0 : Int32)) hin77 rfl (Sto.ofVA Ar77 q77 O63 (Ins.self Ea73)) (g := (mkF m 101 #[.val (.ref a), .val (.int (1 : Int32)), .val (.int (1 : Int32))] [(.ref b73), (.int (0 : Int32)), (.ref b63), (.ref b63), (.ref a)])) rfl rfl (hb hby d1_101)
  have s77 : h77.size = h73.size := W77.size
  have N77 := Fr.snoc X77 N70 (by omega : n0 ≤ b63)
  have k78 : Rch p e below (s₁.setTop (entryFrame m #[(.ref a), (.int (1 : Int32))] 3)) T77 (mkF m 102 #[.val (.ref a), .val (.int (1 : Int32)), .val (.int (1 : Int32))] [(.ref b63), (.ref a)]) := fun tg kg => k74 tg (st77 tg kg)
  have V77 : Arv Z h77 b63 c63 (.array .int) (1 : Int32) [(.ref b73)] .null := Arv.set Ar77 q77 S77 N77' H77 G77 rfl W77 0 rfl (Nat.le_of_ble_eq_true rfl)
  have f79 : Fld Z h77 a "com/example/verum/verum/Relation" "pages" "[[I" .null := (((((((((((((F_pages.ext E5).keep K8 (ninS (by first | exact own_ne (by omega) | assumption | (apply Ne.symm; assumption)) nin0)).other W12 (Or.inr (slot_ne (Or.inl (hw _ (List.mem_of_getElem? (i := 85) rfl))) (Or.inl (hw _ (List.mem_of_getElem? (i := 37) rfl))) (by decide) (t := (.array (.array .int))) (t' := (.object "com/example/verum/verum/HashSlots")) (by decide) (by decide)))).ext E15).keep K18 (ninS (by first | exact own_ne (by omega) | assumption | (apply Ne.symm; assumption)) nin0)).other W23 (Or.inr (slot_ne (Or.inl (hw _ (List.mem_of_getElem? (i := 85) rfl))) (Or.inr (hw _ (List.mem_of_getElem? (i := 63) rfl))) (by decide) (t := (.array (.array .int))) (t' := (.object "java/util/List")) (by decide) (by decide)))).other W28 (Or.inr (slot_ne (Or.inl (hw _ (List.mem_of_getElem? (i := 85) rfl))) (Or.inr (hw _ (List.mem_of_getElem? (i := 65) rfl))) (by decide) (t := (.array (.array .int))) (t' := .int) (by decide) (by decide)))).other W41 (Or.inr (slot_ne (Or.inl (hw _ (List.mem_of_getElem? (i := 85) rfl))) (Or.inr (hw _ (List.mem_of_getElem? (i := 75) rfl))) (by decide) (t := (.array (.array .int))) (t' := .int) (by decide) (by decide)))).other W50 (Or.inr (slot_ne (Or.inl (hw _ (List.mem_of_getElem? (i := 85) rfl))) (Or.inr (hw _ (List.mem_of_getElem? (i := 77) rfl))) (by decide) (t := (.array (.array .int))) (t' := .int) (by decide) (by decide)))).other W60 (Or.inr (slot_ne (Or.inl (hw _ (List.mem_of_getElem? (i := 85) rfl))) (Or.inr (hw _ (List.mem_of_getElem? (i := 79) rfl))) (by decide) (t := (.array (.array .int))) (t' := .int) (by decide) (by decide)))).ext E63).ext E73).other W77 (Or.inl (by first | exact own_ne (by omega) | assumption | (apply Ne.symm; assumption))))
  have f80 : Exa Z h77 a "com/example/verum/verum/Relation" := ((((f59.wr W60).ext E63).ext E73).wr W77)
  obtain ⟨T81, h81, X81, e81, W81, st81⟩ := putF X77 hx hZ hown (host := "") (Or.inl (hw _ (List.mem_of_getElem? (i := 84) rfl))) Via.refl e77 f79 f80 (Or.inl (hw _ (List.mem_of_getElem? (i := 85) rfl))) (hw _ (List.mem_of_getElem? (i := 2) rfl)) (ty := (.array (.array .int))) (by decide) rfl rfl (g := (mkF m 102 #[.val (.ref a), .val (.int (1 : Int32)), .val (.int (1 : Int32))] [(.ref b63), (.ref a)])) rfl rfl (hb hby d1_102)
  have Fw81 := f79.same W81
  have s81 : h81.size = h77.size := W81.size
  have N81 := Fr.snoc X81 N77 (by omega : n0 ≤ a)
  have k82 : Rch p e below (s₁.setTop (entryFrame m #[(.ref a), (.int (1 : Int32))] 3)) T81 (mkF m 105 #[.val (.ref a), .val (.int (1 : Int32)), .val (.int (1 : Int32))] []) := fun tg kg => k78 tg (st81 tg kg)
  have f83 : Exa Z h81 a "com/example/verum/verum/Relation" := (f80.wr W81)
  have f84 : Fld Z h81 a "com/example/verum/verum/Relation" "slots" "Lcom/example/verum/verum/HashSlots;" (.ref b5) := (((((((((((Fw12.ext E15).keep K18 (ninS (by first | exact own_ne (by omega) | assumption | (apply Ne.symm; assumption)) nin0)).other W23 (Or.inr (slot_ne (Or.inl (hw _ (List.mem_of_getElem? (i := 37) rfl))) (Or.inr (hw _ (List.mem_of_getElem? (i := 63) rfl))) (by decide) (t := (.object "com/example/verum/verum/HashSlots")) (t' := (.object "java/util/List")) (by decide) (by decide)))).other W28 (Or.inr (slot_ne (Or.inl (hw _ (List.mem_of_getElem? (i := 37) rfl))) (Or.inr (hw _ (List.mem_of_getElem? (i := 65) rfl))) (by decide) (t := (.object "com/example/verum/verum/HashSlots")) (t' := .int) (by decide) (by decide)))).other W41 (Or.inr (slot_ne (Or.inl (hw _ (List.mem_of_getElem? (i := 37) rfl))) (Or.inr (hw _ (List.mem_of_getElem? (i := 75) rfl))) (by decide) (t := (.object "com/example/verum/verum/HashSlots")) (t' := .int) (by decide) (by decide)))).other W50 (Or.inr (slot_ne (Or.inl (hw _ (List.mem_of_getElem? (i := 37) rfl))) (Or.inr (hw _ (List.mem_of_getElem? (i := 77) rfl))) (by decide) (t := (.object "com/example/verum/verum/HashSlots")) (t' := .int) (by decide) (by decide)))).other W60 (Or.inr (slot_ne (Or.inl (hw _ (List.mem_of_getElem? (i := 37) rfl))) (Or.inr (hw _ (List.mem_of_getElem? (i := 79) rfl))) (by decide) (t := (.object "com/example/verum/verum/HashSlots")) (t' := .int) (by decide) (by decide)))).ext E63).ext E73).other W77 (Or.inl (by first | exact own_ne (by omega) | assumption | (apply Ne.symm; assumption)))).other W81 (Or.inr (slot_ne (Or.inl (hw _ (List.mem_of_getElem? (i := 37) rfl))) (Or.inl (hw _ (List.mem_of_getElem? (i := 85) rfl))) (by decide) (t := (.object "com/example/verum/verum/HashSlots")) (t' := (.array (.array .int))) (by decide) (by decide))))
  have f85 : Fld Z h81 a "com/example/verum/verum/Relation" "arity" "I" (.int (1 : Int32)) := (((((((Fw28.other W41 (Or.inr (slot_ne (Or.inr (hw _ (List.mem_of_getElem? (i := 65) rfl))) (Or.inr (hw _ (List.mem_of_getElem? (i := 75) rfl))) (by decide) (t := .int) (t' := .int) (by decide) (by decide)))).other W50 (Or.inr (slot_ne (Or.inr (hw _ (List.mem_of_getElem? (i := 65) rfl))) (Or.inr (hw _ (List.mem_of_getElem? (i := 77) rfl))) (by decide) (t := .int) (t' := .int) (by decide) (by decide)))).other W60 (Or.inr (slot_ne (Or.inr (hw _ (List.mem_of_getElem? (i := 65) rfl))) (Or.inr (hw _ (List.mem_of_getElem? (i := 79) rfl))) (by decide) (t := .int) (t' := .int) (by decide) (by decide)))).ext E63).ext E73).other W77 (Or.inl (by first | exact own_ne (by omega) | assumption | (apply Ne.symm; assumption)))).other W81 (Or.inr (slot_ne (Or.inr (hw _ (List.mem_of_getElem? (i := 65) rfl))) (Or.inl (hw _ (List.mem_of_getElem? (i := 85) rfl))) (by decide) (t := .int) (t' := (.array (.array .int))) (by decide) (by decide))))
  have f86 : Fld Z h81 a "com/example/verum/verum/Relation" "pageBits" "I" (.int (16 : Int32)) := (((f66.ext E73).other W77 (Or.inl (by first | exact own_ne (by omega) | assumption | (apply Ne.symm; assumption)))).other W81 (Or.inr (slot_ne (Or.inr (hw _ (List.mem_of_getElem? (i := 75) rfl))) (Or.inl (hw _ (List.mem_of_getElem? (i := 85) rfl))) (by decide) (t := .int) (t' := (.array (.array .int))) (by decide) (by decide))))
  have f87 : Fld Z h81 a "com/example/verum/verum/Relation" "pageMask" "I" (.int (65535 : Int32)) := (((((f52.other W60 (Or.inr (slot_ne (Or.inr (hw _ (List.mem_of_getElem? (i := 77) rfl))) (Or.inr (hw _ (List.mem_of_getElem? (i := 79) rfl))) (by decide) (t := .int) (t' := .int) (by decide) (by decide)))).ext E63).ext E73).other W77 (Or.inl (by first | exact own_ne (by omega) | assumption | (apply Ne.symm; assumption)))).other W81 (Or.inr (slot_ne (Or.inr (hw _ (List.mem_of_getElem? (i := 77) rfl))) (Or.inl (hw _ (List.mem_of_getElem? (i := 85) rfl))) (by decide) (t := .int) (t' := (.array (.array .int))) (by decide) (by decide))))
  have f88 : Fld Z h81 a "com/example/verum/verum/Relation" "size" "I" (.int (0 : Int32)) := ((((((((((((((F_size.ext E5).keep K8 (ninS (by first | exact own_ne (by omega) | assumption | (apply Ne.symm; assumption)) nin0)).other W12 (Or.inr (slot_ne (Or.inl (hw _ (List.mem_of_getElem? (i := 100) rfl))) (Or.inl (hw _ (List.mem_of_getElem? (i := 37) rfl))) (by decide) (t := .int) (t' := (.object "com/example/verum/verum/HashSlots")) (by decide) (by decide)))).ext E15).keep K18 (ninS (by first | exact own_ne (by omega) | assumption | (apply Ne.symm; assumption)) nin0)).other W23 (Or.inr (slot_ne (Or.inl (hw _ (List.mem_of_getElem? (i := 100) rfl))) (Or.inr (hw _ (List.mem_of_getElem? (i := 63) rfl))) (by decide) (t := .int) (t' := (.object "java/util/List")) (by decide) (by decide)))).other W28 (Or.inr (slot_ne (Or.inl (hw _ (List.mem_of_getElem? (i := 100) rfl))) (Or.inr (hw _ (List.mem_of_getElem? (i := 65) rfl))) (by decide) (t := .int) (t' := .int) (by decide) (by decide)))).other W41 (Or.inr (slot_ne (Or.inl (hw _ (List.mem_of_getElem? (i := 100) rfl))) (Or.inr (hw _ (List.mem_of_getElem? (i := 75) rfl))) (by decide) (t := .int) (t' := .int) (by decide) (by decide)))).other W50 (Or.inr (slot_ne (Or.inl (hw _ (List.mem_of_getElem? (i := 100) rfl))) (Or.inr (hw _ (List.mem_of_getElem? (i := 77) rfl))) (by decide) (t := .int) (t' := .int) (by decide) (by decide)))).other W60 (Or.inr (slot_ne (Or.inl (hw _ (List.mem_of_getElem? (i := 100) rfl))) (Or.inr (hw _ (List.mem_of_getElem? (i := 79) rfl))) (by decide) (t := .int) (t' := .int) (by decide) (by decide)))).ext E63).ext E73).other W77 (Or.inl (by first | exact own_ne (by omega) | assumption | (apply Ne.symm; assumption)))).other W81 (Or.inr (slot_ne (Or.inl (hw _ (List.mem_of_getElem? (i := 100) rfl))) (Or.inl (hw _ (List.mem_of_getElem? (i := 85) rfl))) (by decide) (t := .int) (t' := (.array (.array .int))) (by decide) (by decide))))
  have f89 : Fld Z h81 a "com/example/verum/verum/Relation" "deltaStart" "I" (.int (0 : Int32)) := ((((((((((((((F_deltaStart.ext E5).keep K8 (ninS (by first | exact own_ne (by omega) | assumption | (apply Ne.symm; assumption)) nin0)).other W12 (Or.inr (slot_ne (Or.inl (hw _ (List.mem_of_getElem? (i := 98) rfl))) (Or.inl (hw _ (List.mem_of_getElem? (i := 37) rfl))) (by decide) (t := .int) (t' := (.object "com/example/verum/verum/HashSlots")) (by decide) (by decide)))).ext E15).keep K18 (ninS (by first | exact own_ne (by omega) | assumption | (apply Ne.symm; assumption)) nin0)).other W23 (Or.inr (slot_ne (Or.inl (hw _ (List.mem_of_getElem? (i := 98) rfl))) (Or.inr (hw _ (List.mem_of_getElem? (i := 63) rfl))) (by decide) (t := .int) (t' := (.object "java/util/List")) (by decide) (by decide)))).other W28 (Or.inr (slot_ne (Or.inl (hw _ (List.mem_of_getElem? (i := 98) rfl))) (Or.inr (hw _ (List.mem_of_getElem? (i := 65) rfl))) (by decide) (t := .int) (t' := .int) (by decide) (by decide)))).other W41 (Or.inr (slot_ne (Or.inl (hw _ (List.mem_of_getElem? (i := 98) rfl))) (Or.inr (hw _ (List.mem_of_getElem? (i := 75) rfl))) (by decide) (t := .int) (t' := .int) (by decide) (by decide)))).other W50 (Or.inr (slot_ne (Or.inl (hw _ (List.mem_of_getElem? (i := 98) rfl))) (Or.inr (hw _ (List.mem_of_getElem? (i := 77) rfl))) (by decide) (t := .int) (t' := .int) (by decide) (by decide)))).other W60 (Or.inr (slot_ne (Or.inl (hw _ (List.mem_of_getElem? (i := 98) rfl))) (Or.inr (hw _ (List.mem_of_getElem? (i := 79) rfl))) (by decide) (t := .int) (t' := .int) (by decide) (by decide)))).ext E63).ext E73).other W77 (Or.inl (by first | exact own_ne (by omega) | assumption | (apply Ne.symm; assumption)))).other W81 (Or.inr (slot_ne (Or.inl (hw _ (List.mem_of_getElem? (i := 98) rfl))) (Or.inl (hw _ (List.mem_of_getElem? (i := 85) rfl))) (by decide) (t := .int) (t' := (.array (.array .int))) (by decide) (by decide))))
  have f90 : Fld Z h81 a "com/example/verum/verum/Relation" "deltaEnd" "I" (.int (0 : Int32)) := ((((((((((((((F_deltaEnd.ext E5).keep K8 (ninS (by first | exact own_ne (by omega) | assumption | (apply Ne.symm; assumption)) nin0)).other W12 (Or.inr (slot_ne (Or.inl (hw _ (List.mem_of_getElem? (i := 96) rfl))) (Or.inl (hw _ (List.mem_of_getElem? (i := 37) rfl))) (by decide) (t := .int) (t' := (.object "com/example/verum/verum/HashSlots")) (by decide) (by decide)))).ext E15).keep K18 (ninS (by first | exact own_ne (by omega) | assumption | (apply Ne.symm; assumption)) nin0)).other W23 (Or.inr (slot_ne (Or.inl (hw _ (List.mem_of_getElem? (i := 96) rfl))) (Or.inr (hw _ (List.mem_of_getElem? (i := 63) rfl))) (by decide) (t := .int) (t' := (.object "java/util/List")) (by decide) (by decide)))).other W28 (Or.inr (slot_ne (Or.inl (hw _ (List.mem_of_getElem? (i := 96) rfl))) (Or.inr (hw _ (List.mem_of_getElem? (i := 65) rfl))) (by decide) (t := .int) (t' := .int) (by decide) (by decide)))).other W41 (Or.inr (slot_ne (Or.inl (hw _ (List.mem_of_getElem? (i := 96) rfl))) (Or.inr (hw _ (List.mem_of_getElem? (i := 75) rfl))) (by decide) (t := .int) (t' := .int) (by decide) (by decide)))).other W50 (Or.inr (slot_ne (Or.inl (hw _ (List.mem_of_getElem? (i := 96) rfl))) (Or.inr (hw _ (List.mem_of_getElem? (i := 77) rfl))) (by decide) (t := .int) (t' := .int) (by decide) (by decide)))).other W60 (Or.inr (slot_ne (Or.inl (hw _ (List.mem_of_getElem? (i := 96) rfl))) (Or.inr (hw _ (List.mem_of_getElem? (i := 79) rfl))) (by decide) (t := .int) (t' := .int) (by decide) (by decide)))).ext E63).ext E73).other W77 (Or.inl (by first | exact own_ne (by omega) | assumption | (apply Ne.symm; assumption)))).other W81 (Or.inr (slot_ne (Or.inl (hw _ (List.mem_of_getElem? (i := 96) rfl))) (Or.inl (hw _ (List.mem_of_getElem? (i := 85) rfl))) (by decide) (t := .int) (t' := (.array (.array .int))) (by decide) (by decide))))
  have f91 : Fld Z h81 a "com/example/verum/verum/Relation" "shared" "Z" (.int (0 : Int32)) := ((((((((((((((F_shared.ext E5).keep K8 (ninS (by first | exact own_ne (by omega) | assumption | (apply Ne.symm; assumption)) nin0)).other W12 (Or.inr (slot_ne (Or.inl (hw _ (List.mem_of_getElem? (i := 179) rfl))) (Or.inl (hw _ (List.mem_of_getElem? (i := 37) rfl))) (by decide) (t := .boolean) (t' := (.object "com/example/verum/verum/HashSlots")) (by decide) (by decide)))).ext E15).keep K18 (ninS (by first | exact own_ne (by omega) | assumption | (apply Ne.symm; assumption)) nin0)).other W23 (Or.inr (slot_ne (Or.inl (hw _ (List.mem_of_getElem? (i := 179) rfl))) (Or.inr (hw _ (List.mem_of_getElem? (i := 63) rfl))) (by decide) (t := .boolean) (t' := (.object "java/util/List")) (by decide) (by decide)))).other W28 (Or.inr (slot_ne (Or.inl (hw _ (List.mem_of_getElem? (i := 179) rfl))) (Or.inr (hw _ (List.mem_of_getElem? (i := 65) rfl))) (by decide) (t := .boolean) (t' := .int) (by decide) (by decide)))).other W41 (Or.inr (slot_ne (Or.inl (hw _ (List.mem_of_getElem? (i := 179) rfl))) (Or.inr (hw _ (List.mem_of_getElem? (i := 75) rfl))) (by decide) (t := .boolean) (t' := .int) (by decide) (by decide)))).other W50 (Or.inr (slot_ne (Or.inl (hw _ (List.mem_of_getElem? (i := 179) rfl))) (Or.inr (hw _ (List.mem_of_getElem? (i := 77) rfl))) (by decide) (t := .boolean) (t' := .int) (by decide) (by decide)))).other W60 (Or.inr (slot_ne (Or.inl (hw _ (List.mem_of_getElem? (i := 179) rfl))) (Or.inr (hw _ (List.mem_of_getElem? (i := 79) rfl))) (by decide) (t := .boolean) (t' := .int) (by decide) (by decide)))).ext E63).ext E73).other W77 (Or.inl (by first | exact own_ne (by omega) | assumption | (apply Ne.symm; assumption)))).other W81 (Or.inr (slot_ne (Or.inl (hw _ (List.mem_of_getElem? (i := 179) rfl))) (Or.inl (hw _ (List.mem_of_getElem? (i := 85) rfl))) (by decide) (t := .boolean) (t' := (.array (.array .int))) (by decide) (by decide))))
  have f92 : Exa Z h81 b5 "com/example/verum/verum/HashSlots" := ((((((((((((fq8_3.wr W12).ext E15).keep K18).wr W23).wr W28).wr W41).wr W50).wr W60).ext E63).ext E73).wr W77).wr W81)
  have f93 : Fld Z h81 b5 "com/example/verum/verum/HashSlots" "pages" "[[I" (.ref hpq) := ((((((((((((fq8_4.other W12 (Or.inl (by first | exact own_ne (by omega) | assumption | (apply Ne.symm; assumption)))).ext E15).keep K18 (ninS (by first | exact own_ne (by omega) | assumption | (apply Ne.symm; assumption)) nin0)).other W23 (Or.inl (by first | exact own_ne (by omega) | assumption | (apply Ne.symm; assumption)))).other W28 (Or.inl (by first | exact own_ne (by omega) | assumption | (apply Ne.symm; assumption)))).other W41 (Or.inl (by first | exact own_ne (by omega) | assumption | (apply Ne.symm; assumption)))).other W50 (Or.inl (by first | exact own_ne (by omega) | assumption | (apply Ne.symm; assumption)))).other W60 (Or.inl (by first | exact own_ne (by omega) | assumption | (apply Ne.symm; assumption)))).ext E63).ext E73).other W77 (Or.inl (by first | exact own_ne (by omega) | assumption | (apply Ne.symm; assumption)))).other W81 (Or.inl (by first | exact own_ne (by omega) | assumption | (apply Ne.symm; assumption))))
  have f94 : Fld Z h81 b5 "com/example/verum/verum/HashSlots" "mask" "I" (.int (15 : Int32)) := ((((((((((((fq8_5.other W12 (Or.inl (by first | exact own_ne (by omega) | assumption | (apply Ne.symm; assumption)))).ext E15).keep K18 (ninS (by first | exact own_ne (by omega) | assumption | (apply Ne.symm; assumption)) nin0)).other W23 (Or.inl (by first | exact own_ne (by omega) | assumption | (apply Ne.symm; assumption)))).other W28 (Or.inl (by first | exact own_ne (by omega) | assumption | (apply Ne.symm; assumption)))).other W41 (Or.inl (by first | exact own_ne (by omega) | assumption | (apply Ne.symm; assumption)))).other W50 (Or.inl (by first | exact own_ne (by omega) | assumption | (apply Ne.symm; assumption)))).other W60 (Or.inl (by first | exact own_ne (by omega) | assumption | (apply Ne.symm; assumption)))).ext E63).ext E73).other W77 (Or.inl (by first | exact own_ne (by omega) | assumption | (apply Ne.symm; assumption)))).other W81 (Or.inl (by first | exact own_ne (by omega) | assumption | (apply Ne.symm; assumption))))
  have f95 : Fld Z h81 b5 "com/example/verum/verum/HashSlots" "shared" "Z" (.int (0 : Int32)) := ((((((((((((fq8_6.other W12 (Or.inl (by first | exact own_ne (by omega) | assumption | (apply Ne.symm; assumption)))).ext E15).keep K18 (ninS (by first | exact own_ne (by omega) | assumption | (apply Ne.symm; assumption)) nin0)).other W23 (Or.inl (by first | exact own_ne (by omega) | assumption | (apply Ne.symm; assumption)))).other W28 (Or.inl (by first | exact own_ne (by omega) | assumption | (apply Ne.symm; assumption)))).other W41 (Or.inl (by first | exact own_ne (by omega) | assumption | (apply Ne.symm; assumption)))).other W50 (Or.inl (by first | exact own_ne (by omega) | assumption | (apply Ne.symm; assumption)))).other W60 (Or.inl (by first | exact own_ne (by omega) | assumption | (apply Ne.symm; assumption)))).ext E63).ext E73).other W77 (Or.inl (by first | exact own_ne (by omega) | assumption | (apply Ne.symm; assumption)))).other W81 (Or.inl (by first | exact own_ne (by omega) | assumption | (apply Ne.symm; assumption))))
  have f96 : Arv Z h81 b63 c63 (.array .int) (1 : Int32) [(.ref b73)] .null := (V77.other W81 (by first | exact own_ne (by omega) | assumption | (apply Ne.symm; assumption)))
  have f97 : Arv Z h81 b73 c73 .int (8 : Int32) [(.int (0 : Int32)), (.int (0 : Int32)), (.int (0 : Int32)), (.int (0 : Int32)), (.int (0 : Int32)), (.int (0 : Int32)), (.int (0 : Int32)), (.int (0 : Int32))] (.int (0 : Int32)) := ((f75.other W77 (by first | exact own_ne (by omega) | assumption | (apply Ne.symm; assumption))).other W81 (by first | exact own_ne (by omega) | assumption | (apply Ne.symm; assumption)))
  have f98 : Arv Z h81 hpq khpq (.array .int) (1 : Int32) [(.ref htq)] .null := ((((((((((((fq8_7.other W12 (by first | exact own_ne (by omega) | assumption | (apply Ne.symm; assumption))).ext E15).keep K18 (ninS (by first | exact own_ne (by omega) | assumption | (apply Ne.symm; assumption)) nin0)).other W23 (by first | exact own_ne (by omega) | assumption | (apply Ne.symm; assumption))).other W28 (by first | exact own_ne (by omega) | assumption | (apply Ne.symm; assumption))).other W41 (by first | exact own_ne (by omega) | assumption | (apply Ne.symm; assumption))).other W50 (by first | exact own_ne (by omega) | assumption | (apply Ne.symm; assumption))).other W60 (by first | exact own_ne (by omega) | assumption | (apply Ne.symm; assumption))).ext E63).ext E73).other W77 (by first | exact own_ne (by omega) | assumption | (apply Ne.symm; assumption))).other W81 (by first | exact own_ne (by omega) | assumption | (apply Ne.symm; assumption)))
  have f99 : Arv Z h81 htq khtq .int (16 : Int32) [(.int (0 : Int32)), (.int (0 : Int32)), (.int (0 : Int32)), (.int (0 : Int32)), (.int (0 : Int32)), (.int (0 : Int32)), (.int (0 : Int32)), (.int (0 : Int32)), (.int (0 : Int32)), (.int (0 : Int32)), (.int (0 : Int32)), (.int (0 : Int32)), (.int (0 : Int32)), (.int (0 : Int32)), (.int (0 : Int32)), (.int (0 : Int32))] (.int (0 : Int32)) := ((((((((((((fq8_8.other W12 (by first | exact own_ne (by omega) | assumption | (apply Ne.symm; assumption))).ext E15).keep K18 (ninS (by first | exact own_ne (by omega) | assumption | (apply Ne.symm; assumption)) nin0)).other W23 (by first | exact own_ne (by omega) | assumption | (apply Ne.symm; assumption))).other W28 (by first | exact own_ne (by omega) | assumption | (apply Ne.symm; assumption))).other W41 (by first | exact own_ne (by omega) | assumption | (apply Ne.symm; assumption))).other W50 (by first | exact own_ne (by omega) | assumption | (apply Ne.symm; assumption))).other W60 (by first | exact own_ne (by omega) | assumption | (apply Ne.symm; assumption))).ext E63).ext E73).other W77 (by first | exact own_ne (by omega) | assumption | (apply Ne.symm; assumption))).other W81 (by first | exact own_ne (by omega) | assumption | (apply Ne.symm; assumption)))
  obtain ⟨fs100, hr100, hrun100, hended100, hW100, hsame100⟩ := X81.leave (v := none) (fun _ => rfl)
  refine ⟨_, _, k82 _ ?_, hrun100, hended100, _, _, rfl, ?_, ⟨_, rfl⟩, hW100, hsame100.mono (by decide) (by decide)⟩
  · exact X81.returnOut hx Bd.returns (hb hby d1_105) hr100
  · show Q_rm_rel Z a ed h0 n0 _ T81.heap _
    rw [e81]
    exact ⟨b5, b63, b73, hpq, htq, c63, c73, khpq, khtq, rfl, N81, (((((((((((((((Keep.refl h0 [a]).ext E5).trans K8 (allS (Or.inr (by omega)) all0)).wr W12 (Or.inl (List.mem_of_getElem? (i := 0) rfl))).ext E15).trans K18 (allS (Or.inr (by omega)) all0)).wr W23 (Or.inl (List.mem_of_getElem? (i := 0) rfl))).wr W28 (Or.inl (List.mem_of_getElem? (i := 0) rfl))).wr W41 (Or.inl (List.mem_of_getElem? (i := 0) rfl))).wr W50 (Or.inl (List.mem_of_getElem? (i := 0) rfl))).wr W60 (Or.inl (List.mem_of_getElem? (i := 0) rfl))).ext E63).ext E73).wr W77 (Or.inr (by omega))).wr W81 (Or.inl (List.mem_of_getElem? (i := 0) rfl))), f83, f84, f85, f86, f87, Fw81, f88, f89, f90, f91, f92, f93, f94, f95, f96, f97, f98, f99, ⟨by omega, own_ltN (by omega), o2, own_ltN (by omega), own_ltN (by omega)⟩⟩
theorem own_nog {n r : Int32} (h : r = 0) : ¬ n < n + r := by rw [h, Int32.add_zero, Int32.lt_iff_toInt_lt]; omega
theorem own_gr {n r : Int32} (h0 : 0 ≤ n.toInt) (h1 : n.toInt ≤ 7) (h : r = 0 ∨ r = 1) (hz : ¬ r = 0) : n < n + r := by
  rcases h with h | h
  · exact absurd h hz
  · rw [h]; exact own_grow h0 h1
theorem own_r1 {r : Int32} (h : r = 0 ∨ r = 1) (hz : ¬ r = 0) : r = 1 := h.elim (fun q => absurd q hz) id
theorem own_r01 {r : Int32} (h : r = 0 ∨ r = 1) : 0 ≤ r.toInt ∧ r.toInt ≤ 1 := by rcases h with rfl | rfl <;> decide
theorem ef_rm_tul (m : MethodId) (x0 : Int32) : entryFrame m #[(.int x0)] 1 = mkF m 0 #[.val (.int x0)] [] := by first | (simp [entryFrame, mkF, argsToLocals, Value.category]; done) | rfl
def Q_rm_tul (Z : State) (x : Int32) (h0 : Heap) (n0 : Nat) (v : Option Value) (h : Heap) (L : List Loc) : Prop := (v = some (.long (15 : Int64))) ∧ (Fr n0 L) ∧ (h = h0)
theorem d20_0 : decode jdk_33_method_42_code 0 = .ok (.iload_n 0, 1) := by decide +kernel
theorem d20_1 : decode jdk_33_method_42_code 1 = .ok (.i2l, 1) := by decide +kernel
theorem d20_2 : decode jdk_33_method_42_code 2 = .ok (.ldc2_w 262, 3) := by decide +kernel
theorem d20_5 : decode jdk_33_method_42_code 5 = .ok (.land, 1) := by decide +kernel
theorem d20_6 : decode jdk_33_method_42_code 6 = .ok (.lreturn, 1) := by decide +kernel
set_option maxRecDepth 65536 in
set_option maxHeartbeats 40000000 in
theorem rm_tul (l : Launch) (Z : State) (a0 : Array Value) (hw : ∀ d ∈ tables_1, d.before a0 Z = true) (ws : List Jvm.Cond) (x : Int32) (h0 : Heap) (n0 : Nat) (Z0 : n0 ≤ h0.size) (hx5 : x = (15 : Int32)) :
    Con l Z (⟨"java/lang/Integer", "toUnsignedLong", "(I)J"⟩ : MethodName) jdk_33_method_42_code 1 (some .long) ws ({ frames := 0, cells := 0, slots := 0, locals := 0 } : Room) #[(.int x)] h0 (Q_rm_tul Z x h0 n0) := by
  refine MetFree.of_bodySF (plainFor_of_name pn_Integer) hisR ?_
  intro p e s m args below meth c s₁ Bd hml0 hP hK
  obtain ⟨rfl, hZ, hh⟩ := hP
  have hx := Bd.exec
  have hby := Bd.bytes
  have hml : c.maxLocals = 1 := hml0
  have hown : s.vm.findClass "java/lang/Integer" = some m.cls := findClass_of_methodNamed Bd.named
  have hnm := (name_of_methodNamed Bd.named Bd.method).1
  have X0 : Stand p l e ({ frames := 0, cells := 0, slots := 0, locals := 0 } : Room) s m #[(.int x)] below meth c s₁ [] 0 0 := Stand.of_body Bd
  have e0 : s₁.heap = h0 := by rw [← hh, Bd.state]; rfl
  have N0 := Fr.nil n0
  have k0 : Rch p e below (s₁.setTop (entryFrame m #[(.int x)] 1)) s₁ (mkF m 0 #[.val (.int x)] []) := fun tg kg => castTop (ef_rm_tul m x) kg
  have k1 : Rch p e below (s₁.setTop (entryFrame m #[(.int x)] 1)) s₁ (mkF m 6 #[.val (.int x)] [(.long ((x.toInt64) &&& (4294967295 : Int64)))]) := fun tg kg => by
    refine k0 tg ?_
    show Steps p.tables e below (s₁.setTop (mkF m 0 #[.val (.int x)] [])) tg
    refine XS.iloadN X0.here hx rfl (hb hby d20_0) rfl ?_
    refine XS.i2l X0.here hx rfl (hb hby d20_1) rfl ?_
    refine X0.ldc2Long hx hown (mvT hZ (hw _ (List.mem_of_getElem? (i := 135) rfl))) (g := (mkF m 2 #[.val (.int x)] [(.long (x.toInt64))])) rfl (hb hby d20_2) _ ?_
    refine XS.land X0.here hx rfl (hb hby d20_5) rfl ?_
    exact kg
  obtain ⟨fs2, hr2, hrun2, hended2, hW2, hsame2⟩ := X0.leave (v := some (.long ((x.toInt64) &&& (4294967295 : Int64)))) (fun h => by rw [Bd.returns] at h; cases h)
  refine ⟨_, _, k1 _ ?_, hrun2, hended2, _, _, rfl, ?_, ⟨_, rfl⟩, hW2, hsame2.mono (by decide) (by decide)⟩
  · exact retOut X0 hx Bd.returns rfl (Or.inr (Or.inl ⟨rfl, rfl, _, rfl⟩)) (hb hby d20_6) hr2
  · show Q_rm_tul Z x h0 n0 _ s₁.heap _
    rw [e0]
    exact ⟨(by rw [hx5]; rfl), N0, rfl⟩
theorem ef_rm_cap (m : MethodId) (x0 : Addr) : entryFrame m #[(.ref x0)] 1 = mkF m 0 #[.val (.ref x0)] [] := by first | (simp [entryFrame, mkF, argsToLocals, Value.category]; done) | rfl
def Q_rm_cap (Z : State) (a : Addr) (h0 : Heap) (n0 : Nat) (v : Option Value) (h : Heap) (L : List Loc) : Prop := (v = some (.long (16 : Int64))) ∧ (Fr n0 L) ∧ (h = h0)
theorem d19_0 : decode prog_36_method_6_code 0 = .ok (.aload_n 0, 1) := by decide +kernel
theorem d19_1 : decode prog_36_method_6_code 1 = .ok (.getfield 23, 3) := by decide +kernel
theorem pd_4 : parseMethodDescriptor "(I)J" = some ⟨[.int], some .long⟩ := by decide +kernel
theorem d19_4 : decode prog_36_method_6_code 4 = .ok (.invokestatic 36, 3) := by decide +kernel
theorem d19_7 : decode prog_36_method_6_code 7 = .ok (.lconst 1, 1) := by decide +kernel
theorem d19_8 : decode prog_36_method_6_code 8 = .ok (.ladd, 1) := by decide +kernel
theorem d19_9 : decode prog_36_method_6_code 9 = .ok (.lreturn, 1) := by decide +kernel
set_option maxRecDepth 65536 in
set_option maxHeartbeats 40000000 in
theorem rm_cap (l : Launch) (Z : State) (a0 : Array Value) (hw : ∀ d ∈ tables_1, d.before a0 Z = true) (ws : List Jvm.Cond) (a : Addr) (h0 : Heap) (n0 : Nat) (Z0 : n0 ≤ h0.size) (F_m : Fld Z h0 a "com/example/verum/verum/HashSlots" "mask" "I" (.int (15 : Int32))) :
    Con l Z (⟨"com/example/verum/verum/HashSlots", "capacity", "()J"⟩ : MethodName) prog_36_method_6_code 1 (some .long) ws ({ frames := 1, cells := 0, slots := 0, locals := 12 } : Room) #[(.ref a)] h0 (Q_rm_cap Z a h0 n0) := by
  refine MetFree.of_bodySF (plainFor_of_name pn_HashSlots) hisR ?_
  intro p e s m args below meth c s₁ Bd hml0 hP hK
  obtain ⟨rfl, hZ, hh⟩ := hP
  have hx := Bd.exec
  have hby := Bd.bytes
  have hml : c.maxLocals = 1 := hml0
  have hown : s.vm.findClass "com/example/verum/verum/HashSlots" = some m.cls := findClass_of_methodNamed Bd.named
  have hnm := (name_of_methodNamed Bd.named Bd.method).1
  have X0 : Stand p l e ({ frames := 1, cells := 0, slots := 0, locals := 12 } : Room) s m #[(.ref a)] below meth c s₁ [] 0 0 := Stand.of_body Bd
  have e0 : s₁.heap = h0 := by rw [← hh, Bd.state]; rfl
  have N0 := Fr.nil n0
  have k0 : Rch p e below (s₁.setTop (entryFrame m #[(.ref a)] 1)) s₁ (mkF m 0 #[.val (.ref a)] []) := fun tg kg => castTop (ef_rm_cap m a) kg
  have lt_F_m := own_ltN F_m.lt
  have k1 : Rch p e below (s₁.setTop (entryFrame m #[(.ref a)] 1)) s₁ (mkF m 1 #[.val (.ref a)] [(.ref a)]) := fun tg kg => by
    refine k0 tg ?_
    show Steps p.tables e below (s₁.setTop (mkF m 0 #[.val (.ref a)] [])) tg
    refine XS.aloadN X0.here hx rfl (hb hby d19_0) rfl rfl ?_
    exact kg
  obtain ⟨T2, X2, e2, st2⟩ := getF X0 hx hZ hown (host := "") (Or.inl (hw _ (List.mem_of_getElem? (i := 32) rfl))) Via.refl e0 F_m (g := (mkF m 1 #[.val (.ref a)] [(.ref a)])) rfl rfl (hb hby d19_1)
  have k3 : Rch p e below (s₁.setTop (entryFrame m #[(.ref a)] 1)) T2 (mkF m 4 #[.val (.ref a)] [(.int (15 : Int32))]) := fun tg kg => k1 tg (st2 tg kg)
  obtain ⟨v4, T4, h4, Lc4, X4, e4, hQ4, st4⟩ := own_callS X2 hx hZ hown (hw _ (List.mem_of_getElem? (i := 132) rfl)) (hw _ (List.mem_of_getElem? (i := 133) rfl)) (hw _ (List.mem_of_getElem? (i := 72) rfl)) (hw _ (List.mem_of_getElem? (i := 134) rfl)) (by decide) (rm_tul l Z a0 hw [] (15 : Int32) h0 n0 (by omega) rfl) e2 (g := (mkF m 4 #[.val (.ref a)] [(.int (15 : Int32))])) rfl (by rw [hml]; rfl) (argsL := [(.int (15 : Int32))]) (rest := []) rfl (lenOf pd_4 rfl) rfl (W := 0) (by show 2 * 0 + _ ≤ _; exact Nat.le_of_eq rfl) (hb hby d19_4) (by decide) (by decide) (by decide) (by decide)
  obtain ⟨rfl, Nq4, hs4⟩ := hQ4
  have N4 := Fr.app N0 Nq4
  have e4' : T4.heap = h0 := e4.trans hs4
  have k5 : Rch p e below (s₁.setTop (entryFrame m #[(.ref a)] 1)) T4 (mkF m 7 #[.val (.ref a)] [(.long (15 : Int64))]) := fun tg kg => k3 tg (st4 tg kg)
  have k6 : Rch p e below (s₁.setTop (entryFrame m #[(.ref a)] 1)) T4 (mkF m 9 #[.val (.ref a)] [(.long ((15 : Int64) + (1 : Int64)))]) := fun tg kg => by
    refine k5 tg ?_
    show Steps p.tables e below (T4.setTop (mkF m 7 #[.val (.ref a)] [(.long (15 : Int64))])) tg
    refine XS.lconst X4.here hx rfl (hb hby d19_7) ?_
    refine XS.ladd X4.here hx rfl (hb hby d19_8) rfl ?_
    exact kg
  obtain ⟨fs7, hr7, hrun7, hended7, hW7, hsame7⟩ := X4.leave (v := some (.long ((15 : Int64) + (1 : Int64)))) (fun h => by rw [Bd.returns] at h; cases h)
  refine ⟨_, _, k6 _ ?_, hrun7, hended7, _, _, rfl, ?_, ⟨_, rfl⟩, hW7, hsame7.mono (by decide) (by decide)⟩
  · exact retOut X4 hx Bd.returns rfl (Or.inr (Or.inl ⟨rfl, rfl, _, rfl⟩)) (hb hby d19_9) hr7
  · show Q_rm_cap Z a h0 n0 _ T4.heap _
    rw [e4']
    exact ⟨rfl, N4, rfl⟩
theorem ef_rm_room (m : MethodId) (x0 : Addr) (x1 : Int64) : entryFrame m #[(.ref x0), (.long x1)] 3 = mkF m 0 #[.val (.ref x0), .val (.long x1), .second] [] := by first | (simp [entryFrame, mkF, argsToLocals, Value.category]; done) | rfl
def Q_rm_room (Z : State) (a : Addr) (q : Int64) (h0 : Heap) (n0 : Nat) (v : Option Value) (h : Heap) (L : List Loc) : Prop := (v = some (.int (1 : Int32))) ∧ (Fr n0 L) ∧ (h = h0)
theorem d18_0 : decode prog_36_method_7_code 0 = .ok (.ldc2_w 34, 3) := by decide +kernel
theorem d18_3 : decode prog_36_method_7_code 3 = .ok (.lload_n 1, 1) := by decide +kernel
theorem d18_4 : decode prog_36_method_7_code 4 = .ok (.lmul, 1) := by decide +kernel
theorem d18_5 : decode prog_36_method_7_code 5 = .ok (.aload_n 0, 1) := by decide +kernel
theorem pd_5 : parseMethodDescriptor "()J" = some ⟨[], some .long⟩ := by decide +kernel
theorem d18_6 : decode prog_36_method_7_code 6 = .ok (.invokevirtual 42, 3) := by decide +kernel
theorem d18_9 : decode prog_36_method_7_code 9 = .ok (.lcmp, 1) := by decide +kernel
theorem d18_10 : decode prog_36_method_7_code 10 = .ok (.ifCond .gt 7, 3) := by decide +kernel
theorem d18_13 : decode prog_36_method_7_code 13 = .ok (.iconst 1, 1) := by decide +kernel
theorem d18_14 : decode prog_36_method_7_code 14 = .ok (.goto 4, 3) := by decide +kernel
theorem d18_18 : decode prog_36_method_7_code 18 = .ok (.ireturn, 1) := by decide +kernel
set_option maxRecDepth 65536 in
set_option maxHeartbeats 40000000 in
theorem rm_room (l : Launch) (Z : State) (a0 : Array Value) (hw : ∀ d ∈ tables_1, d.before a0 Z = true) (ws : List Jvm.Cond) (a : Addr) (q : Int64) (h0 : Heap) (n0 : Nat) (Z0 : n0 ≤ h0.size) (E_a : Exa Z h0 a "com/example/verum/verum/HashSlots") (F_m : Fld Z h0 a "com/example/verum/verum/HashSlots" "mask" "I" (.int (15 : Int32))) (hq : ¬ (0 : Int32) < lcmpW ((2 : Int64) * q) (16 : Int64)) :
    Con l Z (⟨"com/example/verum/verum/HashSlots", "hasRoomFor", "(J)Z"⟩ : MethodName) prog_36_method_7_code 3 (some .boolean) ws ({ frames := 2, cells := 0, slots := 0, locals := 26 } : Room) #[(.ref a), (.long q)] h0 (Q_rm_room Z a q h0 n0) := by
  refine MetFree.of_bodySF (plainFor_of_name pn_HashSlots) hisR ?_
  intro p e s m args below meth c s₁ Bd hml0 hP hK
  obtain ⟨rfl, hZ, hh⟩ := hP
  have hx := Bd.exec
  have hby := Bd.bytes
  have hml : c.maxLocals = 3 := hml0
  have hown : s.vm.findClass "com/example/verum/verum/HashSlots" = some m.cls := findClass_of_methodNamed Bd.named
  have hnm := (name_of_methodNamed Bd.named Bd.method).1
  have X0 : Stand p l e ({ frames := 2, cells := 0, slots := 0, locals := 26 } : Room) s m #[(.ref a), (.long q)] below meth c s₁ [] 0 0 := Stand.of_body Bd
  have e0 : s₁.heap = h0 := by rw [← hh, Bd.state]; rfl
  have N0 := Fr.nil n0
  have k0 : Rch p e below (s₁.setTop (entryFrame m #[(.ref a), (.long q)] 3)) s₁ (mkF m 0 #[.val (.ref a), .val (.long q), .second] []) := fun tg kg => castTop (ef_rm_room m a q) kg
  have lt_E_a := own_ltN E_a.lt
  have lt_F_m := own_ltN F_m.lt
  have k1 : Rch p e below (s₁.setTop (entryFrame m #[(.ref a), (.long q)] 3)) s₁ (mkF m 6 #[.val (.ref a), .val (.long q), .second] [(.ref a), (.long ((2 : Int64) * q))]) := fun tg kg => by
    refine k0 tg ?_
    show Steps p.tables e below (s₁.setTop (mkF m 0 #[.val (.ref a), .val (.long q), .second] [])) tg
    refine X0.ldc2Long hx hown (mvT hZ (hw _ (List.mem_of_getElem? (i := 126) rfl))) (g := (mkF m 0 #[.val (.ref a), .val (.long q), .second] [])) rfl (hb hby d18_0) _ ?_
    refine XS.lloadN X0.here hx rfl (hb hby d18_3) rfl ?_
    refine XS.lmul X0.here hx rfl (hb hby d18_4) rfl ?_
    refine XS.aloadN X0.here hx rfl (hb hby d18_5) rfl rfl ?_
    exact kg
  obtain ⟨v2, T2, h2, Lc2, X2, e2, hQ2, st2⟩ := own_callV X0 hx hZ hown (hw _ (List.mem_of_getElem? (i := 127) rfl)) (hw _ (List.mem_of_getElem? (i := 128) rfl)) (notFace_of_selects (args := #[]) (mvT hZ (hw _ (List.mem_of_getElem? (i := 130) rfl)))) (hw _ (List.mem_of_getElem? (i := 130) rfl)) (hw _ (List.mem_of_getElem? (i := 129) rfl)) (hw _ (List.mem_of_getElem? (i := 131) rfl)) (hw _ (List.mem_of_getElem? (i := 12) rfl)) (by decide) (rm_cap l Z a0 hw [] a h0 n0 (by omega) F_m) e0 E_a (g := (mkF m 6 #[.val (.ref a), .val (.long q), .second] [(.ref a), (.long ((2 : Int64) * q))])) rfl (by rw [hml]; rfl) (argsL := []) (rest := [(.long ((2 : Int64) * q))]) rfl (lenOf pd_5 rfl) rfl (W := 2) (by show 2 * 0 + _ ≤ _; exact Nat.le_of_eq rfl) (hb hby d18_6) (by decide) (by decide) (by decide) (by decide)
  obtain ⟨rfl, Nq2, hs2⟩ := hQ2
  have N2 := Fr.app N0 Nq2
  have e2' : T2.heap = h0 := e2.trans hs2
  have k3 : Rch p e below (s₁.setTop (entryFrame m #[(.ref a), (.long q)] 3)) T2 (mkF m 9 #[.val (.ref a), .val (.long q), .second] [(.long (16 : Int64)), (.long ((2 : Int64) * q))]) := fun tg kg => k1 tg (st2 tg kg)
  have k4 : Rch p e below (s₁.setTop (entryFrame m #[(.ref a), (.long q)] 3)) T2 (mkF m 18 #[.val (.ref a), .val (.long q), .second] [(.int (1 : Int32))]) := fun tg kg => by
    refine k3 tg ?_
    show Steps p.tables e below (T2.setTop (mkF m 9 #[.val (.ref a), .val (.long q), .second] [(.long (16 : Int64)), (.long ((2 : Int64) * q))])) tg
    refine XS.lcmp X2.here hx rfl (hb hby d18_9) rfl ?_
    show Steps p.tables e below (T2.setTop (mkF m 10 #[.val (.ref a), .val (.long q), .second] [(.int (lcmpW ((2 : Int64) * q) (16 : Int64)))])) tg
    refine XS.ifNo X2.here hx rfl (hb hby d18_10) rfl ((if0 _ _).trans (flt hq).2.2.1) ?_
    refine XS.iconst X2.here hx rfl (hb hby d18_13) ?_
    refine XS.goto X2.here hx rfl (pc0 := 14) (pc' := 18) rfl (hb hby d18_14) (by decide) (by decide) ?_
    exact kg
  obtain ⟨fs5, hr5, hrun5, hended5, hW5, hsame5⟩ := X2.leave (v := some (.int (nar .boolean (1 : Int32)))) (fun h => by rw [Bd.returns] at h; cases h)
  refine ⟨_, _, k4 _ ?_, hrun5, hended5, _, _, rfl, ?_, ⟨_, rfl⟩, hW5, hsame5.mono (by decide) (by decide)⟩
  · exact retN X2 hx (t := .boolean) Bd.returns (by simp) (hb hby d18_18) hr5
  · show Q_rm_room Z a q h0 n0 _ T2.heap _
    rw [e2']
    exact ⟨rfl, N2, rfl⟩
theorem ef_rm_entry (m : MethodId) (x0 : Addr) (x1 : Int32) : entryFrame m #[(.ref x0), (.int x1)] 2 = mkF m 0 #[.val (.ref x0), .val (.int x1)] [] := by first | (simp [entryFrame, mkF, argsToLocals, Value.category]; done) | rfl
def Q_rm_entry (Z : State) (a : Addr) (i : Int32) (hp : Addr) (ht : Addr) (khp : ClassId) (kht : ClassId) (ts : List Int32) (tv : Int32) (h0 : Heap) (n0 : Nat) (v : Option Value) (h : Heap) (L : List Loc) : Prop := (v = some (.int (tv - (1 : Int32)))) ∧ (Fr n0 L) ∧ (h = h0)
theorem d25_0 : decode prog_36_method_10_code 0 = .ok (.aload_n 0, 1) := by decide +kernel
theorem d25_1 : decode prog_36_method_10_code 1 = .ok (.getfield 16, 3) := by decide +kernel
theorem d25_4 : decode prog_36_method_10_code 4 = .ok (.iload_n 1, 1) := by decide +kernel
theorem d25_5 : decode prog_36_method_10_code 5 = .ok (.bipush 16, 2) := by decide +kernel
theorem d25_7 : decode prog_36_method_10_code 7 = .ok (.iushr, 1) := by decide +kernel
theorem d25_8 : decode prog_36_method_10_code 8 = .ok (.aaload, 1) := by decide +kernel
theorem d25_9 : decode prog_36_method_10_code 9 = .ok (.iload_n 1, 1) := by decide +kernel
theorem d25_10 : decode prog_36_method_10_code 10 = .ok (.ldc 50, 2) := by decide +kernel
theorem d25_12 : decode prog_36_method_10_code 12 = .ok (.iand, 1) := by decide +kernel
theorem d25_13 : decode prog_36_method_10_code 13 = .ok (.iaload, 1) := by decide +kernel
theorem d25_14 : decode prog_36_method_10_code 14 = .ok (.iconst 1, 1) := by decide +kernel
theorem d25_15 : decode prog_36_method_10_code 15 = .ok (.isub, 1) := by decide +kernel
theorem d25_16 : decode prog_36_method_10_code 16 = .ok (.ireturn, 1) := by decide +kernel
set_option maxRecDepth 65536 in
set_option maxHeartbeats 40000000 in
theorem rm_entry (l : Launch) (Z : State) (a0 : Array Value) (hw : ∀ d ∈ tables_1, d.before a0 Z = true) (ws : List Jvm.Cond) (a : Addr) (i : Int32) (hp : Addr) (ht : Addr) (khp : ClassId) (kht : ClassId) (ts : List Int32) (tv : Int32) (h0 : Heap) (n0 : Nat) (Z0 : n0 ≤ h0.size) (F_p : Fld Z h0 a "com/example/verum/verum/HashSlots" "pages" "[[I" (.ref hp)) (V_p : Arv Z h0 hp khp (.array .int) (1 : Int32) [(.ref ht)] .null) (V_t : Arv Z h0 ht kht .int (16 : Int32) (ts.map Value.int) (.int (0 : Int32))) (hi0 : 0 ≤ i.toInt) (hi1 : i.toInt ≤ 15) (hv : (ts.map Value.int).getD i.toNatClampNeg (.int (0 : Int32)) = .int tv) :
    Con l Z (⟨"com/example/verum/verum/HashSlots", "entry", "(I)I"⟩ : MethodName) prog_36_method_10_code 2 (some .int) ws ({ frames := 0, cells := 0, slots := 0, locals := 0 } : Room) #[(.ref a), (.int i)] h0 (Q_rm_entry Z a i hp ht khp kht ts tv h0 n0) := by
  refine MetFree.of_bodySF (plainFor_of_name pn_HashSlots) hisR ?_
  intro p e s m args below meth c s₁ Bd hml0 hP hK
  obtain ⟨rfl, hZ, hh⟩ := hP
  have hx := Bd.exec
  have hby := Bd.bytes
  have hml : c.maxLocals = 2 := hml0
  have hown : s.vm.findClass "com/example/verum/verum/HashSlots" = some m.cls := findClass_of_methodNamed Bd.named
  have hnm := (name_of_methodNamed Bd.named Bd.method).1
  have X0 : Stand p l e ({ frames := 0, cells := 0, slots := 0, locals := 0 } : Room) s m #[(.ref a), (.int i)] below meth c s₁ [] 0 0 := Stand.of_body Bd
  have e0 : s₁.heap = h0 := by rw [← hh, Bd.state]; rfl
  have N0 := Fr.nil n0
  have k0 : Rch p e below (s₁.setTop (entryFrame m #[(.ref a), (.int i)] 2)) s₁ (mkF m 0 #[.val (.ref a), .val (.int i)] []) := fun tg kg => castTop (ef_rm_entry m a i) kg
  have lt_F_p := own_ltN F_p.lt
  have lt_V_p := own_ltN V_p.lt
  have lt_V_t := own_ltN V_t.lt
  have k1 : Rch p e below (s₁.setTop (entryFrame m #[(.ref a), (.int i)] 2)) s₁ (mkF m 1 #[.val (.ref a), .val (.int i)] [(.ref a)]) := fun tg kg => by
    refine k0 tg ?_
    show Steps p.tables e below (s₁.setTop (mkF m 0 #[.val (.ref a), .val (.int i)] [])) tg
    refine XS.aloadN X0.here hx rfl (hb hby d25_0) rfl rfl ?_
    exact kg
  obtain ⟨T2, X2, e2, st2⟩ := getF X0 hx hZ hown (host := "") (Or.inl (hw _ (List.mem_of_getElem? (i := 23) rfl))) Via.refl e0 F_p (g := (mkF m 1 #[.val (.ref a), .val (.int i)] [(.ref a)])) rfl rfl (hb hby d25_1)
  have k3 : Rch p e below (s₁.setTop (entryFrame m #[(.ref a), (.int i)] 2)) T2 (mkF m 4 #[.val (.ref a), .val (.int i)] [(.ref hp)]) := fun tg kg => k1 tg (st2 tg kg)
  have k4 : Rch p e below (s₁.setTop (entryFrame m #[(.ref a), (.int i)] 2)) T2 (mkF m 8 #[.val (.ref a), .val (.int i)] [(.int ((i.toUInt32 >>> ((16 : Int32) &&& 31).toUInt32).toInt32)), (.ref hp)]) := fun tg kg => by
    refine k3 tg ?_
    show Steps p.tables e below (T2.setTop (mkF m 4 #[.val (.ref a), .val (.int i)] [(.ref hp)])) tg
    refine XS.iloadN X2.here hx rfl (hb hby d25_4) rfl ?_
    refine XS.bipush X2.here hx rfl (hb hby d25_5) ?_
    refine XS.iushr X2.here hx rfl (hb hby d25_7) rfl ?_
    exact kg
  obtain ⟨cl5, Ar5, q5, S5, M5, H5, G5⟩ := id V_p
  have hina : ¬ (((i.toUInt32 >>> ((16 : Int32) &&& 31).toUInt32).toInt32) < 0 ∨ cl5.slots.size ≤ (((i.toUInt32 >>> ((16 : Int32) &&& 31).toUInt32).toInt32)).toNatClampNeg) := inb_of S5 (by rw [own_sh16 hi0 hi1]; decide)
  have hata := Has.at H5 hina (show _ = Value.ref _ by rw [own_sh16 hi0 hi1]; rfl)
  have k6 : Rch p e below (s₁.setTop (entryFrame m #[(.ref a), (.int i)] 2)) T2 (mkF m 13 #[.val (.ref a), .val (.int i)] [(.int (i &&& (65535 : Int32))), (.ref ht)]) := fun tg kg => by
    refine k4 tg ?_
    show Steps p.tables e below (T2.setTop (mkF m 8 #[.val (.ref a), .val (.int i)] [(.int ((i.toUInt32 >>> ((16 : Int32) &&& 31).toUInt32).toInt32)), (.ref hp)])) tg
    refine X2.aaload hx (j := ((i.toUInt32 >>> ((16 : Int32) &&& 31).toUInt32).toInt32)) (v := (.ref ht)) (by rw [e2]; exact Ar5.1) (State.isArrayOf_alike hZ.alike Ar5.2.1) rfl Ar5.2.2 hina hata (g := (mkF m 8 #[.val (.ref a), .val (.int i)] [(.int ((i.toUInt32 >>> ((16 : Int32) &&& 31).toUInt32).toInt32)), (.ref hp)])) rfl rfl (hb hby d25_8) _ ?_
    show Steps p.tables e below (T2.setTop (mkF m 9 #[.val (.ref a), .val (.int i)] [(.ref ht)])) tg
    refine XS.iloadN X2.here hx rfl (hb hby d25_9) rfl ?_
    refine X2.ldcInt hx hown (mvT hZ (hw _ (List.mem_of_getElem? (i := 160) rfl))) (g := (mkF m 10 #[.val (.ref a), .val (.int i)] [(.int i), (.ref ht)])) rfl (hb hby d25_10) _ ?_
    refine XS.iand X2.here hx rfl (hb hby d25_12) rfl ?_
    exact kg
  obtain ⟨cl7, Ar7, q7, S7, M7, H7, G7⟩ := id V_t
  have hinb : ¬ ((i &&& (65535 : Int32)) < 0 ∨ cl7.slots.size ≤ ((i &&& (65535 : Int32))).toNatClampNeg) := inb_of S7 (by rw [own_m16 hi0 hi1]; exact (own_lt16 hi0 hi1).2)
  have hatb := Has.at H7 hinb (show _ = Value.int tv by rw [own_m16 hi0 hi1]; exact hv)
  have k8 : Rch p e below (s₁.setTop (entryFrame m #[(.ref a), (.int i)] 2)) T2 (mkF m 16 #[.val (.ref a), .val (.int i)] [(.int (tv - (1 : Int32)))]) := fun tg kg => by
    refine k6 tg ?_
    show Steps p.tables e below (T2.setTop (mkF m 13 #[.val (.ref a), .val (.int i)] [(.int (i &&& (65535 : Int32))), (.ref ht)])) tg
    refine X2.iaload hx (j := (i &&& (65535 : Int32))) (v := (.int tv)) (by rw [e2]; exact Ar7.1) (State.isArrayOf_alike hZ.alike Ar7.2.1) Ar7.2.2 hinb hatb (g := (mkF m 13 #[.val (.ref a), .val (.int i)] [(.int (i &&& (65535 : Int32))), (.ref ht)])) rfl rfl (hb hby d25_13) _ ?_
    refine XS.iconst X2.here hx rfl (hb hby d25_14) ?_
    refine XS.isub X2.here hx rfl (hb hby d25_15) rfl ?_
    exact kg
  obtain ⟨fs9, hr9, hrun9, hended9, hW9, hsame9⟩ := X2.leave (v := some (.int (tv - (1 : Int32)))) (fun h => by rw [Bd.returns] at h; cases h)
  refine ⟨_, _, k8 _ ?_, hrun9, hended9, _, _, rfl, ?_, ⟨_, rfl⟩, hW9, hsame9.mono (by decide) (by decide)⟩
  · exact retOut X2 hx Bd.returns rfl (Or.inl ⟨rfl, Or.inl rfl, _, rfl⟩) (hb hby d25_16) hr9
  · show Q_rm_entry Z a i hp ht khp kht ts tv h0 n0 _ T2.heap _
    rw [e2]
    exact ⟨rfl, N0, rfl⟩
theorem ef_rm_next (m : MethodId) (x0 : Addr) (x1 : Int32) : entryFrame m #[(.ref x0), (.int x1)] 2 = mkF m 0 #[.val (.ref x0), .val (.int x1)] [] := by first | (simp [entryFrame, mkF, argsToLocals, Value.category]; done) | rfl
def Q_rm_next (Z : State) (a : Addr) (i : Int32) (h0 : Heap) (n0 : Nat) (v : Option Value) (h : Heap) (L : List Loc) : Prop := (v = some (.int ((i + (1 : Int32)) &&& (15 : Int32)))) ∧ (Fr n0 L) ∧ (h = h0)
theorem d34_0 : decode prog_36_method_9_code 0 = .ok (.iload_n 1, 1) := by decide +kernel
theorem d34_1 : decode prog_36_method_9_code 1 = .ok (.iconst 1, 1) := by decide +kernel
theorem d34_2 : decode prog_36_method_9_code 2 = .ok (.iadd, 1) := by decide +kernel
theorem d34_3 : decode prog_36_method_9_code 3 = .ok (.aload_n 0, 1) := by decide +kernel
theorem d34_4 : decode prog_36_method_9_code 4 = .ok (.getfield 23, 3) := by decide +kernel
theorem d34_7 : decode prog_36_method_9_code 7 = .ok (.iand, 1) := by decide +kernel
theorem d34_8 : decode prog_36_method_9_code 8 = .ok (.ireturn, 1) := by decide +kernel
set_option maxRecDepth 65536 in
set_option maxHeartbeats 40000000 in
theorem rm_next (l : Launch) (Z : State) (a0 : Array Value) (hw : ∀ d ∈ tables_1, d.before a0 Z = true) (ws : List Jvm.Cond) (a : Addr) (i : Int32) (h0 : Heap) (n0 : Nat) (Z0 : n0 ≤ h0.size) (F_m : Fld Z h0 a "com/example/verum/verum/HashSlots" "mask" "I" (.int (15 : Int32))) :
    Con l Z (⟨"com/example/verum/verum/HashSlots", "next", "(I)I"⟩ : MethodName) prog_36_method_9_code 2 (some .int) ws ({ frames := 0, cells := 0, slots := 0, locals := 0 } : Room) #[(.ref a), (.int i)] h0 (Q_rm_next Z a i h0 n0) := by
  refine MetFree.of_bodySF (plainFor_of_name pn_HashSlots) hisR ?_
  intro p e s m args below meth c s₁ Bd hml0 hP hK
  obtain ⟨rfl, hZ, hh⟩ := hP
  have hx := Bd.exec
  have hby := Bd.bytes
  have hml : c.maxLocals = 2 := hml0
  have hown : s.vm.findClass "com/example/verum/verum/HashSlots" = some m.cls := findClass_of_methodNamed Bd.named
  have hnm := (name_of_methodNamed Bd.named Bd.method).1
  have X0 : Stand p l e ({ frames := 0, cells := 0, slots := 0, locals := 0 } : Room) s m #[(.ref a), (.int i)] below meth c s₁ [] 0 0 := Stand.of_body Bd
  have e0 : s₁.heap = h0 := by rw [← hh, Bd.state]; rfl
  have N0 := Fr.nil n0
  have k0 : Rch p e below (s₁.setTop (entryFrame m #[(.ref a), (.int i)] 2)) s₁ (mkF m 0 #[.val (.ref a), .val (.int i)] []) := fun tg kg => castTop (ef_rm_next m a i) kg
  have lt_F_m := own_ltN F_m.lt
  have k1 : Rch p e below (s₁.setTop (entryFrame m #[(.ref a), (.int i)] 2)) s₁ (mkF m 4 #[.val (.ref a), .val (.int i)] [(.ref a), (.int (i + (1 : Int32)))]) := fun tg kg => by
    refine k0 tg ?_
    show Steps p.tables e below (s₁.setTop (mkF m 0 #[.val (.ref a), .val (.int i)] [])) tg
    refine XS.iloadN X0.here hx rfl (hb hby d34_0) rfl ?_
    refine XS.iconst X0.here hx rfl (hb hby d34_1) ?_
    refine XS.iadd X0.here hx rfl (hb hby d34_2) rfl ?_
    refine XS.aloadN X0.here hx rfl (hb hby d34_3) rfl rfl ?_
    exact kg
  obtain ⟨T2, X2, e2, st2⟩ := getF X0 hx hZ hown (host := "") (Or.inl (hw _ (List.mem_of_getElem? (i := 32) rfl))) Via.refl e0 F_m (g := (mkF m 4 #[.val (.ref a), .val (.int i)] [(.ref a), (.int (i + (1 : Int32)))])) rfl rfl (hb hby d34_4)
  have k3 : Rch p e below (s₁.setTop (entryFrame m #[(.ref a), (.int i)] 2)) T2 (mkF m 7 #[.val (.ref a), .val (.int i)] [(.int (15 : Int32)), (.int (i + (1 : Int32)))]) := fun tg kg => k1 tg (st2 tg kg)
  have k4 : Rch p e below (s₁.setTop (entryFrame m #[(.ref a), (.int i)] 2)) T2 (mkF m 8 #[.val (.ref a), .val (.int i)] [(.int ((i + (1 : Int32)) &&& (15 : Int32)))]) := fun tg kg => by
    refine k3 tg ?_
    show Steps p.tables e below (T2.setTop (mkF m 7 #[.val (.ref a), .val (.int i)] [(.int (15 : Int32)), (.int (i + (1 : Int32)))])) tg
    refine XS.iand X2.here hx rfl (hb hby d34_7) rfl ?_
    exact kg
  obtain ⟨fs5, hr5, hrun5, hended5, hW5, hsame5⟩ := X2.leave (v := some (.int ((i + (1 : Int32)) &&& (15 : Int32)))) (fun h => by rw [Bd.returns] at h; cases h)
  refine ⟨_, _, k4 _ ?_, hrun5, hended5, _, _, rfl, ?_, ⟨_, rfl⟩, hW5, hsame5.mono (by decide) (by decide)⟩
  · exact retOut X2 hx Bd.returns rfl (Or.inl ⟨rfl, Or.inl rfl, _, rfl⟩) (hb hby d34_8) hr5
  · show Q_rm_next Z a i h0 n0 _ T2.heap _
    rw [e2]
    exact ⟨rfl, N0, rfl⟩
theorem ef_rm_spread (m : MethodId) (x0 : Int32) : entryFrame m #[(.int x0)] 2 = mkF m 0 #[.val (.int x0), .unset] [] := by first | (simp [entryFrame, mkF, argsToLocals, Value.category]; done) | rfl
def Q_rm_spread (Z : State) (x : Int32) (h0 : Heap) (n0 : Nat) (v : Option Value) (h : Heap) (L : List Loc) : Prop := ∃ (r : Int32), (v = some (.int r)) ∧ (Fr n0 L) ∧ (h = h0)
theorem d24_0 : decode prog_36_method_14_code 0 = .ok (.iload_n 0, 1) := by decide +kernel
theorem d24_1 : decode prog_36_method_14_code 1 = .ok (.iload_n 0, 1) := by decide +kernel
theorem d24_2 : decode prog_36_method_14_code 2 = .ok (.bipush 16, 2) := by decide +kernel
theorem d24_4 : decode prog_36_method_14_code 4 = .ok (.iushr, 1) := by decide +kernel
theorem d24_5 : decode prog_36_method_14_code 5 = .ok (.ixor, 1) := by decide +kernel
theorem d24_6 : decode prog_36_method_14_code 6 = .ok (.istore_n 1, 1) := by decide +kernel
theorem d24_7 : decode prog_36_method_14_code 7 = .ok (.iload_n 1, 1) := by decide +kernel
theorem d24_8 : decode prog_36_method_14_code 8 = .ok (.ldc 66, 2) := by decide +kernel
theorem d24_10 : decode prog_36_method_14_code 10 = .ok (.imul, 1) := by decide +kernel
theorem d24_11 : decode prog_36_method_14_code 11 = .ok (.istore_n 1, 1) := by decide +kernel
theorem d24_12 : decode prog_36_method_14_code 12 = .ok (.iload_n 1, 1) := by decide +kernel
theorem d24_13 : decode prog_36_method_14_code 13 = .ok (.iload_n 1, 1) := by decide +kernel
theorem d24_14 : decode prog_36_method_14_code 14 = .ok (.bipush 13, 2) := by decide +kernel
theorem d24_16 : decode prog_36_method_14_code 16 = .ok (.iushr, 1) := by decide +kernel
theorem d24_17 : decode prog_36_method_14_code 17 = .ok (.ixor, 1) := by decide +kernel
theorem d24_18 : decode prog_36_method_14_code 18 = .ok (.istore_n 1, 1) := by decide +kernel
theorem d24_19 : decode prog_36_method_14_code 19 = .ok (.iload_n 1, 1) := by decide +kernel
theorem d24_20 : decode prog_36_method_14_code 20 = .ok (.ldc 67, 2) := by decide +kernel
theorem d24_22 : decode prog_36_method_14_code 22 = .ok (.imul, 1) := by decide +kernel
theorem d24_23 : decode prog_36_method_14_code 23 = .ok (.istore_n 1, 1) := by decide +kernel
theorem d24_24 : decode prog_36_method_14_code 24 = .ok (.iload_n 1, 1) := by decide +kernel
theorem d24_25 : decode prog_36_method_14_code 25 = .ok (.iload_n 1, 1) := by decide +kernel
theorem d24_26 : decode prog_36_method_14_code 26 = .ok (.bipush 16, 2) := by decide +kernel
theorem d24_28 : decode prog_36_method_14_code 28 = .ok (.iushr, 1) := by decide +kernel
theorem d24_29 : decode prog_36_method_14_code 29 = .ok (.ixor, 1) := by decide +kernel
theorem d24_30 : decode prog_36_method_14_code 30 = .ok (.ireturn, 1) := by decide +kernel
set_option maxRecDepth 65536 in
set_option maxHeartbeats 40000000 in
theorem rm_spread (l : Launch) (Z : State) (a0 : Array Value) (hw : ∀ d ∈ tables_1, d.before a0 Z = true) (ws : List Jvm.Cond) (x : Int32) (h0 : Heap) (n0 : Nat) (Z0 : n0 ≤ h0.size)  :
    Con l Z (⟨"com/example/verum/verum/HashSlots", "spread", "(I)I"⟩ : MethodName) prog_36_method_14_code 2 (some .int) ws ({ frames := 0, cells := 0, slots := 0, locals := 0 } : Room) #[(.int x)] h0 (Q_rm_spread Z x h0 n0) := by
  refine MetFree.of_bodySF (plainFor_of_name pn_HashSlots) hisR ?_
  intro p e s m args below meth c s₁ Bd hml0 hP hK
  obtain ⟨rfl, hZ, hh⟩ := hP
  have hx := Bd.exec
  have hby := Bd.bytes
  have hml : c.maxLocals = 2 := hml0
  have hown : s.vm.findClass "com/example/verum/verum/HashSlots" = some m.cls := findClass_of_methodNamed Bd.named
  have hnm := (name_of_methodNamed Bd.named Bd.method).1
  have X0 : Stand p l e ({ frames := 0, cells := 0, slots := 0, locals := 0 } : Room) s m #[(.int x)] below meth c s₁ [] 0 0 := Stand.of_body Bd
  have e0 : s₁.heap = h0 := by rw [← hh, Bd.state]; rfl
  have N0 := Fr.nil n0
  have k0 : Rch p e below (s₁.setTop (entryFrame m #[(.int x)] 2)) s₁ (mkF m 0 #[.val (.int x), .unset] []) := fun tg kg => castTop (ef_rm_spread m x) kg
  have k1 : Rch p e below (s₁.setTop (entryFrame m #[(.int x)] 2)) s₁ (mkF m 30 #[.val (.int x), .val (.int ((((x ^^^ ((x.toUInt32 >>> ((16 : Int32) &&& 31).toUInt32).toInt32)) * (-2048144789 : Int32)) ^^^ ((((x ^^^ ((x.toUInt32 >>> ((16 : Int32) &&& 31).toUInt32).toInt32)) * (-2048144789 : Int32)).toUInt32 >>> ((13 : Int32) &&& 31).toUInt32).toInt32)) * (-1028477387 : Int32)))] [(.int (((((x ^^^ ((x.toUInt32 >>> ((16 : Int32) &&& 31).toUInt32).toInt32)) * (-2048144789 : Int32)) ^^^ ((((x ^^^ ((x.toUInt32 >>> ((16 : Int32) &&& 31).toUInt32).toInt32)) * (-2048144789 : Int32)).toUInt32 >>> ((13 : Int32) &&& 31).toUInt32).toInt32)) * (-1028477387 : Int32)) ^^^ ((((((x ^^^ ((x.toUInt32 >>> ((16 : Int32) &&& 31).toUInt32).toInt32)) * (-2048144789 : Int32)) ^^^ ((((x ^^^ ((x.toUInt32 >>> ((16 : Int32) &&& 31).toUInt32).toInt32)) * (-2048144789 : Int32)).toUInt32 >>> ((13 : Int32) &&& 31).toUInt32).toInt32)) * (-1028477387 : Int32)).toUInt32 >>> ((16 : Int32) &&& 31).toUInt32).toInt32)))]) := fun tg kg => by
    refine k0 tg ?_
    show Steps p.tables e below (s₁.setTop (mkF m 0 #[.val (.int x), .unset] [])) tg
    refine XS.iloadN X0.here hx rfl (hb hby d24_0) rfl ?_
    refine XS.iloadN X0.here hx rfl (hb hby d24_1) rfl ?_
    refine XS.bipush X0.here hx rfl (hb hby d24_2) ?_
    refine XS.iushr X0.here hx rfl (hb hby d24_4) rfl ?_
    refine XS.ixor X0.here hx rfl (hb hby d24_5) rfl ?_
    show Steps p.tables e below (s₁.setTop (mkF m 6 #[.val (.int x), .unset] [(.int (x ^^^ ((x.toUInt32 >>> ((16 : Int32) &&& 31).toUInt32).toInt32)))])) tg
    refine XS.istoreN X0.here hx rfl (hb hby d24_6) rfl (l' := #[.val (.int x), .val (.int (x ^^^ ((x.toUInt32 >>> ((16 : Int32) &&& 31).toUInt32).toInt32)))]) rfl ?_
    refine XS.iloadN X0.here hx rfl (hb hby d24_7) rfl ?_
    refine X0.ldcInt hx hown (mvT hZ (hw _ (List.mem_of_getElem? (i := 153) rfl))) (g := (mkF m 8 #[.val (.int x), .val (.int (x ^^^ ((x.toUInt32 >>> ((16 : Int32) &&& 31).toUInt32).toInt32)))] [(.int (x ^^^ ((x.toUInt32 >>> ((16 : Int32) &&& 31).toUInt32).toInt32)))])) rfl (hb hby d24_8) _ ?_
    refine XS.imul X0.here hx rfl (hb hby d24_10) rfl ?_
    refine XS.istoreN X0.here hx rfl (hb hby d24_11) rfl (l' := #[.val (.int x), .val (.int ((x ^^^ ((x.toUInt32 >>> ((16 : Int32) &&& 31).toUInt32).toInt32)) * (-2048144789 : Int32)))]) rfl ?_
    refine XS.iloadN X0.here hx rfl (hb hby d24_12) rfl ?_
    show Steps p.tables e below (s₁.setTop (mkF m 13 #[.val (.int x), .val (.int ((x ^^^ ((x.toUInt32 >>> ((16 : Int32) &&& 31).toUInt32).toInt32)) * (-2048144789 : Int32)))] [(.int ((x ^^^ ((x.toUInt32 >>> ((16 : Int32) &&& 31).toUInt32).toInt32)) * (-2048144789 : Int32)))])) tg
    refine XS.iloadN X0.here hx rfl (hb hby d24_13) rfl ?_
    refine XS.bipush X0.here hx rfl (hb hby d24_14) ?_
    refine XS.iushr X0.here hx rfl (hb hby d24_16) rfl ?_
    refine XS.ixor X0.here hx rfl (hb hby d24_17) rfl ?_
    refine XS.istoreN X0.here hx rfl (hb hby d24_18) rfl (l' := #[.val (.int x), .val (.int (((x ^^^ ((x.toUInt32 >>> ((16 : Int32) &&& 31).toUInt32).toInt32)) * (-2048144789 : Int32)) ^^^ ((((x ^^^ ((x.toUInt32 >>> ((16 : Int32) &&& 31).toUInt32).toInt32)) * (-2048144789 : Int32)).toUInt32 >>> ((13 : Int32) &&& 31).toUInt32).toInt32)))]) rfl ?_
    refine XS.iloadN X0.here hx rfl (hb hby d24_19) rfl ?_
    show Steps p.tables e below (s₁.setTop (mkF m 20 #[.val (.int x), .val (.int (((x ^^^ ((x.toUInt32 >>> ((16 : Int32) &&& 31).toUInt32).toInt32)) * (-2048144789 : Int32)) ^^^ ((((x ^^^ ((x.toUInt32 >>> ((16 : Int32) &&& 31).toUInt32).toInt32)) * (-2048144789 : Int32)).toUInt32 >>> ((13 : Int32) &&& 31).toUInt32).toInt32)))] [(.int (((x ^^^ ((x.toUInt32 >>> ((16 : Int32) &&& 31).toUInt32).toInt32)) * (-2048144789 : Int32)) ^^^ ((((x ^^^ ((x.toUInt32 >>> ((16 : Int32) &&& 31).toUInt32).toInt32)) * (-2048144789 : Int32)).toUInt32 >>> ((13 : Int32) &&& 31).toUInt32).toInt32)))])) tg
    refine X0.ldcInt hx hown (mvT hZ (hw _ (List.mem_of_getElem? (i := 154) rfl))) (g := (mkF m 20 #[.val (.int x), .val (.int (((x ^^^ ((x.toUInt32 >>> ((16 : Int32) &&& 31).toUInt32).toInt32)) * (-2048144789 : Int32)) ^^^ ((((x ^^^ ((x.toUInt32 >>> ((16 : Int32) &&& 31).toUInt32).toInt32)) * (-2048144789 : Int32)).toUInt32 >>> ((13 : Int32) &&& 31).toUInt32).toInt32)))] [(.int (((x ^^^ ((x.toUInt32 >>> ((16 : Int32) &&& 31).toUInt32).toInt32)) * (-2048144789 : Int32)) ^^^ ((((x ^^^ ((x.toUInt32 >>> ((16 : Int32) &&& 31).toUInt32).toInt32)) * (-2048144789 : Int32)).toUInt32 >>> ((13 : Int32) &&& 31).toUInt32).toInt32)))])) rfl (hb hby d24_20) _ ?_
    refine XS.imul X0.here hx rfl (hb hby d24_22) rfl ?_
    refine XS.istoreN X0.here hx rfl (hb hby d24_23) rfl (l' := #[.val (.int x), .val (.int ((((x ^^^ ((x.toUInt32 >>> ((16 : Int32) &&& 31).toUInt32).toInt32)) * (-2048144789 : Int32)) ^^^ ((((x ^^^ ((x.toUInt32 >>> ((16 : Int32) &&& 31).toUInt32).toInt32)) * (-2048144789 : Int32)).toUInt32 >>> ((13 : Int32) &&& 31).toUInt32).toInt32)) * (-1028477387 : Int32)))]) rfl ?_
    refine XS.iloadN X0.here hx rfl (hb hby d24_24) rfl ?_
    refine XS.iloadN X0.here hx rfl (hb hby d24_25) rfl ?_
    refine XS.bipush X0.here hx rfl (hb hby d24_26) ?_
    show Steps p.tables e below (s₁.setTop (mkF m 28 #[.val (.int x), .val (.int ((((x ^^^ ((x.toUInt32 >>> ((16 : Int32) &&& 31).toUInt32).toInt32)) * (-2048144789 : Int32)) ^^^ ((((x ^^^ ((x.toUInt32 >>> ((16 : Int32) &&& 31).toUInt32).toInt32)) * (-2048144789 : Int32)).toUInt32 >>> ((13 : Int32) &&& 31).toUInt32).toInt32)) * (-1028477387 : Int32)))] [(.int (16 : Int32)), (.int ((((x ^^^ ((x.toUInt32 >>> ((16 : Int32) &&& 31).toUInt32).toInt32)) * (-2048144789 : Int32)) ^^^ ((((x ^^^ ((x.toUInt32 >>> ((16 : Int32) &&& 31).toUInt32).toInt32)) * (-2048144789 : Int32)).toUInt32 >>> ((13 : Int32) &&& 31).toUInt32).toInt32)) * (-1028477387 : Int32))), (.int ((((x ^^^ ((x.toUInt32 >>> ((16 : Int32) &&& 31).toUInt32).toInt32)) * (-2048144789 : Int32)) ^^^ ((((x ^^^ ((x.toUInt32 >>> ((16 : Int32) &&& 31).toUInt32).toInt32)) * (-2048144789 : Int32)).toUInt32 >>> ((13 : Int32) &&& 31).toUInt32).toInt32)) * (-1028477387 : Int32)))])) tg
    refine XS.iushr X0.here hx rfl (hb hby d24_28) rfl ?_
    refine XS.ixor X0.here hx rfl (hb hby d24_29) rfl ?_
    exact kg
  obtain ⟨fs2, hr2, hrun2, hended2, hW2, hsame2⟩ := X0.leave (v := some (.int (((((x ^^^ ((x.toUInt32 >>> ((16 : Int32) &&& 31).toUInt32).toInt32)) * (-2048144789 : Int32)) ^^^ ((((x ^^^ ((x.toUInt32 >>> ((16 : Int32) &&& 31).toUInt32).toInt32)) * (-2048144789 : Int32)).toUInt32 >>> ((13 : Int32) &&& 31).toUInt32).toInt32)) * (-1028477387 : Int32)) ^^^ ((((((x ^^^ ((x.toUInt32 >>> ((16 : Int32) &&& 31).toUInt32).toInt32)) * (-2048144789 : Int32)) ^^^ ((((x ^^^ ((x.toUInt32 >>> ((16 : Int32) &&& 31).toUInt32).toInt32)) * (-2048144789 : Int32)).toUInt32 >>> ((13 : Int32) &&& 31).toUInt32).toInt32)) * (-1028477387 : Int32)).toUInt32 >>> ((16 : Int32) &&& 31).toUInt32).toInt32)))) (fun h => by rw [Bd.returns] at h; cases h)
  refine ⟨_, _, k1 _ ?_, hrun2, hended2, _, _, rfl, ?_, ⟨_, rfl⟩, hW2, hsame2.mono (by decide) (by decide)⟩
  · exact retOut X0 hx Bd.returns rfl (Or.inl ⟨rfl, Or.inl rfl, _, rfl⟩) (hb hby d24_30) hr2
  · show Q_rm_spread Z x h0 n0 _ s₁.heap _
    rw [e0]
    exact ⟨_, rfl, N0, rfl⟩
theorem ef_rm_first (m : MethodId) (x0 : Addr) (x1 : Int32) : entryFrame m #[(.ref x0), (.int x1)] 2 = mkF m 0 #[.val (.ref x0), .val (.int x1)] [] := by first | (simp [entryFrame, mkF, argsToLocals, Value.category]; done) | rfl
def Q_rm_first (Z : State) (a : Addr) (x : Int32) (h0 : Heap) (n0 : Nat) (v : Option Value) (h : Heap) (L : List Loc) : Prop := ∃ (r : Int32), (v = some (.int r)) ∧ (Fr n0 L) ∧ (h = h0) ∧ (0 ≤ r.toInt ∧ r.toInt ≤ 15)
theorem d23_0 : decode prog_36_method_8_code 0 = .ok (.iload_n 1, 1) := by decide +kernel
theorem d23_1 : decode prog_36_method_8_code 1 = .ok (.invokestatic 46, 3) := by decide +kernel
theorem d23_4 : decode prog_36_method_8_code 4 = .ok (.aload_n 0, 1) := by decide +kernel
theorem d23_5 : decode prog_36_method_8_code 5 = .ok (.getfield 23, 3) := by decide +kernel
theorem d23_8 : decode prog_36_method_8_code 8 = .ok (.iand, 1) := by decide +kernel
theorem d23_9 : decode prog_36_method_8_code 9 = .ok (.ireturn, 1) := by decide +kernel
set_option maxRecDepth 65536 in
set_option maxHeartbeats 40000000 in
theorem rm_first (l : Launch) (Z : State) (a0 : Array Value) (hw : ∀ d ∈ tables_1, d.before a0 Z = true) (ws : List Jvm.Cond) (a : Addr) (x : Int32) (h0 : Heap) (n0 : Nat) (Z0 : n0 ≤ h0.size) (F_m : Fld Z h0 a "com/example/verum/verum/HashSlots" "mask" "I" (.int (15 : Int32))) :
    Con l Z (⟨"com/example/verum/verum/HashSlots", "first", "(I)I"⟩ : MethodName) prog_36_method_8_code 2 (some .int) ws ({ frames := 1, cells := 0, slots := 0, locals := 13 } : Room) #[(.ref a), (.int x)] h0 (Q_rm_first Z a x h0 n0) := by
  refine MetFree.of_bodySF (plainFor_of_name pn_HashSlots) hisR ?_
  intro p e s m args below meth c s₁ Bd hml0 hP hK
  obtain ⟨rfl, hZ, hh⟩ := hP
  have hx := Bd.exec
  have hby := Bd.bytes
  have hml : c.maxLocals = 2 := hml0
  have hown : s.vm.findClass "com/example/verum/verum/HashSlots" = some m.cls := findClass_of_methodNamed Bd.named
  have hnm := (name_of_methodNamed Bd.named Bd.method).1
  have X0 : Stand p l e ({ frames := 1, cells := 0, slots := 0, locals := 13 } : Room) s m #[(.ref a), (.int x)] below meth c s₁ [] 0 0 := Stand.of_body Bd
  have e0 : s₁.heap = h0 := by rw [← hh, Bd.state]; rfl
  have N0 := Fr.nil n0
  have k0 : Rch p e below (s₁.setTop (entryFrame m #[(.ref a), (.int x)] 2)) s₁ (mkF m 0 #[.val (.ref a), .val (.int x)] []) := fun tg kg => castTop (ef_rm_first m a x) kg
  have lt_F_m := own_ltN F_m.lt
  have k1 : Rch p e below (s₁.setTop (entryFrame m #[(.ref a), (.int x)] 2)) s₁ (mkF m 1 #[.val (.ref a), .val (.int x)] [(.int x)]) := fun tg kg => by
    refine k0 tg ?_
    show Steps p.tables e below (s₁.setTop (mkF m 0 #[.val (.ref a), .val (.int x)] [])) tg
    refine XS.iloadN X0.here hx rfl (hb hby d23_0) rfl ?_
    exact kg
  obtain ⟨v2, T2, h2, Lc2, X2, e2, hQ2, st2⟩ := own_callS X0 hx hZ hown (hw _ (List.mem_of_getElem? (i := 150) rfl)) (hw _ (List.mem_of_getElem? (i := 151) rfl)) (hw _ (List.mem_of_getElem? (i := 12) rfl)) (hw _ (List.mem_of_getElem? (i := 152) rfl)) (by decide) (rm_spread l Z a0 hw [] x h0 n0 (by omega) ) e0 (g := (mkF m 1 #[.val (.ref a), .val (.int x)] [(.int x)])) rfl (by rw [hml]; rfl) (argsL := [(.int x)]) (rest := []) rfl (lenOf pd_3 rfl) rfl (W := 0) (by show 2 * 0 + _ ≤ _; exact Nat.le_of_eq rfl) (hb hby d23_1) (by decide) (by decide) (by decide) (by decide)
  obtain ⟨rsp, rfl, Nq2, hs2⟩ := hQ2
  have N2 := Fr.app N0 Nq2
  have e2' : T2.heap = h0 := e2.trans hs2
  have k3 : Rch p e below (s₁.setTop (entryFrame m #[(.ref a), (.int x)] 2)) T2 (mkF m 4 #[.val (.ref a), .val (.int x)] [(.int rsp)]) := fun tg kg => k1 tg (st2 tg kg)
  have k4 : Rch p e below (s₁.setTop (entryFrame m #[(.ref a), (.int x)] 2)) T2 (mkF m 5 #[.val (.ref a), .val (.int x)] [(.ref a), (.int rsp)]) := fun tg kg => by
    refine k3 tg ?_
    show Steps p.tables e below (T2.setTop (mkF m 4 #[.val (.ref a), .val (.int x)] [(.int rsp)])) tg
    refine XS.aloadN X2.here hx rfl (hb hby d23_4) rfl rfl ?_
    exact kg
  obtain ⟨T5, X5, e5, st5⟩ := getF X2 hx hZ hown (host := "") (Or.inl (hw _ (List.mem_of_getElem? (i := 32) rfl))) Via.refl e2' F_m (g := (mkF m 5 #[.val (.ref a), .val (.int x)] [(.ref a), (.int rsp)])) rfl rfl (hb hby d23_5)
  have k6 : Rch p e below (s₁.setTop (entryFrame m #[(.ref a), (.int x)] 2)) T5 (mkF m 8 #[.val (.ref a), .val (.int x)] [(.int (15 : Int32)), (.int rsp)]) := fun tg kg => k4 tg (st5 tg kg)
  have k7 : Rch p e below (s₁.setTop (entryFrame m #[(.ref a), (.int x)] 2)) T5 (mkF m 9 #[.val (.ref a), .val (.int x)] [(.int (rsp &&& (15 : Int32)))]) := fun tg kg => by
    refine k6 tg ?_
    show Steps p.tables e below (T5.setTop (mkF m 8 #[.val (.ref a), .val (.int x)] [(.int (15 : Int32)), (.int rsp)])) tg
    refine XS.iand X5.here hx rfl (hb hby d23_8) rfl ?_
    exact kg
  obtain ⟨fs8, hr8, hrun8, hended8, hW8, hsame8⟩ := X5.leave (v := some (.int (rsp &&& (15 : Int32)))) (fun h => by rw [Bd.returns] at h; cases h)
  refine ⟨_, _, k7 _ ?_, hrun8, hended8, _, _, rfl, ?_, ⟨_, rfl⟩, hW8, hsame8.mono (by decide) (by decide)⟩
  · exact retOut X5 hx Bd.returns rfl (Or.inl ⟨rfl, Or.inl rfl, _, rfl⟩) (hb hby d23_9) hr8
  · show Q_rm_first Z a x h0 n0 _ T5.heap _
    rw [e5]
    exact ⟨_, rfl, N2, rfl, (own_first _)⟩
theorem ef_rm_put (m : MethodId) (x0 : Addr) (x1 : Int32) (x2 : Int32) : entryFrame m #[(.ref x0), (.int x1), (.int x2)] 4 = mkF m 0 #[.val (.ref x0), .val (.int x1), .val (.int x2), .unset] [] := by first | (simp [entryFrame, mkF, argsToLocals, Value.category]; done) | rfl
def Q_rm_put (Z : State) (a : Addr) (i : Int32) (n : Int32) (hp : Addr) (ht : Addr) (khp : ClassId) (kht : ClassId) (ts : List Int32) (h0 : Heap) (n0 : Nat) (v : Option Value) (h : Heap) (L : List Loc) : Prop := (v = none) ∧ (Fr n0 L) ∧ (Keep h0 h [ht]) ∧ (Arv Z h ht kht .int (16 : Int32) ((ts.set i.toNatClampNeg (n + (1 : Int32))).map Value.int) (.int (0 : Int32)))
theorem d30_0 : decode prog_36_method_11_code 0 = .ok (.aload_n 0, 1) := by decide +kernel
theorem d30_1 : decode prog_36_method_11_code 1 = .ok (.getfield 27, 3) := by decide +kernel
theorem d30_4 : decode prog_36_method_11_code 4 = .ok (.ifCond .eq 57, 3) := by decide +kernel
theorem d30_61 : decode prog_36_method_11_code 61 = .ok (.aload_n 0, 1) := by decide +kernel
theorem d30_62 : decode prog_36_method_11_code 62 = .ok (.getfield 16, 3) := by decide +kernel
theorem d30_65 : decode prog_36_method_11_code 65 = .ok (.iload_n 1, 1) := by decide +kernel
theorem d30_66 : decode prog_36_method_11_code 66 = .ok (.bipush 16, 2) := by decide +kernel
theorem d30_68 : decode prog_36_method_11_code 68 = .ok (.iushr, 1) := by decide +kernel
theorem d30_69 : decode prog_36_method_11_code 69 = .ok (.aaload, 1) := by decide +kernel
theorem d30_70 : decode prog_36_method_11_code 70 = .ok (.iload_n 1, 1) := by decide +kernel
theorem d30_71 : decode prog_36_method_11_code 71 = .ok (.ldc 50, 2) := by decide +kernel
theorem d30_73 : decode prog_36_method_11_code 73 = .ok (.iand, 1) := by decide +kernel
theorem d30_74 : decode prog_36_method_11_code 74 = .ok (.iload_n 2, 1) := by decide +kernel
theorem d30_75 : decode prog_36_method_11_code 75 = .ok (.iconst 1, 1) := by decide +kernel
theorem d30_76 : decode prog_36_method_11_code 76 = .ok (.iadd, 1) := by decide +kernel
theorem d30_77 : decode prog_36_method_11_code 77 = .ok (.iastore, 1) := by decide +kernel
theorem d30_78 : decode prog_36_method_11_code 78 = .ok (.return_, 1) := by decide +kernel
set_option maxRecDepth 65536 in
set_option maxHeartbeats 40000000 in
theorem rm_put (l : Launch) (Z : State) (a0 : Array Value) (hw : ∀ d ∈ tables_1, d.before a0 Z = true) (ws : List Jvm.Cond) (a : Addr) (i : Int32) (n : Int32) (hp : Addr) (ht : Addr) (khp : ClassId) (kht : ClassId) (ts : List Int32) (h0 : Heap) (n0 : Nat) (Z0 : n0 ≤ h0.size) (F_p : Fld Z h0 a "com/example/verum/verum/HashSlots" "pages" "[[I" (.ref hp)) (F_s : Fld Z h0 a "com/example/verum/verum/HashSlots" "shared" "Z" (.int (0 : Int32))) (V_p : Arv Z h0 hp khp (.array .int) (1 : Int32) [(.ref ht)] .null) (V_t : Arv Z h0 ht kht .int (16 : Int32) (ts.map Value.int) (.int (0 : Int32))) (hi0 : 0 ≤ i.toInt) (hi1 : i.toInt ≤ 15) (htl : ts.length = 16) (g_t : n0 ≤ ht) :
    Con l Z (⟨"com/example/verum/verum/HashSlots", "put", "(II)V"⟩ : MethodName) prog_36_method_11_code 4 none ws ({ frames := 0, cells := 0, slots := 0, locals := 0 } : Room) #[(.ref a), (.int i), (.int n)] h0 (Q_rm_put Z a i n hp ht khp kht ts h0 n0) := by
  refine MetFree.of_bodySF (plainFor_of_name pn_HashSlots) hisR ?_
  intro p e s m args below meth c s₁ Bd hml0 hP hK
  obtain ⟨rfl, hZ, hh⟩ := hP
  have hx := Bd.exec
  have hby := Bd.bytes
  have hml : c.maxLocals = 4 := hml0
  have hown : s.vm.findClass "com/example/verum/verum/HashSlots" = some m.cls := findClass_of_methodNamed Bd.named
  have hnm := (name_of_methodNamed Bd.named Bd.method).1
  have X0 : Stand p l e ({ frames := 0, cells := 0, slots := 0, locals := 0 } : Room) s m #[(.ref a), (.int i), (.int n)] below meth c s₁ [] 0 0 := Stand.of_body Bd
  have e0 : s₁.heap = h0 := by rw [← hh, Bd.state]; rfl
  have N0 := Fr.nil n0
  have k0 : Rch p e below (s₁.setTop (entryFrame m #[(.ref a), (.int i), (.int n)] 4)) s₁ (mkF m 0 #[.val (.ref a), .val (.int i), .val (.int n), .unset] []) := fun tg kg => castTop (ef_rm_put m a i n) kg
  have lt_F_p := own_ltN F_p.lt
  have lt_F_s := own_ltN F_s.lt
  have lt_V_p := own_ltN V_p.lt
  have lt_V_t := own_ltN V_t.lt
  have k1 : Rch p e below (s₁.setTop (entryFrame m #[(.ref a), (.int i), (.int n)] 4)) s₁ (mkF m 1 #[.val (.ref a), .val (.int i), .val (.int n), .unset] [(.ref a)]) := fun tg kg => by
    refine k0 tg ?_
    show Steps p.tables e below (s₁.setTop (mkF m 0 #[.val (.ref a), .val (.int i), .val (.int n), .unset] [])) tg
    refine XS.aloadN X0.here hx rfl (hb hby d30_0) rfl rfl ?_
    exact kg
  obtain ⟨T2, X2, e2, st2⟩ := getF X0 hx hZ hown (host := "") (Or.inl (hw _ (List.mem_of_getElem? (i := 34) rfl))) Via.refl e0 F_s (g := (mkF m 1 #[.val (.ref a), .val (.int i), .val (.int n), .unset] [(.ref a)])) rfl rfl (hb hby d30_1)
  have k3 : Rch p e below (s₁.setTop (entryFrame m #[(.ref a), (.int i), (.int n)] 4)) T2 (mkF m 4 #[.val (.ref a), .val (.int i), .val (.int n), .unset] [(.int (0 : Int32))]) := fun tg kg => k1 tg (st2 tg kg)
  have k4 : Rch p e below (s₁.setTop (entryFrame m #[(.ref a), (.int i), (.int n)] 4)) T2 (mkF m 62 #[.val (.ref a), .val (.int i), .val (.int n), .unset] [(.ref a)]) := fun tg kg => by
    refine k3 tg ?_
    show Steps p.tables e below (T2.setTop (mkF m 4 #[.val (.ref a), .val (.int i), .val (.int n), .unset] [(.int (0 : Int32))])) tg
    refine XS.ifYes X2.here hx rfl (pc0 := 4) (pc' := 61) rfl (hb hby d30_4) rfl ((if0 _ _).trans (teq rfl).1) (by decide) (by decide) ?_
    refine XS.aloadN X2.here hx rfl (hb hby d30_61) rfl rfl ?_
    exact kg
  obtain ⟨T5, X5, e5, st5⟩ := getF X2 hx hZ hown (host := "") (Or.inl (hw _ (List.mem_of_getElem? (i := 23) rfl))) Via.refl e2 F_p (g := (mkF m 62 #[.val (.ref a), .val (.int i), .val (.int n), .unset] [(.ref a)])) rfl rfl (hb hby d30_62)
  have k6 : Rch p e below (s₁.setTop (entryFrame m #[(.ref a), (.int i), (.int n)] 4)) T5 (mkF m 65 #[.val (.ref a), .val (.int i), .val (.int n), .unset] [(.ref hp)]) := fun tg kg => k4 tg (st5 tg kg)
  have k7 : Rch p e below (s₁.setTop (entryFrame m #[(.ref a), (.int i), (.int n)] 4)) T5 (mkF m 69 #[.val (.ref a), .val (.int i), .val (.int n), .unset] [(.int ((i.toUInt32 >>> ((16 : Int32) &&& 31).toUInt32).toInt32)), (.ref hp)]) := fun tg kg => by
    refine k6 tg ?_
    show Steps p.tables e below (T5.setTop (mkF m 65 #[.val (.ref a), .val (.int i), .val (.int n), .unset] [(.ref hp)])) tg
    refine XS.iloadN X5.here hx rfl (hb hby d30_65) rfl ?_
    refine XS.bipush X5.here hx rfl (hb hby d30_66) ?_
    show Steps p.tables e below (T5.setTop (mkF m 68 #[.val (.ref a), .val (.int i), .val (.int n), .unset] [(.int (16 : Int32)), (.int i), (.ref hp)])) tg
    refine XS.iushr X5.here hx rfl (hb hby d30_68) rfl ?_
    exact kg
  obtain ⟨cl8, Ar8, q8, S8, M8, H8, G8⟩ := id V_p
  have hina : ¬ (((i.toUInt32 >>> ((16 : Int32) &&& 31).toUInt32).toInt32) < 0 ∨ cl8.slots.size ≤ (((i.toUInt32 >>> ((16 : Int32) &&& 31).toUInt32).toInt32)).toNatClampNeg) := inb_of S8 (by rw [own_sh16 hi0 hi1]; decide)
  have hata := Has.at H8 hina (show _ = Value.ref _ by rw [own_sh16 hi0 hi1]; rfl)
  have k9 : Rch p e below (s₁.setTop (entryFrame m #[(.ref a), (.int i), (.int n)] 4)) T5 (mkF m 77 #[.val (.ref a), .val (.int i), .val (.int n), .unset] [(.int (n + (1 : Int32))), (.int (i &&& (65535 : Int32))), (.ref ht)]) := fun tg kg => by
    refine k7 tg ?_
    show Steps p.tables e below (T5.setTop (mkF m 69 #[.val (.ref a), .val (.int i), .val (.int n), .unset] [(.int ((i.toUInt32 >>> ((16 : Int32) &&& 31).toUInt32).toInt32)), (.ref hp)])) tg
    refine X5.aaload hx (j := ((i.toUInt32 >>> ((16 : Int32) &&& 31).toUInt32).toInt32)) (v := (.ref ht)) (by rw [e5]; exact Ar8.1) (State.isArrayOf_alike hZ.alike Ar8.2.1) rfl Ar8.2.2 hina hata (g := (mkF m 69 #[.val (.ref a), .val (.int i), .val (.int n), .unset] [(.int ((i.toUInt32 >>> ((16 : Int32) &&& 31).toUInt32).toInt32)), (.ref hp)])) rfl rfl (hb hby d30_69) _ ?_
    refine XS.iloadN X5.here hx rfl (hb hby d30_70) rfl ?_
    refine X5.ldcInt hx hown (mvT hZ (hw _ (List.mem_of_getElem? (i := 160) rfl))) (g := (mkF m 71 #[.val (.ref a), .val (.int i), .val (.int n), .unset] [(.int i), (.ref ht)])) rfl (hb hby d30_71) _ ?_
    refine XS.iand X5.here hx rfl (hb hby d30_73) rfl ?_
    refine XS.iloadN X5.here hx rfl (hb hby d30_74) rfl ?_
    show Steps p.tables e below (T5.setTop (mkF m 75 #[.val (.ref a), .val (.int i), .val (.int n), .unset] [(.int n), (.int (i &&& (65535 : Int32))), (.ref ht)])) tg
    refine XS.iconst X5.here hx rfl (hb hby d30_75) ?_
    refine XS.iadd X5.here hx rfl (hb hby d30_76) rfl ?_
    exact kg
  obtain ⟨cl10, Ar10, q10, S10, M10, H10, G10⟩ := id V_t
  have hin : ¬ ((i &&& (65535 : Int32)) < 0 ∨ cl10.slots.size ≤ ((i &&& (65535 : Int32))).toNatClampNeg) := inb_of S10 (by rw [own_m16 hi0 hi1]; exact (own_lt16 hi0 hi1).2)
  obtain ⟨T11, h11, X11, e11, W11, st11⟩ := stI X5 hx hZ e5 Ar10 (j := (i &&& (65535 : Int32))) hin (g := (mkF m 77 #[.val (.ref a), .val (.int i), .val (.int n), .unset] [(.int (n + (1 : Int32))), (.int (i &&& (65535 : Int32))), (.ref ht)])) rfl rfl (hb hby d30_77)
  have s11 : h11.size = h0.size := W11.size
  have N11 := Fr.snoc X11 N0 g_t
  have k12 : Rch p e below (s₁.setTop (entryFrame m #[(.ref a), (.int i), (.int n)] 4)) T11 (mkF m 78 #[.val (.ref a), .val (.int i), .val (.int n), .unset] []) := fun tg kg => k9 tg (st11 tg kg)
  have V11 := Arv.set Ar10 q10 S10 M10 H10 G10 rfl W11 i.toNatClampNeg (by rw [own_m16 hi0 hi1]) (by rw [List.length_map, htl]; exact (own_lt16 hi0 hi1).1)
  rw [own_tab_map] at V11
  obtain ⟨fs13, hr13, hrun13, hended13, hW13, hsame13⟩ := X11.leave (v := none) (fun _ => rfl)
  refine ⟨_, _, k12 _ ?_, hrun13, hended13, _, _, rfl, ?_, ⟨_, rfl⟩, hW13, hsame13.mono (by decide) (by decide)⟩
  · exact X11.returnOut hx Bd.returns (hb hby d30_78) hr13
  · show Q_rm_put Z a i n hp ht khp kht ts h0 n0 _ T11.heap _
    rw [e11]
    exact ⟨rfl, N11, ((Keep.refl h0 [ht]).wr W11 (Or.inl (List.mem_of_getElem? (i := 0) rfl))), V11⟩
theorem ef_rm_hash (m : MethodId) (x0 : Addr) (x1 : Addr) : entryFrame m #[(.ref x0), (.ref x1)] 4 = mkF m 0 #[.val (.ref x0), .val (.ref x1), .unset, .unset] [] := by first | (simp [entryFrame, mkF, argsToLocals, Value.category]; done) | rfl
def Q_rm_hash (Z : State) (a : Addr) (b : Addr) (kb : ClassId) (xv : Int32) (h0 : Heap) (n0 : Nat) (v : Option Value) (h : Heap) (L : List Loc) : Prop := ∃ (r : Int32), (v = some (.int r)) ∧ (Fr n0 L) ∧ (h = h0)
theorem d22_0 : decode prog_70_method_30_code 0 = .ok (.iconst 0, 1) := by decide +kernel
theorem d22_1 : decode prog_70_method_30_code 1 = .ok (.istore_n 2, 1) := by decide +kernel
theorem d22_2 : decode prog_70_method_30_code 2 = .ok (.iconst 0, 1) := by decide +kernel
theorem d22_3 : decode prog_70_method_30_code 3 = .ok (.istore_n 3, 1) := by decide +kernel
theorem d22_4 : decode prog_70_method_30_code 4 = .ok (.iload_n 3, 1) := by decide +kernel
theorem d22_5 : decode prog_70_method_30_code 5 = .ok (.aload_n 0, 1) := by decide +kernel
theorem d22_6 : decode prog_70_method_30_code 6 = .ok (.getfield 23, 3) := by decide +kernel
theorem d22_9 : decode prog_70_method_30_code 9 = .ok (.if_icmp .ge 18, 3) := by decide +kernel
theorem d22_12 : decode prog_70_method_30_code 12 = .ok (.ldc 239, 2) := by decide +kernel
theorem d22_14 : decode prog_70_method_30_code 14 = .ok (.iload_n 2, 1) := by decide +kernel
theorem d22_15 : decode prog_70_method_30_code 15 = .ok (.imul, 1) := by decide +kernel
theorem d22_16 : decode prog_70_method_30_code 16 = .ok (.aload_n 1, 1) := by decide +kernel
theorem d22_17 : decode prog_70_method_30_code 17 = .ok (.iload_n 3, 1) := by decide +kernel
theorem d22_18 : decode prog_70_method_30_code 18 = .ok (.iaload, 1) := by decide +kernel
theorem d22_19 : decode prog_70_method_30_code 19 = .ok (.iadd, 1) := by decide +kernel
theorem d22_20 : decode prog_70_method_30_code 20 = .ok (.istore_n 2, 1) := by decide +kernel
theorem d22_21 : decode prog_70_method_30_code 21 = .ok (.iinc 3 1, 3) := by decide +kernel
theorem d22_24 : decode prog_70_method_30_code 24 = .ok (.goto (-20), 3) := by decide +kernel
theorem d22_27 : decode prog_70_method_30_code 27 = .ok (.iload_n 2, 1) := by decide +kernel
theorem d22_28 : decode prog_70_method_30_code 28 = .ok (.ireturn, 1) := by decide +kernel
set_option maxRecDepth 65536 in
set_option maxHeartbeats 40000000 in
theorem rm_hash (l : Launch) (Z : State) (a0 : Array Value) (hw : ∀ d ∈ tables_1, d.before a0 Z = true) (ws : List Jvm.Cond) (a : Addr) (b : Addr) (kb : ClassId) (xv : Int32) (h0 : Heap) (n0 : Nat) (Z0 : n0 ≤ h0.size) (F_a : Fld Z h0 a "com/example/verum/verum/Relation" "arity" "I" (.int (1 : Int32))) (V_b : Arv Z h0 b kb .int (1 : Int32) [(.int xv)] (.int (0 : Int32))) :
    Con l Z (⟨"com/example/verum/verum/Relation", "hash", "([I)I"⟩ : MethodName) prog_70_method_30_code 4 (some .int) ws ({ frames := 0, cells := 0, slots := 0, locals := 0 } : Room) #[(.ref a), (.ref b)] h0 (Q_rm_hash Z a b kb xv h0 n0) := by
  refine MetFree.of_bodySF (plainFor_of_name pn_Relation) hisR ?_
  intro p e s m args below meth c s₁ Bd hml0 hP hK
  obtain ⟨rfl, hZ, hh⟩ := hP
  have hx := Bd.exec
  have hby := Bd.bytes
  have hml : c.maxLocals = 4 := hml0
  have hown : s.vm.findClass "com/example/verum/verum/Relation" = some m.cls := findClass_of_methodNamed Bd.named
  have hnm := (name_of_methodNamed Bd.named Bd.method).1
  have X0 : Stand p l e ({ frames := 0, cells := 0, slots := 0, locals := 0 } : Room) s m #[(.ref a), (.ref b)] below meth c s₁ [] 0 0 := Stand.of_body Bd
  have e0 : s₁.heap = h0 := by rw [← hh, Bd.state]; rfl
  have N0 := Fr.nil n0
  have k0 : Rch p e below (s₁.setTop (entryFrame m #[(.ref a), (.ref b)] 4)) s₁ (mkF m 0 #[.val (.ref a), .val (.ref b), .unset, .unset] []) := fun tg kg => castTop (ef_rm_hash m a b) kg
  have lt_F_a := own_ltN F_a.lt
  have lt_V_b := own_ltN V_b.lt
  have k1 : Rch p e below (s₁.setTop (entryFrame m #[(.ref a), (.ref b)] 4)) s₁ (mkF m 6 #[.val (.ref a), .val (.ref b), .val (.int (0 : Int32)), .val (.int (0 : Int32))] [(.ref a), (.int (0 : Int32))]) := fun tg kg => by
    refine k0 tg ?_
    show Steps p.tables e below (s₁.setTop (mkF m 0 #[.val (.ref a), .val (.ref b), .unset, .unset] [])) tg
    refine XS.iconst X0.here hx rfl (hb hby d22_0) ?_
    refine XS.istoreN X0.here hx rfl (hb hby d22_1) rfl (l' := #[.val (.ref a), .val (.ref b), .val (.int (0 : Int32)), .unset]) rfl ?_
    refine XS.iconst X0.here hx rfl (hb hby d22_2) ?_
    refine XS.istoreN X0.here hx rfl (hb hby d22_3) rfl (l' := #[.val (.ref a), .val (.ref b), .val (.int (0 : Int32)), .val (.int (0 : Int32))]) rfl ?_
    refine XS.iloadN X0.here hx rfl (hb hby d22_4) rfl ?_
    show Steps p.tables e below (s₁.setTop (mkF m 5 #[.val (.ref a), .val (.ref b), .val (.int (0 : Int32)), .val (.int (0 : Int32))] [(.int (0 : Int32))])) tg
    refine XS.aloadN X0.here hx rfl (hb hby d22_5) rfl rfl ?_
    exact kg
  obtain ⟨T2, X2, e2, st2⟩ := getF X0 hx hZ hown (host := "") (Or.inl (hw _ (List.mem_of_getElem? (i := 64) rfl))) Via.refl e0 F_a (g := (mkF m 6 #[.val (.ref a), .val (.ref b), .val (.int (0 : Int32)), .val (.int (0 : Int32))] [(.ref a), (.int (0 : Int32))])) rfl rfl (hb hby d22_6)
  have k3 : Rch p e below (s₁.setTop (entryFrame m #[(.ref a), (.ref b)] 4)) T2 (mkF m 9 #[.val (.ref a), .val (.ref b), .val (.int (0 : Int32)), .val (.int (0 : Int32))] [(.int (1 : Int32)), (.int (0 : Int32))]) := fun tg kg => k1 tg (st2 tg kg)
  have k4 : Rch p e below (s₁.setTop (entryFrame m #[(.ref a), (.ref b)] 4)) T2 (mkF m 18 #[.val (.ref a), .val (.ref b), .val (.int (0 : Int32)), .val (.int (0 : Int32))] [(.int (0 : Int32)), (.ref b), (.int ((-1640531527 : Int32) * (0 : Int32)))]) := fun tg kg => by
    refine k3 tg ?_
    show Steps p.tables e below (T2.setTop (mkF m 9 #[.val (.ref a), .val (.ref b), .val (.int (0 : Int32)), .val (.int (0 : Int32))] [(.int (1 : Int32)), (.int (0 : Int32))])) tg
    refine XS.icmpNo X2.here hx rfl (hb hby d22_9) rfl (tlt (by decide)).2.1 ?_
    refine X2.ldcInt hx hown (mvT hZ (hw _ (List.mem_of_getElem? (i := 144) rfl))) (g := (mkF m 12 #[.val (.ref a), .val (.ref b), .val (.int (0 : Int32)), .val (.int (0 : Int32))] [])) rfl (hb hby d22_12) _ ?_
    refine XS.iloadN X2.here hx rfl (hb hby d22_14) rfl ?_
    refine XS.imul X2.here hx rfl (hb hby d22_15) rfl ?_
    refine XS.aloadN X2.here hx rfl (hb hby d22_16) rfl rfl ?_
    show Steps p.tables e below (T2.setTop (mkF m 17 #[.val (.ref a), .val (.ref b), .val (.int (0 : Int32)), .val (.int (0 : Int32))] [(.ref b), (.int ((-1640531527 : Int32) * (0 : Int32)))])) tg
    refine XS.iloadN X2.here hx rfl (hb hby d22_17) rfl ?_
    exact kg
  obtain ⟨cl5, Ar5, q5, S5, M5, H5, G5⟩ := id V_b
  have hina : ¬ ((0 : Int32) < 0 ∨ cl5.slots.size ≤ ((0 : Int32)).toNatClampNeg) := inb_of S5 ⟨by decide, by decide⟩
  have hata := Has.at H5 hina (show _ = Value.int xv from rfl)
  have k6 : Rch p e below (s₁.setTop (entryFrame m #[(.ref a), (.ref b)] 4)) T2 (mkF m 6 #[.val (.ref a), .val (.ref b), .val (.int (((-1640531527 : Int32) * (0 : Int32)) + xv)), .val (.int ((0 : Int32) + (1 : Int32)))] [(.ref a), (.int ((0 : Int32) + (1 : Int32)))]) := fun tg kg => by
    refine k4 tg ?_
    show Steps p.tables e below (T2.setTop (mkF m 18 #[.val (.ref a), .val (.ref b), .val (.int (0 : Int32)), .val (.int (0 : Int32))] [(.int (0 : Int32)), (.ref b), (.int ((-1640531527 : Int32) * (0 : Int32)))])) tg
    refine X2.iaload hx (j := (0 : Int32)) (v := (.int xv)) (by rw [e2]; exact Ar5.1) (State.isArrayOf_alike hZ.alike Ar5.2.1) Ar5.2.2 hina hata (g := (mkF m 18 #[.val (.ref a), .val (.ref b), .val (.int (0 : Int32)), .val (.int (0 : Int32))] [(.int (0 : Int32)), (.ref b), (.int ((-1640531527 : Int32) * (0 : Int32)))])) rfl rfl (hb hby d22_18) _ ?_
    refine XS.iadd X2.here hx rfl (hb hby d22_19) rfl ?_
    refine XS.istoreN X2.here hx rfl (hb hby d22_20) rfl (l' := #[.val (.ref a), .val (.ref b), .val (.int (((-1640531527 : Int32) * (0 : Int32)) + xv)), .val (.int (0 : Int32))]) rfl ?_
    refine XS.iinc X2.here hx rfl (hb hby d22_21) rfl (l' := #[.val (.ref a), .val (.ref b), .val (.int (((-1640531527 : Int32) * (0 : Int32)) + xv)), .val (.int ((0 : Int32) + (1 : Int32)))]) rfl ?_
    refine XS.goto X2.here hx rfl (pc0 := 24) (pc' := 4) rfl (hb hby d22_24) (by decide) (by decide) ?_
    show Steps p.tables e below (T2.setTop (mkF m 4 #[.val (.ref a), .val (.ref b), .val (.int (((-1640531527 : Int32) * (0 : Int32)) + xv)), .val (.int ((0 : Int32) + (1 : Int32)))] [])) tg
    refine XS.iloadN X2.here hx rfl (hb hby d22_4) rfl ?_
    refine XS.aloadN X2.here hx rfl (hb hby d22_5) rfl rfl ?_
    exact kg
  obtain ⟨T7, X7, e7, st7⟩ := getF X2 hx hZ hown (host := "") (Or.inl (hw _ (List.mem_of_getElem? (i := 64) rfl))) Via.refl e2 F_a (g := (mkF m 6 #[.val (.ref a), .val (.ref b), .val (.int (((-1640531527 : Int32) * (0 : Int32)) + xv)), .val (.int ((0 : Int32) + (1 : Int32)))] [(.ref a), (.int ((0 : Int32) + (1 : Int32)))])) rfl rfl (hb hby d22_6)
  have k8 : Rch p e below (s₁.setTop (entryFrame m #[(.ref a), (.ref b)] 4)) T7 (mkF m 9 #[.val (.ref a), .val (.ref b), .val (.int (((-1640531527 : Int32) * (0 : Int32)) + xv)), .val (.int ((0 : Int32) + (1 : Int32)))] [(.int (1 : Int32)), (.int ((0 : Int32) + (1 : Int32)))]) := fun tg kg => k6 tg (st7 tg kg)
  have k9 : Rch p e below (s₁.setTop (entryFrame m #[(.ref a), (.ref b)] 4)) T7 (mkF m 28 #[.val (.ref a), .val (.ref b), .val (.int (((-1640531527 : Int32) * (0 : Int32)) + xv)), .val (.int ((0 : Int32) + (1 : Int32)))] [(.int (((-1640531527 : Int32) * (0 : Int32)) + xv))]) := fun tg kg => by
    refine k8 tg ?_
    show Steps p.tables e below (T7.setTop (mkF m 9 #[.val (.ref a), .val (.ref b), .val (.int (((-1640531527 : Int32) * (0 : Int32)) + xv)), .val (.int ((0 : Int32) + (1 : Int32)))] [(.int (1 : Int32)), (.int ((0 : Int32) + (1 : Int32)))])) tg
    refine XS.icmpYes X7.here hx rfl (pc0 := 9) (pc' := 27) rfl (hb hby d22_9) rfl (flt (by decide)).2.1 (by decide) (by decide) ?_
    refine XS.iloadN X7.here hx rfl (hb hby d22_27) rfl ?_
    exact kg
  obtain ⟨fs10, hr10, hrun10, hended10, hW10, hsame10⟩ := X7.leave (v := some (.int (((-1640531527 : Int32) * (0 : Int32)) + xv))) (fun h => by rw [Bd.returns] at h; cases h)
  refine ⟨_, _, k9 _ ?_, hrun10, hended10, _, _, rfl, ?_, ⟨_, rfl⟩, hW10, hsame10.mono (by decide) (by decide)⟩
  · exact retOut X7 hx Bd.returns rfl (Or.inl ⟨rfl, Or.inl rfl, _, rfl⟩) (hb hby d22_28) hr10
  · show Q_rm_hash Z a b kb xv h0 n0 _ T7.heap _
    rw [e7]
    exact ⟨_, rfl, N0, rfl⟩
theorem ef_rm_off (m : MethodId) (x0 : Addr) (x1 : Int32) : entryFrame m #[(.ref x0), (.int x1)] 2 = mkF m 0 #[.val (.ref x0), .val (.int x1)] [] := by first | (simp [entryFrame, mkF, argsToLocals, Value.category]; done) | rfl
def Q_rm_off (Z : State) (a : Addr) (i : Int32) (h0 : Heap) (n0 : Nat) (v : Option Value) (h : Heap) (L : List Loc) : Prop := (v = some (.int i)) ∧ (Fr n0 L) ∧ (h = h0)
theorem d29_0 : decode prog_70_method_32_code 0 = .ok (.iload_n 1, 1) := by decide +kernel
theorem d29_1 : decode prog_70_method_32_code 1 = .ok (.aload_n 0, 1) := by decide +kernel
theorem d29_2 : decode prog_70_method_32_code 2 = .ok (.getfield 42, 3) := by decide +kernel
theorem d29_5 : decode prog_70_method_32_code 5 = .ok (.iand, 1) := by decide +kernel
theorem d29_6 : decode prog_70_method_32_code 6 = .ok (.aload_n 0, 1) := by decide +kernel
theorem d29_7 : decode prog_70_method_32_code 7 = .ok (.getfield 23, 3) := by decide +kernel
theorem d29_10 : decode prog_70_method_32_code 10 = .ok (.imul, 1) := by decide +kernel
theorem d29_11 : decode prog_70_method_32_code 11 = .ok (.ireturn, 1) := by decide +kernel
set_option maxRecDepth 65536 in
set_option maxHeartbeats 40000000 in
theorem rm_off (l : Launch) (Z : State) (a0 : Array Value) (hw : ∀ d ∈ tables_1, d.before a0 Z = true) (ws : List Jvm.Cond) (a : Addr) (i : Int32) (h0 : Heap) (n0 : Nat) (Z0 : n0 ≤ h0.size) (F_a : Fld Z h0 a "com/example/verum/verum/Relation" "arity" "I" (.int (1 : Int32))) (F_m : Fld Z h0 a "com/example/verum/verum/Relation" "pageMask" "I" (.int (65535 : Int32))) (hi0 : 0 ≤ i.toInt) (hi1 : i.toInt ≤ 15) :
    Con l Z (⟨"com/example/verum/verum/Relation", "offset", "(I)I"⟩ : MethodName) prog_70_method_32_code 2 (some .int) ws ({ frames := 0, cells := 0, slots := 0, locals := 0 } : Room) #[(.ref a), (.int i)] h0 (Q_rm_off Z a i h0 n0) := by
  refine MetFree.of_bodySF (plainFor_of_name pn_Relation) hisR ?_
  intro p e s m args below meth c s₁ Bd hml0 hP hK
  obtain ⟨rfl, hZ, hh⟩ := hP
  have hx := Bd.exec
  have hby := Bd.bytes
  have hml : c.maxLocals = 2 := hml0
  have hown : s.vm.findClass "com/example/verum/verum/Relation" = some m.cls := findClass_of_methodNamed Bd.named
  have hnm := (name_of_methodNamed Bd.named Bd.method).1
  have X0 : Stand p l e ({ frames := 0, cells := 0, slots := 0, locals := 0 } : Room) s m #[(.ref a), (.int i)] below meth c s₁ [] 0 0 := Stand.of_body Bd
  have e0 : s₁.heap = h0 := by rw [← hh, Bd.state]; rfl
  have N0 := Fr.nil n0
  have k0 : Rch p e below (s₁.setTop (entryFrame m #[(.ref a), (.int i)] 2)) s₁ (mkF m 0 #[.val (.ref a), .val (.int i)] []) := fun tg kg => castTop (ef_rm_off m a i) kg
  have lt_F_a := own_ltN F_a.lt
  have lt_F_m := own_ltN F_m.lt
  have k1 : Rch p e below (s₁.setTop (entryFrame m #[(.ref a), (.int i)] 2)) s₁ (mkF m 2 #[.val (.ref a), .val (.int i)] [(.ref a), (.int i)]) := fun tg kg => by
    refine k0 tg ?_
    show Steps p.tables e below (s₁.setTop (mkF m 0 #[.val (.ref a), .val (.int i)] [])) tg
    refine XS.iloadN X0.here hx rfl (hb hby d29_0) rfl ?_
    refine XS.aloadN X0.here hx rfl (hb hby d29_1) rfl rfl ?_
    exact kg
  obtain ⟨T2, X2, e2, st2⟩ := getF X0 hx hZ hown (host := "") (Or.inl (hw _ (List.mem_of_getElem? (i := 76) rfl))) Via.refl e0 F_m (g := (mkF m 2 #[.val (.ref a), .val (.int i)] [(.ref a), (.int i)])) rfl rfl (hb hby d29_2)
  have k3 : Rch p e below (s₁.setTop (entryFrame m #[(.ref a), (.int i)] 2)) T2 (mkF m 5 #[.val (.ref a), .val (.int i)] [(.int (65535 : Int32)), (.int i)]) := fun tg kg => k1 tg (st2 tg kg)
  have k4 : Rch p e below (s₁.setTop (entryFrame m #[(.ref a), (.int i)] 2)) T2 (mkF m 7 #[.val (.ref a), .val (.int i)] [(.ref a), (.int (i &&& (65535 : Int32)))]) := fun tg kg => by
    refine k3 tg ?_
    show Steps p.tables e below (T2.setTop (mkF m 5 #[.val (.ref a), .val (.int i)] [(.int (65535 : Int32)), (.int i)])) tg
    refine XS.iand X2.here hx rfl (hb hby d29_5) rfl ?_
    refine XS.aloadN X2.here hx rfl (hb hby d29_6) rfl rfl ?_
    exact kg
  obtain ⟨T5, X5, e5, st5⟩ := getF X2 hx hZ hown (host := "") (Or.inl (hw _ (List.mem_of_getElem? (i := 64) rfl))) Via.refl e2 F_a (g := (mkF m 7 #[.val (.ref a), .val (.int i)] [(.ref a), (.int (i &&& (65535 : Int32)))])) rfl rfl (hb hby d29_7)
  have k6 : Rch p e below (s₁.setTop (entryFrame m #[(.ref a), (.int i)] 2)) T5 (mkF m 10 #[.val (.ref a), .val (.int i)] [(.int (1 : Int32)), (.int (i &&& (65535 : Int32)))]) := fun tg kg => k4 tg (st5 tg kg)
  have k7 : Rch p e below (s₁.setTop (entryFrame m #[(.ref a), (.int i)] 2)) T5 (mkF m 11 #[.val (.ref a), .val (.int i)] [(.int ((i &&& (65535 : Int32)) * (1 : Int32)))]) := fun tg kg => by
    refine k6 tg ?_
    show Steps p.tables e below (T5.setTop (mkF m 10 #[.val (.ref a), .val (.int i)] [(.int (1 : Int32)), (.int (i &&& (65535 : Int32)))])) tg
    refine XS.imul X5.here hx rfl (hb hby d29_10) rfl ?_
    exact kg
  obtain ⟨fs8, hr8, hrun8, hended8, hW8, hsame8⟩ := X5.leave (v := some (.int ((i &&& (65535 : Int32)) * (1 : Int32)))) (fun h => by rw [Bd.returns] at h; cases h)
  refine ⟨_, _, k7 _ ?_, hrun8, hended8, _, _, rfl, ?_, ⟨_, rfl⟩, hW8, hsame8.mono (by decide) (by decide)⟩
  · exact retOut X5 hx Bd.returns rfl (Or.inl ⟨rfl, Or.inl rfl, _, rfl⟩) (hb hby d29_11) hr8
  · show Q_rm_off Z a i h0 n0 _ T5.heap _
    rw [e5]
    exact ⟨(by rw [own_off hi0 hi1]), N0, rfl⟩
theorem ef_rm_roweq (m : MethodId) (x0 : Addr) (x1 : Int32) (x2 : Addr) : entryFrame m #[(.ref x0), (.int x1), (.ref x2)] 6 = mkF m 0 #[.val (.ref x0), .val (.int x1), .val (.ref x2), .unset, .unset, .unset] [] := by first | (simp [entryFrame, mkF, argsToLocals, Value.category]; done) | rfl
def Q_rm_roweq (Z : State) (a : Addr) (i : Int32) (b : Addr) (kb : ClassId) (xv : Int32) (pg : Addr) (pz : Addr) (kpg : ClassId) (kpz : ClassId) (rs : List Value) (h0 : Heap) (n0 : Nat) (v : Option Value) (h : Heap) (L : List Loc) : Prop := ∃ (r : Int32), (v = some (.int r)) ∧ (Fr n0 L) ∧ (h = h0)
theorem d32_0 : decode prog_70_method_29_code 0 = .ok (.aload_n 0, 1) := by decide +kernel
theorem d32_1 : decode prog_70_method_29_code 1 = .ok (.getfield 53, 3) := by decide +kernel
theorem d32_4 : decode prog_70_method_29_code 4 = .ok (.iload_n 1, 1) := by decide +kernel
theorem d32_5 : decode prog_70_method_29_code 5 = .ok (.aload_n 0, 1) := by decide +kernel
theorem d32_6 : decode prog_70_method_29_code 6 = .ok (.getfield 39, 3) := by decide +kernel
theorem d32_9 : decode prog_70_method_29_code 9 = .ok (.iushr, 1) := by decide +kernel
theorem d32_10 : decode prog_70_method_29_code 10 = .ok (.aaload, 1) := by decide +kernel
theorem d32_11 : decode prog_70_method_29_code 11 = .ok (.astore_n 3, 1) := by decide +kernel
theorem d32_12 : decode prog_70_method_29_code 12 = .ok (.aload_n 0, 1) := by decide +kernel
theorem d32_13 : decode prog_70_method_29_code 13 = .ok (.iload_n 1, 1) := by decide +kernel
theorem d32_14 : decode prog_70_method_29_code 14 = .ok (.invokevirtual 79, 3) := by decide +kernel
theorem d32_17 : decode prog_70_method_29_code 17 = .ok (.istore 4, 2) := by decide +kernel
theorem d32_19 : decode prog_70_method_29_code 19 = .ok (.iconst 0, 1) := by decide +kernel
theorem d32_20 : decode prog_70_method_29_code 20 = .ok (.istore 5, 2) := by decide +kernel
theorem d32_22 : decode prog_70_method_29_code 22 = .ok (.iload 5, 2) := by decide +kernel
theorem d32_24 : decode prog_70_method_29_code 24 = .ok (.aload_n 0, 1) := by decide +kernel
theorem d32_25 : decode prog_70_method_29_code 25 = .ok (.getfield 23, 3) := by decide +kernel
theorem d32_28 : decode prog_70_method_29_code 28 = .ok (.if_icmp .ge 25, 3) := by decide +kernel
theorem d32_31 : decode prog_70_method_29_code 31 = .ok (.aload_n 3, 1) := by decide +kernel
theorem d32_32 : decode prog_70_method_29_code 32 = .ok (.iload 4, 2) := by decide +kernel
theorem d32_34 : decode prog_70_method_29_code 34 = .ok (.iload 5, 2) := by decide +kernel
theorem d32_36 : decode prog_70_method_29_code 36 = .ok (.iadd, 1) := by decide +kernel
theorem d32_37 : decode prog_70_method_29_code 37 = .ok (.iaload, 1) := by decide +kernel
theorem d32_38 : decode prog_70_method_29_code 38 = .ok (.aload_n 2, 1) := by decide +kernel
theorem d32_39 : decode prog_70_method_29_code 39 = .ok (.iload 5, 2) := by decide +kernel
theorem d32_41 : decode prog_70_method_29_code 41 = .ok (.iaload, 1) := by decide +kernel
theorem d32_42 : decode prog_70_method_29_code 42 = .ok (.if_icmp .eq 5, 3) := by decide +kernel
theorem d32_47 : decode prog_70_method_29_code 47 = .ok (.iinc 5 1, 3) := by decide +kernel
theorem d32_50 : decode prog_70_method_29_code 50 = .ok (.goto (-28), 3) := by decide +kernel
theorem d32_53 : decode prog_70_method_29_code 53 = .ok (.iconst 1, 1) := by decide +kernel
theorem d32_54 : decode prog_70_method_29_code 54 = .ok (.ireturn, 1) := by decide +kernel
theorem d32_45 : decode prog_70_method_29_code 45 = .ok (.iconst 0, 1) := by decide +kernel
theorem d32_46 : decode prog_70_method_29_code 46 = .ok (.ireturn, 1) := by decide +kernel
set_option maxRecDepth 65536 in
set_option maxHeartbeats 40000000 in
theorem rm_roweq (l : Launch) (Z : State) (a0 : Array Value) (hw : ∀ d ∈ tables_1, d.before a0 Z = true) (ws : List Jvm.Cond) (a : Addr) (i : Int32) (b : Addr) (kb : ClassId) (xv : Int32) (pg : Addr) (pz : Addr) (kpg : ClassId) (kpz : ClassId) (rs : List Value) (h0 : Heap) (n0 : Nat) (Z0 : n0 ≤ h0.size) (F_g : Fld Z h0 a "com/example/verum/verum/Relation" "pages" "[[I" (.ref pg)) (F_b : Fld Z h0 a "com/example/verum/verum/Relation" "pageBits" "I" (.int (16 : Int32))) (F_m : Fld Z h0 a "com/example/verum/verum/Relation" "pageMask" "I" (.int (65535 : Int32))) (F_a : Fld Z h0 a "com/example/verum/verum/Relation" "arity" "I" (.int (1 : Int32))) (E_a : Exa Z h0 a "com/example/verum/verum/Relation") (V_g : Arv Z h0 pg kpg (.array .int) (1 : Int32) [(.ref pz)] .null) (V_z : Arv Z h0 pz kpz .int (8 : Int32) rs (.int (0 : Int32))) (V_b : Arv Z h0 b kb .int (1 : Int32) [(.int xv)] (.int (0 : Int32))) (hi0 : 0 ≤ i.toInt) (hi7 : i.toInt ≤ 7) :
    Con l Z (⟨"com/example/verum/verum/Relation", "rowEquals", "(I[I)Z"⟩ : MethodName) prog_70_method_29_code 6 (some .boolean) ws ({ frames := 1, cells := 0, slots := 0, locals := 13 } : Room) #[(.ref a), (.int i), (.ref b)] h0 (Q_rm_roweq Z a i b kb xv pg pz kpg kpz rs h0 n0) := by
  refine MetFree.of_bodySF (plainFor_of_name pn_Relation) hisR ?_
  intro p e s m args below meth c s₁ Bd hml0 hP hK
  obtain ⟨rfl, hZ, hh⟩ := hP
  have hx := Bd.exec
  have hby := Bd.bytes
  have hml : c.maxLocals = 6 := hml0
  have hown : s.vm.findClass "com/example/verum/verum/Relation" = some m.cls := findClass_of_methodNamed Bd.named
  have hnm := (name_of_methodNamed Bd.named Bd.method).1
  have X0 : Stand p l e ({ frames := 1, cells := 0, slots := 0, locals := 13 } : Room) s m #[(.ref a), (.int i), (.ref b)] below meth c s₁ [] 0 0 := Stand.of_body Bd
  have e0 : s₁.heap = h0 := by rw [← hh, Bd.state]; rfl
  have N0 := Fr.nil n0
  have k0 : Rch p e below (s₁.setTop (entryFrame m #[(.ref a), (.int i), (.ref b)] 6)) s₁ (mkF m 0 #[.val (.ref a), .val (.int i), .val (.ref b), .unset, .unset, .unset] []) := fun tg kg => castTop (ef_rm_roweq m a i b) kg
  have lt_F_g := own_ltN F_g.lt
  have lt_F_b := own_ltN F_b.lt
  have lt_F_m := own_ltN F_m.lt
  have lt_F_a := own_ltN F_a.lt
  have lt_E_a := own_ltN E_a.lt
  have lt_V_g := own_ltN V_g.lt
  have lt_V_z := own_ltN V_z.lt
  have lt_V_b := own_ltN V_b.lt
  have hi1 : i.toInt ≤ 15 := by omega
  obtain ⟨hp1, hp2, hp3, hp4, hp5⟩ := own_p8 hi0 hi7
  have k1 : Rch p e below (s₁.setTop (entryFrame m #[(.ref a), (.int i), (.ref b)] 6)) s₁ (mkF m 1 #[.val (.ref a), .val (.int i), .val (.ref b), .unset, .unset, .unset] [(.ref a)]) := fun tg kg => by
    refine k0 tg ?_
    show Steps p.tables e below (s₁.setTop (mkF m 0 #[.val (.ref a), .val (.int i), .val (.ref b), .unset, .unset, .unset] [])) tg
    refine XS.aloadN X0.here hx rfl (hb hby d32_0) rfl rfl ?_
    exact kg
  obtain ⟨T2, X2, e2, st2⟩ := getF X0 hx hZ hown (host := "") (Or.inl (hw _ (List.mem_of_getElem? (i := 84) rfl))) Via.refl e0 F_g (g := (mkF m 1 #[.val (.ref a), .val (.int i), .val (.ref b), .unset, .unset, .unset] [(.ref a)])) rfl rfl (hb hby d32_1)
  have k3 : Rch p e below (s₁.setTop (entryFrame m #[(.ref a), (.int i), (.ref b)] 6)) T2 (mkF m 4 #[.val (.ref a), .val (.int i), .val (.ref b), .unset, .unset, .unset] [(.ref pg)]) := fun tg kg => k1 tg (st2 tg kg)
  have k4 : Rch p e below (s₁.setTop (entryFrame m #[(.ref a), (.int i), (.ref b)] 6)) T2 (mkF m 6 #[.val (.ref a), .val (.int i), .val (.ref b), .unset, .unset, .unset] [(.ref a), (.int i), (.ref pg)]) := fun tg kg => by
    refine k3 tg ?_
    show Steps p.tables e below (T2.setTop (mkF m 4 #[.val (.ref a), .val (.int i), .val (.ref b), .unset, .unset, .unset] [(.ref pg)])) tg
    refine XS.iloadN X2.here hx rfl (hb hby d32_4) rfl ?_
    refine XS.aloadN X2.here hx rfl (hb hby d32_5) rfl rfl ?_
    exact kg
  obtain ⟨T5, X5, e5, st5⟩ := getF X2 hx hZ hown (host := "") (Or.inl (hw _ (List.mem_of_getElem? (i := 74) rfl))) Via.refl e2 F_b (g := (mkF m 6 #[.val (.ref a), .val (.int i), .val (.ref b), .unset, .unset, .unset] [(.ref a), (.int i), (.ref pg)])) rfl rfl (hb hby d32_6)
  have k6 : Rch p e below (s₁.setTop (entryFrame m #[(.ref a), (.int i), (.ref b)] 6)) T5 (mkF m 9 #[.val (.ref a), .val (.int i), .val (.ref b), .unset, .unset, .unset] [(.int (16 : Int32)), (.int i), (.ref pg)]) := fun tg kg => k4 tg (st5 tg kg)
  have k7 : Rch p e below (s₁.setTop (entryFrame m #[(.ref a), (.int i), (.ref b)] 6)) T5 (mkF m 10 #[.val (.ref a), .val (.int i), .val (.ref b), .unset, .unset, .unset] [(.int ((i.toUInt32 >>> ((16 : Int32) &&& 31).toUInt32).toInt32)), (.ref pg)]) := fun tg kg => by
    refine k6 tg ?_
    show Steps p.tables e below (T5.setTop (mkF m 9 #[.val (.ref a), .val (.int i), .val (.ref b), .unset, .unset, .unset] [(.int (16 : Int32)), (.int i), (.ref pg)])) tg
    refine XS.iushr X5.here hx rfl (hb hby d32_9) rfl ?_
    exact kg
  obtain ⟨cl8, Ar8, q8, S8, M8, H8, G8⟩ := id V_g
  have hina : ¬ (((i.toUInt32 >>> ((16 : Int32) &&& 31).toUInt32).toInt32) < 0 ∨ cl8.slots.size ≤ (((i.toUInt32 >>> ((16 : Int32) &&& 31).toUInt32).toInt32)).toNatClampNeg) := inb_of S8 (by rw [own_sh16 hi0 hi1]; decide)
  have hata := Has.at H8 hina (show _ = Value.ref _ by rw [own_sh16 hi0 hi1]; rfl)
  have k9 : Rch p e below (s₁.setTop (entryFrame m #[(.ref a), (.int i), (.ref b)] 6)) T5 (mkF m 14 #[.val (.ref a), .val (.int i), .val (.ref b), .val (.ref pz), .unset, .unset] [(.int i), (.ref a)]) := fun tg kg => by
    refine k7 tg ?_
    show Steps p.tables e below (T5.setTop (mkF m 10 #[.val (.ref a), .val (.int i), .val (.ref b), .unset, .unset, .unset] [(.int ((i.toUInt32 >>> ((16 : Int32) &&& 31).toUInt32).toInt32)), (.ref pg)])) tg
    refine X5.aaload hx (j := ((i.toUInt32 >>> ((16 : Int32) &&& 31).toUInt32).toInt32)) (v := (.ref pz)) (by rw [e5]; exact Ar8.1) (State.isArrayOf_alike hZ.alike Ar8.2.1) rfl Ar8.2.2 hina hata (g := (mkF m 10 #[.val (.ref a), .val (.int i), .val (.ref b), .unset, .unset, .unset] [(.int ((i.toUInt32 >>> ((16 : Int32) &&& 31).toUInt32).toInt32)), (.ref pg)])) rfl rfl (hb hby d32_10) _ ?_
    show Steps p.tables e below (T5.setTop (mkF m 11 #[.val (.ref a), .val (.int i), .val (.ref b), .unset, .unset, .unset] [(.ref pz)])) tg
    refine XS.astoreN X5.here hx rfl (hb hby d32_11) rfl rfl (l' := #[.val (.ref a), .val (.int i), .val (.ref b), .val (.ref pz), .unset, .unset]) rfl ?_
    refine XS.aloadN X5.here hx rfl (hb hby d32_12) rfl rfl ?_
    refine XS.iloadN X5.here hx rfl (hb hby d32_13) rfl ?_
    exact kg
  obtain ⟨v10, T10, h10, Lc10, X10, e10, hQ10, st10⟩ := own_callP X5 hx hZ hown (hw _ (List.mem_of_getElem? (i := 184) rfl)) (hw _ (List.mem_of_getElem? (i := 185) rfl)) (hw _ (List.mem_of_getElem? (i := 186) rfl)) (hw _ (List.mem_of_getElem? (i := 2) rfl)) (hw _ (List.mem_of_getElem? (i := 3) rfl)) (hw _ (List.mem_of_getElem? (i := 187) rfl)) (by decide) (rm_off l Z a0 hw [] a i h0 n0 (by omega) F_a F_m hi0 hi1) e5 E_a (g := (mkF m 14 #[.val (.ref a), .val (.int i), .val (.ref b), .val (.ref pz), .unset, .unset] [(.int i), (.ref a)])) rfl (by rw [hml]; rfl) (argsL := [(.int i)]) (rest := []) rfl (lenOf pd_3 rfl) rfl (W := 0) (by show 2 * 0 + _ ≤ _; exact Nat.le_of_eq rfl) (hb hby d32_14) (by decide) (by decide) (by decide) (by decide)
  obtain ⟨rfl, Nq10, hs10⟩ := hQ10
  have N10 := Fr.app N0 Nq10
  have e10' : T10.heap = h0 := e10.trans hs10
  have k11 : Rch p e below (s₁.setTop (entryFrame m #[(.ref a), (.int i), (.ref b)] 6)) T10 (mkF m 17 #[.val (.ref a), .val (.int i), .val (.ref b), .val (.ref pz), .unset, .unset] [(.int i)]) := fun tg kg => k9 tg (st10 tg kg)
  have k12 : Rch p e below (s₁.setTop (entryFrame m #[(.ref a), (.int i), (.ref b)] 6)) T10 (mkF m 25 #[.val (.ref a), .val (.int i), .val (.ref b), .val (.ref pz), .val (.int i), .val (.int (0 : Int32))] [(.ref a), (.int (0 : Int32))]) := fun tg kg => by
    refine k11 tg ?_
    show Steps p.tables e below (T10.setTop (mkF m 17 #[.val (.ref a), .val (.int i), .val (.ref b), .val (.ref pz), .unset, .unset] [(.int i)])) tg
    refine XS.istore X10.here hx rfl (hb hby d32_17) rfl (l' := #[.val (.ref a), .val (.int i), .val (.ref b), .val (.ref pz), .val (.int i), .unset]) rfl ?_
    refine XS.iconst X10.here hx rfl (hb hby d32_19) ?_
    refine XS.istore X10.here hx rfl (hb hby d32_20) rfl (l' := #[.val (.ref a), .val (.int i), .val (.ref b), .val (.ref pz), .val (.int i), .val (.int (0 : Int32))]) rfl ?_
    show Steps p.tables e below (T10.setTop (mkF m 22 #[.val (.ref a), .val (.int i), .val (.ref b), .val (.ref pz), .val (.int i), .val (.int (0 : Int32))] [])) tg
    refine XS.iload X10.here hx rfl (hb hby d32_22) rfl ?_
    refine XS.aloadN X10.here hx rfl (hb hby d32_24) rfl rfl ?_
    exact kg
  obtain ⟨T13, X13, e13, st13⟩ := getF X10 hx hZ hown (host := "") (Or.inl (hw _ (List.mem_of_getElem? (i := 64) rfl))) Via.refl e10' F_a (g := (mkF m 25 #[.val (.ref a), .val (.int i), .val (.ref b), .val (.ref pz), .val (.int i), .val (.int (0 : Int32))] [(.ref a), (.int (0 : Int32))])) rfl rfl (hb hby d32_25)
  have k14 : Rch p e below (s₁.setTop (entryFrame m #[(.ref a), (.int i), (.ref b)] 6)) T13 (mkF m 28 #[.val (.ref a), .val (.int i), .val (.ref b), .val (.ref pz), .val (.int i), .val (.int (0 : Int32))] [(.int (1 : Int32)), (.int (0 : Int32))]) := fun tg kg => k12 tg (st13 tg kg)
  have k15 : Rch p e below (s₁.setTop (entryFrame m #[(.ref a), (.int i), (.ref b)] 6)) T13 (mkF m 37 #[.val (.ref a), .val (.int i), .val (.ref b), .val (.ref pz), .val (.int i), .val (.int (0 : Int32))] [(.int (i + (0 : Int32))), (.ref pz)]) := fun tg kg => by
    refine k14 tg ?_
    show Steps p.tables e below (T13.setTop (mkF m 28 #[.val (.ref a), .val (.int i), .val (.ref b), .val (.ref pz), .val (.int i), .val (.int (0 : Int32))] [(.int (1 : Int32)), (.int (0 : Int32))])) tg
    refine XS.icmpNo X13.here hx rfl (hb hby d32_28) rfl (tlt (by decide)).2.1 ?_
    refine XS.aloadN X13.here hx rfl (hb hby d32_31) rfl rfl ?_
    refine XS.iload X13.here hx rfl (hb hby d32_32) rfl ?_
    refine XS.iload X13.here hx rfl (hb hby d32_34) rfl ?_
    show Steps p.tables e below (T13.setTop (mkF m 36 #[.val (.ref a), .val (.int i), .val (.ref b), .val (.ref pz), .val (.int i), .val (.int (0 : Int32))] [(.int (0 : Int32)), (.int i), (.ref pz)])) tg
    refine XS.iadd X13.here hx rfl (hb hby d32_36) rfl ?_
    exact kg
  obtain ⟨cl16, Ar16, q16, S16, M16, H16, G16⟩ := id V_z
  have hinb : ¬ ((i + (0 : Int32)) < 0 ∨ cl16.slots.size ≤ ((i + (0 : Int32))).toNatClampNeg) := inb_of S16 (by rw [hp5]; exact ⟨hp1, hp2⟩)
  obtain ⟨xr, hxr⟩ := own_fitI (G16 _ (Nat.lt_of_not_le fun y => hinb (Or.inr y)))
  have hatb := Has.at H16 hinb hxr
  have k17 : Rch p e below (s₁.setTop (entryFrame m #[(.ref a), (.int i), (.ref b)] 6)) T13 (mkF m 41 #[.val (.ref a), .val (.int i), .val (.ref b), .val (.ref pz), .val (.int i), .val (.int (0 : Int32))] [(.int (0 : Int32)), (.ref b), (.int xr)]) := fun tg kg => by
    refine k15 tg ?_
    show Steps p.tables e below (T13.setTop (mkF m 37 #[.val (.ref a), .val (.int i), .val (.ref b), .val (.ref pz), .val (.int i), .val (.int (0 : Int32))] [(.int (i + (0 : Int32))), (.ref pz)])) tg
    refine X13.iaload hx (j := (i + (0 : Int32))) (v := (.int xr)) (by rw [e13]; exact Ar16.1) (State.isArrayOf_alike hZ.alike Ar16.2.1) Ar16.2.2 hinb hatb (g := (mkF m 37 #[.val (.ref a), .val (.int i), .val (.ref b), .val (.ref pz), .val (.int i), .val (.int (0 : Int32))] [(.int (i + (0 : Int32))), (.ref pz)])) rfl rfl (hb hby d32_37) _ ?_
    refine XS.aloadN X13.here hx rfl (hb hby d32_38) rfl rfl ?_
    refine XS.iload X13.here hx rfl (hb hby d32_39) rfl ?_
    exact kg
  obtain ⟨cl18, Ar18, q18, S18, M18, H18, G18⟩ := id V_b
  have hinc : ¬ ((0 : Int32) < 0 ∨ cl18.slots.size ≤ ((0 : Int32)).toNatClampNeg) := inb_of S18 ⟨by decide, by decide⟩
  have hatc := Has.at H18 hinc (show _ = Value.int xv from rfl)
  have k19 : Rch p e below (s₁.setTop (entryFrame m #[(.ref a), (.int i), (.ref b)] 6)) T13 (mkF m 42 #[.val (.ref a), .val (.int i), .val (.ref b), .val (.ref pz), .val (.int i), .val (.int (0 : Int32))] [(.int xv), (.int xr)]) := fun tg kg => by
    refine k17 tg ?_
    show Steps p.tables e below (T13.setTop (mkF m 41 #[.val (.ref a), .val (.int i), .val (.ref b), .val (.ref pz), .val (.int i), .val (.int (0 : Int32))] [(.int (0 : Int32)), (.ref b), (.int xr)])) tg
    refine X13.iaload hx (j := (0 : Int32)) (v := (.int xv)) (by rw [e13]; exact Ar18.1) (State.isArrayOf_alike hZ.alike Ar18.2.1) Ar18.2.2 hinc hatc (g := (mkF m 41 #[.val (.ref a), .val (.int i), .val (.ref b), .val (.ref pz), .val (.int i), .val (.int (0 : Int32))] [(.int (0 : Int32)), (.ref b), (.int xr)])) rfl rfl (hb hby d32_41) _ ?_
    exact kg
  by_cases hc42_20 : xr = xv
  · have k21 : Rch p e below (s₁.setTop (entryFrame m #[(.ref a), (.int i), (.ref b)] 6)) T13 (mkF m 25 #[.val (.ref a), .val (.int i), .val (.ref b), .val (.ref pz), .val (.int i), .val (.int ((0 : Int32) + (1 : Int32)))] [(.ref a), (.int ((0 : Int32) + (1 : Int32)))]) := fun tg kg => by
      refine k19 tg ?_
      show Steps p.tables e below (T13.setTop (mkF m 42 #[.val (.ref a), .val (.int i), .val (.ref b), .val (.ref pz), .val (.int i), .val (.int (0 : Int32))] [(.int xv), (.int xr)])) tg
      refine XS.icmpYes X13.here hx rfl (pc0 := 42) (pc' := 47) rfl (hb hby d32_42) rfl (teq hc42_20).1 (by decide) (by decide) ?_
      show Steps p.tables e below (T13.setTop (mkF m 47 #[.val (.ref a), .val (.int i), .val (.ref b), .val (.ref pz), .val (.int i), .val (.int (0 : Int32))] [])) tg
      refine XS.iinc X13.here hx rfl (hb hby d32_47) rfl (l' := #[.val (.ref a), .val (.int i), .val (.ref b), .val (.ref pz), .val (.int i), .val (.int ((0 : Int32) + (1 : Int32)))]) rfl ?_
      refine XS.goto X13.here hx rfl (pc0 := 50) (pc' := 22) rfl (hb hby d32_50) (by decide) (by decide) ?_
      refine XS.iload X13.here hx rfl (hb hby d32_22) rfl ?_
      refine XS.aloadN X13.here hx rfl (hb hby d32_24) rfl rfl ?_
      exact kg
    obtain ⟨T22, X22, e22, st22⟩ := getF X13 hx hZ hown (host := "") (Or.inl (hw _ (List.mem_of_getElem? (i := 64) rfl))) Via.refl e13 F_a (g := (mkF m 25 #[.val (.ref a), .val (.int i), .val (.ref b), .val (.ref pz), .val (.int i), .val (.int ((0 : Int32) + (1 : Int32)))] [(.ref a), (.int ((0 : Int32) + (1 : Int32)))])) rfl rfl (hb hby d32_25)
    have k23 : Rch p e below (s₁.setTop (entryFrame m #[(.ref a), (.int i), (.ref b)] 6)) T22 (mkF m 28 #[.val (.ref a), .val (.int i), .val (.ref b), .val (.ref pz), .val (.int i), .val (.int ((0 : Int32) + (1 : Int32)))] [(.int (1 : Int32)), (.int ((0 : Int32) + (1 : Int32)))]) := fun tg kg => k21 tg (st22 tg kg)
    have k24 : Rch p e below (s₁.setTop (entryFrame m #[(.ref a), (.int i), (.ref b)] 6)) T22 (mkF m 54 #[.val (.ref a), .val (.int i), .val (.ref b), .val (.ref pz), .val (.int i), .val (.int ((0 : Int32) + (1 : Int32)))] [(.int (1 : Int32))]) := fun tg kg => by
      refine k23 tg ?_
      show Steps p.tables e below (T22.setTop (mkF m 28 #[.val (.ref a), .val (.int i), .val (.ref b), .val (.ref pz), .val (.int i), .val (.int ((0 : Int32) + (1 : Int32)))] [(.int (1 : Int32)), (.int ((0 : Int32) + (1 : Int32)))])) tg
      refine XS.icmpYes X22.here hx rfl (pc0 := 28) (pc' := 53) rfl (hb hby d32_28) rfl (flt (by decide)).2.1 (by decide) (by decide) ?_
      refine XS.iconst X22.here hx rfl (hb hby d32_53) ?_
      exact kg
    obtain ⟨fs25, hr25, hrun25, hended25, hW25, hsame25⟩ := X22.leave (v := some (.int (nar .boolean (1 : Int32)))) (fun h => by rw [Bd.returns] at h; cases h)
    refine ⟨_, _, k24 _ ?_, hrun25, hended25, _, _, rfl, ?_, ⟨_, rfl⟩, hW25, hsame25.mono (by decide) (by decide)⟩
    · exact retN X22 hx (t := .boolean) Bd.returns (by simp) (hb hby d32_54) hr25
    · show Q_rm_roweq Z a i b kb xv pg pz kpg kpz rs h0 n0 _ T22.heap _
      rw [e22]
      exact ⟨(1 : Int32), rfl, N10, rfl⟩
  · have k26 : Rch p e below (s₁.setTop (entryFrame m #[(.ref a), (.int i), (.ref b)] 6)) T13 (mkF m 46 #[.val (.ref a), .val (.int i), .val (.ref b), .val (.ref pz), .val (.int i), .val (.int (0 : Int32))] [(.int (0 : Int32))]) := fun tg kg => by
      refine k19 tg ?_
      show Steps p.tables e below (T13.setTop (mkF m 42 #[.val (.ref a), .val (.int i), .val (.ref b), .val (.ref pz), .val (.int i), .val (.int (0 : Int32))] [(.int xv), (.int xr)])) tg
      refine XS.icmpNo X13.here hx rfl (hb hby d32_42) rfl (feq hc42_20).1 ?_
      show Steps p.tables e below (T13.setTop (mkF m 45 #[.val (.ref a), .val (.int i), .val (.ref b), .val (.ref pz), .val (.int i), .val (.int (0 : Int32))] [])) tg
      refine XS.iconst X13.here hx rfl (hb hby d32_45) ?_
      exact kg
    obtain ⟨fs27, hr27, hrun27, hended27, hW27, hsame27⟩ := X13.leave (v := some (.int (nar .boolean (0 : Int32)))) (fun h => by rw [Bd.returns] at h; cases h)
    refine ⟨_, _, k26 _ ?_, hrun27, hended27, _, _, rfl, ?_, ⟨_, rfl⟩, hW27, hsame27.mono (by decide) (by decide)⟩
    · exact retN X13 hx (t := .boolean) Bd.returns (by simp) (hb hby d32_46) hr27
    · show Q_rm_roweq Z a i b kb xv pg pz kpg kpz rs h0 n0 _ T13.heap _
      rw [e13]
      exact ⟨(0 : Int32), rfl, N10, rfl⟩
theorem ef_rm_probe (m : MethodId) (x0 : Addr) (x1 : Addr) : entryFrame m #[(.ref x0), (.ref x1)] 4 = mkF m 0 #[.val (.ref x0), .val (.ref x1), .unset, .unset] [] := by first | (simp [entryFrame, mkF, argsToLocals, Value.category]; done) | rfl
def Q_rm_probe (Z : State) (a : Addr) (b : Addr) (kb : ClassId) (xv : Int32) (pg : Addr) (pz : Addr) (kpg : ClassId) (kpz : ClassId) (rs : List Value) (hs : Addr) (hp : Addr) (ht : Addr) (khp : ClassId) (kht : ClassId) (ts : List Int32) (n : Int32) (h0 : Heap) (n0 : Nat) (v : Option Value) (h : Heap) (L : List Loc) : Prop := ∃ (i : Int32), (v = some (.int i)) ∧ (Fr n0 L) ∧ (h = h0) ∧ (0 ≤ i.toInt ∧ i.toInt ≤ 15)
theorem d21_0 : decode prog_70_method_28_code 0 = .ok (.aload_n 0, 1) := by decide +kernel
theorem d21_1 : decode prog_70_method_28_code 1 = .ok (.getfield 10, 3) := by decide +kernel
theorem d21_4 : decode prog_70_method_28_code 4 = .ok (.aload_n 0, 1) := by decide +kernel
theorem d21_5 : decode prog_70_method_28_code 5 = .ok (.aload_n 1, 1) := by decide +kernel
theorem pd_6 : parseMethodDescriptor "([I)I" = some ⟨[(.array .int)], some .int⟩ := by decide +kernel
theorem d21_6 : decode prog_70_method_28_code 6 = .ok (.invokevirtual 227, 3) := by decide +kernel
theorem d21_9 : decode prog_70_method_28_code 9 = .ok (.invokevirtual 230, 3) := by decide +kernel
theorem d21_12 : decode prog_70_method_28_code 12 = .ok (.istore_n 2, 1) := by decide +kernel
theorem d21_13 : decode prog_70_method_28_code 13 = .ok (.aload_n 0, 1) := by decide +kernel
theorem d21_14 : decode prog_70_method_28_code 14 = .ok (.getfield 10, 3) := by decide +kernel
theorem d21_17 : decode prog_70_method_28_code 17 = .ok (.iload_n 2, 1) := by decide +kernel
theorem d21_18 : decode prog_70_method_28_code 18 = .ok (.invokevirtual 112, 3) := by decide +kernel
theorem d21_21 : decode prog_70_method_28_code 21 = .ok (.istore_n 3, 1) := by decide +kernel
theorem d21_22 : decode prog_70_method_28_code 22 = .ok (.iload_n 3, 1) := by decide +kernel
theorem d21_23 : decode prog_70_method_28_code 23 = .ok (.ifCond .lt 33, 3) := by decide +kernel
theorem d21_26 : decode prog_70_method_28_code 26 = .ok (.aload_n 0, 1) := by decide +kernel
theorem d21_27 : decode prog_70_method_28_code 27 = .ok (.iload_n 3, 1) := by decide +kernel
theorem d21_28 : decode prog_70_method_28_code 28 = .ok (.aload_n 1, 1) := by decide +kernel
theorem pd_7 : parseMethodDescriptor "(I[I)Z" = some ⟨[.int, (.array .int)], some .boolean⟩ := by decide +kernel
theorem d21_29 : decode prog_70_method_28_code 29 = .ok (.invokevirtual 233, 3) := by decide +kernel
theorem d21_32 : decode prog_70_method_28_code 32 = .ok (.ifCond .ne 24, 3) := by decide +kernel
theorem d21_35 : decode prog_70_method_28_code 35 = .ok (.aload_n 0, 1) := by decide +kernel
theorem d21_36 : decode prog_70_method_28_code 36 = .ok (.getfield 10, 3) := by decide +kernel
theorem d21_39 : decode prog_70_method_28_code 39 = .ok (.iload_n 2, 1) := by decide +kernel
theorem d21_40 : decode prog_70_method_28_code 40 = .ok (.invokevirtual 237, 3) := by decide +kernel
theorem d21_43 : decode prog_70_method_28_code 43 = .ok (.istore_n 2, 1) := by decide +kernel
theorem d21_44 : decode prog_70_method_28_code 44 = .ok (.aload_n 0, 1) := by decide +kernel
theorem d21_45 : decode prog_70_method_28_code 45 = .ok (.getfield 10, 3) := by decide +kernel
theorem d21_48 : decode prog_70_method_28_code 48 = .ok (.iload_n 2, 1) := by decide +kernel
theorem d21_49 : decode prog_70_method_28_code 49 = .ok (.invokevirtual 112, 3) := by decide +kernel
theorem d21_52 : decode prog_70_method_28_code 52 = .ok (.istore_n 3, 1) := by decide +kernel
theorem d21_53 : decode prog_70_method_28_code 53 = .ok (.goto (-31), 3) := by decide +kernel
theorem d21_56 : decode prog_70_method_28_code 56 = .ok (.iload_n 2, 1) := by decide +kernel
theorem d21_57 : decode prog_70_method_28_code 57 = .ok (.ireturn, 1) := by decide +kernel
set_option maxRecDepth 65536 in
set_option maxHeartbeats 40000000 in
theorem rm_probe (l : Launch) (Z : State) (a0 : Array Value) (hw : ∀ d ∈ tables_1, d.before a0 Z = true) (ws : List Jvm.Cond) (a : Addr) (b : Addr) (kb : ClassId) (xv : Int32) (pg : Addr) (pz : Addr) (kpg : ClassId) (kpz : ClassId) (rs : List Value) (hs : Addr) (hp : Addr) (ht : Addr) (khp : ClassId) (kht : ClassId) (ts : List Int32) (n : Int32) (h0 : Heap) (n0 : Nat) (Z0 : n0 ≤ h0.size) (F_g : Fld Z h0 a "com/example/verum/verum/Relation" "pages" "[[I" (.ref pg)) (F_b : Fld Z h0 a "com/example/verum/verum/Relation" "pageBits" "I" (.int (16 : Int32))) (F_m : Fld Z h0 a "com/example/verum/verum/Relation" "pageMask" "I" (.int (65535 : Int32))) (F_a : Fld Z h0 a "com/example/verum/verum/Relation" "arity" "I" (.int (1 : Int32))) (E_a : Exa Z h0 a "com/example/verum/verum/Relation") (V_g : Arv Z h0 pg kpg (.array .int) (1 : Int32) [(.ref pz)] .null) (V_z : Arv Z h0 pz kpz .int (8 : Int32) rs (.int (0 : Int32))) (F_sl : Fld Z h0 a "com/example/verum/verum/Relation" "slots" "Lcom/example/verum/verum/HashSlots;" (.ref hs)) (E_h : Exa Z h0 hs "com/example/verum/verum/HashSlots") (F_hp : Fld Z h0 hs "com/example/verum/verum/HashSlots" "pages" "[[I" (.ref hp)) (F_hm : Fld Z h0 hs "com/example/verum/verum/HashSlots" "mask" "I" (.int (15 : Int32))) (V_p : Arv Z h0 hp khp (.array .int) (1 : Int32) [(.ref ht)] .null) (V_t : Arv Z h0 ht kht .int (16 : Int32) (ts.map Value.int) (.int (0 : Int32))) (V_b : Arv Z h0 b kb .int (1 : Int32) [(.int xv)] (.int (0 : Int32))) (hn0 : 0 ≤ n.toInt) (hn7 : n.toInt ≤ 7) (htab : own_tab ts n) :
    Con l Z (⟨"com/example/verum/verum/Relation", "probe", "([I)I"⟩ : MethodName) prog_70_method_28_code 4 (some .int) ws ({ frames := 2, cells := 0, slots := 0, locals := 30 } : Room) #[(.ref a), (.ref b)] h0 (Q_rm_probe Z a b kb xv pg pz kpg kpz rs hs hp ht khp kht ts n h0 n0) := by
  refine MetFree.of_bodySF (plainFor_of_name pn_Relation) hisR ?_
  intro p e s m args below meth c s₁ Bd hml0 hP hK
  obtain ⟨rfl, hZ, hh⟩ := hP
  have hx := Bd.exec
  have hby := Bd.bytes
  have hml : c.maxLocals = 4 := hml0
  have hown : s.vm.findClass "com/example/verum/verum/Relation" = some m.cls := findClass_of_methodNamed Bd.named
  have hnm := (name_of_methodNamed Bd.named Bd.method).1
  have X0 : Stand p l e ({ frames := 2, cells := 0, slots := 0, locals := 30 } : Room) s m #[(.ref a), (.ref b)] below meth c s₁ [] 0 0 := Stand.of_body Bd
  have e0 : s₁.heap = h0 := by rw [← hh, Bd.state]; rfl
  have N0 := Fr.nil n0
  have k0 : Rch p e below (s₁.setTop (entryFrame m #[(.ref a), (.ref b)] 4)) s₁ (mkF m 0 #[.val (.ref a), .val (.ref b), .unset, .unset] []) := fun tg kg => castTop (ef_rm_probe m a b) kg
  have lt_F_g := own_ltN F_g.lt
  have lt_F_b := own_ltN F_b.lt
  have lt_F_m := own_ltN F_m.lt
  have lt_F_a := own_ltN F_a.lt
  have lt_E_a := own_ltN E_a.lt
  have lt_V_g := own_ltN V_g.lt
  have lt_V_z := own_ltN V_z.lt
  have lt_F_sl := own_ltN F_sl.lt
  have lt_E_h := own_ltN E_h.lt
  have lt_F_hp := own_ltN F_hp.lt
  have lt_F_hm := own_ltN F_hm.lt
  have lt_V_p := own_ltN V_p.lt
  have lt_V_t := own_ltN V_t.lt
  have lt_V_b := own_ltN V_b.lt
  obtain ⟨jz, hj16, hjz⟩ := own_tab_zero htab hn7
  have k1 : Rch p e below (s₁.setTop (entryFrame m #[(.ref a), (.ref b)] 4)) s₁ (mkF m 1 #[.val (.ref a), .val (.ref b), .unset, .unset] [(.ref a)]) := fun tg kg => by
    refine k0 tg ?_
    show Steps p.tables e below (s₁.setTop (mkF m 0 #[.val (.ref a), .val (.ref b), .unset, .unset] [])) tg
    refine XS.aloadN X0.here hx rfl (hb hby d21_0) rfl rfl ?_
    exact kg
  obtain ⟨T2, X2, e2, st2⟩ := getF X0 hx hZ hown (host := "") (Or.inl (hw _ (List.mem_of_getElem? (i := 36) rfl))) Via.refl e0 F_sl (g := (mkF m 1 #[.val (.ref a), .val (.ref b), .unset, .unset] [(.ref a)])) rfl rfl (hb hby d21_1)
  have k3 : Rch p e below (s₁.setTop (entryFrame m #[(.ref a), (.ref b)] 4)) T2 (mkF m 4 #[.val (.ref a), .val (.ref b), .unset, .unset] [(.ref hs)]) := fun tg kg => k1 tg (st2 tg kg)
  have k4 : Rch p e below (s₁.setTop (entryFrame m #[(.ref a), (.ref b)] 4)) T2 (mkF m 6 #[.val (.ref a), .val (.ref b), .unset, .unset] [(.ref b), (.ref a), (.ref hs)]) := fun tg kg => by
    refine k3 tg ?_
    show Steps p.tables e below (T2.setTop (mkF m 4 #[.val (.ref a), .val (.ref b), .unset, .unset] [(.ref hs)])) tg
    refine XS.aloadN X2.here hx rfl (hb hby d21_4) rfl rfl ?_
    refine XS.aloadN X2.here hx rfl (hb hby d21_5) rfl rfl ?_
    exact kg
  obtain ⟨v5, T5, h5, Lc5, X5, e5, hQ5, st5⟩ := own_callP X2 hx hZ hown (hw _ (List.mem_of_getElem? (i := 140) rfl)) (hw _ (List.mem_of_getElem? (i := 141) rfl)) (hw _ (List.mem_of_getElem? (i := 142) rfl)) (hw _ (List.mem_of_getElem? (i := 2) rfl)) (hw _ (List.mem_of_getElem? (i := 3) rfl)) (hw _ (List.mem_of_getElem? (i := 143) rfl)) (by decide) (rm_hash l Z a0 hw [] a b kb xv h0 n0 (by omega) F_a V_b) e2 E_a (g := (mkF m 6 #[.val (.ref a), .val (.ref b), .unset, .unset] [(.ref b), (.ref a), (.ref hs)])) rfl (by rw [hml]; rfl) (argsL := [(.ref b)]) (rest := [(.ref hs)]) rfl (lenOf pd_6 rfl) rfl (W := 1) (by show 2 * 0 + _ ≤ _; exact Nat.le_of_eq rfl) (hb hby d21_6) (by decide) (by decide) (by decide) (by decide)
  obtain ⟨rh, rfl, Nq5, hs5⟩ := hQ5
  have N5 := Fr.app N0 Nq5
  have e5' : T5.heap = h0 := e5.trans hs5
  have k6 : Rch p e below (s₁.setTop (entryFrame m #[(.ref a), (.ref b)] 4)) T5 (mkF m 9 #[.val (.ref a), .val (.ref b), .unset, .unset] [(.int rh), (.ref hs)]) := fun tg kg => k4 tg (st5 tg kg)
  obtain ⟨v7, T7, h7, Lc7, X7, e7, hQ7, st7⟩ := own_callV X5 hx hZ hown (hw _ (List.mem_of_getElem? (i := 145) rfl)) (hw _ (List.mem_of_getElem? (i := 146) rfl)) (notFace_of_selects (args := #[]) (mvT hZ (hw _ (List.mem_of_getElem? (i := 148) rfl)))) (hw _ (List.mem_of_getElem? (i := 148) rfl)) (hw _ (List.mem_of_getElem? (i := 147) rfl)) (hw _ (List.mem_of_getElem? (i := 149) rfl)) (hw _ (List.mem_of_getElem? (i := 12) rfl)) (by decide) (rm_first l Z a0 hw [] hs rh h0 n0 (by omega) F_hm) e5' E_h (g := (mkF m 9 #[.val (.ref a), .val (.ref b), .unset, .unset] [(.int rh), (.ref hs)])) rfl (by rw [hml]; rfl) (argsL := [(.int rh)]) (rest := []) rfl (lenOf pd_3 rfl) rfl (W := 0) (by show 2 * 0 + _ ≤ _; exact Nat.le_of_eq rfl) (hb hby d21_9) (by decide) (by decide) (by decide) (by decide)
  obtain ⟨ix, rfl, Nq7, hs7, hp7_b⟩ := hQ7
  have N7 := Fr.app N5 Nq7
  have e7' : T7.heap = h0 := e7.trans hs7
  have k8 : Rch p e below (s₁.setTop (entryFrame m #[(.ref a), (.ref b)] 4)) T7 (mkF m 12 #[.val (.ref a), .val (.ref b), .unset, .unset] [(.int ix)]) := fun tg kg => k6 tg (st7 tg kg)
  have k9 : Rch p e below (s₁.setTop (entryFrame m #[(.ref a), (.ref b)] 4)) T7 (mkF m 14 #[.val (.ref a), .val (.ref b), .val (.int ix), .unset] [(.ref a)]) := fun tg kg => by
    refine k8 tg ?_
    show Steps p.tables e below (T7.setTop (mkF m 12 #[.val (.ref a), .val (.ref b), .unset, .unset] [(.int ix)])) tg
    refine XS.istoreN X7.here hx rfl (hb hby d21_12) rfl (l' := #[.val (.ref a), .val (.ref b), .val (.int ix), .unset]) rfl ?_
    refine XS.aloadN X7.here hx rfl (hb hby d21_13) rfl rfl ?_
    exact kg
  obtain ⟨T10, X10, e10, st10⟩ := getF X7 hx hZ hown (host := "") (Or.inl (hw _ (List.mem_of_getElem? (i := 36) rfl))) Via.refl e7' F_sl (g := (mkF m 14 #[.val (.ref a), .val (.ref b), .val (.int ix), .unset] [(.ref a)])) rfl rfl (hb hby d21_14)
  have k11 : Rch p e below (s₁.setTop (entryFrame m #[(.ref a), (.ref b)] 4)) T10 (mkF m 17 #[.val (.ref a), .val (.ref b), .val (.int ix), .unset] [(.ref hs)]) := fun tg kg => k9 tg (st10 tg kg)
  obtain ⟨hx0, hx1⟩ := hp7_b
  obtain ⟨tx, tx1, tx2, tx3, tx4⟩ := own_tab_get htab (own_lt16 hx0 hx1).1
  have k12 : Rch p e below (s₁.setTop (entryFrame m #[(.ref a), (.ref b)] 4)) T10 (mkF m 18 #[.val (.ref a), .val (.ref b), .val (.int ix), .unset] [(.int ix), (.ref hs)]) := fun tg kg => by
    refine k11 tg ?_
    show Steps p.tables e below (T10.setTop (mkF m 17 #[.val (.ref a), .val (.ref b), .val (.int ix), .unset] [(.ref hs)])) tg
    refine XS.iloadN X10.here hx rfl (hb hby d21_17) rfl ?_
    exact kg
  obtain ⟨v13, T13, h13, Lc13, X13, e13, hQ13, st13⟩ := own_callV X10 hx hZ hown (hw _ (List.mem_of_getElem? (i := 155) rfl)) (hw _ (List.mem_of_getElem? (i := 156) rfl)) (notFace_of_selects (args := #[]) (mvT hZ (hw _ (List.mem_of_getElem? (i := 158) rfl)))) (hw _ (List.mem_of_getElem? (i := 158) rfl)) (hw _ (List.mem_of_getElem? (i := 157) rfl)) (hw _ (List.mem_of_getElem? (i := 159) rfl)) (hw _ (List.mem_of_getElem? (i := 12) rfl)) (by decide) (rm_entry l Z a0 hw [] hs ix hp ht khp kht ts tx h0 n0 (by omega) F_hp V_p V_t hx0 hx1 tx2) e10 E_h (g := (mkF m 18 #[.val (.ref a), .val (.ref b), .val (.int ix), .unset] [(.int ix), (.ref hs)])) rfl (by rw [hml]; rfl) (argsL := [(.int ix)]) (rest := []) rfl (lenOf pd_3 rfl) rfl (W := 0) (by show 2 * 0 + _ ≤ _; exact Nat.le_of_eq rfl) (hb hby d21_18) (by decide) (by decide) (by decide) (by decide)
  obtain ⟨rfl, Nq13, hs13⟩ := hQ13
  have N13 := Fr.app N7 Nq13
  have e13' : T13.heap = h0 := e13.trans hs13
  have k14 : Rch p e below (s₁.setTop (entryFrame m #[(.ref a), (.ref b)] 4)) T13 (mkF m 21 #[.val (.ref a), .val (.ref b), .val (.int ix), .unset] [(.int (tx - (1 : Int32)))]) := fun tg kg => k12 tg (st13 tg kg)
  have k15 : Rch p e below (s₁.setTop (entryFrame m #[(.ref a), (.ref b)] 4)) T13 (mkF m 22 #[.val (.ref a), .val (.ref b), .val (.int ix), .val (.int (tx - (1 : Int32)))] []) := fun tg kg => by
    refine k14 tg ?_
    show Steps p.tables e below (T13.setTop (mkF m 21 #[.val (.ref a), .val (.ref b), .val (.int ix), .unset] [(.int (tx - (1 : Int32)))])) tg
    refine XS.istoreN X13.here hx rfl (hb hby d21_21) rfl (l' := #[.val (.ref a), .val (.ref b), .val (.int ix), .val (.int (tx - (1 : Int32)))]) rfl ?_
    exact kg
  have loop : ∀ (d : Nat) (i t : Int32) (Tl : State) (locs : List Loc), 0 ≤ i.toInt → i.toInt ≤ 15 → (i.toNatClampNeg + d) % 16 = jz → ts[i.toNatClampNeg]? = some t → 0 ≤ t.toInt → t.toInt ≤ n.toInt → Stand p l e ({ frames := 2, cells := 0, slots := 0, locals := 30 } : Room) s m #[(.ref a), (.ref b)] below meth c Tl locs 0 0 → Tl.heap = h0 → Fr n0 locs → Rch p e below (s₁.setTop (entryFrame m #[(.ref a), (.ref b)] 4)) Tl (mkF m 22 #[.val (.ref a), .val (.ref b), .val (.int i), .val (.int (t - (1 : Int32)))] []) → ∃ (i' t' : Int32) (Te : State) (locs' : List Loc), Stand p l e ({ frames := 2, cells := 0, slots := 0, locals := 30 } : Room) s m #[(.ref a), (.ref b)] below meth c Te locs' 0 0 ∧ Te.heap = h0 ∧ Fr n0 locs' ∧ (0 ≤ i'.toInt ∧ i'.toInt ≤ 15) ∧ Rch p e below (s₁.setTop (entryFrame m #[(.ref a), (.ref b)] 4)) Te (mkF m 56 #[.val (.ref a), .val (.ref b), .val (.int i'), .val (.int t')] []) := by
    intro d
    induction d with
    | zero =>
      intro i t Tl locs hi0 hi1 hd hti ht0 htn Xl el Nl kl
      have hi16 := (own_lt16 hi0 hi1).1
      have hij : i.toNatClampNeg = jz := by omega
      have tz : t = 0 := Option.some.inj (hti.symm.trans (by rw [hij]; exact hjz))
      have hneg := (own_ent ht0 htn hn7).1.mpr tz
      have k16 : Rch p e below (s₁.setTop (entryFrame m #[(.ref a), (.ref b)] 4)) Tl (mkF m 56 #[.val (.ref a), .val (.ref b), .val (.int i), .val (.int (t - (1 : Int32)))] []) := fun tg kg => by
        refine kl tg ?_
        show Steps p.tables e below (Tl.setTop (mkF m 22 #[.val (.ref a), .val (.ref b), .val (.int i), .val (.int (t - (1 : Int32)))] [])) tg
        refine XS.iloadN Xl.here hx rfl (hb hby d21_22) rfl ?_
        refine XS.ifYes Xl.here hx rfl (pc0 := 23) (pc' := 56) rfl (hb hby d21_23) rfl ((if0 _ _).trans (tlt hneg).1) (by decide) (by decide) ?_
        exact kg
      exact ⟨_, _, _, _, Xl, el, Nl, ⟨hi0, hi1⟩, k16⟩
    | succ d ih =>
      intro i t Tl locs hi0 hi1 hd hti ht0 htn Xl el Nl kl
      have hi16 := (own_lt16 hi0 hi1).1
      obtain ⟨⟨hm0, hm1⟩, hm2⟩ := own_next hi0 hi1
      have k17 : Rch p e below (s₁.setTop (entryFrame m #[(.ref a), (.ref b)] 4)) Tl (mkF m 23 #[.val (.ref a), .val (.ref b), .val (.int i), .val (.int (t - (1 : Int32)))] [(.int (t - (1 : Int32)))]) := fun tg kg => by
        refine kl tg ?_
        show Steps p.tables e below (Tl.setTop (mkF m 22 #[.val (.ref a), .val (.ref b), .val (.int i), .val (.int (t - (1 : Int32)))] [])) tg
        refine XS.iloadN Xl.here hx rfl (hb hby d21_22) rfl ?_
        exact kg
      by_cases hc23_18 : (t - (1 : Int32)) < (0 : Int32)
      · have k19 : Rch p e below (s₁.setTop (entryFrame m #[(.ref a), (.ref b)] 4)) Tl (mkF m 56 #[.val (.ref a), .val (.ref b), .val (.int i), .val (.int (t - (1 : Int32)))] []) := fun tg kg => by
          refine k17 tg ?_
          show Steps p.tables e below (Tl.setTop (mkF m 23 #[.val (.ref a), .val (.ref b), .val (.int i), .val (.int (t - (1 : Int32)))] [(.int (t - (1 : Int32)))])) tg
          refine XS.ifYes Xl.here hx rfl (pc0 := 23) (pc' := 56) rfl (hb hby d21_23) rfl ((if0 _ _).trans (tlt hc23_18).1) (by decide) (by decide) ?_
          exact kg
        exact ⟨_, _, _, _, Xl, el, Nl, ⟨hi0, hi1⟩, k19⟩
      · obtain ⟨he0, he1⟩ := (own_ent ht0 htn hn7).2 hc23_18
        have k20 : Rch p e below (s₁.setTop (entryFrame m #[(.ref a), (.ref b)] 4)) Tl (mkF m 29 #[.val (.ref a), .val (.ref b), .val (.int i), .val (.int (t - (1 : Int32)))] [(.ref b), (.int (t - (1 : Int32))), (.ref a)]) := fun tg kg => by
          refine k17 tg ?_
          show Steps p.tables e below (Tl.setTop (mkF m 23 #[.val (.ref a), .val (.ref b), .val (.int i), .val (.int (t - (1 : Int32)))] [(.int (t - (1 : Int32)))])) tg
          refine XS.ifNo Xl.here hx rfl (hb hby d21_23) rfl ((if0 _ _).trans (flt hc23_18).1) ?_
          refine XS.aloadN Xl.here hx rfl (hb hby d21_26) rfl rfl ?_
          refine XS.iloadN Xl.here hx rfl (hb hby d21_27) rfl ?_
          show Steps p.tables e below (Tl.setTop (mkF m 28 #[.val (.ref a), .val (.ref b), .val (.int i), .val (.int (t - (1 : Int32)))] [(.int (t - (1 : Int32))), (.ref a)])) tg
          refine XS.aloadN Xl.here hx rfl (hb hby d21_28) rfl rfl ?_
          exact kg
        obtain ⟨v21, T21, h21, Lc21, X21, e21, hQ21, st21⟩ := own_callP Xl hx hZ hown (hw _ (List.mem_of_getElem? (i := 202) rfl)) (hw _ (List.mem_of_getElem? (i := 203) rfl)) (hw _ (List.mem_of_getElem? (i := 204) rfl)) (hw _ (List.mem_of_getElem? (i := 2) rfl)) (hw _ (List.mem_of_getElem? (i := 3) rfl)) (hw _ (List.mem_of_getElem? (i := 205) rfl)) (by decide) (rm_roweq l Z a0 hw [] a (t - (1 : Int32)) b kb xv pg pz kpg kpz rs h0 n0 (by omega) F_g F_b F_m F_a E_a V_g V_z V_b he0 (by omega)) el E_a (g := (mkF m 29 #[.val (.ref a), .val (.ref b), .val (.int i), .val (.int (t - (1 : Int32)))] [(.ref b), (.int (t - (1 : Int32))), (.ref a)])) rfl (by rw [hml]; rfl) (argsL := [(.int (t - (1 : Int32))), (.ref b)]) (rest := []) rfl (lenOf pd_7 rfl) rfl (W := 0) (by show 2 * 0 + _ ≤ _; exact Nat.le_of_eq rfl) (hb hby d21_29) (by decide) (by decide) (by decide) (by decide)
        obtain ⟨rv, rfl, Nq21, hs21⟩ := hQ21
        have N21 := Fr.app Nl Nq21
        have e21' : T21.heap = h0 := e21.trans hs21
        have k22 : Rch p e below (s₁.setTop (entryFrame m #[(.ref a), (.ref b)] 4)) T21 (mkF m 32 #[.val (.ref a), .val (.ref b), .val (.int i), .val (.int (t - (1 : Int32)))] [(.int rv)]) := fun tg kg => k20 tg (st21 tg kg)
        by_cases hc32_23 : rv = (0 : Int32)
        · have k24 : Rch p e below (s₁.setTop (entryFrame m #[(.ref a), (.ref b)] 4)) T21 (mkF m 36 #[.val (.ref a), .val (.ref b), .val (.int i), .val (.int (t - (1 : Int32)))] [(.ref a)]) := fun tg kg => by
            refine k22 tg ?_
            show Steps p.tables e below (T21.setTop (mkF m 32 #[.val (.ref a), .val (.ref b), .val (.int i), .val (.int (t - (1 : Int32)))] [(.int rv)])) tg
            refine XS.ifNo X21.here hx rfl (hb hby d21_32) rfl ((if0 _ _).trans (teq hc32_23).2) ?_
            refine XS.aloadN X21.here hx rfl (hb hby d21_35) rfl rfl ?_
            exact kg
          obtain ⟨T25, X25, e25, st25⟩ := getF X21 hx hZ hown (host := "") (Or.inl (hw _ (List.mem_of_getElem? (i := 36) rfl))) Via.refl e21' F_sl (g := (mkF m 36 #[.val (.ref a), .val (.ref b), .val (.int i), .val (.int (t - (1 : Int32)))] [(.ref a)])) rfl rfl (hb hby d21_36)
          have k26 : Rch p e below (s₁.setTop (entryFrame m #[(.ref a), (.ref b)] 4)) T25 (mkF m 39 #[.val (.ref a), .val (.ref b), .val (.int i), .val (.int (t - (1 : Int32)))] [(.ref hs)]) := fun tg kg => k24 tg (st25 tg kg)
          have k27 : Rch p e below (s₁.setTop (entryFrame m #[(.ref a), (.ref b)] 4)) T25 (mkF m 40 #[.val (.ref a), .val (.ref b), .val (.int i), .val (.int (t - (1 : Int32)))] [(.int i), (.ref hs)]) := fun tg kg => by
            refine k26 tg ?_
            show Steps p.tables e below (T25.setTop (mkF m 39 #[.val (.ref a), .val (.ref b), .val (.int i), .val (.int (t - (1 : Int32)))] [(.ref hs)])) tg
            refine XS.iloadN X25.here hx rfl (hb hby d21_39) rfl ?_
            exact kg
          obtain ⟨v28, T28, h28, Lc28, X28, e28, hQ28, st28⟩ := own_callV X25 hx hZ hown (hw _ (List.mem_of_getElem? (i := 211) rfl)) (hw _ (List.mem_of_getElem? (i := 212) rfl)) (notFace_of_selects (args := #[]) (mvT hZ (hw _ (List.mem_of_getElem? (i := 214) rfl)))) (hw _ (List.mem_of_getElem? (i := 214) rfl)) (hw _ (List.mem_of_getElem? (i := 213) rfl)) (hw _ (List.mem_of_getElem? (i := 215) rfl)) (hw _ (List.mem_of_getElem? (i := 12) rfl)) (by decide) (rm_next l Z a0 hw [] hs i h0 n0 (by omega) F_hm) e25 E_h (g := (mkF m 40 #[.val (.ref a), .val (.ref b), .val (.int i), .val (.int (t - (1 : Int32)))] [(.int i), (.ref hs)])) rfl (by rw [hml]; rfl) (argsL := [(.int i)]) (rest := []) rfl (lenOf pd_3 rfl) rfl (W := 0) (by show 2 * 0 + _ ≤ _; exact Nat.le_of_eq rfl) (hb hby d21_40) (by decide) (by decide) (by decide) (by decide)
          obtain ⟨rfl, Nq28, hs28⟩ := hQ28
          have N28 := Fr.app N21 Nq28
          have e28' : T28.heap = h0 := e28.trans hs28
          have k29 : Rch p e below (s₁.setTop (entryFrame m #[(.ref a), (.ref b)] 4)) T28 (mkF m 43 #[.val (.ref a), .val (.ref b), .val (.int i), .val (.int (t - (1 : Int32)))] [(.int ((i + (1 : Int32)) &&& (15 : Int32)))]) := fun tg kg => k27 tg (st28 tg kg)
          have k30 : Rch p e below (s₁.setTop (entryFrame m #[(.ref a), (.ref b)] 4)) T28 (mkF m 45 #[.val (.ref a), .val (.ref b), .val (.int ((i + (1 : Int32)) &&& (15 : Int32))), .val (.int (t - (1 : Int32)))] [(.ref a)]) := fun tg kg => by
            refine k29 tg ?_
            show Steps p.tables e below (T28.setTop (mkF m 43 #[.val (.ref a), .val (.ref b), .val (.int i), .val (.int (t - (1 : Int32)))] [(.int ((i + (1 : Int32)) &&& (15 : Int32)))])) tg
            refine XS.istoreN X28.here hx rfl (hb hby d21_43) rfl (l' := #[.val (.ref a), .val (.ref b), .val (.int ((i + (1 : Int32)) &&& (15 : Int32))), .val (.int (t - (1 : Int32)))]) rfl ?_
            refine XS.aloadN X28.here hx rfl (hb hby d21_44) rfl rfl ?_
            exact kg
          obtain ⟨T31, X31, e31, st31⟩ := getF X28 hx hZ hown (host := "") (Or.inl (hw _ (List.mem_of_getElem? (i := 36) rfl))) Via.refl e28' F_sl (g := (mkF m 45 #[.val (.ref a), .val (.ref b), .val (.int ((i + (1 : Int32)) &&& (15 : Int32))), .val (.int (t - (1 : Int32)))] [(.ref a)])) rfl rfl (hb hby d21_45)
          have k32 : Rch p e below (s₁.setTop (entryFrame m #[(.ref a), (.ref b)] 4)) T31 (mkF m 48 #[.val (.ref a), .val (.ref b), .val (.int ((i + (1 : Int32)) &&& (15 : Int32))), .val (.int (t - (1 : Int32)))] [(.ref hs)]) := fun tg kg => k30 tg (st31 tg kg)
          obtain ⟨ty, ty1, ty2, ty3, ty4⟩ := own_tab_get htab (own_lt16 hm0 hm1).1
          have k33 : Rch p e below (s₁.setTop (entryFrame m #[(.ref a), (.ref b)] 4)) T31 (mkF m 49 #[.val (.ref a), .val (.ref b), .val (.int ((i + (1 : Int32)) &&& (15 : Int32))), .val (.int (t - (1 : Int32)))] [(.int ((i + (1 : Int32)) &&& (15 : Int32))), (.ref hs)]) := fun tg kg => by
            refine k32 tg ?_
            show Steps p.tables e below (T31.setTop (mkF m 48 #[.val (.ref a), .val (.ref b), .val (.int ((i + (1 : Int32)) &&& (15 : Int32))), .val (.int (t - (1 : Int32)))] [(.ref hs)])) tg
            refine XS.iloadN X31.here hx rfl (hb hby d21_48) rfl ?_
            exact kg
          obtain ⟨v34, T34, h34, Lc34, X34, e34, hQ34, st34⟩ := own_callV X31 hx hZ hown (hw _ (List.mem_of_getElem? (i := 155) rfl)) (hw _ (List.mem_of_getElem? (i := 156) rfl)) (notFace_of_selects (args := #[]) (mvT hZ (hw _ (List.mem_of_getElem? (i := 158) rfl)))) (hw _ (List.mem_of_getElem? (i := 158) rfl)) (hw _ (List.mem_of_getElem? (i := 157) rfl)) (hw _ (List.mem_of_getElem? (i := 159) rfl)) (hw _ (List.mem_of_getElem? (i := 12) rfl)) (by decide) (rm_entry l Z a0 hw [] hs ((i + (1 : Int32)) &&& (15 : Int32)) hp ht khp kht ts ty h0 n0 (by omega) F_hp V_p V_t hm0 hm1 ty2) e31 E_h (g := (mkF m 49 #[.val (.ref a), .val (.ref b), .val (.int ((i + (1 : Int32)) &&& (15 : Int32))), .val (.int (t - (1 : Int32)))] [(.int ((i + (1 : Int32)) &&& (15 : Int32))), (.ref hs)])) rfl (by rw [hml]; rfl) (argsL := [(.int ((i + (1 : Int32)) &&& (15 : Int32)))]) (rest := []) rfl (lenOf pd_3 rfl) rfl (W := 0) (by show 2 * 0 + _ ≤ _; exact Nat.le_of_eq rfl) (hb hby d21_49) (by decide) (by decide) (by decide) (by decide)
          obtain ⟨rfl, Nq34, hs34⟩ := hQ34
          have N34 := Fr.app N28 Nq34
          have e34' : T34.heap = h0 := e34.trans hs34
          have k35 : Rch p e below (s₁.setTop (entryFrame m #[(.ref a), (.ref b)] 4)) T34 (mkF m 52 #[.val (.ref a), .val (.ref b), .val (.int ((i + (1 : Int32)) &&& (15 : Int32))), .val (.int (t - (1 : Int32)))] [(.int (ty - (1 : Int32)))]) := fun tg kg => k33 tg (st34 tg kg)
          have k36 : Rch p e below (s₁.setTop (entryFrame m #[(.ref a), (.ref b)] 4)) T34 (mkF m 22 #[.val (.ref a), .val (.ref b), .val (.int ((i + (1 : Int32)) &&& (15 : Int32))), .val (.int (ty - (1 : Int32)))] []) := fun tg kg => by
            refine k35 tg ?_
            show Steps p.tables e below (T34.setTop (mkF m 52 #[.val (.ref a), .val (.ref b), .val (.int ((i + (1 : Int32)) &&& (15 : Int32))), .val (.int (t - (1 : Int32)))] [(.int (ty - (1 : Int32)))])) tg
            refine XS.istoreN X34.here hx rfl (hb hby d21_52) rfl (l' := #[.val (.ref a), .val (.ref b), .val (.int ((i + (1 : Int32)) &&& (15 : Int32))), .val (.int (ty - (1 : Int32)))]) rfl ?_
            refine XS.goto X34.here hx rfl (pc0 := 53) (pc' := 22) rfl (hb hby d21_53) (by decide) (by decide) ?_
            exact kg
          exact ih _ _ _ _ hm0 hm1 (by rw [hm2]; omega) ty1 ty3 ty4 X34 e34' N34 k36
        · have k37 : Rch p e below (s₁.setTop (entryFrame m #[(.ref a), (.ref b)] 4)) T21 (mkF m 56 #[.val (.ref a), .val (.ref b), .val (.int i), .val (.int (t - (1 : Int32)))] []) := fun tg kg => by
            refine k22 tg ?_
            show Steps p.tables e below (T21.setTop (mkF m 32 #[.val (.ref a), .val (.ref b), .val (.int i), .val (.int (t - (1 : Int32)))] [(.int rv)])) tg
            refine XS.ifYes X21.here hx rfl (pc0 := 32) (pc' := 56) rfl (hb hby d21_32) rfl ((if0 _ _).trans (feq hc32_23).2) (by decide) (by decide) ?_
            exact kg
          exact ⟨_, _, _, _, X21, e21', N21, ⟨hi0, hi1⟩, k37⟩
  obtain ⟨i', t', TL, locsL, XL, eL, NL, bL, kL⟩ := loop ((jz + 16 - ix.toNatClampNeg) % 16) ix tx _ _ hx0 hx1 (by have := (own_lt16 hx0 hx1).1; omega) tx1 tx3 tx4 X13 e13' N13 k15
  have k38 : Rch p e below (s₁.setTop (entryFrame m #[(.ref a), (.ref b)] 4)) TL (mkF m 57 #[.val (.ref a), .val (.ref b), .val (.int i'), .val (.int t')] [(.int i')]) := fun tg kg => by
    refine kL tg ?_
    show Steps p.tables e below (TL.setTop (mkF m 56 #[.val (.ref a), .val (.ref b), .val (.int i'), .val (.int t')] [])) tg
    refine XS.iloadN XL.here hx rfl (hb hby d21_56) rfl ?_
    exact kg
  obtain ⟨fs39, hr39, hrun39, hended39, hW39, hsame39⟩ := XL.leave (v := some (.int i')) (fun h => by rw [Bd.returns] at h; cases h)
  refine ⟨_, _, k38 _ ?_, hrun39, hended39, _, _, rfl, ?_, ⟨_, rfl⟩, hW39, hsame39.mono (by decide) (by decide)⟩
  · exact retOut XL hx Bd.returns rfl (Or.inl ⟨rfl, Or.inl rfl, _, rfl⟩) (hb hby d21_57) hr39
  · show Q_rm_probe Z a b kb xv pg pz kpg kpz rs hs hp ht khp kht ts n h0 n0 _ TL.heap _
    rw [eL]
    exact ⟨i', rfl, NL, rfl, bL⟩
theorem pn_Capacity : plainName "com/example/verum/verum/Capacity" = true := by first | (simp [plainName, overriddenIn]; done) | decide +kernel
theorem ef_rm_check (m : MethodId) (x0 : Int64) (x1 : Int64) (x2 : Addr) : entryFrame m #[(.long x0), (.long x1), (.ref x2)] 5 = mkF m 0 #[.val (.long x0), .second, .val (.long x1), .second, .val (.ref x2)] [] := by first | (simp [entryFrame, mkF, argsToLocals, Value.category]; done) | rfl
def Q_rm_check (Z : State) (x : Int64) (z : Int64) (t : Addr) (h0 : Heap) (n0 : Nat) (v : Option Value) (h : Heap) (L : List Loc) : Prop := (v = none) ∧ (Fr n0 L) ∧ (h = h0)
theorem d26_0 : decode prog_5_method_3_code 0 = .ok (.lload_n 0, 1) := by decide +kernel
theorem d26_1 : decode prog_5_method_3_code 1 = .ok (.lload_n 2, 1) := by decide +kernel
theorem d26_2 : decode prog_5_method_3_code 2 = .ok (.lcmp, 1) := by decide +kernel
theorem d26_3 : decode prog_5_method_3_code 3 = .ok (.ifCond .le 14, 3) := by decide +kernel
theorem d26_17 : decode prog_5_method_3_code 17 = .ok (.return_, 1) := by decide +kernel
set_option maxRecDepth 65536 in
set_option maxHeartbeats 40000000 in
theorem rm_check (l : Launch) (Z : State) (a0 : Array Value) (hw : ∀ d ∈ tables_1, d.before a0 Z = true) (ws : List Jvm.Cond) (x : Int64) (z : Int64) (t : Addr) (h0 : Heap) (n0 : Nat) (Z0 : n0 ≤ h0.size) (hq : ¬ (0 : Int32) < lcmpW x z) :
    Con l Z (⟨"com/example/verum/verum/Capacity", "check", "(JJLjava/lang/String;)V"⟩ : MethodName) prog_5_method_3_code 5 none ws ({ frames := 0, cells := 0, slots := 0, locals := 0 } : Room) #[(.long x), (.long z), (.ref t)] h0 (Q_rm_check Z x z t h0 n0) := by
  refine MetFree.of_bodySF (plainFor_of_name pn_Capacity) hisR ?_
  intro p e s m args below meth c s₁ Bd hml0 hP hK
  obtain ⟨rfl, hZ, hh⟩ := hP
  have hx := Bd.exec
  have hby := Bd.bytes
  have hml : c.maxLocals = 5 := hml0
  have hown : s.vm.findClass "com/example/verum/verum/Capacity" = some m.cls := findClass_of_methodNamed Bd.named
  have hnm := (name_of_methodNamed Bd.named Bd.method).1
  have X0 : Stand p l e ({ frames := 0, cells := 0, slots := 0, locals := 0 } : Room) s m #[(.long x), (.long z), (.ref t)] below meth c s₁ [] 0 0 := Stand.of_body Bd
  have e0 : s₁.heap = h0 := by rw [← hh, Bd.state]; rfl
  have N0 := Fr.nil n0
  have k0 : Rch p e below (s₁.setTop (entryFrame m #[(.long x), (.long z), (.ref t)] 5)) s₁ (mkF m 0 #[.val (.long x), .second, .val (.long z), .second, .val (.ref t)] []) := fun tg kg => castTop (ef_rm_check m x z t) kg
  have k1 : Rch p e below (s₁.setTop (entryFrame m #[(.long x), (.long z), (.ref t)] 5)) s₁ (mkF m 17 #[.val (.long x), .second, .val (.long z), .second, .val (.ref t)] []) := fun tg kg => by
    refine k0 tg ?_
    show Steps p.tables e below (s₁.setTop (mkF m 0 #[.val (.long x), .second, .val (.long z), .second, .val (.ref t)] [])) tg
    refine XS.lloadN X0.here hx rfl (hb hby d26_0) rfl ?_
    refine XS.lloadN X0.here hx rfl (hb hby d26_1) rfl ?_
    refine XS.lcmp X0.here hx rfl (hb hby d26_2) rfl ?_
    refine XS.ifYes X0.here hx rfl (pc0 := 3) (pc' := 17) rfl (hb hby d26_3) rfl ((if0 _ _).trans (flt hq).2.2.2) (by decide) (by decide) ?_
    exact kg
  obtain ⟨fs2, hr2, hrun2, hended2, hW2, hsame2⟩ := X0.leave (v := none) (fun _ => rfl)
  refine ⟨_, _, k1 _ ?_, hrun2, hended2, _, _, rfl, ?_, ⟨_, rfl⟩, hW2, hsame2.mono (by decide) (by decide)⟩
  · exact X0.returnOut hx Bd.returns (hb hby d26_17) hr2
  · show Q_rm_check Z x z t h0 n0 _ s₁.heap _
    rw [e0]
    exact ⟨rfl, N0, rfl⟩
theorem ef_rm_unshare (m : MethodId) (x0 : Addr) : entryFrame m #[(.ref x0)] 2 = mkF m 0 #[.val (.ref x0), .unset] [] := by first | (simp [entryFrame, mkF, argsToLocals, Value.category]; done) | rfl
def Q_rm_unshare (Z : State) (a : Addr) (h0 : Heap) (n0 : Nat) (v : Option Value) (h : Heap) (L : List Loc) : Prop := (v = none) ∧ (Fr n0 L) ∧ (h = h0)
theorem d27_0 : decode prog_70_method_35_code 0 = .ok (.aload_n 0, 1) := by decide +kernel
theorem d27_1 : decode prog_70_method_35_code 1 = .ok (.getfield 67, 3) := by decide +kernel
theorem d27_4 : decode prog_70_method_35_code 4 = .ok (.ifCond .eq 68, 3) := by decide +kernel
theorem d27_72 : decode prog_70_method_35_code 72 = .ok (.return_, 1) := by decide +kernel
set_option maxRecDepth 65536 in
set_option maxHeartbeats 40000000 in
theorem rm_unshare (l : Launch) (Z : State) (a0 : Array Value) (hw : ∀ d ∈ tables_1, d.before a0 Z = true) (ws : List Jvm.Cond) (a : Addr) (h0 : Heap) (n0 : Nat) (Z0 : n0 ≤ h0.size) (F_s : Fld Z h0 a "com/example/verum/verum/Relation" "shared" "Z" (.int (0 : Int32))) :
    Con l Z (⟨"com/example/verum/verum/Relation", "unshare", "()V"⟩ : MethodName) prog_70_method_35_code 2 none ws ({ frames := 0, cells := 0, slots := 0, locals := 0 } : Room) #[(.ref a)] h0 (Q_rm_unshare Z a h0 n0) := by
  refine MetFree.of_bodySF (plainFor_of_name pn_Relation) hisR ?_
  intro p e s m args below meth c s₁ Bd hml0 hP hK
  obtain ⟨rfl, hZ, hh⟩ := hP
  have hx := Bd.exec
  have hby := Bd.bytes
  have hml : c.maxLocals = 2 := hml0
  have hown : s.vm.findClass "com/example/verum/verum/Relation" = some m.cls := findClass_of_methodNamed Bd.named
  have hnm := (name_of_methodNamed Bd.named Bd.method).1
  have X0 : Stand p l e ({ frames := 0, cells := 0, slots := 0, locals := 0 } : Room) s m #[(.ref a)] below meth c s₁ [] 0 0 := Stand.of_body Bd
  have e0 : s₁.heap = h0 := by rw [← hh, Bd.state]; rfl
  have N0 := Fr.nil n0
  have k0 : Rch p e below (s₁.setTop (entryFrame m #[(.ref a)] 2)) s₁ (mkF m 0 #[.val (.ref a), .unset] []) := fun tg kg => castTop (ef_rm_unshare m a) kg
  have lt_F_s := own_ltN F_s.lt
  have k1 : Rch p e below (s₁.setTop (entryFrame m #[(.ref a)] 2)) s₁ (mkF m 1 #[.val (.ref a), .unset] [(.ref a)]) := fun tg kg => by
    refine k0 tg ?_
    show Steps p.tables e below (s₁.setTop (mkF m 0 #[.val (.ref a), .unset] [])) tg
    refine XS.aloadN X0.here hx rfl (hb hby d27_0) rfl rfl ?_
    exact kg
  obtain ⟨T2, X2, e2, st2⟩ := getF X0 hx hZ hown (host := "") (Or.inl (hw _ (List.mem_of_getElem? (i := 178) rfl))) Via.refl e0 F_s (g := (mkF m 1 #[.val (.ref a), .unset] [(.ref a)])) rfl rfl (hb hby d27_1)
  have k3 : Rch p e below (s₁.setTop (entryFrame m #[(.ref a)] 2)) T2 (mkF m 4 #[.val (.ref a), .unset] [(.int (0 : Int32))]) := fun tg kg => k1 tg (st2 tg kg)
  have k4 : Rch p e below (s₁.setTop (entryFrame m #[(.ref a)] 2)) T2 (mkF m 72 #[.val (.ref a), .unset] []) := fun tg kg => by
    refine k3 tg ?_
    show Steps p.tables e below (T2.setTop (mkF m 4 #[.val (.ref a), .unset] [(.int (0 : Int32))])) tg
    refine XS.ifYes X2.here hx rfl (pc0 := 4) (pc' := 72) rfl (hb hby d27_4) rfl ((if0 _ _).trans (teq rfl).1) (by decide) (by decide) ?_
    exact kg
  obtain ⟨fs5, hr5, hrun5, hended5, hW5, hsame5⟩ := X2.leave (v := none) (fun _ => rfl)
  refine ⟨_, _, k4 _ ?_, hrun5, hended5, _, _, rfl, ?_, ⟨_, rfl⟩, hW5, hsame5.mono (by decide) (by decide)⟩
  · exact X2.returnOut hx Bd.returns (hb hby d27_72) hr5
  · show Q_rm_unshare Z a h0 n0 _ T2.heap _
    rw [e2]
    exact ⟨rfl, N0, rfl⟩
theorem ef_rm_page (m : MethodId) (x0 : Addr) : entryFrame m #[(.ref x0)] 2 = mkF m 0 #[.val (.ref x0), .unset] [] := by first | (simp [entryFrame, mkF, argsToLocals, Value.category]; done) | rfl
def Q_rm_page (Z : State) (a : Addr) (i : Int32) (pg : Addr) (pz : Addr) (kpg : ClassId) (kpz : ClassId) (rs : List Value) (h0 : Heap) (n0 : Nat) (v : Option Value) (h : Heap) (L : List Loc) : Prop := (v = some (.ref pz)) ∧ (Fr n0 L) ∧ (h = h0)
theorem d28_0 : decode prog_70_method_33_code 0 = .ok (.aload_n 0, 1) := by decide +kernel
theorem d28_1 : decode prog_70_method_33_code 1 = .ok (.getfield 60, 3) := by decide +kernel
theorem d28_4 : decode prog_70_method_33_code 4 = .ok (.aload_n 0, 1) := by decide +kernel
theorem d28_5 : decode prog_70_method_33_code 5 = .ok (.getfield 39, 3) := by decide +kernel
theorem d28_8 : decode prog_70_method_33_code 8 = .ok (.iushr, 1) := by decide +kernel
theorem d28_9 : decode prog_70_method_33_code 9 = .ok (.istore_n 1, 1) := by decide +kernel
theorem d28_10 : decode prog_70_method_33_code 10 = .ok (.iload_n 1, 1) := by decide +kernel
theorem d28_11 : decode prog_70_method_33_code 11 = .ok (.aload_n 0, 1) := by decide +kernel
theorem d28_12 : decode prog_70_method_33_code 12 = .ok (.getfield 53, 3) := by decide +kernel
theorem d28_15 : decode prog_70_method_33_code 15 = .ok (.arraylength, 1) := by decide +kernel
theorem d28_16 : decode prog_70_method_33_code 16 = .ok (.if_icmp .ne 31, 3) := by decide +kernel
theorem d28_47 : decode prog_70_method_33_code 47 = .ok (.aload_n 0, 1) := by decide +kernel
theorem d28_48 : decode prog_70_method_33_code 48 = .ok (.getfield 53, 3) := by decide +kernel
theorem d28_51 : decode prog_70_method_33_code 51 = .ok (.iload_n 1, 1) := by decide +kernel
theorem d28_52 : decode prog_70_method_33_code 52 = .ok (.aaload, 1) := by decide +kernel
theorem d28_53 : decode prog_70_method_33_code 53 = .ok (.ifnonnull 18, 3) := by decide +kernel
theorem d28_71 : decode prog_70_method_33_code 71 = .ok (.aload_n 0, 1) := by decide +kernel
theorem d28_72 : decode prog_70_method_33_code 72 = .ok (.aload_n 0, 1) := by decide +kernel
theorem d28_73 : decode prog_70_method_33_code 73 = .ok (.getfield 60, 3) := by decide +kernel
theorem d28_76 : decode prog_70_method_33_code 76 = .ok (.invokevirtual 79, 3) := by decide +kernel
theorem d28_79 : decode prog_70_method_33_code 79 = .ok (.aload_n 0, 1) := by decide +kernel
theorem d28_80 : decode prog_70_method_33_code 80 = .ok (.getfield 23, 3) := by decide +kernel
theorem d28_83 : decode prog_70_method_33_code 83 = .ok (.iadd, 1) := by decide +kernel
theorem d28_84 : decode prog_70_method_33_code 84 = .ok (.aload_n 0, 1) := by decide +kernel
theorem d28_85 : decode prog_70_method_33_code 85 = .ok (.getfield 53, 3) := by decide +kernel
theorem d28_88 : decode prog_70_method_33_code 88 = .ok (.iload_n 1, 1) := by decide +kernel
theorem d28_89 : decode prog_70_method_33_code 89 = .ok (.aaload, 1) := by decide +kernel
theorem d28_90 : decode prog_70_method_33_code 90 = .ok (.arraylength, 1) := by decide +kernel
theorem d28_91 : decode prog_70_method_33_code 91 = .ok (.if_icmp .le 34, 3) := by decide +kernel
theorem d28_125 : decode prog_70_method_33_code 125 = .ok (.aload_n 0, 1) := by decide +kernel
theorem d28_126 : decode prog_70_method_33_code 126 = .ok (.getfield 53, 3) := by decide +kernel
theorem d28_129 : decode prog_70_method_33_code 129 = .ok (.iload_n 1, 1) := by decide +kernel
theorem d28_130 : decode prog_70_method_33_code 130 = .ok (.aaload, 1) := by decide +kernel
theorem d28_131 : decode prog_70_method_33_code 131 = .ok (.areturn, 1) := by decide +kernel
set_option maxRecDepth 65536 in
set_option maxHeartbeats 40000000 in
theorem rm_page (l : Launch) (Z : State) (a0 : Array Value) (hw : ∀ d ∈ tables_1, d.before a0 Z = true) (ws : List Jvm.Cond) (a : Addr) (i : Int32) (pg : Addr) (pz : Addr) (kpg : ClassId) (kpz : ClassId) (rs : List Value) (h0 : Heap) (n0 : Nat) (Z0 : n0 ≤ h0.size) (F_g : Fld Z h0 a "com/example/verum/verum/Relation" "pages" "[[I" (.ref pg)) (F_b : Fld Z h0 a "com/example/verum/verum/Relation" "pageBits" "I" (.int (16 : Int32))) (F_m : Fld Z h0 a "com/example/verum/verum/Relation" "pageMask" "I" (.int (65535 : Int32))) (F_a : Fld Z h0 a "com/example/verum/verum/Relation" "arity" "I" (.int (1 : Int32))) (E_a : Exa Z h0 a "com/example/verum/verum/Relation") (V_g : Arv Z h0 pg kpg (.array .int) (1 : Int32) [(.ref pz)] .null) (V_z : Arv Z h0 pz kpz .int (8 : Int32) rs (.int (0 : Int32))) (F_n : Fld Z h0 a "com/example/verum/verum/Relation" "size" "I" (.int i)) (hi0 : 0 ≤ i.toInt) (hi7 : i.toInt ≤ 7) :
    Con l Z (⟨"com/example/verum/verum/Relation", "pageOfNextRow", "()[I"⟩ : MethodName) prog_70_method_33_code 2 (some (.array .int)) ws ({ frames := 1, cells := 0, slots := 0, locals := 13 } : Room) #[(.ref a)] h0 (Q_rm_page Z a i pg pz kpg kpz rs h0 n0) := by
  refine MetFree.of_bodySF (plainFor_of_name pn_Relation) hisR ?_
  intro p e s m args below meth c s₁ Bd hml0 hP hK
  obtain ⟨rfl, hZ, hh⟩ := hP
  have hx := Bd.exec
  have hby := Bd.bytes
  have hml : c.maxLocals = 2 := hml0
  have hown : s.vm.findClass "com/example/verum/verum/Relation" = some m.cls := findClass_of_methodNamed Bd.named
  have hnm := (name_of_methodNamed Bd.named Bd.method).1
  have X0 : Stand p l e ({ frames := 1, cells := 0, slots := 0, locals := 13 } : Room) s m #[(.ref a)] below meth c s₁ [] 0 0 := Stand.of_body Bd
  have e0 : s₁.heap = h0 := by rw [← hh, Bd.state]; rfl
  have N0 := Fr.nil n0
  have k0 : Rch p e below (s₁.setTop (entryFrame m #[(.ref a)] 2)) s₁ (mkF m 0 #[.val (.ref a), .unset] []) := fun tg kg => castTop (ef_rm_page m a) kg
  have lt_F_g := own_ltN F_g.lt
  have lt_F_b := own_ltN F_b.lt
  have lt_F_m := own_ltN F_m.lt
  have lt_F_a := own_ltN F_a.lt
  have lt_E_a := own_ltN E_a.lt
  have lt_V_g := own_ltN V_g.lt
  have lt_V_z := own_ltN V_z.lt
  have lt_F_n := own_ltN F_n.lt
  have hi1 : i.toInt ≤ 15 := by omega
  obtain ⟨hp1, hp2, hp3, hp4, hp5⟩ := own_p8 hi0 hi7
  have k1 : Rch p e below (s₁.setTop (entryFrame m #[(.ref a)] 2)) s₁ (mkF m 1 #[.val (.ref a), .unset] [(.ref a)]) := fun tg kg => by
    refine k0 tg ?_
    show Steps p.tables e below (s₁.setTop (mkF m 0 #[.val (.ref a), .unset] [])) tg
    refine XS.aloadN X0.here hx rfl (hb hby d28_0) rfl rfl ?_
    exact kg
  obtain ⟨T2, X2, e2, st2⟩ := getF X0 hx hZ hown (host := "") (Or.inl (hw _ (List.mem_of_getElem? (i := 99) rfl))) Via.refl e0 F_n (g := (mkF m 1 #[.val (.ref a), .unset] [(.ref a)])) rfl rfl (hb hby d28_1)
  have k3 : Rch p e below (s₁.setTop (entryFrame m #[(.ref a)] 2)) T2 (mkF m 4 #[.val (.ref a), .unset] [(.int i)]) := fun tg kg => k1 tg (st2 tg kg)
  have k4 : Rch p e below (s₁.setTop (entryFrame m #[(.ref a)] 2)) T2 (mkF m 5 #[.val (.ref a), .unset] [(.ref a), (.int i)]) := fun tg kg => by
    refine k3 tg ?_
    show Steps p.tables e below (T2.setTop (mkF m 4 #[.val (.ref a), .unset] [(.int i)])) tg
    refine XS.aloadN X2.here hx rfl (hb hby d28_4) rfl rfl ?_
    exact kg
  obtain ⟨T5, X5, e5, st5⟩ := getF X2 hx hZ hown (host := "") (Or.inl (hw _ (List.mem_of_getElem? (i := 74) rfl))) Via.refl e2 F_b (g := (mkF m 5 #[.val (.ref a), .unset] [(.ref a), (.int i)])) rfl rfl (hb hby d28_5)
  have k6 : Rch p e below (s₁.setTop (entryFrame m #[(.ref a)] 2)) T5 (mkF m 8 #[.val (.ref a), .unset] [(.int (16 : Int32)), (.int i)]) := fun tg kg => k4 tg (st5 tg kg)
  have k7 : Rch p e below (s₁.setTop (entryFrame m #[(.ref a)] 2)) T5 (mkF m 10 #[.val (.ref a), .val (.int ((i.toUInt32 >>> ((16 : Int32) &&& 31).toUInt32).toInt32))] []) := fun tg kg => by
    refine k6 tg ?_
    show Steps p.tables e below (T5.setTop (mkF m 8 #[.val (.ref a), .unset] [(.int (16 : Int32)), (.int i)])) tg
    refine XS.iushr X5.here hx rfl (hb hby d28_8) rfl ?_
    refine XS.istoreN X5.here hx rfl (hb hby d28_9) rfl (l' := #[.val (.ref a), .val (.int ((i.toUInt32 >>> ((16 : Int32) &&& 31).toUInt32).toInt32))]) rfl ?_
    exact kg
  obtain ⟨zi, hzi, k8⟩ : ∃ zi : Int32, zi = ((i.toUInt32 >>> ((16 : Int32) &&& 31).toUInt32).toInt32) ∧ Rch p e below (s₁.setTop (entryFrame m #[(.ref a)] 2)) T5 (mkF m 10 #[.val (.ref a), .val (.int zi)] []) := ⟨_, rfl, k7⟩
  have hz0 : zi = (0 : Int32) := by rw [hzi]; exact own_sh16 hi0 hi1
  subst hz0
  have k9 : Rch p e below (s₁.setTop (entryFrame m #[(.ref a)] 2)) T5 (mkF m 12 #[.val (.ref a), .val (.int (0 : Int32))] [(.ref a), (.int (0 : Int32))]) := fun tg kg => by
    refine k8 tg ?_
    show Steps p.tables e below (T5.setTop (mkF m 10 #[.val (.ref a), .val (.int (0 : Int32))] [])) tg
    refine XS.iloadN X5.here hx rfl (hb hby d28_10) rfl ?_
    show Steps p.tables e below (T5.setTop (mkF m 11 #[.val (.ref a), .val (.int (0 : Int32))] [(.int (0 : Int32))])) tg
    refine XS.aloadN X5.here hx rfl (hb hby d28_11) rfl rfl ?_
    exact kg
  obtain ⟨T10, X10, e10, st10⟩ := getF X5 hx hZ hown (host := "") (Or.inl (hw _ (List.mem_of_getElem? (i := 84) rfl))) Via.refl e5 F_g (g := (mkF m 12 #[.val (.ref a), .val (.int (0 : Int32))] [(.ref a), (.int (0 : Int32))])) rfl rfl (hb hby d28_12)
  have k11 : Rch p e below (s₁.setTop (entryFrame m #[(.ref a)] 2)) T10 (mkF m 15 #[.val (.ref a), .val (.int (0 : Int32))] [(.ref pg), (.int (0 : Int32))]) := fun tg kg => k9 tg (st10 tg kg)
  obtain ⟨cl12, Ar12, q12, S12, M12, H12, G12⟩ := id V_g
  have k13 : Rch p e below (s₁.setTop (entryFrame m #[(.ref a)] 2)) T10 (mkF m 48 #[.val (.ref a), .val (.int (0 : Int32))] [(.ref a)]) := fun tg kg => by
    refine k11 tg ?_
    show Steps p.tables e below (T10.setTop (mkF m 15 #[.val (.ref a), .val (.int (0 : Int32))] [(.ref pg), (.int (0 : Int32))])) tg
    refine X10.arraylength hx (by rw [e10]; exact Ar12.1) (State.isArrayOf_alike hZ.alike Ar12.2.1) (g := (mkF m 15 #[.val (.ref a), .val (.int (0 : Int32))] [(.ref pg), (.int (0 : Int32))])) rfl rfl (hb hby d28_15) _ ?_
    rw [len_of S12 M12]
    refine XS.icmpYes X10.here hx rfl (pc0 := 16) (pc' := 47) rfl (hb hby d28_16) rfl (feq (by decide)).2 (by decide) (by decide) ?_
    refine XS.aloadN X10.here hx rfl (hb hby d28_47) rfl rfl ?_
    exact kg
  obtain ⟨T14, X14, e14, st14⟩ := getF X10 hx hZ hown (host := "") (Or.inl (hw _ (List.mem_of_getElem? (i := 84) rfl))) Via.refl e10 F_g (g := (mkF m 48 #[.val (.ref a), .val (.int (0 : Int32))] [(.ref a)])) rfl rfl (hb hby d28_48)
  have k15 : Rch p e below (s₁.setTop (entryFrame m #[(.ref a)] 2)) T14 (mkF m 51 #[.val (.ref a), .val (.int (0 : Int32))] [(.ref pg)]) := fun tg kg => k13 tg (st14 tg kg)
  have k16 : Rch p e below (s₁.setTop (entryFrame m #[(.ref a)] 2)) T14 (mkF m 52 #[.val (.ref a), .val (.int (0 : Int32))] [(.int (0 : Int32)), (.ref pg)]) := fun tg kg => by
    refine k15 tg ?_
    show Steps p.tables e below (T14.setTop (mkF m 51 #[.val (.ref a), .val (.int (0 : Int32))] [(.ref pg)])) tg
    refine XS.iloadN X14.here hx rfl (hb hby d28_51) rfl ?_
    exact kg
  obtain ⟨cl17, Ar17, q17, S17, M17, H17, G17⟩ := id V_g
  have hina : ¬ ((0 : Int32) < 0 ∨ cl17.slots.size ≤ ((0 : Int32)).toNatClampNeg) := inb_of S17 ⟨by decide, by decide⟩
  have hata := Has.at H17 hina (show _ = Value.ref _ from rfl)
  have k18 : Rch p e below (s₁.setTop (entryFrame m #[(.ref a)] 2)) T14 (mkF m 73 #[.val (.ref a), .val (.int (0 : Int32))] [(.ref a), (.ref a)]) := fun tg kg => by
    refine k16 tg ?_
    show Steps p.tables e below (T14.setTop (mkF m 52 #[.val (.ref a), .val (.int (0 : Int32))] [(.int (0 : Int32)), (.ref pg)])) tg
    refine X14.aaload hx (j := (0 : Int32)) (v := (.ref pz)) (by rw [e14]; exact Ar17.1) (State.isArrayOf_alike hZ.alike Ar17.2.1) rfl Ar17.2.2 hina hata (g := (mkF m 52 #[.val (.ref a), .val (.int (0 : Int32))] [(.int (0 : Int32)), (.ref pg)])) rfl rfl (hb hby d28_52) _ ?_
    show Steps p.tables e below (T14.setTop (mkF m 53 #[.val (.ref a), .val (.int (0 : Int32))] [(.ref pz)])) tg
    refine XS.ifnonnullYes X14.here hx rfl (pc0 := 53) (pc' := 71) rfl (hb hby d28_53) rfl (by decide) (by decide) ?_
    refine XS.aloadN X14.here hx rfl (hb hby d28_71) rfl rfl ?_
    refine XS.aloadN X14.here hx rfl (hb hby d28_72) rfl rfl ?_
    exact kg
  obtain ⟨T19, X19, e19, st19⟩ := getF X14 hx hZ hown (host := "") (Or.inl (hw _ (List.mem_of_getElem? (i := 99) rfl))) Via.refl e14 F_n (g := (mkF m 73 #[.val (.ref a), .val (.int (0 : Int32))] [(.ref a), (.ref a)])) rfl rfl (hb hby d28_73)
  have k20 : Rch p e below (s₁.setTop (entryFrame m #[(.ref a)] 2)) T19 (mkF m 76 #[.val (.ref a), .val (.int (0 : Int32))] [(.int i), (.ref a)]) := fun tg kg => k18 tg (st19 tg kg)
  obtain ⟨v21, T21, h21, Lc21, X21, e21, hQ21, st21⟩ := own_callP X19 hx hZ hown (hw _ (List.mem_of_getElem? (i := 184) rfl)) (hw _ (List.mem_of_getElem? (i := 185) rfl)) (hw _ (List.mem_of_getElem? (i := 186) rfl)) (hw _ (List.mem_of_getElem? (i := 2) rfl)) (hw _ (List.mem_of_getElem? (i := 3) rfl)) (hw _ (List.mem_of_getElem? (i := 187) rfl)) (by decide) (rm_off l Z a0 hw [] a i h0 n0 (by omega) F_a F_m hi0 hi1) e19 E_a (g := (mkF m 76 #[.val (.ref a), .val (.int (0 : Int32))] [(.int i), (.ref a)])) rfl (by rw [hml]; rfl) (argsL := [(.int i)]) (rest := []) rfl (lenOf pd_3 rfl) rfl (W := 0) (by show 2 * 0 + _ ≤ _; exact Nat.le_of_eq rfl) (hb hby d28_76) (by decide) (by decide) (by decide) (by decide)
  obtain ⟨rfl, Nq21, hs21⟩ := hQ21
  have N21 := Fr.app N0 Nq21
  have e21' : T21.heap = h0 := e21.trans hs21
  have k22 : Rch p e below (s₁.setTop (entryFrame m #[(.ref a)] 2)) T21 (mkF m 79 #[.val (.ref a), .val (.int (0 : Int32))] [(.int i)]) := fun tg kg => k20 tg (st21 tg kg)
  have k23 : Rch p e below (s₁.setTop (entryFrame m #[(.ref a)] 2)) T21 (mkF m 80 #[.val (.ref a), .val (.int (0 : Int32))] [(.ref a), (.int i)]) := fun tg kg => by
    refine k22 tg ?_
    show Steps p.tables e below (T21.setTop (mkF m 79 #[.val (.ref a), .val (.int (0 : Int32))] [(.int i)])) tg
    refine XS.aloadN X21.here hx rfl (hb hby d28_79) rfl rfl ?_
    exact kg
  obtain ⟨T24, X24, e24, st24⟩ := getF X21 hx hZ hown (host := "") (Or.inl (hw _ (List.mem_of_getElem? (i := 64) rfl))) Via.refl e21' F_a (g := (mkF m 80 #[.val (.ref a), .val (.int (0 : Int32))] [(.ref a), (.int i)])) rfl rfl (hb hby d28_80)
  have k25 : Rch p e below (s₁.setTop (entryFrame m #[(.ref a)] 2)) T24 (mkF m 83 #[.val (.ref a), .val (.int (0 : Int32))] [(.int (1 : Int32)), (.int i)]) := fun tg kg => k23 tg (st24 tg kg)
  have k26 : Rch p e below (s₁.setTop (entryFrame m #[(.ref a)] 2)) T24 (mkF m 85 #[.val (.ref a), .val (.int (0 : Int32))] [(.ref a), (.int (i + (1 : Int32)))]) := fun tg kg => by
    refine k25 tg ?_
    show Steps p.tables e below (T24.setTop (mkF m 83 #[.val (.ref a), .val (.int (0 : Int32))] [(.int (1 : Int32)), (.int i)])) tg
    refine XS.iadd X24.here hx rfl (hb hby d28_83) rfl ?_
    refine XS.aloadN X24.here hx rfl (hb hby d28_84) rfl rfl ?_
    exact kg
  obtain ⟨T27, X27, e27, st27⟩ := getF X24 hx hZ hown (host := "") (Or.inl (hw _ (List.mem_of_getElem? (i := 84) rfl))) Via.refl e24 F_g (g := (mkF m 85 #[.val (.ref a), .val (.int (0 : Int32))] [(.ref a), (.int (i + (1 : Int32)))])) rfl rfl (hb hby d28_85)
  have k28 : Rch p e below (s₁.setTop (entryFrame m #[(.ref a)] 2)) T27 (mkF m 88 #[.val (.ref a), .val (.int (0 : Int32))] [(.ref pg), (.int (i + (1 : Int32)))]) := fun tg kg => k26 tg (st27 tg kg)
  have k29 : Rch p e below (s₁.setTop (entryFrame m #[(.ref a)] 2)) T27 (mkF m 89 #[.val (.ref a), .val (.int (0 : Int32))] [(.int (0 : Int32)), (.ref pg), (.int (i + (1 : Int32)))]) := fun tg kg => by
    refine k28 tg ?_
    show Steps p.tables e below (T27.setTop (mkF m 88 #[.val (.ref a), .val (.int (0 : Int32))] [(.ref pg), (.int (i + (1 : Int32)))])) tg
    refine XS.iloadN X27.here hx rfl (hb hby d28_88) rfl ?_
    exact kg
  obtain ⟨cl30, Ar30, q30, S30, M30, H30, G30⟩ := id V_g
  have hinb : ¬ ((0 : Int32) < 0 ∨ cl30.slots.size ≤ ((0 : Int32)).toNatClampNeg) := inb_of S30 ⟨by decide, by decide⟩
  have hatb := Has.at H30 hinb (show _ = Value.ref _ from rfl)
  have k31 : Rch p e below (s₁.setTop (entryFrame m #[(.ref a)] 2)) T27 (mkF m 90 #[.val (.ref a), .val (.int (0 : Int32))] [(.ref pz), (.int (i + (1 : Int32)))]) := fun tg kg => by
    refine k29 tg ?_
    show Steps p.tables e below (T27.setTop (mkF m 89 #[.val (.ref a), .val (.int (0 : Int32))] [(.int (0 : Int32)), (.ref pg), (.int (i + (1 : Int32)))])) tg
    refine X27.aaload hx (j := (0 : Int32)) (v := (.ref pz)) (by rw [e27]; exact Ar30.1) (State.isArrayOf_alike hZ.alike Ar30.2.1) rfl Ar30.2.2 hinb hatb (g := (mkF m 89 #[.val (.ref a), .val (.int (0 : Int32))] [(.int (0 : Int32)), (.ref pg), (.int (i + (1 : Int32)))])) rfl rfl (hb hby d28_89) _ ?_
    exact kg
  obtain ⟨cl32, Ar32, q32, S32, M32, H32, G32⟩ := id V_z
  have k33 : Rch p e below (s₁.setTop (entryFrame m #[(.ref a)] 2)) T27 (mkF m 126 #[.val (.ref a), .val (.int (0 : Int32))] [(.ref a)]) := fun tg kg => by
    refine k31 tg ?_
    show Steps p.tables e below (T27.setTop (mkF m 90 #[.val (.ref a), .val (.int (0 : Int32))] [(.ref pz), (.int (i + (1 : Int32)))])) tg
    refine X27.arraylength hx (by rw [e27]; exact Ar32.1) (State.isArrayOf_alike hZ.alike Ar32.2.1) (g := (mkF m 90 #[.val (.ref a), .val (.int (0 : Int32))] [(.ref pz), (.int (i + (1 : Int32)))])) rfl rfl (hb hby d28_90) _ ?_
    rw [len_of S32 M32]
    refine XS.icmpYes X27.here hx rfl (pc0 := 91) (pc' := 125) rfl (hb hby d28_91) rfl (flt hp3).2.2.2 (by decide) (by decide) ?_
    refine XS.aloadN X27.here hx rfl (hb hby d28_125) rfl rfl ?_
    exact kg
  obtain ⟨T34, X34, e34, st34⟩ := getF X27 hx hZ hown (host := "") (Or.inl (hw _ (List.mem_of_getElem? (i := 84) rfl))) Via.refl e27 F_g (g := (mkF m 126 #[.val (.ref a), .val (.int (0 : Int32))] [(.ref a)])) rfl rfl (hb hby d28_126)
  have k35 : Rch p e below (s₁.setTop (entryFrame m #[(.ref a)] 2)) T34 (mkF m 129 #[.val (.ref a), .val (.int (0 : Int32))] [(.ref pg)]) := fun tg kg => k33 tg (st34 tg kg)
  have k36 : Rch p e below (s₁.setTop (entryFrame m #[(.ref a)] 2)) T34 (mkF m 130 #[.val (.ref a), .val (.int (0 : Int32))] [(.int (0 : Int32)), (.ref pg)]) := fun tg kg => by
    refine k35 tg ?_
    show Steps p.tables e below (T34.setTop (mkF m 129 #[.val (.ref a), .val (.int (0 : Int32))] [(.ref pg)])) tg
    refine XS.iloadN X34.here hx rfl (hb hby d28_129) rfl ?_
    exact kg
  obtain ⟨cl37, Ar37, q37, S37, M37, H37, G37⟩ := id V_g
  have hinc : ¬ ((0 : Int32) < 0 ∨ cl37.slots.size ≤ ((0 : Int32)).toNatClampNeg) := inb_of S37 ⟨by decide, by decide⟩
  have hatc := Has.at H37 hinc (show _ = Value.ref _ from rfl)
  have k38 : Rch p e below (s₁.setTop (entryFrame m #[(.ref a)] 2)) T34 (mkF m 131 #[.val (.ref a), .val (.int (0 : Int32))] [(.ref pz)]) := fun tg kg => by
    refine k36 tg ?_
    show Steps p.tables e below (T34.setTop (mkF m 130 #[.val (.ref a), .val (.int (0 : Int32))] [(.int (0 : Int32)), (.ref pg)])) tg
    refine X34.aaload hx (j := (0 : Int32)) (v := (.ref pz)) (by rw [e34]; exact Ar37.1) (State.isArrayOf_alike hZ.alike Ar37.2.1) rfl Ar37.2.2 hinc hatc (g := (mkF m 130 #[.val (.ref a), .val (.int (0 : Int32))] [(.int (0 : Int32)), (.ref pg)])) rfl rfl (hb hby d28_130) _ ?_
    exact kg
  obtain ⟨fs39, hr39, hrun39, hended39, hW39, hsame39⟩ := X34.leave (v := some (.ref pz)) (fun h => by rw [Bd.returns] at h; cases h)
  refine ⟨_, _, k38 _ ?_, hrun39, hended39, _, _, rfl, ?_, ⟨_, rfl⟩, hW39, hsame39.mono (by decide) (by decide)⟩
  · exact retOut X34 hx Bd.returns rfl (Or.inr (Or.inr (Or.inr (Or.inr ⟨rfl, rfl, rfl⟩)))) (hb hby d28_131) hr39
  · show Q_rm_page Z a i pg pz kpg kpz rs h0 n0 _ T34.heap _
    rw [e34]
    exact ⟨rfl, N21, rfl⟩
theorem ef_rm_addRow (m : MethodId) (x0 : Addr) (x1 : Addr) : entryFrame m #[(.ref x0), (.ref x1)] 4 = mkF m 0 #[.val (.ref x0), .val (.ref x1), .unset, .unset] [] := by first | (simp [entryFrame, mkF, argsToLocals, Value.category]; done) | rfl
def Q_rm_addRow (Z : State) (a : Addr) (b : Addr) (hs : Addr) (pg : Addr) (pz : Addr) (hp : Addr) (ht : Addr) (kpg : ClassId) (kpz : ClassId) (khp : ClassId) (kht : ClassId) (n : Int32) (ds : Int32) (de : Int32) (rs : List Value) (ts : List Int32) (kb : ClassId) (xv : Int32) (h0 : Heap) (n0 : Nat) (v : Option Value) (h : Heap) (L : List Loc) : Prop := ∃ (vq : Int32) (r : Int32) (rq : List Value) (tq : List Int32), (v = some (.int vq)) ∧ (Fr n0 L) ∧ (Keep h0 h [a, pz, ht]) ∧ (Exa Z h a "com/example/verum/verum/Relation") ∧ (Fld Z h a "com/example/verum/verum/Relation" "slots" "Lcom/example/verum/verum/HashSlots;" (.ref hs)) ∧ (Fld Z h a "com/example/verum/verum/Relation" "arity" "I" (.int (1 : Int32))) ∧ (Fld Z h a "com/example/verum/verum/Relation" "pageBits" "I" (.int (16 : Int32))) ∧ (Fld Z h a "com/example/verum/verum/Relation" "pageMask" "I" (.int (65535 : Int32))) ∧ (Fld Z h a "com/example/verum/verum/Relation" "pages" "[[I" (.ref pg)) ∧ (Fld Z h a "com/example/verum/verum/Relation" "size" "I" (.int (n + r))) ∧ (Fld Z h a "com/example/verum/verum/Relation" "deltaStart" "I" (.int ds)) ∧ (Fld Z h a "com/example/verum/verum/Relation" "deltaEnd" "I" (.int de)) ∧ (Fld Z h a "com/example/verum/verum/Relation" "shared" "Z" (.int (0 : Int32))) ∧ (Arv Z h pz kpz .int (8 : Int32) rq (.int (0 : Int32))) ∧ (Arv Z h ht kht .int (16 : Int32) (tq.map Value.int) (.int (0 : Int32))) ∧ (r = 0 ∨ r = 1) ∧ (own_tab tq (n + r)) ∧ (rq.length = 8)
theorem d17_0 : decode prog_70_method_8_code 0 = .ok (.aload_n 0, 1) := by decide +kernel
theorem d17_1 : decode prog_70_method_8_code 1 = .ok (.getfield 10, 3) := by decide +kernel
theorem d17_4 : decode prog_70_method_8_code 4 = .ok (.aload_n 0, 1) := by decide +kernel
theorem d17_5 : decode prog_70_method_8_code 5 = .ok (.getfield 60, 3) := by decide +kernel
theorem d17_8 : decode prog_70_method_8_code 8 = .ok (.iconst 1, 1) := by decide +kernel
theorem d17_9 : decode prog_70_method_8_code 9 = .ok (.iadd, 1) := by decide +kernel
theorem d17_10 : decode prog_70_method_8_code 10 = .ok (.i2l, 1) := by decide +kernel
theorem pd_8 : parseMethodDescriptor "(J)Z" = some ⟨[.long], some .boolean⟩ := by decide +kernel
theorem d17_11 : decode prog_70_method_8_code 11 = .ok (.invokevirtual 99, 3) := by decide +kernel
theorem d17_14 : decode prog_70_method_8_code 14 = .ok (.ifCond .ne 18, 3) := by decide +kernel
theorem d17_32 : decode prog_70_method_8_code 32 = .ok (.aload_n 0, 1) := by decide +kernel
theorem d17_33 : decode prog_70_method_8_code 33 = .ok (.aload_n 1, 1) := by decide +kernel
theorem d17_34 : decode prog_70_method_8_code 34 = .ok (.invokevirtual 109, 3) := by decide +kernel
theorem d17_37 : decode prog_70_method_8_code 37 = .ok (.istore_n 2, 1) := by decide +kernel
theorem d17_38 : decode prog_70_method_8_code 38 = .ok (.aload_n 0, 1) := by decide +kernel
theorem d17_39 : decode prog_70_method_8_code 39 = .ok (.getfield 10, 3) := by decide +kernel
theorem d17_42 : decode prog_70_method_8_code 42 = .ok (.iload_n 2, 1) := by decide +kernel
theorem d17_43 : decode prog_70_method_8_code 43 = .ok (.invokevirtual 112, 3) := by decide +kernel
theorem d17_46 : decode prog_70_method_8_code 46 = .ok (.istore_n 3, 1) := by decide +kernel
theorem d17_47 : decode prog_70_method_8_code 47 = .ok (.iload_n 3, 1) := by decide +kernel
theorem d17_48 : decode prog_70_method_8_code 48 = .ok (.ifCond .lt 5, 3) := by decide +kernel
theorem d17_53 : decode prog_70_method_8_code 53 = .ok (.aload_n 0, 1) := by decide +kernel
theorem d17_54 : decode prog_70_method_8_code 54 = .ok (.getfield 60, 3) := by decide +kernel
theorem d17_57 : decode prog_70_method_8_code 57 = .ok (.i2l, 1) := by decide +kernel
theorem d17_58 : decode prog_70_method_8_code 58 = .ok (.lconst 1, 1) := by decide +kernel
theorem d17_59 : decode prog_70_method_8_code 59 = .ok (.ladd, 1) := by decide +kernel
theorem d17_60 : decode prog_70_method_8_code 60 = .ok (.ldc2_w 117, 3) := by decide +kernel
theorem d17_63 : decode prog_70_method_8_code 63 = .ok (.ldc 119, 2) := by decide +kernel
theorem pd_9 : parseMethodDescriptor "(JJLjava/lang/String;)V" = some ⟨[.long, .long, (.object "java/lang/String")], none⟩ := by decide +kernel
theorem d17_65 : decode prog_70_method_8_code 65 = .ok (.invokestatic 121, 3) := by decide +kernel
theorem d17_68 : decode prog_70_method_8_code 68 = .ok (.aload_n 0, 1) := by decide +kernel
theorem d17_69 : decode prog_70_method_8_code 69 = .ok (.invokevirtual 125, 3) := by decide +kernel
theorem d17_72 : decode prog_70_method_8_code 72 = .ok (.aload_n 1, 1) := by decide +kernel
theorem d17_73 : decode prog_70_method_8_code 73 = .ok (.iconst 0, 1) := by decide +kernel
theorem d17_74 : decode prog_70_method_8_code 74 = .ok (.aload_n 0, 1) := by decide +kernel
theorem pd_10 : parseMethodDescriptor "()[I" = some ⟨[], some (.array .int)⟩ := by decide +kernel
theorem d17_75 : decode prog_70_method_8_code 75 = .ok (.invokevirtual 75, 3) := by decide +kernel
theorem d17_78 : decode prog_70_method_8_code 78 = .ok (.aload_n 0, 1) := by decide +kernel
theorem d17_79 : decode prog_70_method_8_code 79 = .ok (.aload_n 0, 1) := by decide +kernel
theorem d17_80 : decode prog_70_method_8_code 80 = .ok (.getfield 60, 3) := by decide +kernel
theorem d17_83 : decode prog_70_method_8_code 83 = .ok (.invokevirtual 79, 3) := by decide +kernel
theorem d17_86 : decode prog_70_method_8_code 86 = .ok (.aload_n 0, 1) := by decide +kernel
theorem d17_87 : decode prog_70_method_8_code 87 = .ok (.getfield 23, 3) := by decide +kernel
theorem d17_90 : decode prog_70_method_8_code 90 = .ok (.invokestatic 82, 3) := by decide +kernel
theorem d17_93 : decode prog_70_method_8_code 93 = .ok (.aload_n 0, 1) := by decide +kernel
theorem d17_94 : decode prog_70_method_8_code 94 = .ok (.getfield 10, 3) := by decide +kernel
theorem d17_97 : decode prog_70_method_8_code 97 = .ok (.iload_n 2, 1) := by decide +kernel
theorem d17_98 : decode prog_70_method_8_code 98 = .ok (.aload_n 0, 1) := by decide +kernel
theorem d17_99 : decode prog_70_method_8_code 99 = .ok (.getfield 60, 3) := by decide +kernel
theorem pd_11 : parseMethodDescriptor "(II)V" = some ⟨[.int, .int], none⟩ := by decide +kernel
theorem d17_102 : decode prog_70_method_8_code 102 = .ok (.invokevirtual 128, 3) := by decide +kernel
theorem d17_105 : decode prog_70_method_8_code 105 = .ok (.aload_n 0, 1) := by decide +kernel
theorem d17_106 : decode prog_70_method_8_code 106 = .ok (.dup, 1) := by decide +kernel
theorem d17_107 : decode prog_70_method_8_code 107 = .ok (.getfield 60, 3) := by decide +kernel
theorem d17_110 : decode prog_70_method_8_code 110 = .ok (.dup_x1, 1) := by decide +kernel
theorem d17_111 : decode prog_70_method_8_code 111 = .ok (.iconst 1, 1) := by decide +kernel
theorem d17_112 : decode prog_70_method_8_code 112 = .ok (.iadd, 1) := by decide +kernel
theorem d17_113 : decode prog_70_method_8_code 113 = .ok (.putfield 60, 3) := by decide +kernel
theorem d17_116 : decode prog_70_method_8_code 116 = .ok (.ireturn, 1) := by decide +kernel
theorem d17_51 : decode prog_70_method_8_code 51 = .ok (.iload_n 3, 1) := by decide +kernel
theorem d17_52 : decode prog_70_method_8_code 52 = .ok (.ireturn, 1) := by decide +kernel
set_option maxRecDepth 65536 in
set_option maxHeartbeats 40000000 in
theorem rm_addRow (l : Launch) (Z : State) (a0 : Array Value) (hw : ∀ d ∈ tables_1, d.before a0 Z = true) (ws : List Jvm.Cond) (a : Addr) (b : Addr) (hs : Addr) (pg : Addr) (pz : Addr) (hp : Addr) (ht : Addr) (kpg : ClassId) (kpz : ClassId) (khp : ClassId) (kht : ClassId) (n : Int32) (ds : Int32) (de : Int32) (rs : List Value) (ts : List Int32) (kb : ClassId) (xv : Int32) (h0 : Heap) (n0 : Nat) (Z0 : n0 ≤ h0.size) (Pr_0 : Exa Z h0 a "com/example/verum/verum/Relation") (Pr_1 : Fld Z h0 a "com/example/verum/verum/Relation" "slots" "Lcom/example/verum/verum/HashSlots;" (.ref hs)) (Pr_2 : Fld Z h0 a "com/example/verum/verum/Relation" "arity" "I" (.int (1 : Int32))) (Pr_3 : Fld Z h0 a "com/example/verum/verum/Relation" "pageBits" "I" (.int (16 : Int32))) (Pr_4 : Fld Z h0 a "com/example/verum/verum/Relation" "pageMask" "I" (.int (65535 : Int32))) (Pr_5 : Fld Z h0 a "com/example/verum/verum/Relation" "pages" "[[I" (.ref pg)) (Pr_6 : Fld Z h0 a "com/example/verum/verum/Relation" "size" "I" (.int n)) (Pr_7 : Fld Z h0 a "com/example/verum/verum/Relation" "deltaStart" "I" (.int ds)) (Pr_8 : Fld Z h0 a "com/example/verum/verum/Relation" "deltaEnd" "I" (.int de)) (Pr_9 : Fld Z h0 a "com/example/verum/verum/Relation" "shared" "Z" (.int (0 : Int32))) (Ph_0 : Exa Z h0 hs "com/example/verum/verum/HashSlots") (Ph_1 : Fld Z h0 hs "com/example/verum/verum/HashSlots" "pages" "[[I" (.ref hp)) (Ph_2 : Fld Z h0 hs "com/example/verum/verum/HashSlots" "mask" "I" (.int (15 : Int32))) (Ph_3 : Fld Z h0 hs "com/example/verum/verum/HashSlots" "shared" "Z" (.int (0 : Int32))) (Pv_0 : Arv Z h0 pg kpg (.array .int) (1 : Int32) [(.ref pz)] .null) (Pv_1 : Arv Z h0 pz kpz .int (8 : Int32) rs (.int (0 : Int32))) (Pv_2 : Arv Z h0 hp khp (.array .int) (1 : Int32) [(.ref ht)] .null) (Pv_3 : Arv Z h0 ht kht .int (16 : Int32) (ts.map Value.int) (.int (0 : Int32))) (V_b : Arv Z h0 b kb .int (1 : Int32) [(.int xv)] (.int (0 : Int32))) (oA : a < hs) (oB : hs < hp) (oC : hp < ht) (oD : ht < pg) (oE : pg < pz) (hn0 : 0 ≤ n.toInt) (hn7 : n.toInt ≤ 7) (htab : own_tab ts n) (hrs : rs.length = 8) (g_a : n0 ≤ a) :
    ConW l Z (⟨"com/example/verum/verum/Relation", "addRow", "([I)I"⟩ : MethodName) prog_70_method_8_code 4 (some .int) ws ({ frames := 3, cells := 2, slots := 84, locals := 64 } : Room) #[(.ref a), (.ref b)] h0 (Q_rm_addRow Z a b hs pg pz hp ht kpg kpz khp kht n ds de rs ts kb xv h0 n0) := by
  refine MetFree.of_bodySF (plainFor_of_name pn_Relation) hisR ?_
  intro p e s m args below meth c s₁ Bd hml0 hP hK
  obtain ⟨rfl, hZ, hh⟩ := hP
  have hx := Bd.exec
  have hby := Bd.bytes
  have hml : c.maxLocals = 4 := hml0
  have hown : s.vm.findClass "com/example/verum/verum/Relation" = some m.cls := findClass_of_methodNamed Bd.named
  have hnm := (name_of_methodNamed Bd.named Bd.method).1
  have X0 : Stand p l e ({ frames := 3, cells := 2, slots := 84, locals := 64 } : Room) s m #[(.ref a), (.ref b)] below meth c s₁ [] 0 0 := Stand.of_body Bd
  have e0 : s₁.heap = h0 := by rw [← hh, Bd.state]; rfl
  have N0 := Fr.nil n0
  have X0' : Stand p l e ({ frames := 3, cells := 2, slots := 84, locals := 64 } : Room) (s.setVm s.vm) m #[(.ref a), (.ref b)] below meth c s₁ [] 0 0 := X0
  have hS0 : s.Since s.vm h0.size := State.WarmedH.since (State.WarmedH.refl s) _
  have wS : ∀ d ∈ Bundle.stringAtoms, d.before a0 Z = true := fun d hd => hw d ((by decide +kernel : ∀ d ∈ Bundle.stringAtoms, d ∈ tables_1) d hd)
  have k0 : Rch p e below (s₁.setTop (entryFrame m #[(.ref a), (.ref b)] 4)) s₁ (mkF m 0 #[.val (.ref a), .val (.ref b), .unset, .unset] []) := fun tg kg => castTop (ef_rm_addRow m a b) kg
  have lt_Pr_0 := own_ltN Pr_0.lt
  have lt_Pr_1 := own_ltN Pr_1.lt
  have lt_Pr_2 := own_ltN Pr_2.lt
  have lt_Pr_3 := own_ltN Pr_3.lt
  have lt_Pr_4 := own_ltN Pr_4.lt
  have lt_Pr_5 := own_ltN Pr_5.lt
  have lt_Pr_6 := own_ltN Pr_6.lt
  have lt_Pr_7 := own_ltN Pr_7.lt
  have lt_Pr_8 := own_ltN Pr_8.lt
  have lt_Pr_9 := own_ltN Pr_9.lt
  have lt_Ph_0 := own_ltN Ph_0.lt
  have lt_Ph_1 := own_ltN Ph_1.lt
  have lt_Ph_2 := own_ltN Ph_2.lt
  have lt_Ph_3 := own_ltN Ph_3.lt
  have lt_Pv_0 := own_ltN Pv_0.lt
  have lt_Pv_1 := own_ltN Pv_1.lt
  have lt_Pv_2 := own_ltN Pv_2.lt
  have lt_Pv_3 := own_ltN Pv_3.lt
  have lt_V_b := own_ltN V_b.lt
  have n_oA := own_ltN oA
  have n_oB := own_ltN oB
  have n_oC := own_ltN oC
  have n_oD := own_ltN oD
  have n_oE := own_ltN oE
  have hn15 : n.toInt ≤ 15 := by omega
  obtain ⟨hp1, hp2, hp3, hp4, hp5⟩ := own_p8 hn0 hn7
  have k1 : Rch p e below (s₁.setTop (entryFrame m #[(.ref a), (.ref b)] 4)) s₁ (mkF m 1 #[.val (.ref a), .val (.ref b), .unset, .unset] [(.ref a)]) := fun tg kg => by
    refine k0 tg ?_
    show Steps p.tables e below (s₁.setTop (mkF m 0 #[.val (.ref a), .val (.ref b), .unset, .unset] [])) tg
    refine XS.aloadN X0'.here hx rfl (hb hby d17_0) rfl rfl ?_
    exact kg
  obtain ⟨T2, X2, e2, st2⟩ := getF X0' hx hZ hown (host := "") (Or.inl (hw _ (List.mem_of_getElem? (i := 36) rfl))) Via.refl e0 Pr_1 (g := (mkF m 1 #[.val (.ref a), .val (.ref b), .unset, .unset] [(.ref a)])) rfl rfl (hb hby d17_1)
  have k3 : Rch p e below (s₁.setTop (entryFrame m #[(.ref a), (.ref b)] 4)) T2 (mkF m 4 #[.val (.ref a), .val (.ref b), .unset, .unset] [(.ref hs)]) := fun tg kg => k1 tg (st2 tg kg)
  have k4 : Rch p e below (s₁.setTop (entryFrame m #[(.ref a), (.ref b)] 4)) T2 (mkF m 5 #[.val (.ref a), .val (.ref b), .unset, .unset] [(.ref a), (.ref hs)]) := fun tg kg => by
    refine k3 tg ?_
    show Steps p.tables e below (T2.setTop (mkF m 4 #[.val (.ref a), .val (.ref b), .unset, .unset] [(.ref hs)])) tg
    refine XS.aloadN X2.here hx rfl (hb hby d17_4) rfl rfl ?_
    exact kg
  obtain ⟨T5, X5, e5, st5⟩ := getF X2 hx hZ hown (host := "") (Or.inl (hw _ (List.mem_of_getElem? (i := 99) rfl))) Via.refl e2 Pr_6 (g := (mkF m 5 #[.val (.ref a), .val (.ref b), .unset, .unset] [(.ref a), (.ref hs)])) rfl rfl (hb hby d17_5)
  have k6 : Rch p e below (s₁.setTop (entryFrame m #[(.ref a), (.ref b)] 4)) T5 (mkF m 8 #[.val (.ref a), .val (.ref b), .unset, .unset] [(.int n), (.ref hs)]) := fun tg kg => k4 tg (st5 tg kg)
  have k7 : Rch p e below (s₁.setTop (entryFrame m #[(.ref a), (.ref b)] 4)) T5 (mkF m 11 #[.val (.ref a), .val (.ref b), .unset, .unset] [(.long ((n + (1 : Int32)).toInt64)), (.ref hs)]) := fun tg kg => by
    refine k6 tg ?_
    show Steps p.tables e below (T5.setTop (mkF m 8 #[.val (.ref a), .val (.ref b), .unset, .unset] [(.int n), (.ref hs)])) tg
    refine XS.iconst X5.here hx rfl (hb hby d17_8) ?_
    refine XS.iadd X5.here hx rfl (hb hby d17_9) rfl ?_
    refine XS.i2l X5.here hx rfl (hb hby d17_10) rfl ?_
    exact kg
  obtain ⟨v8, T8, h8, Lc8, X8, e8, hQ8, st8⟩ := own_callV X5 hx hZ hown (hw _ (List.mem_of_getElem? (i := 121) rfl)) (hw _ (List.mem_of_getElem? (i := 122) rfl)) (notFace_of_selects (args := #[]) (mvT hZ (hw _ (List.mem_of_getElem? (i := 124) rfl)))) (hw _ (List.mem_of_getElem? (i := 124) rfl)) (hw _ (List.mem_of_getElem? (i := 123) rfl)) (hw _ (List.mem_of_getElem? (i := 125) rfl)) (hw _ (List.mem_of_getElem? (i := 12) rfl)) (by decide) (rm_room l Z a0 hw [] hs ((n + (1 : Int32)).toInt64) h0 n0 (by omega) Ph_0 Ph_2 (own_room hn0 hn7)) e5 Ph_0 (g := (mkF m 11 #[.val (.ref a), .val (.ref b), .unset, .unset] [(.long ((n + (1 : Int32)).toInt64)), (.ref hs)])) rfl (by rw [hml]; rfl) (argsL := [(.long ((n + (1 : Int32)).toInt64))]) (rest := []) rfl (lenOf pd_8 rfl) rfl (W := 0) (by show 2 * 0 + _ ≤ _; exact Nat.le_of_eq rfl) (hb hby d17_11) (by decide) (by decide) (by decide) (by decide)
  obtain ⟨rfl, Nq8, hs8⟩ := hQ8
  have N8 := Fr.app N0 Nq8
  have e8' : T8.heap = h0 := e8.trans hs8
  have k9 : Rch p e below (s₁.setTop (entryFrame m #[(.ref a), (.ref b)] 4)) T8 (mkF m 14 #[.val (.ref a), .val (.ref b), .unset, .unset] [(.int (1 : Int32))]) := fun tg kg => k7 tg (st8 tg kg)
  have k10 : Rch p e below (s₁.setTop (entryFrame m #[(.ref a), (.ref b)] 4)) T8 (mkF m 34 #[.val (.ref a), .val (.ref b), .unset, .unset] [(.ref b), (.ref a)]) := fun tg kg => by
    refine k9 tg ?_
    show Steps p.tables e below (T8.setTop (mkF m 14 #[.val (.ref a), .val (.ref b), .unset, .unset] [(.int (1 : Int32))])) tg
    refine XS.ifYes X8.here hx rfl (pc0 := 14) (pc' := 32) rfl (hb hby d17_14) rfl ((if0 _ _).trans (feq (by decide)).2) (by decide) (by decide) ?_
    refine XS.aloadN X8.here hx rfl (hb hby d17_32) rfl rfl ?_
    refine XS.aloadN X8.here hx rfl (hb hby d17_33) rfl rfl ?_
    exact kg
  obtain ⟨v11, T11, h11, Lc11, X11, e11, hQ11, st11⟩ := own_callP X8 hx hZ hown (hw _ (List.mem_of_getElem? (i := 136) rfl)) (hw _ (List.mem_of_getElem? (i := 137) rfl)) (hw _ (List.mem_of_getElem? (i := 138) rfl)) (hw _ (List.mem_of_getElem? (i := 2) rfl)) (hw _ (List.mem_of_getElem? (i := 3) rfl)) (hw _ (List.mem_of_getElem? (i := 139) rfl)) (by decide) (rm_probe l Z a0 hw [] a b kb xv pg pz kpg kpz rs hs hp ht khp kht ts n h0 n0 (by omega) Pr_5 Pr_3 Pr_4 Pr_2 Pr_0 Pv_0 Pv_1 Pr_1 Ph_0 Ph_1 Ph_2 Pv_2 Pv_3 V_b hn0 hn7 htab) e8' Pr_0 (g := (mkF m 34 #[.val (.ref a), .val (.ref b), .unset, .unset] [(.ref b), (.ref a)])) rfl (by rw [hml]; rfl) (argsL := [(.ref b)]) (rest := []) rfl (lenOf pd_6 rfl) rfl (W := 0) (by show 2 * 0 + _ ≤ _; exact Nat.le_of_eq rfl) (hb hby d17_34) (by decide) (by decide) (by decide) (by decide)
  obtain ⟨ix, rfl, Nq11, hs11, hp11_b⟩ := hQ11
  have N11 := Fr.app N8 Nq11
  have e11' : T11.heap = h0 := e11.trans hs11
  have k12 : Rch p e below (s₁.setTop (entryFrame m #[(.ref a), (.ref b)] 4)) T11 (mkF m 37 #[.val (.ref a), .val (.ref b), .unset, .unset] [(.int ix)]) := fun tg kg => k10 tg (st11 tg kg)
  have k13 : Rch p e below (s₁.setTop (entryFrame m #[(.ref a), (.ref b)] 4)) T11 (mkF m 39 #[.val (.ref a), .val (.ref b), .val (.int ix), .unset] [(.ref a)]) := fun tg kg => by
    refine k12 tg ?_
    show Steps p.tables e below (T11.setTop (mkF m 37 #[.val (.ref a), .val (.ref b), .unset, .unset] [(.int ix)])) tg
    refine XS.istoreN X11.here hx rfl (hb hby d17_37) rfl (l' := #[.val (.ref a), .val (.ref b), .val (.int ix), .unset]) rfl ?_
    refine XS.aloadN X11.here hx rfl (hb hby d17_38) rfl rfl ?_
    exact kg
  obtain ⟨T14, X14, e14, st14⟩ := getF X11 hx hZ hown (host := "") (Or.inl (hw _ (List.mem_of_getElem? (i := 36) rfl))) Via.refl e11' Pr_1 (g := (mkF m 39 #[.val (.ref a), .val (.ref b), .val (.int ix), .unset] [(.ref a)])) rfl rfl (hb hby d17_39)
  have k15 : Rch p e below (s₁.setTop (entryFrame m #[(.ref a), (.ref b)] 4)) T14 (mkF m 42 #[.val (.ref a), .val (.ref b), .val (.int ix), .unset] [(.ref hs)]) := fun tg kg => k13 tg (st14 tg kg)
  obtain ⟨hx0, hx1⟩ := hp11_b
  obtain ⟨tx, tx1, tx2, tx3, tx4⟩ := own_tab_get htab (own_lt16 hx0 hx1).1
  have k16 : Rch p e below (s₁.setTop (entryFrame m #[(.ref a), (.ref b)] 4)) T14 (mkF m 43 #[.val (.ref a), .val (.ref b), .val (.int ix), .unset] [(.int ix), (.ref hs)]) := fun tg kg => by
    refine k15 tg ?_
    show Steps p.tables e below (T14.setTop (mkF m 42 #[.val (.ref a), .val (.ref b), .val (.int ix), .unset] [(.ref hs)])) tg
    refine XS.iloadN X14.here hx rfl (hb hby d17_42) rfl ?_
    exact kg
  obtain ⟨v17, T17, h17, Lc17, X17, e17, hQ17, st17⟩ := own_callV X14 hx hZ hown (hw _ (List.mem_of_getElem? (i := 155) rfl)) (hw _ (List.mem_of_getElem? (i := 156) rfl)) (notFace_of_selects (args := #[]) (mvT hZ (hw _ (List.mem_of_getElem? (i := 158) rfl)))) (hw _ (List.mem_of_getElem? (i := 158) rfl)) (hw _ (List.mem_of_getElem? (i := 157) rfl)) (hw _ (List.mem_of_getElem? (i := 159) rfl)) (hw _ (List.mem_of_getElem? (i := 12) rfl)) (by decide) (rm_entry l Z a0 hw [] hs ix hp ht khp kht ts tx h0 n0 (by omega) Ph_1 Pv_2 Pv_3 hx0 hx1 tx2) e14 Ph_0 (g := (mkF m 43 #[.val (.ref a), .val (.ref b), .val (.int ix), .unset] [(.int ix), (.ref hs)])) rfl (by rw [hml]; rfl) (argsL := [(.int ix)]) (rest := []) rfl (lenOf pd_3 rfl) rfl (W := 0) (by show 2 * 0 + _ ≤ _; exact Nat.le_of_eq rfl) (hb hby d17_43) (by decide) (by decide) (by decide) (by decide)
  obtain ⟨rfl, Nq17, hs17⟩ := hQ17
  have N17 := Fr.app N11 Nq17
  have e17' : T17.heap = h0 := e17.trans hs17
  have k18 : Rch p e below (s₁.setTop (entryFrame m #[(.ref a), (.ref b)] 4)) T17 (mkF m 46 #[.val (.ref a), .val (.ref b), .val (.int ix), .unset] [(.int (tx - (1 : Int32)))]) := fun tg kg => k16 tg (st17 tg kg)
  have k19 : Rch p e below (s₁.setTop (entryFrame m #[(.ref a), (.ref b)] 4)) T17 (mkF m 48 #[.val (.ref a), .val (.ref b), .val (.int ix), .val (.int (tx - (1 : Int32)))] [(.int (tx - (1 : Int32)))]) := fun tg kg => by
    refine k18 tg ?_
    show Steps p.tables e below (T17.setTop (mkF m 46 #[.val (.ref a), .val (.ref b), .val (.int ix), .unset] [(.int (tx - (1 : Int32)))])) tg
    refine XS.istoreN X17.here hx rfl (hb hby d17_46) rfl (l' := #[.val (.ref a), .val (.ref b), .val (.int ix), .val (.int (tx - (1 : Int32)))]) rfl ?_
    refine XS.iloadN X17.here hx rfl (hb hby d17_47) rfl ?_
    exact kg
  by_cases hc48_20 : (tx - (1 : Int32)) < (0 : Int32)
  · have k21 : Rch p e below (s₁.setTop (entryFrame m #[(.ref a), (.ref b)] 4)) T17 (mkF m 54 #[.val (.ref a), .val (.ref b), .val (.int ix), .val (.int (tx - (1 : Int32)))] [(.ref a)]) := fun tg kg => by
      refine k19 tg ?_
      show Steps p.tables e below (T17.setTop (mkF m 48 #[.val (.ref a), .val (.ref b), .val (.int ix), .val (.int (tx - (1 : Int32)))] [(.int (tx - (1 : Int32)))])) tg
      refine XS.ifYes X17.here hx rfl (pc0 := 48) (pc' := 53) rfl (hb hby d17_48) rfl ((if0 _ _).trans (tlt hc48_20).1) (by decide) (by decide) ?_
      refine XS.aloadN X17.here hx rfl (hb hby d17_53) rfl rfl ?_
      exact kg
    obtain ⟨T22, X22, e22, st22⟩ := getF X17 hx hZ hown (host := "") (Or.inl (hw _ (List.mem_of_getElem? (i := 99) rfl))) Via.refl e17' Pr_6 (g := (mkF m 54 #[.val (.ref a), .val (.ref b), .val (.int ix), .val (.int (tx - (1 : Int32)))] [(.ref a)])) rfl rfl (hb hby d17_54)
    have k23 : Rch p e below (s₁.setTop (entryFrame m #[(.ref a), (.ref b)] 4)) T22 (mkF m 57 #[.val (.ref a), .val (.ref b), .val (.int ix), .val (.int (tx - (1 : Int32)))] [(.int n)]) := fun tg kg => k21 tg (st22 tg kg)
    have k24 : Rch p e below (s₁.setTop (entryFrame m #[(.ref a), (.ref b)] 4)) T22 (mkF m 63 #[.val (.ref a), .val (.ref b), .val (.int ix), .val (.int (tx - (1 : Int32)))] [(.long (2147483639 : Int64)), (.long ((n.toInt64) + (1 : Int64)))]) := fun tg kg => by
      refine k23 tg ?_
      show Steps p.tables e below (T22.setTop (mkF m 57 #[.val (.ref a), .val (.ref b), .val (.int ix), .val (.int (tx - (1 : Int32)))] [(.int n)])) tg
      refine XS.i2l X22.here hx rfl (hb hby d17_57) rfl ?_
      refine XS.lconst X22.here hx rfl (hb hby d17_58) ?_
      show Steps p.tables e below (T22.setTop (mkF m 59 #[.val (.ref a), .val (.ref b), .val (.int ix), .val (.int (tx - (1 : Int32)))] [(.long (1 : Int64)), (.long (n.toInt64))])) tg
      refine XS.ladd X22.here hx rfl (hb hby d17_59) rfl ?_
      refine X22.ldc2Long hx hown (mvT hZ (hw _ (List.mem_of_getElem? (i := 161) rfl))) (g := (mkF m 60 #[.val (.ref a), .val (.ref b), .val (.int ix), .val (.int (tx - (1 : Int32)))] [(.long ((n.toInt64) + (1 : Int64)))])) rfl (hb hby d17_60) _ ?_
      exact kg
    obtain ⟨lit25, T25, h25, k1_25, X25, e25, E25, hS25, hk25, hZ25, hown25, st25⟩ := ldcS (s := s) X22 hx hZ hown (hw _ (List.mem_of_getElem? (i := 162) rfl)) wS e22 hS0 (by first | exact Nat.le_refl _ | omega) (g := (mkF m 63 #[.val (.ref a), .val (.ref b), .val (.int ix), .val (.int (tx - (1 : Int32)))] [(.long (2147483639 : Int64)), (.long ((n.toInt64) + (1 : Int64)))])) rfl (hb hby d17_63) (n := 80) (by decide) (by decide) (by decide) (by decide)
    have s25 : h0.size ≤ h25.size := E25.1
    have k26 : Rch p e below (s₁.setTop (entryFrame m #[(.ref a), (.ref b)] 4)) T25 (mkF m 65 #[.val (.ref a), .val (.ref b), .val (.int ix), .val (.int (tx - (1 : Int32)))] [(.ref lit25), (.long (2147483639 : Int64)), (.long ((n.toInt64) + (1 : Int64)))]) := fun tg kg => k24 tg (st25 tg kg)
    obtain ⟨v27, T27, h27, Lc27, X27, e27, hQ27, st27⟩ := own_callS X25 hx hZ25 hown25 (hw _ (List.mem_of_getElem? (i := 170) rfl)) (hw _ (List.mem_of_getElem? (i := 171) rfl)) (hw _ (List.mem_of_getElem? (i := 172) rfl)) (hw _ (List.mem_of_getElem? (i := 173) rfl)) (by decide) (rm_check l Z a0 hw [] ((n.toInt64) + (1 : Int64)) (2147483639 : Int64) lit25 h25 n0 (by omega) (own_cap hn0 hn15)) e25 (g := (mkF m 65 #[.val (.ref a), .val (.ref b), .val (.int ix), .val (.int (tx - (1 : Int32)))] [(.ref lit25), (.long (2147483639 : Int64)), (.long ((n.toInt64) + (1 : Int64)))])) rfl (by rw [hml]; rfl) (argsL := [(.long ((n.toInt64) + (1 : Int64))), (.long (2147483639 : Int64)), (.ref lit25)]) (rest := []) rfl (lenOf pd_9 rfl) rfl (W := 0) (by show 2 * 0 + _ ≤ _; exact Nat.le_of_eq rfl) (hb hby d17_65) (by decide) (by decide) (by decide) (by decide)
    obtain ⟨rfl, Nq27, hs27⟩ := hQ27
    have N27 := Fr.app N17 Nq27
    have e27' : T27.heap = h25 := e27.trans hs27
    have k28 : Rch p e below (s₁.setTop (entryFrame m #[(.ref a), (.ref b)] 4)) T27 (mkF m 68 #[.val (.ref a), .val (.ref b), .val (.int ix), .val (.int (tx - (1 : Int32)))] []) := fun tg kg => k26 tg (st27 tg kg)
    have k29 : Rch p e below (s₁.setTop (entryFrame m #[(.ref a), (.ref b)] 4)) T27 (mkF m 69 #[.val (.ref a), .val (.ref b), .val (.int ix), .val (.int (tx - (1 : Int32)))] [(.ref a)]) := fun tg kg => by
      refine k28 tg ?_
      show Steps p.tables e below (T27.setTop (mkF m 68 #[.val (.ref a), .val (.ref b), .val (.int ix), .val (.int (tx - (1 : Int32)))] [])) tg
      refine XS.aloadN X27.here hx rfl (hb hby d17_68) rfl rfl ?_
      exact kg
    have f31 : Fld Z h25 a "com/example/verum/verum/Relation" "shared" "Z" (.int (0 : Int32)) := (Pr_9.ext E25)
    have f32 : Exa Z h25 a "com/example/verum/verum/Relation" := (Pr_0.ext E25)
    obtain ⟨v30, T30, h30, Lc30, X30, e30, hQ30, st30⟩ := own_callP X27 hx hZ25 hown25 (hw _ (List.mem_of_getElem? (i := 174) rfl)) (hw _ (List.mem_of_getElem? (i := 175) rfl)) (hw _ (List.mem_of_getElem? (i := 176) rfl)) (hw _ (List.mem_of_getElem? (i := 2) rfl)) (hw _ (List.mem_of_getElem? (i := 3) rfl)) (hw _ (List.mem_of_getElem? (i := 177) rfl)) (by decide) (rm_unshare l Z a0 hw [] a h25 n0 (by omega) f31) e27' f32 (g := (mkF m 69 #[.val (.ref a), .val (.ref b), .val (.int ix), .val (.int (tx - (1 : Int32)))] [(.ref a)])) rfl (by rw [hml]; rfl) (argsL := []) (rest := []) rfl (lenOf pd_0 rfl) rfl (W := 0) (by show 2 * 0 + _ ≤ _; exact Nat.le_of_eq rfl) (hb hby d17_69) (by decide) (by decide) (by decide) (by decide)
    obtain ⟨rfl, Nq30, hs30⟩ := hQ30
    have N30 := Fr.app N27 Nq30
    have e30' : T30.heap = h25 := e30.trans hs30
    have k33 : Rch p e below (s₁.setTop (entryFrame m #[(.ref a), (.ref b)] 4)) T30 (mkF m 72 #[.val (.ref a), .val (.ref b), .val (.int ix), .val (.int (tx - (1 : Int32)))] []) := fun tg kg => k29 tg (st30 tg kg)
    have k34 : Rch p e below (s₁.setTop (entryFrame m #[(.ref a), (.ref b)] 4)) T30 (mkF m 75 #[.val (.ref a), .val (.ref b), .val (.int ix), .val (.int (tx - (1 : Int32)))] [(.ref a), (.int (0 : Int32)), (.ref b)]) := fun tg kg => by
      refine k33 tg ?_
      show Steps p.tables e below (T30.setTop (mkF m 72 #[.val (.ref a), .val (.ref b), .val (.int ix), .val (.int (tx - (1 : Int32)))] [])) tg
      refine XS.aloadN X30.here hx rfl (hb hby d17_72) rfl rfl ?_
      refine XS.iconst X30.here hx rfl (hb hby d17_73) ?_
      refine XS.aloadN X30.here hx rfl (hb hby d17_74) rfl rfl ?_
      exact kg
    have f36 : Fld Z h25 a "com/example/verum/verum/Relation" "pages" "[[I" (.ref pg) := (Pr_5.ext E25)
    have f37 : Fld Z h25 a "com/example/verum/verum/Relation" "pageBits" "I" (.int (16 : Int32)) := (Pr_3.ext E25)
    have f38 : Fld Z h25 a "com/example/verum/verum/Relation" "pageMask" "I" (.int (65535 : Int32)) := (Pr_4.ext E25)
    have f39 : Fld Z h25 a "com/example/verum/verum/Relation" "arity" "I" (.int (1 : Int32)) := (Pr_2.ext E25)
    have f40 : Arv Z h25 pg kpg (.array .int) (1 : Int32) [(.ref pz)] .null := (Pv_0.ext E25)
    have f41 : Arv Z h25 pz kpz .int (8 : Int32) rs (.int (0 : Int32)) := (Pv_1.ext E25)
    have f42 : Fld Z h25 a "com/example/verum/verum/Relation" "size" "I" (.int n) := (Pr_6.ext E25)
    obtain ⟨v35, T35, h35, Lc35, X35, e35, hQ35, st35⟩ := own_callP X30 hx hZ25 hown25 (hw _ (List.mem_of_getElem? (i := 180) rfl)) (hw _ (List.mem_of_getElem? (i := 181) rfl)) (hw _ (List.mem_of_getElem? (i := 182) rfl)) (hw _ (List.mem_of_getElem? (i := 2) rfl)) (hw _ (List.mem_of_getElem? (i := 3) rfl)) (hw _ (List.mem_of_getElem? (i := 183) rfl)) (by decide) (rm_page l Z a0 hw [] a n pg pz kpg kpz rs h25 n0 (by omega) f36 f37 f38 f39 f32 f40 f41 f42 hn0 hn7) e30' f32 (g := (mkF m 75 #[.val (.ref a), .val (.ref b), .val (.int ix), .val (.int (tx - (1 : Int32)))] [(.ref a), (.int (0 : Int32)), (.ref b)])) rfl (by rw [hml]; rfl) (argsL := []) (rest := [(.int (0 : Int32)), (.ref b)]) rfl (lenOf pd_10 rfl) rfl (W := 2) (by show 2 * 0 + _ ≤ _; exact Nat.le_of_eq rfl) (hb hby d17_75) (by decide) (by decide) (by decide) (by decide)
    obtain ⟨rfl, Nq35, hs35⟩ := hQ35
    have N35 := Fr.app N30 Nq35
    have e35' : T35.heap = h25 := e35.trans hs35
    have k43 : Rch p e below (s₁.setTop (entryFrame m #[(.ref a), (.ref b)] 4)) T35 (mkF m 78 #[.val (.ref a), .val (.ref b), .val (.int ix), .val (.int (tx - (1 : Int32)))] [(.ref pz), (.int (0 : Int32)), (.ref b)]) := fun tg kg => k34 tg (st35 tg kg)
    have k44 : Rch p e below (s₁.setTop (entryFrame m #[(.ref a), (.ref b)] 4)) T35 (mkF m 80 #[.val (.ref a), .val (.ref b), .val (.int ix), .val (.int (tx - (1 : Int32)))] [(.ref a), (.ref a), (.ref pz), (.int (0 : Int32)), (.ref b)]) := fun tg kg => by
      refine k43 tg ?_
      show Steps p.tables e below (T35.setTop (mkF m 78 #[.val (.ref a), .val (.ref b), .val (.int ix), .val (.int (tx - (1 : Int32)))] [(.ref pz), (.int (0 : Int32)), (.ref b)])) tg
      refine XS.aloadN X35.here hx rfl (hb hby d17_78) rfl rfl ?_
      refine XS.aloadN X35.here hx rfl (hb hby d17_79) rfl rfl ?_
      exact kg
    obtain ⟨T45, X45, e45, st45⟩ := getF X35 hx hZ25 hown25 (host := "") (Or.inl (hw _ (List.mem_of_getElem? (i := 99) rfl))) Via.refl e35' f42 (g := (mkF m 80 #[.val (.ref a), .val (.ref b), .val (.int ix), .val (.int (tx - (1 : Int32)))] [(.ref a), (.ref a), (.ref pz), (.int (0 : Int32)), (.ref b)])) rfl rfl (hb hby d17_80)
    have k46 : Rch p e below (s₁.setTop (entryFrame m #[(.ref a), (.ref b)] 4)) T45 (mkF m 83 #[.val (.ref a), .val (.ref b), .val (.int ix), .val (.int (tx - (1 : Int32)))] [(.int n), (.ref a), (.ref pz), (.int (0 : Int32)), (.ref b)]) := fun tg kg => k44 tg (st45 tg kg)
    obtain ⟨v47, T47, h47, Lc47, X47, e47, hQ47, st47⟩ := own_callP X45 hx hZ25 hown25 (hw _ (List.mem_of_getElem? (i := 184) rfl)) (hw _ (List.mem_of_getElem? (i := 185) rfl)) (hw _ (List.mem_of_getElem? (i := 186) rfl)) (hw _ (List.mem_of_getElem? (i := 2) rfl)) (hw _ (List.mem_of_getElem? (i := 3) rfl)) (hw _ (List.mem_of_getElem? (i := 187) rfl)) (by decide) (rm_off l Z a0 hw [] a n h25 n0 (by omega) f39 f38 hn0 hn15) e45 f32 (g := (mkF m 83 #[.val (.ref a), .val (.ref b), .val (.int ix), .val (.int (tx - (1 : Int32)))] [(.int n), (.ref a), (.ref pz), (.int (0 : Int32)), (.ref b)])) rfl (by rw [hml]; rfl) (argsL := [(.int n)]) (rest := [(.ref pz), (.int (0 : Int32)), (.ref b)]) rfl (lenOf pd_3 rfl) rfl (W := 3) (by show 2 * 0 + _ ≤ _; exact Nat.le_of_eq rfl) (hb hby d17_83) (by decide) (by decide) (by decide) (by decide)
    obtain ⟨rfl, Nq47, hs47⟩ := hQ47
    have N47 := Fr.app N35 Nq47
    have e47' : T47.heap = h25 := e47.trans hs47
    have k48 : Rch p e below (s₁.setTop (entryFrame m #[(.ref a), (.ref b)] 4)) T47 (mkF m 86 #[.val (.ref a), .val (.ref b), .val (.int ix), .val (.int (tx - (1 : Int32)))] [(.int n), (.ref pz), (.int (0 : Int32)), (.ref b)]) := fun tg kg => k46 tg (st47 tg kg)
    have k49 : Rch p e below (s₁.setTop (entryFrame m #[(.ref a), (.ref b)] 4)) T47 (mkF m 87 #[.val (.ref a), .val (.ref b), .val (.int ix), .val (.int (tx - (1 : Int32)))] [(.ref a), (.int n), (.ref pz), (.int (0 : Int32)), (.ref b)]) := fun tg kg => by
      refine k48 tg ?_
      show Steps p.tables e below (T47.setTop (mkF m 86 #[.val (.ref a), .val (.ref b), .val (.int ix), .val (.int (tx - (1 : Int32)))] [(.int n), (.ref pz), (.int (0 : Int32)), (.ref b)])) tg
      refine XS.aloadN X47.here hx rfl (hb hby d17_86) rfl rfl ?_
      exact kg
    obtain ⟨T50, X50, e50, st50⟩ := getF X47 hx hZ25 hown25 (host := "") (Or.inl (hw _ (List.mem_of_getElem? (i := 64) rfl))) Via.refl e47' f39 (g := (mkF m 87 #[.val (.ref a), .val (.ref b), .val (.int ix), .val (.int (tx - (1 : Int32)))] [(.ref a), (.int n), (.ref pz), (.int (0 : Int32)), (.ref b)])) rfl rfl (hb hby d17_87)
    have k51 : Rch p e below (s₁.setTop (entryFrame m #[(.ref a), (.ref b)] 4)) T50 (mkF m 90 #[.val (.ref a), .val (.ref b), .val (.int ix), .val (.int (tx - (1 : Int32)))] [(.int (1 : Int32)), (.int n), (.ref pz), (.int (0 : Int32)), (.ref b)]) := fun tg kg => k49 tg (st50 tg kg)
    have f53 : Arv Z h25 b kb .int (1 : Int32) [(.int xv)] (.int (0 : Int32)) := (V_b.ext E25)
    obtain ⟨T52, h52, Lc52, X52, e52, N52, K52, V52, st52⟩ := cpA X50 hx hZ25 hown25 (hw _ (List.mem_of_getElem? (i := 188) rfl)) (hw _ (List.mem_of_getElem? (i := 191) rfl)) (hw _ (List.mem_of_getElem? (i := 189) rfl)) (hw _ (List.mem_of_getElem? (i := 190) rfl)) e50 f53 f41 (sp := (0 : Int32)) (dp := n) (nn := (1 : Int32)) (us := [(.int xv)]) (Or.inl ⟨rfl, rfl⟩) (by decide) hp1 (by decide) (by decide) hp4 rfl (by rw [hrs]; exact hp4) N47 (by omega : n0 ≤ pz) (g := (mkF m 90 #[.val (.ref a), .val (.ref b), .val (.int ix), .val (.int (tx - (1 : Int32)))] [(.int (1 : Int32)), (.int n), (.ref pz), (.int (0 : Int32)), (.ref b)])) rfl (by rw [hml]; rfl) rfl (hb hby d17_90) (by decide) (W := 0) (by show 2 * 0 + _ ≤ _; exact Nat.le_of_eq rfl) (by decide)
    have s52 : h25.size ≤ h52.size := K52.1
    have k54 : Rch p e below (s₁.setTop (entryFrame m #[(.ref a), (.ref b)] 4)) T52 (mkF m 93 #[.val (.ref a), .val (.ref b), .val (.int ix), .val (.int (tx - (1 : Int32)))] []) := fun tg kg => k51 tg (st52 tg kg)
    have lt_V52 := own_ltN V52.lt
    have k55 : Rch p e below (s₁.setTop (entryFrame m #[(.ref a), (.ref b)] 4)) T52 (mkF m 94 #[.val (.ref a), .val (.ref b), .val (.int ix), .val (.int (tx - (1 : Int32)))] [(.ref a)]) := fun tg kg => by
      refine k54 tg ?_
      show Steps p.tables e below (T52.setTop (mkF m 93 #[.val (.ref a), .val (.ref b), .val (.int ix), .val (.int (tx - (1 : Int32)))] [])) tg
      refine XS.aloadN X52.here hx rfl (hb hby d17_93) rfl rfl ?_
      exact kg
    have f56 : Fld Z h52 a "com/example/verum/verum/Relation" "slots" "Lcom/example/verum/verum/HashSlots;" (.ref hs) := ((Pr_1.ext E25).keep K52 (ninS (by first | exact own_ne (by omega) | assumption | (apply Ne.symm; assumption)) nin0))
    obtain ⟨T57, X57, e57, st57⟩ := getF X52 hx hZ25 hown25 (host := "") (Or.inl (hw _ (List.mem_of_getElem? (i := 36) rfl))) Via.refl e52 f56 (g := (mkF m 94 #[.val (.ref a), .val (.ref b), .val (.int ix), .val (.int (tx - (1 : Int32)))] [(.ref a)])) rfl rfl (hb hby d17_94)
    have k58 : Rch p e below (s₁.setTop (entryFrame m #[(.ref a), (.ref b)] 4)) T57 (mkF m 97 #[.val (.ref a), .val (.ref b), .val (.int ix), .val (.int (tx - (1 : Int32)))] [(.ref hs)]) := fun tg kg => k55 tg (st57 tg kg)
    have k59 : Rch p e below (s₁.setTop (entryFrame m #[(.ref a), (.ref b)] 4)) T57 (mkF m 99 #[.val (.ref a), .val (.ref b), .val (.int ix), .val (.int (tx - (1 : Int32)))] [(.ref a), (.int ix), (.ref hs)]) := fun tg kg => by
      refine k58 tg ?_
      show Steps p.tables e below (T57.setTop (mkF m 97 #[.val (.ref a), .val (.ref b), .val (.int ix), .val (.int (tx - (1 : Int32)))] [(.ref hs)])) tg
      refine XS.iloadN X57.here hx rfl (hb hby d17_97) rfl ?_
      refine XS.aloadN X57.here hx rfl (hb hby d17_98) rfl rfl ?_
      exact kg
    have f60 : Fld Z h52 a "com/example/verum/verum/Relation" "size" "I" (.int n) := (f42.keep K52 (ninS (by first | exact own_ne (by omega) | assumption | (apply Ne.symm; assumption)) nin0))
    obtain ⟨T61, X61, e61, st61⟩ := getF X57 hx hZ25 hown25 (host := "") (Or.inl (hw _ (List.mem_of_getElem? (i := 99) rfl))) Via.refl e57 f60 (g := (mkF m 99 #[.val (.ref a), .val (.ref b), .val (.int ix), .val (.int (tx - (1 : Int32)))] [(.ref a), (.int ix), (.ref hs)])) rfl rfl (hb hby d17_99)
    have k62 : Rch p e below (s₁.setTop (entryFrame m #[(.ref a), (.ref b)] 4)) T61 (mkF m 102 #[.val (.ref a), .val (.ref b), .val (.int ix), .val (.int (tx - (1 : Int32)))] [(.int n), (.int ix), (.ref hs)]) := fun tg kg => k59 tg (st61 tg kg)
    have f64 : Fld Z h52 hs "com/example/verum/verum/HashSlots" "pages" "[[I" (.ref hp) := ((Ph_1.ext E25).keep K52 (ninS (by first | exact own_ne (by omega) | assumption | (apply Ne.symm; assumption)) nin0))
    have f65 : Fld Z h52 hs "com/example/verum/verum/HashSlots" "shared" "Z" (.int (0 : Int32)) := ((Ph_3.ext E25).keep K52 (ninS (by first | exact own_ne (by omega) | assumption | (apply Ne.symm; assumption)) nin0))
    have f66 : Arv Z h52 hp khp (.array .int) (1 : Int32) [(.ref ht)] .null := ((Pv_2.ext E25).keep K52 (ninS (by first | exact own_ne (by omega) | assumption | (apply Ne.symm; assumption)) nin0))
    have f67 : Arv Z h52 ht kht .int (16 : Int32) (ts.map Value.int) (.int (0 : Int32)) := ((Pv_3.ext E25).keep K52 (ninS (by first | exact own_ne (by omega) | assumption | (apply Ne.symm; assumption)) nin0))
    have f68 : Exa Z h52 hs "com/example/verum/verum/HashSlots" := ((Ph_0.ext E25).keep K52)
    obtain ⟨v63, T63, h63, Lc63, X63, e63, hQ63, st63⟩ := own_callV X61 hx hZ25 hown25 (hw _ (List.mem_of_getElem? (i := 192) rfl)) (hw _ (List.mem_of_getElem? (i := 193) rfl)) (notFace_of_selects (args := #[]) (mvT hZ25 (hw _ (List.mem_of_getElem? (i := 195) rfl)))) (hw _ (List.mem_of_getElem? (i := 195) rfl)) (hw _ (List.mem_of_getElem? (i := 194) rfl)) (hw _ (List.mem_of_getElem? (i := 196) rfl)) (hw _ (List.mem_of_getElem? (i := 12) rfl)) (by decide) (rm_put l Z a0 hw [] hs ix n hp ht khp kht ts h52 n0 (by omega) f64 f65 f66 f67 hx0 hx1 htab.1 (by omega)) e61 f68 (g := (mkF m 102 #[.val (.ref a), .val (.ref b), .val (.int ix), .val (.int (tx - (1 : Int32)))] [(.int n), (.int ix), (.ref hs)])) rfl (by rw [hml]; rfl) (argsL := [(.int ix), (.int n)]) (rest := []) rfl (lenOf pd_11 rfl) rfl (W := 0) (by show 2 * 0 + _ ≤ _; exact Nat.le_of_eq rfl) (hb hby d17_102) (by decide) (by decide) (by decide) (by decide)
    obtain ⟨rfl, Nq63, K63, fq63_3⟩ := hQ63
    have N63 := Fr.app N52 Nq63
    have s63 : h52.size ≤ h63.size := K63.1
    have k69 : Rch p e below (s₁.setTop (entryFrame m #[(.ref a), (.ref b)] 4)) T63 (mkF m 105 #[.val (.ref a), .val (.ref b), .val (.int ix), .val (.int (tx - (1 : Int32)))] []) := fun tg kg => k62 tg (st63 tg kg)
    have lt_fq63_3 := own_ltN fq63_3.lt
    have k70 : Rch p e below (s₁.setTop (entryFrame m #[(.ref a), (.ref b)] 4)) T63 (mkF m 107 #[.val (.ref a), .val (.ref b), .val (.int ix), .val (.int (tx - (1 : Int32)))] [(.ref a), (.ref a)]) := fun tg kg => by
      refine k69 tg ?_
      show Steps p.tables e below (T63.setTop (mkF m 105 #[.val (.ref a), .val (.ref b), .val (.int ix), .val (.int (tx - (1 : Int32)))] [])) tg
      refine XS.aloadN X63.here hx rfl (hb hby d17_105) rfl rfl ?_
      refine XS.dup X63.here hx rfl (hb hby d17_106) rfl rfl ?_
      exact kg
    have f71 : Fld Z h63 a "com/example/verum/verum/Relation" "size" "I" (.int n) := (f60.keep K63 (ninS (by first | exact own_ne (by omega) | assumption | (apply Ne.symm; assumption)) nin0))
    obtain ⟨T72, X72, e72, st72⟩ := getF X63 hx hZ25 hown25 (host := "") (Or.inl (hw _ (List.mem_of_getElem? (i := 99) rfl))) Via.refl e63 f71 (g := (mkF m 107 #[.val (.ref a), .val (.ref b), .val (.int ix), .val (.int (tx - (1 : Int32)))] [(.ref a), (.ref a)])) rfl rfl (hb hby d17_107)
    have k73 : Rch p e below (s₁.setTop (entryFrame m #[(.ref a), (.ref b)] 4)) T72 (mkF m 110 #[.val (.ref a), .val (.ref b), .val (.int ix), .val (.int (tx - (1 : Int32)))] [(.int n), (.ref a)]) := fun tg kg => k70 tg (st72 tg kg)
    have k74 : Rch p e below (s₁.setTop (entryFrame m #[(.ref a), (.ref b)] 4)) T72 (mkF m 113 #[.val (.ref a), .val (.ref b), .val (.int ix), .val (.int (tx - (1 : Int32)))] [(.int (n + (1 : Int32))), (.ref a), (.int n)]) := fun tg kg => by
      refine k73 tg ?_
      show Steps p.tables e below (T72.setTop (mkF m 110 #[.val (.ref a), .val (.ref b), .val (.int ix), .val (.int (tx - (1 : Int32)))] [(.int n), (.ref a)])) tg
      refine XS.dupX1 X72.here hx rfl (hb hby d17_110) rfl rfl rfl ?_
      refine XS.iconst X72.here hx rfl (hb hby d17_111) ?_
      refine XS.iadd X72.here hx rfl (hb hby d17_112) rfl ?_
      exact kg
    have f75 : Exa Z h63 a "com/example/verum/verum/Relation" := ((f32.keep K52).keep K63)
    obtain ⟨T76, h76, X76, e76, W76, st76⟩ := putF X72 hx hZ25 hown25 (host := "") (Or.inl (hw _ (List.mem_of_getElem? (i := 99) rfl))) Via.refl e72 f71 f75 (Or.inl (hw _ (List.mem_of_getElem? (i := 100) rfl))) (hw _ (List.mem_of_getElem? (i := 2) rfl)) (ty := .int) (by decide) rfl rfl (g := (mkF m 113 #[.val (.ref a), .val (.ref b), .val (.int ix), .val (.int (tx - (1 : Int32)))] [(.int (n + (1 : Int32))), (.ref a), (.int n)])) rfl rfl (hb hby d17_113)
    have Fw76 := f71.same W76
    have s76 : h76.size = h63.size := W76.size
    have N76 := Fr.snoc X76 N63 (by omega : n0 ≤ a)
    have k77 : Rch p e below (s₁.setTop (entryFrame m #[(.ref a), (.ref b)] 4)) T76 (mkF m 116 #[.val (.ref a), .val (.ref b), .val (.int ix), .val (.int (tx - (1 : Int32)))] [(.int n)]) := fun tg kg => k74 tg (st76 tg kg)
    have f78 : Exa Z h76 a "com/example/verum/verum/Relation" := (f75.wr W76)
    have f79 : Fld Z h76 a "com/example/verum/verum/Relation" "slots" "Lcom/example/verum/verum/HashSlots;" (.ref hs) := ((f56.keep K63 (ninS (by first | exact own_ne (by omega) | assumption | (apply Ne.symm; assumption)) nin0)).other W76 (Or.inr (slot_ne (Or.inl (hw _ (List.mem_of_getElem? (i := 37) rfl))) (Or.inl (hw _ (List.mem_of_getElem? (i := 100) rfl))) (by decide) (t := (.object "com/example/verum/verum/HashSlots")) (t' := .int) (by decide) (by decide))))
    have f80 : Fld Z h76 a "com/example/verum/verum/Relation" "arity" "I" (.int (1 : Int32)) := (((f39.keep K52 (ninS (by first | exact own_ne (by omega) | assumption | (apply Ne.symm; assumption)) nin0)).keep K63 (ninS (by first | exact own_ne (by omega) | assumption | (apply Ne.symm; assumption)) nin0)).other W76 (Or.inr (slot_ne (Or.inr (hw _ (List.mem_of_getElem? (i := 65) rfl))) (Or.inl (hw _ (List.mem_of_getElem? (i := 100) rfl))) (by decide) (t := .int) (t' := .int) (by decide) (by decide))))
    have f81 : Fld Z h76 a "com/example/verum/verum/Relation" "pageBits" "I" (.int (16 : Int32)) := (((f37.keep K52 (ninS (by first | exact own_ne (by omega) | assumption | (apply Ne.symm; assumption)) nin0)).keep K63 (ninS (by first | exact own_ne (by omega) | assumption | (apply Ne.symm; assumption)) nin0)).other W76 (Or.inr (slot_ne (Or.inr (hw _ (List.mem_of_getElem? (i := 75) rfl))) (Or.inl (hw _ (List.mem_of_getElem? (i := 100) rfl))) (by decide) (t := .int) (t' := .int) (by decide) (by decide))))
    have f82 : Fld Z h76 a "com/example/verum/verum/Relation" "pageMask" "I" (.int (65535 : Int32)) := (((f38.keep K52 (ninS (by first | exact own_ne (by omega) | assumption | (apply Ne.symm; assumption)) nin0)).keep K63 (ninS (by first | exact own_ne (by omega) | assumption | (apply Ne.symm; assumption)) nin0)).other W76 (Or.inr (slot_ne (Or.inr (hw _ (List.mem_of_getElem? (i := 77) rfl))) (Or.inl (hw _ (List.mem_of_getElem? (i := 100) rfl))) (by decide) (t := .int) (t' := .int) (by decide) (by decide))))
    have f83 : Fld Z h76 a "com/example/verum/verum/Relation" "pages" "[[I" (.ref pg) := (((f36.keep K52 (ninS (by first | exact own_ne (by omega) | assumption | (apply Ne.symm; assumption)) nin0)).keep K63 (ninS (by first | exact own_ne (by omega) | assumption | (apply Ne.symm; assumption)) nin0)).other W76 (Or.inr (slot_ne (Or.inl (hw _ (List.mem_of_getElem? (i := 85) rfl))) (Or.inl (hw _ (List.mem_of_getElem? (i := 100) rfl))) (by decide) (t := (.array (.array .int))) (t' := .int) (by decide) (by decide))))
    have f84 : Fld Z h76 a "com/example/verum/verum/Relation" "deltaStart" "I" (.int ds) := ((((Pr_7.ext E25).keep K52 (ninS (by first | exact own_ne (by omega) | assumption | (apply Ne.symm; assumption)) nin0)).keep K63 (ninS (by first | exact own_ne (by omega) | assumption | (apply Ne.symm; assumption)) nin0)).other W76 (Or.inr (slot_ne (Or.inl (hw _ (List.mem_of_getElem? (i := 98) rfl))) (Or.inl (hw _ (List.mem_of_getElem? (i := 100) rfl))) (by decide) (t := .int) (t' := .int) (by decide) (by decide))))
    have f85 : Fld Z h76 a "com/example/verum/verum/Relation" "deltaEnd" "I" (.int de) := ((((Pr_8.ext E25).keep K52 (ninS (by first | exact own_ne (by omega) | assumption | (apply Ne.symm; assumption)) nin0)).keep K63 (ninS (by first | exact own_ne (by omega) | assumption | (apply Ne.symm; assumption)) nin0)).other W76 (Or.inr (slot_ne (Or.inl (hw _ (List.mem_of_getElem? (i := 96) rfl))) (Or.inl (hw _ (List.mem_of_getElem? (i := 100) rfl))) (by decide) (t := .int) (t' := .int) (by decide) (by decide))))
    have f86 : Fld Z h76 a "com/example/verum/verum/Relation" "shared" "Z" (.int (0 : Int32)) := (((f31.keep K52 (ninS (by first | exact own_ne (by omega) | assumption | (apply Ne.symm; assumption)) nin0)).keep K63 (ninS (by first | exact own_ne (by omega) | assumption | (apply Ne.symm; assumption)) nin0)).other W76 (Or.inr (slot_ne (Or.inl (hw _ (List.mem_of_getElem? (i := 179) rfl))) (Or.inl (hw _ (List.mem_of_getElem? (i := 100) rfl))) (by decide) (t := .boolean) (t' := .int) (by decide) (by decide))))
    have f87 : Arv Z h76 pz kpz .int (8 : Int32) (rs.take n.toNatClampNeg ++ [(.int xv)] ++ rs.drop (n.toNatClampNeg + 1)) (.int (0 : Int32)) := ((V52.keep K63 (ninS (by first | exact own_ne (by omega) | assumption | (apply Ne.symm; assumption)) nin0)).other W76 (by first | exact own_ne (by omega) | assumption | (apply Ne.symm; assumption)))
    have f88 : Arv Z h76 ht kht .int (16 : Int32) ((ts.set ix.toNatClampNeg (n + (1 : Int32))).map Value.int) (.int (0 : Int32)) := (fq63_3.other W76 (by first | exact own_ne (by omega) | assumption | (apply Ne.symm; assumption)))
    obtain ⟨fs89, hr89, hrun89, hended89, hEnd89⟩ := X76.leaveW hS25 (by rw [e76]; first | exact Nat.le_refl _ | omega) (v := some (.int n)) (fun h => by rw [Bd.returns] at h; cases h)
    refine ⟨_, _, k77 _ ?_, hrun89, hended89, _, _, rfl, ?_, hEnd89.1, hEnd89.2.1, hEnd89.2.2.1, hEnd89.2.2.2.mono (by decide) (by decide)⟩
    · exact retOut X76 hx Bd.returns rfl (Or.inl ⟨rfl, Or.inl rfl, _, rfl⟩) (hb hby d17_116) hr89
    · show Q_rm_addRow Z a b hs pg pz hp ht kpg kpz khp kht n ds de rs ts kb xv h0 n0 _ T76.heap _
      rw [e76]
      exact ⟨_, (1 : Int32), (rs.take n.toNatClampNeg ++ [(.int xv)] ++ rs.drop (n.toNatClampNeg + 1)), (ts.set ix.toNatClampNeg (n + (1 : Int32))), rfl, N76, (((((Keep.refl h0 [a, pz, ht]).ext E25).trans K52 (allS (Or.inl (List.mem_of_getElem? (i := 1) rfl)) all0)).trans K63 (allS (Or.inl (List.mem_of_getElem? (i := 2) rfl)) all0)).wr W76 (Or.inl (List.mem_of_getElem? (i := 0) rfl))), f78, f79, f80, f81, f82, f83, Fw76, f84, f85, f86, f87, f88, (Or.inr rfl), (own_tab_set htab hn0 hn7 (own_lt16 hx0 hx1).1), (own_rows rs _ hrs hp4)⟩
  · have f90 : Fld Z h0 a "com/example/verum/verum/Relation" "size" "I" (.int (n + (0 : Int32))) := (by rw [Int32.add_zero]; exact Pr_6)
    have k91 : Rch p e below (s₁.setTop (entryFrame m #[(.ref a), (.ref b)] 4)) T17 (mkF m 52 #[.val (.ref a), .val (.ref b), .val (.int ix), .val (.int (tx - (1 : Int32)))] [(.int (tx - (1 : Int32)))]) := fun tg kg => by
      refine k19 tg ?_
      show Steps p.tables e below (T17.setTop (mkF m 48 #[.val (.ref a), .val (.ref b), .val (.int ix), .val (.int (tx - (1 : Int32)))] [(.int (tx - (1 : Int32)))])) tg
      refine XS.ifNo X17.here hx rfl (hb hby d17_48) rfl ((if0 _ _).trans (flt hc48_20).1) ?_
      refine XS.iloadN X17.here hx rfl (hb hby d17_51) rfl ?_
      exact kg
    obtain ⟨fs92, hr92, hrun92, hended92, hEnd92⟩ := X17.leaveW hS0 (by rw [e17']; first | exact Nat.le_refl _ | omega) (v := some (.int (tx - (1 : Int32)))) (fun h => by rw [Bd.returns] at h; cases h)
    refine ⟨_, _, k91 _ ?_, hrun92, hended92, _, _, rfl, ?_, hEnd92.1, hEnd92.2.1, hEnd92.2.2.1, hEnd92.2.2.2.mono (by decide) (by decide)⟩
    · exact retOut X17 hx Bd.returns rfl (Or.inl ⟨rfl, Or.inl rfl, _, rfl⟩) (hb hby d17_52) hr92
    · show Q_rm_addRow Z a b hs pg pz hp ht kpg kpz khp kht n ds de rs ts kb xv h0 n0 _ T17.heap _
      rw [e17']
      exact ⟨_, (0 : Int32), rs, ts, rfl, N17, (Keep.refl h0 [a, pz, ht]), Pr_0, Pr_1, Pr_2, Pr_3, Pr_4, Pr_5, f90, Pr_7, Pr_8, Pr_9, Pv_1, Pv_3, (Or.inl rfl), (by rw [Int32.add_zero]; exact htab), hrs⟩
theorem ef_rm_add (m : MethodId) (x0 : Addr) (x1 : Addr) : entryFrame m #[(.ref x0), (.ref x1)] 3 = mkF m 0 #[.val (.ref x0), .val (.ref x1), .unset] [] := by first | (simp [entryFrame, mkF, argsToLocals, Value.category]; done) | rfl
def Q_rm_add (Z : State) (a : Addr) (b : Addr) (hs : Addr) (pg : Addr) (pz : Addr) (hp : Addr) (ht : Addr) (kpg : ClassId) (kpz : ClassId) (khp : ClassId) (kht : ClassId) (n : Int32) (ds : Int32) (de : Int32) (rs : List Value) (ts : List Int32) (kb : ClassId) (xv : Int32) (h0 : Heap) (n0 : Nat) (v : Option Value) (h : Heap) (L : List Loc) : Prop := ∃ (r : Int32) (rq : List Value) (tq : List Int32), (v = some (.int r)) ∧ (Fr n0 L) ∧ (Keep h0 h [a, pz, ht]) ∧ (Exa Z h a "com/example/verum/verum/Relation") ∧ (Fld Z h a "com/example/verum/verum/Relation" "slots" "Lcom/example/verum/verum/HashSlots;" (.ref hs)) ∧ (Fld Z h a "com/example/verum/verum/Relation" "arity" "I" (.int (1 : Int32))) ∧ (Fld Z h a "com/example/verum/verum/Relation" "pageBits" "I" (.int (16 : Int32))) ∧ (Fld Z h a "com/example/verum/verum/Relation" "pageMask" "I" (.int (65535 : Int32))) ∧ (Fld Z h a "com/example/verum/verum/Relation" "pages" "[[I" (.ref pg)) ∧ (Fld Z h a "com/example/verum/verum/Relation" "size" "I" (.int (n + r))) ∧ (Fld Z h a "com/example/verum/verum/Relation" "deltaStart" "I" (.int ds)) ∧ (Fld Z h a "com/example/verum/verum/Relation" "deltaEnd" "I" (.int de)) ∧ (Fld Z h a "com/example/verum/verum/Relation" "shared" "Z" (.int (0 : Int32))) ∧ (Arv Z h pz kpz .int (8 : Int32) rq (.int (0 : Int32))) ∧ (Arv Z h ht kht .int (16 : Int32) (tq.map Value.int) (.int (0 : Int32))) ∧ (r = 0 ∨ r = 1) ∧ (own_tab tq (n + r)) ∧ (rq.length = 8)
theorem d16_0 : decode prog_70_method_7_code 0 = .ok (.aload_n 0, 1) := by decide +kernel
theorem d16_1 : decode prog_70_method_7_code 1 = .ok (.getfield 60, 3) := by decide +kernel
theorem d16_4 : decode prog_70_method_7_code 4 = .ok (.istore_n 2, 1) := by decide +kernel
theorem d16_5 : decode prog_70_method_7_code 5 = .ok (.aload_n 0, 1) := by decide +kernel
theorem d16_6 : decode prog_70_method_7_code 6 = .ok (.aload_n 1, 1) := by decide +kernel
theorem d16_7 : decode prog_70_method_7_code 7 = .ok (.invokevirtual 95, 3) := by decide +kernel
theorem d16_10 : decode prog_70_method_7_code 10 = .ok (.pop, 1) := by decide +kernel
theorem d16_11 : decode prog_70_method_7_code 11 = .ok (.aload_n 0, 1) := by decide +kernel
theorem d16_12 : decode prog_70_method_7_code 12 = .ok (.getfield 60, 3) := by decide +kernel
theorem d16_15 : decode prog_70_method_7_code 15 = .ok (.iload_n 2, 1) := by decide +kernel
theorem d16_16 : decode prog_70_method_7_code 16 = .ok (.if_icmp .le 7, 3) := by decide +kernel
theorem d16_23 : decode prog_70_method_7_code 23 = .ok (.iconst 0, 1) := by decide +kernel
theorem d16_24 : decode prog_70_method_7_code 24 = .ok (.ireturn, 1) := by decide +kernel
theorem d16_19 : decode prog_70_method_7_code 19 = .ok (.iconst 1, 1) := by decide +kernel
theorem d16_20 : decode prog_70_method_7_code 20 = .ok (.goto 4, 3) := by decide +kernel
set_option maxRecDepth 65536 in
set_option maxHeartbeats 40000000 in
theorem rm_add (l : Launch) (Z : State) (a0 : Array Value) (hw : ∀ d ∈ tables_1, d.before a0 Z = true) (ws : List Jvm.Cond) (a : Addr) (b : Addr) (hs : Addr) (pg : Addr) (pz : Addr) (hp : Addr) (ht : Addr) (kpg : ClassId) (kpz : ClassId) (khp : ClassId) (kht : ClassId) (n : Int32) (ds : Int32) (de : Int32) (rs : List Value) (ts : List Int32) (kb : ClassId) (xv : Int32) (h0 : Heap) (n0 : Nat) (Z0 : n0 ≤ h0.size) (Pr_0 : Exa Z h0 a "com/example/verum/verum/Relation") (Pr_1 : Fld Z h0 a "com/example/verum/verum/Relation" "slots" "Lcom/example/verum/verum/HashSlots;" (.ref hs)) (Pr_2 : Fld Z h0 a "com/example/verum/verum/Relation" "arity" "I" (.int (1 : Int32))) (Pr_3 : Fld Z h0 a "com/example/verum/verum/Relation" "pageBits" "I" (.int (16 : Int32))) (Pr_4 : Fld Z h0 a "com/example/verum/verum/Relation" "pageMask" "I" (.int (65535 : Int32))) (Pr_5 : Fld Z h0 a "com/example/verum/verum/Relation" "pages" "[[I" (.ref pg)) (Pr_6 : Fld Z h0 a "com/example/verum/verum/Relation" "size" "I" (.int n)) (Pr_7 : Fld Z h0 a "com/example/verum/verum/Relation" "deltaStart" "I" (.int ds)) (Pr_8 : Fld Z h0 a "com/example/verum/verum/Relation" "deltaEnd" "I" (.int de)) (Pr_9 : Fld Z h0 a "com/example/verum/verum/Relation" "shared" "Z" (.int (0 : Int32))) (Ph_0 : Exa Z h0 hs "com/example/verum/verum/HashSlots") (Ph_1 : Fld Z h0 hs "com/example/verum/verum/HashSlots" "pages" "[[I" (.ref hp)) (Ph_2 : Fld Z h0 hs "com/example/verum/verum/HashSlots" "mask" "I" (.int (15 : Int32))) (Ph_3 : Fld Z h0 hs "com/example/verum/verum/HashSlots" "shared" "Z" (.int (0 : Int32))) (Pv_0 : Arv Z h0 pg kpg (.array .int) (1 : Int32) [(.ref pz)] .null) (Pv_1 : Arv Z h0 pz kpz .int (8 : Int32) rs (.int (0 : Int32))) (Pv_2 : Arv Z h0 hp khp (.array .int) (1 : Int32) [(.ref ht)] .null) (Pv_3 : Arv Z h0 ht kht .int (16 : Int32) (ts.map Value.int) (.int (0 : Int32))) (V_b : Arv Z h0 b kb .int (1 : Int32) [(.int xv)] (.int (0 : Int32))) (oA : a < hs) (oB : hs < hp) (oC : hp < ht) (oD : ht < pg) (oE : pg < pz) (hn0 : 0 ≤ n.toInt) (hn7 : n.toInt ≤ 7) (htab : own_tab ts n) (hrs : rs.length = 8) (g_a : n0 ≤ a) :
    ConW l Z (⟨"com/example/verum/verum/Relation", "add", "([I)Z"⟩ : MethodName) prog_70_method_7_code 3 (some .boolean) ws ({ frames := 4, cells := 2, slots := 84, locals := 79 } : Room) #[(.ref a), (.ref b)] h0 (Q_rm_add Z a b hs pg pz hp ht kpg kpz khp kht n ds de rs ts kb xv h0 n0) := by
  refine MetFree.of_bodySF (plainFor_of_name pn_Relation) hisR ?_
  intro p e s m args below meth c s₁ Bd hml0 hP hK
  obtain ⟨rfl, hZ, hh⟩ := hP
  have hx := Bd.exec
  have hby := Bd.bytes
  have hml : c.maxLocals = 3 := hml0
  have hown : s.vm.findClass "com/example/verum/verum/Relation" = some m.cls := findClass_of_methodNamed Bd.named
  have hnm := (name_of_methodNamed Bd.named Bd.method).1
  have X0 : Stand p l e ({ frames := 4, cells := 2, slots := 84, locals := 79 } : Room) s m #[(.ref a), (.ref b)] below meth c s₁ [] 0 0 := Stand.of_body Bd
  have e0 : s₁.heap = h0 := by rw [← hh, Bd.state]; rfl
  have N0 := Fr.nil n0
  have X0' : Stand p l e ({ frames := 4, cells := 2, slots := 84, locals := 79 } : Room) (s.setVm s.vm) m #[(.ref a), (.ref b)] below meth c s₁ [] 0 0 := X0
  have hS0 : s.Since s.vm h0.size := State.WarmedH.since (State.WarmedH.refl s) _
  have wS : ∀ d ∈ Bundle.stringAtoms, d.before a0 Z = true := fun d hd => hw d ((by decide +kernel : ∀ d ∈ Bundle.stringAtoms, d ∈ tables_1) d hd)
  have k0 : Rch p e below (s₁.setTop (entryFrame m #[(.ref a), (.ref b)] 3)) s₁ (mkF m 0 #[.val (.ref a), .val (.ref b), .unset] []) := fun tg kg => castTop (ef_rm_add m a b) kg
  have lt_Pr_0 := own_ltN Pr_0.lt
  have lt_Pr_1 := own_ltN Pr_1.lt
  have lt_Pr_2 := own_ltN Pr_2.lt
  have lt_Pr_3 := own_ltN Pr_3.lt
  have lt_Pr_4 := own_ltN Pr_4.lt
  have lt_Pr_5 := own_ltN Pr_5.lt
  have lt_Pr_6 := own_ltN Pr_6.lt
  have lt_Pr_7 := own_ltN Pr_7.lt
  have lt_Pr_8 := own_ltN Pr_8.lt
  have lt_Pr_9 := own_ltN Pr_9.lt
  have lt_Ph_0 := own_ltN Ph_0.lt
  have lt_Ph_1 := own_ltN Ph_1.lt
  have lt_Ph_2 := own_ltN Ph_2.lt
  have lt_Ph_3 := own_ltN Ph_3.lt
  have lt_Pv_0 := own_ltN Pv_0.lt
  have lt_Pv_1 := own_ltN Pv_1.lt
  have lt_Pv_2 := own_ltN Pv_2.lt
  have lt_Pv_3 := own_ltN Pv_3.lt
  have lt_V_b := own_ltN V_b.lt
  have n_oA := own_ltN oA
  have n_oB := own_ltN oB
  have n_oC := own_ltN oC
  have n_oD := own_ltN oD
  have n_oE := own_ltN oE
  have k1 : Rch p e below (s₁.setTop (entryFrame m #[(.ref a), (.ref b)] 3)) s₁ (mkF m 1 #[.val (.ref a), .val (.ref b), .unset] [(.ref a)]) := fun tg kg => by
    refine k0 tg ?_
    show Steps p.tables e below (s₁.setTop (mkF m 0 #[.val (.ref a), .val (.ref b), .unset] [])) tg
    refine XS.aloadN X0'.here hx rfl (hb hby d16_0) rfl rfl ?_
    exact kg
  obtain ⟨T2, X2, e2, st2⟩ := getF X0' hx hZ hown (host := "") (Or.inl (hw _ (List.mem_of_getElem? (i := 99) rfl))) Via.refl e0 Pr_6 (g := (mkF m 1 #[.val (.ref a), .val (.ref b), .unset] [(.ref a)])) rfl rfl (hb hby d16_1)
  have k3 : Rch p e below (s₁.setTop (entryFrame m #[(.ref a), (.ref b)] 3)) T2 (mkF m 4 #[.val (.ref a), .val (.ref b), .unset] [(.int n)]) := fun tg kg => k1 tg (st2 tg kg)
  have k4 : Rch p e below (s₁.setTop (entryFrame m #[(.ref a), (.ref b)] 3)) T2 (mkF m 7 #[.val (.ref a), .val (.ref b), .val (.int n)] [(.ref b), (.ref a)]) := fun tg kg => by
    refine k3 tg ?_
    show Steps p.tables e below (T2.setTop (mkF m 4 #[.val (.ref a), .val (.ref b), .unset] [(.int n)])) tg
    refine XS.istoreN X2.here hx rfl (hb hby d16_4) rfl (l' := #[.val (.ref a), .val (.ref b), .val (.int n)]) rfl ?_
    refine XS.aloadN X2.here hx rfl (hb hby d16_5) rfl rfl ?_
    refine XS.aloadN X2.here hx rfl (hb hby d16_6) rfl rfl ?_
    exact kg
  obtain ⟨v5, T5, h5, Lc5, X5, e5, hQ5, hS5, hZ5, hown5, st5⟩ := own_callVW X2 hx hZ hown (hw _ (List.mem_of_getElem? (i := 116) rfl)) (hw _ (List.mem_of_getElem? (i := 117) rfl)) (notFace_of_selects (args := #[]) (mvT hZ (hw _ (List.mem_of_getElem? (i := 119) rfl)))) (hw _ (List.mem_of_getElem? (i := 119) rfl)) (hw _ (List.mem_of_getElem? (i := 118) rfl)) (hw _ (List.mem_of_getElem? (i := 120) rfl)) (hw _ (List.mem_of_getElem? (i := 3) rfl)) (by decide) (rm_addRow l Z a0 hw [] a b hs pg pz hp ht kpg kpz khp kht n ds de rs ts kb xv h0 n0 (by omega) Pr_0 Pr_1 Pr_2 Pr_3 Pr_4 Pr_5 Pr_6 Pr_7 Pr_8 Pr_9 Ph_0 Ph_1 Ph_2 Ph_3 Pv_0 Pv_1 Pv_2 Pv_3 V_b (by assumption) (by assumption) (by assumption) (by assumption) (by assumption) hn0 hn7 htab hrs (by assumption)) e2 hS0 (by first | exact Nat.le_refl _ | omega) Pr_0 (g := (mkF m 7 #[.val (.ref a), .val (.ref b), .val (.int n)] [(.ref b), (.ref a)])) rfl (by rw [hml]; rfl) (argsL := [(.ref b)]) (rest := []) rfl (lenOf pd_6 rfl) rfl (W := 0) (by show 2 * 0 + _ ≤ _; exact Nat.le_of_eq rfl) (hb hby d16_7) (by decide) (by decide) (by decide) (by decide)
  obtain ⟨vqk, rk, rqk, tqk, rfl, Nq5, K5, fq5_3, fq5_4, fq5_5, fq5_6, fq5_7, fq5_8, fq5_9, fq5_10, fq5_11, fq5_12, fq5_13, fq5_14, hp5_bit, hp5_tab, hp5_len⟩ := hQ5
  have N5 := Fr.app N0 Nq5
  have s5 : h0.size ≤ h5.size := K5.1
  have k6 : Rch p e below (s₁.setTop (entryFrame m #[(.ref a), (.ref b)] 3)) T5 (mkF m 10 #[.val (.ref a), .val (.ref b), .val (.int n)] [(.int vqk)]) := fun tg kg => k4 tg (st5 tg kg)
  have lt_fq5_3 := own_ltN fq5_3.lt
  have lt_fq5_4 := own_ltN fq5_4.lt
  have lt_fq5_5 := own_ltN fq5_5.lt
  have lt_fq5_6 := own_ltN fq5_6.lt
  have lt_fq5_7 := own_ltN fq5_7.lt
  have lt_fq5_8 := own_ltN fq5_8.lt
  have lt_fq5_9 := own_ltN fq5_9.lt
  have lt_fq5_10 := own_ltN fq5_10.lt
  have lt_fq5_11 := own_ltN fq5_11.lt
  have lt_fq5_12 := own_ltN fq5_12.lt
  have lt_fq5_13 := own_ltN fq5_13.lt
  have lt_fq5_14 := own_ltN fq5_14.lt
  have k7 : Rch p e below (s₁.setTop (entryFrame m #[(.ref a), (.ref b)] 3)) T5 (mkF m 12 #[.val (.ref a), .val (.ref b), .val (.int n)] [(.ref a)]) := fun tg kg => by
    refine k6 tg ?_
    show Steps p.tables e below (T5.setTop (mkF m 10 #[.val (.ref a), .val (.ref b), .val (.int n)] [(.int vqk)])) tg
    refine XS.pop X5.here hx rfl (hb hby d16_10) rfl rfl ?_
    show Steps p.tables e below (T5.setTop (mkF m 11 #[.val (.ref a), .val (.ref b), .val (.int n)] [])) tg
    refine XS.aloadN X5.here hx rfl (hb hby d16_11) rfl rfl ?_
    exact kg
  obtain ⟨T8, X8, e8, st8⟩ := getF X5 hx hZ5 hown5 (host := "") (Or.inl (hw _ (List.mem_of_getElem? (i := 99) rfl))) Via.refl e5 fq5_9 (g := (mkF m 12 #[.val (.ref a), .val (.ref b), .val (.int n)] [(.ref a)])) rfl rfl (hb hby d16_12)
  have k9 : Rch p e below (s₁.setTop (entryFrame m #[(.ref a), (.ref b)] 3)) T8 (mkF m 15 #[.val (.ref a), .val (.ref b), .val (.int n)] [(.int (n + rk))]) := fun tg kg => k7 tg (st8 tg kg)
  have k10 : Rch p e below (s₁.setTop (entryFrame m #[(.ref a), (.ref b)] 3)) T8 (mkF m 16 #[.val (.ref a), .val (.ref b), .val (.int n)] [(.int n), (.int (n + rk))]) := fun tg kg => by
    refine k9 tg ?_
    show Steps p.tables e below (T8.setTop (mkF m 15 #[.val (.ref a), .val (.ref b), .val (.int n)] [(.int (n + rk))])) tg
    refine XS.iloadN X8.here hx rfl (hb hby d16_15) rfl ?_
    exact kg
  by_cases hc16_11 : rk = (0 : Int32)
  · have k12 : Rch p e below (s₁.setTop (entryFrame m #[(.ref a), (.ref b)] 3)) T8 (mkF m 24 #[.val (.ref a), .val (.ref b), .val (.int n)] [(.int (0 : Int32))]) := fun tg kg => by
      refine k10 tg ?_
      show Steps p.tables e below (T8.setTop (mkF m 16 #[.val (.ref a), .val (.ref b), .val (.int n)] [(.int n), (.int (n + rk))])) tg
      refine XS.icmpYes X8.here hx rfl (pc0 := 16) (pc' := 23) rfl (hb hby d16_16) rfl (flt (own_nog hc16_11)).2.2.2 (by decide) (by decide) ?_
      refine XS.iconst X8.here hx rfl (hb hby d16_23) ?_
      exact kg
    obtain ⟨fs13, hr13, hrun13, hended13, hEnd13⟩ := X8.leaveW hS5 (by rw [e8]; first | exact Nat.le_refl _ | omega) (v := some (.int (nar .boolean (0 : Int32)))) (fun h => by rw [Bd.returns] at h; cases h)
    refine ⟨_, _, k12 _ ?_, hrun13, hended13, _, _, rfl, ?_, hEnd13.1, hEnd13.2.1, hEnd13.2.2.1, hEnd13.2.2.2.mono (by decide) (by decide)⟩
    · exact retN X8 hx (t := .boolean) Bd.returns (by simp) (hb hby d16_24) hr13
    · show Q_rm_add Z a b hs pg pz hp ht kpg kpz khp kht n ds de rs ts kb xv h0 n0 _ T8.heap _
      rw [e8]
      exact ⟨rk, rqk, tqk, (by rw [hc16_11]; rfl), N5, ((Keep.refl h0 [a, pz, ht]).trans K5 (allS (Or.inl (List.mem_of_getElem? (i := 0) rfl)) (allS (Or.inl (List.mem_of_getElem? (i := 1) rfl)) (allS (Or.inl (List.mem_of_getElem? (i := 2) rfl)) all0)))), fq5_3, fq5_4, fq5_5, fq5_6, fq5_7, fq5_8, fq5_9, fq5_10, fq5_11, fq5_12, fq5_13, fq5_14, hp5_bit, hp5_tab, hp5_len⟩
  · have k14 : Rch p e below (s₁.setTop (entryFrame m #[(.ref a), (.ref b)] 3)) T8 (mkF m 24 #[.val (.ref a), .val (.ref b), .val (.int n)] [(.int (1 : Int32))]) := fun tg kg => by
      refine k10 tg ?_
      show Steps p.tables e below (T8.setTop (mkF m 16 #[.val (.ref a), .val (.ref b), .val (.int n)] [(.int n), (.int (n + rk))])) tg
      refine XS.icmpNo X8.here hx rfl (hb hby d16_16) rfl (tlt (own_gr hn0 hn7 hp5_bit hc16_11)).2.2.2 ?_
      refine XS.iconst X8.here hx rfl (hb hby d16_19) ?_
      refine XS.goto X8.here hx rfl (pc0 := 20) (pc' := 24) rfl (hb hby d16_20) (by decide) (by decide) ?_
      exact kg
    obtain ⟨fs15, hr15, hrun15, hended15, hEnd15⟩ := X8.leaveW hS5 (by rw [e8]; first | exact Nat.le_refl _ | omega) (v := some (.int (nar .boolean (1 : Int32)))) (fun h => by rw [Bd.returns] at h; cases h)
    refine ⟨_, _, k14 _ ?_, hrun15, hended15, _, _, rfl, ?_, hEnd15.1, hEnd15.2.1, hEnd15.2.2.1, hEnd15.2.2.2.mono (by decide) (by decide)⟩
    · exact retN X8 hx (t := .boolean) Bd.returns (by simp) (hb hby d16_24) hr15
    · show Q_rm_add Z a b hs pg pz hp ht kpg kpz khp kht n ds de rs ts kb xv h0 n0 _ T8.heap _
      rw [e8]
      exact ⟨rk, rqk, tqk, (by rw [own_r1 hp5_bit hc16_11]; rfl), N5, ((Keep.refl h0 [a, pz, ht]).trans K5 (allS (Or.inl (List.mem_of_getElem? (i := 0) rfl)) (allS (Or.inl (List.mem_of_getElem? (i := 1) rfl)) (allS (Or.inl (List.mem_of_getElem? (i := 2) rfl)) all0)))), fq5_3, fq5_4, fq5_5, fq5_6, fq5_7, fq5_8, fq5_9, fq5_10, fq5_11, fq5_12, fq5_13, fq5_14, hp5_bit, hp5_tab, hp5_len⟩
theorem pn_RelationNextRoundPinLaw : plainName "com/example/verum/verum/RelationNextRoundPinLaw" = true := by first | (simp [plainName, overriddenIn]; done) | decide +kernel
theorem ef_rm_addIf (m : MethodId) (x0 : Addr) (x1 : Int32) (x2 : Addr) : entryFrame m #[(.ref x0), (.int x1), (.ref x2)] 3 = mkF m 0 #[.val (.ref x0), .val (.int x1), .val (.ref x2)] [] := by first | (simp [entryFrame, mkF, argsToLocals, Value.category]; done) | rfl
def Q_rm_addIf (Z : State) (a : Addr) (b : Addr) (hs : Addr) (pg : Addr) (pz : Addr) (hp : Addr) (ht : Addr) (kpg : ClassId) (kpz : ClassId) (khp : ClassId) (kht : ClassId) (n : Int32) (ds : Int32) (de : Int32) (rs : List Value) (ts : List Int32) (kb : ClassId) (xv : Int32) (on : Int32) (h0 : Heap) (n0 : Nat) (v : Option Value) (h : Heap) (L : List Loc) : Prop := ∃ (r : Int32) (rq : List Value) (tq : List Int32), (v = some (.int r)) ∧ (Fr n0 L) ∧ (Keep h0 h [a, pz, ht]) ∧ (Exa Z h a "com/example/verum/verum/Relation") ∧ (Fld Z h a "com/example/verum/verum/Relation" "slots" "Lcom/example/verum/verum/HashSlots;" (.ref hs)) ∧ (Fld Z h a "com/example/verum/verum/Relation" "arity" "I" (.int (1 : Int32))) ∧ (Fld Z h a "com/example/verum/verum/Relation" "pageBits" "I" (.int (16 : Int32))) ∧ (Fld Z h a "com/example/verum/verum/Relation" "pageMask" "I" (.int (65535 : Int32))) ∧ (Fld Z h a "com/example/verum/verum/Relation" "pages" "[[I" (.ref pg)) ∧ (Fld Z h a "com/example/verum/verum/Relation" "size" "I" (.int (n + r))) ∧ (Fld Z h a "com/example/verum/verum/Relation" "deltaStart" "I" (.int ds)) ∧ (Fld Z h a "com/example/verum/verum/Relation" "deltaEnd" "I" (.int de)) ∧ (Fld Z h a "com/example/verum/verum/Relation" "shared" "Z" (.int (0 : Int32))) ∧ (Arv Z h pz kpz .int (8 : Int32) rq (.int (0 : Int32))) ∧ (Arv Z h ht kht .int (16 : Int32) (tq.map Value.int) (.int (0 : Int32))) ∧ (r = 0 ∨ r = 1) ∧ (own_tab tq (n + r)) ∧ (rq.length = 8)
theorem d12_0 : decode method_2_code 0 = .ok (.iload_n 1, 1) := by decide +kernel
theorem d12_1 : decode method_2_code 1 = .ok (.ifCond .ne 5, 3) := by decide +kernel
theorem d12_4 : decode method_2_code 4 = .ok (.iconst 0, 1) := by decide +kernel
theorem d12_5 : decode method_2_code 5 = .ok (.ireturn, 1) := by decide +kernel
theorem d12_6 : decode method_2_code 6 = .ok (.aload_n 0, 1) := by decide +kernel
theorem d12_7 : decode method_2_code 7 = .ok (.aload_n 2, 1) := by decide +kernel
theorem pd_12 : parseMethodDescriptor "([I)Z" = some ⟨[(.array .int)], some .boolean⟩ := by decide +kernel
theorem d12_8 : decode method_2_code 8 = .ok (.invokevirtual 7, 3) := by decide +kernel
theorem d12_11 : decode method_2_code 11 = .ok (.ifCond .eq 7, 3) := by decide +kernel
theorem d12_18 : decode method_2_code 18 = .ok (.iconst 0, 1) := by decide +kernel
theorem d12_19 : decode method_2_code 19 = .ok (.ireturn, 1) := by decide +kernel
theorem d12_14 : decode method_2_code 14 = .ok (.iconst 1, 1) := by decide +kernel
theorem d12_15 : decode method_2_code 15 = .ok (.goto 4, 3) := by decide +kernel
set_option maxRecDepth 65536 in
set_option maxHeartbeats 40000000 in
theorem rm_addIf (l : Launch) (Z : State) (a0 : Array Value) (hw : ∀ d ∈ tables_1, d.before a0 Z = true) (ws : List Jvm.Cond) (a : Addr) (b : Addr) (hs : Addr) (pg : Addr) (pz : Addr) (hp : Addr) (ht : Addr) (kpg : ClassId) (kpz : ClassId) (khp : ClassId) (kht : ClassId) (n : Int32) (ds : Int32) (de : Int32) (rs : List Value) (ts : List Int32) (kb : ClassId) (xv : Int32) (on : Int32) (h0 : Heap) (n0 : Nat) (Z0 : n0 ≤ h0.size) (Pr_0 : Exa Z h0 a "com/example/verum/verum/Relation") (Pr_1 : Fld Z h0 a "com/example/verum/verum/Relation" "slots" "Lcom/example/verum/verum/HashSlots;" (.ref hs)) (Pr_2 : Fld Z h0 a "com/example/verum/verum/Relation" "arity" "I" (.int (1 : Int32))) (Pr_3 : Fld Z h0 a "com/example/verum/verum/Relation" "pageBits" "I" (.int (16 : Int32))) (Pr_4 : Fld Z h0 a "com/example/verum/verum/Relation" "pageMask" "I" (.int (65535 : Int32))) (Pr_5 : Fld Z h0 a "com/example/verum/verum/Relation" "pages" "[[I" (.ref pg)) (Pr_6 : Fld Z h0 a "com/example/verum/verum/Relation" "size" "I" (.int n)) (Pr_7 : Fld Z h0 a "com/example/verum/verum/Relation" "deltaStart" "I" (.int ds)) (Pr_8 : Fld Z h0 a "com/example/verum/verum/Relation" "deltaEnd" "I" (.int de)) (Pr_9 : Fld Z h0 a "com/example/verum/verum/Relation" "shared" "Z" (.int (0 : Int32))) (Ph_0 : Exa Z h0 hs "com/example/verum/verum/HashSlots") (Ph_1 : Fld Z h0 hs "com/example/verum/verum/HashSlots" "pages" "[[I" (.ref hp)) (Ph_2 : Fld Z h0 hs "com/example/verum/verum/HashSlots" "mask" "I" (.int (15 : Int32))) (Ph_3 : Fld Z h0 hs "com/example/verum/verum/HashSlots" "shared" "Z" (.int (0 : Int32))) (Pv_0 : Arv Z h0 pg kpg (.array .int) (1 : Int32) [(.ref pz)] .null) (Pv_1 : Arv Z h0 pz kpz .int (8 : Int32) rs (.int (0 : Int32))) (Pv_2 : Arv Z h0 hp khp (.array .int) (1 : Int32) [(.ref ht)] .null) (Pv_3 : Arv Z h0 ht kht .int (16 : Int32) (ts.map Value.int) (.int (0 : Int32))) (V_b : Arv Z h0 b kb .int (1 : Int32) [(.int xv)] (.int (0 : Int32))) (oA : a < hs) (oB : hs < hp) (oC : hp < ht) (oD : ht < pg) (oE : pg < pz) (hn0 : 0 ≤ n.toInt) (hn7 : n.toInt ≤ 7) (htab : own_tab ts n) (hrs : rs.length = 8) (g_a : n0 ≤ a) :
    ConW l Z (⟨"com/example/verum/verum/RelationNextRoundPinLaw", "addIf", "(Lcom/example/verum/verum/Relation;Z[I)I"⟩ : MethodName) method_2_code 3 (some .int) ws ({ frames := 5, cells := 2, slots := 84, locals := 93 } : Room) #[(.ref a), (.int on), (.ref b)] h0 (Q_rm_addIf Z a b hs pg pz hp ht kpg kpz khp kht n ds de rs ts kb xv on h0 n0) := by
  refine MetFree.of_bodySF (plainFor_of_name pn_RelationNextRoundPinLaw) hisR ?_
  intro p e s m args below meth c s₁ Bd hml0 hP hK
  obtain ⟨rfl, hZ, hh⟩ := hP
  have hx := Bd.exec
  have hby := Bd.bytes
  have hml : c.maxLocals = 3 := hml0
  have hown : s.vm.findClass "com/example/verum/verum/RelationNextRoundPinLaw" = some m.cls := findClass_of_methodNamed Bd.named
  have hnm := (name_of_methodNamed Bd.named Bd.method).1
  have X0 : Stand p l e ({ frames := 5, cells := 2, slots := 84, locals := 93 } : Room) s m #[(.ref a), (.int on), (.ref b)] below meth c s₁ [] 0 0 := Stand.of_body Bd
  have e0 : s₁.heap = h0 := by rw [← hh, Bd.state]; rfl
  have N0 := Fr.nil n0
  have X0' : Stand p l e ({ frames := 5, cells := 2, slots := 84, locals := 93 } : Room) (s.setVm s.vm) m #[(.ref a), (.int on), (.ref b)] below meth c s₁ [] 0 0 := X0
  have hS0 : s.Since s.vm h0.size := State.WarmedH.since (State.WarmedH.refl s) _
  have wS : ∀ d ∈ Bundle.stringAtoms, d.before a0 Z = true := fun d hd => hw d ((by decide +kernel : ∀ d ∈ Bundle.stringAtoms, d ∈ tables_1) d hd)
  have k0 : Rch p e below (s₁.setTop (entryFrame m #[(.ref a), (.int on), (.ref b)] 3)) s₁ (mkF m 0 #[.val (.ref a), .val (.int on), .val (.ref b)] []) := fun tg kg => castTop (ef_rm_addIf m a on b) kg
  have lt_Pr_0 := own_ltN Pr_0.lt
  have lt_Pr_1 := own_ltN Pr_1.lt
  have lt_Pr_2 := own_ltN Pr_2.lt
  have lt_Pr_3 := own_ltN Pr_3.lt
  have lt_Pr_4 := own_ltN Pr_4.lt
  have lt_Pr_5 := own_ltN Pr_5.lt
  have lt_Pr_6 := own_ltN Pr_6.lt
  have lt_Pr_7 := own_ltN Pr_7.lt
  have lt_Pr_8 := own_ltN Pr_8.lt
  have lt_Pr_9 := own_ltN Pr_9.lt
  have lt_Ph_0 := own_ltN Ph_0.lt
  have lt_Ph_1 := own_ltN Ph_1.lt
  have lt_Ph_2 := own_ltN Ph_2.lt
  have lt_Ph_3 := own_ltN Ph_3.lt
  have lt_Pv_0 := own_ltN Pv_0.lt
  have lt_Pv_1 := own_ltN Pv_1.lt
  have lt_Pv_2 := own_ltN Pv_2.lt
  have lt_Pv_3 := own_ltN Pv_3.lt
  have lt_V_b := own_ltN V_b.lt
  have n_oA := own_ltN oA
  have n_oB := own_ltN oB
  have n_oC := own_ltN oC
  have n_oD := own_ltN oD
  have n_oE := own_ltN oE
  have k1 : Rch p e below (s₁.setTop (entryFrame m #[(.ref a), (.int on), (.ref b)] 3)) s₁ (mkF m 1 #[.val (.ref a), .val (.int on), .val (.ref b)] [(.int on)]) := fun tg kg => by
    refine k0 tg ?_
    show Steps p.tables e below (s₁.setTop (mkF m 0 #[.val (.ref a), .val (.int on), .val (.ref b)] [])) tg
    refine XS.iloadN X0'.here hx rfl (hb hby d12_0) rfl ?_
    exact kg
  by_cases hc1_2 : on = (0 : Int32)
  · have f3 : Fld Z h0 a "com/example/verum/verum/Relation" "size" "I" (.int (n + (0 : Int32))) := (by rw [Int32.add_zero]; exact Pr_6)
    have k4 : Rch p e below (s₁.setTop (entryFrame m #[(.ref a), (.int on), (.ref b)] 3)) s₁ (mkF m 5 #[.val (.ref a), .val (.int on), .val (.ref b)] [(.int (0 : Int32))]) := fun tg kg => by
      refine k1 tg ?_
      show Steps p.tables e below (s₁.setTop (mkF m 1 #[.val (.ref a), .val (.int on), .val (.ref b)] [(.int on)])) tg
      refine XS.ifNo X0'.here hx rfl (hb hby d12_1) rfl ((if0 _ _).trans (teq hc1_2).2) ?_
      refine XS.iconst X0'.here hx rfl (hb hby d12_4) ?_
      exact kg
    obtain ⟨fs5, hr5, hrun5, hended5, hEnd5⟩ := X0'.leaveW hS0 (by rw [e0]; first | exact Nat.le_refl _ | omega) (v := some (.int (0 : Int32))) (fun h => by rw [Bd.returns] at h; cases h)
    refine ⟨_, _, k4 _ ?_, hrun5, hended5, _, _, rfl, ?_, hEnd5.1, hEnd5.2.1, hEnd5.2.2.1, hEnd5.2.2.2.mono (by decide) (by decide)⟩
    · exact retOut X0' hx Bd.returns rfl (Or.inl ⟨rfl, Or.inl rfl, _, rfl⟩) (hb hby d12_5) hr5
    · show Q_rm_addIf Z a b hs pg pz hp ht kpg kpz khp kht n ds de rs ts kb xv on h0 n0 _ s₁.heap _
      rw [e0]
      exact ⟨(0 : Int32), rs, ts, rfl, N0, (Keep.refl h0 [a, pz, ht]), Pr_0, Pr_1, Pr_2, Pr_3, Pr_4, Pr_5, f3, Pr_7, Pr_8, Pr_9, Pv_1, Pv_3, (Or.inl rfl), (by rw [Int32.add_zero]; exact htab), hrs⟩
  · have k6 : Rch p e below (s₁.setTop (entryFrame m #[(.ref a), (.int on), (.ref b)] 3)) s₁ (mkF m 8 #[.val (.ref a), .val (.int on), .val (.ref b)] [(.ref b), (.ref a)]) := fun tg kg => by
      refine k1 tg ?_
      show Steps p.tables e below (s₁.setTop (mkF m 1 #[.val (.ref a), .val (.int on), .val (.ref b)] [(.int on)])) tg
      refine XS.ifYes X0'.here hx rfl (pc0 := 1) (pc' := 6) rfl (hb hby d12_1) rfl ((if0 _ _).trans (feq hc1_2).2) (by decide) (by decide) ?_
      refine XS.aloadN X0'.here hx rfl (hb hby d12_6) rfl rfl ?_
      refine XS.aloadN X0'.here hx rfl (hb hby d12_7) rfl rfl ?_
      exact kg
    obtain ⟨v7, T7, h7, Lc7, X7, e7, hQ7, hS7, hZ7, hown7, st7⟩ := own_callVW X0' hx hZ hown (hw _ (List.mem_of_getElem? (i := 111) rfl)) (hw _ (List.mem_of_getElem? (i := 112) rfl)) (notFace_of_selects (args := #[]) (mvT hZ (hw _ (List.mem_of_getElem? (i := 114) rfl)))) (hw _ (List.mem_of_getElem? (i := 114) rfl)) (hw _ (List.mem_of_getElem? (i := 113) rfl)) (hw _ (List.mem_of_getElem? (i := 115) rfl)) (hw _ (List.mem_of_getElem? (i := 3) rfl)) (by decide) (rm_add l Z a0 hw [] a b hs pg pz hp ht kpg kpz khp kht n ds de rs ts kb xv h0 n0 (by omega) Pr_0 Pr_1 Pr_2 Pr_3 Pr_4 Pr_5 Pr_6 Pr_7 Pr_8 Pr_9 Ph_0 Ph_1 Ph_2 Ph_3 Pv_0 Pv_1 Pv_2 Pv_3 V_b (by assumption) (by assumption) (by assumption) (by assumption) (by assumption) hn0 hn7 htab hrs (by assumption)) e0 hS0 (by first | exact Nat.le_refl _ | omega) Pr_0 (g := (mkF m 8 #[.val (.ref a), .val (.int on), .val (.ref b)] [(.ref b), (.ref a)])) rfl (by rw [hml]; rfl) (argsL := [(.ref b)]) (rest := []) rfl (lenOf pd_12 rfl) rfl (W := 0) (by show 2 * 0 + _ ≤ _; exact Nat.le_of_eq rfl) (hb hby d12_8) (by decide) (by decide) (by decide) (by decide)
    obtain ⟨rk, rqk, tqk, rfl, Nq7, K7, fq7_3, fq7_4, fq7_5, fq7_6, fq7_7, fq7_8, fq7_9, fq7_10, fq7_11, fq7_12, fq7_13, fq7_14, hp7_bit, hp7_tab, hp7_len⟩ := hQ7
    have N7 := Fr.app N0 Nq7
    have s7 : h0.size ≤ h7.size := K7.1
    have k8 : Rch p e below (s₁.setTop (entryFrame m #[(.ref a), (.int on), (.ref b)] 3)) T7 (mkF m 11 #[.val (.ref a), .val (.int on), .val (.ref b)] [(.int rk)]) := fun tg kg => k6 tg (st7 tg kg)
    have lt_fq7_3 := own_ltN fq7_3.lt
    have lt_fq7_4 := own_ltN fq7_4.lt
    have lt_fq7_5 := own_ltN fq7_5.lt
    have lt_fq7_6 := own_ltN fq7_6.lt
    have lt_fq7_7 := own_ltN fq7_7.lt
    have lt_fq7_8 := own_ltN fq7_8.lt
    have lt_fq7_9 := own_ltN fq7_9.lt
    have lt_fq7_10 := own_ltN fq7_10.lt
    have lt_fq7_11 := own_ltN fq7_11.lt
    have lt_fq7_12 := own_ltN fq7_12.lt
    have lt_fq7_13 := own_ltN fq7_13.lt
    have lt_fq7_14 := own_ltN fq7_14.lt
    by_cases hc11_9 : rk = (0 : Int32)
    · have k10 : Rch p e below (s₁.setTop (entryFrame m #[(.ref a), (.int on), (.ref b)] 3)) T7 (mkF m 19 #[.val (.ref a), .val (.int on), .val (.ref b)] [(.int (0 : Int32))]) := fun tg kg => by
        refine k8 tg ?_
        show Steps p.tables e below (T7.setTop (mkF m 11 #[.val (.ref a), .val (.int on), .val (.ref b)] [(.int rk)])) tg
        refine XS.ifYes X7.here hx rfl (pc0 := 11) (pc' := 18) rfl (hb hby d12_11) rfl ((if0 _ _).trans (teq hc11_9).1) (by decide) (by decide) ?_
        show Steps p.tables e below (T7.setTop (mkF m 18 #[.val (.ref a), .val (.int on), .val (.ref b)] [])) tg
        refine XS.iconst X7.here hx rfl (hb hby d12_18) ?_
        exact kg
      obtain ⟨fs11, hr11, hrun11, hended11, hEnd11⟩ := X7.leaveW hS7 (by rw [e7]; first | exact Nat.le_refl _ | omega) (v := some (.int (0 : Int32))) (fun h => by rw [Bd.returns] at h; cases h)
      refine ⟨_, _, k10 _ ?_, hrun11, hended11, _, _, rfl, ?_, hEnd11.1, hEnd11.2.1, hEnd11.2.2.1, hEnd11.2.2.2.mono (by decide) (by decide)⟩
      · exact retOut X7 hx Bd.returns rfl (Or.inl ⟨rfl, Or.inl rfl, _, rfl⟩) (hb hby d12_19) hr11
      · show Q_rm_addIf Z a b hs pg pz hp ht kpg kpz khp kht n ds de rs ts kb xv on h0 n0 _ T7.heap _
        rw [e7]
        exact ⟨rk, rqk, tqk, (by rw [hc11_9]), N7, ((Keep.refl h0 [a, pz, ht]).trans K7 (allS (Or.inl (List.mem_of_getElem? (i := 0) rfl)) (allS (Or.inl (List.mem_of_getElem? (i := 1) rfl)) (allS (Or.inl (List.mem_of_getElem? (i := 2) rfl)) all0)))), fq7_3, fq7_4, fq7_5, fq7_6, fq7_7, fq7_8, fq7_9, fq7_10, fq7_11, fq7_12, fq7_13, fq7_14, hp7_bit, hp7_tab, hp7_len⟩
    · have k12 : Rch p e below (s₁.setTop (entryFrame m #[(.ref a), (.int on), (.ref b)] 3)) T7 (mkF m 19 #[.val (.ref a), .val (.int on), .val (.ref b)] [(.int (1 : Int32))]) := fun tg kg => by
        refine k8 tg ?_
        show Steps p.tables e below (T7.setTop (mkF m 11 #[.val (.ref a), .val (.int on), .val (.ref b)] [(.int rk)])) tg
        refine XS.ifNo X7.here hx rfl (hb hby d12_11) rfl ((if0 _ _).trans (feq hc11_9).1) ?_
        show Steps p.tables e below (T7.setTop (mkF m 14 #[.val (.ref a), .val (.int on), .val (.ref b)] [])) tg
        refine XS.iconst X7.here hx rfl (hb hby d12_14) ?_
        refine XS.goto X7.here hx rfl (pc0 := 15) (pc' := 19) rfl (hb hby d12_15) (by decide) (by decide) ?_
        exact kg
      obtain ⟨fs13, hr13, hrun13, hended13, hEnd13⟩ := X7.leaveW hS7 (by rw [e7]; first | exact Nat.le_refl _ | omega) (v := some (.int (1 : Int32))) (fun h => by rw [Bd.returns] at h; cases h)
      refine ⟨_, _, k12 _ ?_, hrun13, hended13, _, _, rfl, ?_, hEnd13.1, hEnd13.2.1, hEnd13.2.2.1, hEnd13.2.2.2.mono (by decide) (by decide)⟩
      · exact retOut X7 hx Bd.returns rfl (Or.inl ⟨rfl, Or.inl rfl, _, rfl⟩) (hb hby d12_19) hr13
      · show Q_rm_addIf Z a b hs pg pz hp ht kpg kpz khp kht n ds de rs ts kb xv on h0 n0 _ T7.heap _
        rw [e7]
        exact ⟨rk, rqk, tqk, (by rw [own_r1 hp7_bit hc11_9]), N7, ((Keep.refl h0 [a, pz, ht]).trans K7 (allS (Or.inl (List.mem_of_getElem? (i := 0) rfl)) (allS (Or.inl (List.mem_of_getElem? (i := 1) rfl)) (allS (Or.inl (List.mem_of_getElem? (i := 2) rfl)) all0)))), fq7_3, fq7_4, fq7_5, fq7_6, fq7_7, fq7_8, fq7_9, fq7_10, fq7_11, fq7_12, fq7_13, fq7_14, hp7_bit, hp7_tab, hp7_len⟩
theorem ef_rm_next2 (m : MethodId) (x0 : Addr) : entryFrame m #[(.ref x0)] 1 = mkF m 0 #[.val (.ref x0)] [] := by first | (simp [entryFrame, mkF, argsToLocals, Value.category]; done) | rfl
def Q_rm_next2 (Z : State) (a : Addr) (hs : Addr) (pg : Addr) (n : Int32) (ds : Int32) (de : Int32) (h0 : Heap) (n0 : Nat) (v : Option Value) (h : Heap) (L : List Loc) : Prop := (v = some (.int (own_ltI de n))) ∧ (Fr n0 L) ∧ (Keep h0 h [a]) ∧ (Exa Z h a "com/example/verum/verum/Relation") ∧ (Fld Z h a "com/example/verum/verum/Relation" "slots" "Lcom/example/verum/verum/HashSlots;" (.ref hs)) ∧ (Fld Z h a "com/example/verum/verum/Relation" "arity" "I" (.int (1 : Int32))) ∧ (Fld Z h a "com/example/verum/verum/Relation" "pageBits" "I" (.int (16 : Int32))) ∧ (Fld Z h a "com/example/verum/verum/Relation" "pageMask" "I" (.int (65535 : Int32))) ∧ (Fld Z h a "com/example/verum/verum/Relation" "pages" "[[I" (.ref pg)) ∧ (Fld Z h a "com/example/verum/verum/Relation" "size" "I" (.int n)) ∧ (Fld Z h a "com/example/verum/verum/Relation" "deltaStart" "I" (.int de)) ∧ (Fld Z h a "com/example/verum/verum/Relation" "deltaEnd" "I" (.int n)) ∧ (Fld Z h a "com/example/verum/verum/Relation" "shared" "Z" (.int (0 : Int32)))
theorem d13_0 : decode prog_70_method_26_code 0 = .ok (.aload_n 0, 1) := by decide +kernel
theorem d13_1 : decode prog_70_method_26_code 1 = .ok (.aload_n 0, 1) := by decide +kernel
theorem d13_2 : decode prog_70_method_26_code 2 = .ok (.getfield 224, 3) := by decide +kernel
theorem d13_5 : decode prog_70_method_26_code 5 = .ok (.putfield 221, 3) := by decide +kernel
theorem d13_8 : decode prog_70_method_26_code 8 = .ok (.aload_n 0, 1) := by decide +kernel
theorem d13_9 : decode prog_70_method_26_code 9 = .ok (.aload_n 0, 1) := by decide +kernel
theorem d13_10 : decode prog_70_method_26_code 10 = .ok (.getfield 60, 3) := by decide +kernel
theorem d13_13 : decode prog_70_method_26_code 13 = .ok (.putfield 224, 3) := by decide +kernel
theorem d13_16 : decode prog_70_method_26_code 16 = .ok (.aload_n 0, 1) := by decide +kernel
theorem d13_17 : decode prog_70_method_26_code 17 = .ok (.getfield 221, 3) := by decide +kernel
theorem d13_20 : decode prog_70_method_26_code 20 = .ok (.aload_n 0, 1) := by decide +kernel
theorem d13_21 : decode prog_70_method_26_code 21 = .ok (.getfield 224, 3) := by decide +kernel
theorem d13_24 : decode prog_70_method_26_code 24 = .ok (.if_icmp .ge 7, 3) := by decide +kernel
theorem d13_27 : decode prog_70_method_26_code 27 = .ok (.iconst 1, 1) := by decide +kernel
theorem d13_28 : decode prog_70_method_26_code 28 = .ok (.goto 4, 3) := by decide +kernel
theorem d13_32 : decode prog_70_method_26_code 32 = .ok (.ireturn, 1) := by decide +kernel
theorem d13_31 : decode prog_70_method_26_code 31 = .ok (.iconst 0, 1) := by decide +kernel
set_option maxRecDepth 65536 in
set_option maxHeartbeats 40000000 in
theorem rm_next2 (l : Launch) (Z : State) (a0 : Array Value) (hw : ∀ d ∈ tables_1, d.before a0 Z = true) (ws : List Jvm.Cond) (a : Addr) (hs : Addr) (pg : Addr) (n : Int32) (ds : Int32) (de : Int32) (h0 : Heap) (n0 : Nat) (Z0 : n0 ≤ h0.size) (Pr_0 : Exa Z h0 a "com/example/verum/verum/Relation") (Pr_1 : Fld Z h0 a "com/example/verum/verum/Relation" "slots" "Lcom/example/verum/verum/HashSlots;" (.ref hs)) (Pr_2 : Fld Z h0 a "com/example/verum/verum/Relation" "arity" "I" (.int (1 : Int32))) (Pr_3 : Fld Z h0 a "com/example/verum/verum/Relation" "pageBits" "I" (.int (16 : Int32))) (Pr_4 : Fld Z h0 a "com/example/verum/verum/Relation" "pageMask" "I" (.int (65535 : Int32))) (Pr_5 : Fld Z h0 a "com/example/verum/verum/Relation" "pages" "[[I" (.ref pg)) (Pr_6 : Fld Z h0 a "com/example/verum/verum/Relation" "size" "I" (.int n)) (Pr_7 : Fld Z h0 a "com/example/verum/verum/Relation" "deltaStart" "I" (.int ds)) (Pr_8 : Fld Z h0 a "com/example/verum/verum/Relation" "deltaEnd" "I" (.int de)) (Pr_9 : Fld Z h0 a "com/example/verum/verum/Relation" "shared" "Z" (.int (0 : Int32))) (g_a : n0 ≤ a) :
    Con l Z (⟨"com/example/verum/verum/Relation", "nextRound", "()Z"⟩ : MethodName) prog_70_method_26_code 1 (some .boolean) ws ({ frames := 0, cells := 0, slots := 0, locals := 0 } : Room) #[(.ref a)] h0 (Q_rm_next2 Z a hs pg n ds de h0 n0) := by
  refine MetFree.of_bodySF (plainFor_of_name pn_Relation) hisR ?_
  intro p e s m args below meth c s₁ Bd hml0 hP hK
  obtain ⟨rfl, hZ, hh⟩ := hP
  have hx := Bd.exec
  have hby := Bd.bytes
  have hml : c.maxLocals = 1 := hml0
  have hown : s.vm.findClass "com/example/verum/verum/Relation" = some m.cls := findClass_of_methodNamed Bd.named
  have hnm := (name_of_methodNamed Bd.named Bd.method).1
  have X0 : Stand p l e ({ frames := 0, cells := 0, slots := 0, locals := 0 } : Room) s m #[(.ref a)] below meth c s₁ [] 0 0 := Stand.of_body Bd
  have e0 : s₁.heap = h0 := by rw [← hh, Bd.state]; rfl
  have N0 := Fr.nil n0
  have k0 : Rch p e below (s₁.setTop (entryFrame m #[(.ref a)] 1)) s₁ (mkF m 0 #[.val (.ref a)] []) := fun tg kg => castTop (ef_rm_next2 m a) kg
  have lt_Pr_0 := own_ltN Pr_0.lt
  have lt_Pr_1 := own_ltN Pr_1.lt
  have lt_Pr_2 := own_ltN Pr_2.lt
  have lt_Pr_3 := own_ltN Pr_3.lt
  have lt_Pr_4 := own_ltN Pr_4.lt
  have lt_Pr_5 := own_ltN Pr_5.lt
  have lt_Pr_6 := own_ltN Pr_6.lt
  have lt_Pr_7 := own_ltN Pr_7.lt
  have lt_Pr_8 := own_ltN Pr_8.lt
  have lt_Pr_9 := own_ltN Pr_9.lt
  have k1 : Rch p e below (s₁.setTop (entryFrame m #[(.ref a)] 1)) s₁ (mkF m 2 #[.val (.ref a)] [(.ref a), (.ref a)]) := fun tg kg => by
    refine k0 tg ?_
    show Steps p.tables e below (s₁.setTop (mkF m 0 #[.val (.ref a)] [])) tg
    refine XS.aloadN X0.here hx rfl (hb hby d13_0) rfl rfl ?_
    refine XS.aloadN X0.here hx rfl (hb hby d13_1) rfl rfl ?_
    exact kg
  obtain ⟨T2, X2, e2, st2⟩ := getF X0 hx hZ hown (host := "") (Or.inl (hw _ (List.mem_of_getElem? (i := 95) rfl))) Via.refl e0 Pr_8 (g := (mkF m 2 #[.val (.ref a)] [(.ref a), (.ref a)])) rfl rfl (hb hby d13_2)
  have k3 : Rch p e below (s₁.setTop (entryFrame m #[(.ref a)] 1)) T2 (mkF m 5 #[.val (.ref a)] [(.int de), (.ref a)]) := fun tg kg => k1 tg (st2 tg kg)
  obtain ⟨T4, h4, X4, e4, W4, st4⟩ := putF X2 hx hZ hown (host := "") (Or.inl (hw _ (List.mem_of_getElem? (i := 97) rfl))) Via.refl e2 Pr_7 Pr_0 (Or.inl (hw _ (List.mem_of_getElem? (i := 98) rfl))) (hw _ (List.mem_of_getElem? (i := 2) rfl)) (ty := .int) (by decide) rfl rfl (g := (mkF m 5 #[.val (.ref a)] [(.int de), (.ref a)])) rfl rfl (hb hby d13_5)
  have Fw4 := Pr_7.same W4
  have s4 : h4.size = h0.size := W4.size
  have N4 := Fr.snoc X4 N0 (by omega : n0 ≤ a)
  have k5 : Rch p e below (s₁.setTop (entryFrame m #[(.ref a)] 1)) T4 (mkF m 8 #[.val (.ref a)] []) := fun tg kg => k3 tg (st4 tg kg)
  have k6 : Rch p e below (s₁.setTop (entryFrame m #[(.ref a)] 1)) T4 (mkF m 10 #[.val (.ref a)] [(.ref a), (.ref a)]) := fun tg kg => by
    refine k5 tg ?_
    show Steps p.tables e below (T4.setTop (mkF m 8 #[.val (.ref a)] [])) tg
    refine XS.aloadN X4.here hx rfl (hb hby d13_8) rfl rfl ?_
    refine XS.aloadN X4.here hx rfl (hb hby d13_9) rfl rfl ?_
    exact kg
  have f7 : Fld Z h4 a "com/example/verum/verum/Relation" "size" "I" (.int n) := (Pr_6.other W4 (Or.inr (slot_ne (Or.inl (hw _ (List.mem_of_getElem? (i := 100) rfl))) (Or.inl (hw _ (List.mem_of_getElem? (i := 98) rfl))) (by decide) (t := .int) (t' := .int) (by decide) (by decide))))
  obtain ⟨T8, X8, e8, st8⟩ := getF X4 hx hZ hown (host := "") (Or.inl (hw _ (List.mem_of_getElem? (i := 99) rfl))) Via.refl e4 f7 (g := (mkF m 10 #[.val (.ref a)] [(.ref a), (.ref a)])) rfl rfl (hb hby d13_10)
  have k9 : Rch p e below (s₁.setTop (entryFrame m #[(.ref a)] 1)) T8 (mkF m 13 #[.val (.ref a)] [(.int n), (.ref a)]) := fun tg kg => k6 tg (st8 tg kg)
  have f10 : Fld Z h4 a "com/example/verum/verum/Relation" "deltaEnd" "I" (.int de) := (Pr_8.other W4 (Or.inr (slot_ne (Or.inl (hw _ (List.mem_of_getElem? (i := 96) rfl))) (Or.inl (hw _ (List.mem_of_getElem? (i := 98) rfl))) (by decide) (t := .int) (t' := .int) (by decide) (by decide))))
  have f11 : Exa Z h4 a "com/example/verum/verum/Relation" := (Pr_0.wr W4)
  obtain ⟨T12, h12, X12, e12, W12, st12⟩ := putF X8 hx hZ hown (host := "") (Or.inl (hw _ (List.mem_of_getElem? (i := 95) rfl))) Via.refl e8 f10 f11 (Or.inl (hw _ (List.mem_of_getElem? (i := 96) rfl))) (hw _ (List.mem_of_getElem? (i := 2) rfl)) (ty := .int) (by decide) rfl rfl (g := (mkF m 13 #[.val (.ref a)] [(.int n), (.ref a)])) rfl rfl (hb hby d13_13)
  have Fw12 := f10.same W12
  have s12 : h12.size = h4.size := W12.size
  have N12 := Fr.snoc X12 N4 (by omega : n0 ≤ a)
  have k13 : Rch p e below (s₁.setTop (entryFrame m #[(.ref a)] 1)) T12 (mkF m 16 #[.val (.ref a)] []) := fun tg kg => k9 tg (st12 tg kg)
  have k14 : Rch p e below (s₁.setTop (entryFrame m #[(.ref a)] 1)) T12 (mkF m 17 #[.val (.ref a)] [(.ref a)]) := fun tg kg => by
    refine k13 tg ?_
    show Steps p.tables e below (T12.setTop (mkF m 16 #[.val (.ref a)] [])) tg
    refine XS.aloadN X12.here hx rfl (hb hby d13_16) rfl rfl ?_
    exact kg
  have f15 : Fld Z h12 a "com/example/verum/verum/Relation" "deltaStart" "I" (.int de) := (Fw4.other W12 (Or.inr (slot_ne (Or.inl (hw _ (List.mem_of_getElem? (i := 98) rfl))) (Or.inl (hw _ (List.mem_of_getElem? (i := 96) rfl))) (by decide) (t := .int) (t' := .int) (by decide) (by decide))))
  obtain ⟨T16, X16, e16, st16⟩ := getF X12 hx hZ hown (host := "") (Or.inl (hw _ (List.mem_of_getElem? (i := 97) rfl))) Via.refl e12 f15 (g := (mkF m 17 #[.val (.ref a)] [(.ref a)])) rfl rfl (hb hby d13_17)
  have k17 : Rch p e below (s₁.setTop (entryFrame m #[(.ref a)] 1)) T16 (mkF m 20 #[.val (.ref a)] [(.int de)]) := fun tg kg => k14 tg (st16 tg kg)
  have k18 : Rch p e below (s₁.setTop (entryFrame m #[(.ref a)] 1)) T16 (mkF m 21 #[.val (.ref a)] [(.ref a), (.int de)]) := fun tg kg => by
    refine k17 tg ?_
    show Steps p.tables e below (T16.setTop (mkF m 20 #[.val (.ref a)] [(.int de)])) tg
    refine XS.aloadN X16.here hx rfl (hb hby d13_20) rfl rfl ?_
    exact kg
  obtain ⟨T19, X19, e19, st19⟩ := getF X16 hx hZ hown (host := "") (Or.inl (hw _ (List.mem_of_getElem? (i := 95) rfl))) Via.refl e16 Fw12 (g := (mkF m 21 #[.val (.ref a)] [(.ref a), (.int de)])) rfl rfl (hb hby d13_21)
  have k20 : Rch p e below (s₁.setTop (entryFrame m #[(.ref a)] 1)) T19 (mkF m 24 #[.val (.ref a)] [(.int n), (.int de)]) := fun tg kg => k18 tg (st19 tg kg)
  by_cases hc24_21 : de < n
  · have k22 : Rch p e below (s₁.setTop (entryFrame m #[(.ref a)] 1)) T19 (mkF m 32 #[.val (.ref a)] [(.int (1 : Int32))]) := fun tg kg => by
      refine k20 tg ?_
      show Steps p.tables e below (T19.setTop (mkF m 24 #[.val (.ref a)] [(.int n), (.int de)])) tg
      refine XS.icmpNo X19.here hx rfl (hb hby d13_24) rfl (tlt hc24_21).2.1 ?_
      refine XS.iconst X19.here hx rfl (hb hby d13_27) ?_
      refine XS.goto X19.here hx rfl (pc0 := 28) (pc' := 32) rfl (hb hby d13_28) (by decide) (by decide) ?_
      exact kg
    have f23 : Exa Z h12 a "com/example/verum/verum/Relation" := (f11.wr W12)
    have f24 : Fld Z h12 a "com/example/verum/verum/Relation" "slots" "Lcom/example/verum/verum/HashSlots;" (.ref hs) := ((Pr_1.other W4 (Or.inr (slot_ne (Or.inl (hw _ (List.mem_of_getElem? (i := 37) rfl))) (Or.inl (hw _ (List.mem_of_getElem? (i := 98) rfl))) (by decide) (t := (.object "com/example/verum/verum/HashSlots")) (t' := .int) (by decide) (by decide)))).other W12 (Or.inr (slot_ne (Or.inl (hw _ (List.mem_of_getElem? (i := 37) rfl))) (Or.inl (hw _ (List.mem_of_getElem? (i := 96) rfl))) (by decide) (t := (.object "com/example/verum/verum/HashSlots")) (t' := .int) (by decide) (by decide))))
    have f25 : Fld Z h12 a "com/example/verum/verum/Relation" "arity" "I" (.int (1 : Int32)) := ((Pr_2.other W4 (Or.inr (slot_ne (Or.inr (hw _ (List.mem_of_getElem? (i := 65) rfl))) (Or.inl (hw _ (List.mem_of_getElem? (i := 98) rfl))) (by decide) (t := .int) (t' := .int) (by decide) (by decide)))).other W12 (Or.inr (slot_ne (Or.inr (hw _ (List.mem_of_getElem? (i := 65) rfl))) (Or.inl (hw _ (List.mem_of_getElem? (i := 96) rfl))) (by decide) (t := .int) (t' := .int) (by decide) (by decide))))
    have f26 : Fld Z h12 a "com/example/verum/verum/Relation" "pageBits" "I" (.int (16 : Int32)) := ((Pr_3.other W4 (Or.inr (slot_ne (Or.inr (hw _ (List.mem_of_getElem? (i := 75) rfl))) (Or.inl (hw _ (List.mem_of_getElem? (i := 98) rfl))) (by decide) (t := .int) (t' := .int) (by decide) (by decide)))).other W12 (Or.inr (slot_ne (Or.inr (hw _ (List.mem_of_getElem? (i := 75) rfl))) (Or.inl (hw _ (List.mem_of_getElem? (i := 96) rfl))) (by decide) (t := .int) (t' := .int) (by decide) (by decide))))
    have f27 : Fld Z h12 a "com/example/verum/verum/Relation" "pageMask" "I" (.int (65535 : Int32)) := ((Pr_4.other W4 (Or.inr (slot_ne (Or.inr (hw _ (List.mem_of_getElem? (i := 77) rfl))) (Or.inl (hw _ (List.mem_of_getElem? (i := 98) rfl))) (by decide) (t := .int) (t' := .int) (by decide) (by decide)))).other W12 (Or.inr (slot_ne (Or.inr (hw _ (List.mem_of_getElem? (i := 77) rfl))) (Or.inl (hw _ (List.mem_of_getElem? (i := 96) rfl))) (by decide) (t := .int) (t' := .int) (by decide) (by decide))))
    have f28 : Fld Z h12 a "com/example/verum/verum/Relation" "pages" "[[I" (.ref pg) := ((Pr_5.other W4 (Or.inr (slot_ne (Or.inl (hw _ (List.mem_of_getElem? (i := 85) rfl))) (Or.inl (hw _ (List.mem_of_getElem? (i := 98) rfl))) (by decide) (t := (.array (.array .int))) (t' := .int) (by decide) (by decide)))).other W12 (Or.inr (slot_ne (Or.inl (hw _ (List.mem_of_getElem? (i := 85) rfl))) (Or.inl (hw _ (List.mem_of_getElem? (i := 96) rfl))) (by decide) (t := (.array (.array .int))) (t' := .int) (by decide) (by decide))))
    have f29 : Fld Z h12 a "com/example/verum/verum/Relation" "size" "I" (.int n) := (f7.other W12 (Or.inr (slot_ne (Or.inl (hw _ (List.mem_of_getElem? (i := 100) rfl))) (Or.inl (hw _ (List.mem_of_getElem? (i := 96) rfl))) (by decide) (t := .int) (t' := .int) (by decide) (by decide))))
    have f30 : Fld Z h12 a "com/example/verum/verum/Relation" "shared" "Z" (.int (0 : Int32)) := ((Pr_9.other W4 (Or.inr (slot_ne (Or.inl (hw _ (List.mem_of_getElem? (i := 179) rfl))) (Or.inl (hw _ (List.mem_of_getElem? (i := 98) rfl))) (by decide) (t := .boolean) (t' := .int) (by decide) (by decide)))).other W12 (Or.inr (slot_ne (Or.inl (hw _ (List.mem_of_getElem? (i := 179) rfl))) (Or.inl (hw _ (List.mem_of_getElem? (i := 96) rfl))) (by decide) (t := .boolean) (t' := .int) (by decide) (by decide))))
    obtain ⟨fs31, hr31, hrun31, hended31, hW31, hsame31⟩ := X19.leave (v := some (.int (nar .boolean (1 : Int32)))) (fun h => by rw [Bd.returns] at h; cases h)
    refine ⟨_, _, k22 _ ?_, hrun31, hended31, _, _, rfl, ?_, ⟨_, rfl⟩, hW31, hsame31.mono (by decide) (by decide)⟩
    · exact retN X19 hx (t := .boolean) Bd.returns (by simp) (hb hby d13_32) hr31
    · show Q_rm_next2 Z a hs pg n ds de h0 n0 _ T19.heap _
      rw [e19]
      exact ⟨(by rw [show own_ltI de n = 1 from if_pos hc24_21]; rfl), N12, (((Keep.refl h0 [a]).wr W4 (Or.inl (List.mem_of_getElem? (i := 0) rfl))).wr W12 (Or.inl (List.mem_of_getElem? (i := 0) rfl))), f23, f24, f25, f26, f27, f28, f29, f15, Fw12, f30⟩
  · have k32 : Rch p e below (s₁.setTop (entryFrame m #[(.ref a)] 1)) T19 (mkF m 32 #[.val (.ref a)] [(.int (0 : Int32))]) := fun tg kg => by
      refine k20 tg ?_
      show Steps p.tables e below (T19.setTop (mkF m 24 #[.val (.ref a)] [(.int n), (.int de)])) tg
      refine XS.icmpYes X19.here hx rfl (pc0 := 24) (pc' := 31) rfl (hb hby d13_24) rfl (flt hc24_21).2.1 (by decide) (by decide) ?_
      refine XS.iconst X19.here hx rfl (hb hby d13_31) ?_
      exact kg
    have f33 : Exa Z h12 a "com/example/verum/verum/Relation" := (f11.wr W12)
    have f34 : Fld Z h12 a "com/example/verum/verum/Relation" "slots" "Lcom/example/verum/verum/HashSlots;" (.ref hs) := ((Pr_1.other W4 (Or.inr (slot_ne (Or.inl (hw _ (List.mem_of_getElem? (i := 37) rfl))) (Or.inl (hw _ (List.mem_of_getElem? (i := 98) rfl))) (by decide) (t := (.object "com/example/verum/verum/HashSlots")) (t' := .int) (by decide) (by decide)))).other W12 (Or.inr (slot_ne (Or.inl (hw _ (List.mem_of_getElem? (i := 37) rfl))) (Or.inl (hw _ (List.mem_of_getElem? (i := 96) rfl))) (by decide) (t := (.object "com/example/verum/verum/HashSlots")) (t' := .int) (by decide) (by decide))))
    have f35 : Fld Z h12 a "com/example/verum/verum/Relation" "arity" "I" (.int (1 : Int32)) := ((Pr_2.other W4 (Or.inr (slot_ne (Or.inr (hw _ (List.mem_of_getElem? (i := 65) rfl))) (Or.inl (hw _ (List.mem_of_getElem? (i := 98) rfl))) (by decide) (t := .int) (t' := .int) (by decide) (by decide)))).other W12 (Or.inr (slot_ne (Or.inr (hw _ (List.mem_of_getElem? (i := 65) rfl))) (Or.inl (hw _ (List.mem_of_getElem? (i := 96) rfl))) (by decide) (t := .int) (t' := .int) (by decide) (by decide))))
    have f36 : Fld Z h12 a "com/example/verum/verum/Relation" "pageBits" "I" (.int (16 : Int32)) := ((Pr_3.other W4 (Or.inr (slot_ne (Or.inr (hw _ (List.mem_of_getElem? (i := 75) rfl))) (Or.inl (hw _ (List.mem_of_getElem? (i := 98) rfl))) (by decide) (t := .int) (t' := .int) (by decide) (by decide)))).other W12 (Or.inr (slot_ne (Or.inr (hw _ (List.mem_of_getElem? (i := 75) rfl))) (Or.inl (hw _ (List.mem_of_getElem? (i := 96) rfl))) (by decide) (t := .int) (t' := .int) (by decide) (by decide))))
    have f37 : Fld Z h12 a "com/example/verum/verum/Relation" "pageMask" "I" (.int (65535 : Int32)) := ((Pr_4.other W4 (Or.inr (slot_ne (Or.inr (hw _ (List.mem_of_getElem? (i := 77) rfl))) (Or.inl (hw _ (List.mem_of_getElem? (i := 98) rfl))) (by decide) (t := .int) (t' := .int) (by decide) (by decide)))).other W12 (Or.inr (slot_ne (Or.inr (hw _ (List.mem_of_getElem? (i := 77) rfl))) (Or.inl (hw _ (List.mem_of_getElem? (i := 96) rfl))) (by decide) (t := .int) (t' := .int) (by decide) (by decide))))
    have f38 : Fld Z h12 a "com/example/verum/verum/Relation" "pages" "[[I" (.ref pg) := ((Pr_5.other W4 (Or.inr (slot_ne (Or.inl (hw _ (List.mem_of_getElem? (i := 85) rfl))) (Or.inl (hw _ (List.mem_of_getElem? (i := 98) rfl))) (by decide) (t := (.array (.array .int))) (t' := .int) (by decide) (by decide)))).other W12 (Or.inr (slot_ne (Or.inl (hw _ (List.mem_of_getElem? (i := 85) rfl))) (Or.inl (hw _ (List.mem_of_getElem? (i := 96) rfl))) (by decide) (t := (.array (.array .int))) (t' := .int) (by decide) (by decide))))
    have f39 : Fld Z h12 a "com/example/verum/verum/Relation" "size" "I" (.int n) := (f7.other W12 (Or.inr (slot_ne (Or.inl (hw _ (List.mem_of_getElem? (i := 100) rfl))) (Or.inl (hw _ (List.mem_of_getElem? (i := 96) rfl))) (by decide) (t := .int) (t' := .int) (by decide) (by decide))))
    have f40 : Fld Z h12 a "com/example/verum/verum/Relation" "shared" "Z" (.int (0 : Int32)) := ((Pr_9.other W4 (Or.inr (slot_ne (Or.inl (hw _ (List.mem_of_getElem? (i := 179) rfl))) (Or.inl (hw _ (List.mem_of_getElem? (i := 98) rfl))) (by decide) (t := .boolean) (t' := .int) (by decide) (by decide)))).other W12 (Or.inr (slot_ne (Or.inl (hw _ (List.mem_of_getElem? (i := 179) rfl))) (Or.inl (hw _ (List.mem_of_getElem? (i := 96) rfl))) (by decide) (t := .boolean) (t' := .int) (by decide) (by decide))))
    obtain ⟨fs41, hr41, hrun41, hended41, hW41, hsame41⟩ := X19.leave (v := some (.int (nar .boolean (0 : Int32)))) (fun h => by rw [Bd.returns] at h; cases h)
    refine ⟨_, _, k32 _ ?_, hrun41, hended41, _, _, rfl, ?_, ⟨_, rfl⟩, hW41, hsame41.mono (by decide) (by decide)⟩
    · exact retN X19 hx (t := .boolean) Bd.returns (by simp) (hb hby d13_32) hr41
    · show Q_rm_next2 Z a hs pg n ds de h0 n0 _ T19.heap _
      rw [e19]
      exact ⟨(by rw [show own_ltI de n = 0 from if_neg hc24_21]; rfl), N12, (((Keep.refl h0 [a]).wr W4 (Or.inl (List.mem_of_getElem? (i := 0) rfl))).wr W12 (Or.inl (List.mem_of_getElem? (i := 0) rfl))), f33, f34, f35, f36, f37, f38, f39, f15, Fw12, f40⟩
theorem ef_rm_begin (m : MethodId) (x0 : Addr) : entryFrame m #[(.ref x0)] 1 = mkF m 0 #[.val (.ref x0)] [] := by first | (simp [entryFrame, mkF, argsToLocals, Value.category]; done) | rfl
def Q_rm_begin (Z : State) (a : Addr) (hs : Addr) (pg : Addr) (n : Int32) (ds : Int32) (de : Int32) (h0 : Heap) (n0 : Nat) (v : Option Value) (h : Heap) (L : List Loc) : Prop := (v = none) ∧ (Fr n0 L) ∧ (Keep h0 h [a]) ∧ (Exa Z h a "com/example/verum/verum/Relation") ∧ (Fld Z h a "com/example/verum/verum/Relation" "slots" "Lcom/example/verum/verum/HashSlots;" (.ref hs)) ∧ (Fld Z h a "com/example/verum/verum/Relation" "arity" "I" (.int (1 : Int32))) ∧ (Fld Z h a "com/example/verum/verum/Relation" "pageBits" "I" (.int (16 : Int32))) ∧ (Fld Z h a "com/example/verum/verum/Relation" "pageMask" "I" (.int (65535 : Int32))) ∧ (Fld Z h a "com/example/verum/verum/Relation" "pages" "[[I" (.ref pg)) ∧ (Fld Z h a "com/example/verum/verum/Relation" "size" "I" (.int n)) ∧ (Fld Z h a "com/example/verum/verum/Relation" "deltaStart" "I" (.int (0 : Int32))) ∧ (Fld Z h a "com/example/verum/verum/Relation" "deltaEnd" "I" (.int (0 : Int32))) ∧ (Fld Z h a "com/example/verum/verum/Relation" "shared" "Z" (.int (0 : Int32)))
theorem d31_0 : decode prog_70_method_25_code 0 = .ok (.aload_n 0, 1) := by decide +kernel
theorem d31_1 : decode prog_70_method_25_code 1 = .ok (.iconst 0, 1) := by decide +kernel
theorem d31_2 : decode prog_70_method_25_code 2 = .ok (.putfield 221, 3) := by decide +kernel
theorem d31_5 : decode prog_70_method_25_code 5 = .ok (.aload_n 0, 1) := by decide +kernel
theorem d31_6 : decode prog_70_method_25_code 6 = .ok (.iconst 0, 1) := by decide +kernel
theorem d31_7 : decode prog_70_method_25_code 7 = .ok (.putfield 224, 3) := by decide +kernel
theorem d31_10 : decode prog_70_method_25_code 10 = .ok (.return_, 1) := by decide +kernel
set_option maxRecDepth 65536 in
set_option maxHeartbeats 40000000 in
theorem rm_begin (l : Launch) (Z : State) (a0 : Array Value) (hw : ∀ d ∈ tables_1, d.before a0 Z = true) (ws : List Jvm.Cond) (a : Addr) (hs : Addr) (pg : Addr) (n : Int32) (ds : Int32) (de : Int32) (h0 : Heap) (n0 : Nat) (Z0 : n0 ≤ h0.size) (Pr_0 : Exa Z h0 a "com/example/verum/verum/Relation") (Pr_1 : Fld Z h0 a "com/example/verum/verum/Relation" "slots" "Lcom/example/verum/verum/HashSlots;" (.ref hs)) (Pr_2 : Fld Z h0 a "com/example/verum/verum/Relation" "arity" "I" (.int (1 : Int32))) (Pr_3 : Fld Z h0 a "com/example/verum/verum/Relation" "pageBits" "I" (.int (16 : Int32))) (Pr_4 : Fld Z h0 a "com/example/verum/verum/Relation" "pageMask" "I" (.int (65535 : Int32))) (Pr_5 : Fld Z h0 a "com/example/verum/verum/Relation" "pages" "[[I" (.ref pg)) (Pr_6 : Fld Z h0 a "com/example/verum/verum/Relation" "size" "I" (.int n)) (Pr_7 : Fld Z h0 a "com/example/verum/verum/Relation" "deltaStart" "I" (.int ds)) (Pr_8 : Fld Z h0 a "com/example/verum/verum/Relation" "deltaEnd" "I" (.int de)) (Pr_9 : Fld Z h0 a "com/example/verum/verum/Relation" "shared" "Z" (.int (0 : Int32))) (g_a : n0 ≤ a) :
    Con l Z (⟨"com/example/verum/verum/Relation", "beginFixpoint", "()V"⟩ : MethodName) prog_70_method_25_code 1 none ws ({ frames := 0, cells := 0, slots := 0, locals := 0 } : Room) #[(.ref a)] h0 (Q_rm_begin Z a hs pg n ds de h0 n0) := by
  refine MetFree.of_bodySF (plainFor_of_name pn_Relation) hisR ?_
  intro p e s m args below meth c s₁ Bd hml0 hP hK
  obtain ⟨rfl, hZ, hh⟩ := hP
  have hx := Bd.exec
  have hby := Bd.bytes
  have hml : c.maxLocals = 1 := hml0
  have hown : s.vm.findClass "com/example/verum/verum/Relation" = some m.cls := findClass_of_methodNamed Bd.named
  have hnm := (name_of_methodNamed Bd.named Bd.method).1
  have X0 : Stand p l e ({ frames := 0, cells := 0, slots := 0, locals := 0 } : Room) s m #[(.ref a)] below meth c s₁ [] 0 0 := Stand.of_body Bd
  have e0 : s₁.heap = h0 := by rw [← hh, Bd.state]; rfl
  have N0 := Fr.nil n0
  have k0 : Rch p e below (s₁.setTop (entryFrame m #[(.ref a)] 1)) s₁ (mkF m 0 #[.val (.ref a)] []) := fun tg kg => castTop (ef_rm_begin m a) kg
  have lt_Pr_0 := own_ltN Pr_0.lt
  have lt_Pr_1 := own_ltN Pr_1.lt
  have lt_Pr_2 := own_ltN Pr_2.lt
  have lt_Pr_3 := own_ltN Pr_3.lt
  have lt_Pr_4 := own_ltN Pr_4.lt
  have lt_Pr_5 := own_ltN Pr_5.lt
  have lt_Pr_6 := own_ltN Pr_6.lt
  have lt_Pr_7 := own_ltN Pr_7.lt
  have lt_Pr_8 := own_ltN Pr_8.lt
  have lt_Pr_9 := own_ltN Pr_9.lt
  have k1 : Rch p e below (s₁.setTop (entryFrame m #[(.ref a)] 1)) s₁ (mkF m 2 #[.val (.ref a)] [(.int (0 : Int32)), (.ref a)]) := fun tg kg => by
    refine k0 tg ?_
    show Steps p.tables e below (s₁.setTop (mkF m 0 #[.val (.ref a)] [])) tg
    refine XS.aloadN X0.here hx rfl (hb hby d31_0) rfl rfl ?_
    refine XS.iconst X0.here hx rfl (hb hby d31_1) ?_
    exact kg
  obtain ⟨T2, h2, X2, e2, W2, st2⟩ := putF X0 hx hZ hown (host := "") (Or.inl (hw _ (List.mem_of_getElem? (i := 97) rfl))) Via.refl e0 Pr_7 Pr_0 (Or.inl (hw _ (List.mem_of_getElem? (i := 98) rfl))) (hw _ (List.mem_of_getElem? (i := 2) rfl)) (ty := .int) (by decide) rfl rfl (g := (mkF m 2 #[.val (.ref a)] [(.int (0 : Int32)), (.ref a)])) rfl rfl (hb hby d31_2)
  have Fw2 := Pr_7.same W2
  have s2 : h2.size = h0.size := W2.size
  have N2 := Fr.snoc X2 N0 (by omega : n0 ≤ a)
  have k3 : Rch p e below (s₁.setTop (entryFrame m #[(.ref a)] 1)) T2 (mkF m 5 #[.val (.ref a)] []) := fun tg kg => k1 tg (st2 tg kg)
  have k4 : Rch p e below (s₁.setTop (entryFrame m #[(.ref a)] 1)) T2 (mkF m 7 #[.val (.ref a)] [(.int (0 : Int32)), (.ref a)]) := fun tg kg => by
    refine k3 tg ?_
    show Steps p.tables e below (T2.setTop (mkF m 5 #[.val (.ref a)] [])) tg
    refine XS.aloadN X2.here hx rfl (hb hby d31_5) rfl rfl ?_
    refine XS.iconst X2.here hx rfl (hb hby d31_6) ?_
    exact kg
  have f5 : Fld Z h2 a "com/example/verum/verum/Relation" "deltaEnd" "I" (.int de) := (Pr_8.other W2 (Or.inr (slot_ne (Or.inl (hw _ (List.mem_of_getElem? (i := 96) rfl))) (Or.inl (hw _ (List.mem_of_getElem? (i := 98) rfl))) (by decide) (t := .int) (t' := .int) (by decide) (by decide))))
  have f6 : Exa Z h2 a "com/example/verum/verum/Relation" := (Pr_0.wr W2)
  obtain ⟨T7, h7, X7, e7, W7, st7⟩ := putF X2 hx hZ hown (host := "") (Or.inl (hw _ (List.mem_of_getElem? (i := 95) rfl))) Via.refl e2 f5 f6 (Or.inl (hw _ (List.mem_of_getElem? (i := 96) rfl))) (hw _ (List.mem_of_getElem? (i := 2) rfl)) (ty := .int) (by decide) rfl rfl (g := (mkF m 7 #[.val (.ref a)] [(.int (0 : Int32)), (.ref a)])) rfl rfl (hb hby d31_7)
  have Fw7 := f5.same W7
  have s7 : h7.size = h2.size := W7.size
  have N7 := Fr.snoc X7 N2 (by omega : n0 ≤ a)
  have k8 : Rch p e below (s₁.setTop (entryFrame m #[(.ref a)] 1)) T7 (mkF m 10 #[.val (.ref a)] []) := fun tg kg => k4 tg (st7 tg kg)
  have f9 : Exa Z h7 a "com/example/verum/verum/Relation" := (f6.wr W7)
  have f10 : Fld Z h7 a "com/example/verum/verum/Relation" "slots" "Lcom/example/verum/verum/HashSlots;" (.ref hs) := ((Pr_1.other W2 (Or.inr (slot_ne (Or.inl (hw _ (List.mem_of_getElem? (i := 37) rfl))) (Or.inl (hw _ (List.mem_of_getElem? (i := 98) rfl))) (by decide) (t := (.object "com/example/verum/verum/HashSlots")) (t' := .int) (by decide) (by decide)))).other W7 (Or.inr (slot_ne (Or.inl (hw _ (List.mem_of_getElem? (i := 37) rfl))) (Or.inl (hw _ (List.mem_of_getElem? (i := 96) rfl))) (by decide) (t := (.object "com/example/verum/verum/HashSlots")) (t' := .int) (by decide) (by decide))))
  have f11 : Fld Z h7 a "com/example/verum/verum/Relation" "arity" "I" (.int (1 : Int32)) := ((Pr_2.other W2 (Or.inr (slot_ne (Or.inr (hw _ (List.mem_of_getElem? (i := 65) rfl))) (Or.inl (hw _ (List.mem_of_getElem? (i := 98) rfl))) (by decide) (t := .int) (t' := .int) (by decide) (by decide)))).other W7 (Or.inr (slot_ne (Or.inr (hw _ (List.mem_of_getElem? (i := 65) rfl))) (Or.inl (hw _ (List.mem_of_getElem? (i := 96) rfl))) (by decide) (t := .int) (t' := .int) (by decide) (by decide))))
  have f12 : Fld Z h7 a "com/example/verum/verum/Relation" "pageBits" "I" (.int (16 : Int32)) := ((Pr_3.other W2 (Or.inr (slot_ne (Or.inr (hw _ (List.mem_of_getElem? (i := 75) rfl))) (Or.inl (hw _ (List.mem_of_getElem? (i := 98) rfl))) (by decide) (t := .int) (t' := .int) (by decide) (by decide)))).other W7 (Or.inr (slot_ne (Or.inr (hw _ (List.mem_of_getElem? (i := 75) rfl))) (Or.inl (hw _ (List.mem_of_getElem? (i := 96) rfl))) (by decide) (t := .int) (t' := .int) (by decide) (by decide))))
  have f13 : Fld Z h7 a "com/example/verum/verum/Relation" "pageMask" "I" (.int (65535 : Int32)) := ((Pr_4.other W2 (Or.inr (slot_ne (Or.inr (hw _ (List.mem_of_getElem? (i := 77) rfl))) (Or.inl (hw _ (List.mem_of_getElem? (i := 98) rfl))) (by decide) (t := .int) (t' := .int) (by decide) (by decide)))).other W7 (Or.inr (slot_ne (Or.inr (hw _ (List.mem_of_getElem? (i := 77) rfl))) (Or.inl (hw _ (List.mem_of_getElem? (i := 96) rfl))) (by decide) (t := .int) (t' := .int) (by decide) (by decide))))
  have f14 : Fld Z h7 a "com/example/verum/verum/Relation" "pages" "[[I" (.ref pg) := ((Pr_5.other W2 (Or.inr (slot_ne (Or.inl (hw _ (List.mem_of_getElem? (i := 85) rfl))) (Or.inl (hw _ (List.mem_of_getElem? (i := 98) rfl))) (by decide) (t := (.array (.array .int))) (t' := .int) (by decide) (by decide)))).other W7 (Or.inr (slot_ne (Or.inl (hw _ (List.mem_of_getElem? (i := 85) rfl))) (Or.inl (hw _ (List.mem_of_getElem? (i := 96) rfl))) (by decide) (t := (.array (.array .int))) (t' := .int) (by decide) (by decide))))
  have f15 : Fld Z h7 a "com/example/verum/verum/Relation" "size" "I" (.int n) := ((Pr_6.other W2 (Or.inr (slot_ne (Or.inl (hw _ (List.mem_of_getElem? (i := 100) rfl))) (Or.inl (hw _ (List.mem_of_getElem? (i := 98) rfl))) (by decide) (t := .int) (t' := .int) (by decide) (by decide)))).other W7 (Or.inr (slot_ne (Or.inl (hw _ (List.mem_of_getElem? (i := 100) rfl))) (Or.inl (hw _ (List.mem_of_getElem? (i := 96) rfl))) (by decide) (t := .int) (t' := .int) (by decide) (by decide))))
  have f16 : Fld Z h7 a "com/example/verum/verum/Relation" "deltaStart" "I" (.int (0 : Int32)) := (Fw2.other W7 (Or.inr (slot_ne (Or.inl (hw _ (List.mem_of_getElem? (i := 98) rfl))) (Or.inl (hw _ (List.mem_of_getElem? (i := 96) rfl))) (by decide) (t := .int) (t' := .int) (by decide) (by decide))))
  have f17 : Fld Z h7 a "com/example/verum/verum/Relation" "shared" "Z" (.int (0 : Int32)) := ((Pr_9.other W2 (Or.inr (slot_ne (Or.inl (hw _ (List.mem_of_getElem? (i := 179) rfl))) (Or.inl (hw _ (List.mem_of_getElem? (i := 98) rfl))) (by decide) (t := .boolean) (t' := .int) (by decide) (by decide)))).other W7 (Or.inr (slot_ne (Or.inl (hw _ (List.mem_of_getElem? (i := 179) rfl))) (Or.inl (hw _ (List.mem_of_getElem? (i := 96) rfl))) (by decide) (t := .boolean) (t' := .int) (by decide) (by decide))))
  obtain ⟨fs18, hr18, hrun18, hended18, hW18, hsame18⟩ := X7.leave (v := none) (fun _ => rfl)
  refine ⟨_, _, k8 _ ?_, hrun18, hended18, _, _, rfl, ?_, ⟨_, rfl⟩, hW18, hsame18.mono (by decide) (by decide)⟩
  · exact X7.returnOut hx Bd.returns (hb hby d31_10) hr18
  · show Q_rm_begin Z a hs pg n ds de h0 n0 _ T7.heap _
    rw [e7]
    exact ⟨rfl, N7, (((Keep.refl h0 [a]).wr W2 (Or.inl (List.mem_of_getElem? (i := 0) rfl))).wr W7 (Or.inl (List.mem_of_getElem? (i := 0) rfl))), f9, f10, f11, f12, f13, f14, f15, f16, Fw7, f17⟩
theorem ef_rm_settle (m : MethodId) (x0 : Addr) : entryFrame m #[(.ref x0)] 1 = mkF m 0 #[.val (.ref x0)] [] := by first | (simp [entryFrame, mkF, argsToLocals, Value.category]; done) | rfl
def Q_rm_settle (Z : State) (a : Addr) (hs : Addr) (pg : Addr) (n : Int32) (ds : Int32) (de : Int32) (h0 : Heap) (n0 : Nat) (v : Option Value) (h : Heap) (L : List Loc) : Prop := (v = none) ∧ (Fr n0 L) ∧ (Keep h0 h [a]) ∧ (Exa Z h a "com/example/verum/verum/Relation") ∧ (Fld Z h a "com/example/verum/verum/Relation" "slots" "Lcom/example/verum/verum/HashSlots;" (.ref hs)) ∧ (Fld Z h a "com/example/verum/verum/Relation" "arity" "I" (.int (1 : Int32))) ∧ (Fld Z h a "com/example/verum/verum/Relation" "pageBits" "I" (.int (16 : Int32))) ∧ (Fld Z h a "com/example/verum/verum/Relation" "pageMask" "I" (.int (65535 : Int32))) ∧ (Fld Z h a "com/example/verum/verum/Relation" "pages" "[[I" (.ref pg)) ∧ (Fld Z h a "com/example/verum/verum/Relation" "size" "I" (.int n)) ∧ (Fld Z h a "com/example/verum/verum/Relation" "deltaStart" "I" (.int n)) ∧ (Fld Z h a "com/example/verum/verum/Relation" "deltaEnd" "I" (.int n)) ∧ (Fld Z h a "com/example/verum/verum/Relation" "shared" "Z" (.int (0 : Int32)))
theorem d33_0 : decode prog_70_method_27_code 0 = .ok (.aload_n 0, 1) := by decide +kernel
theorem d33_1 : decode prog_70_method_27_code 1 = .ok (.aload_n 0, 1) := by decide +kernel
theorem d33_2 : decode prog_70_method_27_code 2 = .ok (.getfield 60, 3) := by decide +kernel
theorem d33_5 : decode prog_70_method_27_code 5 = .ok (.putfield 221, 3) := by decide +kernel
theorem d33_8 : decode prog_70_method_27_code 8 = .ok (.aload_n 0, 1) := by decide +kernel
theorem d33_9 : decode prog_70_method_27_code 9 = .ok (.aload_n 0, 1) := by decide +kernel
theorem d33_10 : decode prog_70_method_27_code 10 = .ok (.getfield 60, 3) := by decide +kernel
theorem d33_13 : decode prog_70_method_27_code 13 = .ok (.putfield 224, 3) := by decide +kernel
theorem d33_16 : decode prog_70_method_27_code 16 = .ok (.return_, 1) := by decide +kernel
set_option maxRecDepth 65536 in
set_option maxHeartbeats 40000000 in
theorem rm_settle (l : Launch) (Z : State) (a0 : Array Value) (hw : ∀ d ∈ tables_1, d.before a0 Z = true) (ws : List Jvm.Cond) (a : Addr) (hs : Addr) (pg : Addr) (n : Int32) (ds : Int32) (de : Int32) (h0 : Heap) (n0 : Nat) (Z0 : n0 ≤ h0.size) (Pr_0 : Exa Z h0 a "com/example/verum/verum/Relation") (Pr_1 : Fld Z h0 a "com/example/verum/verum/Relation" "slots" "Lcom/example/verum/verum/HashSlots;" (.ref hs)) (Pr_2 : Fld Z h0 a "com/example/verum/verum/Relation" "arity" "I" (.int (1 : Int32))) (Pr_3 : Fld Z h0 a "com/example/verum/verum/Relation" "pageBits" "I" (.int (16 : Int32))) (Pr_4 : Fld Z h0 a "com/example/verum/verum/Relation" "pageMask" "I" (.int (65535 : Int32))) (Pr_5 : Fld Z h0 a "com/example/verum/verum/Relation" "pages" "[[I" (.ref pg)) (Pr_6 : Fld Z h0 a "com/example/verum/verum/Relation" "size" "I" (.int n)) (Pr_7 : Fld Z h0 a "com/example/verum/verum/Relation" "deltaStart" "I" (.int ds)) (Pr_8 : Fld Z h0 a "com/example/verum/verum/Relation" "deltaEnd" "I" (.int de)) (Pr_9 : Fld Z h0 a "com/example/verum/verum/Relation" "shared" "Z" (.int (0 : Int32))) (g_a : n0 ≤ a) :
    Con l Z (⟨"com/example/verum/verum/Relation", "settle", "()V"⟩ : MethodName) prog_70_method_27_code 1 none ws ({ frames := 0, cells := 0, slots := 0, locals := 0 } : Room) #[(.ref a)] h0 (Q_rm_settle Z a hs pg n ds de h0 n0) := by
  refine MetFree.of_bodySF (plainFor_of_name pn_Relation) hisR ?_
  intro p e s m args below meth c s₁ Bd hml0 hP hK
  obtain ⟨rfl, hZ, hh⟩ := hP
  have hx := Bd.exec
  have hby := Bd.bytes
  have hml : c.maxLocals = 1 := hml0
  have hown : s.vm.findClass "com/example/verum/verum/Relation" = some m.cls := findClass_of_methodNamed Bd.named
  have hnm := (name_of_methodNamed Bd.named Bd.method).1
  have X0 : Stand p l e ({ frames := 0, cells := 0, slots := 0, locals := 0 } : Room) s m #[(.ref a)] below meth c s₁ [] 0 0 := Stand.of_body Bd
  have e0 : s₁.heap = h0 := by rw [← hh, Bd.state]; rfl
  have N0 := Fr.nil n0
  have k0 : Rch p e below (s₁.setTop (entryFrame m #[(.ref a)] 1)) s₁ (mkF m 0 #[.val (.ref a)] []) := fun tg kg => castTop (ef_rm_settle m a) kg
  have lt_Pr_0 := own_ltN Pr_0.lt
  have lt_Pr_1 := own_ltN Pr_1.lt
  have lt_Pr_2 := own_ltN Pr_2.lt
  have lt_Pr_3 := own_ltN Pr_3.lt
  have lt_Pr_4 := own_ltN Pr_4.lt
  have lt_Pr_5 := own_ltN Pr_5.lt
  have lt_Pr_6 := own_ltN Pr_6.lt
  have lt_Pr_7 := own_ltN Pr_7.lt
  have lt_Pr_8 := own_ltN Pr_8.lt
  have lt_Pr_9 := own_ltN Pr_9.lt
  have k1 : Rch p e below (s₁.setTop (entryFrame m #[(.ref a)] 1)) s₁ (mkF m 2 #[.val (.ref a)] [(.ref a), (.ref a)]) := fun tg kg => by
    refine k0 tg ?_
    show Steps p.tables e below (s₁.setTop (mkF m 0 #[.val (.ref a)] [])) tg
    refine XS.aloadN X0.here hx rfl (hb hby d33_0) rfl rfl ?_
    refine XS.aloadN X0.here hx rfl (hb hby d33_1) rfl rfl ?_
    exact kg
  obtain ⟨T2, X2, e2, st2⟩ := getF X0 hx hZ hown (host := "") (Or.inl (hw _ (List.mem_of_getElem? (i := 99) rfl))) Via.refl e0 Pr_6 (g := (mkF m 2 #[.val (.ref a)] [(.ref a), (.ref a)])) rfl rfl (hb hby d33_2)
  have k3 : Rch p e below (s₁.setTop (entryFrame m #[(.ref a)] 1)) T2 (mkF m 5 #[.val (.ref a)] [(.int n), (.ref a)]) := fun tg kg => k1 tg (st2 tg kg)
  obtain ⟨T4, h4, X4, e4, W4, st4⟩ := putF X2 hx hZ hown (host := "") (Or.inl (hw _ (List.mem_of_getElem? (i := 97) rfl))) Via.refl e2 Pr_7 Pr_0 (Or.inl (hw _ (List.mem_of_getElem? (i := 98) rfl))) (hw _ (List.mem_of_getElem? (i := 2) rfl)) (ty := .int) (by decide) rfl rfl (g := (mkF m 5 #[.val (.ref a)] [(.int n), (.ref a)])) rfl rfl (hb hby d33_5)
  have Fw4 := Pr_7.same W4
  have s4 : h4.size = h0.size := W4.size
  have N4 := Fr.snoc X4 N0 (by omega : n0 ≤ a)
  have k5 : Rch p e below (s₁.setTop (entryFrame m #[(.ref a)] 1)) T4 (mkF m 8 #[.val (.ref a)] []) := fun tg kg => k3 tg (st4 tg kg)
  have k6 : Rch p e below (s₁.setTop (entryFrame m #[(.ref a)] 1)) T4 (mkF m 10 #[.val (.ref a)] [(.ref a), (.ref a)]) := fun tg kg => by
    refine k5 tg ?_
    show Steps p.tables e below (T4.setTop (mkF m 8 #[.val (.ref a)] [])) tg
    refine XS.aloadN X4.here hx rfl (hb hby d33_8) rfl rfl ?_
    refine XS.aloadN X4.here hx rfl (hb hby d33_9) rfl rfl ?_
    exact kg
  have f7 : Fld Z h4 a "com/example/verum/verum/Relation" "size" "I" (.int n) := (Pr_6.other W4 (Or.inr (slot_ne (Or.inl (hw _ (List.mem_of_getElem? (i := 100) rfl))) (Or.inl (hw _ (List.mem_of_getElem? (i := 98) rfl))) (by decide) (t := .int) (t' := .int) (by decide) (by decide))))
  obtain ⟨T8, X8, e8, st8⟩ := getF X4 hx hZ hown (host := "") (Or.inl (hw _ (List.mem_of_getElem? (i := 99) rfl))) Via.refl e4 f7 (g := (mkF m 10 #[.val (.ref a)] [(.ref a), (.ref a)])) rfl rfl (hb hby d33_10)
  have k9 : Rch p e below (s₁.setTop (entryFrame m #[(.ref a)] 1)) T8 (mkF m 13 #[.val (.ref a)] [(.int n), (.ref a)]) := fun tg kg => k6 tg (st8 tg kg)
  have f10 : Fld Z h4 a "com/example/verum/verum/Relation" "deltaEnd" "I" (.int de) := (Pr_8.other W4 (Or.inr (slot_ne (Or.inl (hw _ (List.mem_of_getElem? (i := 96) rfl))) (Or.inl (hw _ (List.mem_of_getElem? (i := 98) rfl))) (by decide) (t := .int) (t' := .int) (by decide) (by decide))))
  have f11 : Exa Z h4 a "com/example/verum/verum/Relation" := (Pr_0.wr W4)
  obtain ⟨T12, h12, X12, e12, W12, st12⟩ := putF X8 hx hZ hown (host := "") (Or.inl (hw _ (List.mem_of_getElem? (i := 95) rfl))) Via.refl e8 f10 f11 (Or.inl (hw _ (List.mem_of_getElem? (i := 96) rfl))) (hw _ (List.mem_of_getElem? (i := 2) rfl)) (ty := .int) (by decide) rfl rfl (g := (mkF m 13 #[.val (.ref a)] [(.int n), (.ref a)])) rfl rfl (hb hby d33_13)
  have Fw12 := f10.same W12
  have s12 : h12.size = h4.size := W12.size
  have N12 := Fr.snoc X12 N4 (by omega : n0 ≤ a)
  have k13 : Rch p e below (s₁.setTop (entryFrame m #[(.ref a)] 1)) T12 (mkF m 16 #[.val (.ref a)] []) := fun tg kg => k9 tg (st12 tg kg)
  have f14 : Exa Z h12 a "com/example/verum/verum/Relation" := (f11.wr W12)
  have f15 : Fld Z h12 a "com/example/verum/verum/Relation" "slots" "Lcom/example/verum/verum/HashSlots;" (.ref hs) := ((Pr_1.other W4 (Or.inr (slot_ne (Or.inl (hw _ (List.mem_of_getElem? (i := 37) rfl))) (Or.inl (hw _ (List.mem_of_getElem? (i := 98) rfl))) (by decide) (t := (.object "com/example/verum/verum/HashSlots")) (t' := .int) (by decide) (by decide)))).other W12 (Or.inr (slot_ne (Or.inl (hw _ (List.mem_of_getElem? (i := 37) rfl))) (Or.inl (hw _ (List.mem_of_getElem? (i := 96) rfl))) (by decide) (t := (.object "com/example/verum/verum/HashSlots")) (t' := .int) (by decide) (by decide))))
  have f16 : Fld Z h12 a "com/example/verum/verum/Relation" "arity" "I" (.int (1 : Int32)) := ((Pr_2.other W4 (Or.inr (slot_ne (Or.inr (hw _ (List.mem_of_getElem? (i := 65) rfl))) (Or.inl (hw _ (List.mem_of_getElem? (i := 98) rfl))) (by decide) (t := .int) (t' := .int) (by decide) (by decide)))).other W12 (Or.inr (slot_ne (Or.inr (hw _ (List.mem_of_getElem? (i := 65) rfl))) (Or.inl (hw _ (List.mem_of_getElem? (i := 96) rfl))) (by decide) (t := .int) (t' := .int) (by decide) (by decide))))
  have f17 : Fld Z h12 a "com/example/verum/verum/Relation" "pageBits" "I" (.int (16 : Int32)) := ((Pr_3.other W4 (Or.inr (slot_ne (Or.inr (hw _ (List.mem_of_getElem? (i := 75) rfl))) (Or.inl (hw _ (List.mem_of_getElem? (i := 98) rfl))) (by decide) (t := .int) (t' := .int) (by decide) (by decide)))).other W12 (Or.inr (slot_ne (Or.inr (hw _ (List.mem_of_getElem? (i := 75) rfl))) (Or.inl (hw _ (List.mem_of_getElem? (i := 96) rfl))) (by decide) (t := .int) (t' := .int) (by decide) (by decide))))
  have f18 : Fld Z h12 a "com/example/verum/verum/Relation" "pageMask" "I" (.int (65535 : Int32)) := ((Pr_4.other W4 (Or.inr (slot_ne (Or.inr (hw _ (List.mem_of_getElem? (i := 77) rfl))) (Or.inl (hw _ (List.mem_of_getElem? (i := 98) rfl))) (by decide) (t := .int) (t' := .int) (by decide) (by decide)))).other W12 (Or.inr (slot_ne (Or.inr (hw _ (List.mem_of_getElem? (i := 77) rfl))) (Or.inl (hw _ (List.mem_of_getElem? (i := 96) rfl))) (by decide) (t := .int) (t' := .int) (by decide) (by decide))))
  have f19 : Fld Z h12 a "com/example/verum/verum/Relation" "pages" "[[I" (.ref pg) := ((Pr_5.other W4 (Or.inr (slot_ne (Or.inl (hw _ (List.mem_of_getElem? (i := 85) rfl))) (Or.inl (hw _ (List.mem_of_getElem? (i := 98) rfl))) (by decide) (t := (.array (.array .int))) (t' := .int) (by decide) (by decide)))).other W12 (Or.inr (slot_ne (Or.inl (hw _ (List.mem_of_getElem? (i := 85) rfl))) (Or.inl (hw _ (List.mem_of_getElem? (i := 96) rfl))) (by decide) (t := (.array (.array .int))) (t' := .int) (by decide) (by decide))))
  have f20 : Fld Z h12 a "com/example/verum/verum/Relation" "size" "I" (.int n) := (f7.other W12 (Or.inr (slot_ne (Or.inl (hw _ (List.mem_of_getElem? (i := 100) rfl))) (Or.inl (hw _ (List.mem_of_getElem? (i := 96) rfl))) (by decide) (t := .int) (t' := .int) (by decide) (by decide))))
  have f21 : Fld Z h12 a "com/example/verum/verum/Relation" "deltaStart" "I" (.int n) := (Fw4.other W12 (Or.inr (slot_ne (Or.inl (hw _ (List.mem_of_getElem? (i := 98) rfl))) (Or.inl (hw _ (List.mem_of_getElem? (i := 96) rfl))) (by decide) (t := .int) (t' := .int) (by decide) (by decide))))
  have f22 : Fld Z h12 a "com/example/verum/verum/Relation" "shared" "Z" (.int (0 : Int32)) := ((Pr_9.other W4 (Or.inr (slot_ne (Or.inl (hw _ (List.mem_of_getElem? (i := 179) rfl))) (Or.inl (hw _ (List.mem_of_getElem? (i := 98) rfl))) (by decide) (t := .boolean) (t' := .int) (by decide) (by decide)))).other W12 (Or.inr (slot_ne (Or.inl (hw _ (List.mem_of_getElem? (i := 179) rfl))) (Or.inl (hw _ (List.mem_of_getElem? (i := 96) rfl))) (by decide) (t := .boolean) (t' := .int) (by decide) (by decide))))
  obtain ⟨fs23, hr23, hrun23, hended23, hW23, hsame23⟩ := X12.leave (v := none) (fun _ => rfl)
  refine ⟨_, _, k13 _ ?_, hrun23, hended23, _, _, rfl, ?_, ⟨_, rfl⟩, hW23, hsame23.mono (by decide) (by decide)⟩
  · exact X12.returnOut hx Bd.returns (hb hby d33_16) hr23
  · show Q_rm_settle Z a hs pg n ds de h0 n0 _ T12.heap _
    rw [e12]
    exact ⟨rfl, N12, (((Keep.refl h0 [a]).wr W4 (Or.inl (List.mem_of_getElem? (i := 0) rfl))).wr W12 (Or.inl (List.mem_of_getElem? (i := 0) rfl))), f14, f15, f16, f17, f18, f19, f20, f21, Fw12, f22⟩
theorem ef_rm_ds (m : MethodId) (x0 : Addr) : entryFrame m #[(.ref x0)] 1 = mkF m 0 #[.val (.ref x0)] [] := by first | (simp [entryFrame, mkF, argsToLocals, Value.category]; done) | rfl
def Q_rm_ds (Z : State) (a : Addr) (hs : Addr) (pg : Addr) (n : Int32) (ds : Int32) (de : Int32) (h0 : Heap) (n0 : Nat) (v : Option Value) (h : Heap) (L : List Loc) : Prop := (v = some (.int ds)) ∧ (Fr n0 L) ∧ (h = h0)
theorem d14_0 : decode prog_70_method_23_code 0 = .ok (.aload_n 0, 1) := by decide +kernel
theorem d14_1 : decode prog_70_method_23_code 1 = .ok (.getfield 221, 3) := by decide +kernel
theorem d14_4 : decode prog_70_method_23_code 4 = .ok (.ireturn, 1) := by decide +kernel
set_option maxRecDepth 65536 in
set_option maxHeartbeats 40000000 in
theorem rm_ds (l : Launch) (Z : State) (a0 : Array Value) (hw : ∀ d ∈ tables_1, d.before a0 Z = true) (ws : List Jvm.Cond) (a : Addr) (hs : Addr) (pg : Addr) (n : Int32) (ds : Int32) (de : Int32) (h0 : Heap) (n0 : Nat) (Z0 : n0 ≤ h0.size) (Pr_0 : Exa Z h0 a "com/example/verum/verum/Relation") (Pr_1 : Fld Z h0 a "com/example/verum/verum/Relation" "slots" "Lcom/example/verum/verum/HashSlots;" (.ref hs)) (Pr_2 : Fld Z h0 a "com/example/verum/verum/Relation" "arity" "I" (.int (1 : Int32))) (Pr_3 : Fld Z h0 a "com/example/verum/verum/Relation" "pageBits" "I" (.int (16 : Int32))) (Pr_4 : Fld Z h0 a "com/example/verum/verum/Relation" "pageMask" "I" (.int (65535 : Int32))) (Pr_5 : Fld Z h0 a "com/example/verum/verum/Relation" "pages" "[[I" (.ref pg)) (Pr_6 : Fld Z h0 a "com/example/verum/verum/Relation" "size" "I" (.int n)) (Pr_7 : Fld Z h0 a "com/example/verum/verum/Relation" "deltaStart" "I" (.int ds)) (Pr_8 : Fld Z h0 a "com/example/verum/verum/Relation" "deltaEnd" "I" (.int de)) (Pr_9 : Fld Z h0 a "com/example/verum/verum/Relation" "shared" "Z" (.int (0 : Int32))) (g_a : n0 ≤ a) :
    Con l Z (⟨"com/example/verum/verum/Relation", "deltaStart", "()I"⟩ : MethodName) prog_70_method_23_code 1 (some .int) ws ({ frames := 0, cells := 0, slots := 0, locals := 0 } : Room) #[(.ref a)] h0 (Q_rm_ds Z a hs pg n ds de h0 n0) := by
  refine MetFree.of_bodySF (plainFor_of_name pn_Relation) hisR ?_
  intro p e s m args below meth c s₁ Bd hml0 hP hK
  obtain ⟨rfl, hZ, hh⟩ := hP
  have hx := Bd.exec
  have hby := Bd.bytes
  have hml : c.maxLocals = 1 := hml0
  have hown : s.vm.findClass "com/example/verum/verum/Relation" = some m.cls := findClass_of_methodNamed Bd.named
  have hnm := (name_of_methodNamed Bd.named Bd.method).1
  have X0 : Stand p l e ({ frames := 0, cells := 0, slots := 0, locals := 0 } : Room) s m #[(.ref a)] below meth c s₁ [] 0 0 := Stand.of_body Bd
  have e0 : s₁.heap = h0 := by rw [← hh, Bd.state]; rfl
  have N0 := Fr.nil n0
  have k0 : Rch p e below (s₁.setTop (entryFrame m #[(.ref a)] 1)) s₁ (mkF m 0 #[.val (.ref a)] []) := fun tg kg => castTop (ef_rm_ds m a) kg
  have lt_Pr_0 := own_ltN Pr_0.lt
  have lt_Pr_1 := own_ltN Pr_1.lt
  have lt_Pr_2 := own_ltN Pr_2.lt
  have lt_Pr_3 := own_ltN Pr_3.lt
  have lt_Pr_4 := own_ltN Pr_4.lt
  have lt_Pr_5 := own_ltN Pr_5.lt
  have lt_Pr_6 := own_ltN Pr_6.lt
  have lt_Pr_7 := own_ltN Pr_7.lt
  have lt_Pr_8 := own_ltN Pr_8.lt
  have lt_Pr_9 := own_ltN Pr_9.lt
  have k1 : Rch p e below (s₁.setTop (entryFrame m #[(.ref a)] 1)) s₁ (mkF m 1 #[.val (.ref a)] [(.ref a)]) := fun tg kg => by
    refine k0 tg ?_
    show Steps p.tables e below (s₁.setTop (mkF m 0 #[.val (.ref a)] [])) tg
    refine XS.aloadN X0.here hx rfl (hb hby d14_0) rfl rfl ?_
    exact kg
  obtain ⟨T2, X2, e2, st2⟩ := getF X0 hx hZ hown (host := "") (Or.inl (hw _ (List.mem_of_getElem? (i := 97) rfl))) Via.refl e0 Pr_7 (g := (mkF m 1 #[.val (.ref a)] [(.ref a)])) rfl rfl (hb hby d14_1)
  have k3 : Rch p e below (s₁.setTop (entryFrame m #[(.ref a)] 1)) T2 (mkF m 4 #[.val (.ref a)] [(.int ds)]) := fun tg kg => k1 tg (st2 tg kg)
  obtain ⟨fs4, hr4, hrun4, hended4, hW4, hsame4⟩ := X2.leave (v := some (.int ds)) (fun h => by rw [Bd.returns] at h; cases h)
  refine ⟨_, _, k3 _ ?_, hrun4, hended4, _, _, rfl, ?_, ⟨_, rfl⟩, hW4, hsame4.mono (by decide) (by decide)⟩
  · exact retOut X2 hx Bd.returns rfl (Or.inl ⟨rfl, Or.inl rfl, _, rfl⟩) (hb hby d14_4) hr4
  · show Q_rm_ds Z a hs pg n ds de h0 n0 _ T2.heap _
    rw [e2]
    exact ⟨rfl, N0, rfl⟩
theorem ef_rm_de (m : MethodId) (x0 : Addr) : entryFrame m #[(.ref x0)] 1 = mkF m 0 #[.val (.ref x0)] [] := by first | (simp [entryFrame, mkF, argsToLocals, Value.category]; done) | rfl
def Q_rm_de (Z : State) (a : Addr) (hs : Addr) (pg : Addr) (n : Int32) (ds : Int32) (de : Int32) (h0 : Heap) (n0 : Nat) (v : Option Value) (h : Heap) (L : List Loc) : Prop := (v = some (.int de)) ∧ (Fr n0 L) ∧ (h = h0)
theorem d15_0 : decode prog_70_method_24_code 0 = .ok (.aload_n 0, 1) := by decide +kernel
theorem d15_1 : decode prog_70_method_24_code 1 = .ok (.getfield 224, 3) := by decide +kernel
theorem d15_4 : decode prog_70_method_24_code 4 = .ok (.ireturn, 1) := by decide +kernel
set_option maxRecDepth 65536 in
set_option maxHeartbeats 40000000 in
theorem rm_de (l : Launch) (Z : State) (a0 : Array Value) (hw : ∀ d ∈ tables_1, d.before a0 Z = true) (ws : List Jvm.Cond) (a : Addr) (hs : Addr) (pg : Addr) (n : Int32) (ds : Int32) (de : Int32) (h0 : Heap) (n0 : Nat) (Z0 : n0 ≤ h0.size) (Pr_0 : Exa Z h0 a "com/example/verum/verum/Relation") (Pr_1 : Fld Z h0 a "com/example/verum/verum/Relation" "slots" "Lcom/example/verum/verum/HashSlots;" (.ref hs)) (Pr_2 : Fld Z h0 a "com/example/verum/verum/Relation" "arity" "I" (.int (1 : Int32))) (Pr_3 : Fld Z h0 a "com/example/verum/verum/Relation" "pageBits" "I" (.int (16 : Int32))) (Pr_4 : Fld Z h0 a "com/example/verum/verum/Relation" "pageMask" "I" (.int (65535 : Int32))) (Pr_5 : Fld Z h0 a "com/example/verum/verum/Relation" "pages" "[[I" (.ref pg)) (Pr_6 : Fld Z h0 a "com/example/verum/verum/Relation" "size" "I" (.int n)) (Pr_7 : Fld Z h0 a "com/example/verum/verum/Relation" "deltaStart" "I" (.int ds)) (Pr_8 : Fld Z h0 a "com/example/verum/verum/Relation" "deltaEnd" "I" (.int de)) (Pr_9 : Fld Z h0 a "com/example/verum/verum/Relation" "shared" "Z" (.int (0 : Int32))) (g_a : n0 ≤ a) :
    Con l Z (⟨"com/example/verum/verum/Relation", "deltaEnd", "()I"⟩ : MethodName) prog_70_method_24_code 1 (some .int) ws ({ frames := 0, cells := 0, slots := 0, locals := 0 } : Room) #[(.ref a)] h0 (Q_rm_de Z a hs pg n ds de h0 n0) := by
  refine MetFree.of_bodySF (plainFor_of_name pn_Relation) hisR ?_
  intro p e s m args below meth c s₁ Bd hml0 hP hK
  obtain ⟨rfl, hZ, hh⟩ := hP
  have hx := Bd.exec
  have hby := Bd.bytes
  have hml : c.maxLocals = 1 := hml0
  have hown : s.vm.findClass "com/example/verum/verum/Relation" = some m.cls := findClass_of_methodNamed Bd.named
  have hnm := (name_of_methodNamed Bd.named Bd.method).1
  have X0 : Stand p l e ({ frames := 0, cells := 0, slots := 0, locals := 0 } : Room) s m #[(.ref a)] below meth c s₁ [] 0 0 := Stand.of_body Bd
  have e0 : s₁.heap = h0 := by rw [← hh, Bd.state]; rfl
  have N0 := Fr.nil n0
  have k0 : Rch p e below (s₁.setTop (entryFrame m #[(.ref a)] 1)) s₁ (mkF m 0 #[.val (.ref a)] []) := fun tg kg => castTop (ef_rm_de m a) kg
  have lt_Pr_0 := own_ltN Pr_0.lt
  have lt_Pr_1 := own_ltN Pr_1.lt
  have lt_Pr_2 := own_ltN Pr_2.lt
  have lt_Pr_3 := own_ltN Pr_3.lt
  have lt_Pr_4 := own_ltN Pr_4.lt
  have lt_Pr_5 := own_ltN Pr_5.lt
  have lt_Pr_6 := own_ltN Pr_6.lt
  have lt_Pr_7 := own_ltN Pr_7.lt
  have lt_Pr_8 := own_ltN Pr_8.lt
  have lt_Pr_9 := own_ltN Pr_9.lt
  have k1 : Rch p e below (s₁.setTop (entryFrame m #[(.ref a)] 1)) s₁ (mkF m 1 #[.val (.ref a)] [(.ref a)]) := fun tg kg => by
    refine k0 tg ?_
    show Steps p.tables e below (s₁.setTop (mkF m 0 #[.val (.ref a)] [])) tg
    refine XS.aloadN X0.here hx rfl (hb hby d15_0) rfl rfl ?_
    exact kg
  obtain ⟨T2, X2, e2, st2⟩ := getF X0 hx hZ hown (host := "") (Or.inl (hw _ (List.mem_of_getElem? (i := 95) rfl))) Via.refl e0 Pr_8 (g := (mkF m 1 #[.val (.ref a)] [(.ref a)])) rfl rfl (hb hby d15_1)
  have k3 : Rch p e below (s₁.setTop (entryFrame m #[(.ref a)] 1)) T2 (mkF m 4 #[.val (.ref a)] [(.int de)]) := fun tg kg => k1 tg (st2 tg kg)
  obtain ⟨fs4, hr4, hrun4, hended4, hW4, hsame4⟩ := X2.leave (v := some (.int de)) (fun h => by rw [Bd.returns] at h; cases h)
  refine ⟨_, _, k3 _ ?_, hrun4, hended4, _, _, rfl, ?_, ⟨_, rfl⟩, hW4, hsame4.mono (by decide) (by decide)⟩
  · exact retOut X2 hx Bd.returns rfl (Or.inl ⟨rfl, Or.inl rfl, _, rfl⟩) (hb hby d15_4) hr4
  · show Q_rm_de Z a hs pg n ds de h0 n0 _ T2.heap _
    rw [e2]
    exact ⟨rfl, N0, rfl⟩
theorem ef_rm0 (m : MethodId) (x0 : Int32) (x1 : Int32) (x2 : Int32) (x3 : Int32) (x4 : Int32) : entryFrame m #[(.int x0), (.int x1), (.int x2), (.int x3), (.int x4)] maxLocals = mkF m 0 #[.val (.int x0), .val (.int x1), .val (.int x2), .val (.int x3), .val (.int x4), .unset, .unset, .unset, .unset, .unset, .unset, .unset, .unset, .unset, .unset, .unset, .unset, .unset, .unset] [] := by first | (simp [entryFrame, mkF, argsToLocals, Value.category, maxLocals]; done) | rfl
def Q_rm0 (Z : State) (p1 : Int32) (p2 : Int32) (p3 : Int32) (p4 : Int32) (p5 : Int32) (ed : Addr) (h0 : Heap) (n0 : Nat) (v : Option Value) (h : Heap) (L : List Loc) : Prop := (v = some (.int 1)) ∧ (Fr n0 L)
theorem pd_13 : parseMethodDescriptor "(I)V" = some ⟨[.int], none⟩ := by decide +kernel
theorem pd_14 : parseMethodDescriptor "(Lcom/example/verum/verum/Relation;Z[I)I" = some ⟨[(.object "com/example/verum/verum/Relation"), .boolean, (.array .int)], some .int⟩ := by decide +kernel
theorem pd_15 : parseMethodDescriptor "()Z" = some ⟨[], some .boolean⟩ := by decide +kernel
theorem pd_16 : parseMethodDescriptor "()I" = some ⟨[], some .int⟩ := by decide +kernel
set_option maxRecDepth 65536 in
set_option maxHeartbeats 40000000 in
theorem rm0 (l : Launch) (Z : State) (a0 : Array Value) (hw : ∀ d ∈ tables_1, d.before a0 Z = true) (ws : List Jvm.Cond) (p1 : Int32) (p2 : Int32) (p3 : Int32) (p4 : Int32) (p5 : Int32) (ed : Addr) (h0 : Heap) (n0 : Nat) (Z0 : n0 ≤ h0.size) (S_ed : Sta Z Z.heap "java/util/ArrayList" "DEFAULTCAPACITY_EMPTY_ELEMENTDATA" "[Ljava/lang/Object;" (.ref ed)) (OL : Old Z n0 h0) :
    ConW l Z x code maxLocals ret ws room_1 #[(.int p1), (.int p2), (.int p3), (.int p4), (.int p5)] h0 (Q_rm0 Z p1 p2 p3 p4 p5 ed h0 n0) := by
  refine MetFree.of_bodySF (plainFor_of_name pn_RelationNextRoundPinLaw) hisR ?_
  intro p e s m args below meth c s₁ Bd hml0 hP hK
  obtain ⟨rfl, hZ, hh⟩ := hP
  have hx := Bd.exec
  have hby := Bd.bytes
  have hml : c.maxLocals = 19 := hml0
  have hown : s.vm.findClass "com/example/verum/verum/RelationNextRoundPinLaw" = some m.cls := findClass_of_methodNamed Bd.named
  have hnm := (name_of_methodNamed Bd.named Bd.method).1
  have X0 : Stand p l e room_1 s m #[(.int p1), (.int p2), (.int p3), (.int p4), (.int p5)] below meth c s₁ [] 0 0 := Stand.of_body Bd
  have e0 : s₁.heap = h0 := by rw [← hh, Bd.state]; rfl
  have N0 := Fr.nil n0
  have X0' : Stand p l e room_1 (s.setVm s.vm) m #[(.int p1), (.int p2), (.int p3), (.int p4), (.int p5)] below meth c s₁ [] 0 0 := X0
  have hS0 : s.Since s.vm h0.size := State.WarmedH.since (State.WarmedH.refl s) _
  have wS : ∀ d ∈ Bundle.stringAtoms, d.before a0 Z = true := fun d hd => hw d ((by decide +kernel : ∀ d ∈ Bundle.stringAtoms, d ∈ tables_1) d hd)
  have k0 : Rch p e below (s₁.setTop (entryFrame m #[(.int p1), (.int p2), (.int p3), (.int p4), (.int p5)] maxLocals)) s₁ (mkF m 0 #[.val (.int p1), .val (.int p2), .val (.int p3), .val (.int p4), .val (.int p5), .unset, .unset, .unset, .unset, .unset, .unset, .unset, .unset, .unset, .unset, .unset, .unset, .unset, .unset] []) := fun tg kg => castTop (ef_rm0 m p1 p2 p3 p4 p5) kg
  have k1 : Rch p e below (s₁.setTop (entryFrame m #[(.int p1), (.int p2), (.int p3), (.int p4), (.int p5)] maxLocals)) s₁ (mkF m 1 #[.val (.int p1), .val (.int p2), .val (.int p3), .val (.int p4), .val (.int p5), .unset, .unset, .unset, .unset, .unset, .unset, .unset, .unset, .unset, .unset, .unset, .unset, .unset, .unset] [(.int (1 : Int32))]) := fun tg kg => by
    refine k0 tg ?_
    show Steps p.tables e below (s₁.setTop (mkF m 0 #[.val (.int p1), .val (.int p2), .val (.int p3), .val (.int p4), .val (.int p5), .unset, .unset, .unset, .unset, .unset, .unset, .unset, .unset, .unset, .unset, .unset, .unset, .unset, .unset] [])) tg
    refine XS.iconst X0'.here hx rfl (hb hby at_0) ?_
    exact kg
  obtain ⟨T2, h2, c2, X2, e2, E2, A2, st2⟩ := newP X0' hx hZ (hw _ (List.mem_of_getElem? (i := 0) rfl)) e0 (g := (mkF m 1 #[.val (.int p1), .val (.int p2), .val (.int p3), .val (.int p4), .val (.int p5), .unset, .unset, .unset, .unset, .unset, .unset, .unset, .unset, .unset, .unset, .unset, .unset, .unset, .unset] [(.int (1 : Int32))])) rfl (hb hby at_1) rfl (by decide) (cap := 1) (by decide) (by decide) (by decide) (by decide)
  obtain ⟨b2, g2⟩ : ∃ z, z = h0.size := ⟨_, rfl⟩
  rw [← g2] at A2 st2
  have s2 : h0.size ≤ h2.size := E2.1
  have lt2 : b2 < h2.size := A2.lt
  have k3 : Rch p e below (s₁.setTop (entryFrame m #[(.int p1), (.int p2), (.int p3), (.int p4), (.int p5)] maxLocals)) T2 (mkF m 3 #[.val (.int p1), .val (.int p2), .val (.int p3), .val (.int p4), .val (.int p5), .unset, .unset, .unset, .unset, .unset, .unset, .unset, .unset, .unset, .unset, .unset, .unset, .unset, .unset] [(.ref b2)]) := fun tg kg => k1 tg (st2 tg kg)
  have V2 : Arv Z h2 b2 c2 .int (1 : Int32) [(.int (0 : Int32))] (.int (0 : Int32)) := (Arv.new A2 (by decide)).pad (pad_rep [] (.int (0 : Int32)) 1)
  have k4 : Rch p e below (s₁.setTop (entryFrame m #[(.int p1), (.int p2), (.int p3), (.int p4), (.int p5)] maxLocals)) T2 (mkF m 6 #[.val (.int p1), .val (.int p2), .val (.int p3), .val (.int p4), .val (.int p5), .unset, .unset, .unset, .unset, .unset, .unset, .unset, .unset, .unset, .unset, .unset, .unset, .unset, .unset] [(.int p2), (.int (0 : Int32)), (.ref b2), (.ref b2)]) := fun tg kg => by
    refine k3 tg ?_
    show Steps p.tables e below (T2.setTop (mkF m 3 #[.val (.int p1), .val (.int p2), .val (.int p3), .val (.int p4), .val (.int p5), .unset, .unset, .unset, .unset, .unset, .unset, .unset, .unset, .unset, .unset, .unset, .unset, .unset, .unset] [(.ref b2)])) tg
    refine XS.dup X2.here hx rfl (hb hby at_3) rfl rfl ?_
    refine XS.iconst X2.here hx rfl (hb hby at_4) ?_
    refine XS.iloadN X2.here hx rfl (hb hby at_5) rfl ?_
    exact kg
  obtain ⟨cl5, Ar5, q5, S5, N5', H5, G5⟩ := V2
  have hin5 : ¬ ((0 : Int32) < 0 ∨ cl5.slots.size ≤ ((0 : Int32)).toNatClampNeg) := inb_of S5 ⟨by decide, by decide⟩
  obtain ⟨T5, h5, X5, e5, W5, st5⟩ := stI X2 hx hZ e2 Ar5 (j := (0 : Int32)) hin5 (g := (mkF m 6 #[.val (.int p1), .val (.int p2), .val (.int p3), .val (.int p4), .val (.int p5), .unset, .unset, .unset, .unset, .unset, .unset, .unset, .unset, .unset, .unset, .unset, .unset, .unset, .unset] [(.int p2), (.int (0 : Int32)), (.ref b2), (.ref b2)])) rfl rfl (hb hby at_6)
  have s5 : h5.size = h2.size := W5.size
  have N5 := Fr.snoc X5 N0 (by omega : n0 ≤ b2)
  have k6 : Rch p e below (s₁.setTop (entryFrame m #[(.int p1), (.int p2), (.int p3), (.int p4), (.int p5)] maxLocals)) T5 (mkF m 7 #[.val (.int p1), .val (.int p2), .val (.int p3), .val (.int p4), .val (.int p5), .unset, .unset, .unset, .unset, .unset, .unset, .unset, .unset, .unset, .unset, .unset, .unset, .unset, .unset] [(.ref b2)]) := fun tg kg => k4 tg (st5 tg kg)
  have V5 : Arv Z h5 b2 c2 .int (1 : Int32) [(.int p2)] (.int (0 : Int32)) := Arv.set Ar5 q5 S5 N5' H5 G5 rfl W5 0 rfl (Nat.le_of_ble_eq_true rfl)
  have k7 : Rch p e below (s₁.setTop (entryFrame m #[(.int p1), (.int p2), (.int p3), (.int p4), (.int p5)] maxLocals)) T5 (mkF m 10 #[.val (.int p1), .val (.int p2), .val (.int p3), .val (.int p4), .val (.int p5), .val (.ref b2), .unset, .unset, .unset, .unset, .unset, .unset, .unset, .unset, .unset, .unset, .unset, .unset, .unset] [(.int (1 : Int32))]) := fun tg kg => by
    refine k6 tg ?_
    show Steps p.tables e below (T5.setTop (mkF m 7 #[.val (.int p1), .val (.int p2), .val (.int p3), .val (.int p4), .val (.int p5), .unset, .unset, .unset, .unset, .unset, .unset, .unset, .unset, .unset, .unset, .unset, .unset, .unset, .unset] [(.ref b2)])) tg
    refine XS.astore X5.here hx rfl (hb hby at_7) rfl rfl (l' := #[.val (.int p1), .val (.int p2), .val (.int p3), .val (.int p4), .val (.int p5), .val (.ref b2), .unset, .unset, .unset, .unset, .unset, .unset, .unset, .unset, .unset, .unset, .unset, .unset, .unset]) rfl ?_
    show Steps p.tables e below (T5.setTop (mkF m 9 #[.val (.int p1), .val (.int p2), .val (.int p3), .val (.int p4), .val (.int p5), .val (.ref b2), .unset, .unset, .unset, .unset, .unset, .unset, .unset, .unset, .unset, .unset, .unset, .unset, .unset] [])) tg
    refine XS.iconst X5.here hx rfl (hb hby at_9) ?_
    exact kg
  obtain ⟨T8, h8, c8, X8, e8, E8, A8, st8⟩ := newP X5 hx hZ (hw _ (List.mem_of_getElem? (i := 0) rfl)) e5 (g := (mkF m 10 #[.val (.int p1), .val (.int p2), .val (.int p3), .val (.int p4), .val (.int p5), .val (.ref b2), .unset, .unset, .unset, .unset, .unset, .unset, .unset, .unset, .unset, .unset, .unset, .unset, .unset] [(.int (1 : Int32))])) rfl (hb hby at_10) rfl (by decide) (cap := 1) (by decide) (by decide) (by decide) (by decide)
  obtain ⟨b8, g8⟩ : ∃ z, z = h5.size := ⟨_, rfl⟩
  rw [← g8] at A8 st8
  have s8 : h5.size ≤ h8.size := E8.1
  have lt8 : b8 < h8.size := A8.lt
  have k9 : Rch p e below (s₁.setTop (entryFrame m #[(.int p1), (.int p2), (.int p3), (.int p4), (.int p5)] maxLocals)) T8 (mkF m 12 #[.val (.int p1), .val (.int p2), .val (.int p3), .val (.int p4), .val (.int p5), .val (.ref b2), .unset, .unset, .unset, .unset, .unset, .unset, .unset, .unset, .unset, .unset, .unset, .unset, .unset] [(.ref b8)]) := fun tg kg => k7 tg (st8 tg kg)
  have V8 : Arv Z h8 b8 c8 .int (1 : Int32) [(.int (0 : Int32))] (.int (0 : Int32)) := (Arv.new A8 (by decide)).pad (pad_rep [] (.int (0 : Int32)) 1)
  have k10 : Rch p e below (s₁.setTop (entryFrame m #[(.int p1), (.int p2), (.int p3), (.int p4), (.int p5)] maxLocals)) T8 (mkF m 15 #[.val (.int p1), .val (.int p2), .val (.int p3), .val (.int p4), .val (.int p5), .val (.ref b2), .unset, .unset, .unset, .unset, .unset, .unset, .unset, .unset, .unset, .unset, .unset, .unset, .unset] [(.int p3), (.int (0 : Int32)), (.ref b8), (.ref b8)]) := fun tg kg => by
    refine k9 tg ?_
    show Steps p.tables e below (T8.setTop (mkF m 12 #[.val (.int p1), .val (.int p2), .val (.int p3), .val (.int p4), .val (.int p5), .val (.ref b2), .unset, .unset, .unset, .unset, .unset, .unset, .unset, .unset, .unset, .unset, .unset, .unset, .unset] [(.ref b8)])) tg
    refine XS.dup X8.here hx rfl (hb hby at_12) rfl rfl ?_
    refine XS.iconst X8.here hx rfl (hb hby at_13) ?_
    refine XS.iloadN X8.here hx rfl (hb hby at_14) rfl ?_
    exact kg
  obtain ⟨cl11, Ar11, q11, S11, N11', H11, G11⟩ := V8
  have hin11 : ¬ ((0 : Int32) < 0 ∨ cl11.slots.size ≤ ((0 : Int32)).toNatClampNeg) := inb_of S11 ⟨by decide, by decide⟩
  obtain ⟨T11, h11, X11, e11, W11, st11⟩ := stI X8 hx hZ e8 Ar11 (j := (0 : Int32)) hin11 (g := (mkF m 15 #[.val (.int p1), .val (.int p2), .val (.int p3), .val (.int p4), .val (.int p5), .val (.ref b2), .unset, .unset, .unset, .unset, .unset, .unset, .unset, .unset, .unset, .unset, .unset, .unset, .unset] [(.int p3), (.int (0 : Int32)), (.ref b8), (.ref b8)])) rfl rfl (hb hby at_15)
  have s11 : h11.size = h8.size := W11.size
  have N11 := Fr.snoc X11 N5 (by omega : n0 ≤ b8)
  have k12 : Rch p e below (s₁.setTop (entryFrame m #[(.int p1), (.int p2), (.int p3), (.int p4), (.int p5)] maxLocals)) T11 (mkF m 16 #[.val (.int p1), .val (.int p2), .val (.int p3), .val (.int p4), .val (.int p5), .val (.ref b2), .unset, .unset, .unset, .unset, .unset, .unset, .unset, .unset, .unset, .unset, .unset, .unset, .unset] [(.ref b8)]) := fun tg kg => k10 tg (st11 tg kg)
  have V11 : Arv Z h11 b8 c8 .int (1 : Int32) [(.int p3)] (.int (0 : Int32)) := Arv.set Ar11 q11 S11 N11' H11 G11 rfl W11 0 rfl (Nat.le_of_ble_eq_true rfl)
  have k13 : Rch p e below (s₁.setTop (entryFrame m #[(.int p1), (.int p2), (.int p3), (.int p4), (.int p5)] maxLocals)) T11 (mkF m 19 #[.val (.int p1), .val (.int p2), .val (.int p3), .val (.int p4), .val (.int p5), .val (.ref b2), .val (.ref b8), .unset, .unset, .unset, .unset, .unset, .unset, .unset, .unset, .unset, .unset, .unset, .unset] [(.int (1 : Int32))]) := fun tg kg => by
    refine k12 tg ?_
    show Steps p.tables e below (T11.setTop (mkF m 16 #[.val (.int p1), .val (.int p2), .val (.int p3), .val (.int p4), .val (.int p5), .val (.ref b2), .unset, .unset, .unset, .unset, .unset, .unset, .unset, .unset, .unset, .unset, .unset, .unset, .unset] [(.ref b8)])) tg
    refine XS.astore X11.here hx rfl (hb hby at_16) rfl rfl (l' := #[.val (.int p1), .val (.int p2), .val (.int p3), .val (.int p4), .val (.int p5), .val (.ref b2), .val (.ref b8), .unset, .unset, .unset, .unset, .unset, .unset, .unset, .unset, .unset, .unset, .unset, .unset]) rfl ?_
    refine XS.iconst X11.here hx rfl (hb hby at_18) ?_
    exact kg
  obtain ⟨T14, h14, c14, X14, e14, E14, A14, st14⟩ := newP X11 hx hZ (hw _ (List.mem_of_getElem? (i := 0) rfl)) e11 (g := (mkF m 19 #[.val (.int p1), .val (.int p2), .val (.int p3), .val (.int p4), .val (.int p5), .val (.ref b2), .val (.ref b8), .unset, .unset, .unset, .unset, .unset, .unset, .unset, .unset, .unset, .unset, .unset, .unset] [(.int (1 : Int32))])) rfl (hb hby at_19) rfl (by decide) (cap := 1) (by decide) (by decide) (by decide) (by decide)
  obtain ⟨b14, g14⟩ : ∃ z, z = h11.size := ⟨_, rfl⟩
  rw [← g14] at A14 st14
  have s14 : h11.size ≤ h14.size := E14.1
  have lt14 : b14 < h14.size := A14.lt
  have k15 : Rch p e below (s₁.setTop (entryFrame m #[(.int p1), (.int p2), (.int p3), (.int p4), (.int p5)] maxLocals)) T14 (mkF m 21 #[.val (.int p1), .val (.int p2), .val (.int p3), .val (.int p4), .val (.int p5), .val (.ref b2), .val (.ref b8), .unset, .unset, .unset, .unset, .unset, .unset, .unset, .unset, .unset, .unset, .unset, .unset] [(.ref b14)]) := fun tg kg => k13 tg (st14 tg kg)
  have V14 : Arv Z h14 b14 c14 .int (1 : Int32) [(.int (0 : Int32))] (.int (0 : Int32)) := (Arv.new A14 (by decide)).pad (pad_rep [] (.int (0 : Int32)) 1)
  have k16 : Rch p e below (s₁.setTop (entryFrame m #[(.int p1), (.int p2), (.int p3), (.int p4), (.int p5)] maxLocals)) T14 (mkF m 24 #[.val (.int p1), .val (.int p2), .val (.int p3), .val (.int p4), .val (.int p5), .val (.ref b2), .val (.ref b8), .unset, .unset, .unset, .unset, .unset, .unset, .unset, .unset, .unset, .unset, .unset, .unset] [(.int p4), (.int (0 : Int32)), (.ref b14), (.ref b14)]) := fun tg kg => by
    refine k15 tg ?_
    show Steps p.tables e below (T14.setTop (mkF m 21 #[.val (.int p1), .val (.int p2), .val (.int p3), .val (.int p4), .val (.int p5), .val (.ref b2), .val (.ref b8), .unset, .unset, .unset, .unset, .unset, .unset, .unset, .unset, .unset, .unset, .unset, .unset] [(.ref b14)])) tg
    refine XS.dup X14.here hx rfl (hb hby at_21) rfl rfl ?_
    refine XS.iconst X14.here hx rfl (hb hby at_22) ?_
    refine XS.iloadN X14.here hx rfl (hb hby at_23) rfl ?_
    exact kg
  obtain ⟨cl17, Ar17, q17, S17, N17', H17, G17⟩ := V14
  have hin17 : ¬ ((0 : Int32) < 0 ∨ cl17.slots.size ≤ ((0 : Int32)).toNatClampNeg) := inb_of S17 ⟨by decide, by decide⟩
  obtain ⟨T17, h17, X17, e17, W17, st17⟩ := stI X14 hx hZ e14 Ar17 (j := (0 : Int32)) hin17 (g := (mkF m 24 #[.val (.int p1), .val (.int p2), .val (.int p3), .val (.int p4), .val (.int p5), .val (.ref b2), .val (.ref b8), .unset, .unset, .unset, .unset, .unset, .unset, .unset, .unset, .unset, .unset, .unset, .unset] [(.int p4), (.int (0 : Int32)), (.ref b14), (.ref b14)])) rfl rfl (hb hby at_24)
  have s17 : h17.size = h14.size := W17.size
  have N17 := Fr.snoc X17 N11 (by omega : n0 ≤ b14)
  have k18 : Rch p e below (s₁.setTop (entryFrame m #[(.int p1), (.int p2), (.int p3), (.int p4), (.int p5)] maxLocals)) T17 (mkF m 25 #[.val (.int p1), .val (.int p2), .val (.int p3), .val (.int p4), .val (.int p5), .val (.ref b2), .val (.ref b8), .unset, .unset, .unset, .unset, .unset, .unset, .unset, .unset, .unset, .unset, .unset, .unset] [(.ref b14)]) := fun tg kg => k16 tg (st17 tg kg)
  have V17 : Arv Z h17 b14 c14 .int (1 : Int32) [(.int p4)] (.int (0 : Int32)) := Arv.set Ar17 q17 S17 N17' H17 G17 rfl W17 0 rfl (Nat.le_of_ble_eq_true rfl)
  have k19 : Rch p e below (s₁.setTop (entryFrame m #[(.int p1), (.int p2), (.int p3), (.int p4), (.int p5)] maxLocals)) T17 (mkF m 28 #[.val (.int p1), .val (.int p2), .val (.int p3), .val (.int p4), .val (.int p5), .val (.ref b2), .val (.ref b8), .val (.ref b14), .unset, .unset, .unset, .unset, .unset, .unset, .unset, .unset, .unset, .unset, .unset] [(.int (1 : Int32))]) := fun tg kg => by
    refine k18 tg ?_
    show Steps p.tables e below (T17.setTop (mkF m 25 #[.val (.int p1), .val (.int p2), .val (.int p3), .val (.int p4), .val (.int p5), .val (.ref b2), .val (.ref b8), .unset, .unset, .unset, .unset, .unset, .unset, .unset, .unset, .unset, .unset, .unset, .unset] [(.ref b14)])) tg
    refine XS.astore X17.here hx rfl (hb hby at_25) rfl rfl (l' := #[.val (.int p1), .val (.int p2), .val (.int p3), .val (.int p4), .val (.int p5), .val (.ref b2), .val (.ref b8), .val (.ref b14), .unset, .unset, .unset, .unset, .unset, .unset, .unset, .unset, .unset, .unset, .unset]) rfl ?_
    refine XS.iconst X17.here hx rfl (hb hby at_27) ?_
    exact kg
  obtain ⟨T20, h20, c20, X20, e20, E20, A20, st20⟩ := newP X17 hx hZ (hw _ (List.mem_of_getElem? (i := 0) rfl)) e17 (g := (mkF m 28 #[.val (.int p1), .val (.int p2), .val (.int p3), .val (.int p4), .val (.int p5), .val (.ref b2), .val (.ref b8), .val (.ref b14), .unset, .unset, .unset, .unset, .unset, .unset, .unset, .unset, .unset, .unset, .unset] [(.int (1 : Int32))])) rfl (hb hby at_28) rfl (by decide) (cap := 1) (by decide) (by decide) (by decide) (by decide)
  obtain ⟨b20, g20⟩ : ∃ z, z = h17.size := ⟨_, rfl⟩
  rw [← g20] at A20 st20
  have s20 : h17.size ≤ h20.size := E20.1
  have lt20 : b20 < h20.size := A20.lt
  have k21 : Rch p e below (s₁.setTop (entryFrame m #[(.int p1), (.int p2), (.int p3), (.int p4), (.int p5)] maxLocals)) T20 (mkF m 30 #[.val (.int p1), .val (.int p2), .val (.int p3), .val (.int p4), .val (.int p5), .val (.ref b2), .val (.ref b8), .val (.ref b14), .unset, .unset, .unset, .unset, .unset, .unset, .unset, .unset, .unset, .unset, .unset] [(.ref b20)]) := fun tg kg => k19 tg (st20 tg kg)
  have V20 : Arv Z h20 b20 c20 .int (1 : Int32) [(.int (0 : Int32))] (.int (0 : Int32)) := (Arv.new A20 (by decide)).pad (pad_rep [] (.int (0 : Int32)) 1)
  have k22 : Rch p e below (s₁.setTop (entryFrame m #[(.int p1), (.int p2), (.int p3), (.int p4), (.int p5)] maxLocals)) T20 (mkF m 34 #[.val (.int p1), .val (.int p2), .val (.int p3), .val (.int p4), .val (.int p5), .val (.ref b2), .val (.ref b8), .val (.ref b14), .unset, .unset, .unset, .unset, .unset, .unset, .unset, .unset, .unset, .unset, .unset] [(.int p5), (.int (0 : Int32)), (.ref b20), (.ref b20)]) := fun tg kg => by
    refine k21 tg ?_
    show Steps p.tables e below (T20.setTop (mkF m 30 #[.val (.int p1), .val (.int p2), .val (.int p3), .val (.int p4), .val (.int p5), .val (.ref b2), .val (.ref b8), .val (.ref b14), .unset, .unset, .unset, .unset, .unset, .unset, .unset, .unset, .unset, .unset, .unset] [(.ref b20)])) tg
    refine XS.dup X20.here hx rfl (hb hby at_30) rfl rfl ?_
    show Steps p.tables e below (T20.setTop (mkF m 31 #[.val (.int p1), .val (.int p2), .val (.int p3), .val (.int p4), .val (.int p5), .val (.ref b2), .val (.ref b8), .val (.ref b14), .unset, .unset, .unset, .unset, .unset, .unset, .unset, .unset, .unset, .unset, .unset] [(.ref b20), (.ref b20)])) tg
    refine XS.iconst X20.here hx rfl (hb hby at_31) ?_
    refine XS.iload X20.here hx rfl (hb hby at_32) rfl ?_
    exact kg
  obtain ⟨cl23, Ar23, q23, S23, N23', H23, G23⟩ := V20
  have hin23 : ¬ ((0 : Int32) < 0 ∨ cl23.slots.size ≤ ((0 : Int32)).toNatClampNeg) := inb_of S23 ⟨by decide, by decide⟩
  obtain ⟨T23, h23, X23, e23, W23, st23⟩ := stI X20 hx hZ e20 Ar23 (j := (0 : Int32)) hin23 (g := (mkF m 34 #[.val (.int p1), .val (.int p2), .val (.int p3), .val (.int p4), .val (.int p5), .val (.ref b2), .val (.ref b8), .val (.ref b14), .unset, .unset, .unset, .unset, .unset, .unset, .unset, .unset, .unset, .unset, .unset] [(.int p5), (.int (0 : Int32)), (.ref b20), (.ref b20)])) rfl rfl (hb hby at_34)
  have s23 : h23.size = h20.size := W23.size
  have N23 := Fr.snoc X23 N17 (by omega : n0 ≤ b20)
  have k24 : Rch p e below (s₁.setTop (entryFrame m #[(.int p1), (.int p2), (.int p3), (.int p4), (.int p5)] maxLocals)) T23 (mkF m 35 #[.val (.int p1), .val (.int p2), .val (.int p3), .val (.int p4), .val (.int p5), .val (.ref b2), .val (.ref b8), .val (.ref b14), .unset, .unset, .unset, .unset, .unset, .unset, .unset, .unset, .unset, .unset, .unset] [(.ref b20)]) := fun tg kg => k22 tg (st23 tg kg)
  have V23 : Arv Z h23 b20 c20 .int (1 : Int32) [(.int p5)] (.int (0 : Int32)) := Arv.set Ar23 q23 S23 N23' H23 G23 rfl W23 0 rfl (Nat.le_of_ble_eq_true rfl)
  have k25 : Rch p e below (s₁.setTop (entryFrame m #[(.int p1), (.int p2), (.int p3), (.int p4), (.int p5)] maxLocals)) T23 (mkF m 37 #[.val (.int p1), .val (.int p2), .val (.int p3), .val (.int p4), .val (.int p5), .val (.ref b2), .val (.ref b8), .val (.ref b14), .val (.ref b20), .unset, .unset, .unset, .unset, .unset, .unset, .unset, .unset, .unset, .unset] []) := fun tg kg => by
    refine k24 tg ?_
    show Steps p.tables e below (T23.setTop (mkF m 35 #[.val (.int p1), .val (.int p2), .val (.int p3), .val (.int p4), .val (.int p5), .val (.ref b2), .val (.ref b8), .val (.ref b14), .unset, .unset, .unset, .unset, .unset, .unset, .unset, .unset, .unset, .unset, .unset] [(.ref b20)])) tg
    refine XS.astore X23.here hx rfl (hb hby at_35) rfl rfl (l' := #[.val (.int p1), .val (.int p2), .val (.int p3), .val (.int p4), .val (.int p5), .val (.ref b2), .val (.ref b8), .val (.ref b14), .val (.ref b20), .unset, .unset, .unset, .unset, .unset, .unset, .unset, .unset, .unset, .unset]) rfl ?_
    exact kg
  obtain ⟨T26, h26, X26, e26, E26, A26, D26, -, st26⟩ := newO X23 hx hZ hown (hw _ (List.mem_of_getElem? (i := 1) rfl)) (hw _ (List.mem_of_getElem? (i := 2) rfl)) (hw _ (List.mem_of_getElem? (i := 3) rfl)) e23 (g := (mkF m 37 #[.val (.int p1), .val (.int p2), .val (.int p3), .val (.int p4), .val (.int p5), .val (.ref b2), .val (.ref b8), .val (.ref b14), .val (.ref b20), .unset, .unset, .unset, .unset, .unset, .unset, .unset, .unset, .unset, .unset] [])) rfl (hb hby at_37) (by decide) (by decide)
  obtain ⟨b26, g26⟩ : ∃ z, z = h23.size := ⟨_, rfl⟩
  rw [← g26] at A26 D26 st26
  have s26 : h23.size ≤ h26.size := E26.1
  have lt26 : b26 < h26.size := A26.lt
  have k27 : Rch p e below (s₁.setTop (entryFrame m #[(.int p1), (.int p2), (.int p3), (.int p4), (.int p5)] maxLocals)) T26 (mkF m 40 #[.val (.int p1), .val (.int p2), .val (.int p3), .val (.int p4), .val (.int p5), .val (.ref b2), .val (.ref b8), .val (.ref b14), .val (.ref b20), .unset, .unset, .unset, .unset, .unset, .unset, .unset, .unset, .unset, .unset] [(.ref b26)]) := fun tg kg => k25 tg (st26 tg kg)
  have F26_slots : Fld Z h26 b26 "com/example/verum/verum/Relation" "slots" "Lcom/example/verum/verum/HashSlots;" .null := D26 (Or.inl (hw _ (List.mem_of_getElem? (i := 37) rfl))) (ty := (.object "com/example/verum/verum/HashSlots")) (by decide)
  have F26_indexes : Fld Z h26 b26 "com/example/verum/verum/Relation" "indexes" "Ljava/util/List;" .null := D26 (Or.inr (hw _ (List.mem_of_getElem? (i := 63) rfl))) (ty := (.object "java/util/List")) (by decide)
  have F26_arity : Fld Z h26 b26 "com/example/verum/verum/Relation" "arity" "I" (.int (0 : Int32)) := D26 (Or.inr (hw _ (List.mem_of_getElem? (i := 65) rfl))) (ty := .int) (by decide)
  have F26_pageBits : Fld Z h26 b26 "com/example/verum/verum/Relation" "pageBits" "I" (.int (0 : Int32)) := D26 (Or.inr (hw _ (List.mem_of_getElem? (i := 75) rfl))) (ty := .int) (by decide)
  have F26_pageMask : Fld Z h26 b26 "com/example/verum/verum/Relation" "pageMask" "I" (.int (0 : Int32)) := D26 (Or.inr (hw _ (List.mem_of_getElem? (i := 77) rfl))) (ty := .int) (by decide)
  have F26_pageCells : Fld Z h26 b26 "com/example/verum/verum/Relation" "pageCells" "I" (.int (0 : Int32)) := D26 (Or.inr (hw _ (List.mem_of_getElem? (i := 79) rfl))) (ty := .int) (by decide)
  have F26_pages : Fld Z h26 b26 "com/example/verum/verum/Relation" "pages" "[[I" .null := D26 (Or.inl (hw _ (List.mem_of_getElem? (i := 85) rfl))) (ty := (.array (.array .int))) (by decide)
  have F26_deltaEnd : Fld Z h26 b26 "com/example/verum/verum/Relation" "deltaEnd" "I" (.int (0 : Int32)) := D26 (Or.inl (hw _ (List.mem_of_getElem? (i := 96) rfl))) (ty := .int) (by decide)
  have F26_deltaStart : Fld Z h26 b26 "com/example/verum/verum/Relation" "deltaStart" "I" (.int (0 : Int32)) := D26 (Or.inl (hw _ (List.mem_of_getElem? (i := 98) rfl))) (ty := .int) (by decide)
  have F26_size : Fld Z h26 b26 "com/example/verum/verum/Relation" "size" "I" (.int (0 : Int32)) := D26 (Or.inl (hw _ (List.mem_of_getElem? (i := 100) rfl))) (ty := .int) (by decide)
  have F26_shared : Fld Z h26 b26 "com/example/verum/verum/Relation" "shared" "Z" (.int (0 : Int32)) := D26 (Or.inl (hw _ (List.mem_of_getElem? (i := 179) rfl))) (ty := .boolean) (by decide)
  have k28 : Rch p e below (s₁.setTop (entryFrame m #[(.int p1), (.int p2), (.int p3), (.int p4), (.int p5)] maxLocals)) T26 (mkF m 42 #[.val (.int p1), .val (.int p2), .val (.int p3), .val (.int p4), .val (.int p5), .val (.ref b2), .val (.ref b8), .val (.ref b14), .val (.ref b20), .unset, .unset, .unset, .unset, .unset, .unset, .unset, .unset, .unset, .unset] [(.int (1 : Int32)), (.ref b26), (.ref b26)]) := fun tg kg => by
    refine k27 tg ?_
    show Steps p.tables e below (T26.setTop (mkF m 40 #[.val (.int p1), .val (.int p2), .val (.int p3), .val (.int p4), .val (.int p5), .val (.ref b2), .val (.ref b8), .val (.ref b14), .val (.ref b20), .unset, .unset, .unset, .unset, .unset, .unset, .unset, .unset, .unset, .unset] [(.ref b26)])) tg
    refine XS.dup X26.here hx rfl (hb hby at_40) rfl rfl ?_
    refine XS.iconst X26.here hx rfl (hb hby at_41) ?_
    exact kg
  have f30 : Old Z n0 h26 := (((((((((OL.ext E2).wr W5 (by omega)).ext E8).wr W11 (by omega)).ext E14).wr W17 (by omega)).ext E20).wr W23 (by omega)).ext E26)
  obtain ⟨v29, T29, h29, Lc29, X29, e29, hQ29, st29⟩ := own_callC X26 hx hZ rfl hown (hw _ (List.mem_of_getElem? (i := 4) rfl)) (hw _ (List.mem_of_getElem? (i := 5) rfl)) (hw _ (List.mem_of_getElem? (i := 3) rfl)) (hw _ (List.mem_of_getElem? (i := 6) rfl)) (by decide) (rm_rel l Z a0 hw [] b26 ed h26 n0 (by omega) A26 F26_slots F26_indexes F26_arity F26_pageBits F26_pageMask F26_pageCells F26_pages F26_deltaEnd F26_deltaStart F26_size F26_shared (by omega) S_ed f30) e26 (a := b26) (g := (mkF m 42 #[.val (.int p1), .val (.int p2), .val (.int p3), .val (.int p4), .val (.int p5), .val (.ref b2), .val (.ref b8), .val (.ref b14), .val (.ref b20), .unset, .unset, .unset, .unset, .unset, .unset, .unset, .unset, .unset, .unset] [(.int (1 : Int32)), (.ref b26), (.ref b26)])) rfl (by rw [hml]; rfl) (argsL := [(.int (1 : Int32))]) (rest := [(.ref b26)]) rfl (lenOf pd_13 rfl) rfl (W := 1) (by show 2 * 0 + _ ≤ _; exact Nat.le_of_eq rfl) (hb hby at_42) (by decide) (by decide) (by decide) (by decide)
  obtain ⟨hsq, pgq, pzq, hpq, htq, kpgq, kpzq, khpq, khtq, rfl, Nq29, K29, fq29_3, fq29_4, fq29_5, fq29_6, fq29_7, fq29_8, fq29_9, fq29_10, fq29_11, fq29_12, fq29_13, fq29_14, fq29_15, fq29_16, fq29_17, fq29_18, fq29_19, fq29_20, hp29_ord⟩ := hQ29
  have N29 := Fr.app N23 Nq29
  have s29 : h26.size ≤ h29.size := K29.1
  have k31 : Rch p e below (s₁.setTop (entryFrame m #[(.int p1), (.int p2), (.int p3), (.int p4), (.int p5)] maxLocals)) T29 (mkF m 45 #[.val (.int p1), .val (.int p2), .val (.int p3), .val (.int p4), .val (.int p5), .val (.ref b2), .val (.ref b8), .val (.ref b14), .val (.ref b20), .unset, .unset, .unset, .unset, .unset, .unset, .unset, .unset, .unset, .unset] [(.ref b26)]) := fun tg kg => k28 tg (st29 tg kg)
  have lt_fq29_3 := own_ltN fq29_3.lt
  have lt_fq29_4 := own_ltN fq29_4.lt
  have lt_fq29_5 := own_ltN fq29_5.lt
  have lt_fq29_6 := own_ltN fq29_6.lt
  have lt_fq29_7 := own_ltN fq29_7.lt
  have lt_fq29_8 := own_ltN fq29_8.lt
  have lt_fq29_9 := own_ltN fq29_9.lt
  have lt_fq29_10 := own_ltN fq29_10.lt
  have lt_fq29_11 := own_ltN fq29_11.lt
  have lt_fq29_12 := own_ltN fq29_12.lt
  have lt_fq29_13 := own_ltN fq29_13.lt
  have lt_fq29_14 := own_ltN fq29_14.lt
  have lt_fq29_15 := own_ltN fq29_15.lt
  have lt_fq29_16 := own_ltN fq29_16.lt
  have lt_fq29_17 := own_ltN fq29_17.lt
  have lt_fq29_18 := own_ltN fq29_18.lt
  have lt_fq29_19 := own_ltN fq29_19.lt
  have lt_fq29_20 := own_ltN fq29_20.lt
  obtain ⟨oF, oB, oC, oD, oE⟩ := hp29_ord
  have o1' := own_ltN oB
  have o2' := own_ltN oC
  have o3' := own_ltN oD
  have o4' := own_ltN oE
  have oA : (b26 : Addr) < hsq := own_ltN (by omega)
  have o5' := own_ltN oA
  have f32 : Arv Z h29 htq khtq .int (16 : Int32) (([(0 : Int32), (0 : Int32), (0 : Int32), (0 : Int32), (0 : Int32), (0 : Int32), (0 : Int32), (0 : Int32), (0 : Int32), (0 : Int32), (0 : Int32), (0 : Int32), (0 : Int32), (0 : Int32), (0 : Int32), (0 : Int32)] : List Int32).map Value.int) (.int (0 : Int32)) := fq29_20
  have tab0 : own_tab ([(0 : Int32), (0 : Int32), (0 : Int32), (0 : Int32), (0 : Int32), (0 : Int32), (0 : Int32), (0 : Int32), (0 : Int32), (0 : Int32), (0 : Int32), (0 : Int32), (0 : Int32), (0 : Int32), (0 : Int32), (0 : Int32)] : List Int32) (0 : Int32) := own_tab_start
  have len0 : ([(.int (0 : Int32)), (.int (0 : Int32)), (.int (0 : Int32)), (.int (0 : Int32)), (.int (0 : Int32)), (.int (0 : Int32)), (.int (0 : Int32)), (.int (0 : Int32))] : List Value).length = 8 := rfl
  have bd0 : 0 ≤ (0 : Int32).toInt ∧ (0 : Int32).toInt ≤ 0 := by decide
  have k33 : Rch p e below (s₁.setTop (entryFrame m #[(.int p1), (.int p2), (.int p3), (.int p4), (.int p5)] maxLocals)) T29 (mkF m 52 #[.val (.int p1), .val (.int p2), .val (.int p3), .val (.int p4), .val (.int p5), .val (.ref b2), .val (.ref b8), .val (.ref b14), .val (.ref b20), .val (.ref b26), .unset, .unset, .unset, .unset, .unset, .unset, .unset, .unset, .unset] [(.int (p1 &&& (1 : Int32))), (.ref b26)]) := fun tg kg => by
    refine k31 tg ?_
    show Steps p.tables e below (T29.setTop (mkF m 45 #[.val (.int p1), .val (.int p2), .val (.int p3), .val (.int p4), .val (.int p5), .val (.ref b2), .val (.ref b8), .val (.ref b14), .val (.ref b20), .unset, .unset, .unset, .unset, .unset, .unset, .unset, .unset, .unset, .unset] [(.ref b26)])) tg
    refine XS.astore X29.here hx rfl (hb hby at_45) rfl rfl (l' := #[.val (.int p1), .val (.int p2), .val (.int p3), .val (.int p4), .val (.int p5), .val (.ref b2), .val (.ref b8), .val (.ref b14), .val (.ref b20), .val (.ref b26), .unset, .unset, .unset, .unset, .unset, .unset, .unset, .unset, .unset]) rfl ?_
    show Steps p.tables e below (T29.setTop (mkF m 47 #[.val (.int p1), .val (.int p2), .val (.int p3), .val (.int p4), .val (.int p5), .val (.ref b2), .val (.ref b8), .val (.ref b14), .val (.ref b20), .val (.ref b26), .unset, .unset, .unset, .unset, .unset, .unset, .unset, .unset, .unset] [])) tg
    refine XS.aload X29.here hx rfl (hb hby at_47) rfl rfl ?_
    refine XS.iloadN X29.here hx rfl (hb hby at_49) rfl ?_
    refine XS.iconst X29.here hx rfl (hb hby at_50) ?_
    refine XS.iand X29.here hx rfl (hb hby at_51) rfl ?_
    exact kg
  obtain ⟨onA, ht_onA, k34⟩ : ∃ (onA : Int32), (True) ∧ Rch p e below (s₁.setTop (entryFrame m #[(.int p1), (.int p2), (.int p3), (.int p4), (.int p5)] maxLocals)) T29 (mkF m 60 #[.val (.int p1), .val (.int p2), .val (.int p3), .val (.int p4), .val (.int p5), .val (.ref b2), .val (.ref b8), .val (.ref b14), .val (.ref b20), .val (.ref b26), .unset, .unset, .unset, .unset, .unset, .unset, .unset, .unset, .unset] [(.int onA), (.ref b26)]) := by
    by_cases hc52_35 : (p1 &&& (1 : Int32)) = (0 : Int32)
    · have k36 : Rch p e below (s₁.setTop (entryFrame m #[(.int p1), (.int p2), (.int p3), (.int p4), (.int p5)] maxLocals)) T29 (mkF m 60 #[.val (.int p1), .val (.int p2), .val (.int p3), .val (.int p4), .val (.int p5), .val (.ref b2), .val (.ref b8), .val (.ref b14), .val (.ref b20), .val (.ref b26), .unset, .unset, .unset, .unset, .unset, .unset, .unset, .unset, .unset] [(.int (0 : Int32)), (.ref b26)]) := fun tg kg => by
        refine k33 tg ?_
        show Steps p.tables e below (T29.setTop (mkF m 52 #[.val (.int p1), .val (.int p2), .val (.int p3), .val (.int p4), .val (.int p5), .val (.ref b2), .val (.ref b8), .val (.ref b14), .val (.ref b20), .val (.ref b26), .unset, .unset, .unset, .unset, .unset, .unset, .unset, .unset, .unset] [(.int (p1 &&& (1 : Int32))), (.ref b26)])) tg
        refine XS.ifYes X29.here hx rfl (pc0 := 52) (pc' := 59) rfl (hb hby at_52) rfl ((if0 _ _).trans (teq hc52_35).1) (by decide) (by decide) ?_
        refine XS.iconst X29.here hx rfl (hb hby at_59) ?_
        exact kg
      exact ⟨_, trivial, k36⟩
    · have k37 : Rch p e below (s₁.setTop (entryFrame m #[(.int p1), (.int p2), (.int p3), (.int p4), (.int p5)] maxLocals)) T29 (mkF m 60 #[.val (.int p1), .val (.int p2), .val (.int p3), .val (.int p4), .val (.int p5), .val (.ref b2), .val (.ref b8), .val (.ref b14), .val (.ref b20), .val (.ref b26), .unset, .unset, .unset, .unset, .unset, .unset, .unset, .unset, .unset] [(.int (1 : Int32)), (.ref b26)]) := fun tg kg => by
        refine k33 tg ?_
        show Steps p.tables e below (T29.setTop (mkF m 52 #[.val (.int p1), .val (.int p2), .val (.int p3), .val (.int p4), .val (.int p5), .val (.ref b2), .val (.ref b8), .val (.ref b14), .val (.ref b20), .val (.ref b26), .unset, .unset, .unset, .unset, .unset, .unset, .unset, .unset, .unset] [(.int (p1 &&& (1 : Int32))), (.ref b26)])) tg
        refine XS.ifNo X29.here hx rfl (hb hby at_52) rfl ((if0 _ _).trans (feq hc52_35).1) ?_
        refine XS.iconst X29.here hx rfl (hb hby at_55) ?_
        show Steps p.tables e below (T29.setTop (mkF m 56 #[.val (.int p1), .val (.int p2), .val (.int p3), .val (.int p4), .val (.int p5), .val (.ref b2), .val (.ref b8), .val (.ref b14), .val (.ref b20), .val (.ref b26), .unset, .unset, .unset, .unset, .unset, .unset, .unset, .unset, .unset] [(.int (1 : Int32)), (.ref b26)])) tg
        refine XS.goto X29.here hx rfl (pc0 := 56) (pc' := 60) rfl (hb hby at_56) (by decide) (by decide) ?_
        exact kg
      exact ⟨_, trivial, k37⟩
  have k38 : Rch p e below (s₁.setTop (entryFrame m #[(.int p1), (.int p2), (.int p3), (.int p4), (.int p5)] maxLocals)) T29 (mkF m 62 #[.val (.int p1), .val (.int p2), .val (.int p3), .val (.int p4), .val (.int p5), .val (.ref b2), .val (.ref b8), .val (.ref b14), .val (.ref b20), .val (.ref b26), .unset, .unset, .unset, .unset, .unset, .unset, .unset, .unset, .unset] [(.ref b2), (.int onA), (.ref b26)]) := fun tg kg => by
    refine k34 tg ?_
    show Steps p.tables e below (T29.setTop (mkF m 60 #[.val (.int p1), .val (.int p2), .val (.int p3), .val (.int p4), .val (.int p5), .val (.ref b2), .val (.ref b8), .val (.ref b14), .val (.ref b20), .val (.ref b26), .unset, .unset, .unset, .unset, .unset, .unset, .unset, .unset, .unset] [(.int onA), (.ref b26)])) tg
    refine XS.aload X29.here hx rfl (hb hby at_60) rfl rfl ?_
    exact kg
  have f40 : Arv Z h29 b2 c2 .int (1 : Int32) [(.int p2)] (.int (0 : Int32)) := ((((((((V5.ext E8).other W11 (by first | exact own_ne (by omega) | assumption | (apply Ne.symm; assumption))).ext E14).other W17 (by first | exact own_ne (by omega) | assumption | (apply Ne.symm; assumption))).ext E20).other W23 (by first | exact own_ne (by omega) | assumption | (apply Ne.symm; assumption))).ext E26).keep K29 (ninS (by first | exact own_ne (by omega) | assumption | (apply Ne.symm; assumption)) nin0))
  obtain ⟨v39, T39, h39, Lc39, X39, e39, hQ39, hS39, hZ39, hown39, st39⟩ := own_callSW X29 hx hZ hown (hw _ (List.mem_of_getElem? (i := 86) rfl)) (hw _ (List.mem_of_getElem? (i := 87) rfl)) (hw _ (List.mem_of_getElem? (i := 88) rfl)) (hw _ (List.mem_of_getElem? (i := 89) rfl)) (by decide) (rm_addIf l Z a0 hw [] b26 b2 hsq pgq pzq hpq htq kpgq kpzq khpq khtq (0 : Int32) (0 : Int32) (0 : Int32) ([(.int (0 : Int32)), (.int (0 : Int32)), (.int (0 : Int32)), (.int (0 : Int32)), (.int (0 : Int32)), (.int (0 : Int32)), (.int (0 : Int32)), (.int (0 : Int32))]) ([(0 : Int32), (0 : Int32), (0 : Int32), (0 : Int32), (0 : Int32), (0 : Int32), (0 : Int32), (0 : Int32), (0 : Int32), (0 : Int32), (0 : Int32), (0 : Int32), (0 : Int32), (0 : Int32), (0 : Int32), (0 : Int32)] : List Int32) c2 p2 onA h29 n0 (by omega) fq29_3 fq29_4 fq29_5 fq29_6 fq29_7 fq29_8 fq29_9 fq29_10 fq29_11 fq29_12 fq29_13 fq29_14 fq29_15 fq29_16 fq29_17 fq29_18 fq29_19 f32 f40 oA oB oC oD oE bd0.1 (by have := bd0; omega) tab0 len0 (by omega)) e29 hS0 (by first | exact Nat.le_refl _ | omega) (g := (mkF m 62 #[.val (.int p1), .val (.int p2), .val (.int p3), .val (.int p4), .val (.int p5), .val (.ref b2), .val (.ref b8), .val (.ref b14), .val (.ref b20), .val (.ref b26), .unset, .unset, .unset, .unset, .unset, .unset, .unset, .unset, .unset] [(.ref b2), (.int onA), (.ref b26)])) rfl (by rw [hml]; rfl) (argsL := [(.ref b26), (.int onA), (.ref b2)]) (rest := []) rfl (lenOf pd_14 rfl) rfl (W := 0) (by show 2 * 0 + _ ≤ _; exact Nat.le_of_eq rfl) (hb hby at_62) (by decide) (by decide) (by decide) (by decide)
  obtain ⟨rA, rqA, tqA, rfl, Nq39, K39, fq39_3, fq39_4, fq39_5, fq39_6, fq39_7, fq39_8, fq39_9, fq39_10, fq39_11, fq39_12, fq39_13, fq39_14, hp39_bit, hp39_tab, hp39_len⟩ := hQ39
  have N39 := Fr.app N29 Nq39
  have s39 : h29.size ≤ h39.size := K39.1
  have k41 : Rch p e below (s₁.setTop (entryFrame m #[(.int p1), (.int p2), (.int p3), (.int p4), (.int p5)] maxLocals)) T39 (mkF m 65 #[.val (.int p1), .val (.int p2), .val (.int p3), .val (.int p4), .val (.int p5), .val (.ref b2), .val (.ref b8), .val (.ref b14), .val (.ref b20), .val (.ref b26), .unset, .unset, .unset, .unset, .unset, .unset, .unset, .unset, .unset] [(.int rA)]) := fun tg kg => k38 tg (st39 tg kg)
  have lt_fq39_3 := own_ltN fq39_3.lt
  have lt_fq39_4 := own_ltN fq39_4.lt
  have lt_fq39_5 := own_ltN fq39_5.lt
  have lt_fq39_6 := own_ltN fq39_6.lt
  have lt_fq39_7 := own_ltN fq39_7.lt
  have lt_fq39_8 := own_ltN fq39_8.lt
  have lt_fq39_9 := own_ltN fq39_9.lt
  have lt_fq39_10 := own_ltN fq39_10.lt
  have lt_fq39_11 := own_ltN fq39_11.lt
  have lt_fq39_12 := own_ltN fq39_12.lt
  have lt_fq39_13 := own_ltN fq39_13.lt
  have lt_fq39_14 := own_ltN fq39_14.lt
  have bdA : 0 ≤ rA.toInt ∧ rA.toInt ≤ 1 := own_r01 hp39_bit
  have f42 : Fld Z h39 b26 "com/example/verum/verum/Relation" "size" "I" (.int rA) := (by have q := fq39_9; rw [Int32.zero_add] at q; exact q)
  have tabA : own_tab tqA rA := by have q := hp39_tab; rw [Int32.zero_add] at q; exact q
  have bsA := bdA
  have k43 : Rch p e below (s₁.setTop (entryFrame m #[(.int p1), (.int p2), (.int p3), (.int p4), (.int p5)] maxLocals)) T39 (mkF m 74 #[.val (.int p1), .val (.int p2), .val (.int p3), .val (.int p4), .val (.int p5), .val (.ref b2), .val (.ref b8), .val (.ref b14), .val (.ref b20), .val (.ref b26), .val (.int rA), .unset, .unset, .unset, .unset, .unset, .unset, .unset, .unset] [(.int (p1 &&& (2 : Int32))), (.ref b26), (.int rA)]) := fun tg kg => by
    refine k41 tg ?_
    show Steps p.tables e below (T39.setTop (mkF m 65 #[.val (.int p1), .val (.int p2), .val (.int p3), .val (.int p4), .val (.int p5), .val (.ref b2), .val (.ref b8), .val (.ref b14), .val (.ref b20), .val (.ref b26), .unset, .unset, .unset, .unset, .unset, .unset, .unset, .unset, .unset] [(.int rA)])) tg
    refine XS.istore X39.here hx rfl (hb hby at_65) rfl (l' := #[.val (.int p1), .val (.int p2), .val (.int p3), .val (.int p4), .val (.int p5), .val (.ref b2), .val (.ref b8), .val (.ref b14), .val (.ref b20), .val (.ref b26), .val (.int rA), .unset, .unset, .unset, .unset, .unset, .unset, .unset, .unset]) rfl ?_
    show Steps p.tables e below (T39.setTop (mkF m 67 #[.val (.int p1), .val (.int p2), .val (.int p3), .val (.int p4), .val (.int p5), .val (.ref b2), .val (.ref b8), .val (.ref b14), .val (.ref b20), .val (.ref b26), .val (.int rA), .unset, .unset, .unset, .unset, .unset, .unset, .unset, .unset] [])) tg
    refine XS.iload X39.here hx rfl (hb hby at_67) rfl ?_
    refine XS.aload X39.here hx rfl (hb hby at_69) rfl rfl ?_
    refine XS.iloadN X39.here hx rfl (hb hby at_71) rfl ?_
    refine XS.iconst X39.here hx rfl (hb hby at_72) ?_
    refine XS.iand X39.here hx rfl (hb hby at_73) rfl ?_
    exact kg
  obtain ⟨onB, ht_onB, k44⟩ : ∃ (onB : Int32), (True) ∧ Rch p e below (s₁.setTop (entryFrame m #[(.int p1), (.int p2), (.int p3), (.int p4), (.int p5)] maxLocals)) T39 (mkF m 82 #[.val (.int p1), .val (.int p2), .val (.int p3), .val (.int p4), .val (.int p5), .val (.ref b2), .val (.ref b8), .val (.ref b14), .val (.ref b20), .val (.ref b26), .val (.int rA), .unset, .unset, .unset, .unset, .unset, .unset, .unset, .unset] [(.int onB), (.ref b26), (.int rA)]) := by
    by_cases hc74_45 : (p1 &&& (2 : Int32)) = (0 : Int32)
    · have k46 : Rch p e below (s₁.setTop (entryFrame m #[(.int p1), (.int p2), (.int p3), (.int p4), (.int p5)] maxLocals)) T39 (mkF m 82 #[.val (.int p1), .val (.int p2), .val (.int p3), .val (.int p4), .val (.int p5), .val (.ref b2), .val (.ref b8), .val (.ref b14), .val (.ref b20), .val (.ref b26), .val (.int rA), .unset, .unset, .unset, .unset, .unset, .unset, .unset, .unset] [(.int (0 : Int32)), (.ref b26), (.int rA)]) := fun tg kg => by
        refine k43 tg ?_
        show Steps p.tables e below (T39.setTop (mkF m 74 #[.val (.int p1), .val (.int p2), .val (.int p3), .val (.int p4), .val (.int p5), .val (.ref b2), .val (.ref b8), .val (.ref b14), .val (.ref b20), .val (.ref b26), .val (.int rA), .unset, .unset, .unset, .unset, .unset, .unset, .unset, .unset] [(.int (p1 &&& (2 : Int32))), (.ref b26), (.int rA)])) tg
        refine XS.ifYes X39.here hx rfl (pc0 := 74) (pc' := 81) rfl (hb hby at_74) rfl ((if0 _ _).trans (teq hc74_45).1) (by decide) (by decide) ?_
        show Steps p.tables e below (T39.setTop (mkF m 81 #[.val (.int p1), .val (.int p2), .val (.int p3), .val (.int p4), .val (.int p5), .val (.ref b2), .val (.ref b8), .val (.ref b14), .val (.ref b20), .val (.ref b26), .val (.int rA), .unset, .unset, .unset, .unset, .unset, .unset, .unset, .unset] [(.ref b26), (.int rA)])) tg
        refine XS.iconst X39.here hx rfl (hb hby at_81) ?_
        exact kg
      exact ⟨_, trivial, k46⟩
    · have k47 : Rch p e below (s₁.setTop (entryFrame m #[(.int p1), (.int p2), (.int p3), (.int p4), (.int p5)] maxLocals)) T39 (mkF m 82 #[.val (.int p1), .val (.int p2), .val (.int p3), .val (.int p4), .val (.int p5), .val (.ref b2), .val (.ref b8), .val (.ref b14), .val (.ref b20), .val (.ref b26), .val (.int rA), .unset, .unset, .unset, .unset, .unset, .unset, .unset, .unset] [(.int (1 : Int32)), (.ref b26), (.int rA)]) := fun tg kg => by
        refine k43 tg ?_
        show Steps p.tables e below (T39.setTop (mkF m 74 #[.val (.int p1), .val (.int p2), .val (.int p3), .val (.int p4), .val (.int p5), .val (.ref b2), .val (.ref b8), .val (.ref b14), .val (.ref b20), .val (.ref b26), .val (.int rA), .unset, .unset, .unset, .unset, .unset, .unset, .unset, .unset] [(.int (p1 &&& (2 : Int32))), (.ref b26), (.int rA)])) tg
        refine XS.ifNo X39.here hx rfl (hb hby at_74) rfl ((if0 _ _).trans (feq hc74_45).1) ?_
        show Steps p.tables e below (T39.setTop (mkF m 77 #[.val (.int p1), .val (.int p2), .val (.int p3), .val (.int p4), .val (.int p5), .val (.ref b2), .val (.ref b8), .val (.ref b14), .val (.ref b20), .val (.ref b26), .val (.int rA), .unset, .unset, .unset, .unset, .unset, .unset, .unset, .unset] [(.ref b26), (.int rA)])) tg
        refine XS.iconst X39.here hx rfl (hb hby at_77) ?_
        refine XS.goto X39.here hx rfl (pc0 := 78) (pc' := 82) rfl (hb hby at_78) (by decide) (by decide) ?_
        exact kg
      exact ⟨_, trivial, k47⟩
  have k48 : Rch p e below (s₁.setTop (entryFrame m #[(.int p1), (.int p2), (.int p3), (.int p4), (.int p5)] maxLocals)) T39 (mkF m 84 #[.val (.int p1), .val (.int p2), .val (.int p3), .val (.int p4), .val (.int p5), .val (.ref b2), .val (.ref b8), .val (.ref b14), .val (.ref b20), .val (.ref b26), .val (.int rA), .unset, .unset, .unset, .unset, .unset, .unset, .unset, .unset] [(.ref b8), (.int onB), (.ref b26), (.int rA)]) := fun tg kg => by
    refine k44 tg ?_
    show Steps p.tables e below (T39.setTop (mkF m 82 #[.val (.int p1), .val (.int p2), .val (.int p3), .val (.int p4), .val (.int p5), .val (.ref b2), .val (.ref b8), .val (.ref b14), .val (.ref b20), .val (.ref b26), .val (.int rA), .unset, .unset, .unset, .unset, .unset, .unset, .unset, .unset] [(.int onB), (.ref b26), (.int rA)])) tg
    refine XS.aload X39.here hx rfl (hb hby at_82) rfl rfl ?_
    exact kg
  have f50 : Exa Z h39 hsq "com/example/verum/verum/HashSlots" := (fq29_13.keep K39)
  have f51 : Fld Z h39 hsq "com/example/verum/verum/HashSlots" "pages" "[[I" (.ref hpq) := (fq29_14.keep K39 (ninS (by first | exact own_ne (by omega) | assumption | (apply Ne.symm; assumption)) (ninS (by first | exact own_ne (by omega) | assumption | (apply Ne.symm; assumption)) (ninS (by first | exact own_ne (by omega) | assumption | (apply Ne.symm; assumption)) nin0))))
  have f52 : Fld Z h39 hsq "com/example/verum/verum/HashSlots" "mask" "I" (.int (15 : Int32)) := (fq29_15.keep K39 (ninS (by first | exact own_ne (by omega) | assumption | (apply Ne.symm; assumption)) (ninS (by first | exact own_ne (by omega) | assumption | (apply Ne.symm; assumption)) (ninS (by first | exact own_ne (by omega) | assumption | (apply Ne.symm; assumption)) nin0))))
  have f53 : Fld Z h39 hsq "com/example/verum/verum/HashSlots" "shared" "Z" (.int (0 : Int32)) := (fq29_16.keep K39 (ninS (by first | exact own_ne (by omega) | assumption | (apply Ne.symm; assumption)) (ninS (by first | exact own_ne (by omega) | assumption | (apply Ne.symm; assumption)) (ninS (by first | exact own_ne (by omega) | assumption | (apply Ne.symm; assumption)) nin0))))
  have f54 : Arv Z h39 pgq kpgq (.array .int) (1 : Int32) [(.ref pzq)] .null := (fq29_17.keep K39 (ninS (by first | exact own_ne (by omega) | assumption | (apply Ne.symm; assumption)) (ninS (by first | exact own_ne (by omega) | assumption | (apply Ne.symm; assumption)) (ninS (by first | exact own_ne (by omega) | assumption | (apply Ne.symm; assumption)) nin0))))
  have f55 : Arv Z h39 hpq khpq (.array .int) (1 : Int32) [(.ref htq)] .null := (fq29_19.keep K39 (ninS (by first | exact own_ne (by omega) | assumption | (apply Ne.symm; assumption)) (ninS (by first | exact own_ne (by omega) | assumption | (apply Ne.symm; assumption)) (ninS (by first | exact own_ne (by omega) | assumption | (apply Ne.symm; assumption)) nin0))))
  have f56 : Arv Z h39 b8 c8 .int (1 : Int32) [(.int p3)] (.int (0 : Int32)) := (((((((V11.ext E14).other W17 (by first | exact own_ne (by omega) | assumption | (apply Ne.symm; assumption))).ext E20).other W23 (by first | exact own_ne (by omega) | assumption | (apply Ne.symm; assumption))).ext E26).keep K29 (ninS (by first | exact own_ne (by omega) | assumption | (apply Ne.symm; assumption)) nin0)).keep K39 (ninS (by first | exact own_ne (by omega) | assumption | (apply Ne.symm; assumption)) (ninS (by first | exact own_ne (by omega) | assumption | (apply Ne.symm; assumption)) (ninS (by first | exact own_ne (by omega) | assumption | (apply Ne.symm; assumption)) nin0))))
  obtain ⟨v49, T49, h49, Lc49, X49, e49, hQ49, hS49, hZ49, hown49, st49⟩ := own_callSW X39 hx hZ39 hown39 (hw _ (List.mem_of_getElem? (i := 86) rfl)) (hw _ (List.mem_of_getElem? (i := 87) rfl)) (hw _ (List.mem_of_getElem? (i := 88) rfl)) (hw _ (List.mem_of_getElem? (i := 89) rfl)) (by decide) (rm_addIf l Z a0 hw [] b26 b8 hsq pgq pzq hpq htq kpgq kpzq khpq khtq rA (0 : Int32) (0 : Int32) rqA tqA c8 p3 onB h39 n0 (by omega) fq39_3 fq39_4 fq39_5 fq39_6 fq39_7 fq39_8 f42 fq39_10 fq39_11 fq39_12 f50 f51 f52 f53 f54 fq39_13 f55 fq39_14 f56 oA oB oC oD oE bsA.1 (by have := bsA; omega) tabA hp39_len (by omega)) e39 hS39 (by first | exact Nat.le_refl _ | omega) (g := (mkF m 84 #[.val (.int p1), .val (.int p2), .val (.int p3), .val (.int p4), .val (.int p5), .val (.ref b2), .val (.ref b8), .val (.ref b14), .val (.ref b20), .val (.ref b26), .val (.int rA), .unset, .unset, .unset, .unset, .unset, .unset, .unset, .unset] [(.ref b8), (.int onB), (.ref b26), (.int rA)])) rfl (by rw [hml]; rfl) (argsL := [(.ref b26), (.int onB), (.ref b8)]) (rest := [(.int rA)]) rfl (lenOf pd_14 rfl) rfl (W := 1) (by show 2 * 0 + _ ≤ _; exact Nat.le_of_eq rfl) (hb hby at_84) (by decide) (by decide) (by decide) (by decide)
  obtain ⟨rB, rqB, tqB, rfl, Nq49, K49, fq49_3, fq49_4, fq49_5, fq49_6, fq49_7, fq49_8, fq49_9, fq49_10, fq49_11, fq49_12, fq49_13, fq49_14, hp49_bit, hp49_tab, hp49_len⟩ := hQ49
  have N49 := Fr.app N39 Nq49
  have s49 : h39.size ≤ h49.size := K49.1
  have k57 : Rch p e below (s₁.setTop (entryFrame m #[(.int p1), (.int p2), (.int p3), (.int p4), (.int p5)] maxLocals)) T49 (mkF m 87 #[.val (.int p1), .val (.int p2), .val (.int p3), .val (.int p4), .val (.int p5), .val (.ref b2), .val (.ref b8), .val (.ref b14), .val (.ref b20), .val (.ref b26), .val (.int rA), .unset, .unset, .unset, .unset, .unset, .unset, .unset, .unset] [(.int rB), (.int rA)]) := fun tg kg => k48 tg (st49 tg kg)
  have lt_fq49_3 := own_ltN fq49_3.lt
  have lt_fq49_4 := own_ltN fq49_4.lt
  have lt_fq49_5 := own_ltN fq49_5.lt
  have lt_fq49_6 := own_ltN fq49_6.lt
  have lt_fq49_7 := own_ltN fq49_7.lt
  have lt_fq49_8 := own_ltN fq49_8.lt
  have lt_fq49_9 := own_ltN fq49_9.lt
  have lt_fq49_10 := own_ltN fq49_10.lt
  have lt_fq49_11 := own_ltN fq49_11.lt
  have lt_fq49_12 := own_ltN fq49_12.lt
  have lt_fq49_13 := own_ltN fq49_13.lt
  have lt_fq49_14 := own_ltN fq49_14.lt
  have bdB : 0 ≤ rB.toInt ∧ rB.toInt ≤ 1 := own_r01 hp49_bit
  have tabB := hp49_tab
  have bsB : 0 ≤ (rA + rB).toInt ∧ (rA + rB).toInt ≤ 2 := by have q := own_add bsA.1 bsA.2 (by decide) bdB.1 bdB.2; exact q
  have k58 : Rch p e below (s₁.setTop (entryFrame m #[(.int p1), (.int p2), (.int p3), (.int p4), (.int p5)] maxLocals)) T49 (mkF m 93 #[.val (.int p1), .val (.int p2), .val (.int p3), .val (.int p4), .val (.int p5), .val (.ref b2), .val (.ref b8), .val (.ref b14), .val (.ref b20), .val (.ref b26), .val (.int (rA + rB)), .unset, .unset, .unset, .unset, .unset, .unset, .unset, .unset] [(.int (p1 &&& (4 : Int32)))]) := fun tg kg => by
    refine k57 tg ?_
    show Steps p.tables e below (T49.setTop (mkF m 87 #[.val (.int p1), .val (.int p2), .val (.int p3), .val (.int p4), .val (.int p5), .val (.ref b2), .val (.ref b8), .val (.ref b14), .val (.ref b20), .val (.ref b26), .val (.int rA), .unset, .unset, .unset, .unset, .unset, .unset, .unset, .unset] [(.int rB), (.int rA)])) tg
    refine XS.iadd X49.here hx rfl (hb hby at_87) rfl ?_
    refine XS.istore X49.here hx rfl (hb hby at_88) rfl (l' := #[.val (.int p1), .val (.int p2), .val (.int p3), .val (.int p4), .val (.int p5), .val (.ref b2), .val (.ref b8), .val (.ref b14), .val (.ref b20), .val (.ref b26), .val (.int (rA + rB)), .unset, .unset, .unset, .unset, .unset, .unset, .unset, .unset]) rfl ?_
    refine XS.iloadN X49.here hx rfl (hb hby at_90) rfl ?_
    refine XS.iconst X49.here hx rfl (hb hby at_91) ?_
    refine XS.iand X49.here hx rfl (hb hby at_92) rfl ?_
    exact kg
  obtain ⟨T59, h59, ls59, X59, e59, N59, K59, fm59_0, fm59_1, fm59_2, fm59_3, fm59_4, fm59_5, fm59_6, fm59_7, fm59_8, fm59_9, k59⟩ : ∃  (T59 : State) (h59 : Heap) (ls59 : List Loc), Stand p l e room_1 (s.setVm T49.vm) m #[(.int p1), (.int p2), (.int p3), (.int p4), (.int p5)] below meth c T59 ls59 16 215 ∧ T59.heap = h59 ∧ Fr n0 ls59 ∧ Keep h49 h59 [b26] ∧ Exa Z h59 b26 "com/example/verum/verum/Relation" ∧ Fld Z h59 b26 "com/example/verum/verum/Relation" "slots" "Lcom/example/verum/verum/HashSlots;" (.ref hsq) ∧ Fld Z h59 b26 "com/example/verum/verum/Relation" "arity" "I" (.int (1 : Int32)) ∧ Fld Z h59 b26 "com/example/verum/verum/Relation" "pageBits" "I" (.int (16 : Int32)) ∧ Fld Z h59 b26 "com/example/verum/verum/Relation" "pageMask" "I" (.int (65535 : Int32)) ∧ Fld Z h59 b26 "com/example/verum/verum/Relation" "pages" "[[I" (.ref pgq) ∧ Fld Z h59 b26 "com/example/verum/verum/Relation" "size" "I" (.int (rA + rB)) ∧ Fld Z h59 b26 "com/example/verum/verum/Relation" "deltaStart" "I" (.int (0 : Int32)) ∧ Fld Z h59 b26 "com/example/verum/verum/Relation" "deltaEnd" "I" (.int (0 : Int32)) ∧ Fld Z h59 b26 "com/example/verum/verum/Relation" "shared" "Z" (.int (0 : Int32)) ∧ Rch p e below (s₁.setTop (entryFrame m #[(.int p1), (.int p2), (.int p3), (.int p4), (.int p5)] maxLocals)) T59 (mkF m 101 #[.val (.int p1), .val (.int p2), .val (.int p3), .val (.int p4), .val (.int p5), .val (.ref b2), .val (.ref b8), .val (.ref b14), .val (.ref b20), .val (.ref b26), .val (.int (rA + rB)), .unset, .unset, .unset, .unset, .unset, .unset, .unset, .unset] []) := by
    by_cases hc93_60 : (p1 &&& (4 : Int32)) = (0 : Int32)
    · have k61 : Rch p e below (s₁.setTop (entryFrame m #[(.int p1), (.int p2), (.int p3), (.int p4), (.int p5)] maxLocals)) T49 (mkF m 101 #[.val (.int p1), .val (.int p2), .val (.int p3), .val (.int p4), .val (.int p5), .val (.ref b2), .val (.ref b8), .val (.ref b14), .val (.ref b20), .val (.ref b26), .val (.int (rA + rB)), .unset, .unset, .unset, .unset, .unset, .unset, .unset, .unset] []) := fun tg kg => by
        refine k58 tg ?_
        show Steps p.tables e below (T49.setTop (mkF m 93 #[.val (.int p1), .val (.int p2), .val (.int p3), .val (.int p4), .val (.int p5), .val (.ref b2), .val (.ref b8), .val (.ref b14), .val (.ref b20), .val (.ref b26), .val (.int (rA + rB)), .unset, .unset, .unset, .unset, .unset, .unset, .unset, .unset] [(.int (p1 &&& (4 : Int32)))])) tg
        refine XS.ifYes X49.here hx rfl (pc0 := 93) (pc' := 101) rfl (hb hby at_93) rfl ((if0 _ _).trans (teq hc93_60).1) (by decide) (by decide) ?_
        exact kg
      exact ⟨_, _, _, own_more X49 (by decide) (by decide), e49, N49, (Keep.refl h49 [b26]), fq49_3, fq49_4, fq49_5, fq49_6, fq49_7, fq49_8, fq49_9, fq49_10, fq49_11, fq49_12, k61⟩
    · have k62 : Rch p e below (s₁.setTop (entryFrame m #[(.int p1), (.int p2), (.int p3), (.int p4), (.int p5)] maxLocals)) T49 (mkF m 98 #[.val (.int p1), .val (.int p2), .val (.int p3), .val (.int p4), .val (.int p5), .val (.ref b2), .val (.ref b8), .val (.ref b14), .val (.ref b20), .val (.ref b26), .val (.int (rA + rB)), .unset, .unset, .unset, .unset, .unset, .unset, .unset, .unset] [(.ref b26)]) := fun tg kg => by
        refine k58 tg ?_
        show Steps p.tables e below (T49.setTop (mkF m 93 #[.val (.int p1), .val (.int p2), .val (.int p3), .val (.int p4), .val (.int p5), .val (.ref b2), .val (.ref b8), .val (.ref b14), .val (.ref b20), .val (.ref b26), .val (.int (rA + rB)), .unset, .unset, .unset, .unset, .unset, .unset, .unset, .unset] [(.int (p1 &&& (4 : Int32)))])) tg
        refine XS.ifNo X49.here hx rfl (hb hby at_93) rfl ((if0 _ _).trans (feq hc93_60).1) ?_
        show Steps p.tables e below (T49.setTop (mkF m 96 #[.val (.int p1), .val (.int p2), .val (.int p3), .val (.int p4), .val (.int p5), .val (.ref b2), .val (.ref b8), .val (.ref b14), .val (.ref b20), .val (.ref b26), .val (.int (rA + rB)), .unset, .unset, .unset, .unset, .unset, .unset, .unset, .unset] [])) tg
        refine XS.aload X49.here hx rfl (hb hby at_96) rfl rfl ?_
        exact kg
      obtain ⟨v63, T63, h63, Lc63, X63, e63, hQ63, st63⟩ := own_callV X49 hx hZ49 hown49 (hw _ (List.mem_of_getElem? (i := 197) rfl)) (hw _ (List.mem_of_getElem? (i := 198) rfl)) (notFace_of_selects (args := #[]) (mvT hZ49 (hw _ (List.mem_of_getElem? (i := 200) rfl)))) (hw _ (List.mem_of_getElem? (i := 200) rfl)) (hw _ (List.mem_of_getElem? (i := 199) rfl)) (hw _ (List.mem_of_getElem? (i := 201) rfl)) (hw _ (List.mem_of_getElem? (i := 3) rfl)) (by decide) (rm_begin l Z a0 hw [] b26 hsq pgq (rA + rB) (0 : Int32) (0 : Int32) h49 n0 (by omega) fq49_3 fq49_4 fq49_5 fq49_6 fq49_7 fq49_8 fq49_9 fq49_10 fq49_11 fq49_12 (by omega)) e49 fq49_3 (g := (mkF m 98 #[.val (.int p1), .val (.int p2), .val (.int p3), .val (.int p4), .val (.int p5), .val (.ref b2), .val (.ref b8), .val (.ref b14), .val (.ref b20), .val (.ref b26), .val (.int (rA + rB)), .unset, .unset, .unset, .unset, .unset, .unset, .unset, .unset] [(.ref b26)])) rfl (by rw [hml]; rfl) (argsL := []) (rest := []) rfl (lenOf pd_0 rfl) rfl (W := 0) (by show 2 * 0 + _ ≤ _; exact Nat.le_of_eq rfl) (hb hby at_98) (by decide) (by decide) (by decide) (by decide)
      obtain ⟨rfl, Nq63, K63, fq63_3, fq63_4, fq63_5, fq63_6, fq63_7, fq63_8, fq63_9, fq63_10, fq63_11, fq63_12⟩ := hQ63
      have N63 := Fr.app N49 Nq63
      have s63 : h49.size ≤ h63.size := K63.1
      have k64 : Rch p e below (s₁.setTop (entryFrame m #[(.int p1), (.int p2), (.int p3), (.int p4), (.int p5)] maxLocals)) T63 (mkF m 101 #[.val (.int p1), .val (.int p2), .val (.int p3), .val (.int p4), .val (.int p5), .val (.ref b2), .val (.ref b8), .val (.ref b14), .val (.ref b20), .val (.ref b26), .val (.int (rA + rB)), .unset, .unset, .unset, .unset, .unset, .unset, .unset, .unset] []) := fun tg kg => k62 tg (st63 tg kg)
      have lt_fq63_3 := own_ltN fq63_3.lt
      have lt_fq63_4 := own_ltN fq63_4.lt
      have lt_fq63_5 := own_ltN fq63_5.lt
      have lt_fq63_6 := own_ltN fq63_6.lt
      have lt_fq63_7 := own_ltN fq63_7.lt
      have lt_fq63_8 := own_ltN fq63_8.lt
      have lt_fq63_9 := own_ltN fq63_9.lt
      have lt_fq63_10 := own_ltN fq63_10.lt
      have lt_fq63_11 := own_ltN fq63_11.lt
      have lt_fq63_12 := own_ltN fq63_12.lt
      exact ⟨_, _, _, own_more X63 (by decide) (by decide), e63, N63, ((Keep.refl h49 [b26]).trans K63 (allS (Or.inl (List.mem_of_getElem? (i := 0) rfl)) all0)), fq63_3, fq63_4, fq63_5, fq63_6, fq63_7, fq63_8, fq63_9, fq63_10, fq63_11, fq63_12, k64⟩
  have s59 : h49.size ≤ h59.size := K59.1
  have lt_fm59_0 := own_ltN fm59_0.lt
  have lt_fm59_1 := own_ltN fm59_1.lt
  have lt_fm59_2 := own_ltN fm59_2.lt
  have lt_fm59_3 := own_ltN fm59_3.lt
  have lt_fm59_4 := own_ltN fm59_4.lt
  have lt_fm59_5 := own_ltN fm59_5.lt
  have lt_fm59_6 := own_ltN fm59_6.lt
  have lt_fm59_7 := own_ltN fm59_7.lt
  have lt_fm59_8 := own_ltN fm59_8.lt
  have lt_fm59_9 := own_ltN fm59_9.lt
  have k65 : Rch p e below (s₁.setTop (entryFrame m #[(.int p1), (.int p2), (.int p3), (.int p4), (.int p5)] maxLocals)) T59 (mkF m 103 #[.val (.int p1), .val (.int p2), .val (.int p3), .val (.int p4), .val (.int p5), .val (.ref b2), .val (.ref b8), .val (.ref b14), .val (.ref b20), .val (.ref b26), .val (.int (rA + rB)), .unset, .unset, .unset, .unset, .unset, .unset, .unset, .unset] [(.ref b26)]) := fun tg kg => by
    refine k59 tg ?_
    show Steps p.tables e below (T59.setTop (mkF m 101 #[.val (.int p1), .val (.int p2), .val (.int p3), .val (.int p4), .val (.int p5), .val (.ref b2), .val (.ref b8), .val (.ref b14), .val (.ref b20), .val (.ref b26), .val (.int (rA + rB)), .unset, .unset, .unset, .unset, .unset, .unset, .unset, .unset] [])) tg
    refine XS.aload X59.here hx rfl (hb hby at_101) rfl rfl ?_
    exact kg
  obtain ⟨v66, T66, h66, Lc66, X66, e66, hQ66, st66⟩ := own_callV X59 hx hZ49 hown49 (hw _ (List.mem_of_getElem? (i := 90) rfl)) (hw _ (List.mem_of_getElem? (i := 91) rfl)) (notFace_of_selects (args := #[]) (mvT hZ49 (hw _ (List.mem_of_getElem? (i := 93) rfl)))) (hw _ (List.mem_of_getElem? (i := 93) rfl)) (hw _ (List.mem_of_getElem? (i := 92) rfl)) (hw _ (List.mem_of_getElem? (i := 94) rfl)) (hw _ (List.mem_of_getElem? (i := 3) rfl)) (by decide) (rm_next2 l Z a0 hw [] b26 hsq pgq (rA + rB) (0 : Int32) (0 : Int32) h59 n0 (by omega) fm59_0 fm59_1 fm59_2 fm59_3 fm59_4 fm59_5 fm59_6 fm59_7 fm59_8 fm59_9 (by omega)) e59 fm59_0 (g := (mkF m 103 #[.val (.int p1), .val (.int p2), .val (.int p3), .val (.int p4), .val (.int p5), .val (.ref b2), .val (.ref b8), .val (.ref b14), .val (.ref b20), .val (.ref b26), .val (.int (rA + rB)), .unset, .unset, .unset, .unset, .unset, .unset, .unset, .unset] [(.ref b26)])) rfl (by rw [hml]; rfl) (argsL := []) (rest := []) rfl (lenOf pd_15 rfl) rfl (W := 0) (by show 2 * 0 + _ ≤ _; exact Nat.le_of_eq rfl) (hb hby at_103) (by decide) (by decide) (by decide) (by decide)
  obtain ⟨rfl, Nq66, K66, fq66_3, fq66_4, fq66_5, fq66_6, fq66_7, fq66_8, fq66_9, fq66_10, fq66_11, fq66_12⟩ := hQ66
  have N66 := Fr.app N59 Nq66
  have s66 : h59.size ≤ h66.size := K66.1
  have k67 : Rch p e below (s₁.setTop (entryFrame m #[(.int p1), (.int p2), (.int p3), (.int p4), (.int p5)] maxLocals)) T66 (mkF m 106 #[.val (.int p1), .val (.int p2), .val (.int p3), .val (.int p4), .val (.int p5), .val (.ref b2), .val (.ref b8), .val (.ref b14), .val (.ref b20), .val (.ref b26), .val (.int (rA + rB)), .unset, .unset, .unset, .unset, .unset, .unset, .unset, .unset] [(.int (own_ltI (0 : Int32) (rA + rB)))]) := fun tg kg => k65 tg (st66 tg kg)
  have lt_fq66_3 := own_ltN fq66_3.lt
  have lt_fq66_4 := own_ltN fq66_4.lt
  have lt_fq66_5 := own_ltN fq66_5.lt
  have lt_fq66_6 := own_ltN fq66_6.lt
  have lt_fq66_7 := own_ltN fq66_7.lt
  have lt_fq66_8 := own_ltN fq66_8.lt
  have lt_fq66_9 := own_ltN fq66_9.lt
  have lt_fq66_10 := own_ltN fq66_10.lt
  have lt_fq66_11 := own_ltN fq66_11.lt
  have lt_fq66_12 := own_ltN fq66_12.lt
  have k68 : Rch p e below (s₁.setTop (entryFrame m #[(.int p1), (.int p2), (.int p3), (.int p4), (.int p5)] maxLocals)) T66 (mkF m 112 #[.val (.int p1), .val (.int p2), .val (.int p3), .val (.int p4), .val (.int p5), .val (.ref b2), .val (.ref b8), .val (.ref b14), .val (.ref b20), .val (.ref b26), .val (.int (rA + rB)), .val (.int (own_ltI (0 : Int32) (rA + rB))), .unset, .unset, .unset, .unset, .unset, .unset, .unset] [(.int (rA + rB)), (.int (own_ltI (0 : Int32) (rA + rB)))]) := fun tg kg => by
    refine k67 tg ?_
    show Steps p.tables e below (T66.setTop (mkF m 106 #[.val (.int p1), .val (.int p2), .val (.int p3), .val (.int p4), .val (.int p5), .val (.ref b2), .val (.ref b8), .val (.ref b14), .val (.ref b20), .val (.ref b26), .val (.int (rA + rB)), .unset, .unset, .unset, .unset, .unset, .unset, .unset, .unset] [(.int (own_ltI (0 : Int32) (rA + rB)))])) tg
    refine XS.istore X66.here hx rfl (hb hby at_106) rfl (l' := #[.val (.int p1), .val (.int p2), .val (.int p3), .val (.int p4), .val (.int p5), .val (.ref b2), .val (.ref b8), .val (.ref b14), .val (.ref b20), .val (.ref b26), .val (.int (rA + rB)), .val (.int (own_ltI (0 : Int32) (rA + rB))), .unset, .unset, .unset, .unset, .unset, .unset, .unset]) rfl ?_
    refine XS.iload X66.here hx rfl (hb hby at_108) rfl ?_
    refine XS.iload X66.here hx rfl (hb hby at_110) rfl ?_
    exact kg
  have k69 : Rch p e below (s₁.setTop (entryFrame m #[(.int p1), (.int p2), (.int p3), (.int p4), (.int p5)] maxLocals)) T66 (mkF m 123 #[.val (.int p1), .val (.int p2), .val (.int p3), .val (.int p4), .val (.int p5), .val (.ref b2), .val (.ref b8), .val (.ref b14), .val (.ref b20), .val (.ref b26), .val (.int (rA + rB)), .val (.int (own_ltI (0 : Int32) (rA + rB))), .unset, .unset, .unset, .unset, .unset, .unset, .unset] []) := by
    by_cases hc112_70 : (0 : Int32) < (rA + rB)
    · have k71 : Rch p e below (s₁.setTop (entryFrame m #[(.int p1), (.int p2), (.int p3), (.int p4), (.int p5)] maxLocals)) T66 (mkF m 123 #[.val (.int p1), .val (.int p2), .val (.int p3), .val (.int p4), .val (.int p5), .val (.ref b2), .val (.ref b8), .val (.ref b14), .val (.ref b20), .val (.ref b26), .val (.int (rA + rB)), .val (.int (own_ltI (0 : Int32) (rA + rB))), .unset, .unset, .unset, .unset, .unset, .unset, .unset] []) := fun tg kg => by
        refine k68 tg ?_
        show Steps p.tables e below (T66.setTop (mkF m 112 #[.val (.int p1), .val (.int p2), .val (.int p3), .val (.int p4), .val (.int p5), .val (.ref b2), .val (.ref b8), .val (.ref b14), .val (.ref b20), .val (.ref b26), .val (.int (rA + rB)), .val (.int (own_ltI (0 : Int32) (rA + rB))), .unset, .unset, .unset, .unset, .unset, .unset, .unset] [(.int (rA + rB)), (.int (own_ltI (0 : Int32) (rA + rB)))])) tg
        refine XS.ifNo X66.here hx rfl (hb hby at_112) rfl ((if0 _ _).trans (tlt hc112_70).2.2.2) ?_
        refine XS.iconst X66.here hx rfl (hb hby at_115) ?_
        refine XS.goto X66.here hx rfl (pc0 := 116) (pc' := 120) rfl (hb hby at_116) (by decide) (by decide) ?_
        show Steps p.tables e below (T66.setTop (mkF m 120 #[.val (.int p1), .val (.int p2), .val (.int p3), .val (.int p4), .val (.int p5), .val (.ref b2), .val (.ref b8), .val (.ref b14), .val (.ref b20), .val (.ref b26), .val (.int (rA + rB)), .val (.int (own_ltI (0 : Int32) (rA + rB))), .unset, .unset, .unset, .unset, .unset, .unset, .unset] [(.int (1 : Int32)), (.int (own_ltI (0 : Int32) (rA + rB)))])) tg
        refine XS.icmpNo X66.here hx rfl (hb hby at_120) rfl (teq (if_pos hc112_70)).2 ?_
        exact kg
      exact k71
    · have k72 : Rch p e below (s₁.setTop (entryFrame m #[(.int p1), (.int p2), (.int p3), (.int p4), (.int p5)] maxLocals)) T66 (mkF m 123 #[.val (.int p1), .val (.int p2), .val (.int p3), .val (.int p4), .val (.int p5), .val (.ref b2), .val (.ref b8), .val (.ref b14), .val (.ref b20), .val (.ref b26), .val (.int (rA + rB)), .val (.int (own_ltI (0 : Int32) (rA + rB))), .unset, .unset, .unset, .unset, .unset, .unset, .unset] []) := fun tg kg => by
        refine k68 tg ?_
        show Steps p.tables e below (T66.setTop (mkF m 112 #[.val (.int p1), .val (.int p2), .val (.int p3), .val (.int p4), .val (.int p5), .val (.ref b2), .val (.ref b8), .val (.ref b14), .val (.ref b20), .val (.ref b26), .val (.int (rA + rB)), .val (.int (own_ltI (0 : Int32) (rA + rB))), .unset, .unset, .unset, .unset, .unset, .unset, .unset] [(.int (rA + rB)), (.int (own_ltI (0 : Int32) (rA + rB)))])) tg
        refine XS.ifYes X66.here hx rfl (pc0 := 112) (pc' := 119) rfl (hb hby at_112) rfl ((if0 _ _).trans (flt hc112_70).2.2.2) (by decide) (by decide) ?_
        refine XS.iconst X66.here hx rfl (hb hby at_119) ?_
        refine XS.icmpNo X66.here hx rfl (hb hby at_120) rfl (teq (if_neg hc112_70)).2 ?_
        exact kg
      exact k72
  have k73 : Rch p e below (s₁.setTop (entryFrame m #[(.int p1), (.int p2), (.int p3), (.int p4), (.int p5)] maxLocals)) T66 (mkF m 125 #[.val (.int p1), .val (.int p2), .val (.int p3), .val (.int p4), .val (.int p5), .val (.ref b2), .val (.ref b8), .val (.ref b14), .val (.ref b20), .val (.ref b26), .val (.int (rA + rB)), .val (.int (own_ltI (0 : Int32) (rA + rB))), .unset, .unset, .unset, .unset, .unset, .unset, .unset] [(.ref b26)]) := fun tg kg => by
    refine k69 tg ?_
    show Steps p.tables e below (T66.setTop (mkF m 123 #[.val (.int p1), .val (.int p2), .val (.int p3), .val (.int p4), .val (.int p5), .val (.ref b2), .val (.ref b8), .val (.ref b14), .val (.ref b20), .val (.ref b26), .val (.int (rA + rB)), .val (.int (own_ltI (0 : Int32) (rA + rB))), .unset, .unset, .unset, .unset, .unset, .unset, .unset] [])) tg
    refine XS.aload X66.here hx rfl (hb hby at_123) rfl rfl ?_
    exact kg
  obtain ⟨v74, T74, h74, Lc74, X74, e74, hQ74, st74⟩ := own_callV X66 hx hZ49 hown49 (hw _ (List.mem_of_getElem? (i := 101) rfl)) (hw _ (List.mem_of_getElem? (i := 102) rfl)) (notFace_of_selects (args := #[]) (mvT hZ49 (hw _ (List.mem_of_getElem? (i := 104) rfl)))) (hw _ (List.mem_of_getElem? (i := 104) rfl)) (hw _ (List.mem_of_getElem? (i := 103) rfl)) (hw _ (List.mem_of_getElem? (i := 105) rfl)) (hw _ (List.mem_of_getElem? (i := 3) rfl)) (by decide) (rm_ds l Z a0 hw [] b26 hsq pgq (rA + rB) (0 : Int32) (rA + rB) h66 n0 (by omega) fq66_3 fq66_4 fq66_5 fq66_6 fq66_7 fq66_8 fq66_9 fq66_10 fq66_11 fq66_12 (by omega)) e66 fq66_3 (g := (mkF m 125 #[.val (.int p1), .val (.int p2), .val (.int p3), .val (.int p4), .val (.int p5), .val (.ref b2), .val (.ref b8), .val (.ref b14), .val (.ref b20), .val (.ref b26), .val (.int (rA + rB)), .val (.int (own_ltI (0 : Int32) (rA + rB))), .unset, .unset, .unset, .unset, .unset, .unset, .unset] [(.ref b26)])) rfl (by rw [hml]; rfl) (argsL := []) (rest := []) rfl (lenOf pd_16 rfl) rfl (W := 0) (by show 2 * 0 + _ ≤ _; exact Nat.le_of_eq rfl) (hb hby at_125) (by decide) (by decide) (by decide) (by decide)
  obtain ⟨rfl, Nq74, hs74⟩ := hQ74
  have N74 := Fr.app N66 Nq74
  have e74' : T74.heap = h66 := e74.trans hs74
  have k75 : Rch p e below (s₁.setTop (entryFrame m #[(.int p1), (.int p2), (.int p3), (.int p4), (.int p5)] maxLocals)) T74 (mkF m 128 #[.val (.int p1), .val (.int p2), .val (.int p3), .val (.int p4), .val (.int p5), .val (.ref b2), .val (.ref b8), .val (.ref b14), .val (.ref b20), .val (.ref b26), .val (.int (rA + rB)), .val (.int (own_ltI (0 : Int32) (rA + rB))), .unset, .unset, .unset, .unset, .unset, .unset, .unset] [(.int (0 : Int32))]) := fun tg kg => k73 tg (st74 tg kg)
  have k76 : Rch p e below (s₁.setTop (entryFrame m #[(.int p1), (.int p2), (.int p3), (.int p4), (.int p5)] maxLocals)) T74 (mkF m 133 #[.val (.int p1), .val (.int p2), .val (.int p3), .val (.int p4), .val (.int p5), .val (.ref b2), .val (.ref b8), .val (.ref b14), .val (.ref b20), .val (.ref b26), .val (.int (rA + rB)), .val (.int (own_ltI (0 : Int32) (rA + rB))), .unset, .unset, .unset, .unset, .unset, .unset, .unset] [(.ref b26)]) := fun tg kg => by
    refine k75 tg ?_
    show Steps p.tables e below (T74.setTop (mkF m 128 #[.val (.int p1), .val (.int p2), .val (.int p3), .val (.int p4), .val (.int p5), .val (.ref b2), .val (.ref b8), .val (.ref b14), .val (.ref b20), .val (.ref b26), .val (.int (rA + rB)), .val (.int (own_ltI (0 : Int32) (rA + rB))), .unset, .unset, .unset, .unset, .unset, .unset, .unset] [(.int (0 : Int32))])) tg
    refine XS.ifNo X74.here hx rfl (hb hby at_128) rfl ((if0 _ _).trans (teq rfl).2) ?_
    refine XS.aload X74.here hx rfl (hb hby at_131) rfl rfl ?_
    exact kg
  obtain ⟨v77, T77, h77, Lc77, X77, e77, hQ77, st77⟩ := own_callV X74 hx hZ49 hown49 (hw _ (List.mem_of_getElem? (i := 106) rfl)) (hw _ (List.mem_of_getElem? (i := 107) rfl)) (notFace_of_selects (args := #[]) (mvT hZ49 (hw _ (List.mem_of_getElem? (i := 109) rfl)))) (hw _ (List.mem_of_getElem? (i := 109) rfl)) (hw _ (List.mem_of_getElem? (i := 108) rfl)) (hw _ (List.mem_of_getElem? (i := 110) rfl)) (hw _ (List.mem_of_getElem? (i := 3) rfl)) (by decide) (rm_de l Z a0 hw [] b26 hsq pgq (rA + rB) (0 : Int32) (rA + rB) h66 n0 (by omega) fq66_3 fq66_4 fq66_5 fq66_6 fq66_7 fq66_8 fq66_9 fq66_10 fq66_11 fq66_12 (by omega)) e74' fq66_3 (g := (mkF m 133 #[.val (.int p1), .val (.int p2), .val (.int p3), .val (.int p4), .val (.int p5), .val (.ref b2), .val (.ref b8), .val (.ref b14), .val (.ref b20), .val (.ref b26), .val (.int (rA + rB)), .val (.int (own_ltI (0 : Int32) (rA + rB))), .unset, .unset, .unset, .unset, .unset, .unset, .unset] [(.ref b26)])) rfl (by rw [hml]; rfl) (argsL := []) (rest := []) rfl (lenOf pd_16 rfl) rfl (W := 0) (by show 2 * 0 + _ ≤ _; exact Nat.le_of_eq rfl) (hb hby at_133) (by decide) (by decide) (by decide) (by decide)
  obtain ⟨rfl, Nq77, hs77⟩ := hQ77
  have N77 := Fr.app N74 Nq77
  have e77' : T77.heap = h66 := e77.trans hs77
  have k78 : Rch p e below (s₁.setTop (entryFrame m #[(.int p1), (.int p2), (.int p3), (.int p4), (.int p5)] maxLocals)) T77 (mkF m 136 #[.val (.int p1), .val (.int p2), .val (.int p3), .val (.int p4), .val (.int p5), .val (.ref b2), .val (.ref b8), .val (.ref b14), .val (.ref b20), .val (.ref b26), .val (.int (rA + rB)), .val (.int (own_ltI (0 : Int32) (rA + rB))), .unset, .unset, .unset, .unset, .unset, .unset, .unset] [(.int (rA + rB))]) := fun tg kg => k76 tg (st77 tg kg)
  have k79 : Rch p e below (s₁.setTop (entryFrame m #[(.int p1), (.int p2), (.int p3), (.int p4), (.int p5)] maxLocals)) T77 (mkF m 156 #[.val (.int p1), .val (.int p2), .val (.int p3), .val (.int p4), .val (.int p5), .val (.ref b2), .val (.ref b8), .val (.ref b14), .val (.ref b20), .val (.ref b26), .val (.int (rA + rB)), .val (.int (own_ltI (0 : Int32) (rA + rB))), .val (.int (1 : Int32)), .unset, .unset, .unset, .unset, .unset, .unset] [(.int (p1 &&& (8 : Int32))), (.ref b26), (.int (rA + rB))]) := fun tg kg => by
    refine k78 tg ?_
    show Steps p.tables e below (T77.setTop (mkF m 136 #[.val (.int p1), .val (.int p2), .val (.int p3), .val (.int p4), .val (.int p5), .val (.ref b2), .val (.ref b8), .val (.ref b14), .val (.ref b20), .val (.ref b26), .val (.int (rA + rB)), .val (.int (own_ltI (0 : Int32) (rA + rB))), .unset, .unset, .unset, .unset, .unset, .unset, .unset] [(.int (rA + rB))])) tg
    refine XS.iload X77.here hx rfl (hb hby at_136) rfl ?_
    refine XS.icmpNo X77.here hx rfl (hb hby at_138) rfl (teq rfl).2 ?_
    refine XS.iconst X77.here hx rfl (hb hby at_141) ?_
    refine XS.goto X77.here hx rfl (pc0 := 142) (pc' := 146) rfl (hb hby at_142) (by decide) (by decide) ?_
    refine XS.istore X77.here hx rfl (hb hby at_146) rfl (l' := #[.val (.int p1), .val (.int p2), .val (.int p3), .val (.int p4), .val (.int p5), .val (.ref b2), .val (.ref b8), .val (.ref b14), .val (.ref b20), .val (.ref b26), .val (.int (rA + rB)), .val (.int (own_ltI (0 : Int32) (rA + rB))), .val (.int (1 : Int32)), .unset, .unset, .unset, .unset, .unset, .unset]) rfl ?_
    refine XS.iload X77.here hx rfl (hb hby at_148) rfl ?_
    show Steps p.tables e below (T77.setTop (mkF m 150 #[.val (.int p1), .val (.int p2), .val (.int p3), .val (.int p4), .val (.int p5), .val (.ref b2), .val (.ref b8), .val (.ref b14), .val (.ref b20), .val (.ref b26), .val (.int (rA + rB)), .val (.int (own_ltI (0 : Int32) (rA + rB))), .val (.int (1 : Int32)), .unset, .unset, .unset, .unset, .unset, .unset] [(.int (rA + rB))])) tg
    refine XS.aload X77.here hx rfl (hb hby at_150) rfl rfl ?_
    refine XS.iloadN X77.here hx rfl (hb hby at_152) rfl ?_
    refine XS.bipush X77.here hx rfl (hb hby at_153) ?_
    refine XS.iand X77.here hx rfl (hb hby at_155) rfl ?_
    exact kg
  obtain ⟨onC, ht_onC, k80⟩ : ∃ (onC : Int32), (True) ∧ Rch p e below (s₁.setTop (entryFrame m #[(.int p1), (.int p2), (.int p3), (.int p4), (.int p5)] maxLocals)) T77 (mkF m 164 #[.val (.int p1), .val (.int p2), .val (.int p3), .val (.int p4), .val (.int p5), .val (.ref b2), .val (.ref b8), .val (.ref b14), .val (.ref b20), .val (.ref b26), .val (.int (rA + rB)), .val (.int (own_ltI (0 : Int32) (rA + rB))), .val (.int (1 : Int32)), .unset, .unset, .unset, .unset, .unset, .unset] [(.int onC), (.ref b26), (.int (rA + rB))]) := by
    by_cases hc156_81 : (p1 &&& (8 : Int32)) = (0 : Int32)
    · have k82 : Rch p e below (s₁.setTop (entryFrame m #[(.int p1), (.int p2), (.int p3), (.int p4), (.int p5)] maxLocals)) T77 (mkF m 164 #[.val (.int p1), .val (.int p2), .val (.int p3), .val (.int p4), .val (.int p5), .val (.ref b2), .val (.ref b8), .val (.ref b14), .val (.ref b20), .val (.ref b26), .val (.int (rA + rB)), .val (.int (own_ltI (0 : Int32) (rA + rB))), .val (.int (1 : Int32)), .unset, .unset, .unset, .unset, .unset, .unset] [(.int (0 : Int32)), (.ref b26), (.int (rA + rB))]) := fun tg kg => by
        refine k79 tg ?_
        show Steps p.tables e below (T77.setTop (mkF m 156 #[.val (.int p1), .val (.int p2), .val (.int p3), .val (.int p4), .val (.int p5), .val (.ref b2), .val (.ref b8), .val (.ref b14), .val (.ref b20), .val (.ref b26), .val (.int (rA + rB)), .val (.int (own_ltI (0 : Int32) (rA + rB))), .val (.int (1 : Int32)), .unset, .unset, .unset, .unset, .unset, .unset] [(.int (p1 &&& (8 : Int32))), (.ref b26), (.int (rA + rB))])) tg
        refine XS.ifYes X77.here hx rfl (pc0 := 156) (pc' := 163) rfl (hb hby at_156) rfl ((if0 _ _).trans (teq hc156_81).1) (by decide) (by decide) ?_
        refine XS.iconst X77.here hx rfl (hb hby at_163) ?_
        exact kg
      exact ⟨_, trivial, k82⟩
    · have k83 : Rch p e below (s₁.setTop (entryFrame m #[(.int p1), (.int p2), (.int p3), (.int p4), (.int p5)] maxLocals)) T77 (mkF m 164 #[.val (.int p1), .val (.int p2), .val (.int p3), .val (.int p4), .val (.int p5), .val (.ref b2), .val (.ref b8), .val (.ref b14), .val (.ref b20), .val (.ref b26), .val (.int (rA + rB)), .val (.int (own_ltI (0 : Int32) (rA + rB))), .val (.int (1 : Int32)), .unset, .unset, .unset, .unset, .unset, .unset] [(.int (1 : Int32)), (.ref b26), (.int (rA + rB))]) := fun tg kg => by
        refine k79 tg ?_
        show Steps p.tables e below (T77.setTop (mkF m 156 #[.val (.int p1), .val (.int p2), .val (.int p3), .val (.int p4), .val (.int p5), .val (.ref b2), .val (.ref b8), .val (.ref b14), .val (.ref b20), .val (.ref b26), .val (.int (rA + rB)), .val (.int (own_ltI (0 : Int32) (rA + rB))), .val (.int (1 : Int32)), .unset, .unset, .unset, .unset, .unset, .unset] [(.int (p1 &&& (8 : Int32))), (.ref b26), (.int (rA + rB))])) tg
        refine XS.ifNo X77.here hx rfl (hb hby at_156) rfl ((if0 _ _).trans (feq hc156_81).1) ?_
        refine XS.iconst X77.here hx rfl (hb hby at_159) ?_
        show Steps p.tables e below (T77.setTop (mkF m 160 #[.val (.int p1), .val (.int p2), .val (.int p3), .val (.int p4), .val (.int p5), .val (.ref b2), .val (.ref b8), .val (.ref b14), .val (.ref b20), .val (.ref b26), .val (.int (rA + rB)), .val (.int (own_ltI (0 : Int32) (rA + rB))), .val (.int (1 : Int32)), .unset, .unset, .unset, .unset, .unset, .unset] [(.int (1 : Int32)), (.ref b26), (.int (rA + rB))])) tg
        refine XS.goto X77.here hx rfl (pc0 := 160) (pc' := 164) rfl (hb hby at_160) (by decide) (by decide) ?_
        exact kg
      exact ⟨_, trivial, k83⟩
  have k84 : Rch p e below (s₁.setTop (entryFrame m #[(.int p1), (.int p2), (.int p3), (.int p4), (.int p5)] maxLocals)) T77 (mkF m 166 #[.val (.int p1), .val (.int p2), .val (.int p3), .val (.int p4), .val (.int p5), .val (.ref b2), .val (.ref b8), .val (.ref b14), .val (.ref b20), .val (.ref b26), .val (.int (rA + rB)), .val (.int (own_ltI (0 : Int32) (rA + rB))), .val (.int (1 : Int32)), .unset, .unset, .unset, .unset, .unset, .unset] [(.ref b14), (.int onC), (.ref b26), (.int (rA + rB))]) := fun tg kg => by
    refine k80 tg ?_
    show Steps p.tables e below (T77.setTop (mkF m 164 #[.val (.int p1), .val (.int p2), .val (.int p3), .val (.int p4), .val (.int p5), .val (.ref b2), .val (.ref b8), .val (.ref b14), .val (.ref b20), .val (.ref b26), .val (.int (rA + rB)), .val (.int (own_ltI (0 : Int32) (rA + rB))), .val (.int (1 : Int32)), .unset, .unset, .unset, .unset, .unset, .unset] [(.int onC), (.ref b26), (.int (rA + rB))])) tg
    refine XS.aload X77.here hx rfl (hb hby at_164) rfl rfl ?_
    exact kg
  have f86 : Exa Z h66 hsq "com/example/verum/verum/HashSlots" := (((f50.keep K49).keep K59).keep K66)
  have f87 : Fld Z h66 hsq "com/example/verum/verum/HashSlots" "pages" "[[I" (.ref hpq) := (((f51.keep K49 (ninS (by first | exact own_ne (by omega) | assumption | (apply Ne.symm; assumption)) (ninS (by first | exact own_ne (by omega) | assumption | (apply Ne.symm; assumption)) (ninS (by first | exact own_ne (by omega) | assumption | (apply Ne.symm; assumption)) nin0)))).keep K59 (ninS (by first | exact own_ne (by omega) | assumption | (apply Ne.symm; assumption)) nin0)).keep K66 (ninS (by first | exact own_ne (by omega) | assumption | (apply Ne.symm; assumption)) nin0))
  have f88 : Fld Z h66 hsq "com/example/verum/verum/HashSlots" "mask" "I" (.int (15 : Int32)) := (((f52.keep K49 (ninS (by first | exact own_ne (by omega) | assumption | (apply Ne.symm; assumption)) (ninS (by first | exact own_ne (by omega) | assumption | (apply Ne.symm; assumption)) (ninS (by first | exact own_ne (by omega) | assumption | (apply Ne.symm; assumption)) nin0)))).keep K59 (ninS (by first | exact own_ne (by omega) | assumption | (apply Ne.symm; assumption)) nin0)).keep K66 (ninS (by first | exact own_ne (by omega) | assumption | (apply Ne.symm; assumption)) nin0))
  have f89 : Fld Z h66 hsq "com/example/verum/verum/HashSlots" "shared" "Z" (.int (0 : Int32)) := (((f53.keep K49 (ninS (by first | exact own_ne (by omega) | assumption | (apply Ne.symm; assumption)) (ninS (by first | exact own_ne (by omega) | assumption | (apply Ne.symm; assumption)) (ninS (by first | exact own_ne (by omega) | assumption | (apply Ne.symm; assumption)) nin0)))).keep K59 (ninS (by first | exact own_ne (by omega) | assumption | (apply Ne.symm; assumption)) nin0)).keep K66 (ninS (by first | exact own_ne (by omega) | assumption | (apply Ne.symm; assumption)) nin0))
  have f90 : Arv Z h66 pgq kpgq (.array .int) (1 : Int32) [(.ref pzq)] .null := (((f54.keep K49 (ninS (by first | exact own_ne (by omega) | assumption | (apply Ne.symm; assumption)) (ninS (by first | exact own_ne (by omega) | assumption | (apply Ne.symm; assumption)) (ninS (by first | exact own_ne (by omega) | assumption | (apply Ne.symm; assumption)) nin0)))).keep K59 (ninS (by first | exact own_ne (by omega) | assumption | (apply Ne.symm; assumption)) nin0)).keep K66 (ninS (by first | exact own_ne (by omega) | assumption | (apply Ne.symm; assumption)) nin0))
  have f91 : Arv Z h66 pzq kpzq .int (8 : Int32) rqB (.int (0 : Int32)) := ((fq49_13.keep K59 (ninS (by first | exact own_ne (by omega) | assumption | (apply Ne.symm; assumption)) nin0)).keep K66 (ninS (by first | exact own_ne (by omega) | assumption | (apply Ne.symm; assumption)) nin0))
  have f92 : Arv Z h66 hpq khpq (.array .int) (1 : Int32) [(.ref htq)] .null := (((f55.keep K49 (ninS (by first | exact own_ne (by omega) | assumption | (apply Ne.symm; assumption)) (ninS (by first | exact own_ne (by omega) | assumption | (apply Ne.symm; assumption)) (ninS (by first | exact own_ne (by omega) | assumption | (apply Ne.symm; assumption)) nin0)))).keep K59 (ninS (by first | exact own_ne (by omega) | assumption | (apply Ne.symm; assumption)) nin0)).keep K66 (ninS (by first | exact own_ne (by omega) | assumption | (apply Ne.symm; assumption)) nin0))
  have f93 : Arv Z h66 htq khtq .int (16 : Int32) (tqB.map Value.int) (.int (0 : Int32)) := ((fq49_14.keep K59 (ninS (by first | exact own_ne (by omega) | assumption | (apply Ne.symm; assumption)) nin0)).keep K66 (ninS (by first | exact own_ne (by omega) | assumption | (apply Ne.symm; assumption)) nin0))
  have f94 : Arv Z h66 b14 c14 .int (1 : Int32) [(.int p4)] (.int (0 : Int32)) := ((((((((V17.ext E20).other W23 (by first | exact own_ne (by omega) | assumption | (apply Ne.symm; assumption))).ext E26).keep K29 (ninS (by first | exact own_ne (by omega) | assumption | (apply Ne.symm; assumption)) nin0)).keep K39 (ninS (by first | exact own_ne (by omega) | assumption | (apply Ne.symm; assumption)) (ninS (by first | exact own_ne (by omega) | assumption | (apply Ne.symm; assumption)) (ninS (by first | exact own_ne (by omega) | assumption | (apply Ne.symm; assumption)) nin0)))).keep K49 (ninS (by first | exact own_ne (by omega) | assumption | (apply Ne.symm; assumption)) (ninS (by first | exact own_ne (by omega) | assumption | (apply Ne.symm; assumption)) (ninS (by first | exact own_ne (by omega) | assumption | (apply Ne.symm; assumption)) nin0)))).keep K59 (ninS (by first | exact own_ne (by omega) | assumption | (apply Ne.symm; assumption)) nin0)).keep K66 (ninS (by first | exact own_ne (by omega) | assumption | (apply Ne.symm; assumption)) nin0))
  obtain ⟨v85, T85, h85, Lc85, X85, e85, hQ85, hS85, hZ85, hown85, st85⟩ := own_callSW X77 hx hZ49 hown49 (hw _ (List.mem_of_getElem? (i := 86) rfl)) (hw _ (List.mem_of_getElem? (i := 87) rfl)) (hw _ (List.mem_of_getElem? (i := 88) rfl)) (hw _ (List.mem_of_getElem? (i := 89) rfl)) (by decide) (rm_addIf l Z a0 hw [] b26 b14 hsq pgq pzq hpq htq kpgq kpzq khpq khtq (rA + rB) (0 : Int32) (rA + rB) rqB tqB c14 p4 onC h66 n0 (by omega) fq66_3 fq66_4 fq66_5 fq66_6 fq66_7 fq66_8 fq66_9 fq66_10 fq66_11 fq66_12 f86 f87 f88 f89 f90 f91 f92 f93 f94 oA oB oC oD oE bsB.1 (by have := bsB; omega) tabB hp49_len (by omega)) e77' hS49 (by first | exact Nat.le_refl _ | omega) (g := (mkF m 166 #[.val (.int p1), .val (.int p2), .val (.int p3), .val (.int p4), .val (.int p5), .val (.ref b2), .val (.ref b8), .val (.ref b14), .val (.ref b20), .val (.ref b26), .val (.int (rA + rB)), .val (.int (own_ltI (0 : Int32) (rA + rB))), .val (.int (1 : Int32)), .unset, .unset, .unset, .unset, .unset, .unset] [(.ref b14), (.int onC), (.ref b26), (.int (rA + rB))])) rfl (by rw [hml]; rfl) (argsL := [(.ref b26), (.int onC), (.ref b14)]) (rest := [(.int (rA + rB))]) rfl (lenOf pd_14 rfl) rfl (W := 1) (by show 2 * 0 + _ ≤ _; exact Nat.le_of_eq rfl) (hb hby at_166) (by decide) (by decide) (by decide) (by decide)
  obtain ⟨rC, rqC, tqC, rfl, Nq85, K85, fq85_3, fq85_4, fq85_5, fq85_6, fq85_7, fq85_8, fq85_9, fq85_10, fq85_11, fq85_12, fq85_13, fq85_14, hp85_bit, hp85_tab, hp85_len⟩ := hQ85
  have N85 := Fr.app N77 Nq85
  have s85 : h66.size ≤ h85.size := K85.1
  have k95 : Rch p e below (s₁.setTop (entryFrame m #[(.int p1), (.int p2), (.int p3), (.int p4), (.int p5)] maxLocals)) T85 (mkF m 169 #[.val (.int p1), .val (.int p2), .val (.int p3), .val (.int p4), .val (.int p5), .val (.ref b2), .val (.ref b8), .val (.ref b14), .val (.ref b20), .val (.ref b26), .val (.int (rA + rB)), .val (.int (own_ltI (0 : Int32) (rA + rB))), .val (.int (1 : Int32)), .unset, .unset, .unset, .unset, .unset, .unset] [(.int rC), (.int (rA + rB))]) := fun tg kg => k84 tg (st85 tg kg)
  have lt_fq85_3 := own_ltN fq85_3.lt
  have lt_fq85_4 := own_ltN fq85_4.lt
  have lt_fq85_5 := own_ltN fq85_5.lt
  have lt_fq85_6 := own_ltN fq85_6.lt
  have lt_fq85_7 := own_ltN fq85_7.lt
  have lt_fq85_8 := own_ltN fq85_8.lt
  have lt_fq85_9 := own_ltN fq85_9.lt
  have lt_fq85_10 := own_ltN fq85_10.lt
  have lt_fq85_11 := own_ltN fq85_11.lt
  have lt_fq85_12 := own_ltN fq85_12.lt
  have lt_fq85_13 := own_ltN fq85_13.lt
  have lt_fq85_14 := own_ltN fq85_14.lt
  have bdC : 0 ≤ rC.toInt ∧ rC.toInt ≤ 1 := own_r01 hp85_bit
  have tabC := hp85_tab
  have bsC : 0 ≤ ((rA + rB) + rC).toInt ∧ ((rA + rB) + rC).toInt ≤ 3 := by have q := own_add bsB.1 bsB.2 (by decide) bdC.1 bdC.2; exact q
  have k96 : Rch p e below (s₁.setTop (entryFrame m #[(.int p1), (.int p2), (.int p3), (.int p4), (.int p5)] maxLocals)) T85 (mkF m 180 #[.val (.int p1), .val (.int p2), .val (.int p3), .val (.int p4), .val (.int p5), .val (.ref b2), .val (.ref b8), .val (.ref b14), .val (.ref b20), .val (.ref b26), .val (.int (rA + rB)), .val (.int (own_ltI (0 : Int32) (rA + rB))), .val (.int (1 : Int32)), .val (.int ((rA + rB) + rC)), .unset, .unset, .unset, .unset, .unset] [(.int (p1 &&& (16 : Int32))), (.ref b26), (.int ((rA + rB) + rC))]) := fun tg kg => by
    refine k95 tg ?_
    show Steps p.tables e below (T85.setTop (mkF m 169 #[.val (.int p1), .val (.int p2), .val (.int p3), .val (.int p4), .val (.int p5), .val (.ref b2), .val (.ref b8), .val (.ref b14), .val (.ref b20), .val (.ref b26), .val (.int (rA + rB)), .val (.int (own_ltI (0 : Int32) (rA + rB))), .val (.int (1 : Int32)), .unset, .unset, .unset, .unset, .unset, .unset] [(.int rC), (.int (rA + rB))])) tg
    refine XS.iadd X85.here hx rfl (hb hby at_169) rfl ?_
    show Steps p.tables e below (T85.setTop (mkF m 170 #[.val (.int p1), .val (.int p2), .val (.int p3), .val (.int p4), .val (.int p5), .val (.ref b2), .val (.ref b8), .val (.ref b14), .val (.ref b20), .val (.ref b26), .val (.int (rA + rB)), .val (.int (own_ltI (0 : Int32) (rA + rB))), .val (.int (1 : Int32)), .unset, .unset, .unset, .unset, .unset, .unset] [(.int ((rA + rB) + rC))])) tg
    refine XS.istore X85.here hx rfl (hb hby at_170) rfl (l' := #[.val (.int p1), .val (.int p2), .val (.int p3), .val (.int p4), .val (.int p5), .val (.ref b2), .val (.ref b8), .val (.ref b14), .val (.ref b20), .val (.ref b26), .val (.int (rA + rB)), .val (.int (own_ltI (0 : Int32) (rA + rB))), .val (.int (1 : Int32)), .val (.int ((rA + rB) + rC)), .unset, .unset, .unset, .unset, .unset]) rfl ?_
    refine XS.iload X85.here hx rfl (hb hby at_172) rfl ?_
    refine XS.aload X85.here hx rfl (hb hby at_174) rfl rfl ?_
    refine XS.iloadN X85.here hx rfl (hb hby at_176) rfl ?_
    refine XS.bipush X85.here hx rfl (hb hby at_177) ?_
    refine XS.iand X85.here hx rfl (hb hby at_179) rfl ?_
    exact kg
  obtain ⟨onD, ht_onD, k97⟩ : ∃ (onD : Int32), (True) ∧ Rch p e below (s₁.setTop (entryFrame m #[(.int p1), (.int p2), (.int p3), (.int p4), (.int p5)] maxLocals)) T85 (mkF m 188 #[.val (.int p1), .val (.int p2), .val (.int p3), .val (.int p4), .val (.int p5), .val (.ref b2), .val (.ref b8), .val (.ref b14), .val (.ref b20), .val (.ref b26), .val (.int (rA + rB)), .val (.int (own_ltI (0 : Int32) (rA + rB))), .val (.int (1 : Int32)), .val (.int ((rA + rB) + rC)), .unset, .unset, .unset, .unset, .unset] [(.int onD), (.ref b26), (.int ((rA + rB) + rC))]) := by
    by_cases hc180_98 : (p1 &&& (16 : Int32)) = (0 : Int32)
    · have k99 : Rch p e below (s₁.setTop (entryFrame m #[(.int p1), (.int p2), (.int p3), (.int p4), (.int p5)] maxLocals)) T85 (mkF m 188 #[.val (.int p1), .val (.int p2), .val (.int p3), .val (.int p4), .val (.int p5), .val (.ref b2), .val (.ref b8), .val (.ref b14), .val (.ref b20), .val (.ref b26), .val (.int (rA + rB)), .val (.int (own_ltI (0 : Int32) (rA + rB))), .val (.int (1 : Int32)), .val (.int ((rA + rB) + rC)), .unset, .unset, .unset, .unset, .unset] [(.int (0 : Int32)), (.ref b26), (.int ((rA + rB) + rC))]) := fun tg kg => by
        refine k96 tg ?_
        show Steps p.tables e below (T85.setTop (mkF m 180 #[.val (.int p1), .val (.int p2), .val (.int p3), .val (.int p4), .val (.int p5), .val (.ref b2), .val (.ref b8), .val (.ref b14), .val (.ref b20), .val (.ref b26), .val (.int (rA + rB)), .val (.int (own_ltI (0 : Int32) (rA + rB))), .val (.int (1 : Int32)), .val (.int ((rA + rB) + rC)), .unset, .unset, .unset, .unset, .unset] [(.int (p1 &&& (16 : Int32))), (.ref b26), (.int ((rA + rB) + rC))])) tg
        refine XS.ifYes X85.here hx rfl (pc0 := 180) (pc' := 187) rfl (hb hby at_180) rfl ((if0 _ _).trans (teq hc180_98).1) (by decide) (by decide) ?_
        refine XS.iconst X85.here hx rfl (hb hby at_187) ?_
        exact kg
      exact ⟨_, trivial, k99⟩
    · have k100 : Rch p e below (s₁.setTop (entryFrame m #[(.int p1), (.int p2), (.int p3), (.int p4), (.int p5)] maxLocals)) T85 (mkF m 188 #[.val (.int p1), .val (.int p2), .val (.int p3), .val (.int p4), .val (.int p5), .val (.ref b2), .val (.ref b8), .val (.ref b14), .val (.ref b20), .val (.ref b26), .val (.int (rA + rB)), .val (.int (own_ltI (0 : Int32) (rA + rB))), .val (.int (1 : Int32)), .val (.int ((rA + rB) + rC)), .unset, .unset, .unset, .unset, .unset] [(.int (1 : Int32)), (.ref b26), (.int ((rA + rB) + rC))]) := fun tg kg => by
        refine k96 tg ?_
        show Steps p.tables e below (T85.setTop (mkF m 180 #[.val (.int p1), .val (.int p2), .val (.int p3), .val (.int p4), .val (.int p5), .val (.ref b2), .val (.ref b8), .val (.ref b14), .val (.ref b20), .val (.ref b26), .val (.int (rA + rB)), .val (.int (own_ltI (0 : Int32) (rA + rB))), .val (.int (1 : Int32)), .val (.int ((rA + rB) + rC)), .unset, .unset, .unset, .unset, .unset] [(.int (p1 &&& (16 : Int32))), (.ref b26), (.int ((rA + rB) + rC))])) tg
        refine XS.ifNo X85.here hx rfl (hb hby at_180) rfl ((if0 _ _).trans (feq hc180_98).1) ?_
        refine XS.iconst X85.here hx rfl (hb hby at_183) ?_
        refine XS.goto X85.here hx rfl (pc0 := 184) (pc' := 188) rfl (hb hby at_184) (by decide) (by decide) ?_
        exact kg
      exact ⟨_, trivial, k100⟩
  have k101 : Rch p e below (s₁.setTop (entryFrame m #[(.int p1), (.int p2), (.int p3), (.int p4), (.int p5)] maxLocals)) T85 (mkF m 190 #[.val (.int p1), .val (.int p2), .val (.int p3), .val (.int p4), .val (.int p5), .val (.ref b2), .val (.ref b8), .val (.ref b14), .val (.ref b20), .val (.ref b26), .val (.int (rA + rB)), .val (.int (own_ltI (0 : Int32) (rA + rB))), .val (.int (1 : Int32)), .val (.int ((rA + rB) + rC)), .unset, .unset, .unset, .unset, .unset] [(.ref b2), (.int onD), (.ref b26), (.int ((rA + rB) + rC))]) := fun tg kg => by
    refine k97 tg ?_
    show Steps p.tables e below (T85.setTop (mkF m 188 #[.val (.int p1), .val (.int p2), .val (.int p3), .val (.int p4), .val (.int p5), .val (.ref b2), .val (.ref b8), .val (.ref b14), .val (.ref b20), .val (.ref b26), .val (.int (rA + rB)), .val (.int (own_ltI (0 : Int32) (rA + rB))), .val (.int (1 : Int32)), .val (.int ((rA + rB) + rC)), .unset, .unset, .unset, .unset, .unset] [(.int onD), (.ref b26), (.int ((rA + rB) + rC))])) tg
    refine XS.aload X85.here hx rfl (hb hby at_188) rfl rfl ?_
    exact kg
  have f103 : Exa Z h85 hsq "com/example/verum/verum/HashSlots" := (f86.keep K85)
  have f104 : Fld Z h85 hsq "com/example/verum/verum/HashSlots" "pages" "[[I" (.ref hpq) := (f87.keep K85 (ninS (by first | exact own_ne (by omega) | assumption | (apply Ne.symm; assumption)) (ninS (by first | exact own_ne (by omega) | assumption | (apply Ne.symm; assumption)) (ninS (by first | exact own_ne (by omega) | assumption | (apply Ne.symm; assumption)) nin0))))
  have f105 : Fld Z h85 hsq "com/example/verum/verum/HashSlots" "mask" "I" (.int (15 : Int32)) := (f88.keep K85 (ninS (by first | exact own_ne (by omega) | assumption | (apply Ne.symm; assumption)) (ninS (by first | exact own_ne (by omega) | assumption | (apply Ne.symm; assumption)) (ninS (by first | exact own_ne (by omega) | assumption | (apply Ne.symm; assumption)) nin0))))
  have f106 : Fld Z h85 hsq "com/example/verum/verum/HashSlots" "shared" "Z" (.int (0 : Int32)) := (f89.keep K85 (ninS (by first | exact own_ne (by omega) | assumption | (apply Ne.symm; assumption)) (ninS (by first | exact own_ne (by omega) | assumption | (apply Ne.symm; assumption)) (ninS (by first | exact own_ne (by omega) | assumption | (apply Ne.symm; assumption)) nin0))))
  have f107 : Arv Z h85 pgq kpgq (.array .int) (1 : Int32) [(.ref pzq)] .null := (f90.keep K85 (ninS (by first | exact own_ne (by omega) | assumption | (apply Ne.symm; assumption)) (ninS (by first | exact own_ne (by omega) | assumption | (apply Ne.symm; assumption)) (ninS (by first | exact own_ne (by omega) | assumption | (apply Ne.symm; assumption)) nin0))))
  have f108 : Arv Z h85 hpq khpq (.array .int) (1 : Int32) [(.ref htq)] .null := (f92.keep K85 (ninS (by first | exact own_ne (by omega) | assumption | (apply Ne.symm; assumption)) (ninS (by first | exact own_ne (by omega) | assumption | (apply Ne.symm; assumption)) (ninS (by first | exact own_ne (by omega) | assumption | (apply Ne.symm; assumption)) nin0))))
  have f109 : Arv Z h85 b2 c2 .int (1 : Int32) [(.int p2)] (.int (0 : Int32)) := (((((f40.keep K39 (ninS (by first | exact own_ne (by omega) | assumption | (apply Ne.symm; assumption)) (ninS (by first | exact own_ne (by omega) | assumption | (apply Ne.symm; assumption)) (ninS (by first | exact own_ne (by omega) | assumption | (apply Ne.symm; assumption)) nin0)))).keep K49 (ninS (by first | exact own_ne (by omega) | assumption | (apply Ne.symm; assumption)) (ninS (by first | exact own_ne (by omega) | assumption | (apply Ne.symm; assumption)) (ninS (by first | exact own_ne (by omega) | assumption | (apply Ne.symm; assumption)) nin0)))).keep K59 (ninS (by first | exact own_ne (by omega) | assumption | (apply Ne.symm; assumption)) nin0)).keep K66 (ninS (by first | exact own_ne (by omega) | assumption | (apply Ne.symm; assumption)) nin0)).keep K85 (ninS (by first | exact own_ne (by omega) | assumption | (apply Ne.symm; assumption)) (ninS (by first | exact own_ne (by omega) | assumption | (apply Ne.symm; assumption)) (ninS (by first | exact own_ne (by omega) | assumption | (apply Ne.symm; assumption)) nin0))))
  obtain ⟨v102, T102, h102, Lc102, X102, e102, hQ102, hS102, hZ102, hown102, st102⟩ := own_callSW X85 hx hZ85 hown85 (hw _ (List.mem_of_getElem? (i := 86) rfl)) (hw _ (List.mem_of_getElem? (i := 87) rfl)) (hw _ (List.mem_of_getElem? (i := 88) rfl)) (hw _ (List.mem_of_getElem? (i := 89) rfl)) (by decide) (rm_addIf l Z a0 hw [] b26 b2 hsq pgq pzq hpq htq kpgq kpzq khpq khtq ((rA + rB) + rC) (0 : Int32) (rA + rB) rqC tqC c2 p2 onD h85 n0 (by omega) fq85_3 fq85_4 fq85_5 fq85_6 fq85_7 fq85_8 fq85_9 fq85_10 fq85_11 fq85_12 f103 f104 f105 f106 f107 fq85_13 f108 fq85_14 f109 oA oB oC oD oE bsC.1 (by have := bsC; omega) tabC hp85_len (by omega)) e85 hS85 (by first | exact Nat.le_refl _ | omega) (g := (mkF m 190 #[.val (.int p1), .val (.int p2), .val (.int p3), .val (.int p4), .val (.int p5), .val (.ref b2), .val (.ref b8), .val (.ref b14), .val (.ref b20), .val (.ref b26), .val (.int (rA + rB)), .val (.int (own_ltI (0 : Int32) (rA + rB))), .val (.int (1 : Int32)), .val (.int ((rA + rB) + rC)), .unset, .unset, .unset, .unset, .unset] [(.ref b2), (.int onD), (.ref b26), (.int ((rA + rB) + rC))])) rfl (by rw [hml]; rfl) (argsL := [(.ref b26), (.int onD), (.ref b2)]) (rest := [(.int ((rA + rB) + rC))]) rfl (lenOf pd_14 rfl) rfl (W := 1) (by show 2 * 0 + _ ≤ _; exact Nat.le_of_eq rfl) (hb hby at_190) (by decide) (by decide) (by decide) (by decide)
  obtain ⟨rD, rqD, tqD, rfl, Nq102, K102, fq102_3, fq102_4, fq102_5, fq102_6, fq102_7, fq102_8, fq102_9, fq102_10, fq102_11, fq102_12, fq102_13, fq102_14, hp102_bit, hp102_tab, hp102_len⟩ := hQ102
  have N102 := Fr.app N85 Nq102
  have s102 : h85.size ≤ h102.size := K102.1
  have k110 : Rch p e below (s₁.setTop (entryFrame m #[(.int p1), (.int p2), (.int p3), (.int p4), (.int p5)] maxLocals)) T102 (mkF m 193 #[.val (.int p1), .val (.int p2), .val (.int p3), .val (.int p4), .val (.int p5), .val (.ref b2), .val (.ref b8), .val (.ref b14), .val (.ref b20), .val (.ref b26), .val (.int (rA + rB)), .val (.int (own_ltI (0 : Int32) (rA + rB))), .val (.int (1 : Int32)), .val (.int ((rA + rB) + rC)), .unset, .unset, .unset, .unset, .unset] [(.int rD), (.int ((rA + rB) + rC))]) := fun tg kg => k101 tg (st102 tg kg)
  have lt_fq102_3 := own_ltN fq102_3.lt
  have lt_fq102_4 := own_ltN fq102_4.lt
  have lt_fq102_5 := own_ltN fq102_5.lt
  have lt_fq102_6 := own_ltN fq102_6.lt
  have lt_fq102_7 := own_ltN fq102_7.lt
  have lt_fq102_8 := own_ltN fq102_8.lt
  have lt_fq102_9 := own_ltN fq102_9.lt
  have lt_fq102_10 := own_ltN fq102_10.lt
  have lt_fq102_11 := own_ltN fq102_11.lt
  have lt_fq102_12 := own_ltN fq102_12.lt
  have lt_fq102_13 := own_ltN fq102_13.lt
  have lt_fq102_14 := own_ltN fq102_14.lt
  have bdD : 0 ≤ rD.toInt ∧ rD.toInt ≤ 1 := own_r01 hp102_bit
  have tabD := hp102_tab
  have bsD : 0 ≤ (((rA + rB) + rC) + rD).toInt ∧ (((rA + rB) + rC) + rD).toInt ≤ 4 := by have q := own_add bsC.1 bsC.2 (by decide) bdD.1 bdD.2; exact q
  have k111 : Rch p e below (s₁.setTop (entryFrame m #[(.int p1), (.int p2), (.int p3), (.int p4), (.int p5)] maxLocals)) T102 (mkF m 198 #[.val (.int p1), .val (.int p2), .val (.int p3), .val (.int p4), .val (.int p5), .val (.ref b2), .val (.ref b8), .val (.ref b14), .val (.ref b20), .val (.ref b26), .val (.int (rA + rB)), .val (.int (own_ltI (0 : Int32) (rA + rB))), .val (.int (1 : Int32)), .val (.int (((rA + rB) + rC) + rD)), .unset, .unset, .unset, .unset, .unset] [(.ref b26)]) := fun tg kg => by
    refine k110 tg ?_
    show Steps p.tables e below (T102.setTop (mkF m 193 #[.val (.int p1), .val (.int p2), .val (.int p3), .val (.int p4), .val (.int p5), .val (.ref b2), .val (.ref b8), .val (.ref b14), .val (.ref b20), .val (.ref b26), .val (.int (rA + rB)), .val (.int (own_ltI (0 : Int32) (rA + rB))), .val (.int (1 : Int32)), .val (.int ((rA + rB) + rC)), .unset, .unset, .unset, .unset, .unset] [(.int rD), (.int ((rA + rB) + rC))])) tg
    refine XS.iadd X102.here hx rfl (hb hby at_193) rfl ?_
    refine XS.istore X102.here hx rfl (hb hby at_194) rfl (l' := #[.val (.int p1), .val (.int p2), .val (.int p3), .val (.int p4), .val (.int p5), .val (.ref b2), .val (.ref b8), .val (.ref b14), .val (.ref b20), .val (.ref b26), .val (.int (rA + rB)), .val (.int (own_ltI (0 : Int32) (rA + rB))), .val (.int (1 : Int32)), .val (.int (((rA + rB) + rC) + rD)), .unset, .unset, .unset, .unset, .unset]) rfl ?_
    refine XS.aload X102.here hx rfl (hb hby at_196) rfl rfl ?_
    exact kg
  obtain ⟨v112, T112, h112, Lc112, X112, e112, hQ112, st112⟩ := own_callV X102 hx hZ102 hown102 (hw _ (List.mem_of_getElem? (i := 90) rfl)) (hw _ (List.mem_of_getElem? (i := 91) rfl)) (notFace_of_selects (args := #[]) (mvT hZ102 (hw _ (List.mem_of_getElem? (i := 93) rfl)))) (hw _ (List.mem_of_getElem? (i := 93) rfl)) (hw _ (List.mem_of_getElem? (i := 92) rfl)) (hw _ (List.mem_of_getElem? (i := 94) rfl)) (hw _ (List.mem_of_getElem? (i := 3) rfl)) (by decide) (rm_next2 l Z a0 hw [] b26 hsq pgq (((rA + rB) + rC) + rD) (0 : Int32) (rA + rB) h102 n0 (by omega) fq102_3 fq102_4 fq102_5 fq102_6 fq102_7 fq102_8 fq102_9 fq102_10 fq102_11 fq102_12 (by omega)) e102 fq102_3 (g := (mkF m 198 #[.val (.int p1), .val (.int p2), .val (.int p3), .val (.int p4), .val (.int p5), .val (.ref b2), .val (.ref b8), .val (.ref b14), .val (.ref b20), .val (.ref b26), .val (.int (rA + rB)), .val (.int (own_ltI (0 : Int32) (rA + rB))), .val (.int (1 : Int32)), .val (.int (((rA + rB) + rC) + rD)), .unset, .unset, .unset, .unset, .unset] [(.ref b26)])) rfl (by rw [hml]; rfl) (argsL := []) (rest := []) rfl (lenOf pd_15 rfl) rfl (W := 0) (by show 2 * 0 + _ ≤ _; exact Nat.le_of_eq rfl) (hb hby at_198) (by decide) (by decide) (by decide) (by decide)
  obtain ⟨rfl, Nq112, K112, fq112_3, fq112_4, fq112_5, fq112_6, fq112_7, fq112_8, fq112_9, fq112_10, fq112_11, fq112_12⟩ := hQ112
  have N112 := Fr.app N102 Nq112
  have s112 : h102.size ≤ h112.size := K112.1
  have k113 : Rch p e below (s₁.setTop (entryFrame m #[(.int p1), (.int p2), (.int p3), (.int p4), (.int p5)] maxLocals)) T112 (mkF m 201 #[.val (.int p1), .val (.int p2), .val (.int p3), .val (.int p4), .val (.int p5), .val (.ref b2), .val (.ref b8), .val (.ref b14), .val (.ref b20), .val (.ref b26), .val (.int (rA + rB)), .val (.int (own_ltI (0 : Int32) (rA + rB))), .val (.int (1 : Int32)), .val (.int (((rA + rB) + rC) + rD)), .unset, .unset, .unset, .unset, .unset] [(.int (own_ltI (rA + rB) (((rA + rB) + rC) + rD)))]) := fun tg kg => k111 tg (st112 tg kg)
  have lt_fq112_3 := own_ltN fq112_3.lt
  have lt_fq112_4 := own_ltN fq112_4.lt
  have lt_fq112_5 := own_ltN fq112_5.lt
  have lt_fq112_6 := own_ltN fq112_6.lt
  have lt_fq112_7 := own_ltN fq112_7.lt
  have lt_fq112_8 := own_ltN fq112_8.lt
  have lt_fq112_9 := own_ltN fq112_9.lt
  have lt_fq112_10 := own_ltN fq112_10.lt
  have lt_fq112_11 := own_ltN fq112_11.lt
  have lt_fq112_12 := own_ltN fq112_12.lt
  have k114 : Rch p e below (s₁.setTop (entryFrame m #[(.int p1), (.int p2), (.int p3), (.int p4), (.int p5)] maxLocals)) T112 (mkF m 214 #[.val (.int p1), .val (.int p2), .val (.int p3), .val (.int p4), .val (.int p5), .val (.ref b2), .val (.ref b8), .val (.ref b14), .val (.ref b20), .val (.ref b26), .val (.int (rA + rB)), .val (.int (own_ltI (0 : Int32) (rA + rB))), .val (.int (1 : Int32)), .val (.int (((rA + rB) + rC) + rD)), .val (.int (own_ltI (rA + rB) (((rA + rB) + rC) + rD))), .unset, .unset, .unset, .unset] [(.int (rA + rB)), (.int (((rA + rB) + rC) + rD)), (.int (own_ltI (rA + rB) (((rA + rB) + rC) + rD)))]) := fun tg kg => by
    refine k113 tg ?_
    show Steps p.tables e below (T112.setTop (mkF m 201 #[.val (.int p1), .val (.int p2), .val (.int p3), .val (.int p4), .val (.int p5), .val (.ref b2), .val (.ref b8), .val (.ref b14), .val (.ref b20), .val (.ref b26), .val (.int (rA + rB)), .val (.int (own_ltI (0 : Int32) (rA + rB))), .val (.int (1 : Int32)), .val (.int (((rA + rB) + rC) + rD)), .unset, .unset, .unset, .unset, .unset] [(.int (own_ltI (rA + rB) (((rA + rB) + rC) + rD)))])) tg
    refine XS.istore X112.here hx rfl (hb hby at_201) rfl (l' := #[.val (.int p1), .val (.int p2), .val (.int p3), .val (.int p4), .val (.int p5), .val (.ref b2), .val (.ref b8), .val (.ref b14), .val (.ref b20), .val (.ref b26), .val (.int (rA + rB)), .val (.int (own_ltI (0 : Int32) (rA + rB))), .val (.int (1 : Int32)), .val (.int (((rA + rB) + rC) + rD)), .val (.int (own_ltI (rA + rB) (((rA + rB) + rC) + rD))), .unset, .unset, .unset, .unset]) rfl ?_
    refine XS.iload X112.here hx rfl (hb hby at_203) rfl ?_
    show Steps p.tables e below (T112.setTop (mkF m 205 #[.val (.int p1), .val (.int p2), .val (.int p3), .val (.int p4), .val (.int p5), .val (.ref b2), .val (.ref b8), .val (.ref b14), .val (.ref b20), .val (.ref b26), .val (.int (rA + rB)), .val (.int (own_ltI (0 : Int32) (rA + rB))), .val (.int (1 : Int32)), .val (.int (((rA + rB) + rC) + rD)), .val (.int (own_ltI (rA + rB) (((rA + rB) + rC) + rD))), .unset, .unset, .unset, .unset] [(.int (1 : Int32))])) tg
    refine XS.ifNo X112.here hx rfl (hb hby at_205) rfl ((if0 _ _).trans (feq (by decide)).1) ?_
    refine XS.iload X112.here hx rfl (hb hby at_208) rfl ?_
    refine XS.iload X112.here hx rfl (hb hby at_210) rfl ?_
    refine XS.iload X112.here hx rfl (hb hby at_212) rfl ?_
    exact kg
  have k115 : Rch p e below (s₁.setTop (entryFrame m #[(.int p1), (.int p2), (.int p3), (.int p4), (.int p5)] maxLocals)) T112 (mkF m 225 #[.val (.int p1), .val (.int p2), .val (.int p3), .val (.int p4), .val (.int p5), .val (.ref b2), .val (.ref b8), .val (.ref b14), .val (.ref b20), .val (.ref b26), .val (.int (rA + rB)), .val (.int (own_ltI (0 : Int32) (rA + rB))), .val (.int (1 : Int32)), .val (.int (((rA + rB) + rC) + rD)), .val (.int (own_ltI (rA + rB) (((rA + rB) + rC) + rD))), .unset, .unset, .unset, .unset] []) := by
    by_cases hc214_116 : (rA + rB) < (((rA + rB) + rC) + rD)
    · have k117 : Rch p e below (s₁.setTop (entryFrame m #[(.int p1), (.int p2), (.int p3), (.int p4), (.int p5)] maxLocals)) T112 (mkF m 225 #[.val (.int p1), .val (.int p2), .val (.int p3), .val (.int p4), .val (.int p5), .val (.ref b2), .val (.ref b8), .val (.ref b14), .val (.ref b20), .val (.ref b26), .val (.int (rA + rB)), .val (.int (own_ltI (0 : Int32) (rA + rB))), .val (.int (1 : Int32)), .val (.int (((rA + rB) + rC) + rD)), .val (.int (own_ltI (rA + rB) (((rA + rB) + rC) + rD))), .unset, .unset, .unset, .unset] []) := fun tg kg => by
        refine k114 tg ?_
        show Steps p.tables e below (T112.setTop (mkF m 214 #[.val (.int p1), .val (.int p2), .val (.int p3), .val (.int p4), .val (.int p5), .val (.ref b2), .val (.ref b8), .val (.ref b14), .val (.ref b20), .val (.ref b26), .val (.int (rA + rB)), .val (.int (own_ltI (0 : Int32) (rA + rB))), .val (.int (1 : Int32)), .val (.int (((rA + rB) + rC) + rD)), .val (.int (own_ltI (rA + rB) (((rA + rB) + rC) + rD))), .unset, .unset, .unset, .unset] [(.int (rA + rB)), (.int (((rA + rB) + rC) + rD)), (.int (own_ltI (rA + rB) (((rA + rB) + rC) + rD)))])) tg
        refine XS.icmpNo X112.here hx rfl (hb hby at_214) rfl (tlt hc214_116).2.2.2 ?_
        refine XS.iconst X112.here hx rfl (hb hby at_217) ?_
        show Steps p.tables e below (T112.setTop (mkF m 218 #[.val (.int p1), .val (.int p2), .val (.int p3), .val (.int p4), .val (.int p5), .val (.ref b2), .val (.ref b8), .val (.ref b14), .val (.ref b20), .val (.ref b26), .val (.int (rA + rB)), .val (.int (own_ltI (0 : Int32) (rA + rB))), .val (.int (1 : Int32)), .val (.int (((rA + rB) + rC) + rD)), .val (.int (own_ltI (rA + rB) (((rA + rB) + rC) + rD))), .unset, .unset, .unset, .unset] [(.int (1 : Int32)), (.int (own_ltI (rA + rB) (((rA + rB) + rC) + rD)))])) tg
        refine XS.goto X112.here hx rfl (pc0 := 218) (pc' := 222) rfl (hb hby at_218) (by decide) (by decide) ?_
        refine XS.icmpNo X112.here hx rfl (hb hby at_222) rfl (teq (if_pos hc214_116)).2 ?_
        exact kg
      exact k117
    · have k118 : Rch p e below (s₁.setTop (entryFrame m #[(.int p1), (.int p2), (.int p3), (.int p4), (.int p5)] maxLocals)) T112 (mkF m 225 #[.val (.int p1), .val (.int p2), .val (.int p3), .val (.int p4), .val (.int p5), .val (.ref b2), .val (.ref b8), .val (.ref b14), .val (.ref b20), .val (.ref b26), .val (.int (rA + rB)), .val (.int (own_ltI (0 : Int32) (rA + rB))), .val (.int (1 : Int32)), .val (.int (((rA + rB) + rC) + rD)), .val (.int (own_ltI (rA + rB) (((rA + rB) + rC) + rD))), .unset, .unset, .unset, .unset] []) := fun tg kg => by
        refine k114 tg ?_
        show Steps p.tables e below (T112.setTop (mkF m 214 #[.val (.int p1), .val (.int p2), .val (.int p3), .val (.int p4), .val (.int p5), .val (.ref b2), .val (.ref b8), .val (.ref b14), .val (.ref b20), .val (.ref b26), .val (.int (rA + rB)), .val (.int (own_ltI (0 : Int32) (rA + rB))), .val (.int (1 : Int32)), .val (.int (((rA + rB) + rC) + rD)), .val (.int (own_ltI (rA + rB) (((rA + rB) + rC) + rD))), .unset, .unset, .unset, .unset] [(.int (rA + rB)), (.int (((rA + rB) + rC) + rD)), (.int (own_ltI (rA + rB) (((rA + rB) + rC) + rD)))])) tg
        refine XS.icmpYes X112.here hx rfl (pc0 := 214) (pc' := 221) rfl (hb hby at_214) rfl (flt hc214_116).2.2.2 (by decide) (by decide) ?_
        refine XS.iconst X112.here hx rfl (hb hby at_221) ?_
        show Steps p.tables e below (T112.setTop (mkF m 222 #[.val (.int p1), .val (.int p2), .val (.int p3), .val (.int p4), .val (.int p5), .val (.ref b2), .val (.ref b8), .val (.ref b14), .val (.ref b20), .val (.ref b26), .val (.int (rA + rB)), .val (.int (own_ltI (0 : Int32) (rA + rB))), .val (.int (1 : Int32)), .val (.int (((rA + rB) + rC) + rD)), .val (.int (own_ltI (rA + rB) (((rA + rB) + rC) + rD))), .unset, .unset, .unset, .unset] [(.int (0 : Int32)), (.int (own_ltI (rA + rB) (((rA + rB) + rC) + rD)))])) tg
        refine XS.icmpNo X112.here hx rfl (hb hby at_222) rfl (teq (if_neg hc214_116)).2 ?_
        exact kg
      exact k118
  have k119 : Rch p e below (s₁.setTop (entryFrame m #[(.int p1), (.int p2), (.int p3), (.int p4), (.int p5)] maxLocals)) T112 (mkF m 227 #[.val (.int p1), .val (.int p2), .val (.int p3), .val (.int p4), .val (.int p5), .val (.ref b2), .val (.ref b8), .val (.ref b14), .val (.ref b20), .val (.ref b26), .val (.int (rA + rB)), .val (.int (own_ltI (0 : Int32) (rA + rB))), .val (.int (1 : Int32)), .val (.int (((rA + rB) + rC) + rD)), .val (.int (own_ltI (rA + rB) (((rA + rB) + rC) + rD))), .unset, .unset, .unset, .unset] [(.ref b26)]) := fun tg kg => by
    refine k115 tg ?_
    show Steps p.tables e below (T112.setTop (mkF m 225 #[.val (.int p1), .val (.int p2), .val (.int p3), .val (.int p4), .val (.int p5), .val (.ref b2), .val (.ref b8), .val (.ref b14), .val (.ref b20), .val (.ref b26), .val (.int (rA + rB)), .val (.int (own_ltI (0 : Int32) (rA + rB))), .val (.int (1 : Int32)), .val (.int (((rA + rB) + rC) + rD)), .val (.int (own_ltI (rA + rB) (((rA + rB) + rC) + rD))), .unset, .unset, .unset, .unset] [])) tg
    refine XS.aload X112.here hx rfl (hb hby at_225) rfl rfl ?_
    exact kg
  obtain ⟨v120, T120, h120, Lc120, X120, e120, hQ120, st120⟩ := own_callV X112 hx hZ102 hown102 (hw _ (List.mem_of_getElem? (i := 101) rfl)) (hw _ (List.mem_of_getElem? (i := 102) rfl)) (notFace_of_selects (args := #[]) (mvT hZ102 (hw _ (List.mem_of_getElem? (i := 104) rfl)))) (hw _ (List.mem_of_getElem? (i := 104) rfl)) (hw _ (List.mem_of_getElem? (i := 103) rfl)) (hw _ (List.mem_of_getElem? (i := 105) rfl)) (hw _ (List.mem_of_getElem? (i := 3) rfl)) (by decide) (rm_ds l Z a0 hw [] b26 hsq pgq (((rA + rB) + rC) + rD) (rA + rB) (((rA + rB) + rC) + rD) h112 n0 (by omega) fq112_3 fq112_4 fq112_5 fq112_6 fq112_7 fq112_8 fq112_9 fq112_10 fq112_11 fq112_12 (by omega)) e112 fq112_3 (g := (mkF m 227 #[.val (.int p1), .val (.int p2), .val (.int p3), .val (.int p4), .val (.int p5), .val (.ref b2), .val (.ref b8), .val (.ref b14), .val (.ref b20), .val (.ref b26), .val (.int (rA + rB)), .val (.int (own_ltI (0 : Int32) (rA + rB))), .val (.int (1 : Int32)), .val (.int (((rA + rB) + rC) + rD)), .val (.int (own_ltI (rA + rB) (((rA + rB) + rC) + rD))), .unset, .unset, .unset, .unset] [(.ref b26)])) rfl (by rw [hml]; rfl) (argsL := []) (rest := []) rfl (lenOf pd_16 rfl) rfl (W := 0) (by show 2 * 0 + _ ≤ _; exact Nat.le_of_eq rfl) (hb hby at_227) (by decide) (by decide) (by decide) (by decide)
  obtain ⟨rfl, Nq120, hs120⟩ := hQ120
  have N120 := Fr.app N112 Nq120
  have e120' : T120.heap = h112 := e120.trans hs120
  have k121 : Rch p e below (s₁.setTop (entryFrame m #[(.int p1), (.int p2), (.int p3), (.int p4), (.int p5)] maxLocals)) T120 (mkF m 230 #[.val (.int p1), .val (.int p2), .val (.int p3), .val (.int p4), .val (.int p5), .val (.ref b2), .val (.ref b8), .val (.ref b14), .val (.ref b20), .val (.ref b26), .val (.int (rA + rB)), .val (.int (own_ltI (0 : Int32) (rA + rB))), .val (.int (1 : Int32)), .val (.int (((rA + rB) + rC) + rD)), .val (.int (own_ltI (rA + rB) (((rA + rB) + rC) + rD))), .unset, .unset, .unset, .unset] [(.int (rA + rB))]) := fun tg kg => k119 tg (st120 tg kg)
  have k122 : Rch p e below (s₁.setTop (entryFrame m #[(.int p1), (.int p2), (.int p3), (.int p4), (.int p5)] maxLocals)) T120 (mkF m 237 #[.val (.int p1), .val (.int p2), .val (.int p3), .val (.int p4), .val (.int p5), .val (.ref b2), .val (.ref b8), .val (.ref b14), .val (.ref b20), .val (.ref b26), .val (.int (rA + rB)), .val (.int (own_ltI (0 : Int32) (rA + rB))), .val (.int (1 : Int32)), .val (.int (((rA + rB) + rC) + rD)), .val (.int (own_ltI (rA + rB) (((rA + rB) + rC) + rD))), .unset, .unset, .unset, .unset] [(.ref b26)]) := fun tg kg => by
    refine k121 tg ?_
    show Steps p.tables e below (T120.setTop (mkF m 230 #[.val (.int p1), .val (.int p2), .val (.int p3), .val (.int p4), .val (.int p5), .val (.ref b2), .val (.ref b8), .val (.ref b14), .val (.ref b20), .val (.ref b26), .val (.int (rA + rB)), .val (.int (own_ltI (0 : Int32) (rA + rB))), .val (.int (1 : Int32)), .val (.int (((rA + rB) + rC) + rD)), .val (.int (own_ltI (rA + rB) (((rA + rB) + rC) + rD))), .unset, .unset, .unset, .unset] [(.int (rA + rB))])) tg
    refine XS.iload X120.here hx rfl (hb hby at_230) rfl ?_
    show Steps p.tables e below (T120.setTop (mkF m 232 #[.val (.int p1), .val (.int p2), .val (.int p3), .val (.int p4), .val (.int p5), .val (.ref b2), .val (.ref b8), .val (.ref b14), .val (.ref b20), .val (.ref b26), .val (.int (rA + rB)), .val (.int (own_ltI (0 : Int32) (rA + rB))), .val (.int (1 : Int32)), .val (.int (((rA + rB) + rC) + rD)), .val (.int (own_ltI (rA + rB) (((rA + rB) + rC) + rD))), .unset, .unset, .unset, .unset] [(.int (rA + rB)), (.int (rA + rB))])) tg
    refine XS.icmpNo X120.here hx rfl (hb hby at_232) rfl (teq rfl).2 ?_
    refine XS.aload X120.here hx rfl (hb hby at_235) rfl rfl ?_
    exact kg
  obtain ⟨v123, T123, h123, Lc123, X123, e123, hQ123, st123⟩ := own_callV X120 hx hZ102 hown102 (hw _ (List.mem_of_getElem? (i := 106) rfl)) (hw _ (List.mem_of_getElem? (i := 107) rfl)) (notFace_of_selects (args := #[]) (mvT hZ102 (hw _ (List.mem_of_getElem? (i := 109) rfl)))) (hw _ (List.mem_of_getElem? (i := 109) rfl)) (hw _ (List.mem_of_getElem? (i := 108) rfl)) (hw _ (List.mem_of_getElem? (i := 110) rfl)) (hw _ (List.mem_of_getElem? (i := 3) rfl)) (by decide) (rm_de l Z a0 hw [] b26 hsq pgq (((rA + rB) + rC) + rD) (rA + rB) (((rA + rB) + rC) + rD) h112 n0 (by omega) fq112_3 fq112_4 fq112_5 fq112_6 fq112_7 fq112_8 fq112_9 fq112_10 fq112_11 fq112_12 (by omega)) e120' fq112_3 (g := (mkF m 237 #[.val (.int p1), .val (.int p2), .val (.int p3), .val (.int p4), .val (.int p5), .val (.ref b2), .val (.ref b8), .val (.ref b14), .val (.ref b20), .val (.ref b26), .val (.int (rA + rB)), .val (.int (own_ltI (0 : Int32) (rA + rB))), .val (.int (1 : Int32)), .val (.int (((rA + rB) + rC) + rD)), .val (.int (own_ltI (rA + rB) (((rA + rB) + rC) + rD))), .unset, .unset, .unset, .unset] [(.ref b26)])) rfl (by rw [hml]; rfl) (argsL := []) (rest := []) rfl (lenOf pd_16 rfl) rfl (W := 0) (by show 2 * 0 + _ ≤ _; exact Nat.le_of_eq rfl) (hb hby at_237) (by decide) (by decide) (by decide) (by decide)
  obtain ⟨rfl, Nq123, hs123⟩ := hQ123
  have N123 := Fr.app N120 Nq123
  have e123' : T123.heap = h112 := e123.trans hs123
  have k124 : Rch p e below (s₁.setTop (entryFrame m #[(.int p1), (.int p2), (.int p3), (.int p4), (.int p5)] maxLocals)) T123 (mkF m 240 #[.val (.int p1), .val (.int p2), .val (.int p3), .val (.int p4), .val (.int p5), .val (.ref b2), .val (.ref b8), .val (.ref b14), .val (.ref b20), .val (.ref b26), .val (.int (rA + rB)), .val (.int (own_ltI (0 : Int32) (rA + rB))), .val (.int (1 : Int32)), .val (.int (((rA + rB) + rC) + rD)), .val (.int (own_ltI (rA + rB) (((rA + rB) + rC) + rD))), .unset, .unset, .unset, .unset] [(.int (((rA + rB) + rC) + rD))]) := fun tg kg => k122 tg (st123 tg kg)
  have k125 : Rch p e below (s₁.setTop (entryFrame m #[(.int p1), (.int p2), (.int p3), (.int p4), (.int p5)] maxLocals)) T123 (mkF m 260 #[.val (.int p1), .val (.int p2), .val (.int p3), .val (.int p4), .val (.int p5), .val (.ref b2), .val (.ref b8), .val (.ref b14), .val (.ref b20), .val (.ref b26), .val (.int (rA + rB)), .val (.int (own_ltI (0 : Int32) (rA + rB))), .val (.int (1 : Int32)), .val (.int (((rA + rB) + rC) + rD)), .val (.int (own_ltI (rA + rB) (((rA + rB) + rC) + rD))), .unset, .unset, .unset, .unset] [(.int (p1 &&& (32 : Int32))), (.ref b26), (.int (((rA + rB) + rC) + rD))]) := fun tg kg => by
    refine k124 tg ?_
    show Steps p.tables e below (T123.setTop (mkF m 240 #[.val (.int p1), .val (.int p2), .val (.int p3), .val (.int p4), .val (.int p5), .val (.ref b2), .val (.ref b8), .val (.ref b14), .val (.ref b20), .val (.ref b26), .val (.int (rA + rB)), .val (.int (own_ltI (0 : Int32) (rA + rB))), .val (.int (1 : Int32)), .val (.int (((rA + rB) + rC) + rD)), .val (.int (own_ltI (rA + rB) (((rA + rB) + rC) + rD))), .unset, .unset, .unset, .unset] [(.int (((rA + rB) + rC) + rD))])) tg
    refine XS.iload X123.here hx rfl (hb hby at_240) rfl ?_
    refine XS.icmpNo X123.here hx rfl (hb hby at_242) rfl (teq rfl).2 ?_
    refine XS.iconst X123.here hx rfl (hb hby at_245) ?_
    refine XS.goto X123.here hx rfl (pc0 := 246) (pc' := 250) rfl (hb hby at_246) (by decide) (by decide) ?_
    show Steps p.tables e below (T123.setTop (mkF m 250 #[.val (.int p1), .val (.int p2), .val (.int p3), .val (.int p4), .val (.int p5), .val (.ref b2), .val (.ref b8), .val (.ref b14), .val (.ref b20), .val (.ref b26), .val (.int (rA + rB)), .val (.int (own_ltI (0 : Int32) (rA + rB))), .val (.int (1 : Int32)), .val (.int (((rA + rB) + rC) + rD)), .val (.int (own_ltI (rA + rB) (((rA + rB) + rC) + rD))), .unset, .unset, .unset, .unset] [(.int (1 : Int32))])) tg
    refine XS.istore X123.here hx rfl (hb hby at_250) rfl (l' := #[.val (.int p1), .val (.int p2), .val (.int p3), .val (.int p4), .val (.int p5), .val (.ref b2), .val (.ref b8), .val (.ref b14), .val (.ref b20), .val (.ref b26), .val (.int (rA + rB)), .val (.int (own_ltI (0 : Int32) (rA + rB))), .val (.int (1 : Int32)), .val (.int (((rA + rB) + rC) + rD)), .val (.int (own_ltI (rA + rB) (((rA + rB) + rC) + rD))), .unset, .unset, .unset, .unset]) rfl ?_
    refine XS.iload X123.here hx rfl (hb hby at_252) rfl ?_
    refine XS.aload X123.here hx rfl (hb hby at_254) rfl rfl ?_
    refine XS.iloadN X123.here hx rfl (hb hby at_256) rfl ?_
    refine XS.bipush X123.here hx rfl (hb hby at_257) ?_
    refine XS.iand X123.here hx rfl (hb hby at_259) rfl ?_
    exact kg
  obtain ⟨onE, ht_onE, k126⟩ : ∃ (onE : Int32), (True) ∧ Rch p e below (s₁.setTop (entryFrame m #[(.int p1), (.int p2), (.int p3), (.int p4), (.int p5)] maxLocals)) T123 (mkF m 268 #[.val (.int p1), .val (.int p2), .val (.int p3), .val (.int p4), .val (.int p5), .val (.ref b2), .val (.ref b8), .val (.ref b14), .val (.ref b20), .val (.ref b26), .val (.int (rA + rB)), .val (.int (own_ltI (0 : Int32) (rA + rB))), .val (.int (1 : Int32)), .val (.int (((rA + rB) + rC) + rD)), .val (.int (own_ltI (rA + rB) (((rA + rB) + rC) + rD))), .unset, .unset, .unset, .unset] [(.int onE), (.ref b26), (.int (((rA + rB) + rC) + rD))]) := by
    by_cases hc260_127 : (p1 &&& (32 : Int32)) = (0 : Int32)
    · have k128 : Rch p e below (s₁.setTop (entryFrame m #[(.int p1), (.int p2), (.int p3), (.int p4), (.int p5)] maxLocals)) T123 (mkF m 268 #[.val (.int p1), .val (.int p2), .val (.int p3), .val (.int p4), .val (.int p5), .val (.ref b2), .val (.ref b8), .val (.ref b14), .val (.ref b20), .val (.ref b26), .val (.int (rA + rB)), .val (.int (own_ltI (0 : Int32) (rA + rB))), .val (.int (1 : Int32)), .val (.int (((rA + rB) + rC) + rD)), .val (.int (own_ltI (rA + rB) (((rA + rB) + rC) + rD))), .unset, .unset, .unset, .unset] [(.int (0 : Int32)), (.ref b26), (.int (((rA + rB) + rC) + rD))]) := fun tg kg => by
        refine k125 tg ?_
        show Steps p.tables e below (T123.setTop (mkF m 260 #[.val (.int p1), .val (.int p2), .val (.int p3), .val (.int p4), .val (.int p5), .val (.ref b2), .val (.ref b8), .val (.ref b14), .val (.ref b20), .val (.ref b26), .val (.int (rA + rB)), .val (.int (own_ltI (0 : Int32) (rA + rB))), .val (.int (1 : Int32)), .val (.int (((rA + rB) + rC) + rD)), .val (.int (own_ltI (rA + rB) (((rA + rB) + rC) + rD))), .unset, .unset, .unset, .unset] [(.int (p1 &&& (32 : Int32))), (.ref b26), (.int (((rA + rB) + rC) + rD))])) tg
        refine XS.ifYes X123.here hx rfl (pc0 := 260) (pc' := 267) rfl (hb hby at_260) rfl ((if0 _ _).trans (teq hc260_127).1) (by decide) (by decide) ?_
        refine XS.iconst X123.here hx rfl (hb hby at_267) ?_
        exact kg
      exact ⟨_, trivial, k128⟩
    · have k129 : Rch p e below (s₁.setTop (entryFrame m #[(.int p1), (.int p2), (.int p3), (.int p4), (.int p5)] maxLocals)) T123 (mkF m 268 #[.val (.int p1), .val (.int p2), .val (.int p3), .val (.int p4), .val (.int p5), .val (.ref b2), .val (.ref b8), .val (.ref b14), .val (.ref b20), .val (.ref b26), .val (.int (rA + rB)), .val (.int (own_ltI (0 : Int32) (rA + rB))), .val (.int (1 : Int32)), .val (.int (((rA + rB) + rC) + rD)), .val (.int (own_ltI (rA + rB) (((rA + rB) + rC) + rD))), .unset, .unset, .unset, .unset] [(.int (1 : Int32)), (.ref b26), (.int (((rA + rB) + rC) + rD))]) := fun tg kg => by
        refine k125 tg ?_
        show Steps p.tables e below (T123.setTop (mkF m 260 #[.val (.int p1), .val (.int p2), .val (.int p3), .val (.int p4), .val (.int p5), .val (.ref b2), .val (.ref b8), .val (.ref b14), .val (.ref b20), .val (.ref b26), .val (.int (rA + rB)), .val (.int (own_ltI (0 : Int32) (rA + rB))), .val (.int (1 : Int32)), .val (.int (((rA + rB) + rC) + rD)), .val (.int (own_ltI (rA + rB) (((rA + rB) + rC) + rD))), .unset, .unset, .unset, .unset] [(.int (p1 &&& (32 : Int32))), (.ref b26), (.int (((rA + rB) + rC) + rD))])) tg
        refine XS.ifNo X123.here hx rfl (hb hby at_260) rfl ((if0 _ _).trans (feq hc260_127).1) ?_
        refine XS.iconst X123.here hx rfl (hb hby at_263) ?_
        refine XS.goto X123.here hx rfl (pc0 := 264) (pc' := 268) rfl (hb hby at_264) (by decide) (by decide) ?_
        exact kg
      exact ⟨_, trivial, k129⟩
  have k130 : Rch p e below (s₁.setTop (entryFrame m #[(.int p1), (.int p2), (.int p3), (.int p4), (.int p5)] maxLocals)) T123 (mkF m 270 #[.val (.int p1), .val (.int p2), .val (.int p3), .val (.int p4), .val (.int p5), .val (.ref b2), .val (.ref b8), .val (.ref b14), .val (.ref b20), .val (.ref b26), .val (.int (rA + rB)), .val (.int (own_ltI (0 : Int32) (rA + rB))), .val (.int (1 : Int32)), .val (.int (((rA + rB) + rC) + rD)), .val (.int (own_ltI (rA + rB) (((rA + rB) + rC) + rD))), .unset, .unset, .unset, .unset] [(.ref b20), (.int onE), (.ref b26), (.int (((rA + rB) + rC) + rD))]) := fun tg kg => by
    refine k126 tg ?_
    show Steps p.tables e below (T123.setTop (mkF m 268 #[.val (.int p1), .val (.int p2), .val (.int p3), .val (.int p4), .val (.int p5), .val (.ref b2), .val (.ref b8), .val (.ref b14), .val (.ref b20), .val (.ref b26), .val (.int (rA + rB)), .val (.int (own_ltI (0 : Int32) (rA + rB))), .val (.int (1 : Int32)), .val (.int (((rA + rB) + rC) + rD)), .val (.int (own_ltI (rA + rB) (((rA + rB) + rC) + rD))), .unset, .unset, .unset, .unset] [(.int onE), (.ref b26), (.int (((rA + rB) + rC) + rD))])) tg
    refine XS.aload X123.here hx rfl (hb hby at_268) rfl rfl ?_
    exact kg
  have f132 : Exa Z h112 hsq "com/example/verum/verum/HashSlots" := ((f103.keep K102).keep K112)
  have f133 : Fld Z h112 hsq "com/example/verum/verum/HashSlots" "pages" "[[I" (.ref hpq) := ((f104.keep K102 (ninS (by first | exact own_ne (by omega) | assumption | (apply Ne.symm; assumption)) (ninS (by first | exact own_ne (by omega) | assumption | (apply Ne.symm; assumption)) (ninS (by first | exact own_ne (by omega) | assumption | (apply Ne.symm; assumption)) nin0)))).keep K112 (ninS (by first | exact own_ne (by omega) | assumption | (apply Ne.symm; assumption)) nin0))
  have f134 : Fld Z h112 hsq "com/example/verum/verum/HashSlots" "mask" "I" (.int (15 : Int32)) := ((f105.keep K102 (ninS (by first | exact own_ne (by omega) | assumption | (apply Ne.symm; assumption)) (ninS (by first | exact own_ne (by omega) | assumption | (apply Ne.symm; assumption)) (ninS (by first | exact own_ne (by omega) | assumption | (apply Ne.symm; assumption)) nin0)))).keep K112 (ninS (by first | exact own_ne (by omega) | assumption | (apply Ne.symm; assumption)) nin0))
  have f135 : Fld Z h112 hsq "com/example/verum/verum/HashSlots" "shared" "Z" (.int (0 : Int32)) := ((f106.keep K102 (ninS (by first | exact own_ne (by omega) | assumption | (apply Ne.symm; assumption)) (ninS (by first | exact own_ne (by omega) | assumption | (apply Ne.symm; assumption)) (ninS (by first | exact own_ne (by omega) | assumption | (apply Ne.symm; assumption)) nin0)))).keep K112 (ninS (by first | exact own_ne (by omega) | assumption | (apply Ne.symm; assumption)) nin0))
  have f136 : Arv Z h112 pgq kpgq (.array .int) (1 : Int32) [(.ref pzq)] .null := ((f107.keep K102 (ninS (by first | exact own_ne (by omega) | assumption | (apply Ne.symm; assumption)) (ninS (by first | exact own_ne (by omega) | assumption | (apply Ne.symm; assumption)) (ninS (by first | exact own_ne (by omega) | assumption | (apply Ne.symm; assumption)) nin0)))).keep K112 (ninS (by first | exact own_ne (by omega) | assumption | (apply Ne.symm; assumption)) nin0))
  have f137 : Arv Z h112 pzq kpzq .int (8 : Int32) rqD (.int (0 : Int32)) := (fq102_13.keep K112 (ninS (by first | exact own_ne (by omega) | assumption | (apply Ne.symm; assumption)) nin0))
  have f138 : Arv Z h112 hpq khpq (.array .int) (1 : Int32) [(.ref htq)] .null := ((f108.keep K102 (ninS (by first | exact own_ne (by omega) | assumption | (apply Ne.symm; assumption)) (ninS (by first | exact own_ne (by omega) | assumption | (apply Ne.symm; assumption)) (ninS (by first | exact own_ne (by omega) | assumption | (apply Ne.symm; assumption)) nin0)))).keep K112 (ninS (by first | exact own_ne (by omega) | assumption | (apply Ne.symm; assumption)) nin0))
  have f139 : Arv Z h112 htq khtq .int (16 : Int32) (tqD.map Value.int) (.int (0 : Int32)) := (fq102_14.keep K112 (ninS (by first | exact own_ne (by omega) | assumption | (apply Ne.symm; assumption)) nin0))
  have f140 : Arv Z h112 b20 c20 .int (1 : Int32) [(.int p5)] (.int (0 : Int32)) := (((((((((V23.ext E26).keep K29 (ninS (by first | exact own_ne (by omega) | assumption | (apply Ne.symm; assumption)) nin0)).keep K39 (ninS (by first | exact own_ne (by omega) | assumption | (apply Ne.symm; assumption)) (ninS (by first | exact own_ne (by omega) | assumption | (apply Ne.symm; assumption)) (ninS (by first | exact own_ne (by omega) | assumption | (apply Ne.symm; assumption)) nin0)))).keep K49 (ninS (by first | exact own_ne (by omega) | assumption | (apply Ne.symm; assumption)) (ninS (by first | exact own_ne (by omega) | assumption | (apply Ne.symm; assumption)) (ninS (by first | exact own_ne (by omega) | assumption | (apply Ne.symm; assumption)) nin0)))).keep K59 (ninS (by first | exact own_ne (by omega) | assumption | (apply Ne.symm; assumption)) nin0)).keep K66 (ninS (by first | exact own_ne (by omega) | assumption | (apply Ne.symm; assumption)) nin0)).keep K85 (ninS (by first | exact own_ne (by omega) | assumption | (apply Ne.symm; assumption)) (ninS (by first | exact own_ne (by omega) | assumption | (apply Ne.symm; assumption)) (ninS (by first | exact own_ne (by omega) | assumption | (apply Ne.symm; assumption)) nin0)))).keep K102 (ninS (by first | exact own_ne (by omega) | assumption | (apply Ne.symm; assumption)) (ninS (by first | exact own_ne (by omega) | assumption | (apply Ne.symm; assumption)) (ninS (by first | exact own_ne (by omega) | assumption | (apply Ne.symm; assumption)) nin0)))).keep K112 (ninS (by first | exact own_ne (by omega) | assumption | (apply Ne.symm; assumption)) nin0))
  obtain ⟨v131, T131, h131, Lc131, X131, e131, hQ131, hS131, hZ131, hown131, st131⟩ := own_callSW X123 hx hZ102 hown102 (hw _ (List.mem_of_getElem? (i := 86) rfl)) (hw _ (List.mem_of_getElem? (i := 87) rfl)) (hw _ (List.mem_of_getElem? (i := 88) rfl)) (hw _ (List.mem_of_getElem? (i := 89) rfl)) (by decide) (rm_addIf l Z a0 hw [] b26 b20 hsq pgq pzq hpq htq kpgq kpzq khpq khtq (((rA + rB) + rC) + rD) (rA + rB) (((rA + rB) + rC) + rD) rqD tqD c20 p5 onE h112 n0 (by omega) fq112_3 fq112_4 fq112_5 fq112_6 fq112_7 fq112_8 fq112_9 fq112_10 fq112_11 fq112_12 f132 f133 f134 f135 f136 f137 f138 f139 f140 oA oB oC oD oE bsD.1 (by have := bsD; omega) tabD hp102_len (by omega)) e123' hS102 (by first | exact Nat.le_refl _ | omega) (g := (mkF m 270 #[.val (.int p1), .val (.int p2), .val (.int p3), .val (.int p4), .val (.int p5), .val (.ref b2), .val (.ref b8), .val (.ref b14), .val (.ref b20), .val (.ref b26), .val (.int (rA + rB)), .val (.int (own_ltI (0 : Int32) (rA + rB))), .val (.int (1 : Int32)), .val (.int (((rA + rB) + rC) + rD)), .val (.int (own_ltI (rA + rB) (((rA + rB) + rC) + rD))), .unset, .unset, .unset, .unset] [(.ref b20), (.int onE), (.ref b26), (.int (((rA + rB) + rC) + rD))])) rfl (by rw [hml]; rfl) (argsL := [(.ref b26), (.int onE), (.ref b20)]) (rest := [(.int (((rA + rB) + rC) + rD))]) rfl (lenOf pd_14 rfl) rfl (W := 1) (by show 2 * 0 + _ ≤ _; exact Nat.le_of_eq rfl) (hb hby at_270) (by decide) (by decide) (by decide) (by decide)
  obtain ⟨rE, rqE, tqE, rfl, Nq131, K131, fq131_3, fq131_4, fq131_5, fq131_6, fq131_7, fq131_8, fq131_9, fq131_10, fq131_11, fq131_12, fq131_13, fq131_14, hp131_bit, hp131_tab, hp131_len⟩ := hQ131
  have N131 := Fr.app N123 Nq131
  have s131 : h112.size ≤ h131.size := K131.1
  have k141 : Rch p e below (s₁.setTop (entryFrame m #[(.int p1), (.int p2), (.int p3), (.int p4), (.int p5)] maxLocals)) T131 (mkF m 273 #[.val (.int p1), .val (.int p2), .val (.int p3), .val (.int p4), .val (.int p5), .val (.ref b2), .val (.ref b8), .val (.ref b14), .val (.ref b20), .val (.ref b26), .val (.int (rA + rB)), .val (.int (own_ltI (0 : Int32) (rA + rB))), .val (.int (1 : Int32)), .val (.int (((rA + rB) + rC) + rD)), .val (.int (own_ltI (rA + rB) (((rA + rB) + rC) + rD))), .unset, .unset, .unset, .unset] [(.int rE), (.int (((rA + rB) + rC) + rD))]) := fun tg kg => k130 tg (st131 tg kg)
  have lt_fq131_3 := own_ltN fq131_3.lt
  have lt_fq131_4 := own_ltN fq131_4.lt
  have lt_fq131_5 := own_ltN fq131_5.lt
  have lt_fq131_6 := own_ltN fq131_6.lt
  have lt_fq131_7 := own_ltN fq131_7.lt
  have lt_fq131_8 := own_ltN fq131_8.lt
  have lt_fq131_9 := own_ltN fq131_9.lt
  have lt_fq131_10 := own_ltN fq131_10.lt
  have lt_fq131_11 := own_ltN fq131_11.lt
  have lt_fq131_12 := own_ltN fq131_12.lt
  have lt_fq131_13 := own_ltN fq131_13.lt
  have lt_fq131_14 := own_ltN fq131_14.lt
  have bdE : 0 ≤ rE.toInt ∧ rE.toInt ≤ 1 := own_r01 hp131_bit
  have tabE := hp131_tab
  have bsE : 0 ≤ ((((rA + rB) + rC) + rD) + rE).toInt ∧ ((((rA + rB) + rC) + rD) + rE).toInt ≤ 5 := by have q := own_add bsD.1 bsD.2 (by decide) bdE.1 bdE.2; exact q
  have k142 : Rch p e below (s₁.setTop (entryFrame m #[(.int p1), (.int p2), (.int p3), (.int p4), (.int p5)] maxLocals)) T131 (mkF m 284 #[.val (.int p1), .val (.int p2), .val (.int p3), .val (.int p4), .val (.int p5), .val (.ref b2), .val (.ref b8), .val (.ref b14), .val (.ref b20), .val (.ref b26), .val (.int (rA + rB)), .val (.int (own_ltI (0 : Int32) (rA + rB))), .val (.int (1 : Int32)), .val (.int (((rA + rB) + rC) + rD)), .val (.int (own_ltI (rA + rB) (((rA + rB) + rC) + rD))), .val (.int ((((rA + rB) + rC) + rD) + rE)), .val (.int (((p1.toUInt32 >>> ((6 : Int32) &&& 31).toUInt32).toInt32) &&& (3 : Int32))), .unset, .unset] []) := fun tg kg => by
    refine k141 tg ?_
    show Steps p.tables e below (T131.setTop (mkF m 273 #[.val (.int p1), .val (.int p2), .val (.int p3), .val (.int p4), .val (.int p5), .val (.ref b2), .val (.ref b8), .val (.ref b14), .val (.ref b20), .val (.ref b26), .val (.int (rA + rB)), .val (.int (own_ltI (0 : Int32) (rA + rB))), .val (.int (1 : Int32)), .val (.int (((rA + rB) + rC) + rD)), .val (.int (own_ltI (rA + rB) (((rA + rB) + rC) + rD))), .unset, .unset, .unset, .unset] [(.int rE), (.int (((rA + rB) + rC) + rD))])) tg
    refine XS.iadd X131.here hx rfl (hb hby at_273) rfl ?_
    refine XS.istore X131.here hx rfl (hb hby at_274) rfl (l' := #[.val (.int p1), .val (.int p2), .val (.int p3), .val (.int p4), .val (.int p5), .val (.ref b2), .val (.ref b8), .val (.ref b14), .val (.ref b20), .val (.ref b26), .val (.int (rA + rB)), .val (.int (own_ltI (0 : Int32) (rA + rB))), .val (.int (1 : Int32)), .val (.int (((rA + rB) + rC) + rD)), .val (.int (own_ltI (rA + rB) (((rA + rB) + rC) + rD))), .val (.int ((((rA + rB) + rC) + rD) + rE)), .unset, .unset, .unset]) rfl ?_
    refine XS.iloadN X131.here hx rfl (hb hby at_276) rfl ?_
    refine XS.bipush X131.here hx rfl (hb hby at_277) ?_
    refine XS.iushr X131.here hx rfl (hb hby at_279) rfl ?_
    show Steps p.tables e below (T131.setTop (mkF m 280 #[.val (.int p1), .val (.int p2), .val (.int p3), .val (.int p4), .val (.int p5), .val (.ref b2), .val (.ref b8), .val (.ref b14), .val (.ref b20), .val (.ref b26), .val (.int (rA + rB)), .val (.int (own_ltI (0 : Int32) (rA + rB))), .val (.int (1 : Int32)), .val (.int (((rA + rB) + rC) + rD)), .val (.int (own_ltI (rA + rB) (((rA + rB) + rC) + rD))), .val (.int ((((rA + rB) + rC) + rD) + rE)), .unset, .unset, .unset] [(.int ((p1.toUInt32 >>> ((6 : Int32) &&& 31).toUInt32).toInt32))])) tg
    refine XS.iconst X131.here hx rfl (hb hby at_280) ?_
    refine XS.iand X131.here hx rfl (hb hby at_281) rfl ?_
    refine XS.istore X131.here hx rfl (hb hby at_282) rfl (l' := #[.val (.int p1), .val (.int p2), .val (.int p3), .val (.int p4), .val (.int p5), .val (.ref b2), .val (.ref b8), .val (.ref b14), .val (.ref b20), .val (.ref b26), .val (.int (rA + rB)), .val (.int (own_ltI (0 : Int32) (rA + rB))), .val (.int (1 : Int32)), .val (.int (((rA + rB) + rC) + rD)), .val (.int (own_ltI (rA + rB) (((rA + rB) + rC) + rD))), .val (.int ((((rA + rB) + rC) + rD) + rE)), .val (.int (((p1.toUInt32 >>> ((6 : Int32) &&& 31).toUInt32).toInt32) &&& (3 : Int32))), .unset, .unset]) rfl ?_
    exact kg
  obtain ⟨md, hmd, k143⟩ : ∃ md : Int32, md = (((p1.toUInt32 >>> ((6 : Int32) &&& 31).toUInt32).toInt32) &&& (3 : Int32)) ∧ Rch p e below (s₁.setTop (entryFrame m #[(.int p1), (.int p2), (.int p3), (.int p4), (.int p5)] maxLocals)) T131 (mkF m 284 #[.val (.int p1), .val (.int p2), .val (.int p3), .val (.int p4), .val (.int p5), .val (.ref b2), .val (.ref b8), .val (.ref b14), .val (.ref b20), .val (.ref b26), .val (.int (rA + rB)), .val (.int (own_ltI (0 : Int32) (rA + rB))), .val (.int (1 : Int32)), .val (.int (((rA + rB) + rC) + rD)), .val (.int (own_ltI (rA + rB) (((rA + rB) + rC) + rD))), .val (.int ((((rA + rB) + rC) + rD) + rE)), .val (.int md), .unset, .unset] []) := ⟨_, rfl, k142⟩
  have k144 : Rch p e below (s₁.setTop (entryFrame m #[(.int p1), (.int p2), (.int p3), (.int p4), (.int p5)] maxLocals)) T131 (mkF m 287 #[.val (.int p1), .val (.int p2), .val (.int p3), .val (.int p4), .val (.int p5), .val (.ref b2), .val (.ref b8), .val (.ref b14), .val (.ref b20), .val (.ref b26), .val (.int (rA + rB)), .val (.int (own_ltI (0 : Int32) (rA + rB))), .val (.int (1 : Int32)), .val (.int (((rA + rB) + rC) + rD)), .val (.int (own_ltI (rA + rB) (((rA + rB) + rC) + rD))), .val (.int ((((rA + rB) + rC) + rD) + rE)), .val (.int md), .unset, .unset] [(.int (1 : Int32)), (.int md)]) := fun tg kg => by
    refine k143 tg ?_
    show Steps p.tables e below (T131.setTop (mkF m 284 #[.val (.int p1), .val (.int p2), .val (.int p3), .val (.int p4), .val (.int p5), .val (.ref b2), .val (.ref b8), .val (.ref b14), .val (.ref b20), .val (.ref b26), .val (.int (rA + rB)), .val (.int (own_ltI (0 : Int32) (rA + rB))), .val (.int (1 : Int32)), .val (.int (((rA + rB) + rC) + rD)), .val (.int (own_ltI (rA + rB) (((rA + rB) + rC) + rD))), .val (.int ((((rA + rB) + rC) + rD) + rE)), .val (.int md), .unset, .unset] [])) tg
    refine XS.iload X131.here hx rfl (hb hby at_284) rfl ?_
    refine XS.iconst X131.here hx rfl (hb hby at_286) ?_
    exact kg
  by_cases hc287_145 : md = (1 : Int32)
  · have k146 : Rch p e below (s₁.setTop (entryFrame m #[(.int p1), (.int p2), (.int p3), (.int p4), (.int p5)] maxLocals)) T131 (mkF m 292 #[.val (.int p1), .val (.int p2), .val (.int p3), .val (.int p4), .val (.int p5), .val (.ref b2), .val (.ref b8), .val (.ref b14), .val (.ref b20), .val (.ref b26), .val (.int (rA + rB)), .val (.int (own_ltI (0 : Int32) (rA + rB))), .val (.int (1 : Int32)), .val (.int (((rA + rB) + rC) + rD)), .val (.int (own_ltI (rA + rB) (((rA + rB) + rC) + rD))), .val (.int ((((rA + rB) + rC) + rD) + rE)), .val (.int md), .unset, .unset] [(.ref b26)]) := fun tg kg => by
      refine k144 tg ?_
      show Steps p.tables e below (T131.setTop (mkF m 287 #[.val (.int p1), .val (.int p2), .val (.int p3), .val (.int p4), .val (.int p5), .val (.ref b2), .val (.ref b8), .val (.ref b14), .val (.ref b20), .val (.ref b26), .val (.int (rA + rB)), .val (.int (own_ltI (0 : Int32) (rA + rB))), .val (.int (1 : Int32)), .val (.int (((rA + rB) + rC) + rD)), .val (.int (own_ltI (rA + rB) (((rA + rB) + rC) + rD))), .val (.int ((((rA + rB) + rC) + rD) + rE)), .val (.int md), .unset, .unset] [(.int (1 : Int32)), (.int md)])) tg
      refine XS.icmpNo X131.here hx rfl (hb hby at_287) rfl (teq hc287_145).2 ?_
      show Steps p.tables e below (T131.setTop (mkF m 290 #[.val (.int p1), .val (.int p2), .val (.int p3), .val (.int p4), .val (.int p5), .val (.ref b2), .val (.ref b8), .val (.ref b14), .val (.ref b20), .val (.ref b26), .val (.int (rA + rB)), .val (.int (own_ltI (0 : Int32) (rA + rB))), .val (.int (1 : Int32)), .val (.int (((rA + rB) + rC) + rD)), .val (.int (own_ltI (rA + rB) (((rA + rB) + rC) + rD))), .val (.int ((((rA + rB) + rC) + rD) + rE)), .val (.int md), .unset, .unset] [])) tg
      refine XS.aload X131.here hx rfl (hb hby at_290) rfl rfl ?_
      exact kg
    obtain ⟨v147, T147, h147, Lc147, X147, e147, hQ147, st147⟩ := own_callV X131 hx hZ131 hown131 (hw _ (List.mem_of_getElem? (i := 206) rfl)) (hw _ (List.mem_of_getElem? (i := 207) rfl)) (notFace_of_selects (args := #[]) (mvT hZ131 (hw _ (List.mem_of_getElem? (i := 209) rfl)))) (hw _ (List.mem_of_getElem? (i := 209) rfl)) (hw _ (List.mem_of_getElem? (i := 208) rfl)) (hw _ (List.mem_of_getElem? (i := 210) rfl)) (hw _ (List.mem_of_getElem? (i := 3) rfl)) (by decide) (rm_settle l Z a0 hw [] b26 hsq pgq ((((rA + rB) + rC) + rD) + rE) (rA + rB) (((rA + rB) + rC) + rD) h131 n0 (by omega) fq131_3 fq131_4 fq131_5 fq131_6 fq131_7 fq131_8 fq131_9 fq131_10 fq131_11 fq131_12 (by omega)) e131 fq131_3 (g := (mkF m 292 #[.val (.int p1), .val (.int p2), .val (.int p3), .val (.int p4), .val (.int p5), .val (.ref b2), .val (.ref b8), .val (.ref b14), .val (.ref b20), .val (.ref b26), .val (.int (rA + rB)), .val (.int (own_ltI (0 : Int32) (rA + rB))), .val (.int (1 : Int32)), .val (.int (((rA + rB) + rC) + rD)), .val (.int (own_ltI (rA + rB) (((rA + rB) + rC) + rD))), .val (.int ((((rA + rB) + rC) + rD) + rE)), .val (.int md), .unset, .unset] [(.ref b26)])) rfl (by rw [hml]; rfl) (argsL := []) (rest := []) rfl (lenOf pd_0 rfl) rfl (W := 0) (by show 2 * 0 + _ ≤ _; exact Nat.le_of_eq rfl) (hb hby at_292) (by decide) (by decide) (by decide) (by decide)
    obtain ⟨rfl, Nq147, K147, fq147_3, fq147_4, fq147_5, fq147_6, fq147_7, fq147_8, fq147_9, fq147_10, fq147_11, fq147_12⟩ := hQ147
    have N147 := Fr.app N131 Nq147
    have s147 : h131.size ≤ h147.size := K147.1
    have k148 : Rch p e below (s₁.setTop (entryFrame m #[(.int p1), (.int p2), (.int p3), (.int p4), (.int p5)] maxLocals)) T147 (mkF m 295 #[.val (.int p1), .val (.int p2), .val (.int p3), .val (.int p4), .val (.int p5), .val (.ref b2), .val (.ref b8), .val (.ref b14), .val (.ref b20), .val (.ref b26), .val (.int (rA + rB)), .val (.int (own_ltI (0 : Int32) (rA + rB))), .val (.int (1 : Int32)), .val (.int (((rA + rB) + rC) + rD)), .val (.int (own_ltI (rA + rB) (((rA + rB) + rC) + rD))), .val (.int ((((rA + rB) + rC) + rD) + rE)), .val (.int md), .unset, .unset] []) := fun tg kg => k146 tg (st147 tg kg)
    have lt_fq147_3 := own_ltN fq147_3.lt
    have lt_fq147_4 := own_ltN fq147_4.lt
    have lt_fq147_5 := own_ltN fq147_5.lt
    have lt_fq147_6 := own_ltN fq147_6.lt
    have lt_fq147_7 := own_ltN fq147_7.lt
    have lt_fq147_8 := own_ltN fq147_8.lt
    have lt_fq147_9 := own_ltN fq147_9.lt
    have lt_fq147_10 := own_ltN fq147_10.lt
    have lt_fq147_11 := own_ltN fq147_11.lt
    have lt_fq147_12 := own_ltN fq147_12.lt
    have k149 : Rch p e below (s₁.setTop (entryFrame m #[(.int p1), (.int p2), (.int p3), (.int p4), (.int p5)] maxLocals)) T147 (mkF m 311 #[.val (.int p1), .val (.int p2), .val (.int p3), .val (.int p4), .val (.int p5), .val (.ref b2), .val (.ref b8), .val (.ref b14), .val (.ref b20), .val (.ref b26), .val (.int (rA + rB)), .val (.int (own_ltI (0 : Int32) (rA + rB))), .val (.int (1 : Int32)), .val (.int (((rA + rB) + rC) + rD)), .val (.int (own_ltI (rA + rB) (((rA + rB) + rC) + rD))), .val (.int ((((rA + rB) + rC) + rD) + rE)), .val (.int md), .unset, .unset] [(.ref b26)]) := fun tg kg => by
      refine k148 tg ?_
      show Steps p.tables e below (T147.setTop (mkF m 295 #[.val (.int p1), .val (.int p2), .val (.int p3), .val (.int p4), .val (.int p5), .val (.ref b2), .val (.ref b8), .val (.ref b14), .val (.ref b20), .val (.ref b26), .val (.int (rA + rB)), .val (.int (own_ltI (0 : Int32) (rA + rB))), .val (.int (1 : Int32)), .val (.int (((rA + rB) + rC) + rD)), .val (.int (own_ltI (rA + rB) (((rA + rB) + rC) + rD))), .val (.int ((((rA + rB) + rC) + rD) + rE)), .val (.int md), .unset, .unset] [])) tg
      refine XS.goto X147.here hx rfl (pc0 := 295) (pc' := 309) rfl (hb hby at_295) (by decide) (by decide) ?_
      refine XS.aload X147.here hx rfl (hb hby at_309) rfl rfl ?_
      exact kg
    obtain ⟨v150, T150, h150, Lc150, X150, e150, hQ150, st150⟩ := own_callV X147 hx hZ131 hown131 (hw _ (List.mem_of_getElem? (i := 90) rfl)) (hw _ (List.mem_of_getElem? (i := 91) rfl)) (notFace_of_selects (args := #[]) (mvT hZ131 (hw _ (List.mem_of_getElem? (i := 93) rfl)))) (hw _ (List.mem_of_getElem? (i := 93) rfl)) (hw _ (List.mem_of_getElem? (i := 92) rfl)) (hw _ (List.mem_of_getElem? (i := 94) rfl)) (hw _ (List.mem_of_getElem? (i := 3) rfl)) (by decide) (rm_next2 l Z a0 hw [] b26 hsq pgq ((((rA + rB) + rC) + rD) + rE) ((((rA + rB) + rC) + rD) + rE) ((((rA + rB) + rC) + rD) + rE) h147 n0 (by omega) fq147_3 fq147_4 fq147_5 fq147_6 fq147_7 fq147_8 fq147_9 fq147_10 fq147_11 fq147_12 (by omega)) e147 fq147_3 (g := (mkF m 311 #[.val (.int p1), .val (.int p2), .val (.int p3), .val (.int p4), .val (.int p5), .val (.ref b2), .val (.ref b8), .val (.ref b14), .val (.ref b20), .val (.ref b26), .val (.int (rA + rB)), .val (.int (own_ltI (0 : Int32) (rA + rB))), .val (.int (1 : Int32)), .val (.int (((rA + rB) + rC) + rD)), .val (.int (own_ltI (rA + rB) (((rA + rB) + rC) + rD))), .val (.int ((((rA + rB) + rC) + rD) + rE)), .val (.int md), .unset, .unset] [(.ref b26)])) rfl (by rw [hml]; rfl) (argsL := []) (rest := []) rfl (lenOf pd_15 rfl) rfl (W := 0) (by show 2 * 0 + _ ≤ _; exact Nat.le_of_eq rfl) (hb hby at_311) (by decide) (by decide) (by decide) (by decide)
    obtain ⟨rfl, Nq150, K150, fq150_3, fq150_4, fq150_5, fq150_6, fq150_7, fq150_8, fq150_9, fq150_10, fq150_11, fq150_12⟩ := hQ150
    have N150 := Fr.app N147 Nq150
    have s150 : h147.size ≤ h150.size := K150.1
    have k151 : Rch p e below (s₁.setTop (entryFrame m #[(.int p1), (.int p2), (.int p3), (.int p4), (.int p5)] maxLocals)) T150 (mkF m 314 #[.val (.int p1), .val (.int p2), .val (.int p3), .val (.int p4), .val (.int p5), .val (.ref b2), .val (.ref b8), .val (.ref b14), .val (.ref b20), .val (.ref b26), .val (.int (rA + rB)), .val (.int (own_ltI (0 : Int32) (rA + rB))), .val (.int (1 : Int32)), .val (.int (((rA + rB) + rC) + rD)), .val (.int (own_ltI (rA + rB) (((rA + rB) + rC) + rD))), .val (.int ((((rA + rB) + rC) + rD) + rE)), .val (.int md), .unset, .unset] [(.int (own_ltI ((((rA + rB) + rC) + rD) + rE) ((((rA + rB) + rC) + rD) + rE)))]) := fun tg kg => k149 tg (st150 tg kg)
    have lt_fq150_3 := own_ltN fq150_3.lt
    have lt_fq150_4 := own_ltN fq150_4.lt
    have lt_fq150_5 := own_ltN fq150_5.lt
    have lt_fq150_6 := own_ltN fq150_6.lt
    have lt_fq150_7 := own_ltN fq150_7.lt
    have lt_fq150_8 := own_ltN fq150_8.lt
    have lt_fq150_9 := own_ltN fq150_9.lt
    have lt_fq150_10 := own_ltN fq150_10.lt
    have lt_fq150_11 := own_ltN fq150_11.lt
    have lt_fq150_12 := own_ltN fq150_12.lt
    have k152 : Rch p e below (s₁.setTop (entryFrame m #[(.int p1), (.int p2), (.int p3), (.int p4), (.int p5)] maxLocals)) T150 (mkF m 356 #[.val (.int p1), .val (.int p2), .val (.int p3), .val (.int p4), .val (.int p5), .val (.ref b2), .val (.ref b8), .val (.ref b14), .val (.ref b20), .val (.ref b26), .val (.int (rA + rB)), .val (.int (own_ltI (0 : Int32) (rA + rB))), .val (.int (1 : Int32)), .val (.int (((rA + rB) + rC) + rD)), .val (.int (own_ltI (rA + rB) (((rA + rB) + rC) + rD))), .val (.int ((((rA + rB) + rC) + rD) + rE)), .val (.int md), .val (.int (own_ltI ((((rA + rB) + rC) + rD) + rE) ((((rA + rB) + rC) + rD) + rE))), .val (.int ((((rA + rB) + rC) + rD) + rE))] [(.int ((((rA + rB) + rC) + rD) + rE)), (.int ((((rA + rB) + rC) + rD) + rE)), (.int (own_ltI ((((rA + rB) + rC) + rD) + rE) ((((rA + rB) + rC) + rD) + rE)))]) := fun tg kg => by
      refine k151 tg ?_
      show Steps p.tables e below (T150.setTop (mkF m 314 #[.val (.int p1), .val (.int p2), .val (.int p3), .val (.int p4), .val (.int p5), .val (.ref b2), .val (.ref b8), .val (.ref b14), .val (.ref b20), .val (.ref b26), .val (.int (rA + rB)), .val (.int (own_ltI (0 : Int32) (rA + rB))), .val (.int (1 : Int32)), .val (.int (((rA + rB) + rC) + rD)), .val (.int (own_ltI (rA + rB) (((rA + rB) + rC) + rD))), .val (.int ((((rA + rB) + rC) + rD) + rE)), .val (.int md), .unset, .unset] [(.int (own_ltI ((((rA + rB) + rC) + rD) + rE) ((((rA + rB) + rC) + rD) + rE)))])) tg
      refine XS.istore X150.here hx rfl (hb hby at_314) rfl (l' := #[.val (.int p1), .val (.int p2), .val (.int p3), .val (.int p4), .val (.int p5), .val (.ref b2), .val (.ref b8), .val (.ref b14), .val (.ref b20), .val (.ref b26), .val (.int (rA + rB)), .val (.int (own_ltI (0 : Int32) (rA + rB))), .val (.int (1 : Int32)), .val (.int (((rA + rB) + rC) + rD)), .val (.int (own_ltI (rA + rB) (((rA + rB) + rC) + rD))), .val (.int ((((rA + rB) + rC) + rD) + rE)), .val (.int md), .val (.int (own_ltI ((((rA + rB) + rC) + rD) + rE) ((((rA + rB) + rC) + rD) + rE))), .unset]) rfl ?_
      refine XS.iload X150.here hx rfl (hb hby at_316) rfl ?_
      refine XS.iconst X150.here hx rfl (hb hby at_318) ?_
      show Steps p.tables e below (T150.setTop (mkF m 319 #[.val (.int p1), .val (.int p2), .val (.int p3), .val (.int p4), .val (.int p5), .val (.ref b2), .val (.ref b8), .val (.ref b14), .val (.ref b20), .val (.ref b26), .val (.int (rA + rB)), .val (.int (own_ltI (0 : Int32) (rA + rB))), .val (.int (1 : Int32)), .val (.int (((rA + rB) + rC) + rD)), .val (.int (own_ltI (rA + rB) (((rA + rB) + rC) + rD))), .val (.int ((((rA + rB) + rC) + rD) + rE)), .val (.int md), .val (.int (own_ltI ((((rA + rB) + rC) + rD) + rE) ((((rA + rB) + rC) + rD) + rE))), .unset] [(.int (1 : Int32)), (.int md)])) tg
      refine XS.icmpNo X150.here hx rfl (hb hby at_319) rfl (teq hc287_145).2 ?_
      refine XS.iload X150.here hx rfl (hb hby at_322) rfl ?_
      refine XS.istore X150.here hx rfl (hb hby at_324) rfl (l' := #[.val (.int p1), .val (.int p2), .val (.int p3), .val (.int p4), .val (.int p5), .val (.ref b2), .val (.ref b8), .val (.ref b14), .val (.ref b20), .val (.ref b26), .val (.int (rA + rB)), .val (.int (own_ltI (0 : Int32) (rA + rB))), .val (.int (1 : Int32)), .val (.int (((rA + rB) + rC) + rD)), .val (.int (own_ltI (rA + rB) (((rA + rB) + rC) + rD))), .val (.int ((((rA + rB) + rC) + rD) + rE)), .val (.int md), .val (.int (own_ltI ((((rA + rB) + rC) + rD) + rE) ((((rA + rB) + rC) + rD) + rE))), .val (.int ((((rA + rB) + rC) + rD) + rE))]) rfl ?_
      refine XS.goto X150.here hx rfl (pc0 := 326) (pc' := 345) rfl (hb hby at_326) (by decide) (by decide) ?_
      refine XS.iload X150.here hx rfl (hb hby at_345) rfl ?_
      refine XS.ifNo X150.here hx rfl (hb hby at_347) rfl ((if0 _ _).trans (feq (by decide)).1) ?_
      show Steps p.tables e below (T150.setTop (mkF m 350 #[.val (.int p1), .val (.int p2), .val (.int p3), .val (.int p4), .val (.int p5), .val (.ref b2), .val (.ref b8), .val (.ref b14), .val (.ref b20), .val (.ref b26), .val (.int (rA + rB)), .val (.int (own_ltI (0 : Int32) (rA + rB))), .val (.int (1 : Int32)), .val (.int (((rA + rB) + rC) + rD)), .val (.int (own_ltI (rA + rB) (((rA + rB) + rC) + rD))), .val (.int ((((rA + rB) + rC) + rD) + rE)), .val (.int md), .val (.int (own_ltI ((((rA + rB) + rC) + rD) + rE) ((((rA + rB) + rC) + rD) + rE))), .val (.int ((((rA + rB) + rC) + rD) + rE))] [])) tg
      refine XS.iload X150.here hx rfl (hb hby at_350) rfl ?_
      refine XS.iload X150.here hx rfl (hb hby at_352) rfl ?_
      refine XS.iload X150.here hx rfl (hb hby at_354) rfl ?_
      exact kg
    have k153 : Rch p e below (s₁.setTop (entryFrame m #[(.int p1), (.int p2), (.int p3), (.int p4), (.int p5)] maxLocals)) T150 (mkF m 367 #[.val (.int p1), .val (.int p2), .val (.int p3), .val (.int p4), .val (.int p5), .val (.ref b2), .val (.ref b8), .val (.ref b14), .val (.ref b20), .val (.ref b26), .val (.int (rA + rB)), .val (.int (own_ltI (0 : Int32) (rA + rB))), .val (.int (1 : Int32)), .val (.int (((rA + rB) + rC) + rD)), .val (.int (own_ltI (rA + rB) (((rA + rB) + rC) + rD))), .val (.int ((((rA + rB) + rC) + rD) + rE)), .val (.int md), .val (.int (own_ltI ((((rA + rB) + rC) + rD) + rE) ((((rA + rB) + rC) + rD) + rE))), .val (.int ((((rA + rB) + rC) + rD) + rE))] []) := by
      by_cases hc356_154 : ((((rA + rB) + rC) + rD) + rE) < ((((rA + rB) + rC) + rD) + rE)
      · have k155 : Rch p e below (s₁.setTop (entryFrame m #[(.int p1), (.int p2), (.int p3), (.int p4), (.int p5)] maxLocals)) T150 (mkF m 367 #[.val (.int p1), .val (.int p2), .val (.int p3), .val (.int p4), .val (.int p5), .val (.ref b2), .val (.ref b8), .val (.ref b14), .val (.ref b20), .val (.ref b26), .val (.int (rA + rB)), .val (.int (own_ltI (0 : Int32) (rA + rB))), .val (.int (1 : Int32)), .val (.int (((rA + rB) + rC) + rD)), .val (.int (own_ltI (rA + rB) (((rA + rB) + rC) + rD))), .val (.int ((((rA + rB) + rC) + rD) + rE)), .val (.int md), .val (.int (own_ltI ((((rA + rB) + rC) + rD) + rE) ((((rA + rB) + rC) + rD) + rE))), .val (.int ((((rA + rB) + rC) + rD) + rE))] []) := fun tg kg => by
          refine k152 tg ?_
          show Steps p.tables e below (T150.setTop (mkF m 356 #[.val (.int p1), .val (.int p2), .val (.int p3), .val (.int p4), .val (.int p5), .val (.ref b2), .val (.ref b8), .val (.ref b14), .val (.ref b20), .val (.ref b26), .val (.int (rA + rB)), .val (.int (own_ltI (0 : Int32) (rA + rB))), .val (.int (1 : Int32)), .val (.int (((rA + rB) + rC) + rD)), .val (.int (own_ltI (rA + rB) (((rA + rB) + rC) + rD))), .val (.int ((((rA + rB) + rC) + rD) + rE)), .val (.int md), .val (.int (own_ltI ((((rA + rB) + rC) + rD) + rE) ((((rA + rB) + rC) + rD) + rE))), .val (.int ((((rA + rB) + rC) + rD) + rE))] [(.int ((((rA + rB) + rC) + rD) + rE)), (.int ((((rA + rB) + rC) + rD) + rE)), (.int (own_ltI ((((rA + rB) + rC) + rD) + rE) ((((rA + rB) + rC) + rD) + rE)))])) tg
          refine XS.icmpNo X150.here hx rfl (hb hby at_356) rfl (tlt hc356_154).2.1 ?_
          refine XS.iconst X150.here hx rfl (hb hby at_359) ?_
          refine XS.goto X150.here hx rfl (pc0 := 360) (pc' := 364) rfl (hb hby at_360) (by decide) (by decide) ?_
          show Steps p.tables e below (T150.setTop (mkF m 364 #[.val (.int p1), .val (.int p2), .val (.int p3), .val (.int p4), .val (.int p5), .val (.ref b2), .val (.ref b8), .val (.ref b14), .val (.ref b20), .val (.ref b26), .val (.int (rA + rB)), .val (.int (own_ltI (0 : Int32) (rA + rB))), .val (.int (1 : Int32)), .val (.int (((rA + rB) + rC) + rD)), .val (.int (own_ltI (rA + rB) (((rA + rB) + rC) + rD))), .val (.int ((((rA + rB) + rC) + rD) + rE)), .val (.int md), .val (.int (own_ltI ((((rA + rB) + rC) + rD) + rE) ((((rA + rB) + rC) + rD) + rE))), .val (.int ((((rA + rB) + rC) + rD) + rE))] [(.int (1 : Int32)), (.int (own_ltI ((((rA + rB) + rC) + rD) + rE) ((((rA + rB) + rC) + rD) + rE)))])) tg
          refine XS.icmpNo X150.here hx rfl (hb hby at_364) rfl (teq (if_pos hc356_154)).2 ?_
          exact kg
        exact k155
      · have k156 : Rch p e below (s₁.setTop (entryFrame m #[(.int p1), (.int p2), (.int p3), (.int p4), (.int p5)] maxLocals)) T150 (mkF m 367 #[.val (.int p1), .val (.int p2), .val (.int p3), .val (.int p4), .val (.int p5), .val (.ref b2), .val (.ref b8), .val (.ref b14), .val (.ref b20), .val (.ref b26), .val (.int (rA + rB)), .val (.int (own_ltI (0 : Int32) (rA + rB))), .val (.int (1 : Int32)), .val (.int (((rA + rB) + rC) + rD)), .val (.int (own_ltI (rA + rB) (((rA + rB) + rC) + rD))), .val (.int ((((rA + rB) + rC) + rD) + rE)), .val (.int md), .val (.int (own_ltI ((((rA + rB) + rC) + rD) + rE) ((((rA + rB) + rC) + rD) + rE))), .val (.int ((((rA + rB) + rC) + rD) + rE))] []) := fun tg kg => by
          refine k152 tg ?_
          show Steps p.tables e below (T150.setTop (mkF m 356 #[.val (.int p1), .val (.int p2), .val (.int p3), .val (.int p4), .val (.int p5), .val (.ref b2), .val (.ref b8), .val (.ref b14), .val (.ref b20), .val (.ref b26), .val (.int (rA + rB)), .val (.int (own_ltI (0 : Int32) (rA + rB))), .val (.int (1 : Int32)), .val (.int (((rA + rB) + rC) + rD)), .val (.int (own_ltI (rA + rB) (((rA + rB) + rC) + rD))), .val (.int ((((rA + rB) + rC) + rD) + rE)), .val (.int md), .val (.int (own_ltI ((((rA + rB) + rC) + rD) + rE) ((((rA + rB) + rC) + rD) + rE))), .val (.int ((((rA + rB) + rC) + rD) + rE))] [(.int ((((rA + rB) + rC) + rD) + rE)), (.int ((((rA + rB) + rC) + rD) + rE)), (.int (own_ltI ((((rA + rB) + rC) + rD) + rE) ((((rA + rB) + rC) + rD) + rE)))])) tg
          refine XS.icmpYes X150.here hx rfl (pc0 := 356) (pc' := 363) rfl (hb hby at_356) rfl (flt hc356_154).2.1 (by decide) (by decide) ?_
          refine XS.iconst X150.here hx rfl (hb hby at_363) ?_
          refine XS.icmpNo X150.here hx rfl (hb hby at_364) rfl (teq (if_neg hc356_154)).2 ?_
          exact kg
        exact k156
    have k157 : Rch p e below (s₁.setTop (entryFrame m #[(.int p1), (.int p2), (.int p3), (.int p4), (.int p5)] maxLocals)) T150 (mkF m 369 #[.val (.int p1), .val (.int p2), .val (.int p3), .val (.int p4), .val (.int p5), .val (.ref b2), .val (.ref b8), .val (.ref b14), .val (.ref b20), .val (.ref b26), .val (.int (rA + rB)), .val (.int (own_ltI (0 : Int32) (rA + rB))), .val (.int (1 : Int32)), .val (.int (((rA + rB) + rC) + rD)), .val (.int (own_ltI (rA + rB) (((rA + rB) + rC) + rD))), .val (.int ((((rA + rB) + rC) + rD) + rE)), .val (.int md), .val (.int (own_ltI ((((rA + rB) + rC) + rD) + rE) ((((rA + rB) + rC) + rD) + rE))), .val (.int ((((rA + rB) + rC) + rD) + rE))] [(.ref b26)]) := fun tg kg => by
      refine k153 tg ?_
      show Steps p.tables e below (T150.setTop (mkF m 367 #[.val (.int p1), .val (.int p2), .val (.int p3), .val (.int p4), .val (.int p5), .val (.ref b2), .val (.ref b8), .val (.ref b14), .val (.ref b20), .val (.ref b26), .val (.int (rA + rB)), .val (.int (own_ltI (0 : Int32) (rA + rB))), .val (.int (1 : Int32)), .val (.int (((rA + rB) + rC) + rD)), .val (.int (own_ltI (rA + rB) (((rA + rB) + rC) + rD))), .val (.int ((((rA + rB) + rC) + rD) + rE)), .val (.int md), .val (.int (own_ltI ((((rA + rB) + rC) + rD) + rE) ((((rA + rB) + rC) + rD) + rE))), .val (.int ((((rA + rB) + rC) + rD) + rE))] [])) tg
      refine XS.aload X150.here hx rfl (hb hby at_367) rfl rfl ?_
      exact kg
    obtain ⟨v158, T158, h158, Lc158, X158, e158, hQ158, st158⟩ := own_callV X150 hx hZ131 hown131 (hw _ (List.mem_of_getElem? (i := 101) rfl)) (hw _ (List.mem_of_getElem? (i := 102) rfl)) (notFace_of_selects (args := #[]) (mvT hZ131 (hw _ (List.mem_of_getElem? (i := 104) rfl)))) (hw _ (List.mem_of_getElem? (i := 104) rfl)) (hw _ (List.mem_of_getElem? (i := 103) rfl)) (hw _ (List.mem_of_getElem? (i := 105) rfl)) (hw _ (List.mem_of_getElem? (i := 3) rfl)) (by decide) (rm_ds l Z a0 hw [] b26 hsq pgq ((((rA + rB) + rC) + rD) + rE) ((((rA + rB) + rC) + rD) + rE) ((((rA + rB) + rC) + rD) + rE) h150 n0 (by omega) fq150_3 fq150_4 fq150_5 fq150_6 fq150_7 fq150_8 fq150_9 fq150_10 fq150_11 fq150_12 (by omega)) e150 fq150_3 (g := (mkF m 369 #[.val (.int p1), .val (.int p2), .val (.int p3), .val (.int p4), .val (.int p5), .val (.ref b2), .val (.ref b8), .val (.ref b14), .val (.ref b20), .val (.ref b26), .val (.int (rA + rB)), .val (.int (own_ltI (0 : Int32) (rA + rB))), .val (.int (1 : Int32)), .val (.int (((rA + rB) + rC) + rD)), .val (.int (own_ltI (rA + rB) (((rA + rB) + rC) + rD))), .val (.int ((((rA + rB) + rC) + rD) + rE)), .val (.int md), .val (.int (own_ltI ((((rA + rB) + rC) + rD) + rE) ((((rA + rB) + rC) + rD) + rE))), .val (.int ((((rA + rB) + rC) + rD) + rE))] [(.ref b26)])) rfl (by rw [hml]; rfl) (argsL := []) (rest := []) rfl (lenOf pd_16 rfl) rfl (W := 0) (by show 2 * 0 + _ ≤ _; exact Nat.le_of_eq rfl) (hb hby at_369) (by decide) (by decide) (by decide) (by decide)
    obtain ⟨rfl, Nq158, hs158⟩ := hQ158
    have N158 := Fr.app N150 Nq158
    have e158' : T158.heap = h150 := e158.trans hs158
    have k159 : Rch p e below (s₁.setTop (entryFrame m #[(.int p1), (.int p2), (.int p3), (.int p4), (.int p5)] maxLocals)) T158 (mkF m 372 #[.val (.int p1), .val (.int p2), .val (.int p3), .val (.int p4), .val (.int p5), .val (.ref b2), .val (.ref b8), .val (.ref b14), .val (.ref b20), .val (.ref b26), .val (.int (rA + rB)), .val (.int (own_ltI (0 : Int32) (rA + rB))), .val (.int (1 : Int32)), .val (.int (((rA + rB) + rC) + rD)), .val (.int (own_ltI (rA + rB) (((rA + rB) + rC) + rD))), .val (.int ((((rA + rB) + rC) + rD) + rE)), .val (.int md), .val (.int (own_ltI ((((rA + rB) + rC) + rD) + rE) ((((rA + rB) + rC) + rD) + rE))), .val (.int ((((rA + rB) + rC) + rD) + rE))] [(.int ((((rA + rB) + rC) + rD) + rE))]) := fun tg kg => k157 tg (st158 tg kg)
    have k160 : Rch p e below (s₁.setTop (entryFrame m #[(.int p1), (.int p2), (.int p3), (.int p4), (.int p5)] maxLocals)) T158 (mkF m 379 #[.val (.int p1), .val (.int p2), .val (.int p3), .val (.int p4), .val (.int p5), .val (.ref b2), .val (.ref b8), .val (.ref b14), .val (.ref b20), .val (.ref b26), .val (.int (rA + rB)), .val (.int (own_ltI (0 : Int32) (rA + rB))), .val (.int (1 : Int32)), .val (.int (((rA + rB) + rC) + rD)), .val (.int (own_ltI (rA + rB) (((rA + rB) + rC) + rD))), .val (.int ((((rA + rB) + rC) + rD) + rE)), .val (.int md), .val (.int (own_ltI ((((rA + rB) + rC) + rD) + rE) ((((rA + rB) + rC) + rD) + rE))), .val (.int ((((rA + rB) + rC) + rD) + rE))] [(.ref b26)]) := fun tg kg => by
      refine k159 tg ?_
      show Steps p.tables e below (T158.setTop (mkF m 372 #[.val (.int p1), .val (.int p2), .val (.int p3), .val (.int p4), .val (.int p5), .val (.ref b2), .val (.ref b8), .val (.ref b14), .val (.ref b20), .val (.ref b26), .val (.int (rA + rB)), .val (.int (own_ltI (0 : Int32) (rA + rB))), .val (.int (1 : Int32)), .val (.int (((rA + rB) + rC) + rD)), .val (.int (own_ltI (rA + rB) (((rA + rB) + rC) + rD))), .val (.int ((((rA + rB) + rC) + rD) + rE)), .val (.int md), .val (.int (own_ltI ((((rA + rB) + rC) + rD) + rE) ((((rA + rB) + rC) + rD) + rE))), .val (.int ((((rA + rB) + rC) + rD) + rE))] [(.int ((((rA + rB) + rC) + rD) + rE))])) tg
      refine XS.iload X158.here hx rfl (hb hby at_372) rfl ?_
      refine XS.icmpNo X158.here hx rfl (hb hby at_374) rfl (teq rfl).2 ?_
      show Steps p.tables e below (T158.setTop (mkF m 377 #[.val (.int p1), .val (.int p2), .val (.int p3), .val (.int p4), .val (.int p5), .val (.ref b2), .val (.ref b8), .val (.ref b14), .val (.ref b20), .val (.ref b26), .val (.int (rA + rB)), .val (.int (own_ltI (0 : Int32) (rA + rB))), .val (.int (1 : Int32)), .val (.int (((rA + rB) + rC) + rD)), .val (.int (own_ltI (rA + rB) (((rA + rB) + rC) + rD))), .val (.int ((((rA + rB) + rC) + rD) + rE)), .val (.int md), .val (.int (own_ltI ((((rA + rB) + rC) + rD) + rE) ((((rA + rB) + rC) + rD) + rE))), .val (.int ((((rA + rB) + rC) + rD) + rE))] [])) tg
      refine XS.aload X158.here hx rfl (hb hby at_377) rfl rfl ?_
      exact kg
    obtain ⟨v161, T161, h161, Lc161, X161, e161, hQ161, st161⟩ := own_callV X158 hx hZ131 hown131 (hw _ (List.mem_of_getElem? (i := 106) rfl)) (hw _ (List.mem_of_getElem? (i := 107) rfl)) (notFace_of_selects (args := #[]) (mvT hZ131 (hw _ (List.mem_of_getElem? (i := 109) rfl)))) (hw _ (List.mem_of_getElem? (i := 109) rfl)) (hw _ (List.mem_of_getElem? (i := 108) rfl)) (hw _ (List.mem_of_getElem? (i := 110) rfl)) (hw _ (List.mem_of_getElem? (i := 3) rfl)) (by decide) (rm_de l Z a0 hw [] b26 hsq pgq ((((rA + rB) + rC) + rD) + rE) ((((rA + rB) + rC) + rD) + rE) ((((rA + rB) + rC) + rD) + rE) h150 n0 (by omega) fq150_3 fq150_4 fq150_5 fq150_6 fq150_7 fq150_8 fq150_9 fq150_10 fq150_11 fq150_12 (by omega)) e158' fq150_3 (g := (mkF m 379 #[.val (.int p1), .val (.int p2), .val (.int p3), .val (.int p4), .val (.int p5), .val (.ref b2), .val (.ref b8), .val (.ref b14), .val (.ref b20), .val (.ref b26), .val (.int (rA + rB)), .val (.int (own_ltI (0 : Int32) (rA + rB))), .val (.int (1 : Int32)), .val (.int (((rA + rB) + rC) + rD)), .val (.int (own_ltI (rA + rB) (((rA + rB) + rC) + rD))), .val (.int ((((rA + rB) + rC) + rD) + rE)), .val (.int md), .val (.int (own_ltI ((((rA + rB) + rC) + rD) + rE) ((((rA + rB) + rC) + rD) + rE))), .val (.int ((((rA + rB) + rC) + rD) + rE))] [(.ref b26)])) rfl (by rw [hml]; rfl) (argsL := []) (rest := []) rfl (lenOf pd_16 rfl) rfl (W := 0) (by show 2 * 0 + _ ≤ _; exact Nat.le_of_eq rfl) (hb hby at_379) (by decide) (by decide) (by decide) (by decide)
    obtain ⟨rfl, Nq161, hs161⟩ := hQ161
    have N161 := Fr.app N158 Nq161
    have e161' : T161.heap = h150 := e161.trans hs161
    have k162 : Rch p e below (s₁.setTop (entryFrame m #[(.int p1), (.int p2), (.int p3), (.int p4), (.int p5)] maxLocals)) T161 (mkF m 382 #[.val (.int p1), .val (.int p2), .val (.int p3), .val (.int p4), .val (.int p5), .val (.ref b2), .val (.ref b8), .val (.ref b14), .val (.ref b20), .val (.ref b26), .val (.int (rA + rB)), .val (.int (own_ltI (0 : Int32) (rA + rB))), .val (.int (1 : Int32)), .val (.int (((rA + rB) + rC) + rD)), .val (.int (own_ltI (rA + rB) (((rA + rB) + rC) + rD))), .val (.int ((((rA + rB) + rC) + rD) + rE)), .val (.int md), .val (.int (own_ltI ((((rA + rB) + rC) + rD) + rE) ((((rA + rB) + rC) + rD) + rE))), .val (.int ((((rA + rB) + rC) + rD) + rE))] [(.int ((((rA + rB) + rC) + rD) + rE))]) := fun tg kg => k160 tg (st161 tg kg)
    have k163 : Rch p e below (s₁.setTop (entryFrame m #[(.int p1), (.int p2), (.int p3), (.int p4), (.int p5)] maxLocals)) T161 (mkF m 396 #[.val (.int p1), .val (.int p2), .val (.int p3), .val (.int p4), .val (.int p5), .val (.ref b2), .val (.ref b8), .val (.ref b14), .val (.ref b20), .val (.ref b26), .val (.int (rA + rB)), .val (.int (own_ltI (0 : Int32) (rA + rB))), .val (.int (1 : Int32)), .val (.int (((rA + rB) + rC) + rD)), .val (.int (own_ltI (rA + rB) (((rA + rB) + rC) + rD))), .val (.int ((((rA + rB) + rC) + rD) + rE)), .val (.int md), .val (.int (own_ltI ((((rA + rB) + rC) + rD) + rE) ((((rA + rB) + rC) + rD) + rE))), .val (.int ((((rA + rB) + rC) + rD) + rE))] [(.int (1 : Int32))]) := fun tg kg => by
      refine k162 tg ?_
      show Steps p.tables e below (T161.setTop (mkF m 382 #[.val (.int p1), .val (.int p2), .val (.int p3), .val (.int p4), .val (.int p5), .val (.ref b2), .val (.ref b8), .val (.ref b14), .val (.ref b20), .val (.ref b26), .val (.int (rA + rB)), .val (.int (own_ltI (0 : Int32) (rA + rB))), .val (.int (1 : Int32)), .val (.int (((rA + rB) + rC) + rD)), .val (.int (own_ltI (rA + rB) (((rA + rB) + rC) + rD))), .val (.int ((((rA + rB) + rC) + rD) + rE)), .val (.int md), .val (.int (own_ltI ((((rA + rB) + rC) + rD) + rE) ((((rA + rB) + rC) + rD) + rE))), .val (.int ((((rA + rB) + rC) + rD) + rE))] [(.int ((((rA + rB) + rC) + rD) + rE))])) tg
      refine XS.iload X161.here hx rfl (hb hby at_382) rfl ?_
      refine XS.icmpNo X161.here hx rfl (hb hby at_384) rfl (teq rfl).2 ?_
      refine XS.iconst X161.here hx rfl (hb hby at_387) ?_
      refine XS.goto X161.here hx rfl (pc0 := 388) (pc' := 392) rfl (hb hby at_388) (by decide) (by decide) ?_
      refine XS.istore X161.here hx rfl (hb hby at_392) rfl (l' := #[.val (.int p1), .val (.int p2), .val (.int p3), .val (.int p4), .val (.int p5), .val (.ref b2), .val (.ref b8), .val (.ref b14), .val (.ref b20), .val (.ref b26), .val (.int (rA + rB)), .val (.int (own_ltI (0 : Int32) (rA + rB))), .val (.int (1 : Int32)), .val (.int (((rA + rB) + rC) + rD)), .val (.int (own_ltI (rA + rB) (((rA + rB) + rC) + rD))), .val (.int ((((rA + rB) + rC) + rD) + rE)), .val (.int md), .val (.int (own_ltI ((((rA + rB) + rC) + rD) + rE) ((((rA + rB) + rC) + rD) + rE))), .val (.int ((((rA + rB) + rC) + rD) + rE))]) rfl ?_
      show Steps p.tables e below (T161.setTop (mkF m 394 #[.val (.int p1), .val (.int p2), .val (.int p3), .val (.int p4), .val (.int p5), .val (.ref b2), .val (.ref b8), .val (.ref b14), .val (.ref b20), .val (.ref b26), .val (.int (rA + rB)), .val (.int (own_ltI (0 : Int32) (rA + rB))), .val (.int (1 : Int32)), .val (.int (((rA + rB) + rC) + rD)), .val (.int (own_ltI (rA + rB) (((rA + rB) + rC) + rD))), .val (.int ((((rA + rB) + rC) + rD) + rE)), .val (.int md), .val (.int (own_ltI ((((rA + rB) + rC) + rD) + rE) ((((rA + rB) + rC) + rD) + rE))), .val (.int ((((rA + rB) + rC) + rD) + rE))] [])) tg
      refine XS.iload X161.here hx rfl (hb hby at_394) rfl ?_
      exact kg
    obtain ⟨fs164, hr164, hrun164, hended164, hEnd164⟩ := X161.leaveW hS131 (by rw [e161']; first | exact Nat.le_refl _ | omega) (v := some (.int (nar .boolean (1 : Int32)))) (fun h => by rw [Bd.returns] at h; cases h)
    refine ⟨_, _, k163 _ ?_, hrun164, hended164, _, _, rfl, ?_, hEnd164.1, hEnd164.2.1, hEnd164.2.2.1, hEnd164.2.2.2.mono (by decide) (by decide)⟩
    · exact retN X161 hx (t := .boolean) Bd.returns (by simp) (hb hby at_396) hr164
    · show Q_rm0 Z p1 p2 p3 p4 p5 ed h0 n0 _ T161.heap _
      rw [e161']
      exact ⟨rfl, N161⟩
  · have k165 : Rch p e below (s₁.setTop (entryFrame m #[(.int p1), (.int p2), (.int p3), (.int p4), (.int p5)] maxLocals)) T131 (mkF m 301 #[.val (.int p1), .val (.int p2), .val (.int p3), .val (.int p4), .val (.int p5), .val (.ref b2), .val (.ref b8), .val (.ref b14), .val (.ref b20), .val (.ref b26), .val (.int (rA + rB)), .val (.int (own_ltI (0 : Int32) (rA + rB))), .val (.int (1 : Int32)), .val (.int (((rA + rB) + rC) + rD)), .val (.int (own_ltI (rA + rB) (((rA + rB) + rC) + rD))), .val (.int ((((rA + rB) + rC) + rD) + rE)), .val (.int md), .unset, .unset] [(.int (2 : Int32)), (.int md)]) := fun tg kg => by
      refine k144 tg ?_
      show Steps p.tables e below (T131.setTop (mkF m 287 #[.val (.int p1), .val (.int p2), .val (.int p3), .val (.int p4), .val (.int p5), .val (.ref b2), .val (.ref b8), .val (.ref b14), .val (.ref b20), .val (.ref b26), .val (.int (rA + rB)), .val (.int (own_ltI (0 : Int32) (rA + rB))), .val (.int (1 : Int32)), .val (.int (((rA + rB) + rC) + rD)), .val (.int (own_ltI (rA + rB) (((rA + rB) + rC) + rD))), .val (.int ((((rA + rB) + rC) + rD) + rE)), .val (.int md), .unset, .unset] [(.int (1 : Int32)), (.int md)])) tg
      refine XS.icmpYes X131.here hx rfl (pc0 := 287) (pc' := 298) rfl (hb hby at_287) rfl (feq hc287_145).2 (by decide) (by decide) ?_
      show Steps p.tables e below (T131.setTop (mkF m 298 #[.val (.int p1), .val (.int p2), .val (.int p3), .val (.int p4), .val (.int p5), .val (.ref b2), .val (.ref b8), .val (.ref b14), .val (.ref b20), .val (.ref b26), .val (.int (rA + rB)), .val (.int (own_ltI (0 : Int32) (rA + rB))), .val (.int (1 : Int32)), .val (.int (((rA + rB) + rC) + rD)), .val (.int (own_ltI (rA + rB) (((rA + rB) + rC) + rD))), .val (.int ((((rA + rB) + rC) + rD) + rE)), .val (.int md), .unset, .unset] [])) tg
      refine XS.iload X131.here hx rfl (hb hby at_298) rfl ?_
      refine XS.iconst X131.here hx rfl (hb hby at_300) ?_
      exact kg
    by_cases hc301_166 : md = (2 : Int32)
    · have k167 : Rch p e below (s₁.setTop (entryFrame m #[(.int p1), (.int p2), (.int p3), (.int p4), (.int p5)] maxLocals)) T131 (mkF m 306 #[.val (.int p1), .val (.int p2), .val (.int p3), .val (.int p4), .val (.int p5), .val (.ref b2), .val (.ref b8), .val (.ref b14), .val (.ref b20), .val (.ref b26), .val (.int (rA + rB)), .val (.int (own_ltI (0 : Int32) (rA + rB))), .val (.int (1 : Int32)), .val (.int (((rA + rB) + rC) + rD)), .val (.int (own_ltI (rA + rB) (((rA + rB) + rC) + rD))), .val (.int ((((rA + rB) + rC) + rD) + rE)), .val (.int md), .unset, .unset] [(.ref b26)]) := fun tg kg => by
        refine k165 tg ?_
        show Steps p.tables e below (T131.setTop (mkF m 301 #[.val (.int p1), .val (.int p2), .val (.int p3), .val (.int p4), .val (.int p5), .val (.ref b2), .val (.ref b8), .val (.ref b14), .val (.ref b20), .val (.ref b26), .val (.int (rA + rB)), .val (.int (own_ltI (0 : Int32) (rA + rB))), .val (.int (1 : Int32)), .val (.int (((rA + rB) + rC) + rD)), .val (.int (own_ltI (rA + rB) (((rA + rB) + rC) + rD))), .val (.int ((((rA + rB) + rC) + rD) + rE)), .val (.int md), .unset, .unset] [(.int (2 : Int32)), (.int md)])) tg
        refine XS.icmpNo X131.here hx rfl (hb hby at_301) rfl (teq hc301_166).2 ?_
        refine XS.aload X131.here hx rfl (hb hby at_304) rfl rfl ?_
        exact kg
      obtain ⟨v168, T168, h168, Lc168, X168, e168, hQ168, st168⟩ := own_callV X131 hx hZ131 hown131 (hw _ (List.mem_of_getElem? (i := 197) rfl)) (hw _ (List.mem_of_getElem? (i := 198) rfl)) (notFace_of_selects (args := #[]) (mvT hZ131 (hw _ (List.mem_of_getElem? (i := 200) rfl)))) (hw _ (List.mem_of_getElem? (i := 200) rfl)) (hw _ (List.mem_of_getElem? (i := 199) rfl)) (hw _ (List.mem_of_getElem? (i := 201) rfl)) (hw _ (List.mem_of_getElem? (i := 3) rfl)) (by decide) (rm_begin l Z a0 hw [] b26 hsq pgq ((((rA + rB) + rC) + rD) + rE) (rA + rB) (((rA + rB) + rC) + rD) h131 n0 (by omega) fq131_3 fq131_4 fq131_5 fq131_6 fq131_7 fq131_8 fq131_9 fq131_10 fq131_11 fq131_12 (by omega)) e131 fq131_3 (g := (mkF m 306 #[.val (.int p1), .val (.int p2), .val (.int p3), .val (.int p4), .val (.int p5), .val (.ref b2), .val (.ref b8), .val (.ref b14), .val (.ref b20), .val (.ref b26), .val (.int (rA + rB)), .val (.int (own_ltI (0 : Int32) (rA + rB))), .val (.int (1 : Int32)), .val (.int (((rA + rB) + rC) + rD)), .val (.int (own_ltI (rA + rB) (((rA + rB) + rC) + rD))), .val (.int ((((rA + rB) + rC) + rD) + rE)), .val (.int md), .unset, .unset] [(.ref b26)])) rfl (by rw [hml]; rfl) (argsL := []) (rest := []) rfl (lenOf pd_0 rfl) rfl (W := 0) (by show 2 * 0 + _ ≤ _; exact Nat.le_of_eq rfl) (hb hby at_306) (by decide) (by decide) (by decide) (by decide)
      obtain ⟨rfl, Nq168, K168, fq168_3, fq168_4, fq168_5, fq168_6, fq168_7, fq168_8, fq168_9, fq168_10, fq168_11, fq168_12⟩ := hQ168
      have N168 := Fr.app N131 Nq168
      have s168 : h131.size ≤ h168.size := K168.1
      have k169 : Rch p e below (s₁.setTop (entryFrame m #[(.int p1), (.int p2), (.int p3), (.int p4), (.int p5)] maxLocals)) T168 (mkF m 309 #[.val (.int p1), .val (.int p2), .val (.int p3), .val (.int p4), .val (.int p5), .val (.ref b2), .val (.ref b8), .val (.ref b14), .val (.ref b20), .val (.ref b26), .val (.int (rA + rB)), .val (.int (own_ltI (0 : Int32) (rA + rB))), .val (.int (1 : Int32)), .val (.int (((rA + rB) + rC) + rD)), .val (.int (own_ltI (rA + rB) (((rA + rB) + rC) + rD))), .val (.int ((((rA + rB) + rC) + rD) + rE)), .val (.int md), .unset, .unset] []) := fun tg kg => k167 tg (st168 tg kg)
      have lt_fq168_3 := own_ltN fq168_3.lt
      have lt_fq168_4 := own_ltN fq168_4.lt
      have lt_fq168_5 := own_ltN fq168_5.lt
      have lt_fq168_6 := own_ltN fq168_6.lt
      have lt_fq168_7 := own_ltN fq168_7.lt
      have lt_fq168_8 := own_ltN fq168_8.lt
      have lt_fq168_9 := own_ltN fq168_9.lt
      have lt_fq168_10 := own_ltN fq168_10.lt
      have lt_fq168_11 := own_ltN fq168_11.lt
      have lt_fq168_12 := own_ltN fq168_12.lt
      have k170 : Rch p e below (s₁.setTop (entryFrame m #[(.int p1), (.int p2), (.int p3), (.int p4), (.int p5)] maxLocals)) T168 (mkF m 311 #[.val (.int p1), .val (.int p2), .val (.int p3), .val (.int p4), .val (.int p5), .val (.ref b2), .val (.ref b8), .val (.ref b14), .val (.ref b20), .val (.ref b26), .val (.int (rA + rB)), .val (.int (own_ltI (0 : Int32) (rA + rB))), .val (.int (1 : Int32)), .val (.int (((rA + rB) + rC) + rD)), .val (.int (own_ltI (rA + rB) (((rA + rB) + rC) + rD))), .val (.int ((((rA + rB) + rC) + rD) + rE)), .val (.int md), .unset, .unset] [(.ref b26)]) := fun tg kg => by
        refine k169 tg ?_
        show Steps p.tables e below (T168.setTop (mkF m 309 #[.val (.int p1), .val (.int p2), .val (.int p3), .val (.int p4), .val (.int p5), .val (.ref b2), .val (.ref b8), .val (.ref b14), .val (.ref b20), .val (.ref b26), .val (.int (rA + rB)), .val (.int (own_ltI (0 : Int32) (rA + rB))), .val (.int (1 : Int32)), .val (.int (((rA + rB) + rC) + rD)), .val (.int (own_ltI (rA + rB) (((rA + rB) + rC) + rD))), .val (.int ((((rA + rB) + rC) + rD) + rE)), .val (.int md), .unset, .unset] [])) tg
        refine XS.aload X168.here hx rfl (hb hby at_309) rfl rfl ?_
        exact kg
      obtain ⟨v171, T171, h171, Lc171, X171, e171, hQ171, st171⟩ := own_callV X168 hx hZ131 hown131 (hw _ (List.mem_of_getElem? (i := 90) rfl)) (hw _ (List.mem_of_getElem? (i := 91) rfl)) (notFace_of_selects (args := #[]) (mvT hZ131 (hw _ (List.mem_of_getElem? (i := 93) rfl)))) (hw _ (List.mem_of_getElem? (i := 93) rfl)) (hw _ (List.mem_of_getElem? (i := 92) rfl)) (hw _ (List.mem_of_getElem? (i := 94) rfl)) (hw _ (List.mem_of_getElem? (i := 3) rfl)) (by decide) (rm_next2 l Z a0 hw [] b26 hsq pgq ((((rA + rB) + rC) + rD) + rE) (0 : Int32) (0 : Int32) h168 n0 (by omega) fq168_3 fq168_4 fq168_5 fq168_6 fq168_7 fq168_8 fq168_9 fq168_10 fq168_11 fq168_12 (by omega)) e168 fq168_3 (g := (mkF m 311 #[.val (.int p1), .val (.int p2), .val (.int p3), .val (.int p4), .val (.int p5), .val (.ref b2), .val (.ref b8), .val (.ref b14), .val (.ref b20), .val (.ref b26), .val (.int (rA + rB)), .val (.int (own_ltI (0 : Int32) (rA + rB))), .val (.int (1 : Int32)), .val (.int (((rA + rB) + rC) + rD)), .val (.int (own_ltI (rA + rB) (((rA + rB) + rC) + rD))), .val (.int ((((rA + rB) + rC) + rD) + rE)), .val (.int md), .unset, .unset] [(.ref b26)])) rfl (by rw [hml]; rfl) (argsL := []) (rest := []) rfl (lenOf pd_15 rfl) rfl (W := 0) (by show 2 * 0 + _ ≤ _; exact Nat.le_of_eq rfl) (hb hby at_311) (by decide) (by decide) (by decide) (by decide)
      obtain ⟨rfl, Nq171, K171, fq171_3, fq171_4, fq171_5, fq171_6, fq171_7, fq171_8, fq171_9, fq171_10, fq171_11, fq171_12⟩ := hQ171
      have N171 := Fr.app N168 Nq171
      have s171 : h168.size ≤ h171.size := K171.1
      have k172 : Rch p e below (s₁.setTop (entryFrame m #[(.int p1), (.int p2), (.int p3), (.int p4), (.int p5)] maxLocals)) T171 (mkF m 314 #[.val (.int p1), .val (.int p2), .val (.int p3), .val (.int p4), .val (.int p5), .val (.ref b2), .val (.ref b8), .val (.ref b14), .val (.ref b20), .val (.ref b26), .val (.int (rA + rB)), .val (.int (own_ltI (0 : Int32) (rA + rB))), .val (.int (1 : Int32)), .val (.int (((rA + rB) + rC) + rD)), .val (.int (own_ltI (rA + rB) (((rA + rB) + rC) + rD))), .val (.int ((((rA + rB) + rC) + rD) + rE)), .val (.int md), .unset, .unset] [(.int (own_ltI (0 : Int32) ((((rA + rB) + rC) + rD) + rE)))]) := fun tg kg => k170 tg (st171 tg kg)
      have lt_fq171_3 := own_ltN fq171_3.lt
      have lt_fq171_4 := own_ltN fq171_4.lt
      have lt_fq171_5 := own_ltN fq171_5.lt
      have lt_fq171_6 := own_ltN fq171_6.lt
      have lt_fq171_7 := own_ltN fq171_7.lt
      have lt_fq171_8 := own_ltN fq171_8.lt
      have lt_fq171_9 := own_ltN fq171_9.lt
      have lt_fq171_10 := own_ltN fq171_10.lt
      have lt_fq171_11 := own_ltN fq171_11.lt
      have lt_fq171_12 := own_ltN fq171_12.lt
      have k173 : Rch p e below (s₁.setTop (entryFrame m #[(.int p1), (.int p2), (.int p3), (.int p4), (.int p5)] maxLocals)) T171 (mkF m 356 #[.val (.int p1), .val (.int p2), .val (.int p3), .val (.int p4), .val (.int p5), .val (.ref b2), .val (.ref b8), .val (.ref b14), .val (.ref b20), .val (.ref b26), .val (.int (rA + rB)), .val (.int (own_ltI (0 : Int32) (rA + rB))), .val (.int (1 : Int32)), .val (.int (((rA + rB) + rC) + rD)), .val (.int (own_ltI (rA + rB) (((rA + rB) + rC) + rD))), .val (.int ((((rA + rB) + rC) + rD) + rE)), .val (.int md), .val (.int (own_ltI (0 : Int32) ((((rA + rB) + rC) + rD) + rE))), .val (.int (0 : Int32))] [(.int ((((rA + rB) + rC) + rD) + rE)), (.int (0 : Int32)), (.int (own_ltI (0 : Int32) ((((rA + rB) + rC) + rD) + rE)))]) := fun tg kg => by
        refine k172 tg ?_
        show Steps p.tables e below (T171.setTop (mkF m 314 #[.val (.int p1), .val (.int p2), .val (.int p3), .val (.int p4), .val (.int p5), .val (.ref b2), .val (.ref b8), .val (.ref b14), .val (.ref b20), .val (.ref b26), .val (.int (rA + rB)), .val (.int (own_ltI (0 : Int32) (rA + rB))), .val (.int (1 : Int32)), .val (.int (((rA + rB) + rC) + rD)), .val (.int (own_ltI (rA + rB) (((rA + rB) + rC) + rD))), .val (.int ((((rA + rB) + rC) + rD) + rE)), .val (.int md), .unset, .unset] [(.int (own_ltI (0 : Int32) ((((rA + rB) + rC) + rD) + rE)))])) tg
        refine XS.istore X171.here hx rfl (hb hby at_314) rfl (l' := #[.val (.int p1), .val (.int p2), .val (.int p3), .val (.int p4), .val (.int p5), .val (.ref b2), .val (.ref b8), .val (.ref b14), .val (.ref b20), .val (.ref b26), .val (.int (rA + rB)), .val (.int (own_ltI (0 : Int32) (rA + rB))), .val (.int (1 : Int32)), .val (.int (((rA + rB) + rC) + rD)), .val (.int (own_ltI (rA + rB) (((rA + rB) + rC) + rD))), .val (.int ((((rA + rB) + rC) + rD) + rE)), .val (.int md), .val (.int (own_ltI (0 : Int32) ((((rA + rB) + rC) + rD) + rE))), .unset]) rfl ?_
        show Steps p.tables e below (T171.setTop (mkF m 316 #[.val (.int p1), .val (.int p2), .val (.int p3), .val (.int p4), .val (.int p5), .val (.ref b2), .val (.ref b8), .val (.ref b14), .val (.ref b20), .val (.ref b26), .val (.int (rA + rB)), .val (.int (own_ltI (0 : Int32) (rA + rB))), .val (.int (1 : Int32)), .val (.int (((rA + rB) + rC) + rD)), .val (.int (own_ltI (rA + rB) (((rA + rB) + rC) + rD))), .val (.int ((((rA + rB) + rC) + rD) + rE)), .val (.int md), .val (.int (own_ltI (0 : Int32) ((((rA + rB) + rC) + rD) + rE))), .unset] [])) tg
        refine XS.iload X171.here hx rfl (hb hby at_316) rfl ?_
        refine XS.iconst X171.here hx rfl (hb hby at_318) ?_
        refine XS.icmpYes X171.here hx rfl (pc0 := 319) (pc' := 329) rfl (hb hby at_319) rfl (feq hc287_145).2 (by decide) (by decide) ?_
        refine XS.iload X171.here hx rfl (hb hby at_329) rfl ?_
        refine XS.iconst X171.here hx rfl (hb hby at_331) ?_
        refine XS.icmpNo X171.here hx rfl (hb hby at_332) rfl (teq hc301_166).2 ?_
        show Steps p.tables e below (T171.setTop (mkF m 335 #[.val (.int p1), .val (.int p2), .val (.int p3), .val (.int p4), .val (.int p5), .val (.ref b2), .val (.ref b8), .val (.ref b14), .val (.ref b20), .val (.ref b26), .val (.int (rA + rB)), .val (.int (own_ltI (0 : Int32) (rA + rB))), .val (.int (1 : Int32)), .val (.int (((rA + rB) + rC) + rD)), .val (.int (own_ltI (rA + rB) (((rA + rB) + rC) + rD))), .val (.int ((((rA + rB) + rC) + rD) + rE)), .val (.int md), .val (.int (own_ltI (0 : Int32) ((((rA + rB) + rC) + rD) + rE))), .unset] [])) tg
        refine XS.iconst X171.here hx rfl (hb hby at_335) ?_
        refine XS.istore X171.here hx rfl (hb hby at_336) rfl (l' := #[.val (.int p1), .val (.int p2), .val (.int p3), .val (.int p4), .val (.int p5), .val (.ref b2), .val (.ref b8), .val (.ref b14), .val (.ref b20), .val (.ref b26), .val (.int (rA + rB)), .val (.int (own_ltI (0 : Int32) (rA + rB))), .val (.int (1 : Int32)), .val (.int (((rA + rB) + rC) + rD)), .val (.int (own_ltI (rA + rB) (((rA + rB) + rC) + rD))), .val (.int ((((rA + rB) + rC) + rD) + rE)), .val (.int md), .val (.int (own_ltI (0 : Int32) ((((rA + rB) + rC) + rD) + rE))), .val (.int (0 : Int32))]) rfl ?_
        refine XS.goto X171.here hx rfl (pc0 := 338) (pc' := 345) rfl (hb hby at_338) (by decide) (by decide) ?_
        refine XS.iload X171.here hx rfl (hb hby at_345) rfl ?_
        refine XS.ifNo X171.here hx rfl (hb hby at_347) rfl ((if0 _ _).trans (feq (by decide)).1) ?_
        refine XS.iload X171.here hx rfl (hb hby at_350) rfl ?_
        show Steps p.tables e below (T171.setTop (mkF m 352 #[.val (.int p1), .val (.int p2), .val (.int p3), .val (.int p4), .val (.int p5), .val (.ref b2), .val (.ref b8), .val (.ref b14), .val (.ref b20), .val (.ref b26), .val (.int (rA + rB)), .val (.int (own_ltI (0 : Int32) (rA + rB))), .val (.int (1 : Int32)), .val (.int (((rA + rB) + rC) + rD)), .val (.int (own_ltI (rA + rB) (((rA + rB) + rC) + rD))), .val (.int ((((rA + rB) + rC) + rD) + rE)), .val (.int md), .val (.int (own_ltI (0 : Int32) ((((rA + rB) + rC) + rD) + rE))), .val (.int (0 : Int32))] [(.int (own_ltI (0 : Int32) ((((rA + rB) + rC) + rD) + rE)))])) tg
        refine XS.iload X171.here hx rfl (hb hby at_352) rfl ?_
        refine XS.iload X171.here hx rfl (hb hby at_354) rfl ?_
        exact kg
      have k174 : Rch p e below (s₁.setTop (entryFrame m #[(.int p1), (.int p2), (.int p3), (.int p4), (.int p5)] maxLocals)) T171 (mkF m 367 #[.val (.int p1), .val (.int p2), .val (.int p3), .val (.int p4), .val (.int p5), .val (.ref b2), .val (.ref b8), .val (.ref b14), .val (.ref b20), .val (.ref b26), .val (.int (rA + rB)), .val (.int (own_ltI (0 : Int32) (rA + rB))), .val (.int (1 : Int32)), .val (.int (((rA + rB) + rC) + rD)), .val (.int (own_ltI (rA + rB) (((rA + rB) + rC) + rD))), .val (.int ((((rA + rB) + rC) + rD) + rE)), .val (.int md), .val (.int (own_ltI (0 : Int32) ((((rA + rB) + rC) + rD) + rE))), .val (.int (0 : Int32))] []) := by
        by_cases hc356_175 : (0 : Int32) < ((((rA + rB) + rC) + rD) + rE)
        · have k176 : Rch p e below (s₁.setTop (entryFrame m #[(.int p1), (.int p2), (.int p3), (.int p4), (.int p5)] maxLocals)) T171 (mkF m 367 #[.val (.int p1), .val (.int p2), .val (.int p3), .val (.int p4), .val (.int p5), .val (.ref b2), .val (.ref b8), .val (.ref b14), .val (.ref b20), .val (.ref b26), .val (.int (rA + rB)), .val (.int (own_ltI (0 : Int32) (rA + rB))), .val (.int (1 : Int32)), .val (.int (((rA + rB) + rC) + rD)), .val (.int (own_ltI (rA + rB) (((rA + rB) + rC) + rD))), .val (.int ((((rA + rB) + rC) + rD) + rE)), .val (.int md), .val (.int (own_ltI (0 : Int32) ((((rA + rB) + rC) + rD) + rE))), .val (.int (0 : Int32))] []) := fun tg kg => by
            refine k173 tg ?_
            show Steps p.tables e below (T171.setTop (mkF m 356 #[.val (.int p1), .val (.int p2), .val (.int p3), .val (.int p4), .val (.int p5), .val (.ref b2), .val (.ref b8), .val (.ref b14), .val (.ref b20), .val (.ref b26), .val (.int (rA + rB)), .val (.int (own_ltI (0 : Int32) (rA + rB))), .val (.int (1 : Int32)), .val (.int (((rA + rB) + rC) + rD)), .val (.int (own_ltI (rA + rB) (((rA + rB) + rC) + rD))), .val (.int ((((rA + rB) + rC) + rD) + rE)), .val (.int md), .val (.int (own_ltI (0 : Int32) ((((rA + rB) + rC) + rD) + rE))), .val (.int (0 : Int32))] [(.int ((((rA + rB) + rC) + rD) + rE)), (.int (0 : Int32)), (.int (own_ltI (0 : Int32) ((((rA + rB) + rC) + rD) + rE)))])) tg
            refine XS.icmpNo X171.here hx rfl (hb hby at_356) rfl (tlt hc356_175).2.1 ?_
            refine XS.iconst X171.here hx rfl (hb hby at_359) ?_
            refine XS.goto X171.here hx rfl (pc0 := 360) (pc' := 364) rfl (hb hby at_360) (by decide) (by decide) ?_
            refine XS.icmpNo X171.here hx rfl (hb hby at_364) rfl (teq (if_pos hc356_175)).2 ?_
            exact kg
          exact k176
        · have k177 : Rch p e below (s₁.setTop (entryFrame m #[(.int p1), (.int p2), (.int p3), (.int p4), (.int p5)] maxLocals)) T171 (mkF m 367 #[.val (.int p1), .val (.int p2), .val (.int p3), .val (.int p4), .val (.int p5), .val (.ref b2), .val (.ref b8), .val (.ref b14), .val (.ref b20), .val (.ref b26), .val (.int (rA + rB)), .val (.int (own_ltI (0 : Int32) (rA + rB))), .val (.int (1 : Int32)), .val (.int (((rA + rB) + rC) + rD)), .val (.int (own_ltI (rA + rB) (((rA + rB) + rC) + rD))), .val (.int ((((rA + rB) + rC) + rD) + rE)), .val (.int md), .val (.int (own_ltI (0 : Int32) ((((rA + rB) + rC) + rD) + rE))), .val (.int (0 : Int32))] []) := fun tg kg => by
            refine k173 tg ?_
            show Steps p.tables e below (T171.setTop (mkF m 356 #[.val (.int p1), .val (.int p2), .val (.int p3), .val (.int p4), .val (.int p5), .val (.ref b2), .val (.ref b8), .val (.ref b14), .val (.ref b20), .val (.ref b26), .val (.int (rA + rB)), .val (.int (own_ltI (0 : Int32) (rA + rB))), .val (.int (1 : Int32)), .val (.int (((rA + rB) + rC) + rD)), .val (.int (own_ltI (rA + rB) (((rA + rB) + rC) + rD))), .val (.int ((((rA + rB) + rC) + rD) + rE)), .val (.int md), .val (.int (own_ltI (0 : Int32) ((((rA + rB) + rC) + rD) + rE))), .val (.int (0 : Int32))] [(.int ((((rA + rB) + rC) + rD) + rE)), (.int (0 : Int32)), (.int (own_ltI (0 : Int32) ((((rA + rB) + rC) + rD) + rE)))])) tg
            refine XS.icmpYes X171.here hx rfl (pc0 := 356) (pc' := 363) rfl (hb hby at_356) rfl (flt hc356_175).2.1 (by decide) (by decide) ?_
            refine XS.iconst X171.here hx rfl (hb hby at_363) ?_
            refine XS.icmpNo X171.here hx rfl (hb hby at_364) rfl (teq (if_neg hc356_175)).2 ?_
            exact kg
          exact k177
      have k178 : Rch p e below (s₁.setTop (entryFrame m #[(.int p1), (.int p2), (.int p3), (.int p4), (.int p5)] maxLocals)) T171 (mkF m 369 #[.val (.int p1), .val (.int p2), .val (.int p3), .val (.int p4), .val (.int p5), .val (.ref b2), .val (.ref b8), .val (.ref b14), .val (.ref b20), .val (.ref b26), .val (.int (rA + rB)), .val (.int (own_ltI (0 : Int32) (rA + rB))), .val (.int (1 : Int32)), .val (.int (((rA + rB) + rC) + rD)), .val (.int (own_ltI (rA + rB) (((rA + rB) + rC) + rD))), .val (.int ((((rA + rB) + rC) + rD) + rE)), .val (.int md), .val (.int (own_ltI (0 : Int32) ((((rA + rB) + rC) + rD) + rE))), .val (.int (0 : Int32))] [(.ref b26)]) := fun tg kg => by
        refine k174 tg ?_
        show Steps p.tables e below (T171.setTop (mkF m 367 #[.val (.int p1), .val (.int p2), .val (.int p3), .val (.int p4), .val (.int p5), .val (.ref b2), .val (.ref b8), .val (.ref b14), .val (.ref b20), .val (.ref b26), .val (.int (rA + rB)), .val (.int (own_ltI (0 : Int32) (rA + rB))), .val (.int (1 : Int32)), .val (.int (((rA + rB) + rC) + rD)), .val (.int (own_ltI (rA + rB) (((rA + rB) + rC) + rD))), .val (.int ((((rA + rB) + rC) + rD) + rE)), .val (.int md), .val (.int (own_ltI (0 : Int32) ((((rA + rB) + rC) + rD) + rE))), .val (.int (0 : Int32))] [])) tg
        refine XS.aload X171.here hx rfl (hb hby at_367) rfl rfl ?_
        exact kg
      obtain ⟨v179, T179, h179, Lc179, X179, e179, hQ179, st179⟩ := own_callV X171 hx hZ131 hown131 (hw _ (List.mem_of_getElem? (i := 101) rfl)) (hw _ (List.mem_of_getElem? (i := 102) rfl)) (notFace_of_selects (args := #[]) (mvT hZ131 (hw _ (List.mem_of_getElem? (i := 104) rfl)))) (hw _ (List.mem_of_getElem? (i := 104) rfl)) (hw _ (List.mem_of_getElem? (i := 103) rfl)) (hw _ (List.mem_of_getElem? (i := 105) rfl)) (hw _ (List.mem_of_getElem? (i := 3) rfl)) (by decide) (rm_ds l Z a0 hw [] b26 hsq pgq ((((rA + rB) + rC) + rD) + rE) (0 : Int32) ((((rA + rB) + rC) + rD) + rE) h171 n0 (by omega) fq171_3 fq171_4 fq171_5 fq171_6 fq171_7 fq171_8 fq171_9 fq171_10 fq171_11 fq171_12 (by omega)) e171 fq171_3 (g := (mkF m 369 #[.val (.int p1), .val (.int p2), .val (.int p3), .val (.int p4), .val (.int p5), .val (.ref b2), .val (.ref b8), .val (.ref b14), .val (.ref b20), .val (.ref b26), .val (.int (rA + rB)), .val (.int (own_ltI (0 : Int32) (rA + rB))), .val (.int (1 : Int32)), .val (.int (((rA + rB) + rC) + rD)), .val (.int (own_ltI (rA + rB) (((rA + rB) + rC) + rD))), .val (.int ((((rA + rB) + rC) + rD) + rE)), .val (.int md), .val (.int (own_ltI (0 : Int32) ((((rA + rB) + rC) + rD) + rE))), .val (.int (0 : Int32))] [(.ref b26)])) rfl (by rw [hml]; rfl) (argsL := []) (rest := []) rfl (lenOf pd_16 rfl) rfl (W := 0) (by show 2 * 0 + _ ≤ _; exact Nat.le_of_eq rfl) (hb hby at_369) (by decide) (by decide) (by decide) (by decide)
      obtain ⟨rfl, Nq179, hs179⟩ := hQ179
      have N179 := Fr.app N171 Nq179
      have e179' : T179.heap = h171 := e179.trans hs179
      have k180 : Rch p e below (s₁.setTop (entryFrame m #[(.int p1), (.int p2), (.int p3), (.int p4), (.int p5)] maxLocals)) T179 (mkF m 372 #[.val (.int p1), .val (.int p2), .val (.int p3), .val (.int p4), .val (.int p5), .val (.ref b2), .val (.ref b8), .val (.ref b14), .val (.ref b20), .val (.ref b26), .val (.int (rA + rB)), .val (.int (own_ltI (0 : Int32) (rA + rB))), .val (.int (1 : Int32)), .val (.int (((rA + rB) + rC) + rD)), .val (.int (own_ltI (rA + rB) (((rA + rB) + rC) + rD))), .val (.int ((((rA + rB) + rC) + rD) + rE)), .val (.int md), .val (.int (own_ltI (0 : Int32) ((((rA + rB) + rC) + rD) + rE))), .val (.int (0 : Int32))] [(.int (0 : Int32))]) := fun tg kg => k178 tg (st179 tg kg)
      have k181 : Rch p e below (s₁.setTop (entryFrame m #[(.int p1), (.int p2), (.int p3), (.int p4), (.int p5)] maxLocals)) T179 (mkF m 379 #[.val (.int p1), .val (.int p2), .val (.int p3), .val (.int p4), .val (.int p5), .val (.ref b2), .val (.ref b8), .val (.ref b14), .val (.ref b20), .val (.ref b26), .val (.int (rA + rB)), .val (.int (own_ltI (0 : Int32) (rA + rB))), .val (.int (1 : Int32)), .val (.int (((rA + rB) + rC) + rD)), .val (.int (own_ltI (rA + rB) (((rA + rB) + rC) + rD))), .val (.int ((((rA + rB) + rC) + rD) + rE)), .val (.int md), .val (.int (own_ltI (0 : Int32) ((((rA + rB) + rC) + rD) + rE))), .val (.int (0 : Int32))] [(.ref b26)]) := fun tg kg => by
        refine k180 tg ?_
        show Steps p.tables e below (T179.setTop (mkF m 372 #[.val (.int p1), .val (.int p2), .val (.int p3), .val (.int p4), .val (.int p5), .val (.ref b2), .val (.ref b8), .val (.ref b14), .val (.ref b20), .val (.ref b26), .val (.int (rA + rB)), .val (.int (own_ltI (0 : Int32) (rA + rB))), .val (.int (1 : Int32)), .val (.int (((rA + rB) + rC) + rD)), .val (.int (own_ltI (rA + rB) (((rA + rB) + rC) + rD))), .val (.int ((((rA + rB) + rC) + rD) + rE)), .val (.int md), .val (.int (own_ltI (0 : Int32) ((((rA + rB) + rC) + rD) + rE))), .val (.int (0 : Int32))] [(.int (0 : Int32))])) tg
        refine XS.iload X179.here hx rfl (hb hby at_372) rfl ?_
        refine XS.icmpNo X179.here hx rfl (hb hby at_374) rfl (teq rfl).2 ?_
        refine XS.aload X179.here hx rfl (hb hby at_377) rfl rfl ?_
        exact kg
      obtain ⟨v182, T182, h182, Lc182, X182, e182, hQ182, st182⟩ := own_callV X179 hx hZ131 hown131 (hw _ (List.mem_of_getElem? (i := 106) rfl)) (hw _ (List.mem_of_getElem? (i := 107) rfl)) (notFace_of_selects (args := #[]) (mvT hZ131 (hw _ (List.mem_of_getElem? (i := 109) rfl)))) (hw _ (List.mem_of_getElem? (i := 109) rfl)) (hw _ (List.mem_of_getElem? (i := 108) rfl)) (hw _ (List.mem_of_getElem? (i := 110) rfl)) (hw _ (List.mem_of_getElem? (i := 3) rfl)) (by decide) (rm_de l Z a0 hw [] b26 hsq pgq ((((rA + rB) + rC) + rD) + rE) (0 : Int32) ((((rA + rB) + rC) + rD) + rE) h171 n0 (by omega) fq171_3 fq171_4 fq171_5 fq171_6 fq171_7 fq171_8 fq171_9 fq171_10 fq171_11 fq171_12 (by omega)) e179' fq171_3 (g := (mkF m 379 #[.val (.int p1), .val (.int p2), .val (.int p3), .val (.int p4), .val (.int p5), .val (.ref b2), .val (.ref b8), .val (.ref b14), .val (.ref b20), .val (.ref b26), .val (.int (rA + rB)), .val (.int (own_ltI (0 : Int32) (rA + rB))), .val (.int (1 : Int32)), .val (.int (((rA + rB) + rC) + rD)), .val (.int (own_ltI (rA + rB) (((rA + rB) + rC) + rD))), .val (.int ((((rA + rB) + rC) + rD) + rE)), .val (.int md), .val (.int (own_ltI (0 : Int32) ((((rA + rB) + rC) + rD) + rE))), .val (.int (0 : Int32))] [(.ref b26)])) rfl (by rw [hml]; rfl) (argsL := []) (rest := []) rfl (lenOf pd_16 rfl) rfl (W := 0) (by show 2 * 0 + _ ≤ _; exact Nat.le_of_eq rfl) (hb hby at_379) (by decide) (by decide) (by decide) (by decide)
      obtain ⟨rfl, Nq182, hs182⟩ := hQ182
      have N182 := Fr.app N179 Nq182
      have e182' : T182.heap = h171 := e182.trans hs182
      have k183 : Rch p e below (s₁.setTop (entryFrame m #[(.int p1), (.int p2), (.int p3), (.int p4), (.int p5)] maxLocals)) T182 (mkF m 382 #[.val (.int p1), .val (.int p2), .val (.int p3), .val (.int p4), .val (.int p5), .val (.ref b2), .val (.ref b8), .val (.ref b14), .val (.ref b20), .val (.ref b26), .val (.int (rA + rB)), .val (.int (own_ltI (0 : Int32) (rA + rB))), .val (.int (1 : Int32)), .val (.int (((rA + rB) + rC) + rD)), .val (.int (own_ltI (rA + rB) (((rA + rB) + rC) + rD))), .val (.int ((((rA + rB) + rC) + rD) + rE)), .val (.int md), .val (.int (own_ltI (0 : Int32) ((((rA + rB) + rC) + rD) + rE))), .val (.int (0 : Int32))] [(.int ((((rA + rB) + rC) + rD) + rE))]) := fun tg kg => k181 tg (st182 tg kg)
      have k184 : Rch p e below (s₁.setTop (entryFrame m #[(.int p1), (.int p2), (.int p3), (.int p4), (.int p5)] maxLocals)) T182 (mkF m 396 #[.val (.int p1), .val (.int p2), .val (.int p3), .val (.int p4), .val (.int p5), .val (.ref b2), .val (.ref b8), .val (.ref b14), .val (.ref b20), .val (.ref b26), .val (.int (rA + rB)), .val (.int (own_ltI (0 : Int32) (rA + rB))), .val (.int (1 : Int32)), .val (.int (((rA + rB) + rC) + rD)), .val (.int (own_ltI (rA + rB) (((rA + rB) + rC) + rD))), .val (.int ((((rA + rB) + rC) + rD) + rE)), .val (.int md), .val (.int (own_ltI (0 : Int32) ((((rA + rB) + rC) + rD) + rE))), .val (.int (0 : Int32))] [(.int (1 : Int32))]) := fun tg kg => by
        refine k183 tg ?_
        show Steps p.tables e below (T182.setTop (mkF m 382 #[.val (.int p1), .val (.int p2), .val (.int p3), .val (.int p4), .val (.int p5), .val (.ref b2), .val (.ref b8), .val (.ref b14), .val (.ref b20), .val (.ref b26), .val (.int (rA + rB)), .val (.int (own_ltI (0 : Int32) (rA + rB))), .val (.int (1 : Int32)), .val (.int (((rA + rB) + rC) + rD)), .val (.int (own_ltI (rA + rB) (((rA + rB) + rC) + rD))), .val (.int ((((rA + rB) + rC) + rD) + rE)), .val (.int md), .val (.int (own_ltI (0 : Int32) ((((rA + rB) + rC) + rD) + rE))), .val (.int (0 : Int32))] [(.int ((((rA + rB) + rC) + rD) + rE))])) tg
        refine XS.iload X182.here hx rfl (hb hby at_382) rfl ?_
        refine XS.icmpNo X182.here hx rfl (hb hby at_384) rfl (teq rfl).2 ?_
        refine XS.iconst X182.here hx rfl (hb hby at_387) ?_
        refine XS.goto X182.here hx rfl (pc0 := 388) (pc' := 392) rfl (hb hby at_388) (by decide) (by decide) ?_
        refine XS.istore X182.here hx rfl (hb hby at_392) rfl (l' := #[.val (.int p1), .val (.int p2), .val (.int p3), .val (.int p4), .val (.int p5), .val (.ref b2), .val (.ref b8), .val (.ref b14), .val (.ref b20), .val (.ref b26), .val (.int (rA + rB)), .val (.int (own_ltI (0 : Int32) (rA + rB))), .val (.int (1 : Int32)), .val (.int (((rA + rB) + rC) + rD)), .val (.int (own_ltI (rA + rB) (((rA + rB) + rC) + rD))), .val (.int ((((rA + rB) + rC) + rD) + rE)), .val (.int md), .val (.int (own_ltI (0 : Int32) ((((rA + rB) + rC) + rD) + rE))), .val (.int (0 : Int32))]) rfl ?_
        refine XS.iload X182.here hx rfl (hb hby at_394) rfl ?_
        exact kg
      obtain ⟨fs185, hr185, hrun185, hended185, hEnd185⟩ := X182.leaveW hS131 (by rw [e182']; first | exact Nat.le_refl _ | omega) (v := some (.int (nar .boolean (1 : Int32)))) (fun h => by rw [Bd.returns] at h; cases h)
      refine ⟨_, _, k184 _ ?_, hrun185, hended185, _, _, rfl, ?_, hEnd185.1, hEnd185.2.1, hEnd185.2.2.1, hEnd185.2.2.2.mono (by decide) (by decide)⟩
      · exact retN X182 hx (t := .boolean) Bd.returns (by simp) (hb hby at_396) hr185
      · show Q_rm0 Z p1 p2 p3 p4 p5 ed h0 n0 _ T182.heap _
        rw [e182']
        exact ⟨rfl, N182⟩
    · have k186 : Rch p e below (s₁.setTop (entryFrame m #[(.int p1), (.int p2), (.int p3), (.int p4), (.int p5)] maxLocals)) T131 (mkF m 311 #[.val (.int p1), .val (.int p2), .val (.int p3), .val (.int p4), .val (.int p5), .val (.ref b2), .val (.ref b8), .val (.ref b14), .val (.ref b20), .val (.ref b26), .val (.int (rA + rB)), .val (.int (own_ltI (0 : Int32) (rA + rB))), .val (.int (1 : Int32)), .val (.int (((rA + rB) + rC) + rD)), .val (.int (own_ltI (rA + rB) (((rA + rB) + rC) + rD))), .val (.int ((((rA + rB) + rC) + rD) + rE)), .val (.int md), .unset, .unset] [(.ref b26)]) := fun tg kg => by
        refine k165 tg ?_
        show Steps p.tables e below (T131.setTop (mkF m 301 #[.val (.int p1), .val (.int p2), .val (.int p3), .val (.int p4), .val (.int p5), .val (.ref b2), .val (.ref b8), .val (.ref b14), .val (.ref b20), .val (.ref b26), .val (.int (rA + rB)), .val (.int (own_ltI (0 : Int32) (rA + rB))), .val (.int (1 : Int32)), .val (.int (((rA + rB) + rC) + rD)), .val (.int (own_ltI (rA + rB) (((rA + rB) + rC) + rD))), .val (.int ((((rA + rB) + rC) + rD) + rE)), .val (.int md), .unset, .unset] [(.int (2 : Int32)), (.int md)])) tg
        refine XS.icmpYes X131.here hx rfl (pc0 := 301) (pc' := 309) rfl (hb hby at_301) rfl (feq hc301_166).2 (by decide) (by decide) ?_
        refine XS.aload X131.here hx rfl (hb hby at_309) rfl rfl ?_
        exact kg
      obtain ⟨v187, T187, h187, Lc187, X187, e187, hQ187, st187⟩ := own_callV X131 hx hZ131 hown131 (hw _ (List.mem_of_getElem? (i := 90) rfl)) (hw _ (List.mem_of_getElem? (i := 91) rfl)) (notFace_of_selects (args := #[]) (mvT hZ131 (hw _ (List.mem_of_getElem? (i := 93) rfl)))) (hw _ (List.mem_of_getElem? (i := 93) rfl)) (hw _ (List.mem_of_getElem? (i := 92) rfl)) (hw _ (List.mem_of_getElem? (i := 94) rfl)) (hw _ (List.mem_of_getElem? (i := 3) rfl)) (by decide) (rm_next2 l Z a0 hw [] b26 hsq pgq ((((rA + rB) + rC) + rD) + rE) (rA + rB) (((rA + rB) + rC) + rD) h131 n0 (by omega) fq131_3 fq131_4 fq131_5 fq131_6 fq131_7 fq131_8 fq131_9 fq131_10 fq131_11 fq131_12 (by omega)) e131 fq131_3 (g := (mkF m 311 #[.val (.int p1), .val (.int p2), .val (.int p3), .val (.int p4), .val (.int p5), .val (.ref b2), .val (.ref b8), .val (.ref b14), .val (.ref b20), .val (.ref b26), .val (.int (rA + rB)), .val (.int (own_ltI (0 : Int32) (rA + rB))), .val (.int (1 : Int32)), .val (.int (((rA + rB) + rC) + rD)), .val (.int (own_ltI (rA + rB) (((rA + rB) + rC) + rD))), .val (.int ((((rA + rB) + rC) + rD) + rE)), .val (.int md), .unset, .unset] [(.ref b26)])) rfl (by rw [hml]; rfl) (argsL := []) (rest := []) rfl (lenOf pd_15 rfl) rfl (W := 0) (by show 2 * 0 + _ ≤ _; exact Nat.le_of_eq rfl) (hb hby at_311) (by decide) (by decide) (by decide) (by decide)
      obtain ⟨rfl, Nq187, K187, fq187_3, fq187_4, fq187_5, fq187_6, fq187_7, fq187_8, fq187_9, fq187_10, fq187_11, fq187_12⟩ := hQ187
      have N187 := Fr.app N131 Nq187
      have s187 : h131.size ≤ h187.size := K187.1
      have k188 : Rch p e below (s₁.setTop (entryFrame m #[(.int p1), (.int p2), (.int p3), (.int p4), (.int p5)] maxLocals)) T187 (mkF m 314 #[.val (.int p1), .val (.int p2), .val (.int p3), .val (.int p4), .val (.int p5), .val (.ref b2), .val (.ref b8), .val (.ref b14), .val (.ref b20), .val (.ref b26), .val (.int (rA + rB)), .val (.int (own_ltI (0 : Int32) (rA + rB))), .val (.int (1 : Int32)), .val (.int (((rA + rB) + rC) + rD)), .val (.int (own_ltI (rA + rB) (((rA + rB) + rC) + rD))), .val (.int ((((rA + rB) + rC) + rD) + rE)), .val (.int md), .unset, .unset] [(.int (own_ltI (((rA + rB) + rC) + rD) ((((rA + rB) + rC) + rD) + rE)))]) := fun tg kg => k186 tg (st187 tg kg)
      have lt_fq187_3 := own_ltN fq187_3.lt
      have lt_fq187_4 := own_ltN fq187_4.lt
      have lt_fq187_5 := own_ltN fq187_5.lt
      have lt_fq187_6 := own_ltN fq187_6.lt
      have lt_fq187_7 := own_ltN fq187_7.lt
      have lt_fq187_8 := own_ltN fq187_8.lt
      have lt_fq187_9 := own_ltN fq187_9.lt
      have lt_fq187_10 := own_ltN fq187_10.lt
      have lt_fq187_11 := own_ltN fq187_11.lt
      have lt_fq187_12 := own_ltN fq187_12.lt
      have k189 : Rch p e below (s₁.setTop (entryFrame m #[(.int p1), (.int p2), (.int p3), (.int p4), (.int p5)] maxLocals)) T187 (mkF m 356 #[.val (.int p1), .val (.int p2), .val (.int p3), .val (.int p4), .val (.int p5), .val (.ref b2), .val (.ref b8), .val (.ref b14), .val (.ref b20), .val (.ref b26), .val (.int (rA + rB)), .val (.int (own_ltI (0 : Int32) (rA + rB))), .val (.int (1 : Int32)), .val (.int (((rA + rB) + rC) + rD)), .val (.int (own_ltI (rA + rB) (((rA + rB) + rC) + rD))), .val (.int ((((rA + rB) + rC) + rD) + rE)), .val (.int md), .val (.int (own_ltI (((rA + rB) + rC) + rD) ((((rA + rB) + rC) + rD) + rE))), .val (.int (((rA + rB) + rC) + rD))] [(.int ((((rA + rB) + rC) + rD) + rE)), (.int (((rA + rB) + rC) + rD)), (.int (own_ltI (((rA + rB) + rC) + rD) ((((rA + rB) + rC) + rD) + rE)))]) := fun tg kg => by
        refine k188 tg ?_
        show Steps p.tables e below (T187.setTop (mkF m 314 #[.val (.int p1), .val (.int p2), .val (.int p3), .val (.int p4), .val (.int p5), .val (.ref b2), .val (.ref b8), .val (.ref b14), .val (.ref b20), .val (.ref b26), .val (.int (rA + rB)), .val (.int (own_ltI (0 : Int32) (rA + rB))), .val (.int (1 : Int32)), .val (.int (((rA + rB) + rC) + rD)), .val (.int (own_ltI (rA + rB) (((rA + rB) + rC) + rD))), .val (.int ((((rA + rB) + rC) + rD) + rE)), .val (.int md), .unset, .unset] [(.int (own_ltI (((rA + rB) + rC) + rD) ((((rA + rB) + rC) + rD) + rE)))])) tg
        refine XS.istore X187.here hx rfl (hb hby at_314) rfl (l' := #[.val (.int p1), .val (.int p2), .val (.int p3), .val (.int p4), .val (.int p5), .val (.ref b2), .val (.ref b8), .val (.ref b14), .val (.ref b20), .val (.ref b26), .val (.int (rA + rB)), .val (.int (own_ltI (0 : Int32) (rA + rB))), .val (.int (1 : Int32)), .val (.int (((rA + rB) + rC) + rD)), .val (.int (own_ltI (rA + rB) (((rA + rB) + rC) + rD))), .val (.int ((((rA + rB) + rC) + rD) + rE)), .val (.int md), .val (.int (own_ltI (((rA + rB) + rC) + rD) ((((rA + rB) + rC) + rD) + rE))), .unset]) rfl ?_
        refine XS.iload X187.here hx rfl (hb hby at_316) rfl ?_
        show Steps p.tables e below (T187.setTop (mkF m 318 #[.val (.int p1), .val (.int p2), .val (.int p3), .val (.int p4), .val (.int p5), .val (.ref b2), .val (.ref b8), .val (.ref b14), .val (.ref b20), .val (.ref b26), .val (.int (rA + rB)), .val (.int (own_ltI (0 : Int32) (rA + rB))), .val (.int (1 : Int32)), .val (.int (((rA + rB) + rC) + rD)), .val (.int (own_ltI (rA + rB) (((rA + rB) + rC) + rD))), .val (.int ((((rA + rB) + rC) + rD) + rE)), .val (.int md), .val (.int (own_ltI (((rA + rB) + rC) + rD) ((((rA + rB) + rC) + rD) + rE))), .unset] [(.int md)])) tg
        refine XS.iconst X187.here hx rfl (hb hby at_318) ?_
        refine XS.icmpYes X187.here hx rfl (pc0 := 319) (pc' := 329) rfl (hb hby at_319) rfl (feq hc287_145).2 (by decide) (by decide) ?_
        refine XS.iload X187.here hx rfl (hb hby at_329) rfl ?_
        refine XS.iconst X187.here hx rfl (hb hby at_331) ?_
        refine XS.icmpYes X187.here hx rfl (pc0 := 332) (pc' := 341) rfl (hb hby at_332) rfl (feq hc301_166).2 (by decide) (by decide) ?_
        refine XS.iload X187.here hx rfl (hb hby at_341) rfl ?_
        show Steps p.tables e below (T187.setTop (mkF m 343 #[.val (.int p1), .val (.int p2), .val (.int p3), .val (.int p4), .val (.int p5), .val (.ref b2), .val (.ref b8), .val (.ref b14), .val (.ref b20), .val (.ref b26), .val (.int (rA + rB)), .val (.int (own_ltI (0 : Int32) (rA + rB))), .val (.int (1 : Int32)), .val (.int (((rA + rB) + rC) + rD)), .val (.int (own_ltI (rA + rB) (((rA + rB) + rC) + rD))), .val (.int ((((rA + rB) + rC) + rD) + rE)), .val (.int md), .val (.int (own_ltI (((rA + rB) + rC) + rD) ((((rA + rB) + rC) + rD) + rE))), .unset] [(.int (((rA + rB) + rC) + rD))])) tg
        refine XS.istore X187.here hx rfl (hb hby at_343) rfl (l' := #[.val (.int p1), .val (.int p2), .val (.int p3), .val (.int p4), .val (.int p5), .val (.ref b2), .val (.ref b8), .val (.ref b14), .val (.ref b20), .val (.ref b26), .val (.int (rA + rB)), .val (.int (own_ltI (0 : Int32) (rA + rB))), .val (.int (1 : Int32)), .val (.int (((rA + rB) + rC) + rD)), .val (.int (own_ltI (rA + rB) (((rA + rB) + rC) + rD))), .val (.int ((((rA + rB) + rC) + rD) + rE)), .val (.int md), .val (.int (own_ltI (((rA + rB) + rC) + rD) ((((rA + rB) + rC) + rD) + rE))), .val (.int (((rA + rB) + rC) + rD))]) rfl ?_
        refine XS.iload X187.here hx rfl (hb hby at_345) rfl ?_
        refine XS.ifNo X187.here hx rfl (hb hby at_347) rfl ((if0 _ _).trans (feq (by decide)).1) ?_
        refine XS.iload X187.here hx rfl (hb hby at_350) rfl ?_
        refine XS.iload X187.here hx rfl (hb hby at_352) rfl ?_
        refine XS.iload X187.here hx rfl (hb hby at_354) rfl ?_
        exact kg
      have k190 : Rch p e below (s₁.setTop (entryFrame m #[(.int p1), (.int p2), (.int p3), (.int p4), (.int p5)] maxLocals)) T187 (mkF m 367 #[.val (.int p1), .val (.int p2), .val (.int p3), .val (.int p4), .val (.int p5), .val (.ref b2), .val (.ref b8), .val (.ref b14), .val (.ref b20), .val (.ref b26), .val (.int (rA + rB)), .val (.int (own_ltI (0 : Int32) (rA + rB))), .val (.int (1 : Int32)), .val (.int (((rA + rB) + rC) + rD)), .val (.int (own_ltI (rA + rB) (((rA + rB) + rC) + rD))), .val (.int ((((rA + rB) + rC) + rD) + rE)), .val (.int md), .val (.int (own_ltI (((rA + rB) + rC) + rD) ((((rA + rB) + rC) + rD) + rE))), .val (.int (((rA + rB) + rC) + rD))] []) := by
        by_cases hc356_191 : (((rA + rB) + rC) + rD) < ((((rA + rB) + rC) + rD) + rE)
        · have k192 : Rch p e below (s₁.setTop (entryFrame m #[(.int p1), (.int p2), (.int p3), (.int p4), (.int p5)] maxLocals)) T187 (mkF m 367 #[.val (.int p1), .val (.int p2), .val (.int p3), .val (.int p4), .val (.int p5), .val (.ref b2), .val (.ref b8), .val (.ref b14), .val (.ref b20), .val (.ref b26), .val (.int (rA + rB)), .val (.int (own_ltI (0 : Int32) (rA + rB))), .val (.int (1 : Int32)), .val (.int (((rA + rB) + rC) + rD)), .val (.int (own_ltI (rA + rB) (((rA + rB) + rC) + rD))), .val (.int ((((rA + rB) + rC) + rD) + rE)), .val (.int md), .val (.int (own_ltI (((rA + rB) + rC) + rD) ((((rA + rB) + rC) + rD) + rE))), .val (.int (((rA + rB) + rC) + rD))] []) := fun tg kg => by
            refine k189 tg ?_
            show Steps p.tables e below (T187.setTop (mkF m 356 #[.val (.int p1), .val (.int p2), .val (.int p3), .val (.int p4), .val (.int p5), .val (.ref b2), .val (.ref b8), .val (.ref b14), .val (.ref b20), .val (.ref b26), .val (.int (rA + rB)), .val (.int (own_ltI (0 : Int32) (rA + rB))), .val (.int (1 : Int32)), .val (.int (((rA + rB) + rC) + rD)), .val (.int (own_ltI (rA + rB) (((rA + rB) + rC) + rD))), .val (.int ((((rA + rB) + rC) + rD) + rE)), .val (.int md), .val (.int (own_ltI (((rA + rB) + rC) + rD) ((((rA + rB) + rC) + rD) + rE))), .val (.int (((rA + rB) + rC) + rD))] [(.int ((((rA + rB) + rC) + rD) + rE)), (.int (((rA + rB) + rC) + rD)), (.int (own_ltI (((rA + rB) + rC) + rD) ((((rA + rB) + rC) + rD) + rE)))])) tg
            refine XS.icmpNo X187.here hx rfl (hb hby at_356) rfl (tlt hc356_191).2.1 ?_
            refine XS.iconst X187.here hx rfl (hb hby at_359) ?_
            refine XS.goto X187.here hx rfl (pc0 := 360) (pc' := 364) rfl (hb hby at_360) (by decide) (by decide) ?_
            refine XS.icmpNo X187.here hx rfl (hb hby at_364) rfl (teq (if_pos hc356_191)).2 ?_
            exact kg
          exact k192
        · have k193 : Rch p e below (s₁.setTop (entryFrame m #[(.int p1), (.int p2), (.int p3), (.int p4), (.int p5)] maxLocals)) T187 (mkF m 367 #[.val (.int p1), .val (.int p2), .val (.int p3), .val (.int p4), .val (.int p5), .val (.ref b2), .val (.ref b8), .val (.ref b14), .val (.ref b20), .val (.ref b26), .val (.int (rA + rB)), .val (.int (own_ltI (0 : Int32) (rA + rB))), .val (.int (1 : Int32)), .val (.int (((rA + rB) + rC) + rD)), .val (.int (own_ltI (rA + rB) (((rA + rB) + rC) + rD))), .val (.int ((((rA + rB) + rC) + rD) + rE)), .val (.int md), .val (.int (own_ltI (((rA + rB) + rC) + rD) ((((rA + rB) + rC) + rD) + rE))), .val (.int (((rA + rB) + rC) + rD))] []) := fun tg kg => by
            refine k189 tg ?_
            show Steps p.tables e below (T187.setTop (mkF m 356 #[.val (.int p1), .val (.int p2), .val (.int p3), .val (.int p4), .val (.int p5), .val (.ref b2), .val (.ref b8), .val (.ref b14), .val (.ref b20), .val (.ref b26), .val (.int (rA + rB)), .val (.int (own_ltI (0 : Int32) (rA + rB))), .val (.int (1 : Int32)), .val (.int (((rA + rB) + rC) + rD)), .val (.int (own_ltI (rA + rB) (((rA + rB) + rC) + rD))), .val (.int ((((rA + rB) + rC) + rD) + rE)), .val (.int md), .val (.int (own_ltI (((rA + rB) + rC) + rD) ((((rA + rB) + rC) + rD) + rE))), .val (.int (((rA + rB) + rC) + rD))] [(.int ((((rA + rB) + rC) + rD) + rE)), (.int (((rA + rB) + rC) + rD)), (.int (own_ltI (((rA + rB) + rC) + rD) ((((rA + rB) + rC) + rD) + rE)))])) tg
            refine XS.icmpYes X187.here hx rfl (pc0 := 356) (pc' := 363) rfl (hb hby at_356) rfl (flt hc356_191).2.1 (by decide) (by decide) ?_
            refine XS.iconst X187.here hx rfl (hb hby at_363) ?_
            refine XS.icmpNo X187.here hx rfl (hb hby at_364) rfl (teq (if_neg hc356_191)).2 ?_
            exact kg
          exact k193
      have k194 : Rch p e below (s₁.setTop (entryFrame m #[(.int p1), (.int p2), (.int p3), (.int p4), (.int p5)] maxLocals)) T187 (mkF m 369 #[.val (.int p1), .val (.int p2), .val (.int p3), .val (.int p4), .val (.int p5), .val (.ref b2), .val (.ref b8), .val (.ref b14), .val (.ref b20), .val (.ref b26), .val (.int (rA + rB)), .val (.int (own_ltI (0 : Int32) (rA + rB))), .val (.int (1 : Int32)), .val (.int (((rA + rB) + rC) + rD)), .val (.int (own_ltI (rA + rB) (((rA + rB) + rC) + rD))), .val (.int ((((rA + rB) + rC) + rD) + rE)), .val (.int md), .val (.int (own_ltI (((rA + rB) + rC) + rD) ((((rA + rB) + rC) + rD) + rE))), .val (.int (((rA + rB) + rC) + rD))] [(.ref b26)]) := fun tg kg => by
        refine k190 tg ?_
        show Steps p.tables e below (T187.setTop (mkF m 367 #[.val (.int p1), .val (.int p2), .val (.int p3), .val (.int p4), .val (.int p5), .val (.ref b2), .val (.ref b8), .val (.ref b14), .val (.ref b20), .val (.ref b26), .val (.int (rA + rB)), .val (.int (own_ltI (0 : Int32) (rA + rB))), .val (.int (1 : Int32)), .val (.int (((rA + rB) + rC) + rD)), .val (.int (own_ltI (rA + rB) (((rA + rB) + rC) + rD))), .val (.int ((((rA + rB) + rC) + rD) + rE)), .val (.int md), .val (.int (own_ltI (((rA + rB) + rC) + rD) ((((rA + rB) + rC) + rD) + rE))), .val (.int (((rA + rB) + rC) + rD))] [])) tg
        refine XS.aload X187.here hx rfl (hb hby at_367) rfl rfl ?_
        exact kg
      obtain ⟨v195, T195, h195, Lc195, X195, e195, hQ195, st195⟩ := own_callV X187 hx hZ131 hown131 (hw _ (List.mem_of_getElem? (i := 101) rfl)) (hw _ (List.mem_of_getElem? (i := 102) rfl)) (notFace_of_selects (args := #[]) (mvT hZ131 (hw _ (List.mem_of_getElem? (i := 104) rfl)))) (hw _ (List.mem_of_getElem? (i := 104) rfl)) (hw _ (List.mem_of_getElem? (i := 103) rfl)) (hw _ (List.mem_of_getElem? (i := 105) rfl)) (hw _ (List.mem_of_getElem? (i := 3) rfl)) (by decide) (rm_ds l Z a0 hw [] b26 hsq pgq ((((rA + rB) + rC) + rD) + rE) (((rA + rB) + rC) + rD) ((((rA + rB) + rC) + rD) + rE) h187 n0 (by omega) fq187_3 fq187_4 fq187_5 fq187_6 fq187_7 fq187_8 fq187_9 fq187_10 fq187_11 fq187_12 (by omega)) e187 fq187_3 (g := (mkF m 369 #[.val (.int p1), .val (.int p2), .val (.int p3), .val (.int p4), .val (.int p5), .val (.ref b2), .val (.ref b8), .val (.ref b14), .val (.ref b20), .val (.ref b26), .val (.int (rA + rB)), .val (.int (own_ltI (0 : Int32) (rA + rB))), .val (.int (1 : Int32)), .val (.int (((rA + rB) + rC) + rD)), .val (.int (own_ltI (rA + rB) (((rA + rB) + rC) + rD))), .val (.int ((((rA + rB) + rC) + rD) + rE)), .val (.int md), .val (.int (own_ltI (((rA + rB) + rC) + rD) ((((rA + rB) + rC) + rD) + rE))), .val (.int (((rA + rB) + rC) + rD))] [(.ref b26)])) rfl (by rw [hml]; rfl) (argsL := []) (rest := []) rfl (lenOf pd_16 rfl) rfl (W := 0) (by show 2 * 0 + _ ≤ _; exact Nat.le_of_eq rfl) (hb hby at_369) (by decide) (by decide) (by decide) (by decide)
      obtain ⟨rfl, Nq195, hs195⟩ := hQ195
      have N195 := Fr.app N187 Nq195
      have e195' : T195.heap = h187 := e195.trans hs195
      have k196 : Rch p e below (s₁.setTop (entryFrame m #[(.int p1), (.int p2), (.int p3), (.int p4), (.int p5)] maxLocals)) T195 (mkF m 372 #[.val (.int p1), .val (.int p2), .val (.int p3), .val (.int p4), .val (.int p5), .val (.ref b2), .val (.ref b8), .val (.ref b14), .val (.ref b20), .val (.ref b26), .val (.int (rA + rB)), .val (.int (own_ltI (0 : Int32) (rA + rB))), .val (.int (1 : Int32)), .val (.int (((rA + rB) + rC) + rD)), .val (.int (own_ltI (rA + rB) (((rA + rB) + rC) + rD))), .val (.int ((((rA + rB) + rC) + rD) + rE)), .val (.int md), .val (.int (own_ltI (((rA + rB) + rC) + rD) ((((rA + rB) + rC) + rD) + rE))), .val (.int (((rA + rB) + rC) + rD))] [(.int (((rA + rB) + rC) + rD))]) := fun tg kg => k194 tg (st195 tg kg)
      have k197 : Rch p e below (s₁.setTop (entryFrame m #[(.int p1), (.int p2), (.int p3), (.int p4), (.int p5)] maxLocals)) T195 (mkF m 379 #[.val (.int p1), .val (.int p2), .val (.int p3), .val (.int p4), .val (.int p5), .val (.ref b2), .val (.ref b8), .val (.ref b14), .val (.ref b20), .val (.ref b26), .val (.int (rA + rB)), .val (.int (own_ltI (0 : Int32) (rA + rB))), .val (.int (1 : Int32)), .val (.int (((rA + rB) + rC) + rD)), .val (.int (own_ltI (rA + rB) (((rA + rB) + rC) + rD))), .val (.int ((((rA + rB) + rC) + rD) + rE)), .val (.int md), .val (.int (own_ltI (((rA + rB) + rC) + rD) ((((rA + rB) + rC) + rD) + rE))), .val (.int (((rA + rB) + rC) + rD))] [(.ref b26)]) := fun tg kg => by
        refine k196 tg ?_
        show Steps p.tables e below (T195.setTop (mkF m 372 #[.val (.int p1), .val (.int p2), .val (.int p3), .val (.int p4), .val (.int p5), .val (.ref b2), .val (.ref b8), .val (.ref b14), .val (.ref b20), .val (.ref b26), .val (.int (rA + rB)), .val (.int (own_ltI (0 : Int32) (rA + rB))), .val (.int (1 : Int32)), .val (.int (((rA + rB) + rC) + rD)), .val (.int (own_ltI (rA + rB) (((rA + rB) + rC) + rD))), .val (.int ((((rA + rB) + rC) + rD) + rE)), .val (.int md), .val (.int (own_ltI (((rA + rB) + rC) + rD) ((((rA + rB) + rC) + rD) + rE))), .val (.int (((rA + rB) + rC) + rD))] [(.int (((rA + rB) + rC) + rD))])) tg
        refine XS.iload X195.here hx rfl (hb hby at_372) rfl ?_
        refine XS.icmpNo X195.here hx rfl (hb hby at_374) rfl (teq rfl).2 ?_
        refine XS.aload X195.here hx rfl (hb hby at_377) rfl rfl ?_
        exact kg
      obtain ⟨v198, T198, h198, Lc198, X198, e198, hQ198, st198⟩ := own_callV X195 hx hZ131 hown131 (hw _ (List.mem_of_getElem? (i := 106) rfl)) (hw _ (List.mem_of_getElem? (i := 107) rfl)) (notFace_of_selects (args := #[]) (mvT hZ131 (hw _ (List.mem_of_getElem? (i := 109) rfl)))) (hw _ (List.mem_of_getElem? (i := 109) rfl)) (hw _ (List.mem_of_getElem? (i := 108) rfl)) (hw _ (List.mem_of_getElem? (i := 110) rfl)) (hw _ (List.mem_of_getElem? (i := 3) rfl)) (by decide) (rm_de l Z a0 hw [] b26 hsq pgq ((((rA + rB) + rC) + rD) + rE) (((rA + rB) + rC) + rD) ((((rA + rB) + rC) + rD) + rE) h187 n0 (by omega) fq187_3 fq187_4 fq187_5 fq187_6 fq187_7 fq187_8 fq187_9 fq187_10 fq187_11 fq187_12 (by omega)) e195' fq187_3 (g := (mkF m 379 #[.val (.int p1), .val (.int p2), .val (.int p3), .val (.int p4), .val (.int p5), .val (.ref b2), .val (.ref b8), .val (.ref b14), .val (.ref b20), .val (.ref b26), .val (.int (rA + rB)), .val (.int (own_ltI (0 : Int32) (rA + rB))), .val (.int (1 : Int32)), .val (.int (((rA + rB) + rC) + rD)), .val (.int (own_ltI (rA + rB) (((rA + rB) + rC) + rD))), .val (.int ((((rA + rB) + rC) + rD) + rE)), .val (.int md), .val (.int (own_ltI (((rA + rB) + rC) + rD) ((((rA + rB) + rC) + rD) + rE))), .val (.int (((rA + rB) + rC) + rD))] [(.ref b26)])) rfl (by rw [hml]; rfl) (argsL := []) (rest := []) rfl (lenOf pd_16 rfl) rfl (W := 0) (by show 2 * 0 + _ ≤ _; exact Nat.le_of_eq rfl) (hb hby at_379) (by decide) (by decide) (by decide) (by decide)
      obtain ⟨rfl, Nq198, hs198⟩ := hQ198
      have N198 := Fr.app N195 Nq198
      have e198' : T198.heap = h187 := e198.trans hs198
      have k199 : Rch p e below (s₁.setTop (entryFrame m #[(.int p1), (.int p2), (.int p3), (.int p4), (.int p5)] maxLocals)) T198 (mkF m 382 #[.val (.int p1), .val (.int p2), .val (.int p3), .val (.int p4), .val (.int p5), .val (.ref b2), .val (.ref b8), .val (.ref b14), .val (.ref b20), .val (.ref b26), .val (.int (rA + rB)), .val (.int (own_ltI (0 : Int32) (rA + rB))), .val (.int (1 : Int32)), .val (.int (((rA + rB) + rC) + rD)), .val (.int (own_ltI (rA + rB) (((rA + rB) + rC) + rD))), .val (.int ((((rA + rB) + rC) + rD) + rE)), .val (.int md), .val (.int (own_ltI (((rA + rB) + rC) + rD) ((((rA + rB) + rC) + rD) + rE))), .val (.int (((rA + rB) + rC) + rD))] [(.int ((((rA + rB) + rC) + rD) + rE))]) := fun tg kg => k197 tg (st198 tg kg)
      have k200 : Rch p e below (s₁.setTop (entryFrame m #[(.int p1), (.int p2), (.int p3), (.int p4), (.int p5)] maxLocals)) T198 (mkF m 396 #[.val (.int p1), .val (.int p2), .val (.int p3), .val (.int p4), .val (.int p5), .val (.ref b2), .val (.ref b8), .val (.ref b14), .val (.ref b20), .val (.ref b26), .val (.int (rA + rB)), .val (.int (own_ltI (0 : Int32) (rA + rB))), .val (.int (1 : Int32)), .val (.int (((rA + rB) + rC) + rD)), .val (.int (own_ltI (rA + rB) (((rA + rB) + rC) + rD))), .val (.int ((((rA + rB) + rC) + rD) + rE)), .val (.int md), .val (.int (own_ltI (((rA + rB) + rC) + rD) ((((rA + rB) + rC) + rD) + rE))), .val (.int (((rA + rB) + rC) + rD))] [(.int (1 : Int32))]) := fun tg kg => by
        refine k199 tg ?_
        show Steps p.tables e below (T198.setTop (mkF m 382 #[.val (.int p1), .val (.int p2), .val (.int p3), .val (.int p4), .val (.int p5), .val (.ref b2), .val (.ref b8), .val (.ref b14), .val (.ref b20), .val (.ref b26), .val (.int (rA + rB)), .val (.int (own_ltI (0 : Int32) (rA + rB))), .val (.int (1 : Int32)), .val (.int (((rA + rB) + rC) + rD)), .val (.int (own_ltI (rA + rB) (((rA + rB) + rC) + rD))), .val (.int ((((rA + rB) + rC) + rD) + rE)), .val (.int md), .val (.int (own_ltI (((rA + rB) + rC) + rD) ((((rA + rB) + rC) + rD) + rE))), .val (.int (((rA + rB) + rC) + rD))] [(.int ((((rA + rB) + rC) + rD) + rE))])) tg
        refine XS.iload X198.here hx rfl (hb hby at_382) rfl ?_
        refine XS.icmpNo X198.here hx rfl (hb hby at_384) rfl (teq rfl).2 ?_
        show Steps p.tables e below (T198.setTop (mkF m 387 #[.val (.int p1), .val (.int p2), .val (.int p3), .val (.int p4), .val (.int p5), .val (.ref b2), .val (.ref b8), .val (.ref b14), .val (.ref b20), .val (.ref b26), .val (.int (rA + rB)), .val (.int (own_ltI (0 : Int32) (rA + rB))), .val (.int (1 : Int32)), .val (.int (((rA + rB) + rC) + rD)), .val (.int (own_ltI (rA + rB) (((rA + rB) + rC) + rD))), .val (.int ((((rA + rB) + rC) + rD) + rE)), .val (.int md), .val (.int (own_ltI (((rA + rB) + rC) + rD) ((((rA + rB) + rC) + rD) + rE))), .val (.int (((rA + rB) + rC) + rD))] [])) tg
        refine XS.iconst X198.here hx rfl (hb hby at_387) ?_
        refine XS.goto X198.here hx rfl (pc0 := 388) (pc' := 392) rfl (hb hby at_388) (by decide) (by decide) ?_
        refine XS.istore X198.here hx rfl (hb hby at_392) rfl (l' := #[.val (.int p1), .val (.int p2), .val (.int p3), .val (.int p4), .val (.int p5), .val (.ref b2), .val (.ref b8), .val (.ref b14), .val (.ref b20), .val (.ref b26), .val (.int (rA + rB)), .val (.int (own_ltI (0 : Int32) (rA + rB))), .val (.int (1 : Int32)), .val (.int (((rA + rB) + rC) + rD)), .val (.int (own_ltI (rA + rB) (((rA + rB) + rC) + rD))), .val (.int ((((rA + rB) + rC) + rD) + rE)), .val (.int md), .val (.int (own_ltI (((rA + rB) + rC) + rD) ((((rA + rB) + rC) + rD) + rE))), .val (.int (((rA + rB) + rC) + rD))]) rfl ?_
        refine XS.iload X198.here hx rfl (hb hby at_394) rfl ?_
        exact kg
      obtain ⟨fs201, hr201, hrun201, hended201, hEnd201⟩ := X198.leaveW hS131 (by rw [e198']; first | exact Nat.le_refl _ | omega) (v := some (.int (nar .boolean (1 : Int32)))) (fun h => by rw [Bd.returns] at h; cases h)
      refine ⟨_, _, k200 _ ?_, hrun201, hended201, _, _, rfl, ?_, hEnd201.1, hEnd201.2.1, hEnd201.2.2.1, hEnd201.2.2.2.mono (by decide) (by decide)⟩
      · exact retN X198 hx (t := .boolean) Bd.returns (by simp) (hb hby at_396) hr201
      · show Q_rm0 Z p1 p2 p3 p4 p5 ed h0 n0 _ T198.heap _
        rw [e198']
        exact ⟨rfl, N198⟩
set_option maxRecDepth 65536 in
set_option maxHeartbeats 40000000 in
theorem comes_1 {Post : Tables → Env → Array Value → State → Outcome → State → Prop} (hpost : ∀ tb e args s v u, (limb_1_1.after args s (.returned v) u = true ∧ limb_1_2.after args s (.returned v) u = true ∧ True) → ReturnedEndW s (.returned v) u (Jvm.fieldLocs frame_1_writes args s ++ Jvm.arrayLocs frame_1_arrays args s ++ Jvm.staticLocs frame_1_statics s) 40 1216 → Post tb e args s (.returned v) u) :
    ArmFor flags0 classFile x code maxLocals ret World_1 tables_1 room_1 Calls_1 rest_1 Pre_1 Post := by
  intro l hfl _ _ p e ha hc hk s m args below hf hA hF happ hP
  obtain ⟨hcalls, hrest, hpre⟩ := hP
  obtain ⟨-, -, -, hnamed, -, -, -, hat⟩ := (Spec.applies_iff hf).mp happ
  obtain ⟨hg, hn⟩ := and_e (Cond.before_iff.mp (show (Jvm.Cond.and given_1 narrow_1).before args s = true from hpre))
  obtain ⟨g1, g2⟩ := and_e hg
  obtain ⟨g3, g4⟩ := and_e g2
  obtain ⟨g5, g6⟩ := and_e g4
  obtain ⟨g7, g8⟩ := and_e g6
  obtain ⟨g9, g10⟩ := and_e g8
  obtain ⟨w0, w1, w2, w3, w4, rfl⟩ : ∃ w0 w1 w2 w3 w4 : Value, args = #[w0, w1, w2, w3, w4] := by
    have hs : args.size = 5 := by simpa [Cond.value, given_1] using g1
    obtain ⟨L⟩ := args
    match L, hs with
    | [w0, w1, w2, w3, w4], _ => exact ⟨w0, w1, w2, w3, w4, rfl⟩
  have hw := fun d (hd : d ∈ tables_1) => atoms_spec (ws := Jvm.Cond.code x code maxLocals ret :: tables_1) hat d (List.mem_cons_of_mem _ hd)
  have hfit : Fit s := fun {y c} hc i hi => by
    obtain ⟨ha, rfl⟩ := Array.getElem?_eq_some_iff.mp hc
    have q := List.all_eq_true.mp ((Array.all_eq_true_iff_forall_mem.mp hF) _ (Array.getElem_mem ha)) i (List.mem_range.mpr hi)
    simpa [Array.getElem?_eq_getElem hi] using q
  obtain ⟨hsets, hown0⟩ := atoms_of _ (rest_1_c_eq ▸ (show rest_1_c.before _ s = true from hrest))
  have hr0 := Cond.before_iff.mp hown0
  obtain ⟨i0, ei0⟩ := is_v g3
  obtain rfl : w0 = (.int i0) := Option.some.inj ei0
  obtain ⟨i1, ei1⟩ := is_v g5
  obtain rfl : w1 = (.int i1) := Option.some.inj ei1
  obtain ⟨i2, ei2⟩ := is_v g7
  obtain rfl : w2 = (.int i2) := Option.some.inj ei2
  obtain ⟨i3, ei3⟩ := is_v g9
  obtain rfl : w3 = (.int i3) := Option.some.inj ei3
  obtain ⟨i4, ei4⟩ := is_v g10
  obtain rfl : w4 = (.int i4) := Option.some.inj ei4
  obtain ⟨ed, eED⟩ := exa_v (Cond.before_iff.mp (hsets _ (List.mem_of_getElem? (i := 7) rfl)))
  have S_ed : Sta s s.heap "java/util/ArrayList" "DEFAULTCAPACITY_EMPTY_ELEMENTDATA" "[Ljava/lang/Object;" (.ref ed) := Sta.start eED (Or.inr ⟨(hw _ (List.mem_of_getElem? (i := 40) rfl)), hsets _ (List.mem_of_getElem? (i := 2) rfl)⟩)
  obtain ⟨n, o, h1, h2, h3, _, L, rfl, ⟨rfl, N⟩, hq⟩ := rm0 l s _ hw tables_1 i0 i1 i2 i3 i4 ed s.heap s.heap.size (Nat.le_refl _) S_ed (Old.start s) p e ha hc hk s m _ below hf ((Spec.applies_iff_loose hf).mp happ).1 ⟨rfl, State.Warmed39.refl s, rfl⟩ trivial
  refine ⟨n, _, h1, h2, h3, hpost _ _ _ _ _ _ ⟨Cond.after_iff.mpr rfl, Cond.after_iff.mpr (eq_i res_at (Term.int_eval (1)) rfl), trivial⟩ ⟨hq.1, hq.2.1, hq.2.2.1, (hq.2.2.2.sift fun y hy => Or.inr (N y hy)).mono (by decide) (by decide)⟩⟩
theorem main_1_1 : Claimed_1_1 := comes_1 fun _ _ _ _ _ _ h hF => ⟨h.1, hF⟩
theorem main_1_2 : Claimed_1_2 := comes_1 fun _ _ _ _ _ _ h hF => ⟨h.2.1, hF⟩
end Jvm.Pilot.@@N@@
namespace Jvm.Pilot.@@N@@
open Jvm Jvm.ClassFile Sem Op Lib Jvm.Free Jvm.Stand Jvm.Pilot.@@N@@.Jvm.D
/-! MADE BY PROGRAM (witnessworld.py) out of the Statement's table words and the real class files: 30 classes; the members and pool entries that the words name. The judged class is class 1, her method 2. -/
namespace start1
open Jvm.ClassFile
def u (s : String) : CpInfo := .utf8 (stringToUtf16 s)
/-- a pool by its gaps: so many unusable entries, then the entry; so many at the end -/
def gap : Nat → List CpInfo → List CpInfo
  | 0, r => r
  | n + 1, r => .unusable :: gap n r
def poolList (es : List (Nat × CpInfo)) (last : Nat) : List CpInfo := es.foldr (fun e r => gap e.1 (e.2 :: r)) (gap last [])
def pool (es : List (Nat × CpInfo)) (last : Nat) : Array CpInfo := ⟨poolList es last⟩
def fileOf (pool : Array CpInfo) (this : Nat) (attrs : Array Attribute := #[]) (ms : Array MethodInfo := #[]) (fl : Nat := 33) (sup : Nat := 0) (ifs : Array Nat := #[]) (fds : Array FieldInfo := #[]) : ClassFile where
  minorVersion := 0
  majorVersion := 65
  constantPool := pool
  accessFlags := fl
  thisClass := this
  superClass := sup
  interfaces := ifs
  fields := fds
  methods := ms
  attributes := attrs
def plain (name : String) (sup : Option ClassId) : Class where
  name := name
  kind := .ordinary
  loader := none
  accessFlags := 33
  super := sup
  interfaces := #[]
  cf := none
  fields := #[]
  methods := #[]
  instanceTypes := #[]
  staticTypes := #[]
  resolved := #[]
  callSites := []
  init := .initialized
  statics := none
  mirror := none

def pool0 : Array CpInfo := pool [(5, u "<init>"), (0, u "()V"), (1, .class_ 10), (1, u "java/lang/Object")] 113

def k0c0 : Code := { maxStack := 0, maxLocals := 1, code := object_method_1_code, exceptionTable := #[], attributes := #[] }
def k0m0 : Method := { name := "<init>", desc := "()V", sig := { parameters := [], returnType := none }, accessFlags := 1, code := some k0c0 }
/-- java/lang/Object -/
def k0 : Class := { plain "java/lang/Object" none with
  accessFlags := 33
  interfaces := #[]
  cf := some (fileOf pool0 8 #[] #[{ accessFlags := 1, nameIndex := 5, descriptorIndex := 6, attributes := #[] }] 33 0 #[] #[])
  fields := #[]
  methods := #[k0m0]
  instanceTypes := #[]
  staticTypes := #[]
  resolved := Array.replicate 124 none
  statics := none }

def pool1 : Array CpInfo := pool [(2, .class_ 4), (1, u "java/lang/Object"), (0, u "<init>"), (0, u "()V"), (0, .methodref 8 9), (0, .class_ 10), (0, .nameAndType 11 12), (0, u "com/example/verum/verum/Relation"), (0, u "add"), (0, u "([I)Z"), (0, .methodref 8 14), (0, .nameAndType 5 15), (0, u "(I)V"), (0, .methodref 17 18), (0, .class_ 19), (0, .nameAndType 20 21), (0, u "com/example/verum/verum/RelationNextRoundPinLaw"), (0, u "addIf"), (0, u "(Lcom/example/verum/verum/Relation;Z[I)I"), (0, .methodref 8 23), (0, .nameAndType 24 6), (0, u "beginFixpoint"), (0, .methodref 8 26), (0, .nameAndType 27 28), (0, u "nextRound"), (0, u "()Z"), (0, .methodref 8 30), (0, .nameAndType 31 32), (0, u "deltaStart"), (0, u "()I"), (0, .methodref 8 34), (0, .nameAndType 35 32), (0, u "deltaEnd"), (0, .methodref 8 37), (0, .nameAndType 38 6), (0, u "settle"), (3, u "law"), (0, u "(IIIII)Z")] 4

def k1m0 : Method := { name := "<init>", desc := "()V", sig := { parameters := [], returnType := none }, accessFlags := 2, code := none }
def k1c1 : Code := { maxStack := 2, maxLocals := 3, code := method_2_code, exceptionTable := #[], attributes := #[] }
def k1m1 : Method := { name := "addIf", desc := "(Lcom/example/verum/verum/Relation;Z[I)I", sig := { parameters := [(.object "com/example/verum/verum/Relation"), .boolean, (.array .int)], returnType := some .int }, accessFlags := 10, code := some k1c1 }
def k1c2 : Code := { maxStack := 4, maxLocals := 19, code := code, exceptionTable := #[], attributes := #[] }
def k1m2 : Method := { name := "law", desc := "(IIIII)Z", sig := { parameters := [.int, .int, .int, .int, .int], returnType := some .boolean }, accessFlags := 9, code := some k1c2 }
/-- com/example/verum/verum/RelationNextRoundPinLaw -/
def k1 : Class := { plain "com/example/verum/verum/RelationNextRoundPinLaw" (some 0) with
  accessFlags := 49
  interfaces := #[]
  cf := some (fileOf pool1 17 #[] #[{ accessFlags := 2, nameIndex := 5, descriptorIndex := 6, attributes := #[] }, { accessFlags := 10, nameIndex := 20, descriptorIndex := 21, attributes := #[] }, { accessFlags := 9, nameIndex := 42, descriptorIndex := 43, attributes := #[] }] 49 2 #[] #[])
  fields := #[]
  methods := #[k1m0, k1m1, k1m2]
  instanceTypes := #[]
  staticTypes := #[]
  resolved := Array.replicate 48 none
  statics := none }

def pool2 : Array CpInfo := pool [(1, .class_ 2), (0, u "com/example/verum/verum/RowSink"), (0, .class_ 4), (0, u "java/lang/Object")] 8

/-- com/example/verum/verum/RowSink -/
def k2 : Class := { plain "com/example/verum/verum/RowSink" (some 0) with
  accessFlags := 1536
  interfaces := #[]
  cf := some (fileOf pool2 1 #[] #[] 1536 3 #[] #[])
  fields := #[]
  methods := #[]
  instanceTypes := #[]
  staticTypes := #[]
  resolved := Array.replicate 13 none
  statics := none }

def pool3 : Array CpInfo := pool [(1, .methodref 2 3), (0, .class_ 4), (0, .nameAndType 5 6), (0, u "java/lang/Object"), (0, u "<init>"), (0, u "()V"), (0, .class_ 8), (0, u "com/example/verum/verum/HashSlots"), (0, .methodref 7 3), (0, .fieldref 11 12), (0, .class_ 13), (0, .nameAndType 14 15), (0, u "com/example/verum/verum/Relation"), (0, u "slots"), (0, u "Lcom/example/verum/verum/HashSlots;"), (0, .class_ 17), (0, u "java/util/ArrayList"), (0, .methodref 16 3), (0, .fieldref 11 20), (0, .nameAndType 21 22), (0, u "indexes"), (0, u "Ljava/util/List;"), (0, .fieldref 11 24), (0, .nameAndType 25 26), (0, u "arity"), (0, u "I"), (0, .methodref 28 29), (0, .class_ 30), (0, .nameAndType 31 32), (0, u "java/lang/Math"), (0, u "max"), (0, u "(II)I"), (0, .class_ 34), (0, u "java/lang/Integer"), (0, .methodref 33 36), (0, .nameAndType 37 38), (0, u "numberOfLeadingZeros"), (0, u "(I)I"), (0, .fieldref 11 40), (0, .nameAndType 41 26), (0, u "pageBits"), (0, .fieldref 11 43), (0, .nameAndType 44 26), (0, u "pageMask"), (0, .fieldref 11 46), (0, .nameAndType 47 26), (0, u "pageCells"), (0, .class_ 49), (0, u "[I"), (0, .methodref 28 51), (0, .nameAndType 52 32), (0, u "min"), (0, .fieldref 11 54), (0, .nameAndType 55 56), (0, u "pages"), (0, u "[[I"), (2, u "(I)V"), (0, .fieldref 11 61), (0, .nameAndType 62 26), (0, u "size"), (4, .fieldref 11 68), (0, .nameAndType 69 70), (0, u "shared"), (0, u "Z"), (4, .methodref 11 76), (0, .nameAndType 77 78), (0, u "pageOfNextRow"), (0, u "()[I"), (0, .methodref 11 80), (0, .nameAndType 81 38), (0, u "offset"), (0, .methodref 83 84), (0, .class_ 85), (0, .nameAndType 86 87), (0, u "java/lang/System"), (0, u "arraycopy"), (0, u "(Ljava/lang/Object;ILjava/lang/Object;II)V"), (7, .methodref 11 96), (0, .nameAndType 97 98), (0, u "addRow"), (0, u "([I)I"), (0, .methodref 7 100), (0, .nameAndType 101 102), (0, u "hasRoomFor"), (0, u "(J)Z"), (0, .methodref 7 104), (0, .nameAndType 105 106), (0, u "capacity"), (0, u "()J"), (0, .long 2), (1, .methodref 11 110), (0, .nameAndType 111 98), (0, u "probe"), (0, .methodref 7 113), (0, .nameAndType 114 38), (0, u "entry"), (0, .class_ 116), (0, u "com/example/verum/verum/Capacity"), (0, .long 2147483639), (1, .string 120), (0, u "rows in one relation"), (0, .methodref 115 122), (0, .nameAndType 123 124), (0, u "check"), (0, u "(JJLjava/lang/String;)V"), (0, .methodref 11 126), (0, .nameAndType 127 6), (0, u "unshare"), (0, .methodref 7 129), (0, .nameAndType 130 131), (0, u "put"), (0, u "(II)V"), (5, u "add"), (0, u "([I)Z"), (16, u "()I"), (42, u "()Z"), (2, u "next"), (1, .class_ 204), (0, u "com/example/verum/verum/Relation$Index"), (16, .fieldref 11 222), (0, .nameAndType 223 26), (0, u "deltaStart"), (0, .fieldref 11 225), (0, .nameAndType 226 26), (0, u "deltaEnd"), (0, .methodref 11 228), (0, .nameAndType 229 98), (0, u "hash"), (0, .methodref 7 231), (0, .nameAndType 232 38), (0, u "first"), (0, .methodref 11 234), (0, .nameAndType 235 236), (0, u "rowEquals"), (0, u "(I[I)Z"), (0, .methodref 7 238), (0, .nameAndType 201 38), (0, .integer 2654435769), (26, .class_ 267), (0, u "com/example/verum/verum/RowSink"), (0, u "COLUMN_FACTOR"), (1, u "RADIX_BITS"), (1, u "ROWS"), (0, u "Ljava/lang/String;"), (0, u "PAGE_CELLS_BITS"), (0, u "FIRST_ROWS"), (1, u "RELAID_ROWS"), (21, u "beginFixpoint"), (0, u "nextRound"), (0, u "settle")] 5

def k3c0 : Code := { maxStack := 8, maxLocals := 3, code := prog_70_method_1_code, exceptionTable := #[], attributes := #[] }
def k3m0 : Method := { name := "<init>", desc := "(I)V", sig := { parameters := [.int], returnType := none }, accessFlags := 0, code := some k3c0 }
def k3c1 : Code := { maxStack := 2, maxLocals := 3, code := prog_70_method_7_code, exceptionTable := #[], attributes := #[] }
def k3m1 : Method := { name := "add", desc := "([I)Z", sig := { parameters := [(.array .int)], returnType := some .boolean }, accessFlags := 0, code := some k3c1 }
def k3c2 : Code := { maxStack := 5, maxLocals := 4, code := prog_70_method_8_code, exceptionTable := #[], attributes := #[] }
def k3m2 : Method := { name := "addRow", desc := "([I)I", sig := { parameters := [(.array .int)], returnType := some .int }, accessFlags := 0, code := some k3c2 }
def k3c3 : Code := { maxStack := 1, maxLocals := 1, code := prog_70_method_23_code, exceptionTable := #[], attributes := #[] }
def k3m3 : Method := { name := "deltaStart", desc := "()I", sig := { parameters := [], returnType := some .int }, accessFlags := 0, code := some k3c3 }
def k3c4 : Code := { maxStack := 1, maxLocals := 1, code := prog_70_method_24_code, exceptionTable := #[], attributes := #[] }
def k3m4 : Method := { name := "deltaEnd", desc := "()I", sig := { parameters := [], returnType := some .int }, accessFlags := 0, code := some k3c4 }
def k3c5 : Code := { maxStack := 2, maxLocals := 1, code := prog_70_method_25_code, exceptionTable := #[], attributes := #[] }
def k3m5 : Method := { name := "beginFixpoint", desc := "()V", sig := { parameters := [], returnType := none }, accessFlags := 0, code := some k3c5 }
def k3c6 : Code := { maxStack := 2, maxLocals := 1, code := prog_70_method_26_code, exceptionTable := #[], attributes := #[] }
def k3m6 : Method := { name := "nextRound", desc := "()Z", sig := { parameters := [], returnType := some .boolean }, accessFlags := 0, code := some k3c6 }
def k3c7 : Code := { maxStack := 2, maxLocals := 1, code := prog_70_method_27_code, exceptionTable := #[], attributes := #[] }
def k3m7 : Method := { name := "settle", desc := "()V", sig := { parameters := [], returnType := none }, accessFlags := 0, code := some k3c7 }
def k3c8 : Code := { maxStack := 3, maxLocals := 4, code := prog_70_method_28_code, exceptionTable := #[], attributes := #[] }
def k3m8 : Method := { name := "probe", desc := "([I)I", sig := { parameters := [(.array .int)], returnType := some .int }, accessFlags := 2, code := some k3c8 }
def k3c9 : Code := { maxStack := 3, maxLocals := 6, code := prog_70_method_29_code, exceptionTable := #[], attributes := #[] }
def k3m9 : Method := { name := "rowEquals", desc := "(I[I)Z", sig := { parameters := [.int, (.array .int)], returnType := some .boolean }, accessFlags := 2, code := some k3c9 }
def k3c10 : Code := { maxStack := 3, maxLocals := 4, code := prog_70_method_30_code, exceptionTable := #[], attributes := #[] }
def k3m10 : Method := { name := "hash", desc := "([I)I", sig := { parameters := [(.array .int)], returnType := some .int }, accessFlags := 2, code := some k3c10 }
def k3c11 : Code := { maxStack := 2, maxLocals := 2, code := prog_70_method_32_code, exceptionTable := #[], attributes := #[] }
def k3m11 : Method := { name := "offset", desc := "(I)I", sig := { parameters := [.int], returnType := some .int }, accessFlags := 2, code := some k3c11 }
def k3c12 : Code := { maxStack := 7, maxLocals := 2, code := prog_70_method_33_code, exceptionTable := #[], attributes := #[] }
def k3m12 : Method := { name := "pageOfNextRow", desc := "()[I", sig := { parameters := [], returnType := some (.array .int) }, accessFlags := 2, code := some k3c12 }
def k3c13 : Code := { maxStack := 4, maxLocals := 2, code := prog_70_method_35_code, exceptionTable := #[], attributes := #[] }
def k3m13 : Method := { name := "unshare", desc := "()V", sig := { parameters := [], returnType := none }, accessFlags := 2, code := some k3c13 }
/-- com/example/verum/verum/Relation -/
def k3 : Class := { plain "com/example/verum/verum/Relation" (some 0) with
  accessFlags := 48
  interfaces := #[2]
  cf := some (fileOf pool3 11 #[.nestMembers #[203]] #[{ accessFlags := 0, nameIndex := 5, descriptorIndex := 59, attributes := #[] }, { accessFlags := 0, nameIndex := 137, descriptorIndex := 138, attributes := #[] }, { accessFlags := 0, nameIndex := 97, descriptorIndex := 98, attributes := #[] }, { accessFlags := 0, nameIndex := 223, descriptorIndex := 155, attributes := #[] }, { accessFlags := 0, nameIndex := 226, descriptorIndex := 155, attributes := #[] }, { accessFlags := 0, nameIndex := 299, descriptorIndex := 6, attributes := #[] }, { accessFlags := 0, nameIndex := 300, descriptorIndex := 198, attributes := #[] }, { accessFlags := 0, nameIndex := 301, descriptorIndex := 6, attributes := #[] }, { accessFlags := 2, nameIndex := 111, descriptorIndex := 98, attributes := #[] }, { accessFlags := 2, nameIndex := 235, descriptorIndex := 236, attributes := #[] }, { accessFlags := 2, nameIndex := 229, descriptorIndex := 98, attributes := #[] }, { accessFlags := 2, nameIndex := 81, descriptorIndex := 38, attributes := #[] }, { accessFlags := 2, nameIndex := 77, descriptorIndex := 78, attributes := #[] }, { accessFlags := 2, nameIndex := 127, descriptorIndex := 6, attributes := #[] }] 48 2 #[266] #[{ accessFlags := 26, nameIndex := 268, descriptorIndex := 26, attributes := #[] }, { accessFlags := 26, nameIndex := 270, descriptorIndex := 26, attributes := #[] }, { accessFlags := 26, nameIndex := 272, descriptorIndex := 273, attributes := #[] }, { accessFlags := 26, nameIndex := 274, descriptorIndex := 26, attributes := #[] }, { accessFlags := 26, nameIndex := 275, descriptorIndex := 26, attributes := #[] }, { accessFlags := 26, nameIndex := 277, descriptorIndex := 26, attributes := #[] }, { accessFlags := 18, nameIndex := 25, descriptorIndex := 26, attributes := #[] }, { accessFlags := 18, nameIndex := 41, descriptorIndex := 26, attributes := #[] }, { accessFlags := 18, nameIndex := 44, descriptorIndex := 26, attributes := #[] }, { accessFlags := 18, nameIndex := 47, descriptorIndex := 26, attributes := #[] }, { accessFlags := 2, nameIndex := 55, descriptorIndex := 56, attributes := #[] }, { accessFlags := 2, nameIndex := 62, descriptorIndex := 26, attributes := #[] }, { accessFlags := 2, nameIndex := 14, descriptorIndex := 15, attributes := #[] }, { accessFlags := 2, nameIndex := 69, descriptorIndex := 70, attributes := #[] }, { accessFlags := 18, nameIndex := 21, descriptorIndex := 22, attributes := #[] }, { accessFlags := 2, nameIndex := 223, descriptorIndex := 26, attributes := #[] }, { accessFlags := 2, nameIndex := 226, descriptorIndex := 26, attributes := #[] }])
  fields := #[{ name := "COLUMN_FACTOR", type := .int, accessFlags := 26, slot := 0, constantValue := 0 }, { name := "RADIX_BITS", type := .int, accessFlags := 26, slot := 1, constantValue := 0 }, { name := "ROWS", type := (.object "java/lang/String"), accessFlags := 26, slot := 2, constantValue := 0 }, { name := "PAGE_CELLS_BITS", type := .int, accessFlags := 26, slot := 3, constantValue := 0 }, { name := "FIRST_ROWS", type := .int, accessFlags := 26, slot := 4, constantValue := 0 }, { name := "RELAID_ROWS", type := .int, accessFlags := 26, slot := 5, constantValue := 0 }, { name := "arity", type := .int, accessFlags := 18, slot := 0, constantValue := 0 }, { name := "pageBits", type := .int, accessFlags := 18, slot := 1, constantValue := 0 }, { name := "pageMask", type := .int, accessFlags := 18, slot := 2, constantValue := 0 }, { name := "pageCells", type := .int, accessFlags := 18, slot := 3, constantValue := 0 }, { name := "pages", type := (.array (.array .int)), accessFlags := 2, slot := 4, constantValue := 0 }, { name := "size", type := .int, accessFlags := 2, slot := 5, constantValue := 0 }, { name := "slots", type := (.object "com/example/verum/verum/HashSlots"), accessFlags := 2, slot := 6, constantValue := 0 }, { name := "shared", type := .boolean, accessFlags := 2, slot := 7, constantValue := 0 }, { name := "indexes", type := (.object "java/util/List"), accessFlags := 18, slot := 8, constantValue := 0 }, { name := "deltaStart", type := .int, accessFlags := 2, slot := 9, constantValue := 0 }, { name := "deltaEnd", type := .int, accessFlags := 2, slot := 10, constantValue := 0 }]
  methods := #[k3m0, k3m1, k3m2, k3m3, k3m4, k3m5, k3m6, k3m7, k3m8, k3m9, k3m10, k3m11, k3m12, k3m13]
  instanceTypes := #[.int, .int, .int, .int, (.array (.array .int)), .int, (.object "com/example/verum/verum/HashSlots"), .boolean, (.object "java/util/List"), .int, .int]
  staticTypes := #[.int, .int, (.object "java/lang/String"), .int, .int, .int]
  resolved := Array.replicate 307 none
  statics := none }

def pool4 : Array CpInfo := pool [(1, .class_ 2), (0, u "com/example/verum/verum/HashSlots"), (0, .long 16), (1, .methodref 1 6), (0, .nameAndType 7 8), (0, u "<init>"), (0, u "(J)V"), (0, .methodref 10 11), (0, .class_ 12), (0, .nameAndType 7 13), (0, u "java/lang/Object"), (0, u "()V"), (0, .class_ 15), (0, u "[I"), (0, .fieldref 1 17), (0, .nameAndType 18 19), (0, u "pages"), (0, u "[[I"), (0, .methodref 1 21), (0, .nameAndType 22 8), (0, u "clear"), (0, .fieldref 1 24), (0, .nameAndType 25 26), (0, u "mask"), (0, u "I"), (0, .fieldref 1 28), (0, .nameAndType 29 30), (0, u "shared"), (0, u "Z"), (3, .long 2), (1, .methodref 37 38), (0, .class_ 39), (0, .nameAndType 40 41), (0, u "java/lang/Integer"), (0, u "toUnsignedLong"), (0, u "(I)J"), (0, .methodref 1 43), (0, .nameAndType 44 45), (0, u "capacity"), (0, u "()J"), (0, .methodref 1 47), (0, .nameAndType 48 49), (0, u "spread"), (0, u "(I)I"), (0, .integer 65535), (6, .long 65536), (1, .integer 65536), (6, .integer 2246822507), (0, .integer 3266489909), (0, u "LEAST_CAPACITY"), (2, u "PAGE_BITS"), (0, u "PAGE_SLOTS"), (7, u "hasRoomFor"), (0, u "(J)Z"), (0, u "first"), (0, u "next"), (0, u "entry"), (0, u "put"), (0, u "(II)V")] 3

def k4c0 : Code := { maxStack := 3, maxLocals := 1, code := prog_36_method_1_code, exceptionTable := #[], attributes := #[] }
def k4m0 : Method := { name := "<init>", desc := "()V", sig := { parameters := [], returnType := none }, accessFlags := 0, code := some k4c0 }
def k4c1 : Code := { maxStack := 3, maxLocals := 3, code := prog_36_method_2_code, exceptionTable := #[], attributes := #[] }
def k4m1 : Method := { name := "<init>", desc := "(J)V", sig := { parameters := [.long], returnType := none }, accessFlags := 0, code := some k4c1 }
def k4c2 : Code := { maxStack := 4, maxLocals := 1, code := prog_36_method_6_code, exceptionTable := #[], attributes := #[] }
def k4m2 : Method := { name := "capacity", desc := "()J", sig := { parameters := [], returnType := some .long }, accessFlags := 0, code := some k4c2 }
def k4c3 : Code := { maxStack := 4, maxLocals := 3, code := prog_36_method_7_code, exceptionTable := #[], attributes := #[] }
def k4m3 : Method := { name := "hasRoomFor", desc := "(J)Z", sig := { parameters := [.long], returnType := some .boolean }, accessFlags := 0, code := some k4c3 }
def k4c4 : Code := { maxStack := 2, maxLocals := 2, code := prog_36_method_8_code, exceptionTable := #[], attributes := #[] }
def k4m4 : Method := { name := "first", desc := "(I)I", sig := { parameters := [.int], returnType := some .int }, accessFlags := 0, code := some k4c4 }
def k4c5 : Code := { maxStack := 2, maxLocals := 2, code := prog_36_method_9_code, exceptionTable := #[], attributes := #[] }
def k4m5 : Method := { name := "next", desc := "(I)I", sig := { parameters := [.int], returnType := some .int }, accessFlags := 0, code := some k4c5 }
def k4c6 : Code := { maxStack := 3, maxLocals := 2, code := prog_36_method_10_code, exceptionTable := #[], attributes := #[] }
def k4m6 : Method := { name := "entry", desc := "(I)I", sig := { parameters := [.int], returnType := some .int }, accessFlags := 0, code := some k4c6 }
def k4c7 : Code := { maxStack := 4, maxLocals := 4, code := prog_36_method_11_code, exceptionTable := #[], attributes := #[] }
def k4m7 : Method := { name := "put", desc := "(II)V", sig := { parameters := [.int, .int], returnType := none }, accessFlags := 0, code := some k4c7 }
def k4c8 : Code := { maxStack := 6, maxLocals := 6, code := prog_36_method_12_code, exceptionTable := #[], attributes := #[] }
def k4m8 : Method := { name := "clear", desc := "(J)V", sig := { parameters := [.long], returnType := none }, accessFlags := 0, code := some k4c8 }
def k4c9 : Code := { maxStack := 3, maxLocals := 2, code := prog_36_method_14_code, exceptionTable := #[], attributes := #[] }
def k4m9 : Method := { name := "spread", desc := "(I)I", sig := { parameters := [.int], returnType := some .int }, accessFlags := 10, code := some k4c9 }
/-- com/example/verum/verum/HashSlots -/
def k4 : Class := { plain "com/example/verum/verum/HashSlots" (some 0) with
  accessFlags := 48
  interfaces := #[]
  cf := some (fileOf pool4 1 #[] #[{ accessFlags := 0, nameIndex := 7, descriptorIndex := 13, attributes := #[] }, { accessFlags := 0, nameIndex := 7, descriptorIndex := 8, attributes := #[] }, { accessFlags := 0, nameIndex := 44, descriptorIndex := 45, attributes := #[] }, { accessFlags := 0, nameIndex := 80, descriptorIndex := 81, attributes := #[] }, { accessFlags := 0, nameIndex := 82, descriptorIndex := 49, attributes := #[] }, { accessFlags := 0, nameIndex := 83, descriptorIndex := 49, attributes := #[] }, { accessFlags := 0, nameIndex := 84, descriptorIndex := 49, attributes := #[] }, { accessFlags := 0, nameIndex := 85, descriptorIndex := 86, attributes := #[] }, { accessFlags := 0, nameIndex := 22, descriptorIndex := 8, attributes := #[] }, { accessFlags := 10, nameIndex := 48, descriptorIndex := 49, attributes := #[] }] 48 10 #[] #[{ accessFlags := 26, nameIndex := 68, descriptorIndex := 26, attributes := #[] }, { accessFlags := 26, nameIndex := 71, descriptorIndex := 26, attributes := #[] }, { accessFlags := 26, nameIndex := 72, descriptorIndex := 26, attributes := #[] }, { accessFlags := 2, nameIndex := 18, descriptorIndex := 19, attributes := #[] }, { accessFlags := 2, nameIndex := 25, descriptorIndex := 26, attributes := #[] }, { accessFlags := 2, nameIndex := 29, descriptorIndex := 30, attributes := #[] }])
  fields := #[{ name := "LEAST_CAPACITY", type := .int, accessFlags := 26, slot := 0, constantValue := 0 }, { name := "PAGE_BITS", type := .int, accessFlags := 26, slot := 1, constantValue := 0 }, { name := "PAGE_SLOTS", type := .int, accessFlags := 26, slot := 2, constantValue := 0 }, { name := "pages", type := (.array (.array .int)), accessFlags := 2, slot := 0, constantValue := 0 }, { name := "mask", type := .int, accessFlags := 2, slot := 1, constantValue := 0 }, { name := "shared", type := .boolean, accessFlags := 2, slot := 2, constantValue := 0 }]
  methods := #[k4m0, k4m1, k4m2, k4m3, k4m4, k4m5, k4m6, k4m7, k4m8, k4m9]
  instanceTypes := #[(.array (.array .int)), .int, .boolean]
  staticTypes := #[.int, .int, .int]
  resolved := Array.replicate 90 none
  statics := none }

def pool5 : Array CpInfo := pool [(8, .class_ 10), (1, u "java/lang/Iterable"), (24, .class_ 36), (0, u "java/lang/Object")] 25

/-- java/lang/Iterable -/
def k5 : Class := { plain "java/lang/Iterable" (some 0) with
  accessFlags := 1537
  interfaces := #[]
  cf := some (fileOf pool5 8 #[] #[] 1537 35 #[] #[])
  fields := #[]
  methods := #[]
  instanceTypes := #[]
  staticTypes := #[]
  resolved := Array.replicate 62 none
  statics := none }

def pool6 : Array CpInfo := pool [(10, .class_ 12), (1, u "java/util/Collection"), (47, .class_ 61), (0, u "java/lang/Object"), (0, .class_ 63), (0, u "java/lang/Iterable")] 51

/-- java/util/Collection -/
def k6 : Class := { plain "java/util/Collection" (some 0) with
  accessFlags := 1537
  interfaces := #[5]
  cf := some (fileOf pool6 10 #[] #[] 1537 60 #[62] #[])
  fields := #[]
  methods := #[]
  instanceTypes := #[]
  staticTypes := #[]
  resolved := Array.replicate 115 none
  statics := none }

def pool7 : Array CpInfo := pool [(1, .methodref 2 3), (0, .class_ 4), (0, .nameAndType 5 6), (0, u "java/lang/Object"), (0, u "<init>"), (0, u "()V"), (1, .class_ 10), (1, u "java/util/AbstractCollection"), (66, .class_ 78), (0, u "java/util/Collection")] 81

def k7c0 : Code := { maxStack := 1, maxLocals := 1, code := jdk_22_method_1_code, exceptionTable := #[], attributes := #[] }
def k7m0 : Method := { name := "<init>", desc := "()V", sig := { parameters := [], returnType := none }, accessFlags := 4, code := some k7c0 }
/-- java/util/AbstractCollection -/
def k7 : Class := { plain "java/util/AbstractCollection" (some 0) with
  accessFlags := 1057
  interfaces := #[6]
  cf := some (fileOf pool7 8 #[] #[{ accessFlags := 4, nameIndex := 5, descriptorIndex := 6, attributes := #[] }] 1057 2 #[77] #[])
  fields := #[]
  methods := #[k7m0]
  instanceTypes := #[]
  staticTypes := #[]
  resolved := Array.replicate 160 none
  statics := none }

def pool8 : Array CpInfo := pool [(8, .class_ 10), (1, u "java/util/SequencedCollection"), (15, .class_ 27), (0, u "java/lang/Object"), (0, .class_ 29), (0, u "java/util/Collection")] 27

/-- java/util/SequencedCollection -/
def k8 : Class := { plain "java/util/SequencedCollection" (some 0) with
  accessFlags := 1537
  interfaces := #[6]
  cf := some (fileOf pool8 8 #[] #[] 1537 26 #[28] #[])
  fields := #[]
  methods := #[]
  instanceTypes := #[]
  staticTypes := #[]
  resolved := Array.replicate 57 none
  statics := none }

def pool9 : Array CpInfo := pool [(8, .class_ 10), (1, u "java/util/List"), (92, .class_ 104), (0, u "java/lang/Object"), (15, .class_ 121), (0, u "java/util/SequencedCollection")] 129

/-- java/util/List -/
def k9 : Class := { plain "java/util/List" (some 0) with
  accessFlags := 1537
  interfaces := #[8]
  cf := some (fileOf pool9 8 #[] #[] 1537 103 #[120] #[])
  fields := #[]
  methods := #[]
  instanceTypes := #[]
  staticTypes := #[]
  resolved := Array.replicate 251 none
  statics := none }

def pool10 : Array CpInfo := pool [(1, .methodref 2 3), (0, .class_ 4), (0, .nameAndType 5 6), (0, u "java/util/AbstractCollection"), (0, u "<init>"), (0, u "()V"), (0, .fieldref 8 9), (0, .class_ 10), (0, .nameAndType 11 12), (0, u "java/util/AbstractList"), (0, u "modCount"), (0, u "I"), (64, .class_ 78), (0, u "java/util/AbstractList$Itr"), (3, .class_ 83), (0, u "java/util/AbstractList$ListItr"), (9, .class_ 94), (0, u "java/util/AbstractList$RandomAccessSubList"), (3, .class_ 99), (0, u "java/util/AbstractList$SubList"), (33, .class_ 134), (0, u "java/util/List"), (73, .class_ 209), (0, u "java/util/AbstractList$SubList$1"), (0, .class_ 211), (0, u "java/util/AbstractList$RandomAccessSpliterator")] 6

def k10c0 : Code := { maxStack := 2, maxLocals := 1, code := jdk_39_method_1_code, exceptionTable := #[], attributes := #[] }
def k10m0 : Method := { name := "<init>", desc := "()V", sig := { parameters := [], returnType := none }, accessFlags := 4, code := some k10c0 }
/-- java/util/AbstractList -/
def k10 : Class := { plain "java/util/AbstractList" (some 7) with
  accessFlags := 1057
  interfaces := #[9]
  cf := some (fileOf pool10 8 #[.nestMembers #[93, 98, 208, 210, 82, 77]] #[{ accessFlags := 4, nameIndex := 5, descriptorIndex := 6, attributes := #[] }] 1057 2 #[133] #[{ accessFlags := 132, nameIndex := 11, descriptorIndex := 12, attributes := #[] }])
  fields := #[{ name := "modCount", type := .int, accessFlags := 132, slot := 0, constantValue := 0 }]
  methods := #[k10m0]
  instanceTypes := #[.int]
  staticTypes := #[]
  resolved := Array.replicate 218 none
  statics := none }

def pool11 : Array CpInfo := pool [(1, .class_ 2), (0, u "java/util/RandomAccess"), (0, .class_ 4), (0, u "java/lang/Object")] 2

/-- java/util/RandomAccess -/
def k11 : Class := { plain "java/util/RandomAccess" (some 0) with
  accessFlags := 1537
  interfaces := #[]
  cf := some (fileOf pool11 1 #[] #[] 1537 3 #[] #[])
  fields := #[]
  methods := #[]
  instanceTypes := #[]
  staticTypes := #[]
  resolved := Array.replicate 7 none
  statics := none }

def pool12 : Array CpInfo := pool [(1, .class_ 2), (0, u "java/lang/Cloneable"), (0, .class_ 4), (0, u "java/lang/Object")] 2

/-- java/lang/Cloneable -/
def k12 : Class := { plain "java/lang/Cloneable" (some 0) with
  accessFlags := 1537
  interfaces := #[]
  cf := some (fileOf pool12 1 #[] #[] 1537 3 #[] #[])
  fields := #[]
  methods := #[]
  instanceTypes := #[]
  staticTypes := #[]
  resolved := Array.replicate 7 none
  statics := none }

def pool13 : Array CpInfo := pool [(1, .class_ 2), (0, u "java/io/Serializable"), (0, .class_ 4), (0, u "java/lang/Object")] 2

/-- java/io/Serializable -/
def k13 : Class := { plain "java/io/Serializable" (some 0) with
  accessFlags := 1537
  interfaces := #[]
  cf := some (fileOf pool13 1 #[] #[] 1537 3 #[] #[])
  fields := #[]
  methods := #[]
  instanceTypes := #[]
  staticTypes := #[]
  resolved := Array.replicate 7 none
  statics := none }

def pool14 : Array CpInfo := pool [(1, .methodref 2 3), (0, .class_ 4), (0, .nameAndType 5 6), (0, u "java/util/AbstractList"), (0, u "<init>"), (0, u "()V"), (2, .fieldref 10 11), (0, .class_ 12), (0, .nameAndType 13 14), (0, u "java/util/ArrayList"), (0, u "elementData"), (0, u "[Ljava/lang/Object;"), (2, u "EMPTY_ELEMENTDATA"), (21, .fieldref 10 40), (0, .nameAndType 41 14), (0, u "DEFAULTCAPACITY_EMPTY_ELEMENTDATA"), (8, u "size"), (0, u "I"), (96, .class_ 149), (0, u "java/util/List"), (112, .class_ 263), (0, u "java/util/ArrayList$ListItr"), (3, .class_ 268), (0, u "java/util/ArrayList$Itr"), (7, .class_ 277), (0, u "java/util/ArrayList$SubList"), (12, .class_ 291), (0, u "java/util/ArrayList$ArrayListSpliterator"), (37, .class_ 330), (0, u "java/util/RandomAccess"), (0, .class_ 332), (0, u "java/lang/Cloneable"), (0, .class_ 334), (0, u "java/io/Serializable"), (0, u "serialVersionUID"), (0, u "J"), (3, u "DEFAULT_CAPACITY"), (159, .class_ 501), (0, u "java/util/ArrayList$SubList$2"), (0, .class_ 503), (0, u "java/util/ArrayList$SubList$1")] 5

def k14c0 : Code := { maxStack := 2, maxLocals := 1, code := jdk_38_method_2_code, exceptionTable := #[], attributes := #[] }
def k14m0 : Method := { name := "<init>", desc := "()V", sig := { parameters := [], returnType := none }, accessFlags := 1, code := some k14c0 }
/-- java/util/ArrayList -/
def k14 : Class := { plain "java/util/ArrayList" (some 10) with
  accessFlags := 33
  interfaces := #[9, 11, 12, 13]
  cf := some (fileOf pool14 10 #[.nestMembers #[290, 276, 500, 502, 262, 267]] #[{ accessFlags := 1, nameIndex := 5, descriptorIndex := 6, attributes := #[] }] 33 2 #[148, 329, 331, 333] #[{ accessFlags := 26, nameIndex := 335, descriptorIndex := 336, attributes := #[] }, { accessFlags := 26, nameIndex := 340, descriptorIndex := 51, attributes := #[] }, { accessFlags := 26, nameIndex := 17, descriptorIndex := 14, attributes := #[] }, { accessFlags := 26, nameIndex := 41, descriptorIndex := 14, attributes := #[] }, { accessFlags := 128, nameIndex := 13, descriptorIndex := 14, attributes := #[] }, { accessFlags := 2, nameIndex := 50, descriptorIndex := 51, attributes := #[] }])
  fields := #[{ name := "serialVersionUID", type := .long, accessFlags := 26, slot := 0, constantValue := 0 }, { name := "DEFAULT_CAPACITY", type := .int, accessFlags := 26, slot := 1, constantValue := 0 }, { name := "EMPTY_ELEMENTDATA", type := (.array (.object "java/lang/Object")), accessFlags := 26, slot := 2, constantValue := 0 }, { name := "DEFAULTCAPACITY_EMPTY_ELEMENTDATA", type := (.array (.object "java/lang/Object")), accessFlags := 26, slot := 3, constantValue := 0 }, { name := "elementData", type := (.array (.object "java/lang/Object")), accessFlags := 128, slot := 1, constantValue := 0 }, { name := "size", type := .int, accessFlags := 2, slot := 2, constantValue := 0 }]
  methods := #[k14m0]
  instanceTypes := #[.int, (.array (.object "java/lang/Object")), .int]
  staticTypes := #[.long, .int, (.array (.object "java/lang/Object")), (.array (.object "java/lang/Object"))]
  resolved := Array.replicate 509 none
  statics := some 0 }

def pool15 : Array CpInfo := pool [(1, .class_ 2), (0, u "java/lang/Math"), (1, .class_ 6), (1, u "java/lang/Object"), (0, u "<init>"), (0, u "()V"), (89, .class_ 100), (1, u "java/lang/Math$RandomNumberGeneratorHolder"), (71, u "negativeZeroFloatBits"), (0, u "J"), (2, u "negativeZeroDoubleBits"), (21, u "max"), (2, u "min"), (43, u "$assertionsDisabled"), (0, u "Z"), (88, u "(II)I"), (2, u "twoToTheDoubleScaleDown"), (0, u "D"), (4, u "twoToTheDoubleScaleUp"), (9, u "E"), (3, u "PI"), (2, u "TAU"), (2, u "DEGREES_TO_RADIANS"), (0, u "RADIANS_TO_DEGREES")] 94

def k15m0 : Method := { name := "<init>", desc := "()V", sig := { parameters := [], returnType := none }, accessFlags := 2, code := none }
def k15c1 : Code := { maxStack := 2, maxLocals := 2, code := jdk_29_method_65_code, exceptionTable := #[], attributes := #[] }
def k15m1 : Method := { name := "max", desc := "(II)I", sig := { parameters := [.int, .int], returnType := some .int }, accessFlags := 9, code := some k15c1 }
def k15c2 : Code := { maxStack := 2, maxLocals := 2, code := jdk_29_method_69_code, exceptionTable := #[], attributes := #[] }
def k15m2 : Method := { name := "min", desc := "(II)I", sig := { parameters := [.int, .int], returnType := some .int }, accessFlags := 9, code := some k15c2 }
/-- java/lang/Math -/
def k15 : Class := { plain "java/lang/Math" (some 0) with
  accessFlags := 49
  interfaces := #[]
  cf := some (fileOf pool15 1 #[.nestMembers #[98]] #[{ accessFlags := 2, nameIndex := 7, descriptorIndex := 8, attributes := #[] }, { accessFlags := 9, nameIndex := 198, descriptorIndex := 335, attributes := #[] }, { accessFlags := 9, nameIndex := 201, descriptorIndex := 335, attributes := #[] }] 49 4 #[] #[{ accessFlags := 25, nameIndex := 354, descriptorIndex := 339, attributes := #[] }, { accessFlags := 25, nameIndex := 358, descriptorIndex := 339, attributes := #[] }, { accessFlags := 25, nameIndex := 361, descriptorIndex := 339, attributes := #[] }, { accessFlags := 26, nameIndex := 364, descriptorIndex := 339, attributes := #[] }, { accessFlags := 26, nameIndex := 365, descriptorIndex := 339, attributes := #[] }, { accessFlags := 26, nameIndex := 172, descriptorIndex := 173, attributes := #[] }, { accessFlags := 26, nameIndex := 176, descriptorIndex := 173, attributes := #[] }, { accessFlags := 8, nameIndex := 344, descriptorIndex := 339, attributes := #[] }, { accessFlags := 8, nameIndex := 338, descriptorIndex := 339, attributes := #[] }, { accessFlags := 4120, nameIndex := 245, descriptorIndex := 246, attributes := #[] }])
  fields := #[{ name := "E", type := .double, accessFlags := 25, slot := 0, constantValue := 0 }, { name := "PI", type := .double, accessFlags := 25, slot := 1, constantValue := 0 }, { name := "TAU", type := .double, accessFlags := 25, slot := 2, constantValue := 0 }, { name := "DEGREES_TO_RADIANS", type := .double, accessFlags := 26, slot := 3, constantValue := 0 }, { name := "RADIANS_TO_DEGREES", type := .double, accessFlags := 26, slot := 4, constantValue := 0 }, { name := "negativeZeroFloatBits", type := .long, accessFlags := 26, slot := 5, constantValue := 0 }, { name := "negativeZeroDoubleBits", type := .long, accessFlags := 26, slot := 6, constantValue := 0 }, { name := "twoToTheDoubleScaleUp", type := .double, accessFlags := 8, slot := 7, constantValue := 0 }, { name := "twoToTheDoubleScaleDown", type := .double, accessFlags := 8, slot := 8, constantValue := 0 }, { name := "$assertionsDisabled", type := .boolean, accessFlags := 4120, slot := 9, constantValue := 0 }]
  methods := #[k15m0, k15m1, k15m2]
  instanceTypes := #[]
  staticTypes := #[.double, .double, .double, .double, .double, .long, .long, .double, .double, .boolean]
  resolved := Array.replicate 460 none
  statics := none }

def pool16 : Array CpInfo := pool [(2, .class_ 4), (1, u "java/lang/Object"), (0, u "<init>"), (0, u "()V"), (1, .class_ 10), (1, u "java/lang/Number"), (2, .class_ 14), (0, u "java/io/Serializable"), (0, u "serialVersionUID"), (0, u "J")] 20

def k16m0 : Method := { name := "<init>", desc := "()V", sig := { parameters := [], returnType := none }, accessFlags := 1, code := none }
/-- java/lang/Number -/
def k16 : Class := { plain "java/lang/Number" (some 0) with
  accessFlags := 1057
  interfaces := #[13]
  cf := some (fileOf pool16 8 #[] #[{ accessFlags := 1, nameIndex := 5, descriptorIndex := 6, attributes := #[] }] 1057 2 #[13] #[{ accessFlags := 26, nameIndex := 15, descriptorIndex := 16, attributes := #[] }])
  fields := #[{ name := "serialVersionUID", type := .long, accessFlags := 26, slot := 0, constantValue := 0 }]
  methods := #[k16m0]
  instanceTypes := #[]
  staticTypes := #[.long]
  resolved := Array.replicate 37 none
  statics := none }

def pool17 : Array CpInfo := pool [(1, .class_ 2), (0, u "java/lang/Comparable"), (0, .class_ 4), (0, u "java/lang/Object")] 7

/-- java/lang/Comparable -/
def k17 : Class := { plain "java/lang/Comparable" (some 0) with
  accessFlags := 1537
  interfaces := #[]
  cf := some (fileOf pool17 1 #[] #[] 1537 3 #[] #[])
  fields := #[]
  methods := #[]
  instanceTypes := #[]
  staticTypes := #[]
  resolved := Array.replicate 12 none
  statics := none }

def pool18 : Array CpInfo := pool [(1, .class_ 2), (0, u "java/lang/constant/Constable"), (0, .class_ 4), (0, u "java/lang/Object")] 6

/-- java/lang/constant/Constable -/
def k18 : Class := { plain "java/lang/constant/Constable" (some 0) with
  accessFlags := 1537
  interfaces := #[]
  cf := some (fileOf pool18 1 #[] #[] 1537 3 #[] #[])
  fields := #[]
  methods := #[]
  instanceTypes := #[]
  staticTypes := #[]
  resolved := Array.replicate 11 none
  statics := none }

def pool19 : Array CpInfo := pool [(1, .class_ 2), (0, u "java/lang/constant/ConstantDesc"), (0, .class_ 4), (0, u "java/lang/Object")] 32

/-- java/lang/constant/ConstantDesc -/
def k19 : Class := { plain "java/lang/constant/ConstantDesc" (some 0) with
  accessFlags := 1537
  interfaces := #[]
  cf := some (fileOf pool19 1 #[] #[] 1537 3 #[] #[])
  fields := #[]
  methods := #[]
  instanceTypes := #[]
  staticTypes := #[]
  resolved := Array.replicate 37 none
  statics := none }

def pool20 : Array CpInfo := pool [(1, .class_ 2), (0, u "java/lang/Integer"), (16, u "digits"), (0, u "[C"), (19, u "toUnsignedLong"), (0, u "(I)J"), (11, u "numberOfLeadingZeros"), (0, u "(I)I"), (30, u "DigitOnes"), (0, u "[B"), (2, u "DigitTens"), (99, .class_ 190), (0, u "java/lang/Integer$IntegerCache"), (3, u "I"), (8, .class_ 204), (0, u "java/lang/Number"), (2, u "value"), (54, .long 4294967295), (39, u "TYPE"), (0, u "Ljava/lang/Class;"), (0, .class_ 305), (0, u "java/lang/Comparable"), (0, .class_ 307), (0, u "java/lang/constant/Constable"), (0, .class_ 309), (0, u "java/lang/constant/ConstantDesc"), (0, u "MIN_VALUE"), (1, u "MAX_VALUE"), (3, u "SIZE"), (1, u "BYTES"), (1, u "serialVersionUID"), (0, u "J")] 131

def k20c0 : Code := { maxStack := 4, maxLocals := 1, code := jdk_33_method_42_code, exceptionTable := #[], attributes := #[] }
def k20m0 : Method := { name := "toUnsignedLong", desc := "(I)J", sig := { parameters := [.int], returnType := some .long }, accessFlags := 9, code := some k20c0 }
def k20c1 : Code := { maxStack := 3, maxLocals := 2, code := jdk_33_method_47_code, exceptionTable := #[], attributes := #[] }
def k20m1 : Method := { name := "numberOfLeadingZeros", desc := "(I)I", sig := { parameters := [.int], returnType := some .int }, accessFlags := 9, code := some k20c1 }
/-- java/lang/Integer -/
def k20 : Class := { plain "java/lang/Integer" (some 16) with
  accessFlags := 49
  interfaces := #[17, 18, 19]
  cf := some (fileOf pool20 1 #[.nestMembers #[189]] #[{ accessFlags := 9, nameIndex := 40, descriptorIndex := 41, attributes := #[] }, { accessFlags := 9, nameIndex := 53, descriptorIndex := 54, attributes := #[] }] 49 203 #[304, 306, 308] #[{ accessFlags := 25, nameIndex := 310, descriptorIndex := 194, attributes := #[] }, { accessFlags := 25, nameIndex := 312, descriptorIndex := 194, attributes := #[] }, { accessFlags := 25, nameIndex := 302, descriptorIndex := 303, attributes := #[] }, { accessFlags := 24, nameIndex := 19, descriptorIndex := 20, attributes := #[] }, { accessFlags := 24, nameIndex := 89, descriptorIndex := 86, attributes := #[] }, { accessFlags := 24, nameIndex := 85, descriptorIndex := 86, attributes := #[] }, { accessFlags := 18, nameIndex := 207, descriptorIndex := 194, attributes := #[] }, { accessFlags := 25, nameIndex := 316, descriptorIndex := 194, attributes := #[] }, { accessFlags := 25, nameIndex := 318, descriptorIndex := 194, attributes := #[] }, { accessFlags := 26, nameIndex := 320, descriptorIndex := 321, attributes := #[] }])
  fields := #[{ name := "MIN_VALUE", type := .int, accessFlags := 25, slot := 0, constantValue := 0 }, { name := "MAX_VALUE", type := .int, accessFlags := 25, slot := 1, constantValue := 0 }, { name := "TYPE", type := (.object "java/lang/Class"), accessFlags := 25, slot := 2, constantValue := 0 }, { name := "digits", type := (.array .char), accessFlags := 24, slot := 3, constantValue := 0 }, { name := "DigitTens", type := (.array .byte), accessFlags := 24, slot := 4, constantValue := 0 }, { name := "DigitOnes", type := (.array .byte), accessFlags := 24, slot := 5, constantValue := 0 }, { name := "value", type := .int, accessFlags := 18, slot := 0, constantValue := 0 }, { name := "SIZE", type := .int, accessFlags := 25, slot := 6, constantValue := 0 }, { name := "BYTES", type := .int, accessFlags := 25, slot := 7, constantValue := 0 }, { name := "serialVersionUID", type := .long, accessFlags := 26, slot := 8, constantValue := 0 }]
  methods := #[k20m0, k20m1]
  instanceTypes := #[.int]
  staticTypes := #[.int, .int, (.object "java/lang/Class"), (.array .char), (.array .byte), (.array .byte), .int, .int, .long]
  resolved := Array.replicate 453 none
  statics := none }

def pool21 : Array CpInfo := pool [(2, .class_ 4), (1, u "java/lang/CharSequence"), (42, .class_ 48), (0, u "java/lang/CharSequence$1CodePointIterator"), (10, .class_ 60), (0, u "java/lang/CharSequence$1CharIterator"), (5, .class_ 67), (0, u "java/lang/Object")] 63

/-- java/lang/CharSequence -/
def k21 : Class := { plain "java/lang/CharSequence" (some 0) with
  accessFlags := 1537
  interfaces := #[]
  cf := some (fileOf pool21 2 #[.nestMembers #[47, 59]] #[] 1537 66 #[] #[])
  fields := #[]
  methods := #[]
  instanceTypes := #[]
  staticTypes := #[]
  resolved := Array.replicate 131 none
  statics := none }

def pool22 : Array CpInfo := pool [(2, .class_ 4), (1, u "java/lang/Object"), (0, u "<init>"), (0, u "()V"), (3, .class_ 12), (1, u "java/lang/String"), (0, u "value"), (0, u "[B"), (2, u "coder"), (0, u "B"), (2, u "hash"), (0, u "I"), (2, u "hashIsZero"), (0, u "Z"), (13, u "COMPACT_STRINGS"), (534, .class_ 576), (0, u "java/lang/CharSequence"), (22, u "CASE_INSENSITIVE_ORDER"), (0, u "Ljava/util/Comparator;"), (500, u "serialPersistentFields"), (0, u "[Ljava/io/ObjectStreamField;"), (0, .class_ 1104), (0, u "java/lang/String$CaseInsensitiveComparator"), (1, .class_ 1107), (0, u "java/io/Serializable"), (0, .class_ 1109), (0, u "java/lang/Comparable"), (0, .class_ 1111), (0, u "java/lang/constant/Constable"), (0, .class_ 1113), (0, u "java/lang/constant/ConstantDesc"), (2, u "serialVersionUID"), (0, u "J"), (3, u "REPL"), (0, u "C"), (2, u "LATIN1"), (1, u "UTF16")] 323

def k22m0 : Method := { name := "<init>", desc := "()V", sig := { parameters := [], returnType := none }, accessFlags := 1, code := none }
/-- java/lang/String -/
def k22 : Class := { plain "java/lang/String" (some 0) with
  accessFlags := 49
  interfaces := #[13, 17, 21, 18, 19]
  cf := some (fileOf pool22 10 #[.nestMembers #[1103]] #[{ accessFlags := 1, nameIndex := 5, descriptorIndex := 6, attributes := #[] }] 49 2 #[1106, 1108, 575, 1110, 1112] #[{ accessFlags := 18, nameIndex := 13, descriptorIndex := 14, attributes := #[] }, { accessFlags := 18, nameIndex := 17, descriptorIndex := 18, attributes := #[] }, { accessFlags := 2, nameIndex := 21, descriptorIndex := 22, attributes := #[] }, { accessFlags := 2, nameIndex := 25, descriptorIndex := 26, attributes := #[] }, { accessFlags := 26, nameIndex := 1116, descriptorIndex := 1117, attributes := #[] }, { accessFlags := 24, nameIndex := 40, descriptorIndex := 26, attributes := #[] }, { accessFlags := 26, nameIndex := 1101, descriptorIndex := 1102, attributes := #[] }, { accessFlags := 26, nameIndex := 1121, descriptorIndex := 1122, attributes := #[] }, { accessFlags := 25, nameIndex := 599, descriptorIndex := 600, attributes := #[] }, { accessFlags := 24, nameIndex := 1125, descriptorIndex := 18, attributes := #[] }, { accessFlags := 24, nameIndex := 1127, descriptorIndex := 18, attributes := #[] }])
  fields := #[{ name := "value", type := (.array .byte), accessFlags := 18, slot := 0, constantValue := 0 }, { name := "coder", type := .byte, accessFlags := 18, slot := 1, constantValue := 0 }, { name := "hash", type := .int, accessFlags := 2, slot := 2, constantValue := 0 }, { name := "hashIsZero", type := .boolean, accessFlags := 2, slot := 3, constantValue := 0 }, { name := "serialVersionUID", type := .long, accessFlags := 26, slot := 0, constantValue := 0 }, { name := "COMPACT_STRINGS", type := .boolean, accessFlags := 24, slot := 1, constantValue := 0 }, { name := "serialPersistentFields", type := (.array (.object "java/io/ObjectStreamField")), accessFlags := 26, slot := 2, constantValue := 0 }, { name := "REPL", type := .char, accessFlags := 26, slot := 3, constantValue := 0 }, { name := "CASE_INSENSITIVE_ORDER", type := (.object "java/util/Comparator"), accessFlags := 25, slot := 4, constantValue := 0 }, { name := "LATIN1", type := .byte, accessFlags := 24, slot := 5, constantValue := 0 }, { name := "UTF16", type := .byte, accessFlags := 24, slot := 6, constantValue := 0 }]
  methods := #[k22m0]
  instanceTypes := #[(.array .byte), .byte, .int, .boolean]
  staticTypes := #[.long, .boolean, (.array (.object "java/io/ObjectStreamField")), .char, (.object "java/util/Comparator"), .byte, .byte]
  resolved := Array.replicate 1451 none
  statics := none }

def pool23 : Array CpInfo := pool [(3, .class_ 4), (0, u "com/example/verum/verum/Capacity"), (1, .class_ 8), (1, u "java/lang/Object"), (0, u "<init>"), (0, u "()V"), (4, u "check"), (0, u "(JJLjava/lang/String;)V"), (16, u "MOST_ELEMENTS"), (0, u "I"), (2, u "MOST_TWO_BYTE_UNITS")] 8

def k23m0 : Method := { name := "<init>", desc := "()V", sig := { parameters := [], returnType := none }, accessFlags := 2, code := none }
def k23c1 : Code := { maxStack := 5, maxLocals := 5, code := prog_5_method_3_code, exceptionTable := #[], attributes := #[] }
def k23m1 : Method := { name := "check", desc := "(JJLjava/lang/String;)V", sig := { parameters := [.long, .long, (.object "java/lang/String")], returnType := none }, accessFlags := 8, code := some k23c1 }
/-- com/example/verum/verum/Capacity -/
def k23 : Class := { plain "com/example/verum/verum/Capacity" (some 0) with
  accessFlags := 48
  interfaces := #[]
  cf := some (fileOf pool23 3 #[] #[{ accessFlags := 2, nameIndex := 9, descriptorIndex := 10, attributes := #[] }, { accessFlags := 8, nameIndex := 15, descriptorIndex := 16, attributes := #[] }] 48 6 #[] #[{ accessFlags := 24, nameIndex := 33, descriptorIndex := 34, attributes := #[] }, { accessFlags := 24, nameIndex := 37, descriptorIndex := 34, attributes := #[] }])
  fields := #[{ name := "MOST_ELEMENTS", type := .int, accessFlags := 24, slot := 0, constantValue := 0 }, { name := "MOST_TWO_BYTE_UNITS", type := .int, accessFlags := 24, slot := 1, constantValue := 0 }]
  methods := #[k23m0, k23m1]
  instanceTypes := #[]
  staticTypes := #[.int, .int]
  resolved := Array.replicate 46 none
  statics := none }

def pool24 : Array CpInfo := pool [(2, .class_ 4), (1, u "java/lang/Object"), (0, u "<init>"), (0, u "()V"), (1, .class_ 10), (1, u "java/lang/System"), (0, u "allowSecurityManager"), (0, u "I"), (16, u "cons"), (0, u "Ljava/io/Console;"), (77, .class_ 110), (1, u "java/lang/System$CallersHolder"), (43, u "initialErrStream"), (0, u "Ljava/io/PrintStream;"), (19, u "security"), (0, u "Ljava/lang/SecurityManager;"), (31, .class_ 209), (0, u "java/lang/System$1"), (7, u "props"), (0, u "Ljava/util/Properties;"), (2, u "lineSeparator"), (0, u "Ljava/lang/String;"), (96, .class_ 321), (1, u "java/lang/System$LoggerFinder"), (5, .class_ 328), (0, u "java/lang/System$Logger"), (67, u "err"), (2, u "out"), (91, u "notSupportedJnuEncoding"), (15, u "in"), (17, u "initialIn"), (0, u "Ljava/io/InputStream;"), (35, u "bootLayer"), (0, u "Ljava/lang/ModuleLayer;"), (99, .class_ 664), (0, u "java/lang/System$2"), (9, u "NEVER"), (2, u "MAYBE"), (49, u "arraycopy"), (0, u "(Ljava/lang/Object;ILjava/lang/Object;II)V"), (72, .class_ 802), (0, u "java/lang/System$Logger$Level")] 31

def k24m0 : Method := { name := "<init>", desc := "()V", sig := { parameters := [], returnType := none }, accessFlags := 2, code := none }
def k24m1 : Method := { name := "arraycopy", desc := "(Ljava/lang/Object;ILjava/lang/Object;II)V", sig := { parameters := [(.object "java/lang/Object"), .int, (.object "java/lang/Object"), .int, .int], returnType := none }, accessFlags := 265, code := none }
/-- java/lang/System -/
def k24 : Class := { plain "java/lang/System" (some 0) with
  accessFlags := 49
  interfaces := #[]
  cf := some (fileOf pool24 8 #[.nestMembers #[319, 327, 801, 108, 663, 208]] #[{ accessFlags := 2, nameIndex := 5, descriptorIndex := 6, attributes := #[] }, { accessFlags := 265, nameIndex := 727, descriptorIndex := 728, attributes := #[] }] 49 2 #[] #[{ accessFlags := 25, nameIndex := 507, descriptorIndex := 526, attributes := #[] }, { accessFlags := 25, nameIndex := 399, descriptorIndex := 155, attributes := #[] }, { accessFlags := 25, nameIndex := 396, descriptorIndex := 155, attributes := #[] }, { accessFlags := 10, nameIndex := 525, descriptorIndex := 526, attributes := #[] }, { accessFlags := 26, nameIndex := 674, descriptorIndex := 12, attributes := #[] }, { accessFlags := 26, nameIndex := 677, descriptorIndex := 12, attributes := #[] }, { accessFlags := 10, nameIndex := 11, descriptorIndex := 12, attributes := #[] }, { accessFlags := 74, nameIndex := 175, descriptorIndex := 176, attributes := #[] }, { accessFlags := 10, nameIndex := 491, descriptorIndex := 222, attributes := #[] }, { accessFlags := 74, nameIndex := 29, descriptorIndex := 30, attributes := #[] }, { accessFlags := 74, nameIndex := 154, descriptorIndex := 155, attributes := #[] }, { accessFlags := 10, nameIndex := 217, descriptorIndex := 218, attributes := #[] }, { accessFlags := 10, nameIndex := 221, descriptorIndex := 222, attributes := #[] }, { accessFlags := 8, nameIndex := 562, descriptorIndex := 563, attributes := #[] }])
  fields := #[{ name := "in", type := (.object "java/io/InputStream"), accessFlags := 25, slot := 0, constantValue := 0 }, { name := "out", type := (.object "java/io/PrintStream"), accessFlags := 25, slot := 1, constantValue := 0 }, { name := "err", type := (.object "java/io/PrintStream"), accessFlags := 25, slot := 2, constantValue := 0 }, { name := "initialIn", type := (.object "java/io/InputStream"), accessFlags := 10, slot := 3, constantValue := 0 }, { name := "NEVER", type := .int, accessFlags := 26, slot := 4, constantValue := 0 }, { name := "MAYBE", type := .int, accessFlags := 26, slot := 5, constantValue := 0 }, { name := "allowSecurityManager", type := .int, accessFlags := 10, slot := 6, constantValue := 0 }, { name := "security", type := (.object "java/lang/SecurityManager"), accessFlags := 74, slot := 7, constantValue := 0 }, { name := "notSupportedJnuEncoding", type := (.object "java/lang/String"), accessFlags := 10, slot := 8, constantValue := 0 }, { name := "cons", type := (.object "java/io/Console"), accessFlags := 74, slot := 9, constantValue := 0 }, { name := "initialErrStream", type := (.object "java/io/PrintStream"), accessFlags := 74, slot := 10, constantValue := 0 }, { name := "props", type := (.object "java/util/Properties"), accessFlags := 10, slot := 11, constantValue := 0 }, { name := "lineSeparator", type := (.object "java/lang/String"), accessFlags := 10, slot := 12, constantValue := 0 }, { name := "bootLayer", type := (.object "java/lang/ModuleLayer"), accessFlags := 8, slot := 13, constantValue := 0 }]
  methods := #[k24m0, k24m1]
  instanceTypes := #[]
  staticTypes := #[(.object "java/io/InputStream"), (.object "java/io/PrintStream"), (.object "java/io/PrintStream"), (.object "java/io/InputStream"), .int, .int, .int, (.object "java/lang/SecurityManager"), (.object "java/lang/String"), (.object "java/io/Console"), (.object "java/io/PrintStream"), (.object "java/util/Properties"), (.object "java/lang/String"), (.object "java/lang/ModuleLayer")]
  resolved := Array.replicate 834 none
  statics := none }

/-- the primitive byte -/
def k25 : Class := { plain "byte" none with kind := .primitive 'B', accessFlags := 0x411 }
/-- [B -/
def k26 : Class := { plain "[B" (some 0) with kind := .array 25 .byte, interfaces := #[12, 13], accessFlags := 1041 }

/-- the primitive int -/
def k27 : Class := { plain "int" none with kind := .primitive 'I', accessFlags := 0x411 }
/-- [I -/
def k28 : Class := { plain "[I" (some 0) with kind := .array 27 .int, interfaces := #[12, 13], accessFlags := 1041 }

/-- [Ljava/lang/Object; -/
def k29 : Class := { plain "[Ljava/lang/Object;" (some 0) with kind := .array 0 (.object "java/lang/Object"), interfaces := #[12, 13], accessFlags := 1041 }

/-- [[I -/
def k30 : Class := { plain "[[I" (some 0) with kind := .array 28 (.array .int), interfaces := #[12, 13], accessFlags := 1041 }

def heap : Heap := #[{ cls := 14, slots := #[.long 0, .int 0, .ref 1, .ref 2], vm := .statics 14 },
  { cls := 29, slots := #[], vm := .none },
  { cls := 29, slots := #[], vm := .none }]
def classes : Array Class := #[k0, k1, k2, k3, k4, k5, k6, k7, k8, k9, k10, k11, k12, k13, k14, k15, k16, k17, k18, k19, k20, k21, k22, k23, k24, k25, k26, k27, k28, k29, k30]
def interned : List (Array UInt16 × Addr) := []
def slotsUsed : Nat := 4
def theMethod : MethodId := ⟨1, 2⟩
def args0 : Array Value := #[.int 63, .int 1, .int 2, .int 3, .int 4]
def aboutOver (below : List Frame) : State where
  vm := { classes := classes, interned := interned.toArray }
  heap := heap
  slotsUsed := slotsUsed
  threads := #[{ frames := .invoking theMethod args0 :: below }]
def below0 : List Frame := [.native { method := ⟨0, 0⟩, args := #[] }]
def about1 : State := aboutOver below0
def p0 : Program := .bare "" "" ""
def e0 : Env := launch0.env 0 0 0
theorem w_frames : about1.frames = Frame.invoking theMethod args0 :: below0 := rfl
set_option maxRecDepth 65536 in
theorem w_args : argsFit about1.vm theMethod args0 = true := by decide +kernel
set_option maxRecDepth 65536 in
theorem w_heap : heapFits about1 = true := by decide +kernel
set_option maxRecDepth 65536 in
theorem w_runnable : about1.curStatus? = some .runnable := by decide +kernel
set_option maxRecDepth 65536 in
theorem w_alone : about1.alone = true := by decide +kernel
set_option maxRecDepth 65536 in
theorem w_named : about1.methodNamed? x = some theMethod := by decide +kernel
set_option maxRecDepth 65536 in
theorem w_hears : about1.hears theMethod below0 = true := by decide +kernel
set_option maxRecDepth 65536 in
theorem w_ripe : about1.ripe theMethod args0 below0 = true := by decide +kernel
theorem w_running : about1.status = .running := rfl
set_option maxRecDepth 65536 in
theorem w_room : about1.hasRoom e0.platform room_1 = true :=
  launch0.hasRoom_least _ room_1 (by decide +kernel) (by decide +kernel) (by decide +kernel) (by decide +kernel) (by decide +kernel) (by decide +kernel)
theorem allAtoms_all (ts : List Jvm.Cond) (a : Array Jvm.Value) (st : Jvm.State) : (allAtoms ts).before a st = ts.all (fun c => c.before a st) := by
  induction ts with
  | nil => rfl
  | cons c t ih =>
    show (Jvm.Cond.and c (allAtoms t)).before a st = _
    rw [Jvm.Cond.before_and, ih, List.all_cons]
def words1 : List Jvm.Cond := Jvm.Cond.code x code maxLocals ret :: tables_1
/-- a 'code' word, met by the world's own term for the bytes: nothing is compared byte by byte -/
theorem code_word {y : MethodName} {bytes : ByteArray} {mx : Nat} {rt : Option FieldType} {a : Array Value} {s : State} {m : MethodId} {meth : Method} {c : Code} (h1 : s.methodNamed? y = some m) (h2 : s.vm.method? m = some meth) (h3 : meth.code = some c) (h4 : c.code = bytes)
    (h5 : (c.maxLocals == mx && c.exceptionTable.isEmpty && decide (c.maxStack ≤ mostOperands) && decide (meth.sig.returnType = rt) && !meth.locks && decide (parseMethodDescriptor y.desc = some meth.sig)) = true) : (Jvm.Cond.code y bytes mx rt).before a s = true := by
  simp only [Bool.and_eq_true, beq_iff_eq, Bool.not_eq_true', decide_eq_true_eq] at h5
  obtain ⟨⟨⟨⟨⟨g1, g2⟩, g3⟩, g4⟩, g5⟩, g6⟩ := h5
  simp [Cond.before, Cond.holds, Cond.value, h1, h2, h3, h4, g1, g2, g3, g4, g5, g6]
def isCode : Jvm.Cond → Bool
  | .code _ _ _ _ => true
  | _ => false
theorem all_split {L : List Jvm.Cond} {P : Jvm.Cond → Bool} (h1 : L.all (fun c => isCode c || P c) = true) (h2 : ∀ c ∈ L.filter isCode, P c = true) : L.all P = true := by
  refine List.all_eq_true.mpr fun c hc => ?_
  have h := List.all_eq_true.mp h1 c hc
  rcases Bool.eq_false_or_eq_true (isCode c) with hi | hi
  · exact h2 c (List.mem_filter.mpr ⟨hc, hi⟩)
  · simpa [hi] using h
set_option maxRecDepth 65536 in
theorem w_c0 : (Jvm.Cond.code x code maxLocals ret).before args0 about1 = true := code_word (m := ⟨1, 2⟩) (meth := k1m2) (c := k1c2) (by decide +kernel) rfl rfl rfl (by decide +kernel)
set_option maxRecDepth 65536 in
theorem w_c1 : (Jvm.Cond.code ({ cls := "com/example/verum/verum/Relation", name := "<init>", desc := "(I)V" } : Jvm.MethodName) prog_70_method_1_code (3 : Nat) (Option.none : Option Jvm.ClassFile.FieldType)).before args0 about1 = true := code_word (m := ⟨3, 0⟩) (meth := k3m0) (c := k3c0) (by decide +kernel) rfl rfl rfl (by decide +kernel)
set_option maxRecDepth 65536 in
theorem w_c2 : (Jvm.Cond.code ({ cls := "java/lang/Object", name := "<init>", desc := "()V" } : Jvm.MethodName) object_method_1_code (1 : Nat) (Option.none : Option Jvm.ClassFile.FieldType)).before args0 about1 = true := code_word (m := ⟨0, 0⟩) (meth := k0m0) (c := k0c0) (by decide +kernel) rfl rfl rfl (by decide +kernel)
set_option maxRecDepth 65536 in
theorem w_c3 : (Jvm.Cond.code ({ cls := "com/example/verum/verum/HashSlots", name := "<init>", desc := "()V" } : Jvm.MethodName) prog_36_method_1_code (1 : Nat) (Option.none : Option Jvm.ClassFile.FieldType)).before args0 about1 = true := code_word (m := ⟨4, 0⟩) (meth := k4m0) (c := k4c0) (by decide +kernel) rfl rfl rfl (by decide +kernel)
set_option maxRecDepth 65536 in
theorem w_c4 : (Jvm.Cond.code ({ cls := "com/example/verum/verum/HashSlots", name := "<init>", desc := "(J)V" } : Jvm.MethodName) prog_36_method_2_code (3 : Nat) (Option.none : Option Jvm.ClassFile.FieldType)).before args0 about1 = true := code_word (m := ⟨4, 1⟩) (meth := k4m1) (c := k4c1) (by decide +kernel) rfl rfl rfl (by decide +kernel)
set_option maxRecDepth 65536 in
theorem w_c5 : (Jvm.Cond.code ({ cls := "com/example/verum/verum/HashSlots", name := "clear", desc := "(J)V" } : Jvm.MethodName) prog_36_method_12_code (6 : Nat) (Option.none : Option Jvm.ClassFile.FieldType)).before args0 about1 = true := code_word (m := ⟨4, 8⟩) (meth := k4m8) (c := k4c8) (by decide +kernel) rfl rfl rfl (by decide +kernel)
set_option maxRecDepth 65536 in
theorem w_c6 : (Jvm.Cond.code ({ cls := "java/util/ArrayList", name := "<init>", desc := "()V" } : Jvm.MethodName) jdk_38_method_2_code (1 : Nat) (Option.none : Option Jvm.ClassFile.FieldType)).before args0 about1 = true := code_word (m := ⟨14, 0⟩) (meth := k14m0) (c := k14c0) (by decide +kernel) rfl rfl rfl (by decide +kernel)
set_option maxRecDepth 65536 in
theorem w_c7 : (Jvm.Cond.code ({ cls := "java/util/AbstractList", name := "<init>", desc := "()V" } : Jvm.MethodName) jdk_39_method_1_code (1 : Nat) (Option.none : Option Jvm.ClassFile.FieldType)).before args0 about1 = true := code_word (m := ⟨10, 0⟩) (meth := k10m0) (c := k10c0) (by decide +kernel) rfl rfl rfl (by decide +kernel)
set_option maxRecDepth 65536 in
theorem w_c8 : (Jvm.Cond.code ({ cls := "java/util/AbstractCollection", name := "<init>", desc := "()V" } : Jvm.MethodName) jdk_22_method_1_code (1 : Nat) (Option.none : Option Jvm.ClassFile.FieldType)).before args0 about1 = true := code_word (m := ⟨7, 0⟩) (meth := k7m0) (c := k7c0) (by decide +kernel) rfl rfl rfl (by decide +kernel)
set_option maxRecDepth 65536 in
theorem w_c9 : (Jvm.Cond.code ({ cls := "java/lang/Math", name := "max", desc := "(II)I" } : Jvm.MethodName) jdk_29_method_65_code (2 : Nat) (Option.some Jvm.ClassFile.FieldType.int)).before args0 about1 = true := code_word (m := ⟨15, 1⟩) (meth := k15m1) (c := k15c1) (by decide +kernel) rfl rfl rfl (by decide +kernel)
set_option maxRecDepth 65536 in
theorem w_c10 : (Jvm.Cond.code ({ cls := "java/lang/Integer", name := "numberOfLeadingZeros", desc := "(I)I" } : Jvm.MethodName) jdk_33_method_47_code (2 : Nat) (Option.some Jvm.ClassFile.FieldType.int)).before args0 about1 = true := code_word (m := ⟨20, 1⟩) (meth := k20m1) (c := k20c1) (by decide +kernel) rfl rfl rfl (by decide +kernel)
set_option maxRecDepth 65536 in
theorem w_c11 : (Jvm.Cond.code ({ cls := "java/lang/Math", name := "min", desc := "(II)I" } : Jvm.MethodName) jdk_29_method_69_code (2 : Nat) (Option.some Jvm.ClassFile.FieldType.int)).before args0 about1 = true := code_word (m := ⟨15, 2⟩) (meth := k15m2) (c := k15c2) (by decide +kernel) rfl rfl rfl (by decide +kernel)
set_option maxRecDepth 65536 in
theorem w_c12 : (Jvm.Cond.code ({ cls := "com/example/verum/verum/RelationNextRoundPinLaw", name := "addIf", desc := "(Lcom/example/verum/verum/Relation;Z[I)I" } : Jvm.MethodName) method_2_code (3 : Nat) (Option.some Jvm.ClassFile.FieldType.int)).before args0 about1 = true := code_word (m := ⟨1, 1⟩) (meth := k1m1) (c := k1c1) (by decide +kernel) rfl rfl rfl (by decide +kernel)
set_option maxRecDepth 65536 in
theorem w_c13 : (Jvm.Cond.code ({ cls := "com/example/verum/verum/Relation", name := "nextRound", desc := "()Z" } : Jvm.MethodName) prog_70_method_26_code (1 : Nat) (Option.some Jvm.ClassFile.FieldType.boolean)).before args0 about1 = true := code_word (m := ⟨3, 6⟩) (meth := k3m6) (c := k3c6) (by decide +kernel) rfl rfl rfl (by decide +kernel)
set_option maxRecDepth 65536 in
theorem w_c14 : (Jvm.Cond.code ({ cls := "com/example/verum/verum/Relation", name := "deltaStart", desc := "()I" } : Jvm.MethodName) prog_70_method_23_code (1 : Nat) (Option.some Jvm.ClassFile.FieldType.int)).before args0 about1 = true := code_word (m := ⟨3, 3⟩) (meth := k3m3) (c := k3c3) (by decide +kernel) rfl rfl rfl (by decide +kernel)
set_option maxRecDepth 65536 in
theorem w_c15 : (Jvm.Cond.code ({ cls := "com/example/verum/verum/Relation", name := "deltaEnd", desc := "()I" } : Jvm.MethodName) prog_70_method_24_code (1 : Nat) (Option.some Jvm.ClassFile.FieldType.int)).before args0 about1 = true := code_word (m := ⟨3, 4⟩) (meth := k3m4) (c := k3c4) (by decide +kernel) rfl rfl rfl (by decide +kernel)
set_option maxRecDepth 65536 in
theorem w_c16 : (Jvm.Cond.code ({ cls := "com/example/verum/verum/Relation", name := "add", desc := "([I)Z" } : Jvm.MethodName) prog_70_method_7_code (3 : Nat) (Option.some Jvm.ClassFile.FieldType.boolean)).before args0 about1 = true := code_word (m := ⟨3, 1⟩) (meth := k3m1) (c := k3c1) (by decide +kernel) rfl rfl rfl (by decide +kernel)
set_option maxRecDepth 65536 in
theorem w_c17 : (Jvm.Cond.code ({ cls := "com/example/verum/verum/Relation", name := "addRow", desc := "([I)I" } : Jvm.MethodName) prog_70_method_8_code (4 : Nat) (Option.some Jvm.ClassFile.FieldType.int)).before args0 about1 = true := code_word (m := ⟨3, 2⟩) (meth := k3m2) (c := k3c2) (by decide +kernel) rfl rfl rfl (by decide +kernel)
set_option maxRecDepth 65536 in
theorem w_c18 : (Jvm.Cond.code ({ cls := "com/example/verum/verum/HashSlots", name := "hasRoomFor", desc := "(J)Z" } : Jvm.MethodName) prog_36_method_7_code (3 : Nat) (Option.some Jvm.ClassFile.FieldType.boolean)).before args0 about1 = true := code_word (m := ⟨4, 3⟩) (meth := k4m3) (c := k4c3) (by decide +kernel) rfl rfl rfl (by decide +kernel)
set_option maxRecDepth 65536 in
theorem w_c19 : (Jvm.Cond.code ({ cls := "com/example/verum/verum/HashSlots", name := "capacity", desc := "()J" } : Jvm.MethodName) prog_36_method_6_code (1 : Nat) (Option.some Jvm.ClassFile.FieldType.long)).before args0 about1 = true := code_word (m := ⟨4, 2⟩) (meth := k4m2) (c := k4c2) (by decide +kernel) rfl rfl rfl (by decide +kernel)
set_option maxRecDepth 65536 in
theorem w_c20 : (Jvm.Cond.code ({ cls := "java/lang/Integer", name := "toUnsignedLong", desc := "(I)J" } : Jvm.MethodName) jdk_33_method_42_code (1 : Nat) (Option.some Jvm.ClassFile.FieldType.long)).before args0 about1 = true := code_word (m := ⟨20, 0⟩) (meth := k20m0) (c := k20c0) (by decide +kernel) rfl rfl rfl (by decide +kernel)
set_option maxRecDepth 65536 in
theorem w_c21 : (Jvm.Cond.code ({ cls := "com/example/verum/verum/Relation", name := "probe", desc := "([I)I" } : Jvm.MethodName) prog_70_method_28_code (4 : Nat) (Option.some Jvm.ClassFile.FieldType.int)).before args0 about1 = true := code_word (m := ⟨3, 8⟩) (meth := k3m8) (c := k3c8) (by decide +kernel) rfl rfl rfl (by decide +kernel)
set_option maxRecDepth 65536 in
theorem w_c22 : (Jvm.Cond.code ({ cls := "com/example/verum/verum/Relation", name := "hash", desc := "([I)I" } : Jvm.MethodName) prog_70_method_30_code (4 : Nat) (Option.some Jvm.ClassFile.FieldType.int)).before args0 about1 = true := code_word (m := ⟨3, 10⟩) (meth := k3m10) (c := k3c10) (by decide +kernel) rfl rfl rfl (by decide +kernel)
set_option maxRecDepth 65536 in
theorem w_c23 : (Jvm.Cond.code ({ cls := "com/example/verum/verum/HashSlots", name := "first", desc := "(I)I" } : Jvm.MethodName) prog_36_method_8_code (2 : Nat) (Option.some Jvm.ClassFile.FieldType.int)).before args0 about1 = true := code_word (m := ⟨4, 4⟩) (meth := k4m4) (c := k4c4) (by decide +kernel) rfl rfl rfl (by decide +kernel)
set_option maxRecDepth 65536 in
theorem w_c24 : (Jvm.Cond.code ({ cls := "com/example/verum/verum/HashSlots", name := "spread", desc := "(I)I" } : Jvm.MethodName) prog_36_method_14_code (2 : Nat) (Option.some Jvm.ClassFile.FieldType.int)).before args0 about1 = true := code_word (m := ⟨4, 9⟩) (meth := k4m9) (c := k4c9) (by decide +kernel) rfl rfl rfl (by decide +kernel)
set_option maxRecDepth 65536 in
theorem w_c25 : (Jvm.Cond.code ({ cls := "com/example/verum/verum/HashSlots", name := "entry", desc := "(I)I" } : Jvm.MethodName) prog_36_method_10_code (2 : Nat) (Option.some Jvm.ClassFile.FieldType.int)).before args0 about1 = true := code_word (m := ⟨4, 6⟩) (meth := k4m6) (c := k4c6) (by decide +kernel) rfl rfl rfl (by decide +kernel)
set_option maxRecDepth 65536 in
theorem w_c26 : (Jvm.Cond.code ({ cls := "com/example/verum/verum/Capacity", name := "check", desc := "(JJLjava/lang/String;)V" } : Jvm.MethodName) prog_5_method_3_code (5 : Nat) (Option.none : Option Jvm.ClassFile.FieldType)).before args0 about1 = true := code_word (m := ⟨23, 1⟩) (meth := k23m1) (c := k23c1) (by decide +kernel) rfl rfl rfl (by decide +kernel)
set_option maxRecDepth 65536 in
theorem w_c27 : (Jvm.Cond.code ({ cls := "com/example/verum/verum/Relation", name := "unshare", desc := "()V" } : Jvm.MethodName) prog_70_method_35_code (2 : Nat) (Option.none : Option Jvm.ClassFile.FieldType)).before args0 about1 = true := code_word (m := ⟨3, 13⟩) (meth := k3m13) (c := k3c13) (by decide +kernel) rfl rfl rfl (by decide +kernel)
set_option maxRecDepth 65536 in
theorem w_c28 : (Jvm.Cond.code ({ cls := "com/example/verum/verum/Relation", name := "pageOfNextRow", desc := "()[I" } : Jvm.MethodName) prog_70_method_33_code (2 : Nat) (Option.some (Jvm.ClassFile.FieldType.array Jvm.ClassFile.FieldType.int))).before args0 about1 = true := code_word (m := ⟨3, 12⟩) (meth := k3m12) (c := k3c12) (by decide +kernel) rfl rfl rfl (by decide +kernel)
set_option maxRecDepth 65536 in
theorem w_c29 : (Jvm.Cond.code ({ cls := "com/example/verum/verum/Relation", name := "offset", desc := "(I)I" } : Jvm.MethodName) prog_70_method_32_code (2 : Nat) (Option.some Jvm.ClassFile.FieldType.int)).before args0 about1 = true := code_word (m := ⟨3, 11⟩) (meth := k3m11) (c := k3c11) (by decide +kernel) rfl rfl rfl (by decide +kernel)
set_option maxRecDepth 65536 in
theorem w_c30 : (Jvm.Cond.code ({ cls := "com/example/verum/verum/HashSlots", name := "put", desc := "(II)V" } : Jvm.MethodName) prog_36_method_11_code (4 : Nat) (Option.none : Option Jvm.ClassFile.FieldType)).before args0 about1 = true := code_word (m := ⟨4, 7⟩) (meth := k4m7) (c := k4c7) (by decide +kernel) rfl rfl rfl (by decide +kernel)
set_option maxRecDepth 65536 in
theorem w_c31 : (Jvm.Cond.code ({ cls := "com/example/verum/verum/Relation", name := "beginFixpoint", desc := "()V" } : Jvm.MethodName) prog_70_method_25_code (1 : Nat) (Option.none : Option Jvm.ClassFile.FieldType)).before args0 about1 = true := code_word (m := ⟨3, 5⟩) (meth := k3m5) (c := k3c5) (by decide +kernel) rfl rfl rfl (by decide +kernel)
set_option maxRecDepth 65536 in
theorem w_c32 : (Jvm.Cond.code ({ cls := "com/example/verum/verum/Relation", name := "rowEquals", desc := "(I[I)Z" } : Jvm.MethodName) prog_70_method_29_code (6 : Nat) (Option.some Jvm.ClassFile.FieldType.boolean)).before args0 about1 = true := code_word (m := ⟨3, 9⟩) (meth := k3m9) (c := k3c9) (by decide +kernel) rfl rfl rfl (by decide +kernel)
set_option maxRecDepth 65536 in
theorem w_c33 : (Jvm.Cond.code ({ cls := "com/example/verum/verum/Relation", name := "settle", desc := "()V" } : Jvm.MethodName) prog_70_method_27_code (1 : Nat) (Option.none : Option Jvm.ClassFile.FieldType)).before args0 about1 = true := code_word (m := ⟨3, 7⟩) (meth := k3m7) (c := k3c7) (by decide +kernel) rfl rfl rfl (by decide +kernel)
set_option maxRecDepth 65536 in
theorem w_c34 : (Jvm.Cond.code ({ cls := "com/example/verum/verum/HashSlots", name := "next", desc := "(I)I" } : Jvm.MethodName) prog_36_method_9_code (2 : Nat) (Option.some Jvm.ClassFile.FieldType.int)).before args0 about1 = true := code_word (m := ⟨4, 5⟩) (meth := k4m5) (c := k4c5) (by decide +kernel) rfl rfl rfl (by decide +kernel)
def codes1 : List Jvm.Cond := [Jvm.Cond.code x code maxLocals ret, Jvm.Cond.code ({ cls := "com/example/verum/verum/Relation", name := "<init>", desc := "(I)V" } : Jvm.MethodName) prog_70_method_1_code (3 : Nat) (Option.none : Option Jvm.ClassFile.FieldType), Jvm.Cond.code ({ cls := "java/lang/Object", name := "<init>", desc := "()V" } : Jvm.MethodName) object_method_1_code (1 : Nat) (Option.none : Option Jvm.ClassFile.FieldType), Jvm.Cond.code ({ cls := "com/example/verum/verum/HashSlots", name := "<init>", desc := "()V" } : Jvm.MethodName) prog_36_method_1_code (1 : Nat) (Option.none : Option Jvm.ClassFile.FieldType), Jvm.Cond.code ({ cls := "com/example/verum/verum/HashSlots", name := "<init>", desc := "(J)V" } : Jvm.MethodName) prog_36_method_2_code (3 : Nat) (Option.none : Option Jvm.ClassFile.FieldType), Jvm.Cond.code ({ cls := "com/example/verum/verum/HashSlots", name := "clear", desc := "(J)V" } : Jvm.MethodName) prog_36_method_12_code (6 : Nat) (Option.none : Option Jvm.ClassFile.FieldType), Jvm.Cond.code ({ cls := "java/util/ArrayList", name := "<init>", desc := "()V" } : Jvm.MethodName) jdk_38_method_2_code (1 : Nat) (Option.none : Option Jvm.ClassFile.FieldType), Jvm.Cond.code ({ cls := "java/util/AbstractList", name := "<init>", desc := "()V" } : Jvm.MethodName) jdk_39_method_1_code (1 : Nat) (Option.none : Option Jvm.ClassFile.FieldType), Jvm.Cond.code ({ cls := "java/util/AbstractCollection", name := "<init>", desc := "()V" } : Jvm.MethodName) jdk_22_method_1_code (1 : Nat) (Option.none : Option Jvm.ClassFile.FieldType), Jvm.Cond.code ({ cls := "java/lang/Math", name := "max", desc := "(II)I" } : Jvm.MethodName) jdk_29_method_65_code (2 : Nat) (Option.some Jvm.ClassFile.FieldType.int), Jvm.Cond.code ({ cls := "java/lang/Integer", name := "numberOfLeadingZeros", desc := "(I)I" } : Jvm.MethodName) jdk_33_method_47_code (2 : Nat) (Option.some Jvm.ClassFile.FieldType.int), Jvm.Cond.code ({ cls := "java/lang/Math", name := "min", desc := "(II)I" } : Jvm.MethodName) jdk_29_method_69_code (2 : Nat) (Option.some Jvm.ClassFile.FieldType.int), Jvm.Cond.code ({ cls := "com/example/verum/verum/RelationNextRoundPinLaw", name := "addIf", desc := "(Lcom/example/verum/verum/Relation;Z[I)I" } : Jvm.MethodName) method_2_code (3 : Nat) (Option.some Jvm.ClassFile.FieldType.int), Jvm.Cond.code ({ cls := "com/example/verum/verum/Relation", name := "nextRound", desc := "()Z" } : Jvm.MethodName) prog_70_method_26_code (1 : Nat) (Option.some Jvm.ClassFile.FieldType.boolean), Jvm.Cond.code ({ cls := "com/example/verum/verum/Relation", name := "deltaStart", desc := "()I" } : Jvm.MethodName) prog_70_method_23_code (1 : Nat) (Option.some Jvm.ClassFile.FieldType.int), Jvm.Cond.code ({ cls := "com/example/verum/verum/Relation", name := "deltaEnd", desc := "()I" } : Jvm.MethodName) prog_70_method_24_code (1 : Nat) (Option.some Jvm.ClassFile.FieldType.int), Jvm.Cond.code ({ cls := "com/example/verum/verum/Relation", name := "add", desc := "([I)Z" } : Jvm.MethodName) prog_70_method_7_code (3 : Nat) (Option.some Jvm.ClassFile.FieldType.boolean), Jvm.Cond.code ({ cls := "com/example/verum/verum/Relation", name := "addRow", desc := "([I)I" } : Jvm.MethodName) prog_70_method_8_code (4 : Nat) (Option.some Jvm.ClassFile.FieldType.int), Jvm.Cond.code ({ cls := "com/example/verum/verum/HashSlots", name := "hasRoomFor", desc := "(J)Z" } : Jvm.MethodName) prog_36_method_7_code (3 : Nat) (Option.some Jvm.ClassFile.FieldType.boolean), Jvm.Cond.code ({ cls := "com/example/verum/verum/HashSlots", name := "capacity", desc := "()J" } : Jvm.MethodName) prog_36_method_6_code (1 : Nat) (Option.some Jvm.ClassFile.FieldType.long), Jvm.Cond.code ({ cls := "java/lang/Integer", name := "toUnsignedLong", desc := "(I)J" } : Jvm.MethodName) jdk_33_method_42_code (1 : Nat) (Option.some Jvm.ClassFile.FieldType.long), Jvm.Cond.code ({ cls := "com/example/verum/verum/Relation", name := "probe", desc := "([I)I" } : Jvm.MethodName) prog_70_method_28_code (4 : Nat) (Option.some Jvm.ClassFile.FieldType.int), Jvm.Cond.code ({ cls := "com/example/verum/verum/Relation", name := "hash", desc := "([I)I" } : Jvm.MethodName) prog_70_method_30_code (4 : Nat) (Option.some Jvm.ClassFile.FieldType.int), Jvm.Cond.code ({ cls := "com/example/verum/verum/HashSlots", name := "first", desc := "(I)I" } : Jvm.MethodName) prog_36_method_8_code (2 : Nat) (Option.some Jvm.ClassFile.FieldType.int), Jvm.Cond.code ({ cls := "com/example/verum/verum/HashSlots", name := "spread", desc := "(I)I" } : Jvm.MethodName) prog_36_method_14_code (2 : Nat) (Option.some Jvm.ClassFile.FieldType.int), Jvm.Cond.code ({ cls := "com/example/verum/verum/HashSlots", name := "entry", desc := "(I)I" } : Jvm.MethodName) prog_36_method_10_code (2 : Nat) (Option.some Jvm.ClassFile.FieldType.int), Jvm.Cond.code ({ cls := "com/example/verum/verum/Capacity", name := "check", desc := "(JJLjava/lang/String;)V" } : Jvm.MethodName) prog_5_method_3_code (5 : Nat) (Option.none : Option Jvm.ClassFile.FieldType), Jvm.Cond.code ({ cls := "com/example/verum/verum/Relation", name := "unshare", desc := "()V" } : Jvm.MethodName) prog_70_method_35_code (2 : Nat) (Option.none : Option Jvm.ClassFile.FieldType), Jvm.Cond.code ({ cls := "com/example/verum/verum/Relation", name := "pageOfNextRow", desc := "()[I" } : Jvm.MethodName) prog_70_method_33_code (2 : Nat) (Option.some (Jvm.ClassFile.FieldType.array Jvm.ClassFile.FieldType.int)), Jvm.Cond.code ({ cls := "com/example/verum/verum/Relation", name := "offset", desc := "(I)I" } : Jvm.MethodName) prog_70_method_32_code (2 : Nat) (Option.some Jvm.ClassFile.FieldType.int), Jvm.Cond.code ({ cls := "com/example/verum/verum/HashSlots", name := "put", desc := "(II)V" } : Jvm.MethodName) prog_36_method_11_code (4 : Nat) (Option.none : Option Jvm.ClassFile.FieldType), Jvm.Cond.code ({ cls := "com/example/verum/verum/Relation", name := "beginFixpoint", desc := "()V" } : Jvm.MethodName) prog_70_method_25_code (1 : Nat) (Option.none : Option Jvm.ClassFile.FieldType), Jvm.Cond.code ({ cls := "com/example/verum/verum/Relation", name := "rowEquals", desc := "(I[I)Z" } : Jvm.MethodName) prog_70_method_29_code (6 : Nat) (Option.some Jvm.ClassFile.FieldType.boolean), Jvm.Cond.code ({ cls := "com/example/verum/verum/Relation", name := "settle", desc := "()V" } : Jvm.MethodName) prog_70_method_27_code (1 : Nat) (Option.none : Option Jvm.ClassFile.FieldType), Jvm.Cond.code ({ cls := "com/example/verum/verum/HashSlots", name := "next", desc := "(I)I" } : Jvm.MethodName) prog_36_method_9_code (2 : Nat) (Option.some Jvm.ClassFile.FieldType.int)]
set_option maxRecDepth 65536 in
theorem codes_eq : words1.filter isCode = codes1 := rfl
theorem w_codes : ∀ c ∈ words1.filter isCode, c.before args0 about1 = true := by
  rw [codes_eq]
  intro c hc
  simp only [codes1, List.mem_cons, List.not_mem_nil, or_false] at hc
  rcases hc with rfl | rfl | rfl | rfl | rfl | rfl | rfl | rfl | rfl | rfl | rfl | rfl | rfl | rfl | rfl | rfl | rfl | rfl | rfl | rfl | rfl | rfl | rfl | rfl | rfl | rfl | rfl | rfl | rfl | rfl | rfl | rfl | rfl | rfl | rfl
  · exact w_c0
  · exact w_c1
  · exact w_c2
  · exact w_c3
  · exact w_c4
  · exact w_c5
  · exact w_c6
  · exact w_c7
  · exact w_c8
  · exact w_c9
  · exact w_c10
  · exact w_c11
  · exact w_c12
  · exact w_c13
  · exact w_c14
  · exact w_c15
  · exact w_c16
  · exact w_c17
  · exact w_c18
  · exact w_c19
  · exact w_c20
  · exact w_c21
  · exact w_c22
  · exact w_c23
  · exact w_c24
  · exact w_c25
  · exact w_c26
  · exact w_c27
  · exact w_c28
  · exact w_c29
  · exact w_c30
  · exact w_c31
  · exact w_c32
  · exact w_c33
  · exact w_c34
set_option maxRecDepth 65536 in
theorem w_t1 : (words1.take 24).all (fun c => isCode c || c.before args0 about1) = true := by decide +kernel
set_option maxRecDepth 65536 in
theorem w_t2 : ((words1.drop 24).take 24).all (fun c => isCode c || c.before args0 about1) = true := by decide +kernel
set_option maxRecDepth 65536 in
theorem w_t3 : (((words1.drop 24).drop 24).take 24).all (fun c => isCode c || c.before args0 about1) = true := by decide +kernel
set_option maxRecDepth 65536 in
theorem w_t4 : ((((words1.drop 24).drop 24).drop 24).take 24).all (fun c => isCode c || c.before args0 about1) = true := by decide +kernel
set_option maxRecDepth 65536 in
theorem w_t5 : (((((words1.drop 24).drop 24).drop 24).drop 24).take 24).all (fun c => isCode c || c.before args0 about1) = true := by decide +kernel
set_option maxRecDepth 65536 in
theorem w_t6 : ((((((words1.drop 24).drop 24).drop 24).drop 24).drop 24).take 24).all (fun c => isCode c || c.before args0 about1) = true := by decide +kernel
set_option maxRecDepth 65536 in
theorem w_t7 : (((((((words1.drop 24).drop 24).drop 24).drop 24).drop 24).drop 24).take 24).all (fun c => isCode c || c.before args0 about1) = true := by decide +kernel
set_option maxRecDepth 65536 in
theorem w_t8 : ((((((((words1.drop 24).drop 24).drop 24).drop 24).drop 24).drop 24).drop 24).take 24).all (fun c => isCode c || c.before args0 about1) = true := by decide +kernel
set_option maxRecDepth 65536 in
theorem w_t9 : (((((((((words1.drop 24).drop 24).drop 24).drop 24).drop 24).drop 24).drop 24).drop 24).take 24).all (fun c => isCode c || c.before args0 about1) = true := by decide +kernel
set_option maxRecDepth 65536 in
theorem w_t10 : (((((((((words1.drop 24).drop 24).drop 24).drop 24).drop 24).drop 24).drop 24).drop 24).drop 24).all (fun c => isCode c || c.before args0 about1) = true := by decide +kernel
theorem w_tables : (allAtoms (Jvm.Cond.code x code maxLocals ret :: tables_1)).before args0 about1 = true := by
  rw [allAtoms_all]
  show words1.all (fun c => c.before args0 about1) = true
  refine all_split ?_ w_codes
  rw [← List.take_append_drop 24 words1, List.all_append, w_t1, ← List.take_append_drop 24 (words1.drop 24), List.all_append, w_t2, ← List.take_append_drop 24 ((words1.drop 24).drop 24), List.all_append, w_t3, ← List.take_append_drop 24 (((words1.drop 24).drop 24).drop 24), List.all_append, w_t4, ← List.take_append_drop 24 ((((words1.drop 24).drop 24).drop 24).drop 24), List.all_append, w_t5, ← List.take_append_drop 24 (((((words1.drop 24).drop 24).drop 24).drop 24).drop 24), List.all_append, w_t6, ← List.take_append_drop 24 ((((((words1.drop 24).drop 24).drop 24).drop 24).drop 24).drop 24), List.all_append, w_t7, ← List.take_append_drop 24 (((((((words1.drop 24).drop 24).drop 24).drop 24).drop 24).drop 24).drop 24), List.all_append, w_t8, ← List.take_append_drop 24 ((((((((words1.drop 24).drop 24).drop 24).drop 24).drop 24).drop 24).drop 24).drop 24), List.all_append, w_t9, w_t10]
  rfl
set_option maxRecDepth 65536 in
theorem w_rest : rest_1_c.before args0 about1 = true := by decide +kernel
set_option maxRecDepth 65536 in
theorem w_case : (Jvm.Cond.and given_1 narrow_1).before args0 about1 = true := by decide +kernel
theorem w_applies : (headSpec (Jvm.Cond.code x code maxLocals ret :: tables_1) room_1).applies x e0.platform about1 = true :=
  (Spec.applies_iff w_frames).mpr ⟨w_running, w_runnable, w_alone, w_named, w_hears, w_ripe, w_room, w_tables⟩
theorem atStart : AtStart classFile x code maxLocals ret World_1 tables_1 room_1 Calls_1 rest_1 Pre_1 launch0 p0 e0 about1 theMethod args0 below0 :=
  ⟨lists_1, trivial, launch0.admits_env _ _ _, launch0.least_env, fairChoices_fair.cas, fairChoices_fair.clock, w_frames, w_args, w_heap, w_applies, trivial, w_rest, w_case⟩
end start1
theorem witness_1 : WitnessClaimed_1 := ⟨start1.p0, start1.e0, start1.about1, start1.theMethod, start1.args0, start1.below0, start1.atStart⟩
end Jvm.Pilot.@@N@@
