import JvmDerived
import JvmDerived.Pilot.@@N@@Statement
import JvmDerived.Pilot.@@N@@Code
set_option linter.unusedVariables false
set_option linter.unusedSimpArgs false
namespace Jvm.Pilot.@@N@@
open Jvm Jvm.ClassFile Sem Op Lib Jvm.Free Jvm.Stand Jvm.LawKit Jvm.RoadKit Bundle Jvm.Pilot.@@N@@.Jvm.D
/-- from S0 the run comes to T with the frame g -/
abbrev Rch (p : Program) (e : Env) (below : List Frame) (S0 T : State) (g : JFrame) : Prop := ∀ t, Steps p.tables e below (T.setTop g) t → Steps p.tables e below S0 t
abbrev Con (l : Launch) (Z : State) (y : MethodName) (bytes : ByteArray) (maxL : Nat) (ret : Option FieldType) (ws : List Jvm.Cond) (rm : Room) (as' : Array Value) (h : Heap) (Q : Option Value → Heap → List Loc → Prop) : Prop :=
  MetFree l y (head1 (Jvm.Cond.code y bytes maxL ret :: ws) rm) (fun a U => a = as' ∧ Z.Warmed39 U.vm ∧ U.heap = h) (fun _ _ _ _ _ => True) (fun _ U o U' => ∃ v L, o = .returned v ∧ Q v U'.heap L ∧ FrameEnd U o U' L rm.cells rm.slots)
section OwnKit
variable {p : Program} {l : Launch} {e : Env} {R : Room} {s : State} {m : MethodId} {args : Array Value} {below : List Frame} {meth : Method} {c : Code} {T : State} {locs : List Loc} {cells slots : Nat} {Z : State} {a0 : Array Value} {h : Heap}
theorem own_callS (X : Stand p l e R s m args below meth c T locs cells slots) (hx : p.tables.exec = Jvm.exec) (hZ : Z.Warmed39 s.vm) {own : String} {index : Nat} {y : MethodName} {bytes : ByteArray} {maxL : Nat} {ret : Option FieldType} {rm : Room} {as' : Array Value} {Q : Option Value → Heap → List Loc → Prop}
    (hown : s.vm.findClass own = some m.cls) (w1 : (Cond.methodLink own index y).before a0 Z = true) (w2 : (Cond.static y).before a0 Z = true) (w3 : (Cond.initialized y.cls).before a0 Z = true) (w4 : (Cond.code y bytes maxL ret).before a0 Z = true)
    (hy : y.cls ≠ "java/lang/invoke/MethodHandle" ∧ y.cls ≠ "java/lang/invoke/VarHandle") (hM : Con l Z y bytes maxL ret [] rm as' h Q) (eT : T.heap = h)
    {g : JFrame} (hg : g.method = m) (hsize : g.locals.size = c.maxLocals) {argsL rest : List Value} (has : as' = argsL.toArray) (hlen : ∀ sig, parseMethodDescriptor y.desc = some sig → argsL.length = sig.parameters.length) (hs : g.stack = argsL.reverse ++ rest) {W : Nat} (hW : 2 * g.monitorRoom + (rest.map fun v => v.category).sum ≤ W)
    (hd : decode c.code g.pc = .ok (.invokestatic index, 3)) (hf : rm.frames + 1 ≤ R.frames) (hl : W + (maxL + 11) + rm.locals ≤ R.locals) (hc : cells + rm.cells ≤ R.cells) (hsl : slots + rm.slots ≤ R.slots) :
    ∃ (v : Option Value) (T' : State) (h' : Heap) (Lc : List Loc), Stand p l e R s m args below meth c T' (locs ++ Lc) (cells + rm.cells) (slots + rm.slots) ∧ T'.heap = h' ∧ Q v h' Lc ∧
      ∀ target, Steps p.tables e below (T'.setTop { g with pc := g.pc + 3, stack := v.toList ++ rest }) target → Steps p.tables e below (T.setTop g) target := by
  obtain ⟨v, _, ⟨T', L', k', n'⟩, -, X', ⟨Lc, hQ, hl', hk', hn'⟩, st⟩ := Jvm.LawKit.callS X hx (y := y) hown (mvT hZ w1) (mvT hZ w2) (mvT hZ w3) (mvT hZ w4) hy (backOf (W := W) hM hZ w4 w3 hf hl) hg hsize hlen hs hW hd (fun _ _ => ⟨has.symm, eT, hc, hsl⟩)
  dsimp only [Pt.U, Pt.locs, Pt.cells, Pt.slots] at X' hl' hk' hn' st hQ
  subst hl' hk' hn'
  exact ⟨v, T', _, Lc, X', rfl, hQ, st⟩
theorem own_callV (X : Stand p l e R s m args below meth c T locs cells slots) (hx : p.tables.exec = Jvm.exec) (hZ : Z.Warmed39 s.vm) {own C : String} {index : Nat} {y z : MethodName} {bytes : ByteArray} {maxL : Nat} {ret : Option FieldType} {rm : Room} {as' : Array Value} {Q : Option Value → Heap → List Loc → Prop}
    (hown : s.vm.findClass own = some m.cls) (w1 : (Cond.methodLink own index y).before a0 Z = true) (w2 : (Cond.declares y).before a0 Z = true) (nf : NotFace s y) (w3 : (Cond.selects C y z).before a0 Z = true) (w4 : (Cond.instanceMethod z).before a0 Z = true) (w5 : (Cond.code z bytes maxL ret).before a0 Z = true) (w6 : (Cond.initialized z.cls).before a0 Z = true)
    (hy : y.cls ≠ "java/lang/invoke/MethodHandle" ∧ y.cls ≠ "java/lang/invoke/VarHandle") (hM : Con l Z z bytes maxL ret [] rm as' h Q) (eT : T.heap = h) {a : Addr} (E : Exa Z h a C)
    {g : JFrame} (hg : g.method = m) (hsize : g.locals.size = c.maxLocals) {argsL rest : List Value} (has : as' = (Value.ref a :: argsL).toArray) (hlen : ∀ sig, parseMethodDescriptor y.desc = some sig → argsL.length = sig.parameters.length) (hs : g.stack = argsL.reverse ++ .ref a :: rest) {W : Nat} (hW : 2 * g.monitorRoom + (rest.map fun v => v.category).sum ≤ W)
    (hd : decode c.code g.pc = .ok (.invokevirtual index, 3)) (hf : rm.frames + 1 ≤ R.frames) (hl : W + (maxL + 11) + rm.locals ≤ R.locals) (hc : cells + rm.cells ≤ R.cells) (hsl : slots + rm.slots ≤ R.slots) :
    ∃ (v : Option Value) (T' : State) (h' : Heap) (Lc : List Loc), Stand p l e R s m args below meth c T' (locs ++ Lc) (cells + rm.cells) (slots + rm.slots) ∧ T'.heap = h' ∧ Q v h' Lc ∧
      ∀ target, Steps p.tables e below (T'.setTop { g with pc := g.pc + 3, stack := v.toList ++ rest }) target → Steps p.tables e below (T.setTop g) target := by
  obtain ⟨cq, kq, qa, qb, qc⟩ := isOf hZ eT E
  obtain ⟨v, _, ⟨T', L', k', n'⟩, -, X', ⟨Lc, hQ, hl', hk', hn'⟩, st⟩ := X.virtualBack hx (y := y) (z := z) hown (mvT hZ w1) (mvT hZ w2) nf (mvT hZ w3) (mvT hZ w4) hy (backOf (W := W) hM hZ w5 w6 hf hl) qa qc hg hsize (Steps.refl _) hlen hs hW hd (fun _ _ => ⟨has.symm, eT, hc, hsl⟩)
  dsimp only [Pt.U, Pt.locs, Pt.cells, Pt.slots] at X' hl' hk' hn' st hQ
  subst hl' hk' hn'
  exact ⟨v, T', _, Lc, X', rfl, hQ, fun t k => st.trans k⟩
theorem own_callC (X : Stand p l e R s m args below meth c T locs cells slots) (hx : p.tables.exec = Jvm.exec) (hZ : Z.Warmed39 s.vm) {own : String} {index : Nat} {y : MethodName} {bytes : ByteArray} {maxL : Nat} {rm : Room} {as' : Array Value} {Q : Option Value → Heap → List Loc → Prop} (hy1 : y.name = "<init>")
    (hown : s.vm.findClass own = some m.cls) (w1 : (Cond.methodLink own index y).before a0 Z = true) (w2 : (Cond.instanceMethod y).before a0 Z = true) (w3 : (Cond.initialized y.cls).before a0 Z = true) (w4 : (Cond.code y bytes maxL none).before a0 Z = true)
    (hy : y.cls ≠ "java/lang/invoke/MethodHandle" ∧ y.cls ≠ "java/lang/invoke/VarHandle") (hM : Con l Z y bytes maxL none [] rm as' h Q) (eT : T.heap = h) {a : Addr}
    {g : JFrame} (hg : g.method = m) (hsize : g.locals.size = c.maxLocals) {argsL rest : List Value} (has : as' = (Value.ref a :: argsL).toArray) (hlen : ∀ sig, parseMethodDescriptor y.desc = some sig → argsL.length = sig.parameters.length) (hs : g.stack = argsL.reverse ++ .ref a :: rest) {W : Nat} (hW : 2 * g.monitorRoom + (rest.map fun v => v.category).sum ≤ W)
    (hd : decode c.code g.pc = .ok (.invokespecial index, 3)) (hf : rm.frames + 1 ≤ R.frames) (hl : W + (maxL + 11) + rm.locals ≤ R.locals) (hc : cells + rm.cells ≤ R.cells) (hsl : slots + rm.slots ≤ R.slots) :
    ∃ (v : Option Value) (T' : State) (h' : Heap) (Lc : List Loc), Stand p l e R s m args below meth c T' (locs ++ Lc) (cells + rm.cells) (slots + rm.slots) ∧ T'.heap = h' ∧ Q v h' Lc ∧
      ∀ target, Steps p.tables e below (T'.setTop { g with pc := g.pc + 3, stack := v.toList ++ rest }) target → Steps p.tables e below (T.setTop g) target := by
  obtain ⟨v, _, ⟨T', L', k', n'⟩, -, X', ⟨Lc, hQ, hl', hk', hn'⟩, st⟩ := X.specialBack hx (y := y) hy1 hown (mvT hZ w1) (mvT hZ w2) (mvT hZ w4) hy (backOf (W := W) hM hZ w4 w3 hf hl) hg hsize (Steps.refl _) (a := a) hlen hs hW hd (fun _ _ => ⟨has.symm, eT, hc, hsl⟩)
  dsimp only [Pt.U, Pt.locs, Pt.cells, Pt.slots] at X' hl' hk' hn' st hQ
  subst hl' hk' hn'
  exact ⟨v, T', _, Lc, X', rfl, hQ, fun t k => st.trans k⟩
theorem own_callU (X : Stand p l e R s m args below meth c T locs cells slots) (hx : p.tables.exec = Jvm.exec) (hZ : Z.Warmed39 s.vm) {own C owner : String} {index : Nat} {x y : MethodName} {bytes : ByteArray} {maxL : Nat} {ret : Option FieldType} {rm : Room} {as' : Array Value} {Q : Option Value → Heap → List Loc → Prop}
    (hown : s.vm.findClass own = some m.cls) (w1 : (Cond.methodLink own index x).before a0 Z = true) (w2 : (Cond.sameMethod x.cls owner x.name x.desc).before a0 Z = true) (w2' : (Cond.declares ⟨owner, x.name, x.desc⟩).before a0 Z = true) (hy : owner ≠ "java/lang/invoke/MethodHandle" ∧ owner ≠ "java/lang/invoke/VarHandle") (w3 : (Cond.selects C x y).before a0 Z = true) (w4 : (Cond.instanceMethod y).before a0 Z = true) (w5 : (Cond.code y bytes maxL ret).before a0 Z = true) (w6 : (Cond.initialized y.cls).before a0 Z = true)
    (hM : Con l Z y bytes maxL ret [] rm as' h Q) (eT : T.heap = h) {a : Addr} (E : Exa Z h a C)
    {g : JFrame} (hg : g.method = m) (hsize : g.locals.size = c.maxLocals) {argsL rest : List Value} (has : as' = (Value.ref a :: argsL).toArray) (hlen : ∀ sig, parseMethodDescriptor x.desc = some sig → argsL.length = sig.parameters.length) (hs : g.stack = argsL.reverse ++ .ref a :: rest) {W : Nat} (hW : 2 * g.monitorRoom + (rest.map fun v => v.category).sum ≤ W)
    (hd : decode c.code g.pc = .ok (.invokevirtual index, 3)) (hf : rm.frames + 1 ≤ R.frames) (hl : W + (maxL + 11) + rm.locals ≤ R.locals) (hc : cells + rm.cells ≤ R.cells) (hsl : slots + rm.slots ≤ R.slots) :
    ∃ (v : Option Value) (T' : State) (h' : Heap) (Lc : List Loc), Stand p l e R s m args below meth c T' (locs ++ Lc) (cells + rm.cells) (slots + rm.slots) ∧ T'.heap = h' ∧ Q v h' Lc ∧
      ∀ target, Steps p.tables e below (T'.setTop { g with pc := g.pc + 3, stack := v.toList ++ rest }) target → Steps p.tables e below (T.setTop g) target := by
  obtain ⟨cq, kq, qa, qb, qc⟩ := isOf hZ eT E
  obtain ⟨v, _, ⟨T', L', k', n'⟩, -, X', ⟨Lc, hQ, hl', hk', hn'⟩, st⟩ := X.virtualBackUp hx (x := x) (y := y) hown (mvT hZ w1) (mvT hZ w2) (mvT hZ w2') hy (mvT hZ w3) (mvT hZ w4) (backOf (W := W) hM hZ w5 w6 hf hl) qa qc hg hsize (Steps.refl _) hlen hs hW hd (fun _ _ => ⟨has.symm, eT, hc, hsl⟩)
  dsimp only [Pt.U, Pt.locs, Pt.cells, Pt.slots] at X' hl' hk' hn' st hQ
  subst hl' hk' hn'
  exact ⟨v, T', _, Lc, X', rfl, hQ, fun t k => st.trans k⟩
theorem own_ne {a b : Nat} (h : a < b ∨ b < a) : a ≠ b := by omega
theorem own_ltN {a b : Nat} (h : a < b) : a < b := h
theorem own_neN {a b : Nat} (h : a ≠ b) : a ≠ b := h
theorem own_fldL {args : Array Value} {t : Term} {a : Addr} {C n d : String} {k : Int64} (ev : t.eval args Z none [] Z = some (.ref a)) (q : (Cond.eq (.field t C n d) (.long k)).value args Z none Z [] = some true) : Fld Z Z.heap a C n d (.long k) := by
  apply Fld.start
  cases hv : Z.fieldOf? a C n d with
  | none => simp [Cond.value, fld_at ev, hv] at q
  | some v => cases v <;> simp only [Cond.value, fld_at ev, hv, long_at] at q <;> simp at q <;> subst q <;> rfl
theorem own_fldI {args : Array Value} {t : Term} {a : Addr} {C n d : String} {k : Int32} (ev : t.eval args Z none [] Z = some (.ref a)) (q : (Cond.eq (.field t C n d) (.int k)).value args Z none Z [] = some true) : Fld Z Z.heap a C n d (.int k) := by
  apply Fld.start
  cases hv : Z.fieldOf? a C n d with
  | none => simp [Cond.value, fld_at ev, hv] at q
  | some v => cases v <;> simp only [Cond.value, fld_at ev, hv, Term.int_eval] at q <;> simp at q <;> subst q <;> rfl
variable {vm0 : Vm}
abbrev ConW (l : Launch) (Z : State) (y : MethodName) (bytes : ByteArray) (maxL : Nat) (ret : Option FieldType) (ws : List Jvm.Cond) (rm : Room) (as' : Array Value) (h : Heap) (Q : Option Value → Heap → List Loc → Prop) : Prop :=
  MetFree l y (head1 (Jvm.Cond.code y bytes maxL ret :: ws) rm) (fun a U => a = as' ∧ Z.Warmed39 U.vm ∧ U.heap = h) (fun _ _ _ _ _ => True) (fun _ U o U' => ∃ v L, o = .returned v ∧ Q v U'.heap L ∧ ReturnedEndW U o U' L rm.cells rm.slots)
theorem own_callSW (X : Stand p l e R (s.setVm vm0) m args below meth c T locs cells slots) (hx : p.tables.exec = Jvm.exec) (hZ : Z.Warmed39 vm0) {own : String} {index : Nat} {y : MethodName} {bytes : ByteArray} {maxL : Nat} {ret : Option FieldType} {rm : Room} {as' : Array Value} {Q : Option Value → Heap → List Loc → Prop}
    (hown : vm0.findClass own = some m.cls) (w1 : (Cond.methodLink own index y).before a0 Z = true) (w2 : (Cond.static y).before a0 Z = true) (w3 : (Cond.initialized y.cls).before a0 Z = true) (w4 : (Cond.code y bytes maxL ret).before a0 Z = true)
    (hy : y.cls ≠ "java/lang/invoke/MethodHandle" ∧ y.cls ≠ "java/lang/invoke/VarHandle") (hM : ConW l Z y bytes maxL ret [] rm as' h Q) (eT : T.heap = h) {k0 : Nat} (hS : s.Since vm0 k0) (hk : k0 ≤ h.size)
    {g : JFrame} (hg : g.method = m) (hsize : g.locals.size = c.maxLocals) {argsL rest : List Value} (has : as' = argsL.toArray) (hlen : ∀ sig, parseMethodDescriptor y.desc = some sig → argsL.length = sig.parameters.length) (hs : g.stack = argsL.reverse ++ rest) {W : Nat} (hW : 2 * g.monitorRoom + (rest.map fun v => v.category).sum ≤ W)
    (hd : decode c.code g.pc = .ok (.invokestatic index, 3)) (hf : rm.frames + 1 ≤ R.frames) (hl : W + (maxL + 11) + rm.locals ≤ R.locals) (hc : cells + rm.cells ≤ R.cells) (hsl : slots + rm.slots ≤ R.slots) :
    ∃ (v : Option Value) (T' : State) (h' : Heap) (Lc : List Loc), Stand p l e R (s.setVm T'.vm) m args below meth c T' (locs ++ Lc) (cells + rm.cells) (slots + rm.slots) ∧ T'.heap = h' ∧ Q v h' Lc ∧ s.Since T'.vm h'.size ∧ Z.Warmed39 T'.vm ∧ T'.vm.findClass own = some m.cls ∧
      ∀ target, Steps p.tables e below (T'.setTop { g with pc := g.pc + 3, stack := v.toList ++ rest }) target → Steps p.tables e below (T.setTop g) target := by
  subst eT
  obtain ⟨v, vm₁, ⟨T', L', k', n'⟩, -, X', hS', hgr, ⟨Lc, hQ, hl', hk', hn'⟩, st⟩ := callSS (s := s.setVm vm0) X hx (y := y) hown (mvT (s := s.setVm vm0) hZ w1) (mvT (s := s.setVm vm0) hZ w2) (mvT (s := s.setVm vm0) hZ w3) (mvT (s := s.setVm vm0) hZ w4) hy (backOfS (s := s.setVm vm0) (W := W) hM hZ w4 w3 hf hl) hg hsize hlen hs hW hd (fun _ _ => ⟨has.symm, rfl, hc, hsl⟩)
  dsimp only [Pt.U, Pt.locs, Pt.cells, Pt.slots] at X' hl' hk' hn' st hQ hS' hgr
  subst hl' hk' hn'
  exact ⟨v, T', _, Lc, X', rfl, hQ, hS.trans hS' (Nat.le_trans hk hgr), State.Warmed39.trans (t := s.setVm vm0) hZ hS'.1, by rw [hS'.1.alike.findClass]; exact hown, fun t k => st.trans k⟩
theorem own_callCW (X : Stand p l e R (s.setVm vm0) m args below meth c T locs cells slots) (hx : p.tables.exec = Jvm.exec) (hZ : Z.Warmed39 vm0) {own : String} {index : Nat} {y : MethodName} {bytes : ByteArray} {maxL : Nat} {rm : Room} {as' : Array Value} {Q : Option Value → Heap → List Loc → Prop} (hy1 : y.name = "<init>")
    (hown : vm0.findClass own = some m.cls) (w1 : (Cond.methodLink own index y).before a0 Z = true) (w2 : (Cond.instanceMethod y).before a0 Z = true) (w3 : (Cond.initialized y.cls).before a0 Z = true) (w4 : (Cond.code y bytes maxL none).before a0 Z = true)
    (hy : y.cls ≠ "java/lang/invoke/MethodHandle" ∧ y.cls ≠ "java/lang/invoke/VarHandle") (hM : ConW l Z y bytes maxL none [] rm as' h Q) (eT : T.heap = h) {k0 : Nat} (hS : s.Since vm0 k0) (hk : k0 ≤ h.size) {a : Addr}
    {g : JFrame} (hg : g.method = m) (hsize : g.locals.size = c.maxLocals) {argsL rest : List Value} (has : as' = (Value.ref a :: argsL).toArray) (hlen : ∀ sig, parseMethodDescriptor y.desc = some sig → argsL.length = sig.parameters.length) (hs : g.stack = argsL.reverse ++ .ref a :: rest) {W : Nat} (hW : 2 * g.monitorRoom + (rest.map fun v => v.category).sum ≤ W)
    (hd : decode c.code g.pc = .ok (.invokespecial index, 3)) (hf : rm.frames + 1 ≤ R.frames) (hl : W + (maxL + 11) + rm.locals ≤ R.locals) (hc : cells + rm.cells ≤ R.cells) (hsl : slots + rm.slots ≤ R.slots) :
    ∃ (v : Option Value) (T' : State) (h' : Heap) (Lc : List Loc), Stand p l e R (s.setVm T'.vm) m args below meth c T' (locs ++ Lc) (cells + rm.cells) (slots + rm.slots) ∧ T'.heap = h' ∧ Q v h' Lc ∧ s.Since T'.vm h'.size ∧ Z.Warmed39 T'.vm ∧ T'.vm.findClass own = some m.cls ∧
      ∀ target, Steps p.tables e below (T'.setTop { g with pc := g.pc + 3, stack := v.toList ++ rest }) target → Steps p.tables e below (T.setTop g) target := by
  subst eT
  obtain ⟨v, vm₁, ⟨T', L', k', n'⟩, -, X', hS', hgr, ⟨Lc, hQ, hl', hk', hn'⟩, st⟩ := Jvm.Stand.specialBackS (s := s.setVm vm0) X hx (y := y) hy1 hown (mvT (s := s.setVm vm0) hZ w1) (mvT (s := s.setVm vm0) hZ w2) (mvT (s := s.setVm vm0) hZ w4) hy (backOfS (s := s.setVm vm0) (W := W) hM hZ w4 w3 hf hl) hg hsize (Steps.refl _) (a := a) hlen hs hW hd (fun _ _ => ⟨has.symm, rfl, hc, hsl⟩)
  dsimp only [Pt.U, Pt.locs, Pt.cells, Pt.slots] at X' hl' hk' hn' st hQ hS' hgr
  subst hl' hk' hn'
  exact ⟨v, T', _, Lc, X', rfl, hQ, hS.trans hS' (Nat.le_trans hk hgr), State.Warmed39.trans (t := s.setVm vm0) hZ hS'.1, by rw [hS'.1.alike.findClass]; exact hown, fun t k => st.trans k⟩
theorem own_callVW (X : Stand p l e R (s.setVm vm0) m args below meth c T locs cells slots) (hx : p.tables.exec = Jvm.exec) (hZ : Z.Warmed39 vm0) {own C : String} {index : Nat} {y z : MethodName} {bytes : ByteArray} {maxL : Nat} {ret : Option FieldType} {rm : Room} {as' : Array Value} {Q : Option Value → Heap → List Loc → Prop}
    (hown : vm0.findClass own = some m.cls) (w1 : (Cond.methodLink own index y).before a0 Z = true) (w2 : (Cond.declares y).before a0 Z = true) (nf : NotFace (s.setVm vm0) y) (w3 : (Cond.selects C y z).before a0 Z = true) (w4 : (Cond.instanceMethod z).before a0 Z = true) (w5 : (Cond.code z bytes maxL ret).before a0 Z = true) (w6 : (Cond.initialized z.cls).before a0 Z = true)
    (hy : y.cls ≠ "java/lang/invoke/MethodHandle" ∧ y.cls ≠ "java/lang/invoke/VarHandle") (hM : ConW l Z z bytes maxL ret [] rm as' h Q) (eT : T.heap = h) {k0 : Nat} (hS : s.Since vm0 k0) (hk : k0 ≤ h.size) {a : Addr} (E : Exa Z h a C)
    {g : JFrame} (hg : g.method = m) (hsize : g.locals.size = c.maxLocals) {argsL rest : List Value} (has : as' = (Value.ref a :: argsL).toArray) (hlen : ∀ sig, parseMethodDescriptor y.desc = some sig → argsL.length = sig.parameters.length) (hs : g.stack = argsL.reverse ++ .ref a :: rest) {W : Nat} (hW : 2 * g.monitorRoom + (rest.map fun v => v.category).sum ≤ W)
    (hd : decode c.code g.pc = .ok (.invokevirtual index, 3)) (hf : rm.frames + 1 ≤ R.frames) (hl : W + (maxL + 11) + rm.locals ≤ R.locals) (hc : cells + rm.cells ≤ R.cells) (hsl : slots + rm.slots ≤ R.slots) :
    ∃ (v : Option Value) (T' : State) (h' : Heap) (Lc : List Loc), Stand p l e R (s.setVm T'.vm) m args below meth c T' (locs ++ Lc) (cells + rm.cells) (slots + rm.slots) ∧ T'.heap = h' ∧ Q v h' Lc ∧ s.Since T'.vm h'.size ∧ Z.Warmed39 T'.vm ∧ T'.vm.findClass own = some m.cls ∧
      ∀ target, Steps p.tables e below (T'.setTop { g with pc := g.pc + 3, stack := v.toList ++ rest }) target → Steps p.tables e below (T.setTop g) target := by
  subst eT
  obtain ⟨cq, kq, qa, qb, qc⟩ := isOf (s := s.setVm vm0) hZ rfl E
  obtain ⟨v, vm₁, ⟨T', L', k', n'⟩, -, X', hS', hgr, ⟨Lc, hQ, hl', hk', hn'⟩, st⟩ := Jvm.Stand.virtualBackS (s := s.setVm vm0) X hx (y := y) (z := z) hown (mvT (s := s.setVm vm0) hZ w1) (mvT (s := s.setVm vm0) hZ w2) nf (mvT (s := s.setVm vm0) hZ w3) (mvT (s := s.setVm vm0) hZ w4) hy (backOfS (s := s.setVm vm0) (W := W) hM hZ w5 w6 hf hl) qa qc hg hsize (Steps.refl _) hlen hs hW hd (fun _ _ => ⟨has.symm, rfl, hc, hsl⟩)
  dsimp only [Pt.U, Pt.locs, Pt.cells, Pt.slots] at X' hl' hk' hn' st hQ hS' hgr
  subst hl' hk' hn'
  exact ⟨v, T', _, Lc, X', rfl, hQ, hS.trans hS' (Nat.le_trans hk hgr), State.Warmed39.trans (t := s.setVm vm0) hZ hS'.1, by rw [hS'.1.alike.findClass]; exact hown, fun t k => st.trans k⟩
theorem own_more {cells' slots' : Nat} (X : Stand p l e R s m args below meth c T locs cells slots) (h1 : cells ≤ cells') (h2 : slots ≤ slots') : Stand p l e R s m args below meth c T locs cells' slots' := { X with same := X.same.mono h1 h2 }
theorem own_arrKeep {h h' : Heap} {a : Addr} {cl : Cell} {ty : FieldType} {ws : List Addr} (A : Arr Z h a cl ty) (K : Keep h h' ws) (q : a ∉ ws) : Arr Z h' a cl ty := ⟨K.2.1 a cl A.1 q, A.2⟩
end OwnKit
def own_vs (m : Nat) : List Value := (List.range m).map fun j => .int (Int32.ofNat j)
theorem own_vs_len (m : Nat) : (own_vs m).length = m := by simp [own_vs]
theorem own_vs_at {m j : Nat} (d : Value) (h : j < m) : (own_vs m).getD j d = .int (Int32.ofNat j) := by
  simp [own_vs, List.getD_eq_getElem?_getD, h]
theorem own_vs_next (m : Nat) (d : Value) : (own_vs m ++ [d]).set m (.int (Int32.ofNat m)) = own_vs (m + 1) := by
  unfold own_vs
  rw [List.range_succ, List.map_append, List.set_append_right _ _ (by simp)]
  simp
theorem own_fill {Z : State} {h h' : Heap} {a : Addr} {k : ClassId} {n i : Int32} (V : Arv Z h a k .int n (own_vs i.toNatClampNeg) (.int (0 : Int32))) (hi : ¬ i < 0) (W : Wr h h' a i.toNatClampNeg (.int i)) : Arv Z h' a k .int n (own_vs (i.toNatClampNeg + 1)) (.int (0 : Int32)) := by
  obtain ⟨c, A, q1, S, M, H, G⟩ := V.pad (pad_rep _ (.int (0 : Int32)) 1)
  have r := Arv.set A q1 S M H G rfl W i.toNatClampNeg rfl (by simp [own_vs_len])
  have e : i = Int32.ofNat i.toNatClampNeg := by
    have := (back32 hi).1
    exact this.symm
  have e2 := own_vs_next i.toNatClampNeg (.int (0 : Int32))
  rw [← e] at e2
  rw [← e2]
  exact r
theorem own_and7 (x : Int32) : 0 ≤ (x &&& (7 : Int32)).toInt ∧ (x &&& (7 : Int32)).toInt ≤ 7 := by
  have q := c_and x 7 (by decide)
  have : (7 : Int32).toInt = 7 := by decide
  exact ⟨by omega, by omega⟩
theorem own_ar (x : Int32) : 1 ≤ ((1 : Int32) + (x &&& (1 : Int32))).toInt ∧ ((1 : Int32) + (x &&& (1 : Int32))).toInt ≤ 2 := by
  have q := c_and x 1 (by decide)
  have e : (1 : Int32).toInt = 1 := by decide
  have r := c_iadd 1 (x &&& (1 : Int32))
  have r2 := rng32 ((1 : Int32) + (x &&& (1 : Int32)))
  rw [e] at r q
  exact ⟨by omega, by omega⟩
theorem own_mul {a b : Int32} (h1 : 0 ≤ a.toInt) (h2 : a.toInt ≤ 7) (h3 : 1 ≤ b.toInt) (h4 : b.toInt ≤ 2) : (a * b).toInt = a.toInt * b.toInt ∧ 0 ≤ (a * b).toInt ∧ (a * b).toInt ≤ 14 := by
  have q := c_imul a b
  have r := rng32 (a * b)
  have e : b.toInt = 1 ∨ b.toInt = 2 := by omega
  rcases e with e | e <;> rw [e] at q ⊢ <;> exact ⟨by omega, by omega, by omega⟩
theorem own_nn {x : Int32} (h : 0 ≤ x.toInt) : ¬ x < 0 := by
  rw [Int32.lt_iff_toInt_lt, show (0 : Int32).toInt = 0 by decide]; omega
theorem own_idx {i n ar : Int32} (h0 : 0 ≤ i.toInt) (h1 : i.toInt ≤ 7) (n0 : 0 ≤ n.toInt) (n7 : n.toInt ≤ 7) (h3 : 1 ≤ ar.toInt) (h4 : ar.toInt ≤ 2) (h : i < n) : ¬ (i * ar) < 0 ∧ (i * ar) < (n * ar) := by
  obtain ⟨e1, p1, -⟩ := own_mul h0 h1 h3 h4
  obtain ⟨e2, p2, -⟩ := own_mul n0 n7 h3 h4
  refine ⟨own_nn p1, ?_⟩
  rw [Int32.lt_iff_toInt_lt] at h ⊢
  have e : ar.toInt = 1 ∨ ar.toInt = 2 := by omega
  rcases e with e | e <;> rw [e] at e1 e2 <;> omega
theorem pn_Record : plainName "java/lang/Record" = true := by first | (simp [plainName, overriddenIn]; done) | decide +kernel
theorem ef_rm_record (m : MethodId) (x0 : Addr) : entryFrame m #[(.ref x0)] 1 = mkF m 0 #[.val (.ref x0)] [] := by first | (simp [entryFrame, mkF, argsToLocals, Value.category]; done) | rfl
def Q_rm_record (Z : State) (a : Addr) (h0 : Heap) (n0 : Nat) (v : Option Value) (h : Heap) (L : List Loc) : Prop := (v = none) ∧ (Fr n0 L) ∧ (h = h0)
theorem d3_0 : decode jdk_30_method_1_code 0 = .ok (.aload_n 0, 1) := by decide +kernel
theorem d3_1 : decode jdk_30_method_1_code 1 = .ok (.invokespecial 1, 3) := by decide +kernel
theorem d3_4 : decode jdk_30_method_1_code 4 = .ok (.return_, 1) := by decide +kernel
set_option maxRecDepth 65536 in
set_option maxHeartbeats 40000000 in
theorem rm_record (l : Launch) (Z : State) (a0 : Array Value) (hw : ∀ d ∈ tables_1, d.before a0 Z = true) (ws : List Jvm.Cond) (a : Addr) (h0 : Heap) (n0 : Nat) (Z0 : n0 ≤ h0.size)  :
    Con l Z (⟨"java/lang/Record", "<init>", "()V"⟩ : MethodName) jdk_30_method_1_code 1 none ws ({ frames := 1, cells := 0, slots := 0, locals := 12 } : Room) #[(.ref a)] h0 (Q_rm_record Z a h0 n0) := by
  refine MetFree.of_bodySF (plainFor_of_name pn_Record) hisR ?_
  intro p e s m args below meth c s₁ Bd hml0 hP hK
  obtain ⟨rfl, hZ, hh⟩ := hP
  have hx := Bd.exec
  have hby := Bd.bytes
  have hml : c.maxLocals = 1 := hml0
  have hown : s.vm.findClass "java/lang/Record" = some m.cls := findClass_of_methodNamed Bd.named
  have hnm := (name_of_methodNamed Bd.named Bd.method).1
  have X0 : Stand p l e ({ frames := 1, cells := 0, slots := 0, locals := 12 } : Room) s m #[(.ref a)] below meth c s₁ [] 0 0 := Stand.of_body Bd
  have e0 : s₁.heap = h0 := by rw [← hh, Bd.state]; rfl
  have N0 := Fr.nil n0
  have k0 : Rch p e below (s₁.setTop (entryFrame m #[(.ref a)] 1)) s₁ (mkF m 0 #[.val (.ref a)] []) := fun tg kg => castTop (ef_rm_record m a) kg
  have k1 : Rch p e below (s₁.setTop (entryFrame m #[(.ref a)] 1)) s₁ (mkF m 1 #[.val (.ref a)] [(.ref a)]) := fun tg kg => by
    refine k0 tg ?_
    show Steps p.tables e below (s₁.setTop (mkF m 0 #[.val (.ref a)] [])) tg
    refine XS.aloadN X0.here hx rfl (hb hby d3_0) rfl rfl ?_
    exact kg
  obtain ⟨T2, X2, e2, st2⟩ := initO X0 hx hZ hown (hw _ (List.mem_of_getElem? (i := 24) rfl)) (hw _ (List.mem_of_getElem? (i := 25) rfl)) (hw _ (List.mem_of_getElem? (i := 26) rfl)) e0 (g := (mkF m 1 #[.val (.ref a)] [(.ref a)])) rfl (by rw [hml]; rfl) rfl (hb hby d3_1) (by decide) (W := 0) (by show 2 * 0 + _ ≤ _; exact Nat.le_of_eq rfl) (by decide)
  have k3 : Rch p e below (s₁.setTop (entryFrame m #[(.ref a)] 1)) T2 (mkF m 4 #[.val (.ref a)] []) := fun tg kg => k1 tg (st2 tg kg)
  obtain ⟨fs4, hr4, hrun4, hended4, hW4, hsame4⟩ := X2.leave (v := none) (fun _ => rfl)
  refine ⟨_, _, k3 _ ?_, hrun4, hended4, _, _, rfl, ?_, ⟨_, rfl⟩, hW4, hsame4.mono (by decide) (by decide)⟩
  · exact X2.returnOut hx Bd.returns (hb hby d3_4) hr4
  · show Q_rm_record Z a h0 n0 _ T2.heap _
    rw [e2]
    exact ⟨rfl, N0, rfl⟩
theorem pn_RelationTuplesPinLaw : plainName "com/example/clause_search/clausesearch/RelationTuplesPinLaw" = true := by first | (simp [plainName, overriddenIn]; done) | decide +kernel
theorem ef_rm_put (m : MethodId) (x0 : Addr) (x1 : Int32) (x2 : Int32) (x3 : Int32) : entryFrame m #[(.ref x0), (.int x1), (.int x2), (.int x3)] 4 = mkF m 0 #[.val (.ref x0), .val (.int x1), .val (.int x2), .val (.int x3)] [] := by first | (simp [entryFrame, mkF, argsToLocals, Value.category]; done) | rfl
def Q_rm_put (Z : State) (a : Addr) (i : Int32) (n : Int32) (ar : Int32) (N : Int32) (cl : Cell) (h0 : Heap) (n0 : Nat) (v : Option Value) (h : Heap) (L : List Loc) : Prop := ∃ (cl' : Cell), (v = none) ∧ (Fr n0 L) ∧ (Keep h0 h [a]) ∧ (Arr Z h a cl' .int) ∧ (cl'.slots.size = N.toNatClampNeg)
theorem d1_0 : decode method_3_code 0 = .ok (.iload_n 1, 1) := by decide +kernel
theorem d1_1 : decode method_3_code 1 = .ok (.iload_n 2, 1) := by decide +kernel
theorem d1_2 : decode method_3_code 2 = .ok (.if_icmp .ge 9, 3) := by decide +kernel
theorem d1_5 : decode method_3_code 5 = .ok (.aload_n 0, 1) := by decide +kernel
theorem d1_6 : decode method_3_code 6 = .ok (.iload_n 1, 1) := by decide +kernel
theorem d1_7 : decode method_3_code 7 = .ok (.iload_n 3, 1) := by decide +kernel
theorem d1_8 : decode method_3_code 8 = .ok (.imul, 1) := by decide +kernel
theorem d1_9 : decode method_3_code 9 = .ok (.iload_n 1, 1) := by decide +kernel
theorem d1_10 : decode method_3_code 10 = .ok (.iastore, 1) := by decide +kernel
theorem d1_11 : decode method_3_code 11 = .ok (.return_, 1) := by decide +kernel
set_option maxRecDepth 65536 in
set_option maxHeartbeats 40000000 in
theorem rm_put (l : Launch) (Z : State) (a0 : Array Value) (hw : ∀ d ∈ tables_1, d.before a0 Z = true) (ws : List Jvm.Cond) (a : Addr) (i : Int32) (n : Int32) (ar : Int32) (N : Int32) (cl : Cell) (h0 : Heap) (n0 : Nat) (Z0 : n0 ≤ h0.size) (A_a : Arr Z h0 a cl .int) (hS : cl.slots.size = N.toNatClampNeg) (hix : i < n → ¬ (i * ar) < 0 ∧ (i * ar) < N) (g_a : n0 ≤ a) :
    Con l Z (⟨"com/example/clause_search/clausesearch/RelationTuplesPinLaw", "put", "([IIII)V"⟩ : MethodName) method_3_code 4 none ws ({ frames := 0, cells := 0, slots := 0, locals := 0 } : Room) #[(.ref a), (.int i), (.int n), (.int ar)] h0 (Q_rm_put Z a i n ar N cl h0 n0) := by
  refine MetFree.of_bodySF (plainFor_of_name pn_RelationTuplesPinLaw) hisR ?_
  intro p e s m args below meth c s₁ Bd hml0 hP hK
  obtain ⟨rfl, hZ, hh⟩ := hP
  have hx := Bd.exec
  have hby := Bd.bytes
  have hml : c.maxLocals = 4 := hml0
  have hown : s.vm.findClass "com/example/clause_search/clausesearch/RelationTuplesPinLaw" = some m.cls := findClass_of_methodNamed Bd.named
  have hnm := (name_of_methodNamed Bd.named Bd.method).1
  have X0 : Stand p l e ({ frames := 0, cells := 0, slots := 0, locals := 0 } : Room) s m #[(.ref a), (.int i), (.int n), (.int ar)] below meth c s₁ [] 0 0 := Stand.of_body Bd
  have e0 : s₁.heap = h0 := by rw [← hh, Bd.state]; rfl
  have N0 := Fr.nil n0
  have k0 : Rch p e below (s₁.setTop (entryFrame m #[(.ref a), (.int i), (.int n), (.int ar)] 4)) s₁ (mkF m 0 #[.val (.ref a), .val (.int i), .val (.int n), .val (.int ar)] []) := fun tg kg => castTop (ef_rm_put m a i n ar) kg
  have lt_A_a := own_ltN A_a.lt
  have k1 : Rch p e below (s₁.setTop (entryFrame m #[(.ref a), (.int i), (.int n), (.int ar)] 4)) s₁ (mkF m 2 #[.val (.ref a), .val (.int i), .val (.int n), .val (.int ar)] [(.int n), (.int i)]) := fun tg kg => by
    refine k0 tg ?_
    show Steps p.tables e below (s₁.setTop (mkF m 0 #[.val (.ref a), .val (.int i), .val (.int n), .val (.int ar)] [])) tg
    refine XS.iloadN X0.here hx rfl (hb hby d1_0) rfl ?_
    show Steps p.tables e below (s₁.setTop (mkF m 1 #[.val (.ref a), .val (.int i), .val (.int n), .val (.int ar)] [(.int i)])) tg
    refine XS.iloadN X0.here hx rfl (hb hby d1_1) rfl ?_
    exact kg
  by_cases hc2_2 : i < n
  · have k3 : Rch p e below (s₁.setTop (entryFrame m #[(.ref a), (.int i), (.int n), (.int ar)] 4)) s₁ (mkF m 10 #[.val (.ref a), .val (.int i), .val (.int n), .val (.int ar)] [(.int i), (.int (i * ar)), (.ref a)]) := fun tg kg => by
      refine k1 tg ?_
      show Steps p.tables e below (s₁.setTop (mkF m 2 #[.val (.ref a), .val (.int i), .val (.int n), .val (.int ar)] [(.int n), (.int i)])) tg
      refine XS.icmpNo X0.here hx rfl (hb hby d1_2) rfl (tlt hc2_2).2.1 ?_
      show Steps p.tables e below (s₁.setTop (mkF m 5 #[.val (.ref a), .val (.int i), .val (.int n), .val (.int ar)] [])) tg
      refine XS.aloadN X0.here hx rfl (hb hby d1_5) rfl rfl ?_
      show Steps p.tables e below (s₁.setTop (mkF m 6 #[.val (.ref a), .val (.int i), .val (.int n), .val (.int ar)] [(.ref a)])) tg
      refine XS.iloadN X0.here hx rfl (hb hby d1_6) rfl ?_
      show Steps p.tables e below (s₁.setTop (mkF m 7 #[.val (.ref a), .val (.int i), .val (.int n), .val (.int ar)] [(.int i), (.ref a)])) tg
      refine XS.iloadN X0.here hx rfl (hb hby d1_7) rfl ?_
      show Steps p.tables e below (s₁.setTop (mkF m 8 #[.val (.ref a), .val (.int i), .val (.int n), .val (.int ar)] [(.int ar), (.int i), (.ref a)])) tg
      refine XS.imul X0.here hx rfl (hb hby d1_8) rfl ?_
      show Steps p.tables e below (s₁.setTop (mkF m 9 #[.val (.ref a), .val (.int i), .val (.int n), .val (.int ar)] [(.int (i * ar)), (.ref a)])) tg
      refine XS.iloadN X0.here hx rfl (hb hby d1_9) rfl ?_
      exact kg
    have hin : ¬ ((i * ar) < 0 ∨ cl.slots.size ≤ (i * ar).toNatClampNeg) := inb_of hS (hix hc2_2)
    obtain ⟨T4, h4, X4, e4, W4, st4⟩ := stI X0 hx hZ e0 A_a (j := (i * ar)) hin (g := (mkF m 10 #[.val (.ref a), .val (.int i), .val (.int n), .val (.int ar)] [(.int i), (.int (i * ar)), (.ref a)])) rfl rfl (hb hby d1_10)
    have s4 : h4.size = h0.size := W4.size
    have N4 := Fr.snoc X4 N0 g_a
    have k5 : Rch p e below (s₁.setTop (entryFrame m #[(.ref a), (.int i), (.int n), (.int ar)] 4)) T4 (mkF m 11 #[.val (.ref a), .val (.int i), .val (.int n), .val (.int ar)] []) := fun tg kg => k3 tg (st4 tg kg)
    have A2 := A_a.same W4
    obtain ⟨fs6, hr6, hrun6, hended6, hW6, hsame6⟩ := X4.leave (v := none) (fun _ => rfl)
    refine ⟨_, _, k5 _ ?_, hrun6, hended6, _, _, rfl, ?_, ⟨_, rfl⟩, hW6, hsame6.mono (by decide) (by decide)⟩
    · exact X4.returnOut hx Bd.returns (hb hby d1_11) hr6
    · show Q_rm_put Z a i n ar N cl h0 n0 _ T4.heap _
      rw [e4]
      exact ⟨_, rfl, N4, ((Keep.refl h0 [a]).wr W4 (Or.inl (List.mem_of_getElem? (i := 0) rfl))), A2, (by rw [sz_set]; exact hS)⟩
  · have k7 : Rch p e below (s₁.setTop (entryFrame m #[(.ref a), (.int i), (.int n), (.int ar)] 4)) s₁ (mkF m 11 #[.val (.ref a), .val (.int i), .val (.int n), .val (.int ar)] []) := fun tg kg => by
      refine k1 tg ?_
      show Steps p.tables e below (s₁.setTop (mkF m 2 #[.val (.ref a), .val (.int i), .val (.int n), .val (.int ar)] [(.int n), (.int i)])) tg
      refine XS.icmpYes X0.here hx rfl (pc0 := 2) (pc' := 11) rfl (hb hby d1_2) rfl (flt hc2_2).2.1 (by decide) (by decide) ?_
      exact kg
    obtain ⟨fs8, hr8, hrun8, hended8, hW8, hsame8⟩ := X0.leave (v := none) (fun _ => rfl)
    refine ⟨_, _, k7 _ ?_, hrun8, hended8, _, _, rfl, ?_, ⟨_, rfl⟩, hW8, hsame8.mono (by decide) (by decide)⟩
    · exact X0.returnOut hx Bd.returns (hb hby d1_11) hr8
    · show Q_rm_put Z a i n ar N cl h0 n0 _ s₁.heap _
      rw [e0]
      exact ⟨cl, rfl, N0, (Keep.refl h0 [a]), A_a, hS⟩
theorem pn_Predicate : plainName "com/example/clause_search/clausesearch/Predicate" = true := by first | (simp [plainName, overriddenIn]; done) | decide +kernel
theorem ef_rm_pred (m : MethodId) (x0 : Addr) (x1 : Addr) (x2 : Int32) : entryFrame m #[(.ref x0), (.ref x1), (.int x2)] 3 = mkF m 0 #[.val (.ref x0), .val (.ref x1), .val (.int x2)] [] := by first | (simp [entryFrame, mkF, argsToLocals, Value.category]; done) | rfl
def Q_rm_pred (Z : State) (a : Addr) (t : Addr) (x : Int32) (u : Value) (u' : Value) (h0 : Heap) (n0 : Nat) (v : Option Value) (h : Heap) (L : List Loc) : Prop := (v = none) ∧ (Fr n0 L) ∧ (Keep h0 h [a]) ∧ (Exa Z h a "com/example/clause_search/clausesearch/Predicate") ∧ (Fld Z h a "com/example/clause_search/clausesearch/Predicate" "arity" "I" (.int x))
theorem d2_0 : decode prog_27_method_1_code 0 = .ok (.aload_n 0, 1) := by decide +kernel
theorem pd_0 : parseMethodDescriptor "()V" = some ⟨[], none⟩ := by decide +kernel
theorem d2_1 : decode prog_27_method_1_code 1 = .ok (.invokespecial 1, 3) := by decide +kernel
theorem d2_4 : decode prog_27_method_1_code 4 = .ok (.aload_n 0, 1) := by decide +kernel
theorem d2_5 : decode prog_27_method_1_code 5 = .ok (.aload_n 1, 1) := by decide +kernel
theorem d2_6 : decode prog_27_method_1_code 6 = .ok (.putfield 7, 3) := by decide +kernel
theorem d2_9 : decode prog_27_method_1_code 9 = .ok (.aload_n 0, 1) := by decide +kernel
theorem d2_10 : decode prog_27_method_1_code 10 = .ok (.iload_n 2, 1) := by decide +kernel
theorem d2_11 : decode prog_27_method_1_code 11 = .ok (.putfield 13, 3) := by decide +kernel
theorem d2_14 : decode prog_27_method_1_code 14 = .ok (.return_, 1) := by decide +kernel
set_option maxRecDepth 65536 in
set_option maxHeartbeats 40000000 in
theorem rm_pred (l : Launch) (Z : State) (a0 : Array Value) (hw : ∀ d ∈ tables_1, d.before a0 Z = true) (ws : List Jvm.Cond) (a : Addr) (t : Addr) (x : Int32) (u : Value) (u' : Value) (h0 : Heap) (n0 : Nat) (Z0 : n0 ≤ h0.size) (E_a : Exa Z h0 a "com/example/clause_search/clausesearch/Predicate") (F_1 : Fld Z h0 a "com/example/clause_search/clausesearch/Predicate" "name" "Ljava/lang/String;" u) (F_2 : Fld Z h0 a "com/example/clause_search/clausesearch/Predicate" "arity" "I" u') (g_a : n0 ≤ a) :
    Con l Z (⟨"com/example/clause_search/clausesearch/Predicate", "<init>", "(Ljava/lang/String;I)V"⟩ : MethodName) prog_27_method_1_code 3 none ws ({ frames := 2, cells := 0, slots := 0, locals := 24 } : Room) #[(.ref a), (.ref t), (.int x)] h0 (Q_rm_pred Z a t x u u' h0 n0) := by
  refine MetFree.of_bodySF (plainFor_of_name pn_Predicate) hisR ?_
  intro p e s m args below meth c s₁ Bd hml0 hP hK
  obtain ⟨rfl, hZ, hh⟩ := hP
  have hx := Bd.exec
  have hby := Bd.bytes
  have hml : c.maxLocals = 3 := hml0
  have hown : s.vm.findClass "com/example/clause_search/clausesearch/Predicate" = some m.cls := findClass_of_methodNamed Bd.named
  have hnm := (name_of_methodNamed Bd.named Bd.method).1
  have X0 : Stand p l e ({ frames := 2, cells := 0, slots := 0, locals := 24 } : Room) s m #[(.ref a), (.ref t), (.int x)] below meth c s₁ [] 0 0 := Stand.of_body Bd
  have e0 : s₁.heap = h0 := by rw [← hh, Bd.state]; rfl
  have N0 := Fr.nil n0
  have k0 : Rch p e below (s₁.setTop (entryFrame m #[(.ref a), (.ref t), (.int x)] 3)) s₁ (mkF m 0 #[.val (.ref a), .val (.ref t), .val (.int x)] []) := fun tg kg => castTop (ef_rm_pred m a t x) kg
  have lt_E_a := own_ltN E_a.lt
  have lt_F_1 := own_ltN F_1.lt
  have lt_F_2 := own_ltN F_2.lt
  have k1 : Rch p e below (s₁.setTop (entryFrame m #[(.ref a), (.ref t), (.int x)] 3)) s₁ (mkF m 1 #[.val (.ref a), .val (.ref t), .val (.int x)] [(.ref a)]) := fun tg kg => by
    refine k0 tg ?_
    show Steps p.tables e below (s₁.setTop (mkF m 0 #[.val (.ref a), .val (.ref t), .val (.int x)] [])) tg
    refine XS.aloadN X0.here hx rfl (hb hby d2_0) rfl rfl ?_
    exact kg
  obtain ⟨v2, T2, h2, Lc2, X2, e2, hQ2, st2⟩ := own_callC X0 hx hZ rfl hown (hw _ (List.mem_of_getElem? (i := 19) rfl)) (hw _ (List.mem_of_getElem? (i := 20) rfl)) (hw _ (List.mem_of_getElem? (i := 22) rfl)) (hw _ (List.mem_of_getElem? (i := 23) rfl)) (by decide) (rm_record l Z a0 hw [] a h0 n0 (by omega) ) e0 (a := a) (g := (mkF m 1 #[.val (.ref a), .val (.ref t), .val (.int x)] [(.ref a)])) rfl (by rw [hml]; rfl) (argsL := []) (rest := []) rfl (lenOf pd_0 rfl) rfl (W := 0) (by show 2 * 0 + _ ≤ _; exact Nat.le_of_eq rfl) (hb hby d2_1) (by decide) (by decide) (by decide) (by decide)
  obtain ⟨rfl, Nq2, hs2⟩ := hQ2
  have N2 := Fr.app N0 Nq2
  have e2' : T2.heap = h0 := e2.trans hs2
  have k3 : Rch p e below (s₁.setTop (entryFrame m #[(.ref a), (.ref t), (.int x)] 3)) T2 (mkF m 4 #[.val (.ref a), .val (.ref t), .val (.int x)] []) := fun tg kg => k1 tg (st2 tg kg)
  have k4 : Rch p e below (s₁.setTop (entryFrame m #[(.ref a), (.ref t), (.int x)] 3)) T2 (mkF m 6 #[.val (.ref a), .val (.ref t), .val (.int x)] [(.ref t), (.ref a)]) := fun tg kg => by
    refine k3 tg ?_
    show Steps p.tables e below (T2.setTop (mkF m 4 #[.val (.ref a), .val (.ref t), .val (.int x)] [])) tg
    refine XS.aloadN X2.here hx rfl (hb hby d2_4) rfl rfl ?_
    show Steps p.tables e below (T2.setTop (mkF m 5 #[.val (.ref a), .val (.ref t), .val (.int x)] [(.ref a)])) tg
    refine XS.aloadN X2.here hx rfl (hb hby d2_5) rfl rfl ?_
    exact kg
  obtain ⟨T5, h5, X5, e5, W5, st5⟩ := putF X2 hx hZ hown (host := "") (Or.inl (hw _ (List.mem_of_getElem? (i := 27) rfl))) Via.refl e2' F_1 E_a (Or.inr ⟨(hw _ (List.mem_of_getElem? (i := 28) rfl)), rfl, hnm⟩) (hw _ (List.mem_of_getElem? (i := 6) rfl)) (ty := (.object "java/lang/String")) (by decide) rfl rfl (g := (mkF m 6 #[.val (.ref a), .val (.ref t), .val (.int x)] [(.ref t), (.ref a)])) rfl rfl (hb hby d2_6)
  have Fw5 := F_1.same W5
  have s5 : h5.size = h0.size := W5.size
  have N5 := Fr.snoc X5 N2 (by omega : n0 ≤ a)
  have k6 : Rch p e below (s₁.setTop (entryFrame m #[(.ref a), (.ref t), (.int x)] 3)) T5 (mkF m 9 #[.val (.ref a), .val (.ref t), .val (.int x)] []) := fun tg kg => k4 tg (st5 tg kg)
  have k7 : Rch p e below (s₁.setTop (entryFrame m #[(.ref a), (.ref t), (.int x)] 3)) T5 (mkF m 11 #[.val (.ref a), .val (.ref t), .val (.int x)] [(.int x), (.ref a)]) := fun tg kg => by
    refine k6 tg ?_
    show Steps p.tables e below (T5.setTop (mkF m 9 #[.val (.ref a), .val (.ref t), .val (.int x)] [])) tg
    refine XS.aloadN X5.here hx rfl (hb hby d2_9) rfl rfl ?_
    show Steps p.tables e below (T5.setTop (mkF m 10 #[.val (.ref a), .val (.ref t), .val (.int x)] [(.ref a)])) tg
    refine XS.iloadN X5.here hx rfl (hb hby d2_10) rfl ?_
    exact kg
  have f8 : Fld Z h5 a "com/example/clause_search/clausesearch/Predicate" "arity" "I" u' := (F_2.other W5 (Or.inr (slot_ne (Or.inr (hw _ (List.mem_of_getElem? (i := 30) rfl))) (Or.inr (hw _ (List.mem_of_getElem? (i := 28) rfl))) (by decide) (t := .int) (t' := (.object "java/lang/String")) (by decide) (by decide))))
  have f9 : Exa Z h5 a "com/example/clause_search/clausesearch/Predicate" := (E_a.wr W5)
  obtain ⟨T10, h10, X10, e10, W10, st10⟩ := putF X5 hx hZ hown (host := "") (Or.inl (hw _ (List.mem_of_getElem? (i := 29) rfl))) Via.refl e5 f8 f9 (Or.inr ⟨(hw _ (List.mem_of_getElem? (i := 30) rfl)), rfl, hnm⟩) (hw _ (List.mem_of_getElem? (i := 6) rfl)) (ty := .int) (by decide) rfl rfl (g := (mkF m 11 #[.val (.ref a), .val (.ref t), .val (.int x)] [(.int x), (.ref a)])) rfl rfl (hb hby d2_11)
  have Fw10 := f8.same W10
  have s10 : h10.size = h5.size := W10.size
  have N10 := Fr.snoc X10 N5 (by omega : n0 ≤ a)
  have k11 : Rch p e below (s₁.setTop (entryFrame m #[(.ref a), (.ref t), (.int x)] 3)) T10 (mkF m 14 #[.val (.ref a), .val (.ref t), .val (.int x)] []) := fun tg kg => k7 tg (st10 tg kg)
  have f12 : Exa Z h10 a "com/example/clause_search/clausesearch/Predicate" := (f9.wr W10)
  obtain ⟨fs13, hr13, hrun13, hended13, hW13, hsame13⟩ := X10.leave (v := none) (fun _ => rfl)
  refine ⟨_, _, k11 _ ?_, hrun13, hended13, _, _, rfl, ?_, ⟨_, rfl⟩, hW13, hsame13.mono (by decide) (by decide)⟩
  · exact X10.returnOut hx Bd.returns (hb hby d2_14) hr13
  · show Q_rm_pred Z a t x u u' h0 n0 _ T10.heap _
    rw [e10]
    exact ⟨rfl, N10, (((Keep.refl h0 [a]).wr W5 (Or.inl (List.mem_of_getElem? (i := 0) rfl))).wr W10 (Or.inl (List.mem_of_getElem? (i := 0) rfl))), f12, Fw10⟩
theorem ef_rm_arity (m : MethodId) (x0 : Addr) : entryFrame m #[(.ref x0)] 1 = mkF m 0 #[.val (.ref x0)] [] := by first | (simp [entryFrame, mkF, argsToLocals, Value.category]; done) | rfl
def Q_rm_arity (Z : State) (a : Addr) (x : Int32) (h0 : Heap) (n0 : Nat) (v : Option Value) (h : Heap) (L : List Loc) : Prop := (v = some (.int x)) ∧ (Fr n0 L) ∧ (h = h0)
theorem d6_0 : decode prog_27_method_8_code 0 = .ok (.aload_n 0, 1) := by decide +kernel
theorem d6_1 : decode prog_27_method_8_code 1 = .ok (.getfield 13, 3) := by decide +kernel
theorem d6_4 : decode prog_27_method_8_code 4 = .ok (.ireturn, 1) := by decide +kernel
set_option maxRecDepth 65536 in
set_option maxHeartbeats 40000000 in
theorem rm_arity (l : Launch) (Z : State) (a0 : Array Value) (hw : ∀ d ∈ tables_1, d.before a0 Z = true) (ws : List Jvm.Cond) (a : Addr) (x : Int32) (h0 : Heap) (n0 : Nat) (Z0 : n0 ≤ h0.size) (F_2 : Fld Z h0 a "com/example/clause_search/clausesearch/Predicate" "arity" "I" (.int x)) :
    Con l Z (⟨"com/example/clause_search/clausesearch/Predicate", "arity", "()I"⟩ : MethodName) prog_27_method_8_code 1 (some .int) ws ({ frames := 0, cells := 0, slots := 0, locals := 0 } : Room) #[(.ref a)] h0 (Q_rm_arity Z a x h0 n0) := by
  refine MetFree.of_bodySF (plainFor_of_name pn_Predicate) hisR ?_
  intro p e s m args below meth c s₁ Bd hml0 hP hK
  obtain ⟨rfl, hZ, hh⟩ := hP
  have hx := Bd.exec
  have hby := Bd.bytes
  have hml : c.maxLocals = 1 := hml0
  have hown : s.vm.findClass "com/example/clause_search/clausesearch/Predicate" = some m.cls := findClass_of_methodNamed Bd.named
  have hnm := (name_of_methodNamed Bd.named Bd.method).1
  have X0 : Stand p l e ({ frames := 0, cells := 0, slots := 0, locals := 0 } : Room) s m #[(.ref a)] below meth c s₁ [] 0 0 := Stand.of_body Bd
  have e0 : s₁.heap = h0 := by rw [← hh, Bd.state]; rfl
  have N0 := Fr.nil n0
  have k0 : Rch p e below (s₁.setTop (entryFrame m #[(.ref a)] 1)) s₁ (mkF m 0 #[.val (.ref a)] []) := fun tg kg => castTop (ef_rm_arity m a) kg
  have lt_F_2 := own_ltN F_2.lt
  have k1 : Rch p e below (s₁.setTop (entryFrame m #[(.ref a)] 1)) s₁ (mkF m 1 #[.val (.ref a)] [(.ref a)]) := fun tg kg => by
    refine k0 tg ?_
    show Steps p.tables e below (s₁.setTop (mkF m 0 #[.val (.ref a)] [])) tg
    refine XS.aloadN X0.here hx rfl (hb hby d6_0) rfl rfl ?_
    exact kg
  obtain ⟨T2, X2, e2, st2⟩ := getF X0 hx hZ hown (host := "") (Or.inl (hw _ (List.mem_of_getElem? (i := 29) rfl))) Via.refl e0 F_2 (g := (mkF m 1 #[.val (.ref a)] [(.ref a)])) rfl rfl (hb hby d6_1)
  have k3 : Rch p e below (s₁.setTop (entryFrame m #[(.ref a)] 1)) T2 (mkF m 4 #[.val (.ref a)] [(.int x)]) := fun tg kg => k1 tg (st2 tg kg)
  obtain ⟨fs4, hr4, hrun4, hended4, hW4, hsame4⟩ := X2.leave (v := some (.int x)) (fun h => by rw [Bd.returns] at h; cases h)
  refine ⟨_, _, k3 _ ?_, hrun4, hended4, _, _, rfl, ?_, ⟨_, rfl⟩, hW4, hsame4.mono (by decide) (by decide)⟩
  · exact retOut X2 hx Bd.returns rfl (Or.inl ⟨rfl, Or.inl rfl, _, rfl⟩) (hb hby d6_4) hr4
  · show Q_rm_arity Z a x h0 n0 _ T2.heap _
    rw [e2]
    exact ⟨rfl, N0, rfl⟩
theorem pn_Relation : plainName "com/example/clause_search/clausesearch/Relation" = true := by first | (simp [plainName, overriddenIn]; done) | decide +kernel
theorem ef_rm_rel (m : MethodId) (x0 : Addr) (x1 : Addr) (x2 : Int32) (x3 : Addr) (x4 : Int32) : entryFrame m #[(.ref x0), (.ref x1), (.int x2), (.ref x3), (.int x4)] 5 = mkF m 0 #[.val (.ref x0), .val (.ref x1), .val (.int x2), .val (.ref x3), .val (.int x4)] [] := by first | (simp [entryFrame, mkF, argsToLocals, Value.category]; done) | rfl
def Q_rm_rel (Z : State) (a : Addr) (t : Addr) (x : Int32) (b : Addr) (x' : Int32) (xa : Int32) (u0 : Value) (u1 : Value) (u2 : Value) (u3 : Value) (u4 : Value) (h0 : Heap) (n0 : Nat) (v : Option Value) (h : Heap) (L : List Loc) : Prop := (v = none) ∧ (Fr n0 L) ∧ (Keep h0 h [a]) ∧ (Exa Z h a "com/example/clause_search/clausesearch/Relation") ∧ (Fld Z h a "com/example/clause_search/clausesearch/Relation" "size" "I" (.int x)) ∧ (Fld Z h a "com/example/clause_search/clausesearch/Relation" "all" "[I" .null)
theorem d5_0 : decode prog_34_method_1_code 0 = .ok (.aload_n 0, 1) := by decide +kernel
theorem d5_1 : decode prog_34_method_1_code 1 = .ok (.invokespecial 1, 3) := by decide +kernel
theorem d5_4 : decode prog_34_method_1_code 4 = .ok (.aload_n 0, 1) := by decide +kernel
theorem d5_5 : decode prog_34_method_1_code 5 = .ok (.aload_n 1, 1) := by decide +kernel
theorem d5_6 : decode prog_34_method_1_code 6 = .ok (.putfield 7, 3) := by decide +kernel
theorem d5_9 : decode prog_34_method_1_code 9 = .ok (.aload_n 0, 1) := by decide +kernel
theorem d5_10 : decode prog_34_method_1_code 10 = .ok (.aload_n 1, 1) := by decide +kernel
theorem pd_1 : parseMethodDescriptor "()I" = some ⟨[], some .int⟩ := by decide +kernel
theorem d5_11 : decode prog_34_method_1_code 11 = .ok (.invokevirtual 13, 3) := by decide +kernel
theorem d5_14 : decode prog_34_method_1_code 14 = .ok (.putfield 19, 3) := by decide +kernel
theorem d5_17 : decode prog_34_method_1_code 17 = .ok (.aload_n 0, 1) := by decide +kernel
theorem d5_18 : decode prog_34_method_1_code 18 = .ok (.iload_n 2, 1) := by decide +kernel
theorem d5_19 : decode prog_34_method_1_code 19 = .ok (.putfield 22, 3) := by decide +kernel
theorem d5_22 : decode prog_34_method_1_code 22 = .ok (.aload_n 0, 1) := by decide +kernel
theorem d5_23 : decode prog_34_method_1_code 23 = .ok (.aload_n 3, 1) := by decide +kernel
theorem d5_24 : decode prog_34_method_1_code 24 = .ok (.putfield 25, 3) := by decide +kernel
theorem d5_27 : decode prog_34_method_1_code 27 = .ok (.aload_n 0, 1) := by decide +kernel
theorem d5_28 : decode prog_34_method_1_code 28 = .ok (.iload 4, 2) := by decide +kernel
theorem d5_30 : decode prog_34_method_1_code 30 = .ok (.putfield 29, 3) := by decide +kernel
theorem d5_33 : decode prog_34_method_1_code 33 = .ok (.return_, 1) := by decide +kernel
set_option maxRecDepth 65536 in
set_option maxHeartbeats 40000000 in
theorem rm_rel (l : Launch) (Z : State) (a0 : Array Value) (hw : ∀ d ∈ tables_1, d.before a0 Z = true) (ws : List Jvm.Cond) (a : Addr) (t : Addr) (x : Int32) (b : Addr) (x' : Int32) (xa : Int32) (u0 : Value) (u1 : Value) (u2 : Value) (u3 : Value) (u4 : Value) (h0 : Heap) (n0 : Nat) (Z0 : n0 ≤ h0.size) (E_a : Exa Z h0 a "com/example/clause_search/clausesearch/Relation") (E_t : Exa Z h0 t "com/example/clause_search/clausesearch/Predicate") (F_ar : Fld Z h0 t "com/example/clause_search/clausesearch/Predicate" "arity" "I" (.int xa)) (hat : a ≠ t) (F_0 : Fld Z h0 a "com/example/clause_search/clausesearch/Relation" "predicate" "Lcom/example/clause_search/clausesearch/Predicate;" u0) (F_1 : Fld Z h0 a "com/example/clause_search/clausesearch/Relation" "arity" "I" u1) (F_2 : Fld Z h0 a "com/example/clause_search/clausesearch/Relation" "size" "I" u2) (F_3 : Fld Z h0 a "com/example/clause_search/clausesearch/Relation" "values" "[I" u3) (F_4 : Fld Z h0 a "com/example/clause_search/clausesearch/Relation" "constantCount" "I" u4) (F_5 : Fld Z h0 a "com/example/clause_search/clausesearch/Relation" "all" "[I" .null) (g_a : n0 ≤ a) :
    Con l Z (⟨"com/example/clause_search/clausesearch/Relation", "<init>", "(Lcom/example/clause_search/clausesearch/Predicate;I[II)V"⟩ : MethodName) prog_34_method_1_code 5 none ws ({ frames := 1, cells := 0, slots := 0, locals := 13 } : Room) #[(.ref a), (.ref t), (.int x), (.ref b), (.int x')] h0 (Q_rm_rel Z a t x b x' xa u0 u1 u2 u3 u4 h0 n0) := by
  refine MetFree.of_bodySF (plainFor_of_name pn_Relation) hisR ?_
  intro p e s m args below meth c s₁ Bd hml0 hP hK
  obtain ⟨rfl, hZ, hh⟩ := hP
  have hx := Bd.exec
  have hby := Bd.bytes
  have hml : c.maxLocals = 5 := hml0
  have hown : s.vm.findClass "com/example/clause_search/clausesearch/Relation" = some m.cls := findClass_of_methodNamed Bd.named
  have hnm := (name_of_methodNamed Bd.named Bd.method).1
  have X0 : Stand p l e ({ frames := 1, cells := 0, slots := 0, locals := 13 } : Room) s m #[(.ref a), (.ref t), (.int x), (.ref b), (.int x')] below meth c s₁ [] 0 0 := Stand.of_body Bd
  have e0 : s₁.heap = h0 := by rw [← hh, Bd.state]; rfl
  have N0 := Fr.nil n0
  have k0 : Rch p e below (s₁.setTop (entryFrame m #[(.ref a), (.ref t), (.int x), (.ref b), (.int x')] 5)) s₁ (mkF m 0 #[.val (.ref a), .val (.ref t), .val (.int x), .val (.ref b), .val (.int x')] []) := fun tg kg => castTop (ef_rm_rel m a t x b x') kg
  have lt_E_a := own_ltN E_a.lt
  have lt_E_t := own_ltN E_t.lt
  have lt_F_ar := own_ltN F_ar.lt
  have n_hat := own_neN hat
  have lt_F_0 := own_ltN F_0.lt
  have lt_F_1 := own_ltN F_1.lt
  have lt_F_2 := own_ltN F_2.lt
  have lt_F_3 := own_ltN F_3.lt
  have lt_F_4 := own_ltN F_4.lt
  have lt_F_5 := own_ltN F_5.lt
  have k1 : Rch p e below (s₁.setTop (entryFrame m #[(.ref a), (.ref t), (.int x), (.ref b), (.int x')] 5)) s₁ (mkF m 1 #[.val (.ref a), .val (.ref t), .val (.int x), .val (.ref b), .val (.int x')] [(.ref a)]) := fun tg kg => by
    refine k0 tg ?_
    show Steps p.tables e below (s₁.setTop (mkF m 0 #[.val (.ref a), .val (.ref t), .val (.int x), .val (.ref b), .val (.int x')] [])) tg
    refine XS.aloadN X0.here hx rfl (hb hby d5_0) rfl rfl ?_
    exact kg
  obtain ⟨T2, X2, e2, st2⟩ := initO X0 hx hZ hown (hw _ (List.mem_of_getElem? (i := 37) rfl)) (hw _ (List.mem_of_getElem? (i := 25) rfl)) (hw _ (List.mem_of_getElem? (i := 26) rfl)) e0 (g := (mkF m 1 #[.val (.ref a), .val (.ref t), .val (.int x), .val (.ref b), .val (.int x')] [(.ref a)])) rfl (by rw [hml]; rfl) rfl (hb hby d5_1) (by decide) (W := 0) (by show 2 * 0 + _ ≤ _; exact Nat.le_of_eq rfl) (by decide)
  have k3 : Rch p e below (s₁.setTop (entryFrame m #[(.ref a), (.ref t), (.int x), (.ref b), (.int x')] 5)) T2 (mkF m 4 #[.val (.ref a), .val (.ref t), .val (.int x), .val (.ref b), .val (.int x')] []) := fun tg kg => k1 tg (st2 tg kg)
  have k4 : Rch p e below (s₁.setTop (entryFrame m #[(.ref a), (.ref t), (.int x), (.ref b), (.int x')] 5)) T2 (mkF m 6 #[.val (.ref a), .val (.ref t), .val (.int x), .val (.ref b), .val (.int x')] [(.ref t), (.ref a)]) := fun tg kg => by
    refine k3 tg ?_
    show Steps p.tables e below (T2.setTop (mkF m 4 #[.val (.ref a), .val (.ref t), .val (.int x), .val (.ref b), .val (.int x')] [])) tg
    refine XS.aloadN X2.here hx rfl (hb hby d5_4) rfl rfl ?_
    show Steps p.tables e below (T2.setTop (mkF m 5 #[.val (.ref a), .val (.ref t), .val (.int x), .val (.ref b), .val (.int x')] [(.ref a)])) tg
    refine XS.aloadN X2.here hx rfl (hb hby d5_5) rfl rfl ?_
    exact kg
  obtain ⟨T5, h5, X5, e5, W5, st5⟩ := putF X2 hx hZ hown (host := "") (Or.inl (hw _ (List.mem_of_getElem? (i := 38) rfl))) Via.refl e2 F_0 E_a (Or.inr ⟨(hw _ (List.mem_of_getElem? (i := 39) rfl)), rfl, hnm⟩) (hw _ (List.mem_of_getElem? (i := 32) rfl)) (ty := (.object "com/example/clause_search/clausesearch/Predicate")) (by decide) rfl rfl (g := (mkF m 6 #[.val (.ref a), .val (.ref t), .val (.int x), .val (.ref b), .val (.int x')] [(.ref t), (.ref a)])) rfl rfl (hb hby d5_6)
  have Fw5 := F_0.same W5
  have s5 : h5.size = h0.size := W5.size
  have N5 := Fr.snoc X5 N0 (by omega : n0 ≤ a)
  have k6 : Rch p e below (s₁.setTop (entryFrame m #[(.ref a), (.ref t), (.int x), (.ref b), (.int x')] 5)) T5 (mkF m 9 #[.val (.ref a), .val (.ref t), .val (.int x), .val (.ref b), .val (.int x')] []) := fun tg kg => k4 tg (st5 tg kg)
  have k7 : Rch p e below (s₁.setTop (entryFrame m #[(.ref a), (.ref t), (.int x), (.ref b), (.int x')] 5)) T5 (mkF m 11 #[.val (.ref a), .val (.ref t), .val (.int x), .val (.ref b), .val (.int x')] [(.ref t), (.ref a)]) := fun tg kg => by
    refine k6 tg ?_
    show Steps p.tables e below (T5.setTop (mkF m 9 #[.val (.ref a), .val (.ref t), .val (.int x), .val (.ref b), .val (.int x')] [])) tg
    refine XS.aloadN X5.here hx rfl (hb hby d5_9) rfl rfl ?_
    show Steps p.tables e below (T5.setTop (mkF m 10 #[.val (.ref a), .val (.ref t), .val (.int x), .val (.ref b), .val (.int x')] [(.ref a)])) tg
    refine XS.aloadN X5.here hx rfl (hb hby d5_10) rfl rfl ?_
    exact kg
  have f9 : Fld Z h5 t "com/example/clause_search/clausesearch/Predicate" "arity" "I" (.int xa) := (F_ar.other W5 (Or.inl (by first | exact own_ne (by omega) | assumption | (apply Ne.symm; assumption))))
  have f10 : Exa Z h5 t "com/example/clause_search/clausesearch/Predicate" := (E_t.wr W5)
  obtain ⟨v8, T8, h8, Lc8, X8, e8, hQ8, st8⟩ := own_callV X5 hx hZ hown (hw _ (List.mem_of_getElem? (i := 40) rfl)) (hw _ (List.mem_of_getElem? (i := 41) rfl)) (notFace_of_selects (args := #[]) (mvT hZ (hw _ (List.mem_of_getElem? (i := 43) rfl)))) (hw _ (List.mem_of_getElem? (i := 43) rfl)) (hw _ (List.mem_of_getElem? (i := 42) rfl)) (hw _ (List.mem_of_getElem? (i := 44) rfl)) (hw _ (List.mem_of_getElem? (i := 7) rfl)) (by decide) (rm_arity l Z a0 hw [] t xa h5 n0 (by omega) f9) e5 f10 (g := (mkF m 11 #[.val (.ref a), .val (.ref t), .val (.int x), .val (.ref b), .val (.int x')] [(.ref t), (.ref a)])) rfl (by rw [hml]; rfl) (argsL := []) (rest := [(.ref a)]) rfl (lenOf pd_1 rfl) rfl (W := 1) (by show 2 * 0 + _ ≤ _; exact Nat.le_of_eq rfl) (hb hby d5_11) (by decide) (by decide) (by decide) (by decide)
  obtain ⟨rfl, Nq8, hs8⟩ := hQ8
  have N8 := Fr.app N5 Nq8
  have e8' : T8.heap = h5 := e8.trans hs8
  have k11 : Rch p e below (s₁.setTop (entryFrame m #[(.ref a), (.ref t), (.int x), (.ref b), (.int x')] 5)) T8 (mkF m 14 #[.val (.ref a), .val (.ref t), .val (.int x), .val (.ref b), .val (.int x')] [(.int xa), (.ref a)]) := fun tg kg => k7 tg (st8 tg kg)
  have f12 : Fld Z h5 a "com/example/clause_search/clausesearch/Relation" "arity" "I" u1 := (F_1.other W5 (Or.inr (slot_ne (Or.inr (hw _ (List.mem_of_getElem? (i := 46) rfl))) (Or.inr (hw _ (List.mem_of_getElem? (i := 39) rfl))) (by decide) (t := .int) (t' := (.object "com/example/clause_search/clausesearch/Predicate")) (by decide) (by decide))))
  have f13 : Exa Z h5 a "com/example/clause_search/clausesearch/Relation" := (E_a.wr W5)
  obtain ⟨T14, h14, X14, e14, W14, st14⟩ := putF X8 hx hZ hown (host := "") (Or.inl (hw _ (List.mem_of_getElem? (i := 45) rfl))) Via.refl e8' f12 f13 (Or.inr ⟨(hw _ (List.mem_of_getElem? (i := 46) rfl)), rfl, hnm⟩) (hw _ (List.mem_of_getElem? (i := 32) rfl)) (ty := .int) (by decide) rfl rfl (g := (mkF m 14 #[.val (.ref a), .val (.ref t), .val (.int x), .val (.ref b), .val (.int x')] [(.int xa), (.ref a)])) rfl rfl (hb hby d5_14)
  have Fw14 := f12.same W14
  have s14 : h14.size = h5.size := W14.size
  have N14 := Fr.snoc X14 N8 (by omega : n0 ≤ a)
  have k15 : Rch p e below (s₁.setTop (entryFrame m #[(.ref a), (.ref t), (.int x), (.ref b), (.int x')] 5)) T14 (mkF m 17 #[.val (.ref a), .val (.ref t), .val (.int x), .val (.ref b), .val (.int x')] []) := fun tg kg => k11 tg (st14 tg kg)
  have k16 : Rch p e below (s₁.setTop (entryFrame m #[(.ref a), (.ref t), (.int x), (.ref b), (.int x')] 5)) T14 (mkF m 19 #[.val (.ref a), .val (.ref t), .val (.int x), .val (.ref b), .val (.int x')] [(.int x), (.ref a)]) := fun tg kg => by
    refine k15 tg ?_
    show Steps p.tables e below (T14.setTop (mkF m 17 #[.val (.ref a), .val (.ref t), .val (.int x), .val (.ref b), .val (.int x')] [])) tg
    refine XS.aloadN X14.here hx rfl (hb hby d5_17) rfl rfl ?_
    show Steps p.tables e below (T14.setTop (mkF m 18 #[.val (.ref a), .val (.ref t), .val (.int x), .val (.ref b), .val (.int x')] [(.ref a)])) tg
    refine XS.iloadN X14.here hx rfl (hb hby d5_18) rfl ?_
    exact kg
  have f17 : Fld Z h14 a "com/example/clause_search/clausesearch/Relation" "size" "I" u2 := ((F_2.other W5 (Or.inr (slot_ne (Or.inr (hw _ (List.mem_of_getElem? (i := 48) rfl))) (Or.inr (hw _ (List.mem_of_getElem? (i := 39) rfl))) (by decide) (t := .int) (t' := (.object "com/example/clause_search/clausesearch/Predicate")) (by decide) (by decide)))).other W14 (Or.inr (slot_ne (Or.inr (hw _ (List.mem_of_getElem? (i := 48) rfl))) (Or.inr (hw _ (List.mem_of_getElem? (i := 46) rfl))) (by decide) (t := .int) (t' := .int) (by decide) (by decide))))
  have f18 : Exa Z h14 a "com/example/clause_search/clausesearch/Relation" := (f13.wr W14)
  obtain ⟨T19, h19, X19, e19, W19, st19⟩ := putF X14 hx hZ hown (host := "") (Or.inl (hw _ (List.mem_of_getElem? (i := 47) rfl))) Via.refl e14 f17 f18 (Or.inr ⟨(hw _ (List.mem_of_getElem? (i := 48) rfl)), rfl, hnm⟩) (hw _ (List.mem_of_getElem? (i := 32) rfl)) (ty := .int) (by decide) rfl rfl (g := (mkF m 19 #[.val (.ref a), .val (.ref t), .val (.int x), .val (.ref b), .val (.int x')] [(.int x), (.ref a)])) rfl rfl (hb hby d5_19)
  have Fw19 := f17.same W19
  have s19 : h19.size = h14.size := W19.size
  have N19 := Fr.snoc X19 N14 (by omega : n0 ≤ a)
  have k20 : Rch p e below (s₁.setTop (entryFrame m #[(.ref a), (.ref t), (.int x), (.ref b), (.int x')] 5)) T19 (mkF m 22 #[.val (.ref a), .val (.ref t), .val (.int x), .val (.ref b), .val (.int x')] []) := fun tg kg => k16 tg (st19 tg kg)
  have k21 : Rch p e below (s₁.setTop (entryFrame m #[(.ref a), (.ref t), (.int x), (.ref b), (.int x')] 5)) T19 (mkF m 24 #[.val (.ref a), .val (.ref t), .val (.int x), .val (.ref b), .val (.int x')] [(.ref b), (.ref a)]) := fun tg kg => by
    refine k20 tg ?_
    show Steps p.tables e below (T19.setTop (mkF m 22 #[.val (.ref a), .val (.ref t), .val (.int x), .val (.ref b), .val (.int x')] [])) tg
    refine XS.aloadN X19.here hx rfl (hb hby d5_22) rfl rfl ?_
    show Steps p.tables e below (T19.setTop (mkF m 23 #[.val (.ref a), .val (.ref t), .val (.int x), .val (.ref b), .val (.int x')] [(.ref a)])) tg
    refine XS.aloadN X19.here hx rfl (hb hby d5_23) rfl rfl ?_
    exact kg
  have f22 : Fld Z h19 a "com/example/clause_search/clausesearch/Relation" "values" "[I" u3 := (((F_3.other W5 (Or.inr (slot_ne (Or.inr (hw _ (List.mem_of_getElem? (i := 50) rfl))) (Or.inr (hw _ (List.mem_of_getElem? (i := 39) rfl))) (by decide) (t := (.array .int)) (t' := (.object "com/example/clause_search/clausesearch/Predicate")) (by decide) (by decide)))).other W14 (Or.inr (slot_ne (Or.inr (hw _ (List.mem_of_getElem? (i := 50) rfl))) (Or.inr (hw _ (List.mem_of_getElem? (i := 46) rfl))) (by decide) (t := (.array .int)) (t' := .int) (by decide) (by decide)))).other W19 (Or.inr (slot_ne (Or.inr (hw _ (List.mem_of_getElem? (i := 50) rfl))) (Or.inr (hw _ (List.mem_of_getElem? (i := 48) rfl))) (by decide) (t := (.array .int)) (t' := .int) (by decide) (by decide))))
  have f23 : Exa Z h19 a "com/example/clause_search/clausesearch/Relation" := (f18.wr W19)
  obtain ⟨T24, h24, X24, e24, W24, st24⟩ := putF X19 hx hZ hown (host := "") (Or.inl (hw _ (List.mem_of_getElem? (i := 49) rfl))) Via.refl e19 f22 f23 (Or.inr ⟨(hw _ (List.mem_of_getElem? (i := 50) rfl)), rfl, hnm⟩) (hw _ (List.mem_of_getElem? (i := 32) rfl)) (ty := (.array .int)) (by decide) rfl rfl (g := (mkF m 24 #[.val (.ref a), .val (.ref t), .val (.int x), .val (.ref b), .val (.int x')] [(.ref b), (.ref a)])) rfl rfl (hb hby d5_24)
  have Fw24 := f22.same W24
  have s24 : h24.size = h19.size := W24.size
  have N24 := Fr.snoc X24 N19 (by omega : n0 ≤ a)
  have k25 : Rch p e below (s₁.setTop (entryFrame m #[(.ref a), (.ref t), (.int x), (.ref b), (.int x')] 5)) T24 (mkF m 27 #[.val (.ref a), .val (.ref t), .val (.int x), .val (.ref b), .val (.int x')] []) := fun tg kg => k21 tg (st24 tg kg)
  have k26 : Rch p e below (s₁.setTop (entryFrame m #[(.ref a), (.ref t), (.int x), (.ref b), (.int x')] 5)) T24 (mkF m 30 #[.val (.ref a), .val (.ref t), .val (.int x), .val (.ref b), .val (.int x')] [(.int x'), (.ref a)]) := fun tg kg => by
    refine k25 tg ?_
    show Steps p.tables e below (T24.setTop (mkF m 27 #[.val (.ref a), .val (.ref t), .val (.int x), .val (.ref b), .val (.int x')] [])) tg
    refine XS.aloadN X24.here hx rfl (hb hby d5_27) rfl rfl ?_
    show Steps p.tables e below (T24.setTop (mkF m 28 #[.val (.ref a), .val (.ref t), .val (.int x), .val (.ref b), .val (.int x')] [(.ref a)])) tg
    refine XS.iload X24.here hx rfl (hb hby d5_28) rfl ?_
    exact kg
  have f27 : Fld Z h24 a "com/example/clause_search/clausesearch/Relation" "constantCount" "I" u4 := ((((F_4.other W5 (Or.inr (slot_ne (Or.inr (hw _ (List.mem_of_getElem? (i := 52) rfl))) (Or.inr (hw _ (List.mem_of_getElem? (i := 39) rfl))) (by decide) (t := .int) (t' := (.object "com/example/clause_search/clausesearch/Predicate")) (by decide) (by decide)))).other W14 (Or.inr (slot_ne (Or.inr (hw _ (List.mem_of_getElem? (i := 52) rfl))) (Or.inr (hw _ (List.mem_of_getElem? (i := 46) rfl))) (by decide) (t := .int) (t' := .int) (by decide) (by decide)))).other W19 (Or.inr (slot_ne (Or.inr (hw _ (List.mem_of_getElem? (i := 52) rfl))) (Or.inr (hw _ (List.mem_of_getElem? (i := 48) rfl))) (by decide) (t := .int) (t' := .int) (by decide) (by decide)))).other W24 (Or.inr (slot_ne (Or.inr (hw _ (List.mem_of_getElem? (i := 52) rfl))) (Or.inr (hw _ (List.mem_of_getElem? (i := 50) rfl))) (by decide) (t := .int) (t' := (.array .int)) (by decide) (by decide))))
  have f28 : Exa Z h24 a "com/example/clause_search/clausesearch/Relation" := (f23.wr W24)
  obtain ⟨T29, h29, X29, e29, W29, st29⟩ := putF X24 hx hZ hown (host := "") (Or.inl (hw _ (List.mem_of_getElem? (i := 51) rfl))) Via.refl e24 f27 f28 (Or.inr ⟨(hw _ (List.mem_of_getElem? (i := 52) rfl)), rfl, hnm⟩) (hw _ (List.mem_of_getElem? (i := 32) rfl)) (ty := .int) (by decide) rfl rfl (g := (mkF m 30 #[.val (.ref a), .val (.ref t), .val (.int x), .val (.ref b), .val (.int x')] [(.int x'), (.ref a)])) rfl rfl (hb hby d5_30)
  have Fw29 := f27.same W29
  have s29 : h29.size = h24.size := W29.size
  have N29 := Fr.snoc X29 N24 (by omega : n0 ≤ a)
  have k30 : Rch p e below (s₁.setTop (entryFrame m #[(.ref a), (.ref t), (.int x), (.ref b), (.int x')] 5)) T29 (mkF m 33 #[.val (.ref a), .val (.ref t), .val (.int x), .val (.ref b), .val (.int x')] []) := fun tg kg => k26 tg (st29 tg kg)
  have f31 : Exa Z h29 a "com/example/clause_search/clausesearch/Relation" := (f28.wr W29)
  have f32 : Fld Z h29 a "com/example/clause_search/clausesearch/Relation" "size" "I" (.int x) := ((Fw19.other W24 (Or.inr (slot_ne (Or.inr (hw _ (List.mem_of_getElem? (i := 48) rfl))) (Or.inr (hw _ (List.mem_of_getElem? (i := 50) rfl))) (by decide) (t := .int) (t' := (.array .int)) (by decide) (by decide)))).other W29 (Or.inr (slot_ne (Or.inr (hw _ (List.mem_of_getElem? (i := 48) rfl))) (Or.inr (hw _ (List.mem_of_getElem? (i := 52) rfl))) (by decide) (t := .int) (t' := .int) (by decide) (by decide))))
  have f33 : Fld Z h29 a "com/example/clause_search/clausesearch/Relation" "all" "[I" .null := (((((F_5.other W5 (Or.inr (slot_ne (Or.inl (hw _ (List.mem_of_getElem? (i := 59) rfl))) (Or.inr (hw _ (List.mem_of_getElem? (i := 39) rfl))) (by decide) (t := (.array .int)) (t' := (.object "com/example/clause_search/clausesearch/Predicate")) (by decide) (by decide)))).other W14 (Or.inr (slot_ne (Or.inl (hw _ (List.mem_of_getElem? (i := 59) rfl))) (Or.inr (hw _ (List.mem_of_getElem? (i := 46) rfl))) (by decide) (t := (.array .int)) (t' := .int) (by decide) (by decide)))).other W19 (Or.inr (slot_ne (Or.inl (hw _ (List.mem_of_getElem? (i := 59) rfl))) (Or.inr (hw _ (List.mem_of_getElem? (i := 48) rfl))) (by decide) (t := (.array .int)) (t' := .int) (by decide) (by decide)))).other W24 (Or.inr (slot_ne (Or.inl (hw _ (List.mem_of_getElem? (i := 59) rfl))) (Or.inr (hw _ (List.mem_of_getElem? (i := 50) rfl))) (by decide) (t := (.array .int)) (t' := (.array .int)) (by decide) (by decide)))).other W29 (Or.inr (slot_ne (Or.inl (hw _ (List.mem_of_getElem? (i := 59) rfl))) (Or.inr (hw _ (List.mem_of_getElem? (i := 52) rfl))) (by decide) (t := (.array .int)) (t' := .int) (by decide) (by decide))))
  obtain ⟨fs34, hr34, hrun34, hended34, hW34, hsame34⟩ := X29.leave (v := none) (fun _ => rfl)
  refine ⟨_, _, k30 _ ?_, hrun34, hended34, _, _, rfl, ?_, ⟨_, rfl⟩, hW34, hsame34.mono (by decide) (by decide)⟩
  · exact X29.returnOut hx Bd.returns (hb hby d5_33) hr34
  · show Q_rm_rel Z a t x b x' xa u0 u1 u2 u3 u4 h0 n0 _ T29.heap _
    rw [e29]
    exact ⟨rfl, N29, ((((((Keep.refl h0 [a]).wr W5 (Or.inl (List.mem_of_getElem? (i := 0) rfl))).wr W14 (Or.inl (List.mem_of_getElem? (i := 0) rfl))).wr W19 (Or.inl (List.mem_of_getElem? (i := 0) rfl))).wr W24 (Or.inl (List.mem_of_getElem? (i := 0) rfl))).wr W29 (Or.inl (List.mem_of_getElem? (i := 0) rfl))), f31, f32, f33⟩
theorem ef_rm_tup (m : MethodId) (x0 : Addr) : entryFrame m #[(.ref x0)] 3 = mkF m 0 #[.val (.ref x0), .unset, .unset] [] := by first | (simp [entryFrame, mkF, argsToLocals, Value.category]; done) | rfl
def Q_rm_tup (Z : State) (a : Addr) (n : Int32) (h0 : Heap) (n0 : Nat) (v : Option Value) (h : Heap) (L : List Loc) : Prop := ∃ (b : Addr) (k : ClassId), (v = some (.ref b)) ∧ (Fr n0 L) ∧ (Keep h0 h [a]) ∧ (h0.size ≤ b) ∧ (Exa Z h a "com/example/clause_search/clausesearch/Relation") ∧ (Fld Z h a "com/example/clause_search/clausesearch/Relation" "size" "I" (.int n)) ∧ (Fld Z h a "com/example/clause_search/clausesearch/Relation" "all" "[I" (.ref b)) ∧ (Arv Z h b k .int n (own_vs n.toNatClampNeg) (.int (0 : Int32)))
theorem d7_0 : decode prog_34_method_5_code 0 = .ok (.aload_n 0, 1) := by decide +kernel
theorem d7_1 : decode prog_34_method_5_code 1 = .ok (.getfield 113, 3) := by decide +kernel
theorem d7_4 : decode prog_34_method_5_code 4 = .ok (.astore_n 1, 1) := by decide +kernel
theorem d7_5 : decode prog_34_method_5_code 5 = .ok (.aload_n 1, 1) := by decide +kernel
theorem d7_6 : decode prog_34_method_5_code 6 = .ok (.ifnonnull 35, 3) := by decide +kernel
theorem d7_9 : decode prog_34_method_5_code 9 = .ok (.aload_n 0, 1) := by decide +kernel
theorem d7_10 : decode prog_34_method_5_code 10 = .ok (.getfield 22, 3) := by decide +kernel
theorem d7_13 : decode prog_34_method_5_code 13 = .ok (.newarray .int, 2) := by decide +kernel
theorem d7_15 : decode prog_34_method_5_code 15 = .ok (.astore_n 1, 1) := by decide +kernel
theorem d7_16 : decode prog_34_method_5_code 16 = .ok (.iconst 0, 1) := by decide +kernel
theorem d7_17 : decode prog_34_method_5_code 17 = .ok (.istore_n 2, 1) := by decide +kernel
theorem d7_18 : decode prog_34_method_5_code 18 = .ok (.iload_n 2, 1) := by decide +kernel
theorem d7_19 : decode prog_34_method_5_code 19 = .ok (.aload_n 0, 1) := by decide +kernel
theorem d7_20 : decode prog_34_method_5_code 20 = .ok (.getfield 22, 3) := by decide +kernel
theorem d7_23 : decode prog_34_method_5_code 23 = .ok (.if_icmp .ge 13, 3) := by decide +kernel
theorem d7_26 : decode prog_34_method_5_code 26 = .ok (.aload_n 1, 1) := by decide +kernel
theorem d7_27 : decode prog_34_method_5_code 27 = .ok (.iload_n 2, 1) := by decide +kernel
theorem d7_28 : decode prog_34_method_5_code 28 = .ok (.iload_n 2, 1) := by decide +kernel
theorem d7_29 : decode prog_34_method_5_code 29 = .ok (.iastore, 1) := by decide +kernel
theorem d7_30 : decode prog_34_method_5_code 30 = .ok (.iinc 2 1, 3) := by decide +kernel
theorem d7_33 : decode prog_34_method_5_code 33 = .ok (.goto (-15), 3) := by decide +kernel
theorem d7_36 : decode prog_34_method_5_code 36 = .ok (.aload_n 0, 1) := by decide +kernel
theorem d7_37 : decode prog_34_method_5_code 37 = .ok (.aload_n 1, 1) := by decide +kernel
theorem d7_38 : decode prog_34_method_5_code 38 = .ok (.putfield 113, 3) := by decide +kernel
theorem d7_41 : decode prog_34_method_5_code 41 = .ok (.aload_n 1, 1) := by decide +kernel
theorem d7_42 : decode prog_34_method_5_code 42 = .ok (.areturn, 1) := by decide +kernel
set_option maxRecDepth 65536 in
set_option maxHeartbeats 40000000 in
theorem rm_tup (l : Launch) (Z : State) (a0 : Array Value) (hw : ∀ d ∈ tables_1, d.before a0 Z = true) (ws : List Jvm.Cond) (a : Addr) (n : Int32) (h0 : Heap) (n0 : Nat) (Z0 : n0 ≤ h0.size) (E_a : Exa Z h0 a "com/example/clause_search/clausesearch/Relation") (F_s : Fld Z h0 a "com/example/clause_search/clausesearch/Relation" "size" "I" (.int n)) (F_l : Fld Z h0 a "com/example/clause_search/clausesearch/Relation" "all" "[I" .null) (hn : 0 ≤ n.toInt ∧ n.toInt ≤ 7) (g_a : n0 ≤ a) :
    Con l Z (⟨"com/example/clause_search/clausesearch/Relation", "tuples", "()[I"⟩ : MethodName) prog_34_method_5_code 3 (some (.array .int)) ws ({ frames := 0, cells := 1, slots := 7, locals := 0 } : Room) #[(.ref a)] h0 (Q_rm_tup Z a n h0 n0) := by
  refine MetFree.of_bodySF (plainFor_of_name pn_Relation) hisR ?_
  intro p e s m args below meth c s₁ Bd hml0 hP hK
  obtain ⟨rfl, hZ, hh⟩ := hP
  have hx := Bd.exec
  have hby := Bd.bytes
  have hml : c.maxLocals = 3 := hml0
  have hown : s.vm.findClass "com/example/clause_search/clausesearch/Relation" = some m.cls := findClass_of_methodNamed Bd.named
  have hnm := (name_of_methodNamed Bd.named Bd.method).1
  have X0 : Stand p l e ({ frames := 0, cells := 1, slots := 7, locals := 0 } : Room) s m #[(.ref a)] below meth c s₁ [] 0 0 := Stand.of_body Bd
  have e0 : s₁.heap = h0 := by rw [← hh, Bd.state]; rfl
  have N0 := Fr.nil n0
  have k0 : Rch p e below (s₁.setTop (entryFrame m #[(.ref a)] 3)) s₁ (mkF m 0 #[.val (.ref a), .unset, .unset] []) := fun tg kg => castTop (ef_rm_tup m a) kg
  have lt_E_a := own_ltN E_a.lt
  have lt_F_s := own_ltN F_s.lt
  have lt_F_l := own_ltN F_l.lt
  have k1 : Rch p e below (s₁.setTop (entryFrame m #[(.ref a)] 3)) s₁ (mkF m 1 #[.val (.ref a), .unset, .unset] [(.ref a)]) := fun tg kg => by
    refine k0 tg ?_
    show Steps p.tables e below (s₁.setTop (mkF m 0 #[.val (.ref a), .unset, .unset] [])) tg
    refine XS.aloadN X0.here hx rfl (hb hby d7_0) rfl rfl ?_
    exact kg
  obtain ⟨T2, X2, e2, st2⟩ := getF X0 hx hZ hown (host := "") (Or.inl (hw _ (List.mem_of_getElem? (i := 58) rfl))) Via.refl e0 F_l (g := (mkF m 1 #[.val (.ref a), .unset, .unset] [(.ref a)])) rfl rfl (hb hby d7_1)
  have k3 : Rch p e below (s₁.setTop (entryFrame m #[(.ref a)] 3)) T2 (mkF m 4 #[.val (.ref a), .unset, .unset] [.null]) := fun tg kg => k1 tg (st2 tg kg)
  have k4 : Rch p e below (s₁.setTop (entryFrame m #[(.ref a)] 3)) T2 (mkF m 10 #[.val (.ref a), .val .null, .unset] [(.ref a)]) := fun tg kg => by
    refine k3 tg ?_
    show Steps p.tables e below (T2.setTop (mkF m 4 #[.val (.ref a), .unset, .unset] [.null])) tg
    refine XS.astoreN X2.here hx rfl (hb hby d7_4) rfl rfl (l' := #[.val (.ref a), .val .null, .unset]) rfl ?_
    show Steps p.tables e below (T2.setTop (mkF m 5 #[.val (.ref a), .val .null, .unset] [])) tg
    refine XS.aloadN X2.here hx rfl (hb hby d7_5) rfl rfl ?_
    show Steps p.tables e below (T2.setTop (mkF m 6 #[.val (.ref a), .val .null, .unset] [.null])) tg
    refine XS.ifnonnullNo X2.here hx rfl (hb hby d7_6) rfl ?_
    show Steps p.tables e below (T2.setTop (mkF m 9 #[.val (.ref a), .val .null, .unset] [])) tg
    refine XS.aloadN X2.here hx rfl (hb hby d7_9) rfl rfl ?_
    exact kg
  obtain ⟨T5, X5, e5, st5⟩ := getF X2 hx hZ hown (host := "") (Or.inl (hw _ (List.mem_of_getElem? (i := 47) rfl))) Via.refl e2 F_s (g := (mkF m 10 #[.val (.ref a), .val .null, .unset] [(.ref a)])) rfl rfl (hb hby d7_10)
  have k6 : Rch p e below (s₁.setTop (entryFrame m #[(.ref a)] 3)) T5 (mkF m 13 #[.val (.ref a), .val .null, .unset] [(.int n)]) := fun tg kg => k4 tg (st5 tg kg)
  have hnn := own_nn hn.1
  have hnc : n.toNatClampNeg ≤ 7 := by have := nat_of hnn; omega
  have e0' : (0 : Int32).toInt = 0 := by decide
  have e1' : (1 : Int32).toInt = 1 := by decide
  obtain ⟨T7, h7, c7, X7, e7, E7, A7, st7⟩ := newP X5 hx hZ (hw _ (List.mem_of_getElem? (i := 0) rfl)) e5 (g := (mkF m 13 #[.val (.ref a), .val .null, .unset] [(.int n)])) rfl (hb hby d7_13) rfl hnn (cap := 7) hnc (by decide) (by decide) (by decide)
  obtain ⟨b7, g7⟩ : ∃ z, z = h0.size := ⟨_, rfl⟩
  rw [← g7] at A7 st7
  have s7 : h0.size ≤ h7.size := E7.1
  have lt7 : b7 < h7.size := A7.lt
  have k8 : Rch p e below (s₁.setTop (entryFrame m #[(.ref a)] 3)) T7 (mkF m 15 #[.val (.ref a), .val .null, .unset] [(.ref b7)]) := fun tg kg => k6 tg (st7 tg kg)
  have V7 : Arv Z h7 b7 c7 .int n [] (.int (0 : Int32)) := Arv.new A7 hnn
  have k9 : Rch p e below (s₁.setTop (entryFrame m #[(.ref a)] 3)) T7 (mkF m 18 #[.val (.ref a), .val (.ref b7), .val (.int (0 : Int32))] []) := fun tg kg => by
    refine k8 tg ?_
    show Steps p.tables e below (T7.setTop (mkF m 15 #[.val (.ref a), .val .null, .unset] [(.ref b7)])) tg
    refine XS.astoreN X7.here hx rfl (hb hby d7_15) rfl rfl (l' := #[.val (.ref a), .val (.ref b7), .unset]) rfl ?_
    show Steps p.tables e below (T7.setTop (mkF m 16 #[.val (.ref a), .val (.ref b7), .unset] [])) tg
    refine XS.iconst X7.here hx rfl (hb hby d7_16) ?_
    show Steps p.tables e below (T7.setTop (mkF m 17 #[.val (.ref a), .val (.ref b7), .unset] [(.int (0 : Int32))])) tg
    refine XS.istoreN X7.here hx rfl (hb hby d7_17) rfl (l' := #[.val (.ref a), .val (.ref b7), .val (.int (0 : Int32))]) rfl ?_
    exact kg
  have f10 : Fld Z h7 a "com/example/clause_search/clausesearch/Relation" "size" "I" (.int n) := (F_s.ext E7)
  have f11 : Exa Z h7 a "com/example/clause_search/clausesearch/Relation" := (E_a.ext E7)
  have f12 : Fld Z h7 a "com/example/clause_search/clausesearch/Relation" "all" "[I" .null := (F_l.ext E7)
  have loop : ∀ (j : Nat) (i : Int32) (Tl : State) (hl : Heap) (locs : List Loc), 0 ≤ i.toInt → i.toInt + j = n.toInt → Stand p l e ({ frames := 0, cells := 1, slots := 7, locals := 0 } : Room) s m #[(.ref a)] below meth c Tl locs 1 7 → Tl.heap = hl → Fr n0 locs → Keep h7 hl [b7] → Arv Z hl b7 c7 .int n (own_vs i.toNatClampNeg) (.int (0 : Int32)) → Rch p e below (s₁.setTop (entryFrame m #[(.ref a)] 3)) Tl (mkF m 18 #[.val (.ref a), .val (.ref b7), .val (.int i)] []) → ∃ (i' : Int32) (Te : State) (he : Heap) (locs' : List Loc), Stand p l e ({ frames := 0, cells := 1, slots := 7, locals := 0 } : Room) s m #[(.ref a)] below meth c Te locs' 1 7 ∧ Te.heap = he ∧ Fr n0 locs' ∧ Keep h7 he [b7] ∧ Arv Z he b7 c7 .int n (own_vs n.toNatClampNeg) (.int (0 : Int32)) ∧ Rch p e below (s₁.setTop (entryFrame m #[(.ref a)] 3)) Te (mkF m 36 #[.val (.ref a), .val (.ref b7), .val (.int i')] []) := by
    intro j
    induction j with
    | zero =>
      intro i Tl hl locs hi0 hij Xl el Nl Kl Vl kl
      have sl : h7.size ≤ hl.size := Kl.1
      have k13 : Rch p e below (s₁.setTop (entryFrame m #[(.ref a)] 3)) Tl (mkF m 20 #[.val (.ref a), .val (.ref b7), .val (.int i)] [(.ref a), (.int i)]) := fun tg kg => by
        refine kl tg ?_
        show Steps p.tables e below (Tl.setTop (mkF m 18 #[.val (.ref a), .val (.ref b7), .val (.int i)] [])) tg
        refine XS.iloadN Xl.here hx rfl (hb hby d7_18) rfl ?_
        show Steps p.tables e below (Tl.setTop (mkF m 19 #[.val (.ref a), .val (.ref b7), .val (.int i)] [(.int i)])) tg
        refine XS.aloadN Xl.here hx rfl (hb hby d7_19) rfl rfl ?_
        exact kg
      have f14 : Fld Z hl a "com/example/clause_search/clausesearch/Relation" "size" "I" (.int n) := (f10.keep Kl (ninS (by first | exact own_ne (by omega) | assumption | (apply Ne.symm; assumption)) nin0))
      obtain ⟨T15, X15, e15, st15⟩ := getF Xl hx hZ hown (host := "") (Or.inl (hw _ (List.mem_of_getElem? (i := 47) rfl))) Via.refl el f14 (g := (mkF m 20 #[.val (.ref a), .val (.ref b7), .val (.int i)] [(.ref a), (.int i)])) rfl rfl (hb hby d7_20)
      have k16 : Rch p e below (s₁.setTop (entryFrame m #[(.ref a)] 3)) T15 (mkF m 23 #[.val (.ref a), .val (.ref b7), .val (.int i)] [(.int n), (.int i)]) := fun tg kg => k13 tg (st15 tg kg)
      have k17 : Rch p e below (s₁.setTop (entryFrame m #[(.ref a)] 3)) T15 (mkF m 36 #[.val (.ref a), .val (.ref b7), .val (.int i)] []) := fun tg kg => by
        refine k16 tg ?_
        show Steps p.tables e below (T15.setTop (mkF m 23 #[.val (.ref a), .val (.ref b7), .val (.int i)] [(.int n), (.int i)])) tg
        refine XS.icmpYes X15.here hx rfl (pc0 := 23) (pc' := 36) rfl (hb hby d7_23) rfl (flt (fun q => by rw [Int32.lt_iff_toInt_lt] at q; omega)).2.1 (by decide) (by decide) ?_
        exact kg
      have ein : i = n := Int32.toInt_inj.mp (by omega)
      rw [ein] at Vl
      exact ⟨_, _, _, _, X15, e15, Nl, Kl, Vl, k17⟩
    | succ j ih =>
      intro i Tl hl locs hi0 hij Xl el Nl Kl Vl kl
      have sl : h7.size ≤ hl.size := Kl.1
      have k18 : Rch p e below (s₁.setTop (entryFrame m #[(.ref a)] 3)) Tl (mkF m 20 #[.val (.ref a), .val (.ref b7), .val (.int i)] [(.ref a), (.int i)]) := fun tg kg => by
        refine kl tg ?_
        show Steps p.tables e below (Tl.setTop (mkF m 18 #[.val (.ref a), .val (.ref b7), .val (.int i)] [])) tg
        refine XS.iloadN Xl.here hx rfl (hb hby d7_18) rfl ?_
        show Steps p.tables e below (Tl.setTop (mkF m 19 #[.val (.ref a), .val (.ref b7), .val (.int i)] [(.int i)])) tg
        refine XS.aloadN Xl.here hx rfl (hb hby d7_19) rfl rfl ?_
        exact kg
      have f19 : Fld Z hl a "com/example/clause_search/clausesearch/Relation" "size" "I" (.int n) := (f10.keep Kl (ninS (by first | exact own_ne (by omega) | assumption | (apply Ne.symm; assumption)) nin0))
      obtain ⟨T20, X20, e20, st20⟩ := getF Xl hx hZ hown (host := "") (Or.inl (hw _ (List.mem_of_getElem? (i := 47) rfl))) Via.refl el f19 (g := (mkF m 20 #[.val (.ref a), .val (.ref b7), .val (.int i)] [(.ref a), (.int i)])) rfl rfl (hb hby d7_20)
      have k21 : Rch p e below (s₁.setTop (entryFrame m #[(.ref a)] 3)) T20 (mkF m 23 #[.val (.ref a), .val (.ref b7), .val (.int i)] [(.int n), (.int i)]) := fun tg kg => k18 tg (st20 tg kg)
      have hlt : i < n := by rw [Int32.lt_iff_toInt_lt]; omega
      have k22 : Rch p e below (s₁.setTop (entryFrame m #[(.ref a)] 3)) T20 (mkF m 29 #[.val (.ref a), .val (.ref b7), .val (.int i)] [(.int i), (.int i), (.ref b7)]) := fun tg kg => by
        refine k21 tg ?_
        show Steps p.tables e below (T20.setTop (mkF m 23 #[.val (.ref a), .val (.ref b7), .val (.int i)] [(.int n), (.int i)])) tg
        refine XS.icmpNo X20.here hx rfl (hb hby d7_23) rfl (tlt hlt).2.1 ?_
        show Steps p.tables e below (T20.setTop (mkF m 26 #[.val (.ref a), .val (.ref b7), .val (.int i)] [])) tg
        refine XS.aloadN X20.here hx rfl (hb hby d7_26) rfl rfl ?_
        show Steps p.tables e below (T20.setTop (mkF m 27 #[.val (.ref a), .val (.ref b7), .val (.int i)] [(.ref b7)])) tg
        refine XS.iloadN X20.here hx rfl (hb hby d7_27) rfl ?_
        show Steps p.tables e below (T20.setTop (mkF m 28 #[.val (.ref a), .val (.ref b7), .val (.int i)] [(.int i), (.ref b7)])) tg
        refine XS.iloadN X20.here hx rfl (hb hby d7_28) rfl ?_
        exact kg
      obtain ⟨cl23, Ar23, q23, S23, M23, H23, G23⟩ := id Vl
      have hin : ¬ (i < 0 ∨ cl23.slots.size ≤ (i).toNatClampNeg) := inb_of S23 ⟨own_nn hi0, hlt⟩
      obtain ⟨T24, h24, X24, e24, W24, st24⟩ := stI X20 hx hZ e20 Ar23 (j := i) hin (g := (mkF m 29 #[.val (.ref a), .val (.ref b7), .val (.int i)] [(.int i), (.int i), (.ref b7)])) rfl rfl (hb hby d7_29)
      have s24 : h24.size = hl.size := W24.size
      have N24 := Fr.snoc X24 Nl (by omega : n0 ≤ b7)
      have V24 := own_fill Vl (own_nn hi0) W24
      have k25 : Rch p e below (s₁.setTop (entryFrame m #[(.ref a)] 3)) T24 (mkF m 30 #[.val (.ref a), .val (.ref b7), .val (.int i)] []) := fun tg kg => k22 tg (st24 tg kg)
      have k26 : Rch p e below (s₁.setTop (entryFrame m #[(.ref a)] 3)) T24 (mkF m 18 #[.val (.ref a), .val (.ref b7), .val (.int (i + (1 : Int32)))] []) := fun tg kg => by
        refine k25 tg ?_
        show Steps p.tables e below (T24.setTop (mkF m 30 #[.val (.ref a), .val (.ref b7), .val (.int i)] [])) tg
        refine XS.iinc X24.here hx rfl (hb hby d7_30) rfl (l' := #[.val (.ref a), .val (.ref b7), .val (.int (i + (1 : Int32)))]) rfl ?_
        show Steps p.tables e below (T24.setTop (mkF m 33 #[.val (.ref a), .val (.ref b7), .val (.int (i + (1 : Int32)))] [])) tg
        refine XS.goto X24.here hx rfl (pc0 := 33) (pc' := 18) rfl (hb hby d7_33) (by decide) (by decide) ?_
        exact kg
      have ei : (i + (1 : Int32)).toInt = i.toInt + 1 := by have z1 := c_iadd i 1; have z2 := rng32 (i + (1 : Int32)); rw [e1'] at z1; omega
      have en : (i + (1 : Int32)).toNatClampNeg = i.toNatClampNeg + 1 := by have q1 := nat_of (own_nn hi0); have q2 := nat_of (own_nn (show 0 ≤ (i + (1 : Int32)).toInt by omega)); omega
      rw [← en] at V24
      exact ih _ _ _ _ (by omega) (by omega) X24 e24 N24 (Kl.wr W24 (Or.inl (List.mem_of_getElem? (i := 0) rfl))) V24 k26
  obtain ⟨i', TL, hL, locsL, XL, eL, NL, KL, VL, kL⟩ := loop n.toNatClampNeg (0 : Int32) _ _ _ (by decide) (by have := nat_of hnn; omega) X7 e7 N0 (Keep.refl _ _) V7 k9
  have sL : h7.size ≤ hL.size := KL.1
  have lt_VL := own_ltN VL.lt
  have k27 : Rch p e below (s₁.setTop (entryFrame m #[(.ref a)] 3)) TL (mkF m 38 #[.val (.ref a), .val (.ref b7), .val (.int i')] [(.ref b7), (.ref a)]) := fun tg kg => by
    refine kL tg ?_
    show Steps p.tables e below (TL.setTop (mkF m 36 #[.val (.ref a), .val (.ref b7), .val (.int i')] [])) tg
    refine XS.aloadN XL.here hx rfl (hb hby d7_36) rfl rfl ?_
    show Steps p.tables e below (TL.setTop (mkF m 37 #[.val (.ref a), .val (.ref b7), .val (.int i')] [(.ref a)])) tg
    refine XS.aloadN XL.here hx rfl (hb hby d7_37) rfl rfl ?_
    exact kg
  have f28 : Fld Z hL a "com/example/clause_search/clausesearch/Relation" "all" "[I" .null := (f12.keep KL (ninS (by first | exact own_ne (by omega) | assumption | (apply Ne.symm; assumption)) nin0))
  have f29 : Exa Z hL a "com/example/clause_search/clausesearch/Relation" := (f11.keep KL)
  obtain ⟨T30, h30, X30, e30, W30, st30⟩ := putF XL hx hZ hown (host := "") (Or.inl (hw _ (List.mem_of_getElem? (i := 58) rfl))) Via.refl eL f28 f29 (Or.inl (hw _ (List.mem_of_getElem? (i := 59) rfl))) (hw _ (List.mem_of_getElem? (i := 32) rfl)) (ty := (.array .int)) (by decide) rfl rfl (g := (mkF m 38 #[.val (.ref a), .val (.ref b7), .val (.int i')] [(.ref b7), (.ref a)])) rfl rfl (hb hby d7_38)
  have Fw30 := f28.same W30
  have s30 : h30.size = hL.size := W30.size
  have N30 := Fr.snoc X30 NL (by omega : n0 ≤ a)
  have k31 : Rch p e below (s₁.setTop (entryFrame m #[(.ref a)] 3)) T30 (mkF m 41 #[.val (.ref a), .val (.ref b7), .val (.int i')] []) := fun tg kg => k27 tg (st30 tg kg)
  have k32 : Rch p e below (s₁.setTop (entryFrame m #[(.ref a)] 3)) T30 (mkF m 42 #[.val (.ref a), .val (.ref b7), .val (.int i')] [(.ref b7)]) := fun tg kg => by
    refine k31 tg ?_
    show Steps p.tables e below (T30.setTop (mkF m 41 #[.val (.ref a), .val (.ref b7), .val (.int i')] [])) tg
    refine XS.aloadN X30.here hx rfl (hb hby d7_41) rfl rfl ?_
    exact kg
  have f33 : Exa Z h30 a "com/example/clause_search/clausesearch/Relation" := (f29.wr W30)
  have f34 : Fld Z h30 a "com/example/clause_search/clausesearch/Relation" "size" "I" (.int n) := ((f10.keep KL (ninS (by first | exact own_ne (by omega) | assumption | (apply Ne.symm; assumption)) nin0)).other W30 (Or.inr (slot_ne (Or.inr (hw _ (List.mem_of_getElem? (i := 48) rfl))) (Or.inl (hw _ (List.mem_of_getElem? (i := 59) rfl))) (by decide) (t := .int) (t' := (.array .int)) (by decide) (by decide))))
  have f35 : Arv Z h30 b7 c7 .int n (own_vs n.toNatClampNeg) (.int (0 : Int32)) := (VL.other W30 (by first | exact own_ne (by omega) | assumption | (apply Ne.symm; assumption)))
  obtain ⟨fs36, hr36, hrun36, hended36, hW36, hsame36⟩ := X30.leave (v := some (.ref b7)) (fun h => by rw [Bd.returns] at h; cases h)
  refine ⟨_, _, k32 _ ?_, hrun36, hended36, _, _, rfl, ?_, ⟨_, rfl⟩, hW36, hsame36.mono (by decide) (by decide)⟩
  · exact retOut X30 hx Bd.returns rfl (Or.inr (Or.inr (Or.inr (Or.inr ⟨rfl, rfl, rfl⟩)))) (hb hby d7_42) hr36
  · show Q_rm_tup Z a n h0 n0 _ T30.heap _
    rw [e30]
    exact ⟨b7, c7, rfl, N30, ((((Keep.refl h0 [a]).ext E7).trans KL (allS (Or.inr (by omega)) all0)).wr W30 (Or.inl (List.mem_of_getElem? (i := 0) rfl))), (by omega), f33, f34, Fw30, f35⟩
theorem ef_rm_tup2 (m : MethodId) (x0 : Addr) : entryFrame m #[(.ref x0)] 3 = mkF m 0 #[.val (.ref x0), .unset, .unset] [] := by first | (simp [entryFrame, mkF, argsToLocals, Value.category]; done) | rfl
def Q_rm_tup2 (Z : State) (a : Addr) (b : Addr) (h0 : Heap) (n0 : Nat) (v : Option Value) (h : Heap) (L : List Loc) : Prop := (v = some (.ref b)) ∧ (Fr n0 L) ∧ (h = h0)
set_option maxRecDepth 65536 in
set_option maxHeartbeats 40000000 in
theorem rm_tup2 (l : Launch) (Z : State) (a0 : Array Value) (hw : ∀ d ∈ tables_1, d.before a0 Z = true) (ws : List Jvm.Cond) (a : Addr) (b : Addr) (h0 : Heap) (n0 : Nat) (Z0 : n0 ≤ h0.size) (F_l : Fld Z h0 a "com/example/clause_search/clausesearch/Relation" "all" "[I" (.ref b)) :
    Con l Z (⟨"com/example/clause_search/clausesearch/Relation", "tuples", "()[I"⟩ : MethodName) prog_34_method_5_code 3 (some (.array .int)) ws ({ frames := 0, cells := 0, slots := 0, locals := 0 } : Room) #[(.ref a)] h0 (Q_rm_tup2 Z a b h0 n0) := by
  refine MetFree.of_bodySF (plainFor_of_name pn_Relation) hisR ?_
  intro p e s m args below meth c s₁ Bd hml0 hP hK
  obtain ⟨rfl, hZ, hh⟩ := hP
  have hx := Bd.exec
  have hby := Bd.bytes
  have hml : c.maxLocals = 3 := hml0
  have hown : s.vm.findClass "com/example/clause_search/clausesearch/Relation" = some m.cls := findClass_of_methodNamed Bd.named
  have hnm := (name_of_methodNamed Bd.named Bd.method).1
  have X0 : Stand p l e ({ frames := 0, cells := 0, slots := 0, locals := 0 } : Room) s m #[(.ref a)] below meth c s₁ [] 0 0 := Stand.of_body Bd
  have e0 : s₁.heap = h0 := by rw [← hh, Bd.state]; rfl
  have N0 := Fr.nil n0
  have k0 : Rch p e below (s₁.setTop (entryFrame m #[(.ref a)] 3)) s₁ (mkF m 0 #[.val (.ref a), .unset, .unset] []) := fun tg kg => castTop (ef_rm_tup2 m a) kg
  have lt_F_l := own_ltN F_l.lt
  have k1 : Rch p e below (s₁.setTop (entryFrame m #[(.ref a)] 3)) s₁ (mkF m 1 #[.val (.ref a), .unset, .unset] [(.ref a)]) := fun tg kg => by
    refine k0 tg ?_
    show Steps p.tables e below (s₁.setTop (mkF m 0 #[.val (.ref a), .unset, .unset] [])) tg
    refine XS.aloadN X0.here hx rfl (hb hby d7_0) rfl rfl ?_
    exact kg
  obtain ⟨T2, X2, e2, st2⟩ := getF X0 hx hZ hown (host := "") (Or.inl (hw _ (List.mem_of_getElem? (i := 58) rfl))) Via.refl e0 F_l (g := (mkF m 1 #[.val (.ref a), .unset, .unset] [(.ref a)])) rfl rfl (hb hby d7_1)
  have k3 : Rch p e below (s₁.setTop (entryFrame m #[(.ref a)] 3)) T2 (mkF m 4 #[.val (.ref a), .unset, .unset] [(.ref b)]) := fun tg kg => k1 tg (st2 tg kg)
  have k4 : Rch p e below (s₁.setTop (entryFrame m #[(.ref a)] 3)) T2 (mkF m 42 #[.val (.ref a), .val (.ref b), .unset] [(.ref b)]) := fun tg kg => by
    refine k3 tg ?_
    show Steps p.tables e below (T2.setTop (mkF m 4 #[.val (.ref a), .unset, .unset] [(.ref b)])) tg
    refine XS.astoreN X2.here hx rfl (hb hby d7_4) rfl rfl (l' := #[.val (.ref a), .val (.ref b), .unset]) rfl ?_
    show Steps p.tables e below (T2.setTop (mkF m 5 #[.val (.ref a), .val (.ref b), .unset] [])) tg
    refine XS.aloadN X2.here hx rfl (hb hby d7_5) rfl rfl ?_
    show Steps p.tables e below (T2.setTop (mkF m 6 #[.val (.ref a), .val (.ref b), .unset] [(.ref b)])) tg
    refine XS.ifnonnullYes X2.here hx rfl (pc0 := 6) (pc' := 41) rfl (hb hby d7_6) rfl (by decide) (by decide) ?_
    show Steps p.tables e below (T2.setTop (mkF m 41 #[.val (.ref a), .val (.ref b), .unset] [])) tg
    refine XS.aloadN X2.here hx rfl (hb hby d7_41) rfl rfl ?_
    exact kg
  obtain ⟨fs5, hr5, hrun5, hended5, hW5, hsame5⟩ := X2.leave (v := some (.ref b)) (fun h => by rw [Bd.returns] at h; cases h)
  refine ⟨_, _, k4 _ ?_, hrun5, hended5, _, _, rfl, ?_, ⟨_, rfl⟩, hW5, hsame5.mono (by decide) (by decide)⟩
  · exact retOut X2 hx Bd.returns rfl (Or.inr (Or.inr (Or.inr (Or.inr ⟨rfl, rfl, rfl⟩)))) (hb hby d7_42) hr5
  · show Q_rm_tup2 Z a b h0 n0 _ T2.heap _
    rw [e2]
    exact ⟨rfl, N0, rfl⟩
theorem ef_rm_id (m : MethodId) (x0 : Addr) (x1 : Int32) : entryFrame m #[(.ref x0), (.int x1)] 3 = mkF m 0 #[.val (.ref x0), .val (.int x1), .unset] [] := by first | (simp [entryFrame, mkF, argsToLocals, Value.category]; done) | rfl
def Q_rm_id (Z : State) (b : Addr) (n : Int32) (k : ClassId) (h0 : Heap) (n0 : Nat) (v : Option Value) (h : Heap) (L : List Loc) : Prop := (v = some (.int (1 : Int32))) ∧ (Fr n0 L) ∧ (h = h0)
theorem d8_0 : decode method_4_code 0 = .ok (.aload_n 0, 1) := by decide +kernel
theorem d8_1 : decode method_4_code 1 = .ok (.ifnull 9, 3) := by decide +kernel
theorem d8_4 : decode method_4_code 4 = .ok (.aload_n 0, 1) := by decide +kernel
theorem d8_5 : decode method_4_code 5 = .ok (.arraylength, 1) := by decide +kernel
theorem d8_6 : decode method_4_code 6 = .ok (.iload_n 1, 1) := by decide +kernel
theorem d8_7 : decode method_4_code 7 = .ok (.if_icmp .eq 5, 3) := by decide +kernel
theorem d8_12 : decode method_4_code 12 = .ok (.iconst 1, 1) := by decide +kernel
theorem d8_13 : decode method_4_code 13 = .ok (.istore_n 2, 1) := by decide +kernel
theorem d8_14 : decode method_4_code 14 = .ok (.iload_n 1, 1) := by decide +kernel
theorem d8_15 : decode method_4_code 15 = .ok (.ifCond .le 19, 3) := by decide +kernel
theorem d8_18 : decode method_4_code 18 = .ok (.iload_n 2, 1) := by decide +kernel
theorem d8_19 : decode method_4_code 19 = .ok (.ifCond .eq 13, 3) := by decide +kernel
theorem d8_22 : decode method_4_code 22 = .ok (.aload_n 0, 1) := by decide +kernel
theorem d8_23 : decode method_4_code 23 = .ok (.iconst 0, 1) := by decide +kernel
theorem d8_24 : decode method_4_code 24 = .ok (.iaload, 1) := by decide +kernel
theorem d8_25 : decode method_4_code 25 = .ok (.ifCond .ne 7, 3) := by decide +kernel
theorem d8_28 : decode method_4_code 28 = .ok (.iconst 1, 1) := by decide +kernel
theorem d8_29 : decode method_4_code 29 = .ok (.goto 4, 3) := by decide +kernel
theorem d8_33 : decode method_4_code 33 = .ok (.istore_n 2, 1) := by decide +kernel
theorem d8_34 : decode method_4_code 34 = .ok (.iload_n 1, 1) := by decide +kernel
theorem d8_35 : decode method_4_code 35 = .ok (.iconst 1, 1) := by decide +kernel
theorem d8_36 : decode method_4_code 36 = .ok (.if_icmp .le 20, 3) := by decide +kernel
theorem d8_39 : decode method_4_code 39 = .ok (.iload_n 2, 1) := by decide +kernel
theorem d8_40 : decode method_4_code 40 = .ok (.ifCond .eq 14, 3) := by decide +kernel
theorem d8_43 : decode method_4_code 43 = .ok (.aload_n 0, 1) := by decide +kernel
theorem d8_44 : decode method_4_code 44 = .ok (.iconst 1, 1) := by decide +kernel
theorem d8_45 : decode method_4_code 45 = .ok (.iaload, 1) := by decide +kernel
theorem d8_46 : decode method_4_code 46 = .ok (.iconst 1, 1) := by decide +kernel
theorem d8_47 : decode method_4_code 47 = .ok (.if_icmp .ne 7, 3) := by decide +kernel
theorem d8_50 : decode method_4_code 50 = .ok (.iconst 1, 1) := by decide +kernel
theorem d8_51 : decode method_4_code 51 = .ok (.goto 4, 3) := by decide +kernel
theorem d8_55 : decode method_4_code 55 = .ok (.istore_n 2, 1) := by decide +kernel
theorem d8_56 : decode method_4_code 56 = .ok (.iload_n 1, 1) := by decide +kernel
theorem d8_57 : decode method_4_code 57 = .ok (.iconst 2, 1) := by decide +kernel
theorem d8_58 : decode method_4_code 58 = .ok (.if_icmp .le 20, 3) := by decide +kernel
theorem d8_61 : decode method_4_code 61 = .ok (.iload_n 2, 1) := by decide +kernel
theorem d8_62 : decode method_4_code 62 = .ok (.ifCond .eq 14, 3) := by decide +kernel
theorem d8_65 : decode method_4_code 65 = .ok (.aload_n 0, 1) := by decide +kernel
theorem d8_66 : decode method_4_code 66 = .ok (.iconst 2, 1) := by decide +kernel
theorem d8_67 : decode method_4_code 67 = .ok (.iaload, 1) := by decide +kernel
theorem d8_68 : decode method_4_code 68 = .ok (.iconst 2, 1) := by decide +kernel
theorem d8_69 : decode method_4_code 69 = .ok (.if_icmp .ne 7, 3) := by decide +kernel
theorem d8_72 : decode method_4_code 72 = .ok (.iconst 1, 1) := by decide +kernel
theorem d8_73 : decode method_4_code 73 = .ok (.goto 4, 3) := by decide +kernel
theorem d8_77 : decode method_4_code 77 = .ok (.istore_n 2, 1) := by decide +kernel
theorem d8_78 : decode method_4_code 78 = .ok (.iload_n 1, 1) := by decide +kernel
theorem d8_79 : decode method_4_code 79 = .ok (.iconst 3, 1) := by decide +kernel
theorem d8_80 : decode method_4_code 80 = .ok (.if_icmp .le 20, 3) := by decide +kernel
theorem d8_83 : decode method_4_code 83 = .ok (.iload_n 2, 1) := by decide +kernel
theorem d8_84 : decode method_4_code 84 = .ok (.ifCond .eq 14, 3) := by decide +kernel
theorem d8_87 : decode method_4_code 87 = .ok (.aload_n 0, 1) := by decide +kernel
theorem d8_88 : decode method_4_code 88 = .ok (.iconst 3, 1) := by decide +kernel
theorem d8_89 : decode method_4_code 89 = .ok (.iaload, 1) := by decide +kernel
theorem d8_90 : decode method_4_code 90 = .ok (.iconst 3, 1) := by decide +kernel
theorem d8_91 : decode method_4_code 91 = .ok (.if_icmp .ne 7, 3) := by decide +kernel
theorem d8_94 : decode method_4_code 94 = .ok (.iconst 1, 1) := by decide +kernel
theorem d8_95 : decode method_4_code 95 = .ok (.goto 4, 3) := by decide +kernel
theorem d8_99 : decode method_4_code 99 = .ok (.istore_n 2, 1) := by decide +kernel
theorem d8_100 : decode method_4_code 100 = .ok (.iload_n 1, 1) := by decide +kernel
theorem d8_101 : decode method_4_code 101 = .ok (.iconst 4, 1) := by decide +kernel
theorem d8_102 : decode method_4_code 102 = .ok (.if_icmp .le 20, 3) := by decide +kernel
theorem d8_105 : decode method_4_code 105 = .ok (.iload_n 2, 1) := by decide +kernel
theorem d8_106 : decode method_4_code 106 = .ok (.ifCond .eq 14, 3) := by decide +kernel
theorem d8_109 : decode method_4_code 109 = .ok (.aload_n 0, 1) := by decide +kernel
theorem d8_110 : decode method_4_code 110 = .ok (.iconst 4, 1) := by decide +kernel
theorem d8_111 : decode method_4_code 111 = .ok (.iaload, 1) := by decide +kernel
theorem d8_112 : decode method_4_code 112 = .ok (.iconst 4, 1) := by decide +kernel
theorem d8_113 : decode method_4_code 113 = .ok (.if_icmp .ne 7, 3) := by decide +kernel
theorem d8_116 : decode method_4_code 116 = .ok (.iconst 1, 1) := by decide +kernel
theorem d8_117 : decode method_4_code 117 = .ok (.goto 4, 3) := by decide +kernel
theorem d8_121 : decode method_4_code 121 = .ok (.istore_n 2, 1) := by decide +kernel
theorem d8_122 : decode method_4_code 122 = .ok (.iload_n 1, 1) := by decide +kernel
theorem d8_123 : decode method_4_code 123 = .ok (.iconst 5, 1) := by decide +kernel
theorem d8_124 : decode method_4_code 124 = .ok (.if_icmp .le 20, 3) := by decide +kernel
theorem d8_127 : decode method_4_code 127 = .ok (.iload_n 2, 1) := by decide +kernel
theorem d8_128 : decode method_4_code 128 = .ok (.ifCond .eq 14, 3) := by decide +kernel
theorem d8_131 : decode method_4_code 131 = .ok (.aload_n 0, 1) := by decide +kernel
theorem d8_132 : decode method_4_code 132 = .ok (.iconst 5, 1) := by decide +kernel
theorem d8_133 : decode method_4_code 133 = .ok (.iaload, 1) := by decide +kernel
theorem d8_134 : decode method_4_code 134 = .ok (.iconst 5, 1) := by decide +kernel
theorem d8_135 : decode method_4_code 135 = .ok (.if_icmp .ne 7, 3) := by decide +kernel
theorem d8_138 : decode method_4_code 138 = .ok (.iconst 1, 1) := by decide +kernel
theorem d8_139 : decode method_4_code 139 = .ok (.goto 4, 3) := by decide +kernel
theorem d8_143 : decode method_4_code 143 = .ok (.istore_n 2, 1) := by decide +kernel
theorem d8_144 : decode method_4_code 144 = .ok (.iload_n 1, 1) := by decide +kernel
theorem d8_145 : decode method_4_code 145 = .ok (.bipush 6, 2) := by decide +kernel
theorem d8_147 : decode method_4_code 147 = .ok (.if_icmp .le 22, 3) := by decide +kernel
theorem d8_150 : decode method_4_code 150 = .ok (.iload_n 2, 1) := by decide +kernel
theorem d8_151 : decode method_4_code 151 = .ok (.ifCond .eq 16, 3) := by decide +kernel
theorem d8_154 : decode method_4_code 154 = .ok (.aload_n 0, 1) := by decide +kernel
theorem d8_155 : decode method_4_code 155 = .ok (.bipush 6, 2) := by decide +kernel
theorem d8_157 : decode method_4_code 157 = .ok (.iaload, 1) := by decide +kernel
theorem d8_158 : decode method_4_code 158 = .ok (.bipush 6, 2) := by decide +kernel
theorem d8_160 : decode method_4_code 160 = .ok (.if_icmp .ne 7, 3) := by decide +kernel
theorem d8_163 : decode method_4_code 163 = .ok (.iconst 1, 1) := by decide +kernel
theorem d8_164 : decode method_4_code 164 = .ok (.goto 4, 3) := by decide +kernel
theorem d8_168 : decode method_4_code 168 = .ok (.istore_n 2, 1) := by decide +kernel
theorem d8_169 : decode method_4_code 169 = .ok (.iload_n 2, 1) := by decide +kernel
theorem d8_170 : decode method_4_code 170 = .ok (.ireturn, 1) := by decide +kernel
set_option maxRecDepth 65536 in
set_option maxHeartbeats 40000000 in
theorem rm_id (l : Launch) (Z : State) (a0 : Array Value) (hw : ∀ d ∈ tables_1, d.before a0 Z = true) (ws : List Jvm.Cond) (b : Addr) (n : Int32) (k : ClassId) (h0 : Heap) (n0 : Nat) (Z0 : n0 ≤ h0.size) (V_b : Arv Z h0 b k .int n (own_vs n.toNatClampNeg) (.int (0 : Int32))) :
    Con l Z (⟨"com/example/clause_search/clausesearch/RelationTuplesPinLaw", "isIdentity", "([II)Z"⟩ : MethodName) method_4_code 3 (some .boolean) ws ({ frames := 0, cells := 0, slots := 0, locals := 0 } : Room) #[(.ref b), (.int n)] h0 (Q_rm_id Z b n k h0 n0) := by
  refine MetFree.of_bodySF (plainFor_of_name pn_RelationTuplesPinLaw) hisR ?_
  intro p e s m args below meth c s₁ Bd hml0 hP hK
  obtain ⟨rfl, hZ, hh⟩ := hP
  have hx := Bd.exec
  have hby := Bd.bytes
  have hml : c.maxLocals = 3 := hml0
  have hown : s.vm.findClass "com/example/clause_search/clausesearch/RelationTuplesPinLaw" = some m.cls := findClass_of_methodNamed Bd.named
  have hnm := (name_of_methodNamed Bd.named Bd.method).1
  have X0 : Stand p l e ({ frames := 0, cells := 0, slots := 0, locals := 0 } : Room) s m #[(.ref b), (.int n)] below meth c s₁ [] 0 0 := Stand.of_body Bd
  have e0 : s₁.heap = h0 := by rw [← hh, Bd.state]; rfl
  have N0 := Fr.nil n0
  have k0 : Rch p e below (s₁.setTop (entryFrame m #[(.ref b), (.int n)] 3)) s₁ (mkF m 0 #[.val (.ref b), .val (.int n), .unset] []) := fun tg kg => castTop (ef_rm_id m b n) kg
  have lt_V_b := own_ltN V_b.lt
  have k1 : Rch p e below (s₁.setTop (entryFrame m #[(.ref b), (.int n)] 3)) s₁ (mkF m 5 #[.val (.ref b), .val (.int n), .unset] [(.ref b)]) := fun tg kg => by
    refine k0 tg ?_
    show Steps p.tables e below (s₁.setTop (mkF m 0 #[.val (.ref b), .val (.int n), .unset] [])) tg
    refine XS.aloadN X0.here hx rfl (hb hby d8_0) rfl rfl ?_
    show Steps p.tables e below (s₁.setTop (mkF m 1 #[.val (.ref b), .val (.int n), .unset] [(.ref b)])) tg
    refine XS.ifnullNo X0.here hx rfl (hb hby d8_1) rfl ?_
    show Steps p.tables e below (s₁.setTop (mkF m 4 #[.val (.ref b), .val (.int n), .unset] [])) tg
    refine XS.aloadN X0.here hx rfl (hb hby d8_4) rfl rfl ?_
    exact kg
  obtain ⟨cl2, Ar2, q2, S2, M2, H2, G2⟩ := id V_b
  have k3 : Rch p e below (s₁.setTop (entryFrame m #[(.ref b), (.int n)] 3)) s₁ (mkF m 14 #[.val (.ref b), .val (.int n), .val (.int (1 : Int32))] []) := fun tg kg => by
    refine k1 tg ?_
    show Steps p.tables e below (s₁.setTop (mkF m 5 #[.val (.ref b), .val (.int n), .unset] [(.ref b)])) tg
    refine X0.arraylength hx (by rw [e0]; exact Ar2.1) (State.isArrayOf_alike hZ.alike Ar2.2.1) (g := (mkF m 5 #[.val (.ref b), .val (.int n), .unset] [(.ref b)])) rfl rfl (hb hby d8_5) _ ?_
    rw [len_of S2 M2]
    show Steps p.tables e below (s₁.setTop (mkF m 6 #[.val (.ref b), .val (.int n), .unset] [(.int n)])) tg
    refine XS.iloadN X0.here hx rfl (hb hby d8_6) rfl ?_
    show Steps p.tables e below (s₁.setTop (mkF m 7 #[.val (.ref b), .val (.int n), .unset] [(.int n), (.int n)])) tg
    refine XS.icmpYes X0.here hx rfl (pc0 := 7) (pc' := 12) rfl (hb hby d8_7) rfl (teq rfl).1 (by decide) (by decide) ?_
    show Steps p.tables e below (s₁.setTop (mkF m 12 #[.val (.ref b), .val (.int n), .unset] [])) tg
    refine XS.iconst X0.here hx rfl (hb hby d8_12) ?_
    show Steps p.tables e below (s₁.setTop (mkF m 13 #[.val (.ref b), .val (.int n), .unset] [(.int (1 : Int32))])) tg
    refine XS.istoreN X0.here hx rfl (hb hby d8_13) rfl (l' := #[.val (.ref b), .val (.int n), .val (.int (1 : Int32))]) rfl ?_
    exact kg
  have k4 : Rch p e below (s₁.setTop (entryFrame m #[(.ref b), (.int n)] 3)) s₁ (mkF m 34 #[.val (.ref b), .val (.int n), .val (.int (1 : Int32))] []) := by
    have k5 : Rch p e below (s₁.setTop (entryFrame m #[(.ref b), (.int n)] 3)) s₁ (mkF m 15 #[.val (.ref b), .val (.int n), .val (.int (1 : Int32))] [(.int n)]) := fun tg kg => by
      refine k3 tg ?_
      show Steps p.tables e below (s₁.setTop (mkF m 14 #[.val (.ref b), .val (.int n), .val (.int (1 : Int32))] [])) tg
      refine XS.iloadN X0.here hx rfl (hb hby d8_14) rfl ?_
      exact kg
    by_cases hc15_6 : (0 : Int32) < n
    · have k7 : Rch p e below (s₁.setTop (entryFrame m #[(.ref b), (.int n)] 3)) s₁ (mkF m 24 #[.val (.ref b), .val (.int n), .val (.int (1 : Int32))] [(.int (0 : Int32)), (.ref b)]) := fun tg kg => by
        refine k5 tg ?_
        show Steps p.tables e below (s₁.setTop (mkF m 15 #[.val (.ref b), .val (.int n), .val (.int (1 : Int32))] [(.int n)])) tg
        refine XS.ifNo X0.here hx rfl (hb hby d8_15) rfl ((if0 _ _).trans (tlt hc15_6).2.2.2) ?_
        show Steps p.tables e below (s₁.setTop (mkF m 18 #[.val (.ref b), .val (.int n), .val (.int (1 : Int32))] [])) tg
        refine XS.iloadN X0.here hx rfl (hb hby d8_18) rfl ?_
        show Steps p.tables e below (s₁.setTop (mkF m 19 #[.val (.ref b), .val (.int n), .val (.int (1 : Int32))] [(.int (1 : Int32))])) tg
        refine XS.ifNo X0.here hx rfl (hb hby d8_19) rfl ((if0 _ _).trans (feq (by decide)).1) ?_
        show Steps p.tables e below (s₁.setTop (mkF m 22 #[.val (.ref b), .val (.int n), .val (.int (1 : Int32))] [])) tg
        refine XS.aloadN X0.here hx rfl (hb hby d8_22) rfl rfl ?_
        show Steps p.tables e below (s₁.setTop (mkF m 23 #[.val (.ref b), .val (.int n), .val (.int (1 : Int32))] [(.ref b)])) tg
        refine XS.iconst X0.here hx rfl (hb hby d8_23) ?_
        exact kg
      have hin : ¬ ((0 : Int32) < 0 ∨ cl2.slots.size ≤ ((0 : Int32)).toNatClampNeg) := inb_of S2 ⟨by decide, hc15_6⟩
      have hlt : 0 < n.toNatClampNeg := by have := Nat.lt_of_not_le (fun q => hin (Or.inr q)); rw [S2] at this; exact this
      have hat := Has.at H2 hin (own_vs_at _ hlt)
      have k8 : Rch p e below (s₁.setTop (entryFrame m #[(.ref b), (.int n)] 3)) s₁ (mkF m 34 #[.val (.ref b), .val (.int n), .val (.int (1 : Int32))] []) := fun tg kg => by
        refine k7 tg ?_
        show Steps p.tables e below (s₁.setTop (mkF m 24 #[.val (.ref b), .val (.int n), .val (.int (1 : Int32))] [(.int (0 : Int32)), (.ref b)])) tg
        refine X0.iaload hx (j := (0 : Int32)) (v := (.int (Int32.ofNat 0))) (by rw [e0]; exact Ar2.1) (State.isArrayOf_alike hZ.alike Ar2.2.1) Ar2.2.2 hin hat (g := (mkF m 24 #[.val (.ref b), .val (.int n), .val (.int (1 : Int32))] [(.int (0 : Int32)), (.ref b)])) rfl rfl (hb hby d8_24) _ ?_
        show Steps p.tables e below (s₁.setTop (mkF m 25 #[.val (.ref b), .val (.int n), .val (.int (1 : Int32))] [(.int (Int32.ofNat 0))])) tg
        refine XS.ifNo X0.here hx rfl (hb hby d8_25) rfl ((if0 _ _).trans (teq (by decide)).2) ?_
        show Steps p.tables e below (s₁.setTop (mkF m 28 #[.val (.ref b), .val (.int n), .val (.int (1 : Int32))] [])) tg
        refine XS.iconst X0.here hx rfl (hb hby d8_28) ?_
        show Steps p.tables e below (s₁.setTop (mkF m 29 #[.val (.ref b), .val (.int n), .val (.int (1 : Int32))] [(.int (1 : Int32))])) tg
        refine XS.goto X0.here hx rfl (pc0 := 29) (pc' := 33) rfl (hb hby d8_29) (by decide) (by decide) ?_
        show Steps p.tables e below (s₁.setTop (mkF m 33 #[.val (.ref b), .val (.int n), .val (.int (1 : Int32))] [(.int (1 : Int32))])) tg
        refine XS.istoreN X0.here hx rfl (hb hby d8_33) rfl (l' := #[.val (.ref b), .val (.int n), .val (.int (1 : Int32))]) rfl ?_
        exact kg
      exact k8
    · have k9 : Rch p e below (s₁.setTop (entryFrame m #[(.ref b), (.int n)] 3)) s₁ (mkF m 34 #[.val (.ref b), .val (.int n), .val (.int (1 : Int32))] []) := fun tg kg => by
        refine k5 tg ?_
        show Steps p.tables e below (s₁.setTop (mkF m 15 #[.val (.ref b), .val (.int n), .val (.int (1 : Int32))] [(.int n)])) tg
        refine XS.ifYes X0.here hx rfl (pc0 := 15) (pc' := 34) rfl (hb hby d8_15) rfl ((if0 _ _).trans (flt hc15_6).2.2.2) (by decide) (by decide) ?_
        exact kg
      exact k9
  have k10 : Rch p e below (s₁.setTop (entryFrame m #[(.ref b), (.int n)] 3)) s₁ (mkF m 56 #[.val (.ref b), .val (.int n), .val (.int (1 : Int32))] []) := by
    have k11 : Rch p e below (s₁.setTop (entryFrame m #[(.ref b), (.int n)] 3)) s₁ (mkF m 36 #[.val (.ref b), .val (.int n), .val (.int (1 : Int32))] [(.int (1 : Int32)), (.int n)]) := fun tg kg => by
      refine k4 tg ?_
      show Steps p.tables e below (s₁.setTop (mkF m 34 #[.val (.ref b), .val (.int n), .val (.int (1 : Int32))] [])) tg
      refine XS.iloadN X0.here hx rfl (hb hby d8_34) rfl ?_
      show Steps p.tables e below (s₁.setTop (mkF m 35 #[.val (.ref b), .val (.int n), .val (.int (1 : Int32))] [(.int n)])) tg
      refine XS.iconst X0.here hx rfl (hb hby d8_35) ?_
      exact kg
    by_cases hc36_12 : (1 : Int32) < n
    · have k13 : Rch p e below (s₁.setTop (entryFrame m #[(.ref b), (.int n)] 3)) s₁ (mkF m 45 #[.val (.ref b), .val (.int n), .val (.int (1 : Int32))] [(.int (1 : Int32)), (.ref b)]) := fun tg kg => by
        refine k11 tg ?_
        show Steps p.tables e below (s₁.setTop (mkF m 36 #[.val (.ref b), .val (.int n), .val (.int (1 : Int32))] [(.int (1 : Int32)), (.int n)])) tg
        refine XS.icmpNo X0.here hx rfl (hb hby d8_36) rfl (tlt hc36_12).2.2.2 ?_
        show Steps p.tables e below (s₁.setTop (mkF m 39 #[.val (.ref b), .val (.int n), .val (.int (1 : Int32))] [])) tg
        refine XS.iloadN X0.here hx rfl (hb hby d8_39) rfl ?_
        show Steps p.tables e below (s₁.setTop (mkF m 40 #[.val (.ref b), .val (.int n), .val (.int (1 : Int32))] [(.int (1 : Int32))])) tg
        refine XS.ifNo X0.here hx rfl (hb hby d8_40) rfl ((if0 _ _).trans (feq (by decide)).1) ?_
        show Steps p.tables e below (s₁.setTop (mkF m 43 #[.val (.ref b), .val (.int n), .val (.int (1 : Int32))] [])) tg
        refine XS.aloadN X0.here hx rfl (hb hby d8_43) rfl rfl ?_
        show Steps p.tables e below (s₁.setTop (mkF m 44 #[.val (.ref b), .val (.int n), .val (.int (1 : Int32))] [(.ref b)])) tg
        refine XS.iconst X0.here hx rfl (hb hby d8_44) ?_
        exact kg
      have hin : ¬ ((1 : Int32) < 0 ∨ cl2.slots.size ≤ ((1 : Int32)).toNatClampNeg) := inb_of S2 ⟨by decide, hc36_12⟩
      have hlt : 1 < n.toNatClampNeg := by have := Nat.lt_of_not_le (fun q => hin (Or.inr q)); rw [S2] at this; exact this
      have hat := Has.at H2 hin (own_vs_at _ hlt)
      have k14 : Rch p e below (s₁.setTop (entryFrame m #[(.ref b), (.int n)] 3)) s₁ (mkF m 56 #[.val (.ref b), .val (.int n), .val (.int (1 : Int32))] []) := fun tg kg => by
        refine k13 tg ?_
        show Steps p.tables e below (s₁.setTop (mkF m 45 #[.val (.ref b), .val (.int n), .val (.int (1 : Int32))] [(.int (1 : Int32)), (.ref b)])) tg
        refine X0.iaload hx (j := (1 : Int32)) (v := (.int (Int32.ofNat 1))) (by rw [e0]; exact Ar2.1) (State.isArrayOf_alike hZ.alike Ar2.2.1) Ar2.2.2 hin hat (g := (mkF m 45 #[.val (.ref b), .val (.int n), .val (.int (1 : Int32))] [(.int (1 : Int32)), (.ref b)])) rfl rfl (hb hby d8_45) _ ?_
        show Steps p.tables e below (s₁.setTop (mkF m 46 #[.val (.ref b), .val (.int n), .val (.int (1 : Int32))] [(.int (Int32.ofNat 1))])) tg
        refine XS.iconst X0.here hx rfl (hb hby d8_46) ?_
        show Steps p.tables e below (s₁.setTop (mkF m 47 #[.val (.ref b), .val (.int n), .val (.int (1 : Int32))] [(.int (1 : Int32)), (.int (Int32.ofNat 1))])) tg
        refine XS.icmpNo X0.here hx rfl (hb hby d8_47) rfl (teq (by decide)).2 ?_
        show Steps p.tables e below (s₁.setTop (mkF m 50 #[.val (.ref b), .val (.int n), .val (.int (1 : Int32))] [])) tg
        refine XS.iconst X0.here hx rfl (hb hby d8_50) ?_
        show Steps p.tables e below (s₁.setTop (mkF m 51 #[.val (.ref b), .val (.int n), .val (.int (1 : Int32))] [(.int (1 : Int32))])) tg
        refine XS.goto X0.here hx rfl (pc0 := 51) (pc' := 55) rfl (hb hby d8_51) (by decide) (by decide) ?_
        show Steps p.tables e below (s₁.setTop (mkF m 55 #[.val (.ref b), .val (.int n), .val (.int (1 : Int32))] [(.int (1 : Int32))])) tg
        refine XS.istoreN X0.here hx rfl (hb hby d8_55) rfl (l' := #[.val (.ref b), .val (.int n), .val (.int (1 : Int32))]) rfl ?_
        exact kg
      exact k14
    · have k15 : Rch p e below (s₁.setTop (entryFrame m #[(.ref b), (.int n)] 3)) s₁ (mkF m 56 #[.val (.ref b), .val (.int n), .val (.int (1 : Int32))] []) := fun tg kg => by
        refine k11 tg ?_
        show Steps p.tables e below (s₁.setTop (mkF m 36 #[.val (.ref b), .val (.int n), .val (.int (1 : Int32))] [(.int (1 : Int32)), (.int n)])) tg
        refine XS.icmpYes X0.here hx rfl (pc0 := 36) (pc' := 56) rfl (hb hby d8_36) rfl (flt hc36_12).2.2.2 (by decide) (by decide) ?_
        exact kg
      exact k15
  have k16 : Rch p e below (s₁.setTop (entryFrame m #[(.ref b), (.int n)] 3)) s₁ (mkF m 78 #[.val (.ref b), .val (.int n), .val (.int (1 : Int32))] []) := by
    have k17 : Rch p e below (s₁.setTop (entryFrame m #[(.ref b), (.int n)] 3)) s₁ (mkF m 58 #[.val (.ref b), .val (.int n), .val (.int (1 : Int32))] [(.int (2 : Int32)), (.int n)]) := fun tg kg => by
      refine k10 tg ?_
      show Steps p.tables e below (s₁.setTop (mkF m 56 #[.val (.ref b), .val (.int n), .val (.int (1 : Int32))] [])) tg
      refine XS.iloadN X0.here hx rfl (hb hby d8_56) rfl ?_
      show Steps p.tables e below (s₁.setTop (mkF m 57 #[.val (.ref b), .val (.int n), .val (.int (1 : Int32))] [(.int n)])) tg
      refine XS.iconst X0.here hx rfl (hb hby d8_57) ?_
      exact kg
    by_cases hc58_18 : (2 : Int32) < n
    · have k19 : Rch p e below (s₁.setTop (entryFrame m #[(.ref b), (.int n)] 3)) s₁ (mkF m 67 #[.val (.ref b), .val (.int n), .val (.int (1 : Int32))] [(.int (2 : Int32)), (.ref b)]) := fun tg kg => by
        refine k17 tg ?_
        show Steps p.tables e below (s₁.setTop (mkF m 58 #[.val (.ref b), .val (.int n), .val (.int (1 : Int32))] [(.int (2 : Int32)), (.int n)])) tg
        refine XS.icmpNo X0.here hx rfl (hb hby d8_58) rfl (tlt hc58_18).2.2.2 ?_
        show Steps p.tables e below (s₁.setTop (mkF m 61 #[.val (.ref b), .val (.int n), .val (.int (1 : Int32))] [])) tg
        refine XS.iloadN X0.here hx rfl (hb hby d8_61) rfl ?_
        show Steps p.tables e below (s₁.setTop (mkF m 62 #[.val (.ref b), .val (.int n), .val (.int (1 : Int32))] [(.int (1 : Int32))])) tg
        refine XS.ifNo X0.here hx rfl (hb hby d8_62) rfl ((if0 _ _).trans (feq (by decide)).1) ?_
        show Steps p.tables e below (s₁.setTop (mkF m 65 #[.val (.ref b), .val (.int n), .val (.int (1 : Int32))] [])) tg
        refine XS.aloadN X0.here hx rfl (hb hby d8_65) rfl rfl ?_
        show Steps p.tables e below (s₁.setTop (mkF m 66 #[.val (.ref b), .val (.int n), .val (.int (1 : Int32))] [(.ref b)])) tg
        refine XS.iconst X0.here hx rfl (hb hby d8_66) ?_
        exact kg
      have hin : ¬ ((2 : Int32) < 0 ∨ cl2.slots.size ≤ ((2 : Int32)).toNatClampNeg) := inb_of S2 ⟨by decide, hc58_18⟩
      have hlt : 2 < n.toNatClampNeg := by have := Nat.lt_of_not_le (fun q => hin (Or.inr q)); rw [S2] at this; exact this
      have hat := Has.at H2 hin (own_vs_at _ hlt)
      have k20 : Rch p e below (s₁.setTop (entryFrame m #[(.ref b), (.int n)] 3)) s₁ (mkF m 78 #[.val (.ref b), .val (.int n), .val (.int (1 : Int32))] []) := fun tg kg => by
        refine k19 tg ?_
        show Steps p.tables e below (s₁.setTop (mkF m 67 #[.val (.ref b), .val (.int n), .val (.int (1 : Int32))] [(.int (2 : Int32)), (.ref b)])) tg
        refine X0.iaload hx (j := (2 : Int32)) (v := (.int (Int32.ofNat 2))) (by rw [e0]; exact Ar2.1) (State.isArrayOf_alike hZ.alike Ar2.2.1) Ar2.2.2 hin hat (g := (mkF m 67 #[.val (.ref b), .val (.int n), .val (.int (1 : Int32))] [(.int (2 : Int32)), (.ref b)])) rfl rfl (hb hby d8_67) _ ?_
        show Steps p.tables e below (s₁.setTop (mkF m 68 #[.val (.ref b), .val (.int n), .val (.int (1 : Int32))] [(.int (Int32.ofNat 2))])) tg
        refine XS.iconst X0.here hx rfl (hb hby d8_68) ?_
        show Steps p.tables e below (s₁.setTop (mkF m 69 #[.val (.ref b), .val (.int n), .val (.int (1 : Int32))] [(.int (2 : Int32)), (.int (Int32.ofNat 2))])) tg
        refine XS.icmpNo X0.here hx rfl (hb hby d8_69) rfl (teq (by decide)).2 ?_
        show Steps p.tables e below (s₁.setTop (mkF m 72 #[.val (.ref b), .val (.int n), .val (.int (1 : Int32))] [])) tg
        refine XS.iconst X0.here hx rfl (hb hby d8_72) ?_
        show Steps p.tables e below (s₁.setTop (mkF m 73 #[.val (.ref b), .val (.int n), .val (.int (1 : Int32))] [(.int (1 : Int32))])) tg
        refine XS.goto X0.here hx rfl (pc0 := 73) (pc' := 77) rfl (hb hby d8_73) (by decide) (by decide) ?_
        show Steps p.tables e below (s₁.setTop (mkF m 77 #[.val (.ref b), .val (.int n), .val (.int (1 : Int32))] [(.int (1 : Int32))])) tg
        refine XS.istoreN X0.here hx rfl (hb hby d8_77) rfl (l' := #[.val (.ref b), .val (.int n), .val (.int (1 : Int32))]) rfl ?_
        exact kg
      exact k20
    · have k21 : Rch p e below (s₁.setTop (entryFrame m #[(.ref b), (.int n)] 3)) s₁ (mkF m 78 #[.val (.ref b), .val (.int n), .val (.int (1 : Int32))] []) := fun tg kg => by
        refine k17 tg ?_
        show Steps p.tables e below (s₁.setTop (mkF m 58 #[.val (.ref b), .val (.int n), .val (.int (1 : Int32))] [(.int (2 : Int32)), (.int n)])) tg
        refine XS.icmpYes X0.here hx rfl (pc0 := 58) (pc' := 78) rfl (hb hby d8_58) rfl (flt hc58_18).2.2.2 (by decide) (by decide) ?_
        exact kg
      exact k21
  have k22 : Rch p e below (s₁.setTop (entryFrame m #[(.ref b), (.int n)] 3)) s₁ (mkF m 100 #[.val (.ref b), .val (.int n), .val (.int (1 : Int32))] []) := by
    have k23 : Rch p e below (s₁.setTop (entryFrame m #[(.ref b), (.int n)] 3)) s₁ (mkF m 80 #[.val (.ref b), .val (.int n), .val (.int (1 : Int32))] [(.int (3 : Int32)), (.int n)]) := fun tg kg => by
      refine k16 tg ?_
      show Steps p.tables e below (s₁.setTop (mkF m 78 #[.val (.ref b), .val (.int n), .val (.int (1 : Int32))] [])) tg
      refine XS.iloadN X0.here hx rfl (hb hby d8_78) rfl ?_
      show Steps p.tables e below (s₁.setTop (mkF m 79 #[.val (.ref b), .val (.int n), .val (.int (1 : Int32))] [(.int n)])) tg
      refine XS.iconst X0.here hx rfl (hb hby d8_79) ?_
      exact kg
    by_cases hc80_24 : (3 : Int32) < n
    · have k25 : Rch p e below (s₁.setTop (entryFrame m #[(.ref b), (.int n)] 3)) s₁ (mkF m 89 #[.val (.ref b), .val (.int n), .val (.int (1 : Int32))] [(.int (3 : Int32)), (.ref b)]) := fun tg kg => by
        refine k23 tg ?_
        show Steps p.tables e below (s₁.setTop (mkF m 80 #[.val (.ref b), .val (.int n), .val (.int (1 : Int32))] [(.int (3 : Int32)), (.int n)])) tg
        refine XS.icmpNo X0.here hx rfl (hb hby d8_80) rfl (tlt hc80_24).2.2.2 ?_
        show Steps p.tables e below (s₁.setTop (mkF m 83 #[.val (.ref b), .val (.int n), .val (.int (1 : Int32))] [])) tg
        refine XS.iloadN X0.here hx rfl (hb hby d8_83) rfl ?_
        show Steps p.tables e below (s₁.setTop (mkF m 84 #[.val (.ref b), .val (.int n), .val (.int (1 : Int32))] [(.int (1 : Int32))])) tg
        refine XS.ifNo X0.here hx rfl (hb hby d8_84) rfl ((if0 _ _).trans (feq (by decide)).1) ?_
        show Steps p.tables e below (s₁.setTop (mkF m 87 #[.val (.ref b), .val (.int n), .val (.int (1 : Int32))] [])) tg
        refine XS.aloadN X0.here hx rfl (hb hby d8_87) rfl rfl ?_
        show Steps p.tables e below (s₁.setTop (mkF m 88 #[.val (.ref b), .val (.int n), .val (.int (1 : Int32))] [(.ref b)])) tg
        refine XS.iconst X0.here hx rfl (hb hby d8_88) ?_
        exact kg
      have hin : ¬ ((3 : Int32) < 0 ∨ cl2.slots.size ≤ ((3 : Int32)).toNatClampNeg) := inb_of S2 ⟨by decide, hc80_24⟩
      have hlt : 3 < n.toNatClampNeg := by have := Nat.lt_of_not_le (fun q => hin (Or.inr q)); rw [S2] at this; exact this
      have hat := Has.at H2 hin (own_vs_at _ hlt)
      have k26 : Rch p e below (s₁.setTop (entryFrame m #[(.ref b), (.int n)] 3)) s₁ (mkF m 100 #[.val (.ref b), .val (.int n), .val (.int (1 : Int32))] []) := fun tg kg => by
        refine k25 tg ?_
        show Steps p.tables e below (s₁.setTop (mkF m 89 #[.val (.ref b), .val (.int n), .val (.int (1 : Int32))] [(.int (3 : Int32)), (.ref b)])) tg
        refine X0.iaload hx (j := (3 : Int32)) (v := (.int (Int32.ofNat 3))) (by rw [e0]; exact Ar2.1) (State.isArrayOf_alike hZ.alike Ar2.2.1) Ar2.2.2 hin hat (g := (mkF m 89 #[.val (.ref b), .val (.int n), .val (.int (1 : Int32))] [(.int (3 : Int32)), (.ref b)])) rfl rfl (hb hby d8_89) _ ?_
        show Steps p.tables e below (s₁.setTop (mkF m 90 #[.val (.ref b), .val (.int n), .val (.int (1 : Int32))] [(.int (Int32.ofNat 3))])) tg
        refine XS.iconst X0.here hx rfl (hb hby d8_90) ?_
        show Steps p.tables e below (s₁.setTop (mkF m 91 #[.val (.ref b), .val (.int n), .val (.int (1 : Int32))] [(.int (3 : Int32)), (.int (Int32.ofNat 3))])) tg
        refine XS.icmpNo X0.here hx rfl (hb hby d8_91) rfl (teq (by decide)).2 ?_
        show Steps p.tables e below (s₁.setTop (mkF m 94 #[.val (.ref b), .val (.int n), .val (.int (1 : Int32))] [])) tg
        refine XS.iconst X0.here hx rfl (hb hby d8_94) ?_
        show Steps p.tables e below (s₁.setTop (mkF m 95 #[.val (.ref b), .val (.int n), .val (.int (1 : Int32))] [(.int (1 : Int32))])) tg
        refine XS.goto X0.here hx rfl (pc0 := 95) (pc' := 99) rfl (hb hby d8_95) (by decide) (by decide) ?_
        show Steps p.tables e below (s₁.setTop (mkF m 99 #[.val (.ref b), .val (.int n), .val (.int (1 : Int32))] [(.int (1 : Int32))])) tg
        refine XS.istoreN X0.here hx rfl (hb hby d8_99) rfl (l' := #[.val (.ref b), .val (.int n), .val (.int (1 : Int32))]) rfl ?_
        exact kg
      exact k26
    · have k27 : Rch p e below (s₁.setTop (entryFrame m #[(.ref b), (.int n)] 3)) s₁ (mkF m 100 #[.val (.ref b), .val (.int n), .val (.int (1 : Int32))] []) := fun tg kg => by
        refine k23 tg ?_
        show Steps p.tables e below (s₁.setTop (mkF m 80 #[.val (.ref b), .val (.int n), .val (.int (1 : Int32))] [(.int (3 : Int32)), (.int n)])) tg
        refine XS.icmpYes X0.here hx rfl (pc0 := 80) (pc' := 100) rfl (hb hby d8_80) rfl (flt hc80_24).2.2.2 (by decide) (by decide) ?_
        exact kg
      exact k27
  have k28 : Rch p e below (s₁.setTop (entryFrame m #[(.ref b), (.int n)] 3)) s₁ (mkF m 122 #[.val (.ref b), .val (.int n), .val (.int (1 : Int32))] []) := by
    have k29 : Rch p e below (s₁.setTop (entryFrame m #[(.ref b), (.int n)] 3)) s₁ (mkF m 102 #[.val (.ref b), .val (.int n), .val (.int (1 : Int32))] [(.int (4 : Int32)), (.int n)]) := fun tg kg => by
      refine k22 tg ?_
      show Steps p.tables e below (s₁.setTop (mkF m 100 #[.val (.ref b), .val (.int n), .val (.int (1 : Int32))] [])) tg
      refine XS.iloadN X0.here hx rfl (hb hby d8_100) rfl ?_
      show Steps p.tables e below (s₁.setTop (mkF m 101 #[.val (.ref b), .val (.int n), .val (.int (1 : Int32))] [(.int n)])) tg
      refine XS.iconst X0.here hx rfl (hb hby d8_101) ?_
      exact kg
    by_cases hc102_30 : (4 : Int32) < n
    · have k31 : Rch p e below (s₁.setTop (entryFrame m #[(.ref b), (.int n)] 3)) s₁ (mkF m 111 #[.val (.ref b), .val (.int n), .val (.int (1 : Int32))] [(.int (4 : Int32)), (.ref b)]) := fun tg kg => by
        refine k29 tg ?_
        show Steps p.tables e below (s₁.setTop (mkF m 102 #[.val (.ref b), .val (.int n), .val (.int (1 : Int32))] [(.int (4 : Int32)), (.int n)])) tg
        refine XS.icmpNo X0.here hx rfl (hb hby d8_102) rfl (tlt hc102_30).2.2.2 ?_
        show Steps p.tables e below (s₁.setTop (mkF m 105 #[.val (.ref b), .val (.int n), .val (.int (1 : Int32))] [])) tg
        refine XS.iloadN X0.here hx rfl (hb hby d8_105) rfl ?_
        show Steps p.tables e below (s₁.setTop (mkF m 106 #[.val (.ref b), .val (.int n), .val (.int (1 : Int32))] [(.int (1 : Int32))])) tg
        refine XS.ifNo X0.here hx rfl (hb hby d8_106) rfl ((if0 _ _).trans (feq (by decide)).1) ?_
        show Steps p.tables e below (s₁.setTop (mkF m 109 #[.val (.ref b), .val (.int n), .val (.int (1 : Int32))] [])) tg
        refine XS.aloadN X0.here hx rfl (hb hby d8_109) rfl rfl ?_
        show Steps p.tables e below (s₁.setTop (mkF m 110 #[.val (.ref b), .val (.int n), .val (.int (1 : Int32))] [(.ref b)])) tg
        refine XS.iconst X0.here hx rfl (hb hby d8_110) ?_
        exact kg
      have hin : ¬ ((4 : Int32) < 0 ∨ cl2.slots.size ≤ ((4 : Int32)).toNatClampNeg) := inb_of S2 ⟨by decide, hc102_30⟩
      have hlt : 4 < n.toNatClampNeg := by have := Nat.lt_of_not_le (fun q => hin (Or.inr q)); rw [S2] at this; exact this
      have hat := Has.at H2 hin (own_vs_at _ hlt)
      have k32 : Rch p e below (s₁.setTop (entryFrame m #[(.ref b), (.int n)] 3)) s₁ (mkF m 122 #[.val (.ref b), .val (.int n), .val (.int (1 : Int32))] []) := fun tg kg => by
        refine k31 tg ?_
        show Steps p.tables e below (s₁.setTop (mkF m 111 #[.val (.ref b), .val (.int n), .val (.int (1 : Int32))] [(.int (4 : Int32)), (.ref b)])) tg
        refine X0.iaload hx (j := (4 : Int32)) (v := (.int (Int32.ofNat 4))) (by rw [e0]; exact Ar2.1) (State.isArrayOf_alike hZ.alike Ar2.2.1) Ar2.2.2 hin hat (g := (mkF m 111 #[.val (.ref b), .val (.int n), .val (.int (1 : Int32))] [(.int (4 : Int32)), (.ref b)])) rfl rfl (hb hby d8_111) _ ?_
        show Steps p.tables e below (s₁.setTop (mkF m 112 #[.val (.ref b), .val (.int n), .val (.int (1 : Int32))] [(.int (Int32.ofNat 4))])) tg
        refine XS.iconst X0.here hx rfl (hb hby d8_112) ?_
        show Steps p.tables e below (s₁.setTop (mkF m 113 #[.val (.ref b), .val (.int n), .val (.int (1 : Int32))] [(.int (4 : Int32)), (.int (Int32.ofNat 4))])) tg
        refine XS.icmpNo X0.here hx rfl (hb hby d8_113) rfl (teq (by decide)).2 ?_
        show Steps p.tables e below (s₁.setTop (mkF m 116 #[.val (.ref b), .val (.int n), .val (.int (1 : Int32))] [])) tg
        refine XS.iconst X0.here hx rfl (hb hby d8_116) ?_
        show Steps p.tables e below (s₁.setTop (mkF m 117 #[.val (.ref b), .val (.int n), .val (.int (1 : Int32))] [(.int (1 : Int32))])) tg
        refine XS.goto X0.here hx rfl (pc0 := 117) (pc' := 121) rfl (hb hby d8_117) (by decide) (by decide) ?_
        show Steps p.tables e below (s₁.setTop (mkF m 121 #[.val (.ref b), .val (.int n), .val (.int (1 : Int32))] [(.int (1 : Int32))])) tg
        refine XS.istoreN X0.here hx rfl (hb hby d8_121) rfl (l' := #[.val (.ref b), .val (.int n), .val (.int (1 : Int32))]) rfl ?_
        exact kg
      exact k32
    · have k33 : Rch p e below (s₁.setTop (entryFrame m #[(.ref b), (.int n)] 3)) s₁ (mkF m 122 #[.val (.ref b), .val (.int n), .val (.int (1 : Int32))] []) := fun tg kg => by
        refine k29 tg ?_
        show Steps p.tables e below (s₁.setTop (mkF m 102 #[.val (.ref b), .val (.int n), .val (.int (1 : Int32))] [(.int (4 : Int32)), (.int n)])) tg
        refine XS.icmpYes X0.here hx rfl (pc0 := 102) (pc' := 122) rfl (hb hby d8_102) rfl (flt hc102_30).2.2.2 (by decide) (by decide) ?_
        exact kg
      exact k33
  have k34 : Rch p e below (s₁.setTop (entryFrame m #[(.ref b), (.int n)] 3)) s₁ (mkF m 144 #[.val (.ref b), .val (.int n), .val (.int (1 : Int32))] []) := by
    have k35 : Rch p e below (s₁.setTop (entryFrame m #[(.ref b), (.int n)] 3)) s₁ (mkF m 124 #[.val (.ref b), .val (.int n), .val (.int (1 : Int32))] [(.int (5 : Int32)), (.int n)]) := fun tg kg => by
      refine k28 tg ?_
      show Steps p.tables e below (s₁.setTop (mkF m 122 #[.val (.ref b), .val (.int n), .val (.int (1 : Int32))] [])) tg
      refine XS.iloadN X0.here hx rfl (hb hby d8_122) rfl ?_
      show Steps p.tables e below (s₁.setTop (mkF m 123 #[.val (.ref b), .val (.int n), .val (.int (1 : Int32))] [(.int n)])) tg
      refine XS.iconst X0.here hx rfl (hb hby d8_123) ?_
      exact kg
    by_cases hc124_36 : (5 : Int32) < n
    · have k37 : Rch p e below (s₁.setTop (entryFrame m #[(.ref b), (.int n)] 3)) s₁ (mkF m 133 #[.val (.ref b), .val (.int n), .val (.int (1 : Int32))] [(.int (5 : Int32)), (.ref b)]) := fun tg kg => by
        refine k35 tg ?_
        show Steps p.tables e below (s₁.setTop (mkF m 124 #[.val (.ref b), .val (.int n), .val (.int (1 : Int32))] [(.int (5 : Int32)), (.int n)])) tg
        refine XS.icmpNo X0.here hx rfl (hb hby d8_124) rfl (tlt hc124_36).2.2.2 ?_
        show Steps p.tables e below (s₁.setTop (mkF m 127 #[.val (.ref b), .val (.int n), .val (.int (1 : Int32))] [])) tg
        refine XS.iloadN X0.here hx rfl (hb hby d8_127) rfl ?_
        show Steps p.tables e below (s₁.setTop (mkF m 128 #[.val (.ref b), .val (.int n), .val (.int (1 : Int32))] [(.int (1 : Int32))])) tg
        refine XS.ifNo X0.here hx rfl (hb hby d8_128) rfl ((if0 _ _).trans (feq (by decide)).1) ?_
        show Steps p.tables e below (s₁.setTop (mkF m 131 #[.val (.ref b), .val (.int n), .val (.int (1 : Int32))] [])) tg
        refine XS.aloadN X0.here hx rfl (hb hby d8_131) rfl rfl ?_
        show Steps p.tables e below (s₁.setTop (mkF m 132 #[.val (.ref b), .val (.int n), .val (.int (1 : Int32))] [(.ref b)])) tg
        refine XS.iconst X0.here hx rfl (hb hby d8_132) ?_
        exact kg
      have hin : ¬ ((5 : Int32) < 0 ∨ cl2.slots.size ≤ ((5 : Int32)).toNatClampNeg) := inb_of S2 ⟨by decide, hc124_36⟩
      have hlt : 5 < n.toNatClampNeg := by have := Nat.lt_of_not_le (fun q => hin (Or.inr q)); rw [S2] at this; exact this
      have hat := Has.at H2 hin (own_vs_at _ hlt)
      have k38 : Rch p e below (s₁.setTop (entryFrame m #[(.ref b), (.int n)] 3)) s₁ (mkF m 144 #[.val (.ref b), .val (.int n), .val (.int (1 : Int32))] []) := fun tg kg => by
        refine k37 tg ?_
        show Steps p.tables e below (s₁.setTop (mkF m 133 #[.val (.ref b), .val (.int n), .val (.int (1 : Int32))] [(.int (5 : Int32)), (.ref b)])) tg
        refine X0.iaload hx (j := (5 : Int32)) (v := (.int (Int32.ofNat 5))) (by rw [e0]; exact Ar2.1) (State.isArrayOf_alike hZ.alike Ar2.2.1) Ar2.2.2 hin hat (g := (mkF m 133 #[.val (.ref b), .val (.int n), .val (.int (1 : Int32))] [(.int (5 : Int32)), (.ref b)])) rfl rfl (hb hby d8_133) _ ?_
        show Steps p.tables e below (s₁.setTop (mkF m 134 #[.val (.ref b), .val (.int n), .val (.int (1 : Int32))] [(.int (Int32.ofNat 5))])) tg
        refine XS.iconst X0.here hx rfl (hb hby d8_134) ?_
        show Steps p.tables e below (s₁.setTop (mkF m 135 #[.val (.ref b), .val (.int n), .val (.int (1 : Int32))] [(.int (5 : Int32)), (.int (Int32.ofNat 5))])) tg
        refine XS.icmpNo X0.here hx rfl (hb hby d8_135) rfl (teq (by decide)).2 ?_
        show Steps p.tables e below (s₁.setTop (mkF m 138 #[.val (.ref b), .val (.int n), .val (.int (1 : Int32))] [])) tg
        refine XS.iconst X0.here hx rfl (hb hby d8_138) ?_
        show Steps p.tables e below (s₁.setTop (mkF m 139 #[.val (.ref b), .val (.int n), .val (.int (1 : Int32))] [(.int (1 : Int32))])) tg
        refine XS.goto X0.here hx rfl (pc0 := 139) (pc' := 143) rfl (hb hby d8_139) (by decide) (by decide) ?_
        show Steps p.tables e below (s₁.setTop (mkF m 143 #[.val (.ref b), .val (.int n), .val (.int (1 : Int32))] [(.int (1 : Int32))])) tg
        refine XS.istoreN X0.here hx rfl (hb hby d8_143) rfl (l' := #[.val (.ref b), .val (.int n), .val (.int (1 : Int32))]) rfl ?_
        exact kg
      exact k38
    · have k39 : Rch p e below (s₁.setTop (entryFrame m #[(.ref b), (.int n)] 3)) s₁ (mkF m 144 #[.val (.ref b), .val (.int n), .val (.int (1 : Int32))] []) := fun tg kg => by
        refine k35 tg ?_
        show Steps p.tables e below (s₁.setTop (mkF m 124 #[.val (.ref b), .val (.int n), .val (.int (1 : Int32))] [(.int (5 : Int32)), (.int n)])) tg
        refine XS.icmpYes X0.here hx rfl (pc0 := 124) (pc' := 144) rfl (hb hby d8_124) rfl (flt hc124_36).2.2.2 (by decide) (by decide) ?_
        exact kg
      exact k39
  have k40 : Rch p e below (s₁.setTop (entryFrame m #[(.ref b), (.int n)] 3)) s₁ (mkF m 169 #[.val (.ref b), .val (.int n), .val (.int (1 : Int32))] []) := by
    have k41 : Rch p e below (s₁.setTop (entryFrame m #[(.ref b), (.int n)] 3)) s₁ (mkF m 147 #[.val (.ref b), .val (.int n), .val (.int (1 : Int32))] [(.int (6 : Int32)), (.int n)]) := fun tg kg => by
      refine k34 tg ?_
      show Steps p.tables e below (s₁.setTop (mkF m 144 #[.val (.ref b), .val (.int n), .val (.int (1 : Int32))] [])) tg
      refine XS.iloadN X0.here hx rfl (hb hby d8_144) rfl ?_
      show Steps p.tables e below (s₁.setTop (mkF m 145 #[.val (.ref b), .val (.int n), .val (.int (1 : Int32))] [(.int n)])) tg
      refine XS.bipush X0.here hx rfl (hb hby d8_145) ?_
      exact kg
    by_cases hc147_42 : (6 : Int32) < n
    · have k43 : Rch p e below (s₁.setTop (entryFrame m #[(.ref b), (.int n)] 3)) s₁ (mkF m 157 #[.val (.ref b), .val (.int n), .val (.int (1 : Int32))] [(.int (6 : Int32)), (.ref b)]) := fun tg kg => by
        refine k41 tg ?_
        show Steps p.tables e below (s₁.setTop (mkF m 147 #[.val (.ref b), .val (.int n), .val (.int (1 : Int32))] [(.int (6 : Int32)), (.int n)])) tg
        refine XS.icmpNo X0.here hx rfl (hb hby d8_147) rfl (tlt hc147_42).2.2.2 ?_
        show Steps p.tables e below (s₁.setTop (mkF m 150 #[.val (.ref b), .val (.int n), .val (.int (1 : Int32))] [])) tg
        refine XS.iloadN X0.here hx rfl (hb hby d8_150) rfl ?_
        show Steps p.tables e below (s₁.setTop (mkF m 151 #[.val (.ref b), .val (.int n), .val (.int (1 : Int32))] [(.int (1 : Int32))])) tg
        refine XS.ifNo X0.here hx rfl (hb hby d8_151) rfl ((if0 _ _).trans (feq (by decide)).1) ?_
        show Steps p.tables e below (s₁.setTop (mkF m 154 #[.val (.ref b), .val (.int n), .val (.int (1 : Int32))] [])) tg
        refine XS.aloadN X0.here hx rfl (hb hby d8_154) rfl rfl ?_
        show Steps p.tables e below (s₁.setTop (mkF m 155 #[.val (.ref b), .val (.int n), .val (.int (1 : Int32))] [(.ref b)])) tg
        refine XS.bipush X0.here hx rfl (hb hby d8_155) ?_
        exact kg
      have hin : ¬ ((6 : Int32) < 0 ∨ cl2.slots.size ≤ ((6 : Int32)).toNatClampNeg) := inb_of S2 ⟨by decide, hc147_42⟩
      have hlt : 6 < n.toNatClampNeg := by have := Nat.lt_of_not_le (fun q => hin (Or.inr q)); rw [S2] at this; exact this
      have hat := Has.at H2 hin (own_vs_at _ hlt)
      have k44 : Rch p e below (s₁.setTop (entryFrame m #[(.ref b), (.int n)] 3)) s₁ (mkF m 169 #[.val (.ref b), .val (.int n), .val (.int (1 : Int32))] []) := fun tg kg => by
        refine k43 tg ?_
        show Steps p.tables e below (s₁.setTop (mkF m 157 #[.val (.ref b), .val (.int n), .val (.int (1 : Int32))] [(.int (6 : Int32)), (.ref b)])) tg
        refine X0.iaload hx (j := (6 : Int32)) (v := (.int (Int32.ofNat 6))) (by rw [e0]; exact Ar2.1) (State.isArrayOf_alike hZ.alike Ar2.2.1) Ar2.2.2 hin hat (g := (mkF m 157 #[.val (.ref b), .val (.int n), .val (.int (1 : Int32))] [(.int (6 : Int32)), (.ref b)])) rfl rfl (hb hby d8_157) _ ?_
        show Steps p.tables e below (s₁.setTop (mkF m 158 #[.val (.ref b), .val (.int n), .val (.int (1 : Int32))] [(.int (Int32.ofNat 6))])) tg
        refine XS.bipush X0.here hx rfl (hb hby d8_158) ?_
        show Steps p.tables e below (s₁.setTop (mkF m 160 #[.val (.ref b), .val (.int n), .val (.int (1 : Int32))] [(.int (6 : Int32)), (.int (Int32.ofNat 6))])) tg
        refine XS.icmpNo X0.here hx rfl (hb hby d8_160) rfl (teq (by decide)).2 ?_
        show Steps p.tables e below (s₁.setTop (mkF m 163 #[.val (.ref b), .val (.int n), .val (.int (1 : Int32))] [])) tg
        refine XS.iconst X0.here hx rfl (hb hby d8_163) ?_
        show Steps p.tables e below (s₁.setTop (mkF m 164 #[.val (.ref b), .val (.int n), .val (.int (1 : Int32))] [(.int (1 : Int32))])) tg
        refine XS.goto X0.here hx rfl (pc0 := 164) (pc' := 168) rfl (hb hby d8_164) (by decide) (by decide) ?_
        show Steps p.tables e below (s₁.setTop (mkF m 168 #[.val (.ref b), .val (.int n), .val (.int (1 : Int32))] [(.int (1 : Int32))])) tg
        refine XS.istoreN X0.here hx rfl (hb hby d8_168) rfl (l' := #[.val (.ref b), .val (.int n), .val (.int (1 : Int32))]) rfl ?_
        exact kg
      exact k44
    · have k45 : Rch p e below (s₁.setTop (entryFrame m #[(.ref b), (.int n)] 3)) s₁ (mkF m 169 #[.val (.ref b), .val (.int n), .val (.int (1 : Int32))] []) := fun tg kg => by
        refine k41 tg ?_
        show Steps p.tables e below (s₁.setTop (mkF m 147 #[.val (.ref b), .val (.int n), .val (.int (1 : Int32))] [(.int (6 : Int32)), (.int n)])) tg
        refine XS.icmpYes X0.here hx rfl (pc0 := 147) (pc' := 169) rfl (hb hby d8_147) rfl (flt hc147_42).2.2.2 (by decide) (by decide) ?_
        exact kg
      exact k45
  have k46 : Rch p e below (s₁.setTop (entryFrame m #[(.ref b), (.int n)] 3)) s₁ (mkF m 170 #[.val (.ref b), .val (.int n), .val (.int (1 : Int32))] [(.int (1 : Int32))]) := fun tg kg => by
    refine k40 tg ?_
    show Steps p.tables e below (s₁.setTop (mkF m 169 #[.val (.ref b), .val (.int n), .val (.int (1 : Int32))] [])) tg
    refine XS.iloadN X0.here hx rfl (hb hby d8_169) rfl ?_
    exact kg
  obtain ⟨fs47, hr47, hrun47, hended47, hW47, hsame47⟩ := X0.leave (v := some (.int (nar .boolean (1 : Int32)))) (fun h => by rw [Bd.returns] at h; cases h)
  refine ⟨_, _, k46 _ ?_, hrun47, hended47, _, _, rfl, ?_, ⟨_, rfl⟩, hW47, hsame47.mono (by decide) (by decide)⟩
  · exact retN X0 hx (t := .boolean) Bd.returns (by simp) (hb hby d8_170) hr47
  · show Q_rm_id Z b n k h0 n0 _ s₁.heap _
    rw [e0]
    exact ⟨rfl, N0, rfl⟩
theorem ef_rm0 (m : MethodId) (x0 : Int32) (x1 : Int32) : entryFrame m #[(.int x0), (.int x1)] maxLocals = mkF m 0 #[.val (.int x0), .val (.int x1), .unset, .unset, .unset, .unset, .unset, .unset, .unset, .unset, .unset] [] := by first | (simp [entryFrame, mkF, argsToLocals, Value.category, maxLocals]; done) | rfl
def Q_rm0 (Z : State) (p1 : Int32) (p2 : Int32) (h0 : Heap) (n0 : Nat) (v : Option Value) (h : Heap) (L : List Loc) : Prop := (v = some (.int 1)) ∧ (Fr n0 L)
theorem pd_2 : parseMethodDescriptor "([IIII)V" = some ⟨[(.array .int), .int, .int, .int], none⟩ := by decide +kernel
theorem pd_3 : parseMethodDescriptor "(Ljava/lang/String;I)V" = some ⟨[(.object "java/lang/String"), .int], none⟩ := by decide +kernel
theorem pd_4 : parseMethodDescriptor "(Lcom/example/clause_search/clausesearch/Predicate;I[II)V" = some ⟨[(.object "com/example/clause_search/clausesearch/Predicate"), .int, (.array .int), .int], none⟩ := by decide +kernel
theorem pd_5 : parseMethodDescriptor "()[I" = some ⟨[], some (.array .int)⟩ := by decide +kernel
theorem pd_6 : parseMethodDescriptor "([II)Z" = some ⟨[(.array .int), .int], some .boolean⟩ := by decide +kernel
set_option maxRecDepth 65536 in
set_option maxHeartbeats 40000000 in
theorem rm0 (l : Launch) (Z : State) (a0 : Array Value) (hw : ∀ d ∈ tables_1, d.before a0 Z = true) (ws : List Jvm.Cond) (p1 : Int32) (p2 : Int32) (h0 : Heap) (n0 : Nat) (Z0 : n0 ≤ h0.size)  :
    ConW l Z x code maxLocals ret ws room_1 #[(.int p1), (.int p2)] h0 (Q_rm0 Z p1 p2 h0 n0) := by
  refine MetFree.of_bodySF (plainFor_of_name pn_RelationTuplesPinLaw) hisR ?_
  intro p e s m args below meth c s₁ Bd hml0 hP hK
  obtain ⟨rfl, hZ, hh⟩ := hP
  have hx := Bd.exec
  have hby := Bd.bytes
  have hml : c.maxLocals = 11 := hml0
  have hown : s.vm.findClass "com/example/clause_search/clausesearch/RelationTuplesPinLaw" = some m.cls := findClass_of_methodNamed Bd.named
  have hnm := (name_of_methodNamed Bd.named Bd.method).1
  have X0 : Stand p l e room_1 s m #[(.int p1), (.int p2)] below meth c s₁ [] 0 0 := Stand.of_body Bd
  have e0 : s₁.heap = h0 := by rw [← hh, Bd.state]; rfl
  have N0 := Fr.nil n0
  have X0' : Stand p l e room_1 (s.setVm s.vm) m #[(.int p1), (.int p2)] below meth c s₁ [] 0 0 := X0
  have hS0 : s.Since s.vm h0.size := State.WarmedH.since (State.WarmedH.refl s) _
  have wS : ∀ d ∈ Bundle.stringAtoms, d.before a0 Z = true := fun d hd => hw d ((by decide +kernel : ∀ d ∈ Bundle.stringAtoms, d ∈ tables_1) d hd)
  have k0 : Rch p e below (s₁.setTop (entryFrame m #[(.int p1), (.int p2)] maxLocals)) s₁ (mkF m 0 #[.val (.int p1), .val (.int p2), .unset, .unset, .unset, .unset, .unset, .unset, .unset, .unset, .unset] []) := fun tg kg => castTop (ef_rm0 m p1 p2) kg
  have k1 : Rch p e below (s₁.setTop (entryFrame m #[(.int p1), (.int p2)] maxLocals)) s₁ (mkF m 5 #[.val (.int p1), .val (.int p2), .val (.int (p1 &&& (7 : Int32))), .unset, .unset, .unset, .unset, .unset, .unset, .unset, .unset] []) := fun tg kg => by
    refine k0 tg ?_
    show Steps p.tables e below (s₁.setTop (mkF m 0 #[.val (.int p1), .val (.int p2), .unset, .unset, .unset, .unset, .unset, .unset, .unset, .unset, .unset] [])) tg
    refine XS.iloadN X0'.here hx rfl (hb hby at_0) rfl ?_
    show Steps p.tables e below (s₁.setTop (mkF m 1 #[.val (.int p1), .val (.int p2), .unset, .unset, .unset, .unset, .unset, .unset, .unset, .unset, .unset] [(.int p1)])) tg
    refine XS.bipush X0'.here hx rfl (hb hby at_1) ?_
    show Steps p.tables e below (s₁.setTop (mkF m 3 #[.val (.int p1), .val (.int p2), .unset, .unset, .unset, .unset, .unset, .unset, .unset, .unset, .unset] [(.int (7 : Int32)), (.int p1)])) tg
    refine XS.iand X0'.here hx rfl (hb hby at_3) rfl ?_
    show Steps p.tables e below (s₁.setTop (mkF m 4 #[.val (.int p1), .val (.int p2), .unset, .unset, .unset, .unset, .unset, .unset, .unset, .unset, .unset] [(.int (p1 &&& (7 : Int32)))])) tg
    refine XS.istoreN X0'.here hx rfl (hb hby at_4) rfl (l' := #[.val (.int p1), .val (.int p2), .val (.int (p1 &&& (7 : Int32))), .unset, .unset, .unset, .unset, .unset, .unset, .unset, .unset]) rfl ?_
    exact kg
  obtain ⟨n, hn, k2⟩ : ∃ n : Int32, n = (p1 &&& (7 : Int32)) ∧ Rch p e below (s₁.setTop (entryFrame m #[(.int p1), (.int p2)] maxLocals)) s₁ (mkF m 5 #[.val (.int p1), .val (.int p2), .val (.int n), .unset, .unset, .unset, .unset, .unset, .unset, .unset, .unset] []) := ⟨_, rfl, k1⟩
  have k3 : Rch p e below (s₁.setTop (entryFrame m #[(.int p1), (.int p2)] maxLocals)) s₁ (mkF m 11 #[.val (.int p1), .val (.int p2), .val (.int n), .val (.int ((1 : Int32) + (p2 &&& (1 : Int32)))), .unset, .unset, .unset, .unset, .unset, .unset, .unset] []) := fun tg kg => by
    refine k2 tg ?_
    show Steps p.tables e below (s₁.setTop (mkF m 5 #[.val (.int p1), .val (.int p2), .val (.int n), .unset, .unset, .unset, .unset, .unset, .unset, .unset, .unset] [])) tg
    refine XS.iconst X0'.here hx rfl (hb hby at_5) ?_
    show Steps p.tables e below (s₁.setTop (mkF m 6 #[.val (.int p1), .val (.int p2), .val (.int n), .unset, .unset, .unset, .unset, .unset, .unset, .unset, .unset] [(.int (1 : Int32))])) tg
    refine XS.iloadN X0'.here hx rfl (hb hby at_6) rfl ?_
    show Steps p.tables e below (s₁.setTop (mkF m 7 #[.val (.int p1), .val (.int p2), .val (.int n), .unset, .unset, .unset, .unset, .unset, .unset, .unset, .unset] [(.int p2), (.int (1 : Int32))])) tg
    refine XS.iconst X0'.here hx rfl (hb hby at_7) ?_
    show Steps p.tables e below (s₁.setTop (mkF m 8 #[.val (.int p1), .val (.int p2), .val (.int n), .unset, .unset, .unset, .unset, .unset, .unset, .unset, .unset] [(.int (1 : Int32)), (.int p2), (.int (1 : Int32))])) tg
    refine XS.iand X0'.here hx rfl (hb hby at_8) rfl ?_
    show Steps p.tables e below (s₁.setTop (mkF m 9 #[.val (.int p1), .val (.int p2), .val (.int n), .unset, .unset, .unset, .unset, .unset, .unset, .unset, .unset] [(.int (p2 &&& (1 : Int32))), (.int (1 : Int32))])) tg
    refine XS.iadd X0'.here hx rfl (hb hby at_9) rfl ?_
    show Steps p.tables e below (s₁.setTop (mkF m 10 #[.val (.int p1), .val (.int p2), .val (.int n), .unset, .unset, .unset, .unset, .unset, .unset, .unset, .unset] [(.int ((1 : Int32) + (p2 &&& (1 : Int32))))])) tg
    refine XS.istoreN X0'.here hx rfl (hb hby at_10) rfl (l' := #[.val (.int p1), .val (.int p2), .val (.int n), .val (.int ((1 : Int32) + (p2 &&& (1 : Int32)))), .unset, .unset, .unset, .unset, .unset, .unset, .unset]) rfl ?_
    exact kg
  obtain ⟨ar, har, k4⟩ : ∃ ar : Int32, ar = ((1 : Int32) + (p2 &&& (1 : Int32))) ∧ Rch p e below (s₁.setTop (entryFrame m #[(.int p1), (.int p2)] maxLocals)) s₁ (mkF m 11 #[.val (.int p1), .val (.int p2), .val (.int n), .val (.int ar), .unset, .unset, .unset, .unset, .unset, .unset, .unset] []) := ⟨_, rfl, k3⟩
  have hn7 : 0 ≤ n.toInt ∧ n.toInt ≤ 7 := by rw [hn]; exact own_and7 _
  have har2 : 1 ≤ ar.toInt ∧ ar.toInt ≤ 2 := by rw [har]; exact own_ar _
  obtain ⟨hm1, hm2, hm3⟩ := own_mul hn7.1 hn7.2 har2.1 har2.2
  have hNN := own_nn hm2
  have hNc : (n * ar).toNatClampNeg ≤ 14 := by have := nat_of hNN; omega
  have k5 : Rch p e below (s₁.setTop (entryFrame m #[(.int p1), (.int p2)] maxLocals)) s₁ (mkF m 14 #[.val (.int p1), .val (.int p2), .val (.int n), .val (.int ar), .unset, .unset, .unset, .unset, .unset, .unset, .unset] [(.int (n * ar))]) := fun tg kg => by
    refine k4 tg ?_
    show Steps p.tables e below (s₁.setTop (mkF m 11 #[.val (.int p1), .val (.int p2), .val (.int n), .val (.int ar), .unset, .unset, .unset, .unset, .unset, .unset, .unset] [])) tg
    refine XS.iloadN X0'.here hx rfl (hb hby at_11) rfl ?_
    show Steps p.tables e below (s₁.setTop (mkF m 12 #[.val (.int p1), .val (.int p2), .val (.int n), .val (.int ar), .unset, .unset, .unset, .unset, .unset, .unset, .unset] [(.int n)])) tg
    refine XS.iloadN X0'.here hx rfl (hb hby at_12) rfl ?_
    show Steps p.tables e below (s₁.setTop (mkF m 13 #[.val (.int p1), .val (.int p2), .val (.int n), .val (.int ar), .unset, .unset, .unset, .unset, .unset, .unset, .unset] [(.int ar), (.int n)])) tg
    refine XS.imul X0'.here hx rfl (hb hby at_13) rfl ?_
    exact kg
  obtain ⟨T6, h6, c6, X6, e6, E6, A6, st6⟩ := newP X0' hx hZ (hw _ (List.mem_of_getElem? (i := 0) rfl)) e0 (g := (mkF m 14 #[.val (.int p1), .val (.int p2), .val (.int n), .val (.int ar), .unset, .unset, .unset, .unset, .unset, .unset, .unset] [(.int (n * ar))])) rfl (hb hby at_14) rfl hNN (cap := 14) hNc (by decide) (by decide) (by decide)
  obtain ⟨b6, g6⟩ : ∃ z, z = h0.size := ⟨_, rfl⟩
  rw [← g6] at A6 st6
  have s6 : h0.size ≤ h6.size := E6.1
  have lt6 : b6 < h6.size := A6.lt
  have k7 : Rch p e below (s₁.setTop (entryFrame m #[(.int p1), (.int p2)] maxLocals)) T6 (mkF m 16 #[.val (.int p1), .val (.int p2), .val (.int n), .val (.int ar), .unset, .unset, .unset, .unset, .unset, .unset, .unset] [(.ref b6)]) := fun tg kg => k5 tg (st6 tg kg)
  have V6 : Arv Z h6 b6 c6 .int (n * ar) [] (.int (0 : Int32)) := Arv.new A6 hNN
  obtain ⟨cl8, Ar8, q8, S8, M8, H8, G8⟩ := id V6
  have k9 : Rch p e below (s₁.setTop (entryFrame m #[(.int p1), (.int p2)] maxLocals)) T6 (mkF m 23 #[.val (.int p1), .val (.int p2), .val (.int n), .val (.int ar), .val (.ref b6), .unset, .unset, .unset, .unset, .unset, .unset] [(.int ar), (.int n), (.int (0 : Int32)), (.ref b6)]) := fun tg kg => by
    refine k7 tg ?_
    show Steps p.tables e below (T6.setTop (mkF m 16 #[.val (.int p1), .val (.int p2), .val (.int n), .val (.int ar), .unset, .unset, .unset, .unset, .unset, .unset, .unset] [(.ref b6)])) tg
    refine XS.astore X6.here hx rfl (hb hby at_16) rfl rfl (l' := #[.val (.int p1), .val (.int p2), .val (.int n), .val (.int ar), .val (.ref b6), .unset, .unset, .unset, .unset, .unset, .unset]) rfl ?_
    show Steps p.tables e below (T6.setTop (mkF m 18 #[.val (.int p1), .val (.int p2), .val (.int n), .val (.int ar), .val (.ref b6), .unset, .unset, .unset, .unset, .unset, .unset] [])) tg
    refine XS.aload X6.here hx rfl (hb hby at_18) rfl rfl ?_
    show Steps p.tables e below (T6.setTop (mkF m 20 #[.val (.int p1), .val (.int p2), .val (.int n), .val (.int ar), .val (.ref b6), .unset, .unset, .unset, .unset, .unset, .unset] [(.ref b6)])) tg
    refine XS.iconst X6.here hx rfl (hb hby at_20) ?_
    show Steps p.tables e below (T6.setTop (mkF m 21 #[.val (.int p1), .val (.int p2), .val (.int n), .val (.int ar), .val (.ref b6), .unset, .unset, .unset, .unset, .unset, .unset] [(.int (0 : Int32)), (.ref b6)])) tg
    refine XS.iloadN X6.here hx rfl (hb hby at_21) rfl ?_
    show Steps p.tables e below (T6.setTop (mkF m 22 #[.val (.int p1), .val (.int p2), .val (.int n), .val (.int ar), .val (.ref b6), .unset, .unset, .unset, .unset, .unset, .unset] [(.int n), (.int (0 : Int32)), (.ref b6)])) tg
    refine XS.iloadN X6.here hx rfl (hb hby at_22) rfl ?_
    exact kg
  obtain ⟨v10, T10, h10, Lc10, X10, e10, hQ10, st10⟩ := own_callS X6 hx hZ hown (hw _ (List.mem_of_getElem? (i := 1) rfl)) (hw _ (List.mem_of_getElem? (i := 2) rfl)) (hw _ (List.mem_of_getElem? (i := 3) rfl)) (hw _ (List.mem_of_getElem? (i := 4) rfl)) (by decide) (rm_put l Z a0 hw [] b6 (0 : Int32) n ar (n * ar) cl8 h6 n0 (by omega) Ar8 S8 (own_idx (by decide) (by decide) hn7.1 hn7.2 har2.1 har2.2) (by omega)) e6 (g := (mkF m 23 #[.val (.int p1), .val (.int p2), .val (.int n), .val (.int ar), .val (.ref b6), .unset, .unset, .unset, .unset, .unset, .unset] [(.int ar), (.int n), (.int (0 : Int32)), (.ref b6)])) rfl (by rw [hml]; rfl) (argsL := [(.ref b6), (.int (0 : Int32)), (.int n), (.int ar)]) (rest := []) rfl (lenOf pd_2 rfl) rfl (W := 0) (by show 2 * 0 + _ ≤ _; exact Nat.le_of_eq rfl) (hb hby at_23) (by decide) (by decide) (by decide) (by decide)
  obtain ⟨cl'_10, rfl, Nq10, K10, fq10_3, hp10_S⟩ := hQ10
  have N10 := Fr.app N0 Nq10
  have s10 : h6.size ≤ h10.size := K10.1
  have k11 : Rch p e below (s₁.setTop (entryFrame m #[(.int p1), (.int p2)] maxLocals)) T10 (mkF m 26 #[.val (.int p1), .val (.int p2), .val (.int n), .val (.int ar), .val (.ref b6), .unset, .unset, .unset, .unset, .unset, .unset] []) := fun tg kg => k9 tg (st10 tg kg)
  have lt_fq10_3 := own_ltN fq10_3.lt
  have k12 : Rch p e below (s₁.setTop (entryFrame m #[(.int p1), (.int p2)] maxLocals)) T10 (mkF m 31 #[.val (.int p1), .val (.int p2), .val (.int n), .val (.int ar), .val (.ref b6), .unset, .unset, .unset, .unset, .unset, .unset] [(.int ar), (.int n), (.int (1 : Int32)), (.ref b6)]) := fun tg kg => by
    refine k11 tg ?_
    show Steps p.tables e below (T10.setTop (mkF m 26 #[.val (.int p1), .val (.int p2), .val (.int n), .val (.int ar), .val (.ref b6), .unset, .unset, .unset, .unset, .unset, .unset] [])) tg
    refine XS.aload X10.here hx rfl (hb hby at_26) rfl rfl ?_
    show Steps p.tables e below (T10.setTop (mkF m 28 #[.val (.int p1), .val (.int p2), .val (.int n), .val (.int ar), .val (.ref b6), .unset, .unset, .unset, .unset, .unset, .unset] [(.ref b6)])) tg
    refine XS.iconst X10.here hx rfl (hb hby at_28) ?_
    show Steps p.tables e below (T10.setTop (mkF m 29 #[.val (.int p1), .val (.int p2), .val (.int n), .val (.int ar), .val (.ref b6), .unset, .unset, .unset, .unset, .unset, .unset] [(.int (1 : Int32)), (.ref b6)])) tg
    refine XS.iloadN X10.here hx rfl (hb hby at_29) rfl ?_
    show Steps p.tables e below (T10.setTop (mkF m 30 #[.val (.int p1), .val (.int p2), .val (.int n), .val (.int ar), .val (.ref b6), .unset, .unset, .unset, .unset, .unset, .unset] [(.int n), (.int (1 : Int32)), (.ref b6)])) tg
    refine XS.iloadN X10.here hx rfl (hb hby at_30) rfl ?_
    exact kg
  obtain ⟨v13, T13, h13, Lc13, X13, e13, hQ13, st13⟩ := own_callS X10 hx hZ hown (hw _ (List.mem_of_getElem? (i := 1) rfl)) (hw _ (List.mem_of_getElem? (i := 2) rfl)) (hw _ (List.mem_of_getElem? (i := 3) rfl)) (hw _ (List.mem_of_getElem? (i := 4) rfl)) (by decide) (rm_put l Z a0 hw [] b6 (1 : Int32) n ar (n * ar) cl'_10 h10 n0 (by omega) fq10_3 hp10_S (own_idx (by decide) (by decide) hn7.1 hn7.2 har2.1 har2.2) (by omega)) e10 (g := (mkF m 31 #[.val (.int p1), .val (.int p2), .val (.int n), .val (.int ar), .val (.ref b6), .unset, .unset, .unset, .unset, .unset, .unset] [(.int ar), (.int n), (.int (1 : Int32)), (.ref b6)])) rfl (by rw [hml]; rfl) (argsL := [(.ref b6), (.int (1 : Int32)), (.int n), (.int ar)]) (rest := []) rfl (lenOf pd_2 rfl) rfl (W := 0) (by show 2 * 0 + _ ≤ _; exact Nat.le_of_eq rfl) (hb hby at_31) (by decide) (by decide) (by decide) (by decide)
  obtain ⟨cl'_13, rfl, Nq13, K13, fq13_3, hp13_S⟩ := hQ13
  have N13 := Fr.app N10 Nq13
  have s13 : h10.size ≤ h13.size := K13.1
  have k14 : Rch p e below (s₁.setTop (entryFrame m #[(.int p1), (.int p2)] maxLocals)) T13 (mkF m 34 #[.val (.int p1), .val (.int p2), .val (.int n), .val (.int ar), .val (.ref b6), .unset, .unset, .unset, .unset, .unset, .unset] []) := fun tg kg => k12 tg (st13 tg kg)
  have lt_fq13_3 := own_ltN fq13_3.lt
  have k15 : Rch p e below (s₁.setTop (entryFrame m #[(.int p1), (.int p2)] maxLocals)) T13 (mkF m 39 #[.val (.int p1), .val (.int p2), .val (.int n), .val (.int ar), .val (.ref b6), .unset, .unset, .unset, .unset, .unset, .unset] [(.int ar), (.int n), (.int (2 : Int32)), (.ref b6)]) := fun tg kg => by
    refine k14 tg ?_
    show Steps p.tables e below (T13.setTop (mkF m 34 #[.val (.int p1), .val (.int p2), .val (.int n), .val (.int ar), .val (.ref b6), .unset, .unset, .unset, .unset, .unset, .unset] [])) tg
    refine XS.aload X13.here hx rfl (hb hby at_34) rfl rfl ?_
    show Steps p.tables e below (T13.setTop (mkF m 36 #[.val (.int p1), .val (.int p2), .val (.int n), .val (.int ar), .val (.ref b6), .unset, .unset, .unset, .unset, .unset, .unset] [(.ref b6)])) tg
    refine XS.iconst X13.here hx rfl (hb hby at_36) ?_
    show Steps p.tables e below (T13.setTop (mkF m 37 #[.val (.int p1), .val (.int p2), .val (.int n), .val (.int ar), .val (.ref b6), .unset, .unset, .unset, .unset, .unset, .unset] [(.int (2 : Int32)), (.ref b6)])) tg
    refine XS.iloadN X13.here hx rfl (hb hby at_37) rfl ?_
    show Steps p.tables e below (T13.setTop (mkF m 38 #[.val (.int p1), .val (.int p2), .val (.int n), .val (.int ar), .val (.ref b6), .unset, .unset, .unset, .unset, .unset, .unset] [(.int n), (.int (2 : Int32)), (.ref b6)])) tg
    refine XS.iloadN X13.here hx rfl (hb hby at_38) rfl ?_
    exact kg
  obtain ⟨v16, T16, h16, Lc16, X16, e16, hQ16, st16⟩ := own_callS X13 hx hZ hown (hw _ (List.mem_of_getElem? (i := 1) rfl)) (hw _ (List.mem_of_getElem? (i := 2) rfl)) (hw _ (List.mem_of_getElem? (i := 3) rfl)) (hw _ (List.mem_of_getElem? (i := 4) rfl)) (by decide) (rm_put l Z a0 hw [] b6 (2 : Int32) n ar (n * ar) cl'_13 h13 n0 (by omega) fq13_3 hp13_S (own_idx (by decide) (by decide) hn7.1 hn7.2 har2.1 har2.2) (by omega)) e13 (g := (mkF m 39 #[.val (.int p1), .val (.int p2), .val (.int n), .val (.int ar), .val (.ref b6), .unset, .unset, .unset, .unset, .unset, .unset] [(.int ar), (.int n), (.int (2 : Int32)), (.ref b6)])) rfl (by rw [hml]; rfl) (argsL := [(.ref b6), (.int (2 : Int32)), (.int n), (.int ar)]) (rest := []) rfl (lenOf pd_2 rfl) rfl (W := 0) (by show 2 * 0 + _ ≤ _; exact Nat.le_of_eq rfl) (hb hby at_39) (by decide) (by decide) (by decide) (by decide)
  obtain ⟨cl'_16, rfl, Nq16, K16, fq16_3, hp16_S⟩ := hQ16
  have N16 := Fr.app N13 Nq16
  have s16 : h13.size ≤ h16.size := K16.1
  have k17 : Rch p e below (s₁.setTop (entryFrame m #[(.int p1), (.int p2)] maxLocals)) T16 (mkF m 42 #[.val (.int p1), .val (.int p2), .val (.int n), .val (.int ar), .val (.ref b6), .unset, .unset, .unset, .unset, .unset, .unset] []) := fun tg kg => k15 tg (st16 tg kg)
  have lt_fq16_3 := own_ltN fq16_3.lt
  have k18 : Rch p e below (s₁.setTop (entryFrame m #[(.int p1), (.int p2)] maxLocals)) T16 (mkF m 47 #[.val (.int p1), .val (.int p2), .val (.int n), .val (.int ar), .val (.ref b6), .unset, .unset, .unset, .unset, .unset, .unset] [(.int ar), (.int n), (.int (3 : Int32)), (.ref b6)]) := fun tg kg => by
    refine k17 tg ?_
    show Steps p.tables e below (T16.setTop (mkF m 42 #[.val (.int p1), .val (.int p2), .val (.int n), .val (.int ar), .val (.ref b6), .unset, .unset, .unset, .unset, .unset, .unset] [])) tg
    refine XS.aload X16.here hx rfl (hb hby at_42) rfl rfl ?_
    show Steps p.tables e below (T16.setTop (mkF m 44 #[.val (.int p1), .val (.int p2), .val (.int n), .val (.int ar), .val (.ref b6), .unset, .unset, .unset, .unset, .unset, .unset] [(.ref b6)])) tg
    refine XS.iconst X16.here hx rfl (hb hby at_44) ?_
    show Steps p.tables e below (T16.setTop (mkF m 45 #[.val (.int p1), .val (.int p2), .val (.int n), .val (.int ar), .val (.ref b6), .unset, .unset, .unset, .unset, .unset, .unset] [(.int (3 : Int32)), (.ref b6)])) tg
    refine XS.iloadN X16.here hx rfl (hb hby at_45) rfl ?_
    show Steps p.tables e below (T16.setTop (mkF m 46 #[.val (.int p1), .val (.int p2), .val (.int n), .val (.int ar), .val (.ref b6), .unset, .unset, .unset, .unset, .unset, .unset] [(.int n), (.int (3 : Int32)), (.ref b6)])) tg
    refine XS.iloadN X16.here hx rfl (hb hby at_46) rfl ?_
    exact kg
  obtain ⟨v19, T19, h19, Lc19, X19, e19, hQ19, st19⟩ := own_callS X16 hx hZ hown (hw _ (List.mem_of_getElem? (i := 1) rfl)) (hw _ (List.mem_of_getElem? (i := 2) rfl)) (hw _ (List.mem_of_getElem? (i := 3) rfl)) (hw _ (List.mem_of_getElem? (i := 4) rfl)) (by decide) (rm_put l Z a0 hw [] b6 (3 : Int32) n ar (n * ar) cl'_16 h16 n0 (by omega) fq16_3 hp16_S (own_idx (by decide) (by decide) hn7.1 hn7.2 har2.1 har2.2) (by omega)) e16 (g := (mkF m 47 #[.val (.int p1), .val (.int p2), .val (.int n), .val (.int ar), .val (.ref b6), .unset, .unset, .unset, .unset, .unset, .unset] [(.int ar), (.int n), (.int (3 : Int32)), (.ref b6)])) rfl (by rw [hml]; rfl) (argsL := [(.ref b6), (.int (3 : Int32)), (.int n), (.int ar)]) (rest := []) rfl (lenOf pd_2 rfl) rfl (W := 0) (by show 2 * 0 + _ ≤ _; exact Nat.le_of_eq rfl) (hb hby at_47) (by decide) (by decide) (by decide) (by decide)
  obtain ⟨cl'_19, rfl, Nq19, K19, fq19_3, hp19_S⟩ := hQ19
  have N19 := Fr.app N16 Nq19
  have s19 : h16.size ≤ h19.size := K19.1
  have k20 : Rch p e below (s₁.setTop (entryFrame m #[(.int p1), (.int p2)] maxLocals)) T19 (mkF m 50 #[.val (.int p1), .val (.int p2), .val (.int n), .val (.int ar), .val (.ref b6), .unset, .unset, .unset, .unset, .unset, .unset] []) := fun tg kg => k18 tg (st19 tg kg)
  have lt_fq19_3 := own_ltN fq19_3.lt
  have k21 : Rch p e below (s₁.setTop (entryFrame m #[(.int p1), (.int p2)] maxLocals)) T19 (mkF m 55 #[.val (.int p1), .val (.int p2), .val (.int n), .val (.int ar), .val (.ref b6), .unset, .unset, .unset, .unset, .unset, .unset] [(.int ar), (.int n), (.int (4 : Int32)), (.ref b6)]) := fun tg kg => by
    refine k20 tg ?_
    show Steps p.tables e below (T19.setTop (mkF m 50 #[.val (.int p1), .val (.int p2), .val (.int n), .val (.int ar), .val (.ref b6), .unset, .unset, .unset, .unset, .unset, .unset] [])) tg
    refine XS.aload X19.here hx rfl (hb hby at_50) rfl rfl ?_
    show Steps p.tables e below (T19.setTop (mkF m 52 #[.val (.int p1), .val (.int p2), .val (.int n), .val (.int ar), .val (.ref b6), .unset, .unset, .unset, .unset, .unset, .unset] [(.ref b6)])) tg
    refine XS.iconst X19.here hx rfl (hb hby at_52) ?_
    show Steps p.tables e below (T19.setTop (mkF m 53 #[.val (.int p1), .val (.int p2), .val (.int n), .val (.int ar), .val (.ref b6), .unset, .unset, .unset, .unset, .unset, .unset] [(.int (4 : Int32)), (.ref b6)])) tg
    refine XS.iloadN X19.here hx rfl (hb hby at_53) rfl ?_
    show Steps p.tables e below (T19.setTop (mkF m 54 #[.val (.int p1), .val (.int p2), .val (.int n), .val (.int ar), .val (.ref b6), .unset, .unset, .unset, .unset, .unset, .unset] [(.int n), (.int (4 : Int32)), (.ref b6)])) tg
    refine XS.iloadN X19.here hx rfl (hb hby at_54) rfl ?_
    exact kg
  obtain ⟨v22, T22, h22, Lc22, X22, e22, hQ22, st22⟩ := own_callS X19 hx hZ hown (hw _ (List.mem_of_getElem? (i := 1) rfl)) (hw _ (List.mem_of_getElem? (i := 2) rfl)) (hw _ (List.mem_of_getElem? (i := 3) rfl)) (hw _ (List.mem_of_getElem? (i := 4) rfl)) (by decide) (rm_put l Z a0 hw [] b6 (4 : Int32) n ar (n * ar) cl'_19 h19 n0 (by omega) fq19_3 hp19_S (own_idx (by decide) (by decide) hn7.1 hn7.2 har2.1 har2.2) (by omega)) e19 (g := (mkF m 55 #[.val (.int p1), .val (.int p2), .val (.int n), .val (.int ar), .val (.ref b6), .unset, .unset, .unset, .unset, .unset, .unset] [(.int ar), (.int n), (.int (4 : Int32)), (.ref b6)])) rfl (by rw [hml]; rfl) (argsL := [(.ref b6), (.int (4 : Int32)), (.int n), (.int ar)]) (rest := []) rfl (lenOf pd_2 rfl) rfl (W := 0) (by show 2 * 0 + _ ≤ _; exact Nat.le_of_eq rfl) (hb hby at_55) (by decide) (by decide) (by decide) (by decide)
  obtain ⟨cl'_22, rfl, Nq22, K22, fq22_3, hp22_S⟩ := hQ22
  have N22 := Fr.app N19 Nq22
  have s22 : h19.size ≤ h22.size := K22.1
  have k23 : Rch p e below (s₁.setTop (entryFrame m #[(.int p1), (.int p2)] maxLocals)) T22 (mkF m 58 #[.val (.int p1), .val (.int p2), .val (.int n), .val (.int ar), .val (.ref b6), .unset, .unset, .unset, .unset, .unset, .unset] []) := fun tg kg => k21 tg (st22 tg kg)
  have lt_fq22_3 := own_ltN fq22_3.lt
  have k24 : Rch p e below (s₁.setTop (entryFrame m #[(.int p1), (.int p2)] maxLocals)) T22 (mkF m 63 #[.val (.int p1), .val (.int p2), .val (.int n), .val (.int ar), .val (.ref b6), .unset, .unset, .unset, .unset, .unset, .unset] [(.int ar), (.int n), (.int (5 : Int32)), (.ref b6)]) := fun tg kg => by
    refine k23 tg ?_
    show Steps p.tables e below (T22.setTop (mkF m 58 #[.val (.int p1), .val (.int p2), .val (.int n), .val (.int ar), .val (.ref b6), .unset, .unset, .unset, .unset, .unset, .unset] [])) tg
    refine XS.aload X22.here hx rfl (hb hby at_58) rfl rfl ?_
    show Steps p.tables e below (T22.setTop (mkF m 60 #[.val (.int p1), .val (.int p2), .val (.int n), .val (.int ar), .val (.ref b6), .unset, .unset, .unset, .unset, .unset, .unset] [(.ref b6)])) tg
    refine XS.iconst X22.here hx rfl (hb hby at_60) ?_
    show Steps p.tables e below (T22.setTop (mkF m 61 #[.val (.int p1), .val (.int p2), .val (.int n), .val (.int ar), .val (.ref b6), .unset, .unset, .unset, .unset, .unset, .unset] [(.int (5 : Int32)), (.ref b6)])) tg
    refine XS.iloadN X22.here hx rfl (hb hby at_61) rfl ?_
    show Steps p.tables e below (T22.setTop (mkF m 62 #[.val (.int p1), .val (.int p2), .val (.int n), .val (.int ar), .val (.ref b6), .unset, .unset, .unset, .unset, .unset, .unset] [(.int n), (.int (5 : Int32)), (.ref b6)])) tg
    refine XS.iloadN X22.here hx rfl (hb hby at_62) rfl ?_
    exact kg
  obtain ⟨v25, T25, h25, Lc25, X25, e25, hQ25, st25⟩ := own_callS X22 hx hZ hown (hw _ (List.mem_of_getElem? (i := 1) rfl)) (hw _ (List.mem_of_getElem? (i := 2) rfl)) (hw _ (List.mem_of_getElem? (i := 3) rfl)) (hw _ (List.mem_of_getElem? (i := 4) rfl)) (by decide) (rm_put l Z a0 hw [] b6 (5 : Int32) n ar (n * ar) cl'_22 h22 n0 (by omega) fq22_3 hp22_S (own_idx (by decide) (by decide) hn7.1 hn7.2 har2.1 har2.2) (by omega)) e22 (g := (mkF m 63 #[.val (.int p1), .val (.int p2), .val (.int n), .val (.int ar), .val (.ref b6), .unset, .unset, .unset, .unset, .unset, .unset] [(.int ar), (.int n), (.int (5 : Int32)), (.ref b6)])) rfl (by rw [hml]; rfl) (argsL := [(.ref b6), (.int (5 : Int32)), (.int n), (.int ar)]) (rest := []) rfl (lenOf pd_2 rfl) rfl (W := 0) (by show 2 * 0 + _ ≤ _; exact Nat.le_of_eq rfl) (hb hby at_63) (by decide) (by decide) (by decide) (by decide)
  obtain ⟨cl'_25, rfl, Nq25, K25, fq25_3, hp25_S⟩ := hQ25
  have N25 := Fr.app N22 Nq25
  have s25 : h22.size ≤ h25.size := K25.1
  have k26 : Rch p e below (s₁.setTop (entryFrame m #[(.int p1), (.int p2)] maxLocals)) T25 (mkF m 66 #[.val (.int p1), .val (.int p2), .val (.int n), .val (.int ar), .val (.ref b6), .unset, .unset, .unset, .unset, .unset, .unset] []) := fun tg kg => k24 tg (st25 tg kg)
  have lt_fq25_3 := own_ltN fq25_3.lt
  have k27 : Rch p e below (s₁.setTop (entryFrame m #[(.int p1), (.int p2)] maxLocals)) T25 (mkF m 72 #[.val (.int p1), .val (.int p2), .val (.int n), .val (.int ar), .val (.ref b6), .unset, .unset, .unset, .unset, .unset, .unset] [(.int ar), (.int n), (.int (6 : Int32)), (.ref b6)]) := fun tg kg => by
    refine k26 tg ?_
    show Steps p.tables e below (T25.setTop (mkF m 66 #[.val (.int p1), .val (.int p2), .val (.int n), .val (.int ar), .val (.ref b6), .unset, .unset, .unset, .unset, .unset, .unset] [])) tg
    refine XS.aload X25.here hx rfl (hb hby at_66) rfl rfl ?_
    show Steps p.tables e below (T25.setTop (mkF m 68 #[.val (.int p1), .val (.int p2), .val (.int n), .val (.int ar), .val (.ref b6), .unset, .unset, .unset, .unset, .unset, .unset] [(.ref b6)])) tg
    refine XS.bipush X25.here hx rfl (hb hby at_68) ?_
    show Steps p.tables e below (T25.setTop (mkF m 70 #[.val (.int p1), .val (.int p2), .val (.int n), .val (.int ar), .val (.ref b6), .unset, .unset, .unset, .unset, .unset, .unset] [(.int (6 : Int32)), (.ref b6)])) tg
    refine XS.iloadN X25.here hx rfl (hb hby at_70) rfl ?_
    show Steps p.tables e below (T25.setTop (mkF m 71 #[.val (.int p1), .val (.int p2), .val (.int n), .val (.int ar), .val (.ref b6), .unset, .unset, .unset, .unset, .unset, .unset] [(.int n), (.int (6 : Int32)), (.ref b6)])) tg
    refine XS.iloadN X25.here hx rfl (hb hby at_71) rfl ?_
    exact kg
  obtain ⟨v28, T28, h28, Lc28, X28, e28, hQ28, st28⟩ := own_callS X25 hx hZ hown (hw _ (List.mem_of_getElem? (i := 1) rfl)) (hw _ (List.mem_of_getElem? (i := 2) rfl)) (hw _ (List.mem_of_getElem? (i := 3) rfl)) (hw _ (List.mem_of_getElem? (i := 4) rfl)) (by decide) (rm_put l Z a0 hw [] b6 (6 : Int32) n ar (n * ar) cl'_25 h25 n0 (by omega) fq25_3 hp25_S (own_idx (by decide) (by decide) hn7.1 hn7.2 har2.1 har2.2) (by omega)) e25 (g := (mkF m 72 #[.val (.int p1), .val (.int p2), .val (.int n), .val (.int ar), .val (.ref b6), .unset, .unset, .unset, .unset, .unset, .unset] [(.int ar), (.int n), (.int (6 : Int32)), (.ref b6)])) rfl (by rw [hml]; rfl) (argsL := [(.ref b6), (.int (6 : Int32)), (.int n), (.int ar)]) (rest := []) rfl (lenOf pd_2 rfl) rfl (W := 0) (by show 2 * 0 + _ ≤ _; exact Nat.le_of_eq rfl) (hb hby at_72) (by decide) (by decide) (by decide) (by decide)
  obtain ⟨cl'_28, rfl, Nq28, K28, fq28_3, hp28_S⟩ := hQ28
  have N28 := Fr.app N25 Nq28
  have s28 : h25.size ≤ h28.size := K28.1
  have k29 : Rch p e below (s₁.setTop (entryFrame m #[(.int p1), (.int p2)] maxLocals)) T28 (mkF m 75 #[.val (.int p1), .val (.int p2), .val (.int n), .val (.int ar), .val (.ref b6), .unset, .unset, .unset, .unset, .unset, .unset] []) := fun tg kg => k27 tg (st28 tg kg)
  have lt_fq28_3 := own_ltN fq28_3.lt
  have k30 : Rch p e below (s₁.setTop (entryFrame m #[(.int p1), (.int p2)] maxLocals)) T28 (mkF m 81 #[.val (.int p1), .val (.int p2), .val (.int n), .val (.int ar), .val (.ref b6), .unset, .unset, .unset, .unset, .unset, .unset] [(.int ar), (.int n), (.int (7 : Int32)), (.ref b6)]) := fun tg kg => by
    refine k29 tg ?_
    show Steps p.tables e below (T28.setTop (mkF m 75 #[.val (.int p1), .val (.int p2), .val (.int n), .val (.int ar), .val (.ref b6), .unset, .unset, .unset, .unset, .unset, .unset] [])) tg
    refine XS.aload X28.here hx rfl (hb hby at_75) rfl rfl ?_
    show Steps p.tables e below (T28.setTop (mkF m 77 #[.val (.int p1), .val (.int p2), .val (.int n), .val (.int ar), .val (.ref b6), .unset, .unset, .unset, .unset, .unset, .unset] [(.ref b6)])) tg
    refine XS.bipush X28.here hx rfl (hb hby at_77) ?_
    show Steps p.tables e below (T28.setTop (mkF m 79 #[.val (.int p1), .val (.int p2), .val (.int n), .val (.int ar), .val (.ref b6), .unset, .unset, .unset, .unset, .unset, .unset] [(.int (7 : Int32)), (.ref b6)])) tg
    refine XS.iloadN X28.here hx rfl (hb hby at_79) rfl ?_
    show Steps p.tables e below (T28.setTop (mkF m 80 #[.val (.int p1), .val (.int p2), .val (.int n), .val (.int ar), .val (.ref b6), .unset, .unset, .unset, .unset, .unset, .unset] [(.int n), (.int (7 : Int32)), (.ref b6)])) tg
    refine XS.iloadN X28.here hx rfl (hb hby at_80) rfl ?_
    exact kg
  obtain ⟨v31, T31, h31, Lc31, X31, e31, hQ31, st31⟩ := own_callS X28 hx hZ hown (hw _ (List.mem_of_getElem? (i := 1) rfl)) (hw _ (List.mem_of_getElem? (i := 2) rfl)) (hw _ (List.mem_of_getElem? (i := 3) rfl)) (hw _ (List.mem_of_getElem? (i := 4) rfl)) (by decide) (rm_put l Z a0 hw [] b6 (7 : Int32) n ar (n * ar) cl'_28 h28 n0 (by omega) fq28_3 hp28_S (own_idx (by decide) (by decide) hn7.1 hn7.2 har2.1 har2.2) (by omega)) e28 (g := (mkF m 81 #[.val (.int p1), .val (.int p2), .val (.int n), .val (.int ar), .val (.ref b6), .unset, .unset, .unset, .unset, .unset, .unset] [(.int ar), (.int n), (.int (7 : Int32)), (.ref b6)])) rfl (by rw [hml]; rfl) (argsL := [(.ref b6), (.int (7 : Int32)), (.int n), (.int ar)]) (rest := []) rfl (lenOf pd_2 rfl) rfl (W := 0) (by show 2 * 0 + _ ≤ _; exact Nat.le_of_eq rfl) (hb hby at_81) (by decide) (by decide) (by decide) (by decide)
  obtain ⟨cl'_31, rfl, Nq31, K31, fq31_3, hp31_S⟩ := hQ31
  have N31 := Fr.app N28 Nq31
  have s31 : h28.size ≤ h31.size := K31.1
  have k32 : Rch p e below (s₁.setTop (entryFrame m #[(.int p1), (.int p2)] maxLocals)) T31 (mkF m 84 #[.val (.int p1), .val (.int p2), .val (.int n), .val (.int ar), .val (.ref b6), .unset, .unset, .unset, .unset, .unset, .unset] []) := fun tg kg => k30 tg (st31 tg kg)
  have lt_fq31_3 := own_ltN fq31_3.lt
  obtain ⟨T33, h33, X33, e33, E33, A33, D33, -, st33⟩ := newO X31 hx hZ hown (hw _ (List.mem_of_getElem? (i := 5) rfl)) (hw _ (List.mem_of_getElem? (i := 6) rfl)) (hw _ (List.mem_of_getElem? (i := 7) rfl)) e31 (g := (mkF m 84 #[.val (.int p1), .val (.int p2), .val (.int n), .val (.int ar), .val (.ref b6), .unset, .unset, .unset, .unset, .unset, .unset] [])) rfl (hb hby at_84) (by decide) (by decide)
  obtain ⟨b33, g33⟩ : ∃ z, z = h31.size := ⟨_, rfl⟩
  rw [← g33] at A33 D33 st33
  have s33 : h31.size ≤ h33.size := E33.1
  have lt33 : b33 < h33.size := A33.lt
  have k34 : Rch p e below (s₁.setTop (entryFrame m #[(.int p1), (.int p2)] maxLocals)) T33 (mkF m 87 #[.val (.int p1), .val (.int p2), .val (.int n), .val (.int ar), .val (.ref b6), .unset, .unset, .unset, .unset, .unset, .unset] [(.ref b33)]) := fun tg kg => k32 tg (st33 tg kg)
  have F33_name : Fld Z h33 b33 "com/example/clause_search/clausesearch/Predicate" "name" "Ljava/lang/String;" .null := D33 (Or.inr (hw _ (List.mem_of_getElem? (i := 28) rfl))) (ty := (.object "java/lang/String")) (by decide)
  have F33_arity : Fld Z h33 b33 "com/example/clause_search/clausesearch/Predicate" "arity" "I" (.int (0 : Int32)) := D33 (Or.inr (hw _ (List.mem_of_getElem? (i := 30) rfl))) (ty := .int) (by decide)
  have k35 : Rch p e below (s₁.setTop (entryFrame m #[(.int p1), (.int p2)] maxLocals)) T33 (mkF m 88 #[.val (.int p1), .val (.int p2), .val (.int n), .val (.int ar), .val (.ref b6), .unset, .unset, .unset, .unset, .unset, .unset] [(.ref b33), (.ref b33)]) := fun tg kg => by
    refine k34 tg ?_
    show Steps p.tables e below (T33.setTop (mkF m 87 #[.val (.int p1), .val (.int p2), .val (.int n), .val (.int ar), .val (.ref b6), .unset, .unset, .unset, .unset, .unset, .unset] [(.ref b33)])) tg
    refine XS.dup X33.here hx rfl (hb hby at_87) rfl rfl ?_
    exact kg
  obtain ⟨lit36, T36, h36, k1_36, X36, e36, E36, hS36, hk36, hZ36, hown36, st36⟩ := ldcS (s := s) X33 hx hZ hown (hw _ (List.mem_of_getElem? (i := 8) rfl)) wS e33 hS0 (by first | exact Nat.le_refl _ | omega) (g := (mkF m 88 #[.val (.int p1), .val (.int p2), .val (.int n), .val (.int ar), .val (.ref b6), .unset, .unset, .unset, .unset, .unset, .unset] [(.ref b33), (.ref b33)])) rfl (hb hby at_88) (n := 4) (by decide) (by decide) (by decide) (by decide)
  have s36 : h33.size ≤ h36.size := E36.1
  have k37 : Rch p e below (s₁.setTop (entryFrame m #[(.int p1), (.int p2)] maxLocals)) T36 (mkF m 90 #[.val (.int p1), .val (.int p2), .val (.int n), .val (.int ar), .val (.ref b6), .unset, .unset, .unset, .unset, .unset, .unset] [(.ref lit36), (.ref b33), (.ref b33)]) := fun tg kg => k35 tg (st36 tg kg)
  have k38 : Rch p e below (s₁.setTop (entryFrame m #[(.int p1), (.int p2)] maxLocals)) T36 (mkF m 91 #[.val (.int p1), .val (.int p2), .val (.int n), .val (.int ar), .val (.ref b6), .unset, .unset, .unset, .unset, .unset, .unset] [(.int ar), (.ref lit36), (.ref b33), (.ref b33)]) := fun tg kg => by
    refine k37 tg ?_
    show Steps p.tables e below (T36.setTop (mkF m 90 #[.val (.int p1), .val (.int p2), .val (.int n), .val (.int ar), .val (.ref b6), .unset, .unset, .unset, .unset, .unset, .unset] [(.ref lit36), (.ref b33), (.ref b33)])) tg
    refine XS.iloadN X36.here hx rfl (hb hby at_90) rfl ?_
    exact kg
  have f40 : Exa Z h36 b33 "com/example/clause_search/clausesearch/Predicate" := (A33.ext E36)
  have f41 : Fld Z h36 b33 "com/example/clause_search/clausesearch/Predicate" "name" "Ljava/lang/String;" .null := (F33_name.ext E36)
  have f42 : Fld Z h36 b33 "com/example/clause_search/clausesearch/Predicate" "arity" "I" (.int (0 : Int32)) := (F33_arity.ext E36)
  obtain ⟨v39, T39, h39, Lc39, X39, e39, hQ39, st39⟩ := own_callC X36 hx hZ36 rfl hown36 (hw _ (List.mem_of_getElem? (i := 16) rfl)) (hw _ (List.mem_of_getElem? (i := 17) rfl)) (hw _ (List.mem_of_getElem? (i := 7) rfl)) (hw _ (List.mem_of_getElem? (i := 18) rfl)) (by decide) (rm_pred l Z a0 hw [] b33 lit36 ar .null (.int (0 : Int32)) h36 n0 (by omega) f40 f41 f42 (by omega)) e36 (a := b33) (g := (mkF m 91 #[.val (.int p1), .val (.int p2), .val (.int n), .val (.int ar), .val (.ref b6), .unset, .unset, .unset, .unset, .unset, .unset] [(.int ar), (.ref lit36), (.ref b33), (.ref b33)])) rfl (by rw [hml]; rfl) (argsL := [(.ref lit36), (.int ar)]) (rest := [(.ref b33)]) rfl (lenOf pd_3 rfl) rfl (W := 1) (by show 2 * 0 + _ ≤ _; exact Nat.le_of_eq rfl) (hb hby at_91) (by decide) (by decide) (by decide) (by decide)
  obtain ⟨rfl, Nq39, K39, fq39_3, fq39_4⟩ := hQ39
  have N39 := Fr.app N31 Nq39
  have s39 : h36.size ≤ h39.size := K39.1
  have k43 : Rch p e below (s₁.setTop (entryFrame m #[(.int p1), (.int p2)] maxLocals)) T39 (mkF m 94 #[.val (.int p1), .val (.int p2), .val (.int n), .val (.int ar), .val (.ref b6), .unset, .unset, .unset, .unset, .unset, .unset] [(.ref b33)]) := fun tg kg => k38 tg (st39 tg kg)
  have lt_fq39_3 := own_ltN fq39_3.lt
  have lt_fq39_4 := own_ltN fq39_4.lt
  have k44 : Rch p e below (s₁.setTop (entryFrame m #[(.int p1), (.int p2)] maxLocals)) T39 (mkF m 96 #[.val (.int p1), .val (.int p2), .val (.int n), .val (.int ar), .val (.ref b6), .val (.ref b33), .unset, .unset, .unset, .unset, .unset] []) := fun tg kg => by
    refine k43 tg ?_
    show Steps p.tables e below (T39.setTop (mkF m 94 #[.val (.int p1), .val (.int p2), .val (.int n), .val (.int ar), .val (.ref b6), .unset, .unset, .unset, .unset, .unset, .unset] [(.ref b33)])) tg
    refine XS.astore X39.here hx rfl (hb hby at_94) rfl rfl (l' := #[.val (.int p1), .val (.int p2), .val (.int n), .val (.int ar), .val (.ref b6), .val (.ref b33), .unset, .unset, .unset, .unset, .unset]) rfl ?_
    exact kg
  obtain ⟨T45, h45, X45, e45, E45, A45, D45, -, st45⟩ := newO X39 hx hZ36 hown36 (hw _ (List.mem_of_getElem? (i := 31) rfl)) (hw _ (List.mem_of_getElem? (i := 32) rfl)) (hw _ (List.mem_of_getElem? (i := 33) rfl)) e39 (g := (mkF m 96 #[.val (.int p1), .val (.int p2), .val (.int n), .val (.int ar), .val (.ref b6), .val (.ref b33), .unset, .unset, .unset, .unset, .unset] [])) rfl (hb hby at_96) (by decide) (by decide)
  obtain ⟨b45, g45⟩ : ∃ z, z = h39.size := ⟨_, rfl⟩
  rw [← g45] at A45 D45 st45
  have s45 : h39.size ≤ h45.size := E45.1
  have lt45 : b45 < h45.size := A45.lt
  have k46 : Rch p e below (s₁.setTop (entryFrame m #[(.int p1), (.int p2)] maxLocals)) T45 (mkF m 99 #[.val (.int p1), .val (.int p2), .val (.int n), .val (.int ar), .val (.ref b6), .val (.ref b33), .unset, .unset, .unset, .unset, .unset] [(.ref b45)]) := fun tg kg => k44 tg (st45 tg kg)
  have F45_predicate : Fld Z h45 b45 "com/example/clause_search/clausesearch/Relation" "predicate" "Lcom/example/clause_search/clausesearch/Predicate;" .null := D45 (Or.inr (hw _ (List.mem_of_getElem? (i := 39) rfl))) (ty := (.object "com/example/clause_search/clausesearch/Predicate")) (by decide)
  have F45_arity : Fld Z h45 b45 "com/example/clause_search/clausesearch/Relation" "arity" "I" (.int (0 : Int32)) := D45 (Or.inr (hw _ (List.mem_of_getElem? (i := 46) rfl))) (ty := .int) (by decide)
  have F45_size : Fld Z h45 b45 "com/example/clause_search/clausesearch/Relation" "size" "I" (.int (0 : Int32)) := D45 (Or.inr (hw _ (List.mem_of_getElem? (i := 48) rfl))) (ty := .int) (by decide)
  have F45_values : Fld Z h45 b45 "com/example/clause_search/clausesearch/Relation" "values" "[I" .null := D45 (Or.inr (hw _ (List.mem_of_getElem? (i := 50) rfl))) (ty := (.array .int)) (by decide)
  have F45_constantCount : Fld Z h45 b45 "com/example/clause_search/clausesearch/Relation" "constantCount" "I" (.int (0 : Int32)) := D45 (Or.inr (hw _ (List.mem_of_getElem? (i := 52) rfl))) (ty := .int) (by decide)
  have F45_all : Fld Z h45 b45 "com/example/clause_search/clausesearch/Relation" "all" "[I" .null := D45 (Or.inl (hw _ (List.mem_of_getElem? (i := 59) rfl))) (ty := (.array .int)) (by decide)
  have k47 : Rch p e below (s₁.setTop (entryFrame m #[(.int p1), (.int p2)] maxLocals)) T45 (mkF m 107 #[.val (.int p1), .val (.int p2), .val (.int n), .val (.int ar), .val (.ref b6), .val (.ref b33), .unset, .unset, .unset, .unset, .unset] [(.int (8 : Int32)), (.ref b6), (.int n), (.ref b33), (.ref b45), (.ref b45)]) := fun tg kg => by
    refine k46 tg ?_
    show Steps p.tables e below (T45.setTop (mkF m 99 #[.val (.int p1), .val (.int p2), .val (.int n), .val (.int ar), .val (.ref b6), .val (.ref b33), .unset, .unset, .unset, .unset, .unset] [(.ref b45)])) tg
    refine XS.dup X45.here hx rfl (hb hby at_99) rfl rfl ?_
    show Steps p.tables e below (T45.setTop (mkF m 100 #[.val (.int p1), .val (.int p2), .val (.int n), .val (.int ar), .val (.ref b6), .val (.ref b33), .unset, .unset, .unset, .unset, .unset] [(.ref b45), (.ref b45)])) tg
    refine XS.aload X45.here hx rfl (hb hby at_100) rfl rfl ?_
    show Steps p.tables e below (T45.setTop (mkF m 102 #[.val (.int p1), .val (.int p2), .val (.int n), .val (.int ar), .val (.ref b6), .val (.ref b33), .unset, .unset, .unset, .unset, .unset] [(.ref b33), (.ref b45), (.ref b45)])) tg
    refine XS.iloadN X45.here hx rfl (hb hby at_102) rfl ?_
    show Steps p.tables e below (T45.setTop (mkF m 103 #[.val (.int p1), .val (.int p2), .val (.int n), .val (.int ar), .val (.ref b6), .val (.ref b33), .unset, .unset, .unset, .unset, .unset] [(.int n), (.ref b33), (.ref b45), (.ref b45)])) tg
    refine XS.aload X45.here hx rfl (hb hby at_103) rfl rfl ?_
    show Steps p.tables e below (T45.setTop (mkF m 105 #[.val (.int p1), .val (.int p2), .val (.int n), .val (.int ar), .val (.ref b6), .val (.ref b33), .unset, .unset, .unset, .unset, .unset] [(.ref b6), (.int n), (.ref b33), (.ref b45), (.ref b45)])) tg
    refine XS.bipush X45.here hx rfl (hb hby at_105) ?_
    exact kg
  have f49 : Exa Z h45 b33 "com/example/clause_search/clausesearch/Predicate" := (fq39_3.ext E45)
  have f50 : Fld Z h45 b33 "com/example/clause_search/clausesearch/Predicate" "arity" "I" (.int ar) := (fq39_4.ext E45)
  obtain ⟨v48, T48, h48, Lc48, X48, e48, hQ48, st48⟩ := own_callC X45 hx hZ36 rfl hown36 (hw _ (List.mem_of_getElem? (i := 34) rfl)) (hw _ (List.mem_of_getElem? (i := 35) rfl)) (hw _ (List.mem_of_getElem? (i := 33) rfl)) (hw _ (List.mem_of_getElem? (i := 36) rfl)) (by decide) (rm_rel l Z a0 hw [] b45 b33 n b6 (8 : Int32) ar .null (.int (0 : Int32)) (.int (0 : Int32)) .null (.int (0 : Int32)) h45 n0 (by omega) A45 f49 f50 (own_ne (by omega)) F45_predicate F45_arity F45_size F45_values F45_constantCount F45_all (by omega)) e45 (a := b45) (g := (mkF m 107 #[.val (.int p1), .val (.int p2), .val (.int n), .val (.int ar), .val (.ref b6), .val (.ref b33), .unset, .unset, .unset, .unset, .unset] [(.int (8 : Int32)), (.ref b6), (.int n), (.ref b33), (.ref b45), (.ref b45)])) rfl (by rw [hml]; rfl) (argsL := [(.ref b33), (.int n), (.ref b6), (.int (8 : Int32))]) (rest := [(.ref b45)]) rfl (lenOf pd_4 rfl) rfl (W := 1) (by show 2 * 0 + _ ≤ _; exact Nat.le_of_eq rfl) (hb hby at_107) (by decide) (by decide) (by decide) (by decide)
  obtain ⟨rfl, Nq48, K48, fq48_3, fq48_4, fq48_5⟩ := hQ48
  have N48 := Fr.app N39 Nq48
  have s48 : h45.size ≤ h48.size := K48.1
  have k51 : Rch p e below (s₁.setTop (entryFrame m #[(.int p1), (.int p2)] maxLocals)) T48 (mkF m 110 #[.val (.int p1), .val (.int p2), .val (.int n), .val (.int ar), .val (.ref b6), .val (.ref b33), .unset, .unset, .unset, .unset, .unset] [(.ref b45)]) := fun tg kg => k47 tg (st48 tg kg)
  have lt_fq48_3 := own_ltN fq48_3.lt
  have lt_fq48_4 := own_ltN fq48_4.lt
  have lt_fq48_5 := own_ltN fq48_5.lt
  have k52 : Rch p e below (s₁.setTop (entryFrame m #[(.int p1), (.int p2)] maxLocals)) T48 (mkF m 114 #[.val (.int p1), .val (.int p2), .val (.int n), .val (.int ar), .val (.ref b6), .val (.ref b33), .val (.ref b45), .unset, .unset, .unset, .unset] [(.ref b45)]) := fun tg kg => by
    refine k51 tg ?_
    show Steps p.tables e below (T48.setTop (mkF m 110 #[.val (.int p1), .val (.int p2), .val (.int n), .val (.int ar), .val (.ref b6), .val (.ref b33), .unset, .unset, .unset, .unset, .unset] [(.ref b45)])) tg
    refine XS.astore X48.here hx rfl (hb hby at_110) rfl rfl (l' := #[.val (.int p1), .val (.int p2), .val (.int n), .val (.int ar), .val (.ref b6), .val (.ref b33), .val (.ref b45), .unset, .unset, .unset, .unset]) rfl ?_
    show Steps p.tables e below (T48.setTop (mkF m 112 #[.val (.int p1), .val (.int p2), .val (.int n), .val (.int ar), .val (.ref b6), .val (.ref b33), .val (.ref b45), .unset, .unset, .unset, .unset] [])) tg
    refine XS.aload X48.here hx rfl (hb hby at_112) rfl rfl ?_
    exact kg
  obtain ⟨v53, T53, h53, Lc53, X53, e53, hQ53, st53⟩ := own_callV X48 hx hZ36 hown36 (hw _ (List.mem_of_getElem? (i := 53) rfl)) (hw _ (List.mem_of_getElem? (i := 54) rfl)) (notFace_of_selects (args := #[]) (mvT hZ36 (hw _ (List.mem_of_getElem? (i := 56) rfl)))) (hw _ (List.mem_of_getElem? (i := 56) rfl)) (hw _ (List.mem_of_getElem? (i := 55) rfl)) (hw _ (List.mem_of_getElem? (i := 57) rfl)) (hw _ (List.mem_of_getElem? (i := 33) rfl)) (by decide) (rm_tup l Z a0 hw [] b45 n h48 n0 (by omega) fq48_3 fq48_4 fq48_5 hn7 (by omega)) e48 fq48_3 (g := (mkF m 114 #[.val (.int p1), .val (.int p2), .val (.int n), .val (.int ar), .val (.ref b6), .val (.ref b33), .val (.ref b45), .unset, .unset, .unset, .unset] [(.ref b45)])) rfl (by rw [hml]; rfl) (argsL := []) (rest := []) rfl (lenOf pd_5 rfl) rfl (W := 0) (by show 2 * 0 + _ ≤ _; exact Nat.le_of_eq rfl) (hb hby at_114) (by decide) (by decide) (by decide) (by decide)
  obtain ⟨tb, tk, rfl, Nq53, K53, ge53_3, fq53_4, fq53_5, fq53_6, fq53_7⟩ := hQ53
  have N53 := Fr.app N48 Nq53
  have s53 : h48.size ≤ h53.size := K53.1
  have k54 : Rch p e below (s₁.setTop (entryFrame m #[(.int p1), (.int p2)] maxLocals)) T53 (mkF m 117 #[.val (.int p1), .val (.int p2), .val (.int n), .val (.int ar), .val (.ref b6), .val (.ref b33), .val (.ref b45), .unset, .unset, .unset, .unset] [(.ref tb)]) := fun tg kg => k52 tg (st53 tg kg)
  have lt_fq53_4 := own_ltN fq53_4.lt
  have lt_fq53_5 := own_ltN fq53_5.lt
  have lt_fq53_6 := own_ltN fq53_6.lt
  have lt_fq53_7 := own_ltN fq53_7.lt
  have k55 : Rch p e below (s₁.setTop (entryFrame m #[(.int p1), (.int p2)] maxLocals)) T53 (mkF m 122 #[.val (.int p1), .val (.int p2), .val (.int n), .val (.int ar), .val (.ref b6), .val (.ref b33), .val (.ref b45), .val (.ref tb), .unset, .unset, .unset] [(.int n), (.ref tb)]) := fun tg kg => by
    refine k54 tg ?_
    show Steps p.tables e below (T53.setTop (mkF m 117 #[.val (.int p1), .val (.int p2), .val (.int n), .val (.int ar), .val (.ref b6), .val (.ref b33), .val (.ref b45), .unset, .unset, .unset, .unset] [(.ref tb)])) tg
    refine XS.astore X53.here hx rfl (hb hby at_117) rfl rfl (l' := #[.val (.int p1), .val (.int p2), .val (.int n), .val (.int ar), .val (.ref b6), .val (.ref b33), .val (.ref b45), .val (.ref tb), .unset, .unset, .unset]) rfl ?_
    show Steps p.tables e below (T53.setTop (mkF m 119 #[.val (.int p1), .val (.int p2), .val (.int n), .val (.int ar), .val (.ref b6), .val (.ref b33), .val (.ref b45), .val (.ref tb), .unset, .unset, .unset] [])) tg
    refine XS.aload X53.here hx rfl (hb hby at_119) rfl rfl ?_
    show Steps p.tables e below (T53.setTop (mkF m 121 #[.val (.int p1), .val (.int p2), .val (.int n), .val (.int ar), .val (.ref b6), .val (.ref b33), .val (.ref b45), .val (.ref tb), .unset, .unset, .unset] [(.ref tb)])) tg
    refine XS.iloadN X53.here hx rfl (hb hby at_121) rfl ?_
    exact kg
  obtain ⟨v56, T56, h56, Lc56, X56, e56, hQ56, st56⟩ := own_callS X53 hx hZ36 hown36 (hw _ (List.mem_of_getElem? (i := 60) rfl)) (hw _ (List.mem_of_getElem? (i := 61) rfl)) (hw _ (List.mem_of_getElem? (i := 3) rfl)) (hw _ (List.mem_of_getElem? (i := 62) rfl)) (by decide) (rm_id l Z a0 hw [] tb n tk h53 n0 (by omega) fq53_7) e53 (g := (mkF m 122 #[.val (.int p1), .val (.int p2), .val (.int n), .val (.int ar), .val (.ref b6), .val (.ref b33), .val (.ref b45), .val (.ref tb), .unset, .unset, .unset] [(.int n), (.ref tb)])) rfl (by rw [hml]; rfl) (argsL := [(.ref tb), (.int n)]) (rest := []) rfl (lenOf pd_6 rfl) rfl (W := 0) (by show 2 * 0 + _ ≤ _; exact Nat.le_of_eq rfl) (hb hby at_122) (by decide) (by decide) (by decide) (by decide)
  obtain ⟨rfl, Nq56, hs56⟩ := hQ56
  have N56 := Fr.app N53 Nq56
  have e56' : T56.heap = h53 := e56.trans hs56
  have k57 : Rch p e below (s₁.setTop (entryFrame m #[(.int p1), (.int p2)] maxLocals)) T56 (mkF m 125 #[.val (.int p1), .val (.int p2), .val (.int n), .val (.int ar), .val (.ref b6), .val (.ref b33), .val (.ref b45), .val (.ref tb), .unset, .unset, .unset] [(.int (1 : Int32))]) := fun tg kg => k55 tg (st56 tg kg)
  have k58 : Rch p e below (s₁.setTop (entryFrame m #[(.int p1), (.int p2)] maxLocals)) T56 (mkF m 129 #[.val (.int p1), .val (.int p2), .val (.int n), .val (.int ar), .val (.ref b6), .val (.ref b33), .val (.ref b45), .val (.ref tb), .val (.int (1 : Int32)), .unset, .unset] [(.ref b45)]) := fun tg kg => by
    refine k57 tg ?_
    show Steps p.tables e below (T56.setTop (mkF m 125 #[.val (.int p1), .val (.int p2), .val (.int n), .val (.int ar), .val (.ref b6), .val (.ref b33), .val (.ref b45), .val (.ref tb), .unset, .unset, .unset] [(.int (1 : Int32))])) tg
    refine XS.istore X56.here hx rfl (hb hby at_125) rfl (l' := #[.val (.int p1), .val (.int p2), .val (.int n), .val (.int ar), .val (.ref b6), .val (.ref b33), .val (.ref b45), .val (.ref tb), .val (.int (1 : Int32)), .unset, .unset]) rfl ?_
    show Steps p.tables e below (T56.setTop (mkF m 127 #[.val (.int p1), .val (.int p2), .val (.int n), .val (.int ar), .val (.ref b6), .val (.ref b33), .val (.ref b45), .val (.ref tb), .val (.int (1 : Int32)), .unset, .unset] [])) tg
    refine XS.aload X56.here hx rfl (hb hby at_127) rfl rfl ?_
    exact kg
  obtain ⟨v59, T59, h59, Lc59, X59, e59, hQ59, st59⟩ := own_callV X56 hx hZ36 hown36 (hw _ (List.mem_of_getElem? (i := 53) rfl)) (hw _ (List.mem_of_getElem? (i := 54) rfl)) (notFace_of_selects (args := #[]) (mvT hZ36 (hw _ (List.mem_of_getElem? (i := 56) rfl)))) (hw _ (List.mem_of_getElem? (i := 56) rfl)) (hw _ (List.mem_of_getElem? (i := 55) rfl)) (hw _ (List.mem_of_getElem? (i := 57) rfl)) (hw _ (List.mem_of_getElem? (i := 33) rfl)) (by decide) (rm_tup2 l Z a0 hw [] b45 tb h53 n0 (by omega) fq53_6) e56' fq53_4 (g := (mkF m 129 #[.val (.int p1), .val (.int p2), .val (.int n), .val (.int ar), .val (.ref b6), .val (.ref b33), .val (.ref b45), .val (.ref tb), .val (.int (1 : Int32)), .unset, .unset] [(.ref b45)])) rfl (by rw [hml]; rfl) (argsL := []) (rest := []) rfl (lenOf pd_5 rfl) rfl (W := 0) (by show 2 * 0 + _ ≤ _; exact Nat.le_of_eq rfl) (hb hby at_129) (by decide) (by decide) (by decide) (by decide)
  obtain ⟨rfl, Nq59, hs59⟩ := hQ59
  have N59 := Fr.app N56 Nq59
  have e59' : T59.heap = h53 := e59.trans hs59
  have k60 : Rch p e below (s₁.setTop (entryFrame m #[(.int p1), (.int p2)] maxLocals)) T59 (mkF m 132 #[.val (.int p1), .val (.int p2), .val (.int n), .val (.int ar), .val (.ref b6), .val (.ref b33), .val (.ref b45), .val (.ref tb), .val (.int (1 : Int32)), .unset, .unset] [(.ref tb)]) := fun tg kg => k58 tg (st59 tg kg)
  have k61 : Rch p e below (s₁.setTop (entryFrame m #[(.int p1), (.int p2)] maxLocals)) T59 (mkF m 137 #[.val (.int p1), .val (.int p2), .val (.int n), .val (.int ar), .val (.ref b6), .val (.ref b33), .val (.ref b45), .val (.ref tb), .val (.int (1 : Int32)), .val (.ref tb), .unset] [(.int n), (.ref tb)]) := fun tg kg => by
    refine k60 tg ?_
    show Steps p.tables e below (T59.setTop (mkF m 132 #[.val (.int p1), .val (.int p2), .val (.int n), .val (.int ar), .val (.ref b6), .val (.ref b33), .val (.ref b45), .val (.ref tb), .val (.int (1 : Int32)), .unset, .unset] [(.ref tb)])) tg
    refine XS.astore X59.here hx rfl (hb hby at_132) rfl rfl (l' := #[.val (.int p1), .val (.int p2), .val (.int n), .val (.int ar), .val (.ref b6), .val (.ref b33), .val (.ref b45), .val (.ref tb), .val (.int (1 : Int32)), .val (.ref tb), .unset]) rfl ?_
    show Steps p.tables e below (T59.setTop (mkF m 134 #[.val (.int p1), .val (.int p2), .val (.int n), .val (.int ar), .val (.ref b6), .val (.ref b33), .val (.ref b45), .val (.ref tb), .val (.int (1 : Int32)), .val (.ref tb), .unset] [])) tg
    refine XS.aload X59.here hx rfl (hb hby at_134) rfl rfl ?_
    show Steps p.tables e below (T59.setTop (mkF m 136 #[.val (.int p1), .val (.int p2), .val (.int n), .val (.int ar), .val (.ref b6), .val (.ref b33), .val (.ref b45), .val (.ref tb), .val (.int (1 : Int32)), .val (.ref tb), .unset] [(.ref tb)])) tg
    refine XS.iloadN X59.here hx rfl (hb hby at_136) rfl ?_
    exact kg
  obtain ⟨v62, T62, h62, Lc62, X62, e62, hQ62, st62⟩ := own_callS X59 hx hZ36 hown36 (hw _ (List.mem_of_getElem? (i := 60) rfl)) (hw _ (List.mem_of_getElem? (i := 61) rfl)) (hw _ (List.mem_of_getElem? (i := 3) rfl)) (hw _ (List.mem_of_getElem? (i := 62) rfl)) (by decide) (rm_id l Z a0 hw [] tb n tk h53 n0 (by omega) fq53_7) e59' (g := (mkF m 137 #[.val (.int p1), .val (.int p2), .val (.int n), .val (.int ar), .val (.ref b6), .val (.ref b33), .val (.ref b45), .val (.ref tb), .val (.int (1 : Int32)), .val (.ref tb), .unset] [(.int n), (.ref tb)])) rfl (by rw [hml]; rfl) (argsL := [(.ref tb), (.int n)]) (rest := []) rfl (lenOf pd_6 rfl) rfl (W := 0) (by show 2 * 0 + _ ≤ _; exact Nat.le_of_eq rfl) (hb hby at_137) (by decide) (by decide) (by decide) (by decide)
  obtain ⟨rfl, Nq62, hs62⟩ := hQ62
  have N62 := Fr.app N59 Nq62
  have e62' : T62.heap = h53 := e62.trans hs62
  have k63 : Rch p e below (s₁.setTop (entryFrame m #[(.int p1), (.int p2)] maxLocals)) T62 (mkF m 140 #[.val (.int p1), .val (.int p2), .val (.int n), .val (.int ar), .val (.ref b6), .val (.ref b33), .val (.ref b45), .val (.ref tb), .val (.int (1 : Int32)), .val (.ref tb), .unset] [(.int (1 : Int32))]) := fun tg kg => k61 tg (st62 tg kg)
  have k64 : Rch p e below (s₁.setTop (entryFrame m #[(.int p1), (.int p2)] maxLocals)) T62 (mkF m 157 #[.val (.int p1), .val (.int p2), .val (.int n), .val (.int ar), .val (.ref b6), .val (.ref b33), .val (.ref b45), .val (.ref tb), .val (.int (1 : Int32)), .val (.ref tb), .val (.int (1 : Int32))] [(.int (1 : Int32))]) := fun tg kg => by
    refine k63 tg ?_
    show Steps p.tables e below (T62.setTop (mkF m 140 #[.val (.int p1), .val (.int p2), .val (.int n), .val (.int ar), .val (.ref b6), .val (.ref b33), .val (.ref b45), .val (.ref tb), .val (.int (1 : Int32)), .val (.ref tb), .unset] [(.int (1 : Int32))])) tg
    refine XS.istore X62.here hx rfl (hb hby at_140) rfl (l' := #[.val (.int p1), .val (.int p2), .val (.int n), .val (.int ar), .val (.ref b6), .val (.ref b33), .val (.ref b45), .val (.ref tb), .val (.int (1 : Int32)), .val (.ref tb), .val (.int (1 : Int32))]) rfl ?_
    show Steps p.tables e below (T62.setTop (mkF m 142 #[.val (.int p1), .val (.int p2), .val (.int n), .val (.int ar), .val (.ref b6), .val (.ref b33), .val (.ref b45), .val (.ref tb), .val (.int (1 : Int32)), .val (.ref tb), .val (.int (1 : Int32))] [])) tg
    refine XS.iload X62.here hx rfl (hb hby at_142) rfl ?_
    show Steps p.tables e below (T62.setTop (mkF m 144 #[.val (.int p1), .val (.int p2), .val (.int n), .val (.int ar), .val (.ref b6), .val (.ref b33), .val (.ref b45), .val (.ref tb), .val (.int (1 : Int32)), .val (.ref tb), .val (.int (1 : Int32))] [(.int (1 : Int32))])) tg
    refine XS.ifNo X62.here hx rfl (hb hby at_144) rfl ((if0 _ _).trans (feq (by decide)).1) ?_
    show Steps p.tables e below (T62.setTop (mkF m 147 #[.val (.int p1), .val (.int p2), .val (.int n), .val (.int ar), .val (.ref b6), .val (.ref b33), .val (.ref b45), .val (.ref tb), .val (.int (1 : Int32)), .val (.ref tb), .val (.int (1 : Int32))] [])) tg
    refine XS.iload X62.here hx rfl (hb hby at_147) rfl ?_
    show Steps p.tables e below (T62.setTop (mkF m 149 #[.val (.int p1), .val (.int p2), .val (.int n), .val (.int ar), .val (.ref b6), .val (.ref b33), .val (.ref b45), .val (.ref tb), .val (.int (1 : Int32)), .val (.ref tb), .val (.int (1 : Int32))] [(.int (1 : Int32))])) tg
    refine XS.ifNo X62.here hx rfl (hb hby at_149) rfl ((if0 _ _).trans (feq (by decide)).1) ?_
    show Steps p.tables e below (T62.setTop (mkF m 152 #[.val (.int p1), .val (.int p2), .val (.int n), .val (.int ar), .val (.ref b6), .val (.ref b33), .val (.ref b45), .val (.ref tb), .val (.int (1 : Int32)), .val (.ref tb), .val (.int (1 : Int32))] [])) tg
    refine XS.iconst X62.here hx rfl (hb hby at_152) ?_
    show Steps p.tables e below (T62.setTop (mkF m 153 #[.val (.int p1), .val (.int p2), .val (.int n), .val (.int ar), .val (.ref b6), .val (.ref b33), .val (.ref b45), .val (.ref tb), .val (.int (1 : Int32)), .val (.ref tb), .val (.int (1 : Int32))] [(.int (1 : Int32))])) tg
    refine XS.goto X62.here hx rfl (pc0 := 153) (pc' := 157) rfl (hb hby at_153) (by decide) (by decide) ?_
    exact kg
  obtain ⟨fs65, hr65, hrun65, hended65, hEnd65⟩ := X62.leaveW hS36 (by rw [e62']; first | exact Nat.le_refl _ | omega) (v := some (.int (nar .boolean (1 : Int32)))) (fun h => by rw [Bd.returns] at h; cases h)
  refine ⟨_, _, k64 _ ?_, hrun65, hended65, _, _, rfl, ?_, hEnd65.1, hEnd65.2.1, hEnd65.2.2.1, hEnd65.2.2.2.mono (by decide) (by decide)⟩
  · exact retN X62 hx (t := .boolean) Bd.returns (by simp) (hb hby at_157) hr65
  · show Q_rm0 Z p1 p2 h0 n0 _ T62.heap _
    rw [e62']
    exact ⟨rfl, N62⟩
set_option maxRecDepth 65536 in
set_option maxHeartbeats 40000000 in
theorem comes_1 {Post : Tables → Env → Array Value → State → Outcome → State → Prop} (hpost : ∀ tb e args s v u, (limb_1_1.after args s (.returned v) u = true ∧ limb_1_2.after args s (.returned v) u = true ∧ True) → ReturnedEndW s (.returned v) u (Jvm.fieldLocs frame_1_writes args s ++ Jvm.arrayLocs frame_1_arrays args s ++ Jvm.staticLocs frame_1_statics s) 24 1152 → Post tb e args s (.returned v) u) :
    ArmFor flags0 classFile x code maxLocals ret World_1 tables_1 room_1 Calls_1 rest_1 Pre_1 Post := by
  intro l hfl _ _ p e ha hc hk s m args below hf hA hF happ hP
  obtain ⟨hcalls, hrest, hpre⟩ := hP
  obtain ⟨-, -, -, hnamed, -, -, -, hat⟩ := (Spec.applies_iff hf).mp happ
  obtain ⟨hg, hn⟩ := and_e (Cond.before_iff.mp (show (Jvm.Cond.and given_1 narrow_1).before args s = true from hpre))
  obtain ⟨g1, g2⟩ := and_e hg
  obtain ⟨g3, g4⟩ := and_e g2
  obtain ⟨w0, w1, rfl⟩ : ∃ w0 w1 : Value, args = #[w0, w1] := by
    have hs : args.size = 2 := by simpa [Cond.value, given_1] using g1
    obtain ⟨L⟩ := args
    match L, hs with
    | [w0, w1], _ => exact ⟨w0, w1, rfl⟩
  have hw := fun d (hd : d ∈ tables_1) => atoms_spec (ws := Jvm.Cond.code x code maxLocals ret :: tables_1) hat d (List.mem_cons_of_mem _ hd)
  have hfit : Fit s := fun {y c} hc i hi => by
    obtain ⟨ha, rfl⟩ := Array.getElem?_eq_some_iff.mp hc
    have q := List.all_eq_true.mp ((Array.all_eq_true_iff_forall_mem.mp hF) _ (Array.getElem_mem ha)) i (List.mem_range.mpr hi)
    simpa [Array.getElem?_eq_getElem hi] using q
  obtain ⟨i0, ei0⟩ := is_v g3
  obtain rfl : w0 = (.int i0) := Option.some.inj ei0
  obtain ⟨i1, ei1⟩ := is_v g4
  obtain rfl : w1 = (.int i1) := Option.some.inj ei1
  obtain ⟨n, o, h1, h2, h3, _, L, rfl, ⟨rfl, N⟩, hq⟩ := rm0 l s _ hw tables_1 i0 i1 s.heap s.heap.size (Nat.le_refl _)  p e ha hc hk s m _ below hf ((Spec.applies_iff_loose hf).mp happ).1 ⟨rfl, State.Warmed39.refl s, rfl⟩ trivial
  refine ⟨n, _, h1, h2, h3, hpost _ _ _ _ _ _ ⟨Cond.after_iff.mpr rfl, Cond.after_iff.mpr (eq_i res_at (Term.int_eval (1)) rfl), trivial⟩ ⟨hq.1, hq.2.1, hq.2.2.1, (hq.2.2.2.sift fun y hy => Or.inr (N y hy)).mono (by decide) (by decide)⟩⟩
theorem main_1_1 : Claimed_1_1 := comes_1 fun _ _ _ _ _ _ h hF => ⟨h.1, hF⟩
theorem main_1_2 : Claimed_1_2 := comes_1 fun _ _ _ _ _ _ h hF => ⟨h.2.1, hF⟩
end Jvm.Pilot.@@N@@
namespace Jvm.Pilot.@@N@@
open Jvm Jvm.ClassFile Sem Op Lib Jvm.Free Jvm.Stand Jvm.Pilot.@@N@@.Jvm.D
/-! MADE BY PROGRAM (witnessworld.py) out of the Statement's table words and the real class files: 16 classes; the members and pool entries that the words name. The judged class is class 1, her method 1. -/
namespace start1
open Jvm.ClassFile
def u (s : String) : CpInfo := .utf8 (stringToUtf16 s)
/-- a pool by its gaps: so many unusable entries, then the entry; so many at the end -/
def gap : Nat → List CpInfo → List CpInfo
  | 0, r => r
  | n + 1, r => .unusable :: gap n r
def poolList (es : List (Nat × CpInfo)) (last : Nat) : List CpInfo := es.foldr (fun e r => gap e.1 (e.2 :: r)) (gap last [])
def pool (es : List (Nat × CpInfo)) (last : Nat) : Array CpInfo := ⟨poolList es last⟩
def fileOf (pool : Array CpInfo) (this : Nat) (attrs : Array Attribute := #[]) (ms : Array MethodInfo := #[]) (fl : Nat := 33) (sup : Nat := 0) (ifs : Array Nat := #[]) (fds : Array FieldInfo := #[]) : ClassFile where
  minorVersion := 0
  majorVersion := 65
  constantPool := pool
  accessFlags := fl
  thisClass := this
  superClass := sup
  interfaces := ifs
  fields := fds
  methods := ms
  attributes := attrs
def plain (name : String) (sup : Option ClassId) : Class where
  name := name
  kind := .ordinary
  loader := none
  accessFlags := 33
  super := sup
  interfaces := #[]
  cf := none
  fields := #[]
  methods := #[]
  instanceTypes := #[]
  staticTypes := #[]
  resolved := #[]
  callSites := []
  init := .initialized
  statics := none
  mirror := none

def pool0 : Array CpInfo := pool [(5, u "<init>"), (0, u "()V"), (1, .class_ 10), (1, u "java/lang/Object")] 113

def k0c0 : Code := { maxStack := 0, maxLocals := 1, code := object_method_1_code, exceptionTable := #[], attributes := #[] }
def k0m0 : Method := { name := "<init>", desc := "()V", sig := { parameters := [], returnType := none }, accessFlags := 1, code := some k0c0 }
/-- java/lang/Object -/
def k0 : Class := { plain "java/lang/Object" none with
  accessFlags := 33
  interfaces := #[]
  cf := some (fileOf pool0 8 #[] #[{ accessFlags := 1, nameIndex := 5, descriptorIndex := 6, attributes := #[] }] 33 0 #[] #[])
  fields := #[]
  methods := #[k0m0]
  instanceTypes := #[]
  staticTypes := #[]
  resolved := Array.replicate 124 none
  statics := none }

def pool1 : Array CpInfo := pool [(2, .class_ 4), (1, u "java/lang/Object"), (0, u "<init>"), (0, u "()V"), (0, .methodref 8 9), (0, .class_ 10), (0, .nameAndType 11 12), (0, u "com/example/clause_search/clausesearch/RelationTuplesPinLaw"), (0, u "put"), (0, u "([IIII)V"), (0, .class_ 14), (0, u "com/example/clause_search/clausesearch/Predicate"), (0, .string 16), (0, u "p"), (0, .methodref 13 18), (0, .nameAndType 5 19), (0, u "(Ljava/lang/String;I)V"), (0, .class_ 21), (0, u "com/example/clause_search/clausesearch/Relation"), (0, .methodref 20 23), (0, .nameAndType 5 24), (0, u "(Lcom/example/clause_search/clausesearch/Predicate;I[II)V"), (0, .methodref 20 26), (0, .nameAndType 27 28), (0, u "tuples"), (0, u "()[I"), (0, .methodref 8 30), (0, .nameAndType 31 32), (0, u "isIdentity"), (0, u "([II)Z"), (2, u "law"), (0, u "(II)Z")] 5

def k1m0 : Method := { name := "<init>", desc := "()V", sig := { parameters := [], returnType := none }, accessFlags := 2, code := none }
def k1c1 : Code := { maxStack := 6, maxLocals := 11, code := code, exceptionTable := #[], attributes := #[] }
def k1m1 : Method := { name := "law", desc := "(II)Z", sig := { parameters := [.int, .int], returnType := some .boolean }, accessFlags := 9, code := some k1c1 }
def k1c2 : Code := { maxStack := 3, maxLocals := 4, code := method_3_code, exceptionTable := #[], attributes := #[] }
def k1m2 : Method := { name := "put", desc := "([IIII)V", sig := { parameters := [(.array .int), .int, .int, .int], returnType := none }, accessFlags := 10, code := some k1c2 }
def k1c3 : Code := { maxStack := 2, maxLocals := 3, code := method_4_code, exceptionTable := #[], attributes := #[] }
def k1m3 : Method := { name := "isIdentity", desc := "([II)Z", sig := { parameters := [(.array .int), .int], returnType := some .boolean }, accessFlags := 10, code := some k1c3 }
/-- com/example/clause_search/clausesearch/RelationTuplesPinLaw -/
def k1 : Class := { plain "com/example/clause_search/clausesearch/RelationTuplesPinLaw" (some 0) with
  accessFlags := 49
  interfaces := #[]
  cf := some (fileOf pool1 8 #[] #[{ accessFlags := 2, nameIndex := 5, descriptorIndex := 6, attributes := #[] }, { accessFlags := 9, nameIndex := 35, descriptorIndex := 36, attributes := #[] }, { accessFlags := 10, nameIndex := 11, descriptorIndex := 12, attributes := #[] }, { accessFlags := 10, nameIndex := 31, descriptorIndex := 32, attributes := #[] }] 49 2 #[] #[])
  fields := #[]
  methods := #[k1m0, k1m1, k1m2, k1m3]
  instanceTypes := #[]
  staticTypes := #[]
  resolved := Array.replicate 42 none
  statics := none }

def pool2 : Array CpInfo := pool [(1, .methodref 2 3), (0, .class_ 4), (0, .nameAndType 5 6), (0, u "java/lang/Object"), (0, u "<init>"), (0, u "()V"), (0, .class_ 8), (0, u "java/lang/Record")] 13

def k2c0 : Code := { maxStack := 1, maxLocals := 1, code := jdk_30_method_1_code, exceptionTable := #[], attributes := #[] }
def k2m0 : Method := { name := "<init>", desc := "()V", sig := { parameters := [], returnType := none }, accessFlags := 4, code := some k2c0 }
/-- java/lang/Record -/
def k2 : Class := { plain "java/lang/Record" (some 0) with
  accessFlags := 1057
  interfaces := #[]
  cf := some (fileOf pool2 7 #[] #[{ accessFlags := 4, nameIndex := 5, descriptorIndex := 6, attributes := #[] }] 1057 2 #[] #[])
  fields := #[]
  methods := #[k2m0]
  instanceTypes := #[]
  staticTypes := #[]
  resolved := Array.replicate 22 none
  statics := none }

def pool3 : Array CpInfo := pool [(1, .methodref 2 3), (0, .class_ 4), (0, .nameAndType 5 6), (0, u "java/lang/Record"), (0, u "<init>"), (0, u "()V"), (0, .fieldref 8 9), (0, .class_ 10), (0, .nameAndType 11 12), (0, u "com/example/clause_search/clausesearch/Predicate"), (0, u "name"), (0, u "Ljava/lang/String;"), (0, .fieldref 8 14), (0, .nameAndType 15 16), (0, u "arity"), (0, u "I"), (15, u "()I"), (2, u "(Ljava/lang/String;I)V"), (11, u "NUMBERS"), (0, u "Ljava/util/Map;")] 62

def k3c0 : Code := { maxStack := 2, maxLocals := 3, code := prog_27_method_1_code, exceptionTable := #[], attributes := #[] }
def k3m0 : Method := { name := "<init>", desc := "(Ljava/lang/String;I)V", sig := { parameters := [(.object "java/lang/String"), .int], returnType := none }, accessFlags := 0, code := some k3c0 }
def k3c1 : Code := { maxStack := 1, maxLocals := 1, code := prog_27_method_8_code, exceptionTable := #[], attributes := #[] }
def k3m1 : Method := { name := "arity", desc := "()I", sig := { parameters := [], returnType := some .int }, accessFlags := 1, code := some k3c1 }
/-- com/example/clause_search/clausesearch/Predicate -/
def k3 : Class := { plain "com/example/clause_search/clausesearch/Predicate" (some 2) with
  accessFlags := 48
  interfaces := #[]
  cf := some (fileOf pool3 8 #[] #[{ accessFlags := 0, nameIndex := 5, descriptorIndex := 35, attributes := #[] }, { accessFlags := 1, nameIndex := 15, descriptorIndex := 32, attributes := #[] }] 48 2 #[] #[{ accessFlags := 18, nameIndex := 11, descriptorIndex := 12, attributes := #[] }, { accessFlags := 18, nameIndex := 15, descriptorIndex := 16, attributes := #[] }, { accessFlags := 26, nameIndex := 47, descriptorIndex := 48, attributes := #[] }])
  fields := #[{ name := "name", type := (.object "java/lang/String"), accessFlags := 18, slot := 0, constantValue := 0 }, { name := "arity", type := .int, accessFlags := 18, slot := 1, constantValue := 0 }, { name := "NUMBERS", type := (.object "java/util/Map"), accessFlags := 26, slot := 0, constantValue := 0 }]
  methods := #[k3m0, k3m1]
  instanceTypes := #[(.object "java/lang/String"), .int]
  staticTypes := #[(.object "java/util/Map")]
  resolved := Array.replicate 111 none
  statics := none }

def pool4 : Array CpInfo := pool [(1, .class_ 2), (0, u "java/io/Serializable"), (0, .class_ 4), (0, u "java/lang/Object")] 2

/-- java/io/Serializable -/
def k4 : Class := { plain "java/io/Serializable" (some 0) with
  accessFlags := 1537
  interfaces := #[]
  cf := some (fileOf pool4 1 #[] #[] 1537 3 #[] #[])
  fields := #[]
  methods := #[]
  instanceTypes := #[]
  staticTypes := #[]
  resolved := Array.replicate 7 none
  statics := none }

def pool5 : Array CpInfo := pool [(1, .class_ 2), (0, u "java/lang/Comparable"), (0, .class_ 4), (0, u "java/lang/Object")] 7

/-- java/lang/Comparable -/
def k5 : Class := { plain "java/lang/Comparable" (some 0) with
  accessFlags := 1537
  interfaces := #[]
  cf := some (fileOf pool5 1 #[] #[] 1537 3 #[] #[])
  fields := #[]
  methods := #[]
  instanceTypes := #[]
  staticTypes := #[]
  resolved := Array.replicate 12 none
  statics := none }

def pool6 : Array CpInfo := pool [(2, .class_ 4), (1, u "java/lang/CharSequence"), (42, .class_ 48), (0, u "java/lang/CharSequence$1CodePointIterator"), (10, .class_ 60), (0, u "java/lang/CharSequence$1CharIterator"), (5, .class_ 67), (0, u "java/lang/Object")] 63

/-- java/lang/CharSequence -/
def k6 : Class := { plain "java/lang/CharSequence" (some 0) with
  accessFlags := 1537
  interfaces := #[]
  cf := some (fileOf pool6 2 #[.nestMembers #[47, 59]] #[] 1537 66 #[] #[])
  fields := #[]
  methods := #[]
  instanceTypes := #[]
  staticTypes := #[]
  resolved := Array.replicate 131 none
  statics := none }

def pool7 : Array CpInfo := pool [(1, .class_ 2), (0, u "java/lang/constant/Constable"), (0, .class_ 4), (0, u "java/lang/Object")] 6

/-- java/lang/constant/Constable -/
def k7 : Class := { plain "java/lang/constant/Constable" (some 0) with
  accessFlags := 1537
  interfaces := #[]
  cf := some (fileOf pool7 1 #[] #[] 1537 3 #[] #[])
  fields := #[]
  methods := #[]
  instanceTypes := #[]
  staticTypes := #[]
  resolved := Array.replicate 11 none
  statics := none }

def pool8 : Array CpInfo := pool [(1, .class_ 2), (0, u "java/lang/constant/ConstantDesc"), (0, .class_ 4), (0, u "java/lang/Object")] 32

/-- java/lang/constant/ConstantDesc -/
def k8 : Class := { plain "java/lang/constant/ConstantDesc" (some 0) with
  accessFlags := 1537
  interfaces := #[]
  cf := some (fileOf pool8 1 #[] #[] 1537 3 #[] #[])
  fields := #[]
  methods := #[]
  instanceTypes := #[]
  staticTypes := #[]
  resolved := Array.replicate 37 none
  statics := none }

def pool9 : Array CpInfo := pool [(2, .class_ 4), (1, u "java/lang/Object"), (0, u "<init>"), (0, u "()V"), (3, .class_ 12), (1, u "java/lang/String"), (0, u "value"), (0, u "[B"), (2, u "coder"), (0, u "B"), (2, u "hash"), (0, u "I"), (2, u "hashIsZero"), (0, u "Z"), (13, u "COMPACT_STRINGS"), (534, .class_ 576), (0, u "java/lang/CharSequence"), (22, u "CASE_INSENSITIVE_ORDER"), (0, u "Ljava/util/Comparator;"), (500, u "serialPersistentFields"), (0, u "[Ljava/io/ObjectStreamField;"), (0, .class_ 1104), (0, u "java/lang/String$CaseInsensitiveComparator"), (1, .class_ 1107), (0, u "java/io/Serializable"), (0, .class_ 1109), (0, u "java/lang/Comparable"), (0, .class_ 1111), (0, u "java/lang/constant/Constable"), (0, .class_ 1113), (0, u "java/lang/constant/ConstantDesc"), (2, u "serialVersionUID"), (0, u "J"), (3, u "REPL"), (0, u "C"), (2, u "LATIN1"), (1, u "UTF16")] 323

def k9m0 : Method := { name := "<init>", desc := "()V", sig := { parameters := [], returnType := none }, accessFlags := 1, code := none }
/-- java/lang/String -/
def k9 : Class := { plain "java/lang/String" (some 0) with
  accessFlags := 49
  interfaces := #[4, 5, 6, 7, 8]
  cf := some (fileOf pool9 10 #[.nestMembers #[1103]] #[{ accessFlags := 1, nameIndex := 5, descriptorIndex := 6, attributes := #[] }] 49 2 #[1106, 1108, 575, 1110, 1112] #[{ accessFlags := 18, nameIndex := 13, descriptorIndex := 14, attributes := #[] }, { accessFlags := 18, nameIndex := 17, descriptorIndex := 18, attributes := #[] }, { accessFlags := 2, nameIndex := 21, descriptorIndex := 22, attributes := #[] }, { accessFlags := 2, nameIndex := 25, descriptorIndex := 26, attributes := #[] }, { accessFlags := 26, nameIndex := 1116, descriptorIndex := 1117, attributes := #[] }, { accessFlags := 24, nameIndex := 40, descriptorIndex := 26, attributes := #[] }, { accessFlags := 26, nameIndex := 1101, descriptorIndex := 1102, attributes := #[] }, { accessFlags := 26, nameIndex := 1121, descriptorIndex := 1122, attributes := #[] }, { accessFlags := 25, nameIndex := 599, descriptorIndex := 600, attributes := #[] }, { accessFlags := 24, nameIndex := 1125, descriptorIndex := 18, attributes := #[] }, { accessFlags := 24, nameIndex := 1127, descriptorIndex := 18, attributes := #[] }])
  fields := #[{ name := "value", type := (.array .byte), accessFlags := 18, slot := 0, constantValue := 0 }, { name := "coder", type := .byte, accessFlags := 18, slot := 1, constantValue := 0 }, { name := "hash", type := .int, accessFlags := 2, slot := 2, constantValue := 0 }, { name := "hashIsZero", type := .boolean, accessFlags := 2, slot := 3, constantValue := 0 }, { name := "serialVersionUID", type := .long, accessFlags := 26, slot := 0, constantValue := 0 }, { name := "COMPACT_STRINGS", type := .boolean, accessFlags := 24, slot := 1, constantValue := 0 }, { name := "serialPersistentFields", type := (.array (.object "java/io/ObjectStreamField")), accessFlags := 26, slot := 2, constantValue := 0 }, { name := "REPL", type := .char, accessFlags := 26, slot := 3, constantValue := 0 }, { name := "CASE_INSENSITIVE_ORDER", type := (.object "java/util/Comparator"), accessFlags := 25, slot := 4, constantValue := 0 }, { name := "LATIN1", type := .byte, accessFlags := 24, slot := 5, constantValue := 0 }, { name := "UTF16", type := .byte, accessFlags := 24, slot := 6, constantValue := 0 }]
  methods := #[k9m0]
  instanceTypes := #[(.array .byte), .byte, .int, .boolean]
  staticTypes := #[.long, .boolean, (.array (.object "java/io/ObjectStreamField")), .char, (.object "java/util/Comparator"), .byte, .byte]
  resolved := Array.replicate 1451 none
  statics := none }

def pool10 : Array CpInfo := pool [(1, .methodref 2 3), (0, .class_ 4), (0, .nameAndType 5 6), (0, u "java/lang/Object"), (0, u "<init>"), (0, u "()V"), (0, .fieldref 8 9), (0, .class_ 10), (0, .nameAndType 11 12), (0, u "com/example/clause_search/clausesearch/Relation"), (0, u "predicate"), (0, u "Lcom/example/clause_search/clausesearch/Predicate;"), (0, .methodref 14 15), (0, .class_ 16), (0, .nameAndType 17 18), (0, u "com/example/clause_search/clausesearch/Predicate"), (0, u "arity"), (0, u "()I"), (0, .fieldref 8 20), (0, .nameAndType 17 21), (0, u "I"), (0, .fieldref 8 23), (0, .nameAndType 24 21), (0, u "size"), (0, .fieldref 8 26), (0, .nameAndType 27 28), (0, u "values"), (0, u "[I"), (0, .fieldref 8 30), (0, .nameAndType 31 21), (0, u "constantCount"), (76, u "(Lcom/example/clause_search/clausesearch/Predicate;I[II)V"), (4, .fieldref 8 114), (0, .nameAndType 115 28), (0, u "all"), (2, u "byPosition"), (0, u "[[[I"), (8, u "NONE"), (2, u "tuples"), (0, u "()[I")] 53

def k10c0 : Code := { maxStack := 2, maxLocals := 5, code := prog_34_method_1_code, exceptionTable := #[], attributes := #[] }
def k10m0 : Method := { name := "<init>", desc := "(Lcom/example/clause_search/clausesearch/Predicate;I[II)V", sig := { parameters := [(.object "com/example/clause_search/clausesearch/Predicate"), .int, (.array .int), .int], returnType := none }, accessFlags := 0, code := some k10c0 }
def k10c1 : Code := { maxStack := 3, maxLocals := 3, code := prog_34_method_5_code, exceptionTable := #[], attributes := #[] }
def k10m1 : Method := { name := "tuples", desc := "()[I", sig := { parameters := [], returnType := some (.array .int) }, accessFlags := 0, code := some k10c1 }
/-- com/example/clause_search/clausesearch/Relation -/
def k10 : Class := { plain "com/example/clause_search/clausesearch/Relation" (some 0) with
  accessFlags := 32
  interfaces := #[]
  cf := some (fileOf pool10 8 #[] #[{ accessFlags := 0, nameIndex := 5, descriptorIndex := 108, attributes := #[] }, { accessFlags := 0, nameIndex := 131, descriptorIndex := 132, attributes := #[] }] 32 2 #[] #[{ accessFlags := 26, nameIndex := 128, descriptorIndex := 28, attributes := #[] }, { accessFlags := 18, nameIndex := 11, descriptorIndex := 12, attributes := #[] }, { accessFlags := 18, nameIndex := 17, descriptorIndex := 21, attributes := #[] }, { accessFlags := 18, nameIndex := 24, descriptorIndex := 21, attributes := #[] }, { accessFlags := 18, nameIndex := 27, descriptorIndex := 28, attributes := #[] }, { accessFlags := 18, nameIndex := 31, descriptorIndex := 21, attributes := #[] }, { accessFlags := 66, nameIndex := 115, descriptorIndex := 28, attributes := #[] }, { accessFlags := 66, nameIndex := 118, descriptorIndex := 119, attributes := #[] }])
  fields := #[{ name := "NONE", type := (.array .int), accessFlags := 26, slot := 0, constantValue := 0 }, { name := "predicate", type := (.object "com/example/clause_search/clausesearch/Predicate"), accessFlags := 18, slot := 0, constantValue := 0 }, { name := "arity", type := .int, accessFlags := 18, slot := 1, constantValue := 0 }, { name := "size", type := .int, accessFlags := 18, slot := 2, constantValue := 0 }, { name := "values", type := (.array .int), accessFlags := 18, slot := 3, constantValue := 0 }, { name := "constantCount", type := .int, accessFlags := 18, slot := 4, constantValue := 0 }, { name := "all", type := (.array .int), accessFlags := 66, slot := 5, constantValue := 0 }, { name := "byPosition", type := (.array (.array (.array .int))), accessFlags := 66, slot := 6, constantValue := 0 }]
  methods := #[k10m0, k10m1]
  instanceTypes := #[(.object "com/example/clause_search/clausesearch/Predicate"), .int, .int, (.array .int), .int, (.array .int), (.array (.array (.array .int)))]
  staticTypes := #[(.array .int)]
  resolved := Array.replicate 186 none
  statics := none }

def pool11 : Array CpInfo := pool [(1, u "java/lang/Cloneable"), (0, .class_ 1), (0, u "java/lang/Object"), (0, .class_ 3)] 3

/-- java/lang/Cloneable -/
def k11 : Class := { plain "java/lang/Cloneable" (some 0) with
  accessFlags := 1537
  interfaces := #[]
  cf := some (fileOf pool11 2 #[] #[] 1537 4 #[] #[])
  fields := #[]
  methods := #[]
  instanceTypes := #[]
  staticTypes := #[]
  resolved := Array.replicate 8 none
  statics := none }

/-- the primitive byte -/
def k12 : Class := { plain "byte" none with kind := .primitive 'B', accessFlags := 0x411 }
/-- [B -/
def k13 : Class := { plain "[B" (some 0) with kind := .array 12 .byte, interfaces := #[11, 4], accessFlags := 1041 }

/-- the primitive int -/
def k14 : Class := { plain "int" none with kind := .primitive 'I', accessFlags := 0x411 }
/-- [I -/
def k15 : Class := { plain "[I" (some 0) with kind := .array 14 .int, interfaces := #[11, 4], accessFlags := 1041 }

def heap : Heap := #[]
def classes : Array Class := #[k0, k1, k2, k3, k4, k5, k6, k7, k8, k9, k10, k11, k12, k13, k14, k15]
def interned : List (Array UInt16 × Addr) := []
def slotsUsed : Nat := 0
def theMethod : MethodId := ⟨1, 1⟩
def args0 : Array Value := #[.int 5, .int 1]
def aboutOver (below : List Frame) : State where
  vm := { classes := classes, interned := interned.toArray }
  heap := heap
  slotsUsed := slotsUsed
  threads := #[{ frames := .invoking theMethod args0 :: below }]
def below0 : List Frame := [.native { method := ⟨0, 0⟩, args := #[] }]
def about1 : State := aboutOver below0
def p0 : Program := .bare "" "" ""
def e0 : Env := launch0.env 0 0 0
theorem w_frames : about1.frames = Frame.invoking theMethod args0 :: below0 := rfl
set_option maxRecDepth 65536 in
theorem w_args : argsFit about1.vm theMethod args0 = true := by decide +kernel
set_option maxRecDepth 65536 in
theorem w_heap : heapFits about1 = true := by decide +kernel
set_option maxRecDepth 65536 in
theorem w_runnable : about1.curStatus? = some .runnable := by decide +kernel
set_option maxRecDepth 65536 in
theorem w_alone : about1.alone = true := by decide +kernel
set_option maxRecDepth 65536 in
theorem w_named : about1.methodNamed? x = some theMethod := by decide +kernel
set_option maxRecDepth 65536 in
theorem w_hears : about1.hears theMethod below0 = true := by decide +kernel
set_option maxRecDepth 65536 in
theorem w_ripe : about1.ripe theMethod args0 below0 = true := by decide +kernel
theorem w_running : about1.status = .running := rfl
set_option maxRecDepth 65536 in
theorem w_room : about1.hasRoom e0.platform room_1 = true :=
  launch0.hasRoom_least _ room_1 (by decide +kernel) (by decide +kernel) (by decide +kernel) (by decide +kernel) (by decide +kernel) (by decide +kernel)
theorem allAtoms_all (ts : List Jvm.Cond) (a : Array Jvm.Value) (st : Jvm.State) : (allAtoms ts).before a st = ts.all (fun c => c.before a st) := by
  induction ts with
  | nil => rfl
  | cons c t ih =>
    show (Jvm.Cond.and c (allAtoms t)).before a st = _
    rw [Jvm.Cond.before_and, ih, List.all_cons]
def words1 : List Jvm.Cond := Jvm.Cond.code x code maxLocals ret :: tables_1
/-- a 'code' word, met by the world's own term for the bytes: nothing is compared byte by byte -/
theorem code_word {y : MethodName} {bytes : ByteArray} {mx : Nat} {rt : Option FieldType} {a : Array Value} {s : State} {m : MethodId} {meth : Method} {c : Code} (h1 : s.methodNamed? y = some m) (h2 : s.vm.method? m = some meth) (h3 : meth.code = some c) (h4 : c.code = bytes)
    (h5 : (c.maxLocals == mx && c.exceptionTable.isEmpty && decide (c.maxStack ≤ mostOperands) && decide (meth.sig.returnType = rt) && !meth.locks && decide (parseMethodDescriptor y.desc = some meth.sig)) = true) : (Jvm.Cond.code y bytes mx rt).before a s = true := by
  simp only [Bool.and_eq_true, beq_iff_eq, Bool.not_eq_true', decide_eq_true_eq] at h5
  obtain ⟨⟨⟨⟨⟨g1, g2⟩, g3⟩, g4⟩, g5⟩, g6⟩ := h5
  simp [Cond.before, Cond.holds, Cond.value, h1, h2, h3, h4, g1, g2, g3, g4, g5, g6]
def isCode : Jvm.Cond → Bool
  | .code _ _ _ _ => true
  | _ => false
theorem all_split {L : List Jvm.Cond} {P : Jvm.Cond → Bool} (h1 : L.all (fun c => isCode c || P c) = true) (h2 : ∀ c ∈ L.filter isCode, P c = true) : L.all P = true := by
  refine List.all_eq_true.mpr fun c hc => ?_
  have h := List.all_eq_true.mp h1 c hc
  rcases Bool.eq_false_or_eq_true (isCode c) with hi | hi
  · exact h2 c (List.mem_filter.mpr ⟨hc, hi⟩)
  · simpa [hi] using h
set_option maxRecDepth 65536 in
theorem w_c0 : (Jvm.Cond.code x code maxLocals ret).before args0 about1 = true := code_word (m := ⟨1, 1⟩) (meth := k1m1) (c := k1c1) (by decide +kernel) rfl rfl rfl (by decide +kernel)
set_option maxRecDepth 65536 in
theorem w_c1 : (Jvm.Cond.code ({ cls := "com/example/clause_search/clausesearch/RelationTuplesPinLaw", name := "put", desc := "([IIII)V" } : Jvm.MethodName) method_3_code (4 : Nat) (Option.none : Option Jvm.ClassFile.FieldType)).before args0 about1 = true := code_word (m := ⟨1, 2⟩) (meth := k1m2) (c := k1c2) (by decide +kernel) rfl rfl rfl (by decide +kernel)
set_option maxRecDepth 65536 in
theorem w_c2 : (Jvm.Cond.code ({ cls := "com/example/clause_search/clausesearch/Predicate", name := "<init>", desc := "(Ljava/lang/String;I)V" } : Jvm.MethodName) prog_27_method_1_code (3 : Nat) (Option.none : Option Jvm.ClassFile.FieldType)).before args0 about1 = true := code_word (m := ⟨3, 0⟩) (meth := k3m0) (c := k3c0) (by decide +kernel) rfl rfl rfl (by decide +kernel)
set_option maxRecDepth 65536 in
theorem w_c3 : (Jvm.Cond.code ({ cls := "java/lang/Record", name := "<init>", desc := "()V" } : Jvm.MethodName) jdk_30_method_1_code (1 : Nat) (Option.none : Option Jvm.ClassFile.FieldType)).before args0 about1 = true := code_word (m := ⟨2, 0⟩) (meth := k2m0) (c := k2c0) (by decide +kernel) rfl rfl rfl (by decide +kernel)
set_option maxRecDepth 65536 in
theorem w_c4 : (Jvm.Cond.code ({ cls := "java/lang/Object", name := "<init>", desc := "()V" } : Jvm.MethodName) object_method_1_code (1 : Nat) (Option.none : Option Jvm.ClassFile.FieldType)).before args0 about1 = true := code_word (m := ⟨0, 0⟩) (meth := k0m0) (c := k0c0) (by decide +kernel) rfl rfl rfl (by decide +kernel)
set_option maxRecDepth 65536 in
theorem w_c5 : (Jvm.Cond.code ({ cls := "com/example/clause_search/clausesearch/Relation", name := "<init>", desc := "(Lcom/example/clause_search/clausesearch/Predicate;I[II)V" } : Jvm.MethodName) prog_34_method_1_code (5 : Nat) (Option.none : Option Jvm.ClassFile.FieldType)).before args0 about1 = true := code_word (m := ⟨10, 0⟩) (meth := k10m0) (c := k10c0) (by decide +kernel) rfl rfl rfl (by decide +kernel)
set_option maxRecDepth 65536 in
theorem w_c6 : (Jvm.Cond.code ({ cls := "com/example/clause_search/clausesearch/Predicate", name := "arity", desc := "()I" } : Jvm.MethodName) prog_27_method_8_code (1 : Nat) (Option.some Jvm.ClassFile.FieldType.int)).before args0 about1 = true := code_word (m := ⟨3, 1⟩) (meth := k3m1) (c := k3c1) (by decide +kernel) rfl rfl rfl (by decide +kernel)
set_option maxRecDepth 65536 in
theorem w_c7 : (Jvm.Cond.code ({ cls := "com/example/clause_search/clausesearch/Relation", name := "tuples", desc := "()[I" } : Jvm.MethodName) prog_34_method_5_code (3 : Nat) (Option.some (Jvm.ClassFile.FieldType.array Jvm.ClassFile.FieldType.int))).before args0 about1 = true := code_word (m := ⟨10, 1⟩) (meth := k10m1) (c := k10c1) (by decide +kernel) rfl rfl rfl (by decide +kernel)
set_option maxRecDepth 65536 in
theorem w_c8 : (Jvm.Cond.code ({ cls := "com/example/clause_search/clausesearch/RelationTuplesPinLaw", name := "isIdentity", desc := "([II)Z" } : Jvm.MethodName) method_4_code (3 : Nat) (Option.some Jvm.ClassFile.FieldType.boolean)).before args0 about1 = true := code_word (m := ⟨1, 3⟩) (meth := k1m3) (c := k1c3) (by decide +kernel) rfl rfl rfl (by decide +kernel)
def codes1 : List Jvm.Cond := [Jvm.Cond.code x code maxLocals ret, Jvm.Cond.code ({ cls := "com/example/clause_search/clausesearch/RelationTuplesPinLaw", name := "put", desc := "([IIII)V" } : Jvm.MethodName) method_3_code (4 : Nat) (Option.none : Option Jvm.ClassFile.FieldType), Jvm.Cond.code ({ cls := "com/example/clause_search/clausesearch/Predicate", name := "<init>", desc := "(Ljava/lang/String;I)V" } : Jvm.MethodName) prog_27_method_1_code (3 : Nat) (Option.none : Option Jvm.ClassFile.FieldType), Jvm.Cond.code ({ cls := "java/lang/Record", name := "<init>", desc := "()V" } : Jvm.MethodName) jdk_30_method_1_code (1 : Nat) (Option.none : Option Jvm.ClassFile.FieldType), Jvm.Cond.code ({ cls := "java/lang/Object", name := "<init>", desc := "()V" } : Jvm.MethodName) object_method_1_code (1 : Nat) (Option.none : Option Jvm.ClassFile.FieldType), Jvm.Cond.code ({ cls := "com/example/clause_search/clausesearch/Relation", name := "<init>", desc := "(Lcom/example/clause_search/clausesearch/Predicate;I[II)V" } : Jvm.MethodName) prog_34_method_1_code (5 : Nat) (Option.none : Option Jvm.ClassFile.FieldType), Jvm.Cond.code ({ cls := "com/example/clause_search/clausesearch/Predicate", name := "arity", desc := "()I" } : Jvm.MethodName) prog_27_method_8_code (1 : Nat) (Option.some Jvm.ClassFile.FieldType.int), Jvm.Cond.code ({ cls := "com/example/clause_search/clausesearch/Relation", name := "tuples", desc := "()[I" } : Jvm.MethodName) prog_34_method_5_code (3 : Nat) (Option.some (Jvm.ClassFile.FieldType.array Jvm.ClassFile.FieldType.int)), Jvm.Cond.code ({ cls := "com/example/clause_search/clausesearch/RelationTuplesPinLaw", name := "isIdentity", desc := "([II)Z" } : Jvm.MethodName) method_4_code (3 : Nat) (Option.some Jvm.ClassFile.FieldType.boolean)]
set_option maxRecDepth 65536 in
theorem codes_eq : words1.filter isCode = codes1 := rfl
theorem w_codes : ∀ c ∈ words1.filter isCode, c.before args0 about1 = true := by
  rw [codes_eq]
  intro c hc
  simp only [codes1, List.mem_cons, List.not_mem_nil, or_false] at hc
  rcases hc with rfl | rfl | rfl | rfl | rfl | rfl | rfl | rfl | rfl
  · exact w_c0
  · exact w_c1
  · exact w_c2
  · exact w_c3
  · exact w_c4
  · exact w_c5
  · exact w_c6
  · exact w_c7
  · exact w_c8
set_option maxRecDepth 65536 in
theorem w_t1 : (words1.take 24).all (fun c => isCode c || c.before args0 about1) = true := by decide +kernel
set_option maxRecDepth 65536 in
theorem w_t2 : ((words1.drop 24).take 24).all (fun c => isCode c || c.before args0 about1) = true := by decide +kernel
set_option maxRecDepth 65536 in
theorem w_t3 : ((words1.drop 24).drop 24).all (fun c => isCode c || c.before args0 about1) = true := by decide +kernel
theorem w_tables : (allAtoms (Jvm.Cond.code x code maxLocals ret :: tables_1)).before args0 about1 = true := by
  rw [allAtoms_all]
  show words1.all (fun c => c.before args0 about1) = true
  refine all_split ?_ w_codes
  rw [← List.take_append_drop 24 words1, List.all_append, w_t1, ← List.take_append_drop 24 (words1.drop 24), List.all_append, w_t2, w_t3]
  rfl
set_option maxRecDepth 65536 in
theorem w_case : (Jvm.Cond.and given_1 narrow_1).before args0 about1 = true := by decide +kernel
theorem w_applies : (headSpec (Jvm.Cond.code x code maxLocals ret :: tables_1) room_1).applies x e0.platform about1 = true :=
  (Spec.applies_iff w_frames).mpr ⟨w_running, w_runnable, w_alone, w_named, w_hears, w_ripe, w_room, w_tables⟩
theorem atStart : AtStart classFile x code maxLocals ret World_1 tables_1 room_1 Calls_1 rest_1 Pre_1 launch0 p0 e0 about1 theMethod args0 below0 :=
  ⟨lists_1, trivial, launch0.admits_env _ _ _, launch0.least_env, fairChoices_fair.cas, fairChoices_fair.clock, w_frames, w_args, w_heap, w_applies, trivial, trivial, w_case⟩
end start1
theorem witness_1 : WitnessClaimed_1 := ⟨start1.p0, start1.e0, start1.about1, start1.theMethod, start1.args0, start1.below0, start1.atStart⟩
end Jvm.Pilot.@@N@@
