
import JvmDerived
import JvmDerived.Pilot.@@N@@Statement
import JvmDerived.Pilot.@@N@@Code
set_option linter.unusedVariables false
set_option linter.unusedSimpArgs false
@@BLOCK:LamKit.lean.txt@@
namespace Jvm.Pilot.@@N@@
open Jvm Jvm.ClassFile Sem Op Lib Jvm.Free Jvm.Stand Jvm.LawKit Jvm.RoadKit Bundle Jvm.Pilot.@@N@@.Jvm.D
section OwnKit
variable {p : Program} {l : Launch} {e : Env} {R : Room} {s : State} {m : MethodId} {args : Array Value} {below : List Frame} {meth : Method} {c : Code} {T : State} {locs : List Loc} {cells slots : Nat} {Z : State} {a0 : Array Value} {h : Heap}
/-- from S the body comes to its end, and P holds of it -/
def Gd (tb : Tables) (e : Env) (below : List Frame) (P : Outcome → State → Prop) (S : State) : Prop := ∃ s₂ o, Steps tb e below S s₂ ∧ s₂.status = .running ∧ Ended s₂ below o ∧ P o s₂
theorem Gd.go {tb : Tables} {e : Env} {below : List Frame} {P : Outcome → State → Prop} {S S' : State} (h : ∀ t, Steps tb e below S' t → Steps tb e below S t) (k : Gd tb e below P S') : Gd tb e below P S := by
  obtain ⟨s₂, o, h1, h2⟩ := k
  exact ⟨s₂, o, h _ h1, h2⟩
theorem Gd.viaA {α : Type} {A : α → Prop} {tb : Tables} {e : Env} {below : List Frame} {P : Outcome → State → Prop} {S : State} {S' : α → State} (h : (∀ z, A z → Gd tb e below P (S' z)) → Gd tb e below P S) (k : ∀ z, A z → Gd tb e below P (S' z)) : Gd tb e below P S := h k
/-- a body's contract: called with these arguments over this heap it returns, Q holds, and so many cells and slots at most are new -/
def Con (l : Launch) (Z : State) (y : MethodName) (bytes : ByteArray) (maxL : Nat) (ret : Option FieldType) (ws : List Jvm.Cond) (rm : Room) (kc ks : Nat) (as' : Array Value) (h : Heap) (Q : Option Value → Heap → List Loc → Prop) : Prop :=
  MetFree l y (head1 (Jvm.Cond.code y bytes maxL ret :: ws) rm) (fun a U => a = as' ∧ Z.Warmed39 U.vm ∧ U.heap = h) (fun _ _ _ _ _ => True) (fun _ U o U' => ∃ v L, o = .returned v ∧ Q v U'.heap L ∧ FrameEnd U o U' L kc ks)
/-- what a body's walk owes -/
abbrev Owes (s : State) (kc ks : Nat) (Q : Option Value → Heap → List Loc → Prop) : Outcome → State → Prop := fun o U' => ∃ v L, o = .returned v ∧ Q v U'.heap L ∧ FrameEnd s o U' L kc ks
theorem Con.of {y : MethodName} {bytes : ByteArray} {maxL : Nat} {ret : Option FieldType} {ws : List Jvm.Cond} {rm : Room} {kc ks : Nat} {as' : Array Value} {Q : Option Value → Heap → List Loc → Prop} (hpn : plainFor y = true)
    (body : ∀ (p : Program) (e : Env) (s : State) (m : MethodId) (below : List Frame) (meth : Method) (c : Code) (s₁ : State), p.tables.exec = Jvm.exec → c.code = bytes → c.maxLocals = maxL → s.vm.findClass y.cls = some m.cls → meth.name = y.name → meth.sig.returnType = ret → meth.locks = false → Z.Warmed39 s.vm →
      Stand p l e rm s m as' below meth c s₁ [] 0 0 → s₁.heap = h → Gd p.tables e below (Owes s kc ks Q) (s₁.setTop (entryFrame m as' maxL))) : Con l Z y bytes maxL ret ws rm kc ks as' h Q := by
  refine MetFree.of_bodySF hpn hisR ?_
  intro p e s m args below meth c s₁ Bd hml0 hP hK
  obtain ⟨rfl, hZ, hh⟩ := hP
  exact body p e s m below meth c s₁ Bd.exec Bd.bytes hml0 (findClass_of_methodNamed Bd.named) (name_of_methodNamed Bd.named Bd.method).1 Bd.returns Bd.notSynchronized hZ (Stand.of_body Bd) (by rw [← hh, Bd.state]; rfl)
theorem own_retI (X : Stand p l e R s m args below meth c T locs cells slots) (hx : p.tables.exec = Jvm.exec) {pc : Nat} {Ls : Array Slot} {z : Int32} {rest : List Value} (hret : meth.sig.returnType = some .int) (hlk : meth.locks = false) (hd : decode c.code pc = .ok (.ireturn, 1)) {Q : Option Value → Heap → List Loc → Prop} {kc ks : Nat} (hq : Q (some (.int z)) T.heap locs) (hc : cells ≤ kc) (hs : slots ≤ ks) :
    Gd p.tables e below (Owes s kc ks Q) (T.setTop (mkF m pc Ls (.int z :: rest))) := by
  obtain ⟨fs, hr, hrun, hended, hW, hsame⟩ := X.leave (v := some (.int z)) (fun h => by rw [hret] at h; cases h) hlk
  have hm' : T.vm.method? m = some meth := X.method'
  have hn : narrow .int (.int z) = .int z := rfl
  refine ⟨_, _, ?_, hrun, hended, _, _, rfl, hq, ⟨_, rfl⟩, hW, hsame.mono hc hs⟩
  show Steps p.tables e below (T.setTop { method := m, pc := pc, locals := Ls, stack := _ :: rest, locked := none }) _
  jvm_step X.here [X.here.top, hx, hd, hm', hret, hn]
  first | (intro acts; rw [hr _ acts rfl rfl rfl]) | rw [hr _ _ rfl rfl rfl]
  exact Steps.refl _
theorem own_retN (X : Stand p l e R s m args below meth c T locs cells slots) (hx : p.tables.exec = Jvm.exec) {pc : Nat} {Ls : Array Slot} {z : Int32} {rest : List Value} {t : FieldType} (hret : meth.sig.returnType = some t) (hlk : meth.locks = false) (ht : t = .boolean ∨ t = .byte ∨ t = .char ∨ t = .short) (hd : decode c.code pc = .ok (.ireturn, 1)) {Q : Option Value → Heap → List Loc → Prop} {kc ks : Nat} (hq : Q (some (.int (nar t z))) T.heap locs) (hc : cells ≤ kc) (hs : slots ≤ ks) :
    Gd p.tables e below (Owes s kc ks Q) (T.setTop (mkF m pc Ls (.int z :: rest))) := by
  obtain ⟨fs, hr, hrun, hended, hW, hsame⟩ := X.leave (v := some (.int (nar t z))) (fun h => by rw [hret] at h; cases h) hlk
  exact ⟨_, _, retN X hx hret ht hd hr, hrun, hended, _, _, rfl, hq, ⟨_, rfl⟩, hW, hsame.mono hc hs⟩
theorem own_retV (X : Stand p l e R s m args below meth c T locs cells slots) (hx : p.tables.exec = Jvm.exec) {pc : Nat} {Ls : Array Slot} (hret : meth.sig.returnType = none) (hlk : meth.locks = false) (hd : decode c.code pc = .ok (.return_, 1)) {Q : Option Value → Heap → List Loc → Prop} {kc ks : Nat} (hq : Q none T.heap locs) (hc : cells ≤ kc) (hs : slots ≤ ks) :
    Gd p.tables e below (Owes s kc ks Q) (T.setTop (mkF m pc Ls [])) := by
  obtain ⟨fs, hr, hrun, hended, hW, hsame⟩ := X.leave (v := none) (fun _ => rfl) hlk
  exact ⟨_, _, X.returnOut hx hret hd hr, hrun, hended, _, _, rfl, hq, ⟨_, rfl⟩, hW, hsame.mono hc hs⟩
theorem own_retA (X : Stand p l e R s m args below meth c T locs cells slots) (hx : p.tables.exec = Jvm.exec) {pc : Nat} {Ls : Array Slot} {a : Addr} {rest : List Value} {t : FieldType} (hret : meth.sig.returnType = some t) (hlk : meth.locks = false) (ht : t.isReference = true) (hd : decode c.code pc = .ok (.areturn, 1)) {Q : Option Value → Heap → List Loc → Prop} {kc ks : Nat} (hq : Q (some (.ref a)) T.heap locs) (hc : cells ≤ kc) (hs : slots ≤ ks) :
    Gd p.tables e below (Owes s kc ks Q) (T.setTop (mkF m pc Ls (.ref a :: rest))) := by
  obtain ⟨fs, hr, hrun, hended, hW, hsame⟩ := X.leave (v := some (.ref a)) (fun h => by rw [hret] at h; cases h) hlk
  have hm' : T.vm.method? m = some meth := X.method'
  refine ⟨_, _, ?_, hrun, hended, _, _, rfl, hq, ⟨_, rfl⟩, hW, hsame.mono hc hs⟩
  show Steps p.tables e below (T.setTop { method := m, pc := pc, locals := Ls, stack := _ :: rest, locked := none }) _
  jvm_step X.here [X.here.top, hx, hd, hm', hret, ht, Value.isRef]
  first | (intro acts; rw [hr _ acts rfl rfl rfl]) | rw [hr _ _ rfl rfl rfl]
  exact Steps.refl _
/-- a static call by its contract -/
theorem own_callS (X : Stand p l e R s m args below meth c T locs cells slots) (hx : p.tables.exec = Jvm.exec) (hZ : Z.Warmed39 s.vm) {own : String} {index : Nat} {y : MethodName} {bytes : ByteArray} {maxL : Nat} {ret : Option FieldType} (hown : s.vm.findClass own = some m.cls)
    (w1 : (Jvm.Cond.methodLink own index y).before a0 Z = true) (w2 : (Jvm.Cond.static y).before a0 Z = true) (w3 : (Jvm.Cond.initialized y.cls).before a0 Z = true) (w4 : (Jvm.Cond.code y bytes maxL ret).before a0 Z = true) (hy : y.cls ≠ "java/lang/invoke/MethodHandle" ∧ y.cls ≠ "java/lang/invoke/VarHandle")
    {rm : Room} {as' : Array Value} {Q : Option Value → Heap → List Loc → Prop} {W kc ks : Nat} (hM : Con l Z y bytes maxL ret [] rm kc ks as' h Q) (hkc : rm.cells = kc) (hks : rm.slots = ks) (eT : T.heap = h) (hf : rm.frames + 1 ≤ R.frames) (hl : W + (maxL + 11) + rm.locals ≤ R.locals)
    {g : JFrame} (hg : g.method = m) (hsize : g.locals.size = c.maxLocals) {argsL rest : List Value} (hlen : ∀ sig, parseMethodDescriptor y.desc = some sig → argsL.length = sig.parameters.length) (hstack : g.stack = argsL.reverse ++ rest) (hW : 2 * g.monitorRoom + (rest.map fun v => v.category).sum ≤ W)
    (hdg : decode c.code g.pc = .ok (.invokestatic index, 3)) (has : argsL.toArray = as') (hc : cells + kc ≤ R.cells) (hs : slots + ks ≤ R.slots) :
    ∃ v T' L, Stand p l e R s m args below meth c T' (locs ++ L) (cells + kc) (slots + ks) ∧ Q v T'.heap L ∧ ∀ target, Steps p.tables e below (T'.setTop { g with pc := g.pc + 3, stack := v.toList ++ rest }) target → Steps p.tables e below (T.setTop g) target := by
  subst hkc hks
  obtain ⟨v, vm₁, ⟨T', L', c', s'⟩, -, X', ⟨L, hq, l1, l2, l3⟩, st⟩ := Jvm.LawKit.callS X hx (y := y) hown (mvT hZ w1) (mvT hZ w2) (mvT hZ w3) (mvT hZ w4) hy (backOf (W := W) hM hZ w4 w3 hf hl) hg hsize (argsL := argsL) (rest := rest) hlen hstack hW hdg (fun _ _ => ⟨has, eT, hc, hs⟩)
  dsimp only [Pt.U, Pt.locs, Pt.cells, Pt.slots] at X' l1 l2 l3 st hq
  subst l1 l2 l3
  exact ⟨v, T', L, X', hq, st⟩
/-- a static call that writes and makes nothing -/
theorem own_callSP (X : Stand p l e R s m args below meth c T locs cells slots) (hx : p.tables.exec = Jvm.exec) (hZ : Z.Warmed39 s.vm) {own : String} {index : Nat} {y : MethodName} {bytes : ByteArray} {maxL : Nat} {ret : Option FieldType} (hown : s.vm.findClass own = some m.cls)
    (w1 : (Jvm.Cond.methodLink own index y).before a0 Z = true) (w2 : (Jvm.Cond.static y).before a0 Z = true) (w3 : (Jvm.Cond.initialized y.cls).before a0 Z = true) (w4 : (Jvm.Cond.code y bytes maxL ret).before a0 Z = true) (hy : y.cls ≠ "java/lang/invoke/MethodHandle" ∧ y.cls ≠ "java/lang/invoke/VarHandle")
    {rm : Room} {as' : Array Value} {v : Option Value} {W : Nat} (hM : Con l Z y bytes maxL ret [] rm 0 0 as' h (fun v' h' L => v' = v ∧ h' = h ∧ L = [])) (hkc : rm.cells = 0) (hks : rm.slots = 0) (eT : T.heap = h) (hf : rm.frames + 1 ≤ R.frames) (hl : W + (maxL + 11) + rm.locals ≤ R.locals)
    {g : JFrame} (hg : g.method = m) (hsize : g.locals.size = c.maxLocals) {argsL rest : List Value} (hlen : ∀ sig, parseMethodDescriptor y.desc = some sig → argsL.length = sig.parameters.length) (hstack : g.stack = argsL.reverse ++ rest) (hW : 2 * g.monitorRoom + (rest.map fun v => v.category).sum ≤ W)
    (hdg : decode c.code g.pc = .ok (.invokestatic index, 3)) (has : argsL.toArray = as') (hc : cells ≤ R.cells := by decide) (hs : slots ≤ R.slots := by decide) :
    ∃ T', Stand p l e R s m args below meth c T' locs cells slots ∧ T'.heap = h ∧ ∀ target, Steps p.tables e below (T'.setTop { g with pc := g.pc + 3, stack := v.toList ++ rest }) target → Steps p.tables e below (T.setTop g) target := by
  obtain ⟨v', T', L, X', ⟨e1, e2, e3⟩, st⟩ := own_callS X hx hZ hown w1 w2 w3 w4 hy hM hkc hks eT hf hl hg hsize hlen hstack hW hdg has hc hs
  subst e1 e3
  rw [List.append_nil] at X'
  exact ⟨T', X', e2, st⟩
/-- an instance method by its contract, chosen by the receiver's class -/
theorem own_callV (X : Stand p l e R s m args below meth c T locs cells slots) (hx : p.tables.exec = Jvm.exec) (hZ : Z.Warmed39 s.vm) {own C : String} {index : Nat} {y : MethodName} {bytes : ByteArray} {maxL : Nat} {ret : Option FieldType} (hown : s.vm.findClass own = some m.cls)
    (w1 : (Jvm.Cond.methodLink own index y).before a0 Z = true) (w2 : (Jvm.Cond.declares y).before a0 Z = true) (w3 : (Jvm.Cond.selects C y y).before a0 Z = true) (w4 : (Jvm.Cond.instanceMethod y).before a0 Z = true) (w5 : (Jvm.Cond.initialized y.cls).before a0 Z = true) (w6 : (Jvm.Cond.code y bytes maxL ret).before a0 Z = true) (hy : y.cls ≠ "java/lang/invoke/MethodHandle" ∧ y.cls ≠ "java/lang/invoke/VarHandle")
    {b : Addr} (E : Exa Z h b C) {rm : Room} {as' : Array Value} {Q : Option Value → Heap → List Loc → Prop} {W kc ks : Nat} (hM : Con l Z y bytes maxL ret [] rm kc ks as' h Q) (hkc : rm.cells = kc) (hks : rm.slots = ks) (eT : T.heap = h) (hf : rm.frames + 1 ≤ R.frames) (hl : W + (maxL + 11) + rm.locals ≤ R.locals)
    {g : JFrame} (hg : g.method = m) (hsize : g.locals.size = c.maxLocals) {argsL rest : List Value} (hlen : ∀ sig, parseMethodDescriptor y.desc = some sig → argsL.length = sig.parameters.length) (hstack : g.stack = argsL.reverse ++ .ref b :: rest) (hW : 2 * g.monitorRoom + (rest.map fun v => v.category).sum ≤ W)
    (hdg : decode c.code g.pc = .ok (.invokevirtual index, 3)) (has : (.ref b :: argsL).toArray = as') (hc : cells + kc ≤ R.cells) (hs : slots + ks ≤ R.slots) :
    ∃ v T' L, Stand p l e R s m args below meth c T' (locs ++ L) (cells + kc) (slots + ks) ∧ Q v T'.heap L ∧ ∀ target, Steps p.tables e below (T'.setTop { g with pc := g.pc + 3, stack := v.toList ++ rest }) target → Steps p.tables e below (T.setTop g) target := by
  subst hkc hks
  obtain ⟨cq, kq, qa, qb, qc⟩ := isOf hZ eT E
  obtain ⟨v, vm₁, ⟨T', L', c', s'⟩, -, X', ⟨L, hq, l1, l2, l3⟩, st⟩ := X.virtualBack hx (y := y) (z := y) hown (mvT hZ w1) (mvT hZ w2) (notFace_of_selects (args := #[]) (mvT hZ w3)) (mvT hZ w3) (mvT hZ w4) hy (backOf (W := W) hM hZ w6 w5 hf hl) qa qc hg hsize (Steps.refl _) (argsL := argsL) (rest := rest) hlen hstack hW hdg (fun _ _ => ⟨has, eT, hc, hs⟩)
  dsimp only [Pt.U, Pt.locs, Pt.cells, Pt.slots] at X' l1 l2 l3 st hq
  subst l1 l2 l3
  exact ⟨v, T', L, X', hq, fun _ k => st.trans k⟩
/-- an instance method that writes and makes nothing -/
theorem own_callVP (X : Stand p l e R s m args below meth c T locs cells slots) (hx : p.tables.exec = Jvm.exec) (hZ : Z.Warmed39 s.vm) {own C : String} {index : Nat} {y : MethodName} {bytes : ByteArray} {maxL : Nat} {ret : Option FieldType} (hown : s.vm.findClass own = some m.cls)
    (w1 : (Jvm.Cond.methodLink own index y).before a0 Z = true) (w2 : (Jvm.Cond.declares y).before a0 Z = true) (w3 : (Jvm.Cond.selects C y y).before a0 Z = true) (w4 : (Jvm.Cond.instanceMethod y).before a0 Z = true) (w5 : (Jvm.Cond.initialized y.cls).before a0 Z = true) (w6 : (Jvm.Cond.code y bytes maxL ret).before a0 Z = true) (hy : y.cls ≠ "java/lang/invoke/MethodHandle" ∧ y.cls ≠ "java/lang/invoke/VarHandle")
    {b : Addr} (E : Exa Z h b C) {rm : Room} {as' : Array Value} {v : Option Value} {W : Nat} (hM : Con l Z y bytes maxL ret [] rm 0 0 as' h (fun v' h' L => v' = v ∧ h' = h ∧ L = [])) (hkc : rm.cells = 0) (hks : rm.slots = 0) (eT : T.heap = h) (hf : rm.frames + 1 ≤ R.frames) (hl : W + (maxL + 11) + rm.locals ≤ R.locals)
    {g : JFrame} (hg : g.method = m) (hsize : g.locals.size = c.maxLocals) {argsL rest : List Value} (hlen : ∀ sig, parseMethodDescriptor y.desc = some sig → argsL.length = sig.parameters.length) (hstack : g.stack = argsL.reverse ++ .ref b :: rest) (hW : 2 * g.monitorRoom + (rest.map fun v => v.category).sum ≤ W)
    (hdg : decode c.code g.pc = .ok (.invokevirtual index, 3)) (has : (.ref b :: argsL).toArray = as') (hc : cells ≤ R.cells := by decide) (hs : slots ≤ R.slots := by decide) :
    ∃ T', Stand p l e R s m args below meth c T' locs cells slots ∧ T'.heap = h ∧ ∀ target, Steps p.tables e below (T'.setTop { g with pc := g.pc + 3, stack := v.toList ++ rest }) target → Steps p.tables e below (T.setTop g) target := by
  obtain ⟨v', T', L, X', ⟨e1, e2, e3⟩, st⟩ := own_callV X hx hZ hown w1 w2 w3 w4 w5 w6 hy E hM hkc hks eT hf hl hg hsize hlen hstack hW hdg has hc hs
  subst e1 e3
  rw [List.append_nil] at X'
  exact ⟨T', X', e2, st⟩
/-- a constructor by its contract -/
theorem own_callI (X : Stand p l e R s m args below meth c T locs cells slots) (hx : p.tables.exec = Jvm.exec) (hZ : Z.Warmed39 s.vm) {own : String} {index : Nat} {y : MethodName} {bytes : ByteArray} {maxL : Nat} (hy1 : y.name = "<init>") (hown : s.vm.findClass own = some m.cls)
    (w1 : (Jvm.Cond.methodLink own index y).before a0 Z = true) (w4 : (Jvm.Cond.instanceMethod y).before a0 Z = true) (w5 : (Jvm.Cond.initialized y.cls).before a0 Z = true) (w6 : (Jvm.Cond.code y bytes maxL none).before a0 Z = true) (hy : y.cls ≠ "java/lang/invoke/MethodHandle" ∧ y.cls ≠ "java/lang/invoke/VarHandle")
    {b : Addr} {rm : Room} {as' : Array Value} {Q : Option Value → Heap → List Loc → Prop} {W kc ks : Nat} (hM : Con l Z y bytes maxL none [] rm kc ks as' h Q) (hkc : rm.cells = kc) (hks : rm.slots = ks) (eT : T.heap = h) (hf : rm.frames + 1 ≤ R.frames) (hl : W + (maxL + 11) + rm.locals ≤ R.locals)
    {g : JFrame} (hg : g.method = m) (hsize : g.locals.size = c.maxLocals) {argsL rest : List Value} (hlen : ∀ sig, parseMethodDescriptor y.desc = some sig → argsL.length = sig.parameters.length) (hstack : g.stack = argsL.reverse ++ .ref b :: rest) (hW : 2 * g.monitorRoom + (rest.map fun v => v.category).sum ≤ W)
    (hdg : decode c.code g.pc = .ok (.invokespecial index, 3)) (has : (.ref b :: argsL).toArray = as') (hc : cells + kc ≤ R.cells) (hs : slots + ks ≤ R.slots) :
    ∃ v T' L, Stand p l e R s m args below meth c T' (locs ++ L) (cells + kc) (slots + ks) ∧ Q v T'.heap L ∧ ∀ target, Steps p.tables e below (T'.setTop { g with pc := g.pc + 3, stack := v.toList ++ rest }) target → Steps p.tables e below (T.setTop g) target := by
  subst hkc hks
  obtain ⟨v, vm₁, ⟨T', L', c', s'⟩, -, X', ⟨L, hq, l1, l2, l3⟩, st⟩ := X.specialBack hx (y := y) hy1 hown (mvT hZ w1) (mvT hZ w4) (mvT hZ w6) hy (backOf (W := W) hM hZ w6 w5 hf hl) hg hsize (Steps.refl _) (a := b) (argsL := argsL) (rest := rest) hlen hstack hW hdg (fun _ _ => ⟨has, eT, hc, hs⟩)
  dsimp only [Pt.U, Pt.locs, Pt.cells, Pt.slots] at X' l1 l2 l3 st hq
  subst l1 l2 l3
  exact ⟨v, T', L, X', hq, fun _ k => st.trans k⟩
/-- an array as a function of its places -/
def ArF (Z : State) (h : Heap) (a : Addr) (ty : FieldType) (n : Nat) (f : Nat → Value) : Prop := ∃ c : Cell, Arr Z h a c ty ∧ c.slots.size = n ∧ n < 2 ^ 31 ∧ ∀ i, i < n → c.slots[i]? = some (f i)
def upd (f : Nat → Value) (j : Nat) (v : Value) : Nat → Value := fun i => if i = j then v else f i
theorem upd_at (f : Nat → Value) (j : Nat) (v : Value) : upd f j v j = v := if_pos rfl
theorem upd_ne (f : Nat → Value) {i j : Nat} (v : Value) (q : ¬ i = j) : upd f j v i = f i := if_neg q
theorem ArF.lt {h : Heap} {a : Addr} {ty : FieldType} {n : Nat} {f : Nat → Value} (F : ArF Z h a ty n f) : a < h.size := by obtain ⟨c, A, -⟩ := F; exact A.lt
theorem ArF.ext {h h' : Heap} {a : Addr} {ty : FieldType} {n : Nat} {f : Nat → Value} (F : ArF Z h a ty n f) (E : Ext h h') : ArF Z h' a ty n f := by obtain ⟨c, A, r⟩ := F; exact ⟨c, A.ext E, r⟩
theorem ArF.other {h h' : Heap} {a b : Addr} {ty : FieldType} {n : Nat} {f : Nat → Value} {sl : Nat} {v : Value} (F : ArF Z h b ty n f) (W : Wr h h' a sl v) (q : b ≠ a) : ArF Z h' b ty n f := by obtain ⟨c, A, r⟩ := F; exact ⟨c, A.other W q, r⟩
theorem ArF.keep {h h' : Heap} {a : Addr} {ty : FieldType} {n : Nat} {f : Nat → Value} {ws : List Addr} (F : ArF Z h a ty n f) (K : Keep h h' ws) (q : a ∉ ws) : ArF Z h' a ty n f := by obtain ⟨c, A, r⟩ := F; exact ⟨c, ⟨K.2.1 a c A.1 q, A.2⟩, r⟩
theorem ArF.set {h h' : Heap} {a : Addr} {ty : FieldType} {n : Nat} {f : Nat → Value} {j : Nat} {v : Value} (F : ArF Z h a ty n f) (W : Wr h h' a j v) : ArF Z h' a ty n (upd f j v) := by
  obtain ⟨c, A, r1, r2, r3⟩ := F
  refine ⟨_, A.same W, by rw [sz_set]; exact r1, r2, fun i hi => ?_⟩
  show (c.slots.setIfInBounds j v)[i]? = _
  rw [Array.getElem?_setIfInBounds]
  by_cases q : j = i
  · subst q; rw [if_pos rfl, if_pos (by omega), upd_at]
  · rw [if_neg q, upd_ne _ _ (fun w => q w.symm)]; exact r3 i hi
theorem ArF.congr {h : Heap} {a : Addr} {ty : FieldType} {n : Nat} {f g : Nat → Value} (F : ArF Z h a ty n f) (q : ∀ i, i < n → f i = g i) : ArF Z h a ty n g := by
  obtain ⟨c, A, r1, r2, r3⟩ := F
  exact ⟨c, A, r1, r2, fun i hi => by rw [← q i hi]; exact r3 i hi⟩
theorem ArF.n31 {h : Heap} {a : Addr} {ty : FieldType} {n : Nat} {f : Nat → Value} (F : ArF Z h a ty n f) : n < 2 ^ 31 := by obtain ⟨c, A, r1, r2, r3⟩ := F; exact r2
theorem own_ofN {n : Nat} (h : n < 2 ^ 31) : (Int32.ofNat n).toInt = n := Int32.toInt_ofNat_small h
theorem own_ofC {n : Nat} (h : n < 2 ^ 31) : (Int32.ofNat n).toNatClampNeg = n := by show (Int32.ofNat n).toInt.toNat = n; rw [own_ofN h]; rfl
theorem own_incN (i : Nat) : Int32.ofNat i + (1 : Int32) = Int32.ofNat (i + 1) := (Int32.ofNat_add i 1).symm
theorem own_nat {j : Int32} (h : 0 ≤ j.toInt) : (j.toNatClampNeg : Int) = j.toInt := Int.toNat_of_nonneg h
theorem own_in {c : Cell} {n : Nat} {j : Int32} (S : c.slots.size = n) (h1 : 0 ≤ j.toInt) (h2 : j.toInt < n) : ¬ (j < 0 ∨ c.slots.size ≤ j.toNatClampNeg) := by
  have e : (j.toNatClampNeg : Int) = j.toInt := Int.toNat_of_nonneg h1
  rw [Int32.lt_iff_toInt_lt]
  have : (0 : Int32).toInt = 0 := rfl
  omega
theorem own_new {h h' : Heap} {k : ClassId} {ty : FieldType} {z : Int32} {a : Addr} (A : Arr Z h' a (newA k ty z) ty) (q : ¬ z < 0) : ArF Z h' a ty z.toNatClampNeg (fun _ => defaultValue ty) :=
  ⟨_, A, sz_new _ _ _, (back32 q).2, fun i hi => by simp [newA, hi]⟩
theorem own_ldI (X : Stand p l e R s m args below meth c T locs cells slots) (hx : p.tables.exec = Jvm.exec) (hZ : Z.Warmed39 s.vm) (eT : T.heap = h) {a : Addr} {n : Nat} {f : Nat → Value} (A : ArF Z h a .int n f) {j : Int32} (h1 : 0 ≤ j.toInt) (h2 : j.toInt < n) {v : Value} (hv : f j.toNatClampNeg = v)
    {g : JFrame} (hg : g.method = m) {rest : List Value} (hs : g.stack = .int j :: .ref a :: rest) (hd : decode c.code g.pc = .ok (.iaload, 1)) (target : State) (k : Steps p.tables e below (T.setTop { g with pc := g.pc + 1, stack := v :: rest }) target) : Steps p.tables e below (T.setTop g) target := by
  obtain ⟨cl, Ar, S, -, H⟩ := A
  exact X.iaload hx (j := j) (v := v) (by rw [eT]; exact Ar.1) (State.isArrayOf_alike hZ.alike Ar.2.1) Ar.2.2 (own_in S h1 h2) (by have e := Int.toNat_of_nonneg h1; rw [← hv]; exact H _ (by show j.toInt.toNat < n; omega)) hg hs hd _ k
theorem own_len (X : Stand p l e R s m args below meth c T locs cells slots) (hx : p.tables.exec = Jvm.exec) (hZ : Z.Warmed39 s.vm) (eT : T.heap = h) {a : Addr} {ty : FieldType} {n : Nat} {f : Nat → Value} (A : ArF Z h a ty n f) {z : Int32} (hz : Int32.ofNat n = z)
    {g : JFrame} (hg : g.method = m) {rest : List Value} (hs : g.stack = .ref a :: rest) (hd : decode c.code g.pc = .ok (.arraylength, 1)) (target : State) (k : Steps p.tables e below (T.setTop { g with pc := g.pc + 1, stack := .int z :: rest }) target) : Steps p.tables e below (T.setTop g) target := by
  obtain ⟨cl, Ar, S, -, H⟩ := A
  refine X.arraylength hx (by rw [eT]; exact Ar.1) (State.isArrayOf_alike hZ.alike Ar.2.1) hg hs hd _ ?_
  rw [S]; rw [← hz] at k; exact k
theorem own_stI (X : Stand p l e R s m args below meth c T locs cells slots) (hx : p.tables.exec = Jvm.exec) (hZ : Z.Warmed39 s.vm) (eT : T.heap = h) {a : Addr} {n : Nat} {f : Nat → Value} (A : ArF Z h a .int n f) {j x : Int32} (h1 : 0 ≤ j.toInt) (h2 : j.toInt < n)
    {g : JFrame} (hg : g.method = m) {rest : List Value} (hs : g.stack = .int x :: .int j :: .ref a :: rest) (hd : decode c.code g.pc = .ok (.iastore, 1)) :
    ∃ T' h', Stand p l e R s m args below meth c T' (locs ++ [⟨a, j.toNatClampNeg⟩]) cells slots ∧ T'.heap = h' ∧ Wr h h' a j.toNatClampNeg (.int x) ∧ ∀ target, Steps p.tables e below (T'.setTop { g with pc := g.pc + 1, stack := rest }) target → Steps p.tables e below (T.setTop g) target := by
  obtain ⟨cl, Ar, S, -, H⟩ := A
  exact stI X hx hZ eT Ar (own_in S h1 h2) hg hs hd
end OwnKit
section OwnKit2
variable {p : Program} {l : Launch} {e : Env} {R : Room} {s : State} {m : MethodId} {args : Array Value} {below : List Frame} {meth : Method} {c : Code} {T : State} {locs : List Loc} {cells slots : Nat} {Z : State} {a0 : Array Value} {h : Heap}
theorem ArF.arv {h : Heap} {a : Addr} {ty : FieldType} {n : Nat} {f : Nat → Value} (F : ArF Z h a ty n f) (hf : ∀ i, i < n → fits ty (f i) = true) (dv : Value) : ∃ k, Arv Z h a k ty (Int32.ofNat n) ((List.range n).map f) dv := by
  obtain ⟨c, A, r1, r2, r3⟩ := F
  have g : ∀ i, i < n → ((List.range n).map f).getD i dv = f i := fun i hi => by simp [List.getD_eq_getElem?_getD, hi]
  refine ⟨c.cls, c, A, rfl, by rw [own_ofC r2]; exact r1, ?_, fun i hi => ?_, fun i hi => ?_⟩
  · rw [Int32.lt_iff_toInt_lt, own_ofN r2]; have : (0 : Int32).toInt = 0 := rfl; omega
  · rw [g i (by omega)]; exact r3 i (by omega)
  · rw [g i (by omega)]; exact hf i (by omega)
theorem ArF.of_arv {h : Heap} {a : Addr} {k : ClassId} {ty : FieldType} {z : Int32} {vs : List Value} {dv : Value} (F : Arv Z h a k ty z vs dv) : ArF Z h a ty z.toNatClampNeg (fun i => vs.getD i dv) := by
  obtain ⟨c, A, -, r1, r2, H, -⟩ := F
  exact ⟨c, A, r1, (back32 r2).2, fun i hi => H i (by omega)⟩
/-- System.arraycopy of primitives -/
theorem own_cp (X : Stand p l e R s m args below meth c T locs cells slots) (hx : p.tables.exec = Jvm.exec) (hZ : Z.Warmed39 s.vm) {own : String} {index : Nat} (hown : s.vm.findClass own = some m.cls)
    (w1 : (Jvm.Cond.methodLink own index Jvm.Stand.acN).before a0 Z = true) (w2 : (Jvm.Cond.native Jvm.Stand.acN).before a0 Z = true) (w3 : (Jvm.Cond.static Jvm.Stand.acN).before a0 Z = true) (w4 : (Jvm.Cond.initialized "java/lang/System").before a0 Z = true) (eT : T.heap = h)
    {a b : Addr} {ty : FieldType} (hty : refKind ty = false) {n n' : Nat} {f f' : Nat → Value} (A : ArF Z h a ty n f) (B : ArF Z h b ty n' f') (fa : ∀ i, i < n → fits ty (f i) = true) (fb : ∀ i, i < n' → fits ty (f' i) = true)
    {sp dp nn : Int32} (h1 : 0 ≤ sp.toInt) (h2 : 0 ≤ dp.toInt) (h3 : 0 ≤ nn.toInt) (h4 : sp.toInt + nn.toInt ≤ n) (h5 : dp.toInt + nn.toInt ≤ n') {n0 : Nat} (N : Fr n0 locs) (ge : n0 ≤ b)
    {g : JFrame} (hg : g.method = m) (hsize : g.locals.size = c.maxLocals) {rest : List Value} (hs : g.stack = .int nn :: .int dp :: .ref b :: .int sp :: .ref a :: rest) (hd : decode c.code g.pc = .ok (.invokestatic index, 3))
    (hf : 1 ≤ R.frames) {W : Nat} (hW : 2 * g.monitorRoom + (rest.map fun v => v.category).sum ≤ W) (hlo : W + (nativeFrameWords "java/lang/System" "arraycopy" 5 + 11) ≤ R.locals) :
    ∃ T' h' L, Stand p l e R s m args below meth c T' L cells slots ∧ T'.heap = h' ∧ Fr n0 L ∧ Keep h h' [b] ∧ ArF Z h' b ty n' (fun i => if dp.toNatClampNeg ≤ i ∧ i < dp.toNatClampNeg + nn.toNatClampNeg then f (sp.toNatClampNeg + (i - dp.toNatClampNeg)) else f' i) ∧
      ∀ target, Steps p.tables e below (T'.setTop { g with pc := g.pc + 3, stack := rest }) target → Steps p.tables e below (T.setTop g) target := by
  have nA := A.n31; have nB := B.n31
  have z0 : (0 : Int32).toInt = 0 := rfl
  have k1 := own_nat h1; have k2 := own_nat h2; have k3 := own_nat h3
  obtain ⟨ka, VA⟩ := A.arv fa .null
  obtain ⟨kb, VB⟩ := B.arv fb .null
  obtain ⟨T', h', L, X', eh, N', K', V', st⟩ := cpA X hx hZ hown w1 w2 w3 w4 eT VA VB (Or.inl ⟨rfl, hty⟩) (by rw [Int32.lt_iff_toInt_lt]; omega) (by rw [Int32.lt_iff_toInt_lt]; omega) (by rw [Int32.lt_iff_toInt_lt]; omega) (sp := sp) (dp := dp) (nn := nn)
    (by rw [own_ofC nA]; omega) (by rw [own_ofC nB]; omega) rfl (by simp; omega) N ge hg hsize hs hd hf hW hlo
  refine ⟨T', h', L, X', eh, N', K', ?_, st⟩
  have V := ArF.of_arv V'
  rw [own_ofC nB] at V
  refine V.congr fun i hi => ?_
  have lt : (List.take dp.toNatClampNeg ((List.range n').map f')).length = dp.toNatClampNeg := by rw [List.length_take]; simp; omega
  have lu : ((List.range nn.toNatClampNeg).map fun i => ((List.range n).map f).getD (sp.toNatClampNeg + i) Value.null).length = nn.toNatClampNeg := by simp
  simp only [List.getD_eq_getElem?_getD]
  by_cases c1 : i < dp.toNatClampNeg
  · rw [if_neg (by omega), List.append_assoc, List.getElem?_append_left (by omega), List.getElem?_take_of_lt c1]
    simp [hi]
  · by_cases c2 : i < dp.toNatClampNeg + nn.toNatClampNeg
    · rw [if_pos ⟨by omega, c2⟩, List.getElem?_append_left (by rw [List.length_append, lt]; simp; omega), List.getElem?_append_right (by omega), lt]
      have q1 : i - dp.toNatClampNeg < nn.toNatClampNeg := by omega
      have q2 : sp.toNatClampNeg + (i - dp.toNatClampNeg) < n := by omega
      simp [q1, q2]
    · rw [if_neg (by omega), List.getElem?_append_right (by rw [List.length_append, lt]; simp; omega), List.length_append, lt, List.getElem?_drop]
      have q : dp.toNatClampNeg + nn.toNatClampNeg + (i - (dp.toNatClampNeg + nn.toNatClampNeg)) = i := by omega
      simp [q, hi]
end OwnKit2
section OwnKit3
variable {p : Program} {l : Launch} {e : Env} {R : Room} {s : State} {m : MethodId} {args : Array Value} {below : List Frame} {meth : Method} {c : Code} {T : State} {locs : List Loc} {cells slots : Nat} {Z : State} {a0 : Array Value} {h : Heap}
end OwnKit3
section OwnKit4
variable {p : Program} {l : Launch} {e : Env} {R : Room} {s : State} {m : MethodId} {args : Array Value} {below : List Frame} {meth : Method} {c : Code} {T : State} {locs : List Loc} {cells slots : Nat} {Z : State} {a0 : Array Value} {h : Heap}
end OwnKit4
section OwnKit6
open Jvm.LamKit Jvm.Lambda
variable {p : Program} {l : Launch} {e : Env} {R : Room} {s : State} {m : MethodId} {args : Array Value} {below : List Frame} {meth : Method} {c : Code} {T : State} {locs : List Loc} {cells slots : Nat} {Z : State} {a0 : Array Value} {h : Heap}
/-- a contract that also bears the narrow warming since Z -/
def ConH (l : Launch) (Z : State) (y : MethodName) (bytes : ByteArray) (maxL : Nat) (ret : Option FieldType) (ws : List Jvm.Cond) (rm : Room) (kc ks : Nat) (as' : Array Value) (h : Heap) (Q : Option Value → Heap → List Loc → Prop) : Prop :=
  MetFree l y (head1 (Jvm.Cond.code y bytes maxL ret :: ws) rm) (fun a U => a = as' ∧ Z.Warmed39 U.vm ∧ U.heap = h ∧ Z.WarmedH U.vm) (fun _ _ _ _ _ => True) (fun _ U o U' => ∃ v L, o = .returned v ∧ Q v U'.heap L ∧ FrameEnd U o U' L kc ks)
theorem ConH.of {y : MethodName} {bytes : ByteArray} {maxL : Nat} {ret : Option FieldType} {ws : List Jvm.Cond} {rm : Room} {kc ks : Nat} {as' : Array Value} {Q : Option Value → Heap → List Loc → Prop} (hpn : plainFor y = true)
    (body : ∀ (p : Program) (e : Env) (s : State) (m : MethodId) (below : List Frame) (meth : Method) (c : Code) (s₁ : State), p.tables.exec = Jvm.exec → c.code = bytes → c.maxLocals = maxL → s.vm.findClass y.cls = some m.cls → meth.name = y.name → meth.sig.returnType = ret → meth.locks = false → Z.Warmed39 s.vm →
      Stand p l e rm s m as' below meth c s₁ [] 0 0 → s₁.heap = h → Z.WarmedH s.vm ∧ s.methodNamed? y = some m → Gd p.tables e below (Owes s kc ks Q) (s₁.setTop (entryFrame m as' maxL))) : ConH l Z y bytes maxL ret ws rm kc ks as' h Q := by
  refine MetFree.of_bodySF hpn hisR ?_
  intro p e s m args below meth c s₁ Bd hml0 hP hK
  obtain ⟨rfl, hZ, hh, hH⟩ := hP
  exact body p e s m below meth c s₁ Bd.exec Bd.bytes hml0 (findClass_of_methodNamed Bd.named) (name_of_methodNamed Bd.named Bd.method).1 Bd.returns Bd.notSynchronized hZ (Stand.of_body Bd) (by rw [← hh, Bd.state]; rfl) ⟨hH, Bd.named⟩
theorem own_backN {y : MethodName} {bytes : ByteArray} {maxL : Nat} {ret : Option FieldType} {rm : Room} {len W : Nat} {as' : Array Value} {Q : Option Value → Heap → List Loc → Prop} (hM : ConH l Z y bytes maxL ret [] rm rm.cells rm.slots as' h Q)
    (hZ : Z.Warmed39 s.vm) (hH : Z.WarmedH s.vm) (wc : (Jvm.Cond.code y bytes maxL ret).before a0 Z = true) (wz : (Jvm.Cond.initialized y.cls).before a0 Z = true) (hf : rm.frames + 1 ≤ R.frames) (hl : W + (maxL + 11) + rm.locals ≤ R.locals) :
    Back l R p e below s args y len W (fun A a => a = as' ∧ A.U.heap = h ∧ A.cells + rm.cells ≤ R.cells ∧ A.slots + rm.slots ≤ R.slots)
      (fun A _ v B => ∃ L, Q v B.U.heap L ∧ B.locs = A.locs ++ L ∧ B.cells = A.cells + rm.cells ∧ B.slots = A.slots + rm.slots) :=
  Back.of_free (bytes := bytes) (maxL := maxL) (ret := ret) (E := fun _ _ o t L k n => k = rm.cells ∧ n = rm.slots ∧ ∃ v, o = .returned v ∧ Q v t.heap L) hM hf hl
    (fun m meth c A a Y hp => have hU : Z.Warmed39 A.U.vm := wtrans hZ Y.warmed
      ⟨by show (Cond.and _ .tt).before a A.U = true; rw [Cond.before_and, mv hU wc]; rfl, mv hU wc, mv hU wz, hp.2.2.1, hp.2.2.2⟩)
    (fun m meth c A a g mk Y hp => ⟨hp.1, wtrans hZ Y.warmed, hp.2.1, State.WarmedH.trans hH Y.warmed⟩) (fun _ _ _ _ _ _ _ _ _ => trivial)
    (fun _ _ _ _ ⟨v, L, h1, h2, h3⟩ => ⟨L, _, _, h3, rfl, rfl, v, h1, h2⟩)
    (fun m meth c A a g mk v t L k n Y hp _ _ ⟨e1, e2, v', e3, e4⟩ => by cases e3; subst e1 e2; exact ⟨L, e4, rfl, rfl, rfl⟩)
theorem own_made {host : String} {σ : Lambda.Shape} {cK : ClassId} (hH : Z.WarmedH s.vm) (hmd : Jvm.LamKit.Made Z host σ cK) : Jvm.LamKit.Made s host σ cK := by
  obtain ⟨d, dk, hd, hdn, hmade, hcan⟩ := hmd
  obtain ⟨dk', hd', he⟩ := hH.alike.2.2 _ _ hd
  refine ⟨d, dk', hd', by rw [he]; exact hdn, Lambda.isMade_warmer hH hmade, ?_⟩
  have hA := hH.alike
  simp only [State.lambdaCallable, hA.findClass, hA.assignable, hA.superclasses, hA.declaredIn] at hcan ⊢
  exact hcan
/-- invokeinterface on a function object whose target is a private instance method (the object holds the receiver and an int) -/
theorem own_callLam (X : Stand p l e R s m args below meth c T locs cells slots) (hx : p.tables.exec = Jvm.exec) (hZ : Z.Warmed39 s.vm) (hH : Z.WarmedH s.vm) {own host K : String} {index count : Nat} {xi y : MethodName} {σ : Lambda.Shape} {bytes : ByteArray} {maxL : Nat} (hown : s.vm.findClass own = some m.cls)
    (w1 : (Jvm.Cond.methodLink own index xi).before a0 Z = true) (w2 : (Jvm.Cond.declares xi).before a0 Z = true) (wf : (Jvm.Cond.interfaceMethod xi.cls xi.cls xi.name xi.desc).before a0 Z = true)
    (w3 : (Jvm.Cond.privateMethod y).before a0 Z = true) (w4 : (Jvm.Cond.instanceMethod y).before a0 Z = true) (w5 : (Jvm.Cond.initialized y.cls).before a0 Z = true) (w6 : (Jvm.Cond.code y bytes maxL (some .int)).before a0 Z = true) (wO : (Jvm.Cond.instantiable "java/lang/Object" 0).before a0 Z = true)
    {C' : String} {y' : MethodName} (w7 : (Jvm.Cond.selects C' y' y').before a0 Z = true) (hc' : y'.cls = y.cls)
    (hfa : ((Jvm.Cond.interfaceMethod xi.cls xi.cls xi.name xi.desc).onTables && (Jvm.Cond.interfaceMethod xi.cls xi.cls xi.name xi.desc).keepsFace) = true)
    (hxi : xi.cls = σ.iface ∧ xi.name = σ.name ∧ xi.desc = σ.sam.toString) (hy : y.cls = σ.implClass ∧ y.name = σ.implName ∧ y.desc = σ.implDesc.toString)
    (hpoly : (xi.cls ≠ "java/lang/invoke/MethodHandle" ∧ xi.cls ≠ "java/lang/invoke/VarHandle") ∧ y.cls ≠ "java/lang/invoke/MethodHandle" ∧ y.cls ≠ "java/lang/invoke/VarHandle")
    {a o : Addr} {fr z r : Int32} {cK : ClassId} (hmd : Jvm.LamKit.Made Z host σ cK) (hfn : h[a]? = some { cls := cK, slots := #[.ref o, .int fr], vm := .none }) (E : Exa Z h o K)
    {fcode : ByteArray} {idx ci f1 f2 : Nat} (hok : fwdOK σ host fcode 2 (some .int) idx ci = true) (hc1 : capOK σ host f1 0 = true) (hc2 : capOK σ host f2 1 = true)
    (d0 : decode fcode 0 = .ok (.aload_n 0, 1)) (d1 : decode fcode 1 = .ok (.getfield f1, 3)) (d4 : decode fcode 4 = .ok (.aload_n 0, 1)) (d5 : decode fcode 5 = .ok (.getfield f2, 3)) (d8 : decode fcode 8 = .ok (.iload_n 1, 1)) (d9 : decode fcode 9 = .ok (.invokevirtual idx, 3)) (d12 : decode fcode 12 = .ok (.ireturn, 1))
    {rm : Room} (hM : Con l Z y bytes maxL (some .int) [] rm 0 0 #[.ref o, .int fr, .int z] h (fun v' h' L => v' = some (.int r) ∧ h' = h ∧ L = [])) (hkc : rm.cells = 0) (hks : rm.slots = 0) (eT : T.heap = h)
    {g : JFrame} (hg : g.method = m) (hsize : g.locals.size = c.maxLocals) {rest : List Value} (hpx : parseMethodDescriptor xi.desc = some ⟨[.int], some .int⟩) (hpy : parseMethodDescriptor y.desc = some ⟨[.int, .int], some .int⟩)
    (hstack : g.stack = .int z :: .ref a :: rest) (hdg : decode c.code g.pc = .ok (.invokeinterface index count, 5)) (hf : rm.frames + 2 ≤ R.frames) (hl : 2 * g.monitorRoom + (rest.map fun v => v.category).sum + 13 + ((maxL + 11) + rm.locals) ≤ R.locals) (hcc : cells ≤ R.cells) (hss : slots ≤ R.slots) :
    ∃ T', Stand p l e R s m args below meth c T' locs cells slots ∧ T'.heap = h ∧ ∀ target, Steps p.tables e below (T'.setTop { g with pc := g.pc + 5, stack := .int r :: rest }) target → Steps p.tables e below (T.setTop g) target := by
  have hcell : T.heap[a]? = some { cls := cK, slots := #[.ref o, .int fr], vm := .none } := by rw [eT]; exact hfn
  obtain ⟨kK, methk, hkK, hmk, hpub, habs, hsel⟩ := madeSelects (args := args) (own_made hH hmd) hok (mvT hZ wf hfa) hxi
  obtain ⟨r0, rr, hn, hrm, hstR, hsigR⟩ := Cond.declares_spec (mvT (args := args) hZ w2)
  obtain ⟨cL, kL, r1, hcL, hkL, hiL, -, -⟩ := Cond.interfaceMethod_spec (mvT (args := args) hZ wf hfa)
  have hr0cls : r0.cls = cL := Option.some.inj ((findClass_of_methodNamed hn).symm.trans hcL)
  obtain ⟨hasg, hsel', hway⟩ := hsel r0 rr hn hrm
  have hlenX : [Value.int z].length = rr.sig.parameters.length := by rw [← Option.some.inj (hpx.symm.trans hsigR)]; rfl
  obtain ⟨vm₁, X₁, hstep₁⟩ := X.invokeinterface hx hown (mvT hZ w1) hn hrm hstR (by rw [hr0cls]; exact hkL) hiL hpoly.1 (a := a) (cell := { cls := cK, slots := #[.ref o, .int fr], vm := .none }) (kcell := kK) hcell (fun z h => by cases h) hkK hasg
    (m' := ⟨cK, 1⟩) (meth' := methk) (by rw [Launch.admits_selectMethod X.admits]; exact hsel') hmk hway hpub habs hg (argsL := [.int z]) (rest := rest) hlenX hstack hdg
  have hZ1 : Z.WarmedH (T.setVm vm₁).vm := State.WarmedH.trans hH X₁.warmed
  have hheap1 : (T.setVm vm₁).heap = h := eT
  generalize hT1 : T.setVm vm₁ = T1 at X₁ hstep₁ hZ1 hheap1
  have hmd₀ := hmd
  obtain ⟨d, dk, hd, hdn, hmade, -⟩ := hmd
  obtain ⟨y1, y2, y3⟩ := hy
  have w4' : (Jvm.Cond.instanceMethod y).before a0 Z = true := w4
  obtain ⟨mT, methT, hmT, hmethT, hstT, habT⟩ := Cond.instanceMethod_spec w4'
  obtain ⟨methT', cT, hmethT', -, -, -, -, -, -, hsigT⟩ := Cond.code_spec hmT w6
  cases hmethT.symm.trans hmethT'
  have hfT := findClass_of_methodNamed hmT
  obtain ⟨kT, hkT, hnameT⟩ := className_of_methodNamed hmT
  have hpriv := Cond.privateMethod_at w3 mT methT hmT hmethT
  obtain ⟨c2, r2, m2, -, -, q3, -, kP, hkP, hkPi⟩ := Cond.selects_spec w7
  have h2 := findClass_of_methodNamed q3
  rw [hc', hfT] at h2
  have h2' : mT.cls = m2.cls := Option.some.inj h2
  rw [← h2'] at hkP
  obtain ⟨kD₁, hkD₁, heD₁⟩ := hZ1.alike.2.2 _ _ hd
  obtain ⟨kK₁, tk₁, file₁, methk₁, ck₁, toy₁, t₁, nt, hkK₁, hpn₁, hfile₁, hidx₁, hnt₁, hmk₁, hck₁, hbytes₁, hml₁, hlk₁, -, hretk₁, htoy₁, htk₁, hlook₁, hready₁, hclsR₁⟩ := made_static hok hkD₁ (by rw [heD₁]; exact hdn) (Lambda.isMade_warmer hZ1 hmade)
  have hfT₁ : T1.vm.findClass σ.implClass = some mT.cls := by rw [hZ1.alike.findClass, ← y1]; exact hfT
  cases htoy₁.symm.trans hfT₁
  have ht₁ : t₁ = mT := by
    have h1 : (Z.setVm T1.vm).methodFound? y.cls y.name y.desc = some mT := by rw [State.methodFound?_setVm hZ1.alike]; exact State.methodFound?_of_named hmT hpoly.2
    rw [y1, y2, y3] at h1
    simp only [State.methodFound?, State.vm_setVm, hfT₁, htk₁, Option.bind_eq_bind, Option.bind_some] at h1
    rw [hlook₁] at h1
    exact Option.some.inj h1
  subst ht₁
  have hmethT₁ : T1.vm.method? t₁ = some methT := by rw [hZ1.alike.method?]; exact hmethT
  obtain ⟨kT₁, hkT₁, heT₁⟩ := hZ1.alike.2.2 _ _ hkP
  cases htk₁.symm.trans hkT₁
  have hitf : tk₁.isInterface = false := by rw [heT₁]; exact hkPi
  have hsp : ∀ z : Method, signaturePolymorphic tk₁ z = false := fun z => by
    have hn' : tk₁.name = y.cls := by cases hkP.symm.trans hkT; rw [heT₁]; exact hnameT
    simp [signaturePolymorphic, hn', hpoly.2.1, hpoly.2.2]
  have hpk : T1.plainMethod ⟨cK, 1⟩ := State.plainMethod.of_name (fun k' hk' => by cases hkK₁.symm.trans hk'; exact hpn₁)
  have hZ1' : Z.Warmed39 T1.vm := wtrans hZ X₁.warmed
  have hM' : Con l Z y bytes maxL (some .int) [] rm rm.cells rm.slots #[.ref o, .int fr, .int z] h (fun v' h' L => v' = some (.int r) ∧ h' = h ∧ L = []) := by rw [hkc, hks]; exact hM
  obtain ⟨Y₀, hin⟩ := X₁.into (g := { g with stack := rest }) hg hsize hdg #[.ref a, .int z] (R' := { frames := rm.frames + 1, cells := 0, slots := 0, locals := (maxL + 11) + rm.locals }) hmk₁ hck₁ hlk₁ hpk hf (by rw [hml₁]; exact hl) hcc hss
  have hL0 : entryFrame ⟨cK, 1⟩ #[.ref a, .int z] 2 = mkF ⟨cK, 1⟩ 0 #[.val (.ref a), .val (.int z)] [] := rfl
  rw [hml₁, hL0] at Y₀ hin
  generalize hU : (T1.setTop { g with stack := rest }).pushFrame (.java (mkF ⟨cK, 1⟩ 0 #[.val (.ref a), .val (.int z)] [])) = U at Y₀ hin
  have hvmU : U.vm = T1.vm := by rw [← hU]; rfl
  have hheapU : U.heap = h := by rw [← hU]; exact hheap1
  generalize hs' : T1.calling { g with stack := rest } ⟨cK, 1⟩ #[.ref a, .int z] = s' at Y₀
  have hvm' : s'.vm = T1.vm := by rw [← hs']; rfl
  have hK := backOf (W := 0) (l := l) (Z := Z) (h := h) (y := y) (bytes := bytes) (maxL := maxL) (ret := some .int) (rm := rm) (as' := #[.ref o, .int fr, .int z]) (Q := fun v' h' L => v' = some (.int r) ∧ h' = h ∧ L = []) (R := { frames := rm.frames + 1, cells := 0, slots := 0, locals := (maxL + 11) + rm.locals }) (p := p) (e := e) (below := .java { g with stack := rest } :: below) (s := s') (args := #[.ref a, .int z]) (len := 3) hM' (by rw [hvm']; exact hZ1') w6 w5 (Nat.le_refl _) (by show 0 + (maxL + 11) + rm.locals ≤ (maxL + 11) + rm.locals; omega)
  have hnamedU : U.methodNamed? y = some t₁ := by
    have q : (Z.setVm T1.vm).methodNamed? y = some t₁ := by rw [State.methodNamed?_setVm hZ1.alike]; exact hmT
    rw [← hU]; exact q
  obtain ⟨v, ⟨U', ls, cc, sl⟩, Y₁, ⟨L, ⟨q1, hh', q3⟩, l1, l2, l3⟩, hsteps⟩ := hK ⟨cK, 1⟩ methk₁ ck₁ ⟨U, [], 0, 0⟩ (mkF ⟨cK, 1⟩ 9 #[.val (.ref a), .val (.int z)] []) (.invokevirtual idx) t₁ #[.ref o, .int fr, .int z] Y₀ rfl (by rw [hml₁]; rfl) (by rw [hbytes₁]; exact d9) (Nat.le_refl _) hnamedU ⟨rfl, hheapU, by show 0 + rm.cells ≤ 0; omega, by show 0 + rm.slots ≤ 0; omega⟩
  dsimp only [Pt.U, Pt.locs, Pt.cells, Pt.slots] at Y₁ hh' l1 l2 l3 hsteps
  subst q1 q3 l1 l2 l3
  obtain ⟨fs, hleave, -, hended, hWe, hsame⟩ := Y₁.leave (v := some (.int r)) (fun h => by rw [hretk₁] at h; cases h) hlk₁
  subst hs'
  obtain ⟨T', X', -, -, ht⟩ := X₁.outOf (g := { g with stack := rest }) hg hdg hended hWe hsame
  have hheap' : T'.heap = h := by
    have q : (U'.setFrames fs).heap = (T'.setTop { g with pc := g.pc + 5, stack := (some (Value.int r)).toList ++ rest }).heap := congrArg State.heap ht
    exact (show T'.heap = U'.heap from q.symm).trans hh'
  have hrun : Steps p.tables e below (U.setTop (mkF ⟨cK, 1⟩ 0 #[.val (.ref a), .val (.int z)] [])) (U'.setFrames fs) := by
    refine Steps.weaken (mid := [.java { g with stack := rest }]) ?_
    show Steps p.tables e (.java { g with stack := rest } :: below) (U.setTop (mkF ⟨cK, 1⟩ 0 #[.val (.ref a), .val (.int z)] [])) _
    refine XS.aloadN Y₀.here hx rfl (hb hbytes₁ d0) rfl rfl ?_
    show Steps _ _ _ (U.setTop (mkF ⟨cK, 1⟩ 1 #[.val (.ref a), .val (.int z)] [.ref a])) _
    refine getCap (s := Z) (args := a0) (host := host) (σ := σ) (i := 0) (v := .ref o) (a := a) (cell := { cls := cK, slots := #[.ref o, .int fr], vm := .none }) hx Y₀.here (by rw [hvmU]; exact hZ1) hmd₀ hc1 wO (by rw [hheapU]; exact hfn) rfl rfl (g := mkF ⟨cK, 1⟩ 1 #[.val (.ref a), .val (.int z)] [.ref a]) rfl rfl (hb hbytes₁ d1) ?_
    show Steps _ _ _ (U.setTop (mkF ⟨cK, 1⟩ 4 #[.val (.ref a), .val (.int z)] [.ref o])) _
    refine XS.aloadN Y₀.here hx rfl (hb hbytes₁ d4) rfl rfl ?_
    show Steps _ _ _ (U.setTop (mkF ⟨cK, 1⟩ 5 #[.val (.ref a), .val (.int z)] [.ref a, .ref o])) _
    refine getCap (s := Z) (args := a0) (host := host) (σ := σ) (i := 1) (v := .int fr) (a := a) (cell := { cls := cK, slots := #[.ref o, .int fr], vm := .none }) hx Y₀.here (by rw [hvmU]; exact hZ1) hmd₀ hc2 wO (by rw [hheapU]; exact hfn) rfl rfl (g := mkF ⟨cK, 1⟩ 5 #[.val (.ref a), .val (.int z)] [.ref a, .ref o]) rfl rfl (hb hbytes₁ d5) ?_
    show Steps _ _ _ (U.setTop (mkF ⟨cK, 1⟩ 8 #[.val (.ref a), .val (.int z)] [.int fr, .ref o])) _
    refine XS.iloadN Y₀.here hx rfl (hb hbytes₁ d8) rfl ?_
    show Steps _ _ _ (U.setTop (mkF ⟨cK, 1⟩ 9 #[.val (.ref a), .val (.int z)] [.int z, .int fr, .ref o])) _
    have hsU : U.topJava?.isSome := Y₀.here.top
    obtain ⟨cell, hcell', hobj⟩ := E.cell
    have hselP : selectMethod e.platform U.vm cell.cls t₁ = .method t₁ := selectMethod_private (by rw [hvmU]; exact hmethT₁) hpriv
    have hd9 : decode ck₁.code 9 = .ok (.invokevirtual idx, 3) := hb hbytes₁ d9
    have hnc : namesAClass U cK idx := ⟨kK₁, file₁, ci, nt, t₁.cls, tk₁, by rw [hvmU]; exact hkK₁, hfile₁, hidx₁, by rw [hvmU]; exact hclsR₁, by rw [hvmU]; exact htk₁, hitf⟩
    jvm_step Y₀.here [hx, hd9, invokevirtual.wp_ready (e := e) (s := U) (f := mkF ⟨cK, 1⟩ 9 #[.val (.ref a), .val (.int z)] [.int z, .int fr, .ref o]) (r := t₁) (m := t₁) (k := tk₁) (mk := tk₁) (rmeth := methT) (meth := methT) (args := [.int fr, .int z]) (rest := []) (a := o) (cell := cell)
      hsU hnc (by rw [hvmU]; exact hready₁) (by rw [hvmU]; exact htk₁) (by rw [hvmU]; exact hmethT₁) (hsp _) hstT (by rw [← Option.some.inj (hpy.symm.trans hsigT)]; rfl) rfl (by rw [hheapU]; exact hcell') hobj hselP (by rw [hvmU]; exact hmethT₁) habT (by rw [hvmU]; exact htk₁) hitf]
    intro acts'
    rw [doInvoke_state]
    refine hsteps.trans ?_
    exact retOut Y₁ hx (pc := 12) (Ls := #[.val (.ref a), .val (.int z)]) hretk₁ (Or.inl ⟨.int, r, rfl, Or.inl rfl, rfl, rfl, rfl⟩) (hb hbytes₁ d12) hleave
  rw [ht] at hrun
  refine ⟨T', by simpa [hkc, hks] using X', hheap', fun target k => hstep₁ _ fun acts => ?_⟩
  show Steps p.tables e below (doInvoke e (T1.setTop { g with stack := rest }) acts ⟨cK, 1⟩ #[.ref a, .int z]).1 target
  rw [hin acts]
  exact hrun.trans k
/-- a function object that holds o and fr -/
def own_FN (h : Heap) (a : Addr) (cK : ClassId) (o : Addr) (fr : Int32) : Prop := h[a]? = some { cls := cK, slots := #[.ref o, .int fr], vm := .none }
theorem own_FN.ext {h h' : Heap} {a : Addr} {cK : ClassId} {o : Addr} {fr : Int32} (F : own_FN h a cK o fr) (E : Ext h h') : own_FN h' a cK o fr := E.2 _ _ F
theorem own_FN.other {h h' : Heap} {a b : Addr} {cK : ClassId} {o : Addr} {fr : Int32} {sl : Nat} {v : Value} (F : own_FN h a cK o fr) (W : Wr h h' b sl v) (q : a ≠ b) : own_FN h' a cK o fr := (Keep.of_wr W).2.1 _ _ F (fun z => q (List.mem_singleton.mp z))
theorem own_FN.keep {h h' : Heap} {a : Addr} {cK : ClassId} {o : Addr} {fr : Int32} {ws : List Addr} (F : own_FN h a cK o fr) (K : Keep h h' ws) (q : a ∉ ws) : own_FN h' a cK o fr := K.2.1 _ _ F q
theorem own_FN.lt {h : Heap} {a : Addr} {cK : ClassId} {o : Addr} {fr : Int32} (F : own_FN h a cK o fr) : a < h.size := (Array.getElem?_eq_some_iff.mp F).1
/-- invokedynamic at a site that captures vals (the class made for it is the one of Z's word) -/
theorem own_site (X : Stand p l e R s m args below meth c T locs cells slots) (hx : p.tables.exec = Jvm.exec) (hH : Z.WarmedH s.vm) {x : MethodName} {pc index fi : Nat} {σ : Lambda.Shape} (hnamed : s.methodNamed? x = some m)
    (hsite : (Jvm.Cond.lambdaSite x pc index σ).before a0 Z = true) (hcap : σ.captured ≠ []) (hok : capOK σ x.cls fi 0 = true) (hO : (Jvm.Cond.instantiable "java/lang/Object" 0).before a0 Z = true) (eT : T.heap = h)
    {g : JFrame} (hg : g.method = m) (hpc : g.pc = pc) (hsize : g.locals.size = c.maxLocals) (hdg : decode c.code g.pc = .ok (.invokedynamic index, 5))
    {vals rest : List Value} (hlen : vals.length = σ.captured.length) (hstack : g.stack = vals.reverse ++ rest) (hfit : ∀ (i : Nat) t v, σ.captured[i]? = some t → vals[i]? = some v → narrow t v = v ∧ fits t v = true)
    (hwords : 2 * g.monitorRoom + (g.stack.map fun v => v.category).sum + 3072 ≤ R.locals) (hcells : cells + 1 ≤ R.cells) {kv : Nat} (hkv : vals.length = kv) (hslots : slots + kv ≤ R.slots) :
    ∃ (cK : ClassId) (T' : State) (h' : Heap), Jvm.LamKit.Made Z x.cls σ cK ∧ Stand p l e R s m args below meth c T' locs (cells + 1) (slots + kv) ∧ T'.heap = h' ∧ Ext h h' ∧ h'[h.size]? = some { cls := cK, slots := vals.toArray, vm := .none } ∧
      ∀ target, Steps p.tables e below (T'.setTop { g with pc := g.pc + 5, stack := .ref h.size :: rest }) target → Steps p.tables e below (T.setTop g) target := by
  subst hkv
  obtain ⟨cK, one, hat⟩ := Cond.lambdaSite_spec hsite
  obtain ⟨mD, kD, cfD, i0, p0, lk, hmD, hkD, hcfD, hsh, -, hfind, hmade, hcan, hl⟩ := State.lambdaAt?_spec hat
  have hmD' : s.methodNamed? x = some mD := by
    have := State.methodNamed?_setVm (s := Z) hH.alike x
    rw [hmD] at this
    exact this
  cases hnamed.symm.trans hmD'
  obtain ⟨kD0, hkD0, hnameD⟩ := className_of_methodNamed hmD
  cases hkD.symm.trans hkD0
  obtain ⟨kD', hkD', he⟩ := hH.alike.2.2 _ _ hkD
  rcases hl with ⟨a, cell, -, -, hc0, -⟩ | ⟨rfl, -, -⟩
  · exact absurd hc0 hcap
  · obtain ⟨b, nt, desc, site, h1, h2, h3, h4⟩ := shapeOf?_site hsh
    obtain ⟨kc, f, hkc, hkind, hty, -⟩ := made_cap hok hkD' (by rw [he]; exact hnameD) (Lambda.isMade_warmer hH hmade) (noFields hO hH)
    have hz : ((kc.instanceTypes.toList.zip vals).map fun (t, v) => narrow t v) = vals := by rw [hty]; exact zip_narrow _ _ hlen fun i t v a b => (hfit i t v a b).1
    have hw : e.platform.lambdaLinkWords = 3072 := by rw [X.admits.platform]
    have q := X.lambdaMakes hx hg hsize hdg (vals := vals) (rest := rest) hkD' (by rw [hpc, he]; exact hfind) (by rw [he]; exact hcfD) h1 h2 (parseLong_of_parse h3) (by rw [h4]; exact hlen) hstack hkc (by rw [hw]; exact hwords) hcells (by rw [hz]; exact hslots)
      (fun i v hv => by
        rw [hz] at hv
        have hv' : vals[i]? = some v := by simpa using hv
        have hi : i < σ.captured.length := by rw [← hlen]; exact (List.getElem?_eq_some_iff.mp hv').1
        have := (hfit i _ v (List.getElem?_eq_getElem hi) hv').2
        simp [State.fitsSlot, State.slotType?, hkc, hkind, hty, List.getElem?_eq_getElem hi, this])
    rw [hz] at q
    refine ⟨cK, T.pushCell { cls := cK, slots := vals.toArray, vm := .none }, _, ⟨_, kD, hkD, hnameD, hmade, hcan⟩, by simpa using q.1, rfl, ⟨by simp [State.pushCell, eT], fun a c hc => ?_⟩, by simp [State.pushCell, eT], by rw [← eT]; exact q.2⟩
    have hlt : a < h.size := (Array.getElem?_eq_some_iff.mp hc).1
    show (T.heap.push _)[a]? = some c
    rw [eT, Array.getElem?_push_lt hlt]
    rw [Array.getElem?_eq_getElem hlt] at hc
    exact hc
theorem own_callSH (X : Stand p l e R s m args below meth c T locs cells slots) (hx : p.tables.exec = Jvm.exec) (hZ : Z.Warmed39 s.vm) (hH : Z.WarmedH s.vm) {own : String} {index : Nat} {y : MethodName} {bytes : ByteArray} {maxL : Nat} {ret : Option FieldType} (hown : s.vm.findClass own = some m.cls)
    (w1 : (Jvm.Cond.methodLink own index y).before a0 Z = true) (w2 : (Jvm.Cond.static y).before a0 Z = true) (w3 : (Jvm.Cond.initialized y.cls).before a0 Z = true) (w4 : (Jvm.Cond.code y bytes maxL ret).before a0 Z = true) (hy : y.cls ≠ "java/lang/invoke/MethodHandle" ∧ y.cls ≠ "java/lang/invoke/VarHandle")
    {rm : Room} {as' : Array Value} {Q : Option Value → Heap → List Loc → Prop} {W kc ks : Nat} (hM : ConH l Z y bytes maxL ret [] rm kc ks as' h Q) (hkc : rm.cells = kc) (hks : rm.slots = ks) (eT : T.heap = h) (hf : rm.frames + 1 ≤ R.frames) (hl : W + (maxL + 11) + rm.locals ≤ R.locals)
    {g : JFrame} (hg : g.method = m) (hsize : g.locals.size = c.maxLocals) {argsL rest : List Value} (hlen : ∀ sig, parseMethodDescriptor y.desc = some sig → argsL.length = sig.parameters.length) (hstack : g.stack = argsL.reverse ++ rest) (hW : 2 * g.monitorRoom + (rest.map fun v => v.category).sum ≤ W)
    (hdg : decode c.code g.pc = .ok (.invokestatic index, 3)) (has : argsL.toArray = as') (hc : cells + kc ≤ R.cells) (hs : slots + ks ≤ R.slots) :
    ∃ v T' L, Stand p l e R s m args below meth c T' (locs ++ L) (cells + kc) (slots + ks) ∧ Q v T'.heap L ∧ ∀ target, Steps p.tables e below (T'.setTop { g with pc := g.pc + 3, stack := v.toList ++ rest }) target → Steps p.tables e below (T.setTop g) target := by
  subst hkc hks
  obtain ⟨v, vm₁, ⟨T', L', c', s'⟩, -, X', ⟨L, hq, l1, l2, l3⟩, st⟩ := Jvm.LawKit.callS X hx (y := y) hown (mvT hZ w1) (mvT hZ w2) (mvT hZ w3) (mvT hZ w4) hy (own_backN (W := W) hM hZ hH w4 w3 hf hl) hg hsize (argsL := argsL) (rest := rest) hlen hstack hW hdg (fun _ _ => ⟨has, eT, hc, hs⟩)
  dsimp only [Pt.U, Pt.locs, Pt.cells, Pt.slots] at X' l1 l2 l3 st hq
  subst l1 l2 l3
  exact ⟨v, T', L, X', hq, st⟩
theorem own_callVH (X : Stand p l e R s m args below meth c T locs cells slots) (hx : p.tables.exec = Jvm.exec) (hZ : Z.Warmed39 s.vm) (hH : Z.WarmedH s.vm) {own C : String} {index : Nat} {y : MethodName} {bytes : ByteArray} {maxL : Nat} {ret : Option FieldType} (hown : s.vm.findClass own = some m.cls)
    (w1 : (Jvm.Cond.methodLink own index y).before a0 Z = true) (w2 : (Jvm.Cond.declares y).before a0 Z = true) (w3 : (Jvm.Cond.selects C y y).before a0 Z = true) (w4 : (Jvm.Cond.instanceMethod y).before a0 Z = true) (w5 : (Jvm.Cond.initialized y.cls).before a0 Z = true) (w6 : (Jvm.Cond.code y bytes maxL ret).before a0 Z = true) (hy : y.cls ≠ "java/lang/invoke/MethodHandle" ∧ y.cls ≠ "java/lang/invoke/VarHandle")
    {b : Addr} (E : Exa Z h b C) {rm : Room} {as' : Array Value} {Q : Option Value → Heap → List Loc → Prop} {W kc ks : Nat} (hM : ConH l Z y bytes maxL ret [] rm kc ks as' h Q) (hkc : rm.cells = kc) (hks : rm.slots = ks) (eT : T.heap = h) (hf : rm.frames + 1 ≤ R.frames) (hl : W + (maxL + 11) + rm.locals ≤ R.locals)
    {g : JFrame} (hg : g.method = m) (hsize : g.locals.size = c.maxLocals) {argsL rest : List Value} (hlen : ∀ sig, parseMethodDescriptor y.desc = some sig → argsL.length = sig.parameters.length) (hstack : g.stack = argsL.reverse ++ .ref b :: rest) (hW : 2 * g.monitorRoom + (rest.map fun v => v.category).sum ≤ W)
    (hdg : decode c.code g.pc = .ok (.invokevirtual index, 3)) (has : (.ref b :: argsL).toArray = as') (hc : cells + kc ≤ R.cells) (hs : slots + ks ≤ R.slots) :
    ∃ v T' L, Stand p l e R s m args below meth c T' (locs ++ L) (cells + kc) (slots + ks) ∧ Q v T'.heap L ∧ ∀ target, Steps p.tables e below (T'.setTop { g with pc := g.pc + 3, stack := v.toList ++ rest }) target → Steps p.tables e below (T.setTop g) target := by
  subst hkc hks
  obtain ⟨cq, kq, qa, qb, qc⟩ := isOf hZ eT E
  obtain ⟨v, vm₁, ⟨T', L', c', s'⟩, -, X', ⟨L, hq, l1, l2, l3⟩, st⟩ := X.virtualBack hx (y := y) (z := y) hown (mvT hZ w1) (mvT hZ w2) (notFace_of_selects (args := #[]) (mvT hZ w3)) (mvT hZ w3) (mvT hZ w4) hy (own_backN (W := W) hM hZ hH w6 w5 hf hl) qa qc hg hsize (Steps.refl _) (argsL := argsL) (rest := rest) hlen hstack hW hdg (fun _ _ => ⟨has, eT, hc, hs⟩)
  dsimp only [Pt.U, Pt.locs, Pt.cells, Pt.slots] at X' l1 l2 l3 st hq
  subst l1 l2 l3
  exact ⟨v, T', L, X', hq, fun _ k => st.trans k⟩
end OwnKit6

theorem ow {Z : State} {a0 : Array Value} (hw : ∀ d ∈ tables_1, d.before a0 Z = true) (i : Nat) {d : Jvm.Cond} (h : tables_1[i]? = some d) : d.before a0 Z = true := hw d (List.mem_of_getElem? h)
abbrev own_sg : Lambda.Shape := Lambda.Shape.mk "java/util/function/IntUnaryOperator" "applyAsInt" ⟨[.int], some .int⟩ [.object "com/example/quiddity/quiddity/rdf/Partition", .int] 5 "com/example/quiddity/quiddity/rdf/Partition" "lambda$join$0" ⟨[.int, .int], some .int⟩ false ⟨[.int], some .int⟩
def own_fc : ByteArray := ⟨#[0x2a, 0xb4, 0x00, 0x11, 0x2a, 0xb4, 0x00, 0x13, 0x1b, 0xb6, 0x00, 0x1b, 0xac]⟩
theorem own_ok : Jvm.LamKit.fwdOK own_sg "com/example/quiddity/quiddity/rdf/Partition" own_fc 2 (some .int) 27 23 = true := by decide +kernel
theorem own_k1 : Jvm.LamKit.capOK own_sg "com/example/quiddity/quiddity/rdf/Partition" 17 0 = true := by decide +kernel
theorem own_k2 : Jvm.LamKit.capOK own_sg "com/example/quiddity/quiddity/rdf/Partition" 19 1 = true := by decide +kernel
theorem own_f0 : decode own_fc 0 = .ok (.aload_n 0, 1) := by decide +kernel
theorem own_f1 : decode own_fc 1 = .ok (.getfield 17, 3) := by decide +kernel
theorem own_f4 : decode own_fc 4 = .ok (.aload_n 0, 1) := by decide +kernel
theorem own_f5 : decode own_fc 5 = .ok (.getfield 19, 3) := by decide +kernel
theorem own_f8 : decode own_fc 8 = .ok (.iload_n 1, 1) := by decide +kernel
theorem own_f9 : decode own_fc 9 = .ok (.invokevirtual 27, 3) := by decide +kernel
theorem own_f12 : decode own_fc 12 = .ok (.ireturn, 1) := by decide +kernel
theorem own_hxi : (⟨"java/util/function/IntUnaryOperator", "applyAsInt", "(I)I"⟩ : MethodName).cls = own_sg.iface ∧ (⟨"java/util/function/IntUnaryOperator", "applyAsInt", "(I)I"⟩ : MethodName).name = own_sg.name ∧ (⟨"java/util/function/IntUnaryOperator", "applyAsInt", "(I)I"⟩ : MethodName).desc = own_sg.sam.toString := by decide +kernel
theorem own_hyy : (⟨"com/example/quiddity/quiddity/rdf/Partition", "lambda$join$0", "(II)I"⟩ : MethodName).cls = own_sg.implClass ∧ (⟨"com/example/quiddity/quiddity/rdf/Partition", "lambda$join$0", "(II)I"⟩ : MethodName).name = own_sg.implName ∧ (⟨"com/example/quiddity/quiddity/rdf/Partition", "lambda$join$0", "(II)I"⟩ : MethodName).desc = own_sg.implDesc.toString := by decide +kernel
theorem own_fit (o : Addr) (k : Int32) : ∀ (i : Nat) (t : FieldType) (v : Value), own_sg.captured[i]? = some t → ([.ref o, .int k] : List Value)[i]? = some v → narrow t v = v ∧ fits t v = true := fun i t v h1 h2 => by
  cases i with
  | zero => cases h1; cases h2; exact ⟨rfl, rfl⟩
  | succ i => cases i with
    | zero => cases h1; cases h2; exact ⟨rfl, rfl⟩
    | succ i => cases h1
def own_A (f : Nat → Nat) : Nat → Value := fun i => .int (Int32.ofNat (f i))
def own_id : Nat → Nat := fun i => i
def own_u (P : Nat → Nat) (c r : Nat) : Nat → Nat := fun i => if i = c then r else P i
def own_g (n : Nat) (P : Nat → Nat) : Nat → Nat := fun i => if i < n then P i else i
def own_mg (R : Nat → Nat) (u v : Nat) : Nat → Nat := fun k => if R k = R u then R v else R k
def own_dd (R d : Nat → Nat) (a b : Nat) : Nat → Nat := fun k => if R k = a then d k + d b + 1 else d k
def own_mx (p q : Nat) : Nat := if p < q then q else p
def own_mk (f : Nat → Nat) (u v k : Nat) : Nat → Nat := fun i => if i < k then own_mg f u v i else f i
def own_wk (c : Nat → Nat) (fr k : Nat) : Nat → Nat := fun j => if j < k then (if j < fr then c j else j) else c j
/-- the parents P (n of them), the roots R and a height d that falls on every way to a root -/
def own_I (n : Nat) (P R d : Nat → Nat) : Prop :=
  n ≤ 6 ∧ (∀ k, k < 4 → R k < 4 ∧ R (R k) = R k ∧ (k < n → P k < 4 ∧ R (P k) = R k ∧ (P k = k ∨ d (P k) < d k)) ∧ (k < n → P k = k → R k = k) ∧ (n ≤ k → R k = k) ∧ (R k = k → k < n → P k = k) ∧ (R k ≠ k → d (R k) < d k)) ∧ ∀ i, 4 ≤ i → i < n → P i = i
/-- the object o holds the parents P in the array ap -/
def own_P (Z : State) (h : Heap) (n0 : Nat) (o ap : Addr) (n : Nat) (P : Nat → Nat) : Prop :=
  Exa Z h o "com/example/quiddity/quiddity/rdf/Partition" ∧ Fld Z h o "com/example/quiddity/quiddity/rdf/Partition" "parent" "[I" (.ref ap) ∧ ArF Z h ap .int n (own_A P) ∧ n0 ≤ o ∧ n0 ≤ ap ∧ o ≠ ap
/-- a place of the locals that takes an int -/
def own_s4 (s4 : Slot) : Prop := ∀ (x0 x1 x2 x3 : Slot) (v : Int32), storeLocals #[x0, x1, x2, x3, s4] 4 (.int v) = some #[x0, x1, x2, x3, .val (.int v)]
theorem own_s4u : own_s4 .unset := fun _ _ _ _ _ => rfl
theorem own_s4i (z : Int32) : own_s4 (.val (.int z)) := fun _ _ _ _ _ => rfl
theorem own_ltI {i n : Nat} (hi : i < 2 ^ 31) (hn : n < 2 ^ 31) : (Int32.ofNat i < Int32.ofNat n) ↔ i < n := by rw [Int32.lt_iff_toInt_lt, own_ofN hi, own_ofN hn]; omega
theorem own_eqI {i j : Nat} (hi : i < 2 ^ 31) (hj : j < 2 ^ 31) : (Int32.ofNat i = Int32.ofNat j) ↔ i = j := by
  constructor
  · intro q
    have e := congrArg Int32.toInt q
    rw [own_ofN hi, own_ofN hj] at e
    omega
  · intro q; rw [q]
theorem own_Ae {f : Nat → Nat} {k : Nat} (h : k < 2 ^ 31) : own_A f (Int32.ofNat k).toNatClampNeg = .int (Int32.ofNat (f k)) := by unfold own_A; rw [own_ofC h]
theorem own_dblN (n : Nat) : (2 : Int32) * Int32.ofNat n = Int32.ofNat (2 * n) := (Int32.ofNat_mul 2 n).symm
theorem own_and3 (z : Int32) : ∃ k, k < 4 ∧ z &&& (3 : Int32) = Int32.ofNat k := by
  have h := c_mask z 3 2 (by decide) (by decide +kernel)
  have h1 : 0 ≤ (z &&& (3 : Int32)).toInt := by omega
  have h2 := own_nat h1
  refine ⟨(z &&& (3 : Int32)).toNatClampNeg, by omega, ?_⟩
  apply Int32.toInt_inj.mp
  rw [own_ofN (by omega)]
  exact h2.symm
theorem own_m31 (z : Int32) : 0 ≤ (z &&& (2147483647 : Int32)).toInt := by
  have h := c_mask z 2147483647 31 (by decide) (by decide +kernel); omega
theorem own_le3 {k : Nat} (h : k < 4) : ¬ (3 : Int32) < Int32.ofNat k := by
  rw [Int32.lt_iff_toInt_lt, own_ofN (by omega)]
  have : (3 : Int32).toInt = 3 := rfl
  omega
theorem own_big1 {z : Int32} (h : ¬ z < (4 : Int32)) : 4 ≤ z.toInt := by
  rw [Int32.lt_iff_toInt_lt] at h
  have : (4 : Int32).toInt = 4 := rfl
  omega
theorem own_big2 {z : Int32} (h0 : 0 ≤ z.toInt) (h : z < (4 : Int32)) : 4 ≤ (z + (4 : Int32)).toInt := by
  rw [Int32.lt_iff_toInt_lt] at h
  have e : (4 : Int32).toInt = 4 := rfl
  have := c_iadd z 4
  have := rng32 (z + 4)
  omega
theorem own_updA {Z : State} {h : Heap} {a : Addr} {n c r : Nat} {P : Nat → Nat} (hc : c < 2 ^ 31) (F : ArF Z h a .int n (upd (own_A P) (Int32.ofNat c).toNatClampNeg (.int (Int32.ofNat r)))) : ArF Z h a .int n (own_A (own_u P c r)) := F.congr fun i _ => by
  unfold upd own_A own_u
  rw [own_ofC hc]
  by_cases q : i = c
  · rw [if_pos q, if_pos q]
  · rw [if_neg q, if_neg q]
theorem own_wkS {Z : State} {h : Heap} {a : Addr} {n fr i : Nat} {f : Nat → Nat} (hi : i < 2 ^ 31) (F : ArF Z h a .int n (upd (own_A (own_wk f fr i)) (Int32.ofNat i).toNatClampNeg (.int (Int32.ofNat (if i < fr then own_wk f fr i i else i))))) : ArF Z h a .int n (own_A (own_wk f fr (i + 1))) := F.congr fun j _ => by
  have e1 : own_wk f fr i i = f i := if_neg (Nat.lt_irrefl i)
  rw [e1, own_ofC hi]
  unfold upd own_A
  by_cases q : j = i
  · subst q
    have e2 : own_wk f fr (j + 1) j = if j < fr then f j else j := if_pos (Nat.lt_succ_self j)
    rw [if_pos rfl, e2]
  · rw [if_neg q]
    have e : own_wk f fr (i + 1) j = own_wk f fr i j := by
      unfold own_wk
      by_cases w : j < i
      · rw [if_pos w, if_pos (by omega)]
      · rw [if_neg w, if_neg (by omega)]
    rw [e]
theorem own_wkg (P : Nat → Nat) {n M : Nat} : ∀ i, i < M → own_A (own_wk (fun i => if i < n then P i else 0) n M) i = own_A (own_g n P) i := fun i hi => by
  unfold own_A own_wk own_g
  rw [if_pos hi]
  by_cases q : i < n
  · rw [if_pos q, if_pos q]
    show Value.int (Int32.ofNat (if i < n then P i else 0)) = _
    rw [if_pos q]
  · rw [if_neg q, if_neg q]
theorem own_mkk (f : Nat → Nat) (u v : Nat) {k : Nat} {j : Int32} (e : j.toNatClampNeg = k) : own_A (own_mk f u v k) j.toNatClampNeg = .int (Int32.ofNat (f k)) := by
  rw [e]
  unfold own_A own_mk
  rw [if_neg (Nat.lt_irrefl k)]
theorem own_mk0 (f : Nat → Nat) (u v : Nat) : ∀ i, i < 4 → own_A f i = own_A (own_mk f u v 0) i := fun i _ => by
  unfold own_A own_mk
  rw [if_neg (Nat.not_lt_zero i)]
theorem own_mk4 (f : Nat → Nat) (u v : Nat) : ∀ i, i < 4 → own_A (own_mk f u v 4) i = own_A (own_mg f u v) i := fun i hi => by
  unfold own_A own_mk
  rw [if_pos hi]
theorem own_mkN {f : Nat → Nat} {u v k : Nat} (h : f k ≠ f u) : ∀ i, i < 4 → own_A (own_mk f u v k) i = own_A (own_mk f u v (k + 1)) i := fun i _ => by
  unfold own_A own_mk
  by_cases q : i < k
  · rw [if_pos q, if_pos (by omega)]
  · rw [if_neg q]
    by_cases w : i = k
    · subst w
      rw [if_pos (Nat.lt_succ_self i)]
      unfold own_mg
      rw [if_neg h]
    · rw [if_neg (by omega)]
theorem own_mkS {f : Nat → Nat} {u v k : Nat} {j : Int32} (e : j.toNatClampNeg = k) (h : f k = f u) : ∀ i, i < 4 → upd (own_A (own_mk f u v k)) j.toNatClampNeg (.int (Int32.ofNat (f v))) i = own_A (own_mk f u v (k + 1)) i := fun i _ => by
  rw [e]
  unfold upd own_A own_mk
  by_cases w : i = k
  · subst w
    rw [if_pos rfl, if_pos (Nat.lt_succ_self i)]
    unfold own_mg
    rw [if_pos h]
  · rw [if_neg w]
    by_cases q : i < k
    · rw [if_pos q, if_pos (by omega)]
    · rw [if_neg q, if_neg (by omega)]
theorem own_lab0 : ∀ i, i < 4 → upd (upd (upd (upd (fun _ => Value.int (0 : Int32)) (0 : Int32).toNatClampNeg (.int (0 : Int32))) (1 : Int32).toNatClampNeg (.int (1 : Int32))) (2 : Int32).toNatClampNeg (.int (2 : Int32))) (3 : Int32).toNatClampNeg (.int (3 : Int32)) i = own_A own_id i := fun i hi => by
  have e0 : (0 : Int32).toNatClampNeg = 0 := by decide
  have e1 : (1 : Int32).toNatClampNeg = 1 := by decide
  have e2 : (2 : Int32).toNatClampNeg = 2 := by decide
  have e3 : (3 : Int32).toNatClampNeg = 3 := by decide
  rw [e0, e1, e2, e3]
  match i, hi with
  | 0, _ => rfl
  | 1, _ => rfl
  | 2, _ => rfl
  | 3, _ => rfl
  | (q + 4), h => exact absurd h (by omega)
theorem own_mg_lt {f : Nat → Nat} {u v : Nat} (hf : ∀ i, i < 4 → f i < 4) (hv : v < 4) : ∀ i, i < 4 → own_mg f u v i < 4 := fun i hi => by
  unfold own_mg
  by_cases q : f i = f u
  · rw [if_pos q]; exact hf v hv
  · rw [if_neg q]; exact hf i hi
theorem own_mg_eq {R : Nat → Nat} {u v : Nat} (e : R u = R v) : own_mg R u v = R := funext fun k => by
  unfold own_mg
  by_cases q : R k = R u
  · rw [if_pos q]; exact (q.trans e).symm
  · rw [if_neg q]
theorem own_I0 : own_I 0 (fun _ => 0) own_id (fun _ => 0) := ⟨by decide, fun k hk => ⟨hk, rfl, fun q => absurd q (Nat.not_lt_zero k), fun q => absurd q (Nat.not_lt_zero k), fun _ => rfl, fun _ q => absurd q (Nat.not_lt_zero k), fun q => absurd rfl q⟩, fun i _ q => absurd q (Nat.not_lt_zero i)⟩
section OwnPlain
variable {n : Nat} {P R d : Nat → Nat}
theorem own_I_go (I : own_I n P R d) {y : Nat} (hy : y < 4) (hn : y < n) (hp : P y ≠ y) : P y < 4 ∧ R (P y) = R y ∧ d (P y) < d y := by
  obtain ⟨-, -, h3, -⟩ := I.2.1 y hy
  obtain ⟨a, b, c⟩ := h3 hn
  exact ⟨a, b, c.resolve_left hp⟩
theorem own_I_b (I : own_I n P R d) {y : Nat} (hy : y < 4) (hn : y < n) : P y < 4 := ((I.2.1 y hy).2.2.1 hn).1
theorem own_I_top1 (I : own_I n P R d) {y : Nat} (hy : y < 4) (hn : ¬ y < n) : R y = y := (I.2.1 y hy).2.2.2.2.1 (Nat.le_of_not_lt hn)
theorem own_I_top2 (I : own_I n P R d) {y : Nat} (hy : y < 4) (hn : y < n) (hp : P y = y) : R y = y := (I.2.1 y hy).2.2.2.1 hn hp
theorem own_bigE (I : own_I n P R d) {g : Int32} (h4 : 4 ≤ g.toInt) (hn : g.toInt < n) : own_A P g.toNatClampNeg = .int g := by
  have e := own_nat (j := g) (by omega)
  have i6 := I.1
  unfold own_A
  rw [I.2.2 g.toNatClampNeg (by omega) (by omega)]
  have q : Int32.ofNat g.toNatClampNeg = g := Int32.toInt_inj.mp (by rw [own_ofN (by omega)]; exact e)
  rw [q]
theorem own_I_short (I : own_I n P R d) {c : Nat} (hc : c < 4) (hn : c < n) (hp : P c ≠ R c) : own_I n (own_u P c (R c)) R d ∧ P c < 4 ∧ R (P c) = R c ∧ d (P c) < d c := by
  obtain ⟨r1, r2, r3, r4, r5, r6, r7⟩ := I.2.1 c hc
  have hne : R c ≠ c := fun q => hp ((r6 q hn).trans q.symm)
  obtain ⟨p1, p2, p3⟩ := r3 hn
  have hpc : P c ≠ c := fun q => hne (r4 hn q)
  refine ⟨⟨I.1, fun k hk => ?_, fun i h4 hi => ?_⟩, p1, p2, p3.resolve_left hpc⟩
  · obtain ⟨s1, s2, s3, s4, s5, s6, s7⟩ := I.2.1 k hk
    by_cases q : k = c
    · subst q
      have e : own_u P k (R k) k = R k := if_pos rfl
      rw [e]
      exact ⟨s1, s2, fun _ => ⟨s1, s2, Or.inr (s7 hne)⟩, fun _ q => absurd q hne, s5, fun q => absurd q hne, s7⟩
    · have e : own_u P c (R c) k = P k := if_neg q
      rw [e]; exact ⟨s1, s2, s3, s4, s5, s6, s7⟩
  · have e : own_u P c (R c) i = P i := if_neg (by omega)
    rw [e]; exact I.2.2 i h4 hi
theorem own_I_grow (I : own_I n P R d) {a : Nat} (ha : n ≤ a) (ha4 : a < 4) : own_I (own_mx (a + 1) (2 * n)) (own_g n P) R d ∧ a < own_mx (a + 1) (2 * n) := by
  have hm : own_mx (a + 1) (2 * n) ≤ 6 := by unfold own_mx; split <;> omega
  have hl : a < own_mx (a + 1) (2 * n) := by unfold own_mx; split <;> omega
  refine ⟨⟨hm, fun k hk => ?_, fun i h4 hi => ?_⟩, hl⟩
  · obtain ⟨s1, s2, s3, s4, s5, s6, s7⟩ := I.2.1 k hk
    by_cases q : k < n
    · have e : own_g n P k = P k := if_pos q
      rw [e]
      exact ⟨s1, s2, fun _ => s3 q, fun _ => s4 q, fun h => absurd h (by omega), fun h _ => s6 h q, s7⟩
    · have e : own_g n P k = k := if_neg q
      have z := s5 (by omega)
      rw [e]; exact ⟨s1, s2, fun _ => ⟨hk, rfl, Or.inl rfl⟩, fun _ _ => z, fun _ => z, fun _ _ => rfl, s7⟩
  · by_cases q : i < n
    · have e : own_g n P i = P i := if_pos q
      rw [e]; exact I.2.2 i h4 q
    · exact if_neg q
theorem own_I_join (I : own_I n P R d) {u v : Nat} (hu : u < 4) (hv : v < 4) (ha : R u < n) (hne : R u ≠ R v) : own_I n (own_u P (R u) (R v)) (own_mg R u v) (own_dd R d (R u) (R v)) := by
  obtain ⟨a1, a2, -⟩ := I.2.1 u hu
  obtain ⟨b1, b2, -⟩ := I.2.1 v hv
  have hba : R (R v) ≠ R u := by rw [b2]; exact fun q => hne q.symm
  have mA : ∀ k, R k = R u → own_mg R u v k = R v := fun k h => if_pos h
  have mN : ∀ k, R k ≠ R u → own_mg R u v k = R k := fun k h => if_neg h
  have dA : ∀ k, R k = R u → own_dd R d (R u) (R v) k = d k + d (R v) + 1 := fun k h => if_pos h
  have dN : ∀ k, R k ≠ R u → own_dd R d (R u) (R v) k = d k := fun k h => if_neg h
  have uA : own_u P (R u) (R v) (R u) = R v := if_pos rfl
  have uN : ∀ k, k ≠ R u → own_u P (R u) (R v) k = P k := fun k h => if_neg h
  have mb : own_mg R u v (R v) = R v := by rw [mN _ hba, b2]
  have db : own_dd R d (R u) (R v) (R v) = d (R v) := dN _ hba
  refine ⟨I.1, fun k hk => ?_, fun i h4 hi => ?_⟩
  · obtain ⟨s1, s2, s3, s4, s5, s6, s7⟩ := I.2.1 k hk
    by_cases q : R k = R u
    · rw [mA k q, mb, db, dA k q]
      refine ⟨b1, rfl, fun hn => ?_, fun hn hp => ?_, fun hn => ?_, fun hp hn => ?_, fun _ => by omega⟩
      · by_cases w : k = R u
        · rw [w, uA]; exact ⟨b1, mb, Or.inr (by rw [db]; omega)⟩
        · rw [uN k w]
          obtain ⟨p1, p2, p3⟩ := s3 hn
          have e : R (P k) = R u := p2.trans q
          refine ⟨p1, mA _ e, ?_⟩
          rw [dA _ e]
          rcases p3 with p3 | p3
          · exact Or.inl p3
          · exact Or.inr (by omega)
      · by_cases w : k = R u
        · rw [w, uA] at hp; exact absurd hp.symm hne
        · rw [uN k w] at hp; exact absurd ((s4 hn hp).symm.trans q) w
      · exact absurd ((s5 hn).symm.trans q) (fun e => by omega)
      · rw [← hp] at q; exact absurd q hba
    · have w : k ≠ R u := fun e => q (by rw [e]; exact a2)
      rw [mN k q, uN k w, mN (R k) (by rw [s2]; exact q), dN k q, dN (R k) (by rw [s2]; exact q)]
      refine ⟨s1, s2, fun hn => ?_, s4, s5, s6, s7⟩
      obtain ⟨p1, p2, p3⟩ := s3 hn
      have e : R (P k) ≠ R u := by rw [p2]; exact q
      rw [mN _ e, dN _ e]; exact ⟨p1, p2, p3⟩
  · rw [uN i (by omega)]; exact I.2.2 i h4 hi
end OwnPlain

theorem own_pn0 : plainFor (⟨"java/lang/Math", "max", "(II)I"⟩ : MethodName) = true := by first | exact plainFor_of_name (by first | (simp [plainName, overriddenIn, x]; done) | decide +kernel) | decide +kernel
theorem ef_6 (m : MethodId) (q0 : Int32) (q1 : Int32) : entryFrame m #[(.int q0), (.int q1)] 2 = mkF m 0 #[.val (.int q0), .val (.int q1)] [] := by first | (simp [entryFrame, mkF, argsToLocals, Value.category, maxLocals]; done) | rfl
theorem d6_0 : decode jdk_29_method_65_code 0 = .ok (.iload_n 0, 1) := by decide +kernel
theorem d6_1 : decode jdk_29_method_65_code 1 = .ok (.iload_n 1, 1) := by decide +kernel
theorem d6_2 : decode jdk_29_method_65_code 2 = .ok (.if_icmp .lt 7, 3) := by decide +kernel
theorem d6_9 : decode jdk_29_method_65_code 9 = .ok (.iload_n 1, 1) := by decide +kernel
theorem d6_10 : decode jdk_29_method_65_code 10 = .ok (.ireturn, 1) := by decide +kernel
theorem d6_5 : decode jdk_29_method_65_code 5 = .ok (.iload_n 0, 1) := by decide +kernel
theorem d6_6 : decode jdk_29_method_65_code 6 = .ok (.goto 4, 3) := by decide +kernel
set_option maxRecDepth 65536 in
set_option maxHeartbeats 40000000 in
theorem own_c6 (l : Launch) (Z : State) (a0 : Array Value) (hw : ∀ d ∈ tables_1, d.before a0 Z = true) (np nq : Nat) (hp : np < 100) (hq : nq < 100) (h0 : Heap) :
    Con l Z (⟨"java/lang/Math", "max", "(II)I"⟩ : MethodName) jdk_29_method_65_code 2 (some .int) [] ({ frames := 0, cells := 0, slots := 0, locals := 0 } : Room) 0 0 #[(.int (Int32.ofNat np)), (.int (Int32.ofNat nq))] h0 (fun r h L => r = some (.int (Int32.ofNat (own_mx np nq))) ∧ h = h0 ∧ L = []) := by
  refine Con.of own_pn0 ?_
  intro pg ev s_ m bl mt cd s₁ hx hby hml hown hnm hret hlk hZ X0 e0
  rw [ef_6]
  show Gd _ _ _ _ (s₁.setTop (mkF m 0 #[.val (.int (Int32.ofNat np)), .val (.int (Int32.ofNat nq))] []))
  refine Gd.go (fun _ w_k => XS.iloadN X0.here hx rfl (hb hby d6_0) rfl (XS.iloadN X0.here hx rfl (hb hby d6_1) rfl w_k)) ?_
  show Gd _ _ _ _ (s₁.setTop (mkF m 2 #[.val (.int (Int32.ofNat np)), .val (.int (Int32.ofNat nq))] [(.int (Int32.ofNat nq)), (.int (Int32.ofNat np))]))
  by_cases hc1 : (Int32.ofNat np) < (Int32.ofNat nq)
  · refine Gd.go (fun _ w_k => XS.icmpYes X0.here hx rfl (pc0 := 2) (pc' := 9) rfl (hb hby d6_2) rfl (tlt hc1).1 (by decide) (by decide) w_k) ?_
    show Gd _ _ _ _ (s₁.setTop (mkF m 9 #[.val (.int (Int32.ofNat np)), .val (.int (Int32.ofNat nq))] []))
    refine Gd.go (fun _ w_k => XS.iloadN X0.here hx rfl (hb hby d6_9) rfl w_k) ?_
    show Gd _ _ _ _ (s₁.setTop (mkF m 10 #[.val (.int (Int32.ofNat np)), .val (.int (Int32.ofNat nq))] [(.int (Int32.ofNat nq))]))
    refine own_retI X0 hx hret hlk (hb hby d6_10) ?_ (by decide) (by decide)
    exact ⟨by unfold own_mx; rw [if_pos ((own_ltI (by omega) (by omega)).mp hc1)], e0, rfl⟩
  · refine Gd.go (fun _ w_k => XS.icmpNo X0.here hx rfl (hb hby d6_2) rfl (flt hc1).1 w_k) ?_
    show Gd _ _ _ _ (s₁.setTop (mkF m 5 #[.val (.int (Int32.ofNat np)), .val (.int (Int32.ofNat nq))] []))
    refine Gd.go (fun _ w_k => XS.iloadN X0.here hx rfl (hb hby d6_5) rfl (XS.goto X0.here hx rfl (pc0 := 6) (pc' := 10) rfl (hb hby d6_6) (by decide) (by decide) w_k)) ?_
    show Gd _ _ _ _ (s₁.setTop (mkF m 10 #[.val (.int (Int32.ofNat np)), .val (.int (Int32.ofNat nq))] [(.int (Int32.ofNat np))]))
    refine own_retI X0 hx hret hlk (hb hby d6_10) ?_ (by decide) (by decide)
    exact ⟨by unfold own_mx; rw [if_neg (fun z => hc1 ((own_ltI (by omega) (by omega)).mpr z))], e0, rfl⟩
theorem own_pn1 : plainFor (⟨"java/lang/Math", "min", "(II)I"⟩ : MethodName) = true := by first | exact plainFor_of_name (by first | (simp [plainName, overriddenIn, x]; done) | decide +kernel) | decide +kernel
theorem ef_8 (m : MethodId) (q0 : Int32) (q1 : Int32) : entryFrame m #[(.int q0), (.int q1)] 2 = mkF m 0 #[.val (.int q0), .val (.int q1)] [] := by first | (simp [entryFrame, mkF, argsToLocals, Value.category, maxLocals]; done) | rfl
theorem d8_0 : decode jdk_29_method_69_code 0 = .ok (.iload_n 0, 1) := by decide +kernel
theorem d8_1 : decode jdk_29_method_69_code 1 = .ok (.iload_n 1, 1) := by decide +kernel
theorem d8_2 : decode jdk_29_method_69_code 2 = .ok (.if_icmp .gt 7, 3) := by decide +kernel
theorem d8_9 : decode jdk_29_method_69_code 9 = .ok (.iload_n 1, 1) := by decide +kernel
theorem d8_10 : decode jdk_29_method_69_code 10 = .ok (.ireturn, 1) := by decide +kernel
theorem d8_5 : decode jdk_29_method_69_code 5 = .ok (.iload_n 0, 1) := by decide +kernel
theorem d8_6 : decode jdk_29_method_69_code 6 = .ok (.goto 4, 3) := by decide +kernel
set_option maxRecDepth 65536 in
set_option maxHeartbeats 40000000 in
theorem own_c8 (l : Launch) (Z : State) (a0 : Array Value) (hw : ∀ d ∈ tables_1, d.before a0 Z = true) (ma mb : Int32) (h0 : Heap) :
    Con l Z (⟨"java/lang/Math", "min", "(II)I"⟩ : MethodName) jdk_29_method_69_code 2 (some .int) [] ({ frames := 0, cells := 0, slots := 0, locals := 0 } : Room) 0 0 #[(.int ma), (.int mb)] h0 (fun r h L => r = some (.int (if mb < ma then mb else ma)) ∧ h = h0 ∧ L = []) := by
  refine Con.of own_pn1 ?_
  intro pg ev s_ m bl mt cd s₁ hx hby hml hown hnm hret hlk hZ X0 e0
  rw [ef_8]
  show Gd _ _ _ _ (s₁.setTop (mkF m 0 #[.val (.int ma), .val (.int mb)] []))
  refine Gd.go (fun _ w_k => XS.iloadN X0.here hx rfl (hb hby d8_0) rfl (XS.iloadN X0.here hx rfl (hb hby d8_1) rfl w_k)) ?_
  show Gd _ _ _ _ (s₁.setTop (mkF m 2 #[.val (.int ma), .val (.int mb)] [(.int mb), (.int ma)]))
  by_cases hc1 : mb < ma
  · refine Gd.go (fun _ w_k => XS.icmpYes X0.here hx rfl (pc0 := 2) (pc' := 9) rfl (hb hby d8_2) rfl (tlt hc1).2.2.1 (by decide) (by decide) w_k) ?_
    show Gd _ _ _ _ (s₁.setTop (mkF m 9 #[.val (.int ma), .val (.int mb)] []))
    refine Gd.go (fun _ w_k => XS.iloadN X0.here hx rfl (hb hby d8_9) rfl w_k) ?_
    show Gd _ _ _ _ (s₁.setTop (mkF m 10 #[.val (.int ma), .val (.int mb)] [(.int mb)]))
    refine own_retI X0 hx hret hlk (hb hby d8_10) ?_ (by decide) (by decide)
    exact ⟨by rw [if_pos hc1], e0, rfl⟩
  · refine Gd.go (fun _ w_k => XS.icmpNo X0.here hx rfl (hb hby d8_2) rfl (flt hc1).2.2.1 w_k) ?_
    show Gd _ _ _ _ (s₁.setTop (mkF m 5 #[.val (.int ma), .val (.int mb)] []))
    refine Gd.go (fun _ w_k => XS.iloadN X0.here hx rfl (hb hby d8_5) rfl (XS.goto X0.here hx rfl (pc0 := 6) (pc' := 10) rfl (hb hby d8_6) (by decide) (by decide) w_k)) ?_
    show Gd _ _ _ _ (s₁.setTop (mkF m 10 #[.val (.int ma), .val (.int mb)] [(.int ma)]))
    refine own_retI X0 hx hret hlk (hb hby d8_10) ?_ (by decide) (by decide)
    exact ⟨by rw [if_neg hc1], e0, rfl⟩
theorem own_pn2 : plainFor (⟨"java/util/Objects", "requireNonNull", "(Ljava/lang/Object;)Ljava/lang/Object;"⟩ : MethodName) = true := by first | exact plainFor_of_name (by first | (simp [plainName, overriddenIn, x]; done) | decide +kernel) | decide +kernel
theorem ef_10 (m : MethodId) (q0 : Addr) : entryFrame m #[(.ref q0)] 1 = mkF m 0 #[.val (.ref q0)] [] := by first | (simp [entryFrame, mkF, argsToLocals, Value.category, maxLocals]; done) | rfl
theorem d10_0 : decode jdk_31_method_10_code 0 = .ok (.aload_n 0, 1) := by decide +kernel
theorem d10_1 : decode jdk_31_method_10_code 1 = .ok (.ifnonnull 11, 3) := by decide +kernel
theorem d10_12 : decode jdk_31_method_10_code 12 = .ok (.aload_n 0, 1) := by decide +kernel
theorem d10_13 : decode jdk_31_method_10_code 13 = .ok (.areturn, 1) := by decide +kernel
set_option maxRecDepth 65536 in
set_option maxHeartbeats 40000000 in
theorem own_c10 (l : Launch) (Z : State) (a0 : Array Value) (hw : ∀ d ∈ tables_1, d.before a0 Z = true) (ob : Addr) (h0 : Heap) :
    Con l Z (⟨"java/util/Objects", "requireNonNull", "(Ljava/lang/Object;)Ljava/lang/Object;"⟩ : MethodName) jdk_31_method_10_code 1 (some (.object "java/lang/Object")) [] ({ frames := 0, cells := 0, slots := 0, locals := 0 } : Room) 0 0 #[(.ref ob)] h0 (fun r h L => r = some (.ref ob) ∧ h = h0 ∧ L = []) := by
  refine Con.of own_pn2 ?_
  intro pg ev s_ m bl mt cd s₁ hx hby hml hown hnm hret hlk hZ X0 e0
  rw [ef_10]
  show Gd _ _ _ _ (s₁.setTop (mkF m 0 #[.val (.ref ob)] []))
  refine Gd.go (fun _ w_k => XS.aloadN X0.here hx rfl (hb hby d10_0) rfl rfl (XS.ifnonnullYes X0.here hx rfl (pc0 := 1) (pc' := 12) rfl (hb hby d10_1) rfl (by decide) (by decide) (XS.aloadN X0.here hx rfl (hb hby d10_12) rfl rfl w_k))) ?_
  show Gd _ _ _ _ (s₁.setTop (mkF m 13 #[.val (.ref ob)] [(.ref ob)]))
  refine own_retA X0 hx hret hlk rfl (hb hby d10_13) ?_ (by decide) (by decide)
  exact ⟨rfl, e0, rfl⟩
theorem own_pn3 : plainFor (⟨"java/util/Arrays", "copyOf", "([II)[I"⟩ : MethodName) = true := by first | exact plainFor_of_name (by first | (simp [plainName, overriddenIn, x]; done) | decide +kernel) | decide +kernel
theorem ef_7 (m : MethodId) (q0 : Addr) (q1 : Int32) : entryFrame m #[(.ref q0), (.int q1)] 3 = mkF m 0 #[.val (.ref q0), .val (.int q1), .unset] [] := by first | (simp [entryFrame, mkF, argsToLocals, Value.category, maxLocals]; done) | rfl
theorem d7_0 : decode jdk_65_method_123_code 0 = .ok (.iload_n 1, 1) := by decide +kernel
theorem d7_1 : decode jdk_65_method_123_code 1 = .ok (.aload_n 0, 1) := by decide +kernel
theorem d7_2 : decode jdk_65_method_123_code 2 = .ok (.arraylength, 1) := by decide +kernel
theorem d7_3 : decode jdk_65_method_123_code 3 = .ok (.if_icmp .ne 11, 3) := by decide +kernel
theorem d7_14 : decode jdk_65_method_123_code 14 = .ok (.iload_n 1, 1) := by decide +kernel
theorem d7_15 : decode jdk_65_method_123_code 15 = .ok (.newarray .int, 2) := by decide +kernel
theorem d7_17 : decode jdk_65_method_123_code 17 = .ok (.astore_n 2, 1) := by decide +kernel
theorem d7_18 : decode jdk_65_method_123_code 18 = .ok (.aload_n 0, 1) := by decide +kernel
theorem d7_19 : decode jdk_65_method_123_code 19 = .ok (.iconst 0, 1) := by decide +kernel
theorem d7_20 : decode jdk_65_method_123_code 20 = .ok (.aload_n 2, 1) := by decide +kernel
theorem d7_21 : decode jdk_65_method_123_code 21 = .ok (.iconst 0, 1) := by decide +kernel
theorem d7_22 : decode jdk_65_method_123_code 22 = .ok (.aload_n 0, 1) := by decide +kernel
theorem d7_23 : decode jdk_65_method_123_code 23 = .ok (.arraylength, 1) := by decide +kernel
theorem d7_24 : decode jdk_65_method_123_code 24 = .ok (.iload_n 1, 1) := by decide +kernel
theorem own_pd0 : parseMethodDescriptor "(II)I" = some ⟨[.int, .int], some .int⟩ := by decide +kernel
theorem d7_25 : decode jdk_65_method_123_code 25 = .ok (.invokestatic 304, 3) := by decide +kernel
theorem d7_28 : decode jdk_65_method_123_code 28 = .ok (.invokestatic 150, 3) := by decide +kernel
theorem d7_31 : decode jdk_65_method_123_code 31 = .ok (.aload_n 2, 1) := by decide +kernel
theorem d7_32 : decode jdk_65_method_123_code 32 = .ok (.areturn, 1) := by decide +kernel
set_option maxRecDepth 65536 in
set_option maxHeartbeats 40000000 in
theorem own_c7 (l : Launch) (Z : State) (a0 : Array Value) (hw : ∀ d ∈ tables_1, d.before a0 Z = true) (a : Addr) (n : Nat) (f : Nat → Nat) (N : Int32) (hN : (n : Int) < N.toInt ∧ N.toInt ≤ 6) (h0 : Heap) (n0 : Nat) (Z0 : n0 ≤ h0.size) (A0 : ArF Z h0 a .int n (own_A f)) :
    Con l Z (⟨"java/util/Arrays", "copyOf", "([II)[I"⟩ : MethodName) jdk_65_method_123_code 3 (some (.array .int)) [] ({ frames := 1, cells := 1, slots := 6, locals := 60 } : Room) 1 6 #[(.ref a), (.int N)] h0 (fun r h L => ∃ b, r = some (.ref b) ∧ h0.size ≤ b ∧ Keep h0 h [] ∧ ArF Z h b .int N.toNatClampNeg (own_A (fun i => if i < n then f i else 0)) ∧ Fr n0 L) := by
  refine Con.of own_pn3 ?_
  intro pg ev s_ m bl mt cd s₁ hx hby hml hown hnm hret hlk hZ X0 e0
  rw [ef_7]
  show Gd _ _ _ _ (s₁.setTop (mkF m 0 #[.val (.ref a), .val (.int N), .unset] []))
  have hn := A0.n31
  have NN := own_nat (j := N) (by omega)
  have Nn : ¬ N < 0 := by rw [Int32.lt_iff_toInt_lt]; have : (0 : Int32).toInt = 0 := rfl; omega
  have Nc : N.toNatClampNeg ≤ 6 := by omega
  have cn := own_ofN hn
  have cc := own_ofC hn
  have N0 := Fr.nil n0
  have K0 := Keep.refl h0 []
  refine Gd.go (fun _ w_k => XS.iloadN X0.here hx rfl (hb hby d7_0) rfl (XS.aloadN X0.here hx rfl (hb hby d7_1) rfl rfl (own_len X0 hx hZ e0 A0 (z := (Int32.ofNat n)) rfl (g := (mkF m 2 #[.val (.ref a), .val (.int N), .unset] [(.ref a), (.int N)])) rfl rfl (hb hby d7_2) _ (XS.icmpYes X0.here hx rfl (pc0 := 3) (pc' := 14) rfl (hb hby d7_3) rfl (feq (fun q => by have e := congrArg Int32.toInt q; rw [cn] at e; omega)).2 (by decide) (by decide) w_k)))) ?_
  show Gd _ _ _ _ (s₁.setTop (mkF m 14 #[.val (.ref a), .val (.int N), .unset] []))
  refine Gd.go (fun _ w_k => XS.iloadN X0.here hx rfl (hb hby d7_14) rfl w_k) ?_
  show Gd _ _ _ _ (s₁.setTop (mkF m 15 #[.val (.ref a), .val (.int N), .unset] [(.int N)]))
  obtain ⟨T1, h1, k1, X1, e1, E1, A1, st1⟩ := newP X0 hx hZ (ow hw 1 rfl) e0 (g := (mkF m 15 #[.val (.ref a), .val (.int N), .unset] [(.int N)])) rfl (hb hby d7_15) rfl Nn (cap := 6) Nc (by decide) (by decide) (by decide)
  obtain ⟨b1, g1⟩ : ∃ z, z = h0.size := ⟨_, rfl⟩
  rw [← g1] at A1 st1
  have ne_a_b1 : a ≠ b1 := fun q => Nat.lt_irrefl _ (Nat.lt_of_lt_of_le A0.lt (Nat.le_of_eq (q.trans g1).symm))
  have n0_b1 : n0 ≤ b1 := Nat.le_trans Z0 (Nat.le_of_eq g1.symm)
  have kn_b1 : h0.size ≤ b1 := Nat.le_trans K0.1 (Nat.le_of_eq g1.symm)
  have xF2 := A0.ext E1
  have xZs3 := Nat.le_trans Z0 E1.1
  have xK4 := Keep.ext K0 E1
  have xF5 : ArF Z h1 b1 .int (N).toNatClampNeg (fun _ => (.int (0 : Int32))) := own_new (h := h0) A1 Nn
  refine Gd.go (fun _ w_k => st1 _ (XS.astoreN X1.here hx rfl (hb hby d7_17) rfl rfl (l' := #[.val (.ref a), .val (.int N), .val (.ref b1)]) rfl (XS.aloadN X1.here hx rfl (hb hby d7_18) rfl rfl (XS.iconst X1.here hx rfl (hb hby d7_19) (XS.aloadN X1.here hx rfl (hb hby d7_20) rfl rfl (XS.iconst X1.here hx rfl (hb hby d7_21) (XS.aloadN X1.here hx rfl (hb hby d7_22) rfl rfl (own_len X1 hx hZ e1 xF2 (z := (Int32.ofNat n)) rfl (g := (mkF m 23 #[.val (.ref a), .val (.int N), .val (.ref b1)] [(.ref a), (.int (0 : Int32)), (.ref b1), (.int (0 : Int32)), (.ref a)])) rfl rfl (hb hby d7_23) _ (XS.iloadN X1.here hx rfl (hb hby d7_24) rfl w_k))))))))) ?_
  show Gd _ _ _ _ (T1.setTop (mkF m 25 #[.val (.ref a), .val (.int N), .val (.ref b1)] [(.int N), (.int (Int32.ofNat n)), (.int (0 : Int32)), (.ref b1), (.int (0 : Int32)), (.ref a)]))
  obtain ⟨T6, X6, e6, st6⟩ := own_callSP X1 hx hZ (y := (⟨"java/lang/Math", "min", "(II)I"⟩ : MethodName)) hown (ow hw 36 rfl) (ow hw 37 rfl) (ow hw 30 rfl) (ow hw 38 rfl) (by decide) (W := 4) (own_c8 l Z a0 hw (Int32.ofNat n) N h1) rfl rfl e1 (by decide) (by decide) (g := (mkF m 25 #[.val (.ref a), .val (.int N), .val (.ref b1)] [(.int N), (.int (Int32.ofNat n)), (.int (0 : Int32)), (.ref b1), (.int (0 : Int32)), (.ref a)])) rfl (by rw [hml]; rfl) (argsL := [(.int (Int32.ofNat n)), (.int N)]) (rest := [(.int (0 : Int32)), (.ref b1), (.int (0 : Int32)), (.ref a)]) (lenOf own_pd0 rfl) rfl (Nat.le_of_eq rfl) (hb hby d7_25) rfl
  refine Gd.go (fun _ w_k => st6 _ w_k) ?_
  show Gd _ _ _ _ (T6.setTop (mkF m 28 #[.val (.ref a), .val (.int N), .val (.ref b1)] [(.int (if N < Int32.ofNat n then N else Int32.ofNat n)), (.int (0 : Int32)), (.ref b1), (.int (0 : Int32)), (.ref a)]))
  rw [if_neg (show ¬ N < Int32.ofNat n by rw [Int32.lt_iff_toInt_lt, cn]; omega)]
  show Gd _ _ _ _ (T6.setTop (mkF m 28 #[.val (.ref a), .val (.int N), .val (.ref b1)] [(.int (Int32.ofNat n)), (.int (0 : Int32)), (.ref b1), (.int (0 : Int32)), (.ref a)]))
  obtain ⟨T7, h7, L7, X7, e7, Nc7, Kc7, Ac7, st7⟩ := own_cp X6 hx hZ hown (ow hw 39 rfl) (ow hw 42 rfl) (ow hw 40 rfl) (ow hw 41 rfl) e6 (ty := .int) rfl xF2 xF5 (fun _ _ => rfl) (fun _ _ => rfl) (sp := (0 : Int32)) (dp := (0 : Int32)) (nn := (Int32.ofNat n)) (by decide) (by decide) (by rw [cn]; omega) (by rw [cn]; show 0 + (n : Int) ≤ n; omega) (by rw [cn]; show 0 + (n : Int) ≤ (N.toNatClampNeg : Int); omega) N0 n0_b1 (g := (mkF m 28 #[.val (.ref a), .val (.int N), .val (.ref b1)] [(.int (Int32.ofNat n)), (.int (0 : Int32)), (.ref b1), (.int (0 : Int32)), (.ref a)])) rfl (by rw [hml]; rfl) rfl (hb hby d7_28) (by decide) (W := 0) (Nat.le_of_eq rfl) (by decide)
  refine Gd.go (fun _ w_k => st7 _ w_k) ?_
  have xF8 := xF2.keep Kc7 (ninS ne_a_b1 nin0)
  have xZs9 := Nat.le_trans xZs3 Kc7.1
  have xK10 := Keep.trans xK4 Kc7 (allS (P := fun z => z ∈ ([] : List Addr) ∨ h0.size ≤ z) (Or.inr kn_b1) all0)
  show Gd _ _ _ _ (T7.setTop (mkF m 31 #[.val (.ref a), .val (.int N), .val (.ref b1)] []))
  refine Gd.go (fun _ w_k => XS.aloadN X7.here hx rfl (hb hby d7_31) rfl rfl w_k) ?_
  show Gd _ _ _ _ (T7.setTop (mkF m 32 #[.val (.ref a), .val (.int N), .val (.ref b1)] [(.ref b1)]))
  refine own_retA X7 hx hret hlk rfl (hb hby d7_32) ?_ (by decide) (by decide)
  rw [e7]
  refine ⟨b1, rfl, kn_b1, xK10, ?_, Nc7⟩
  refine ArF.congr Ac7 fun i hi => ?_
  rw [cc]
  unfold own_A
  by_cases q : i < n
  · rw [if_pos ⟨Nat.zero_le _, by show i < 0 + n; omega⟩]; simp only [q, if_true]; show Value.int (Int32.ofNat (f (0 + (i - 0)))) = _; simp
  · rw [if_neg (by intro ⟨_, u⟩; have : i < 0 + n := u; omega)]; simp only [q, if_false]; rfl
theorem own_pn4 : plainFor (⟨"com/example/quiddity/quiddity/rdf/Partition", "<init>", "()V"⟩ : MethodName) = true := by first | exact plainFor_of_name (by first | (simp [plainName, overriddenIn, x]; done) | decide +kernel) | decide +kernel
theorem ef_2 (m : MethodId) (q0 : Addr) : entryFrame m #[(.ref q0)] 1 = mkF m 0 #[.val (.ref q0)] [] := by first | (simp [entryFrame, mkF, argsToLocals, Value.category, maxLocals]; done) | rfl
theorem d2_0 : decode prog_23_method_1_code 0 = .ok (.aload_n 0, 1) := by decide +kernel
theorem d2_1 : decode prog_23_method_1_code 1 = .ok (.invokespecial 1, 3) := by decide +kernel
theorem d2_4 : decode prog_23_method_1_code 4 = .ok (.aload_n 0, 1) := by decide +kernel
theorem d2_5 : decode prog_23_method_1_code 5 = .ok (.iconst 0, 1) := by decide +kernel
theorem d2_6 : decode prog_23_method_1_code 6 = .ok (.newarray .int, 2) := by decide +kernel
theorem d2_8 : decode prog_23_method_1_code 8 = .ok (.putfield 7, 3) := by decide +kernel
theorem d2_11 : decode prog_23_method_1_code 11 = .ok (.return_, 1) := by decide +kernel
set_option maxRecDepth 65536 in
set_option maxHeartbeats 40000000 in
theorem own_c2 (l : Launch) (Z : State) (a0 : Array Value) (hw : ∀ d ∈ tables_1, d.before a0 Z = true) (o : Addr) (h0 : Heap) (n0 : Nat) (Z0 : n0 ≤ h0.size) (go : n0 ≤ o) (E0 : Exa Z h0 o "com/example/quiddity/quiddity/rdf/Partition") (F0 : Fld Z h0 o "com/example/quiddity/quiddity/rdf/Partition" "parent" "[I" .null) :
    Con l Z (⟨"com/example/quiddity/quiddity/rdf/Partition", "<init>", "()V"⟩ : MethodName) prog_23_method_1_code 1 none [] ({ frames := 1, cells := 1, slots := 0, locals := 12 } : Room) 1 0 #[(.ref o)] h0 (fun r h L => r = none ∧ (∃ ap, own_P Z h n0 o ap 0 (fun _ => 0) ∧ h0.size ≤ ap) ∧ Keep h0 h [o] ∧ Fr n0 L) := by
  refine Con.of own_pn4 ?_
  intro pg ev s_ m bl mt cd s₁ hx hby hml hown hnm hret hlk hZ X0 e0
  rw [ef_2]
  show Gd _ _ _ _ (s₁.setTop (mkF m 0 #[.val (.ref o)] []))
  have N0 := Fr.nil n0
  have K0 := Keep.refl h0 [o]
  refine Gd.go (fun _ w_k => XS.aloadN X0.here hx rfl (hb hby d2_0) rfl rfl w_k) ?_
  show Gd _ _ _ _ (s₁.setTop (mkF m 1 #[.val (.ref o)] [(.ref o)]))
  obtain ⟨T1, X1, e1, st1⟩ := initO X0 hx hZ hown (ow hw 12 rfl) (ow hw 13 rfl) (ow hw 14 rfl) e0 (g := (mkF m 1 #[.val (.ref o)] [(.ref o)])) rfl (by rw [hml]; rfl) rfl (hb hby d2_1) (by decide) (W := 0) (Nat.le_of_eq rfl) (by decide)
  refine Gd.go (fun _ w_k => st1 _ (XS.aloadN X1.here hx rfl (hb hby d2_4) rfl rfl (XS.iconst X1.here hx rfl (hb hby d2_5) w_k))) ?_
  show Gd _ _ _ _ (T1.setTop (mkF m 6 #[.val (.ref o)] [(.int (0 : Int32)), (.ref o)]))
  obtain ⟨T2, h2, k2, X2, e2, E2, A2, st2⟩ := newP X1 hx hZ (ow hw 1 rfl) e1 (g := (mkF m 6 #[.val (.ref o)] [(.int (0 : Int32)), (.ref o)])) rfl (hb hby d2_6) rfl (by decide) (cap := 0) (by decide) (by decide) (by decide) (by decide)
  obtain ⟨b2, g2⟩ : ∃ z, z = h0.size := ⟨_, rfl⟩
  rw [← g2] at A2 st2
  have ne_o_b2 : o ≠ b2 := fun q => Nat.lt_irrefl _ (Nat.lt_of_lt_of_le E0.lt (Nat.le_of_eq (q.trans g2).symm))
  have n0_b2 : n0 ≤ b2 := Nat.le_trans Z0 (Nat.le_of_eq g2.symm)
  have kn_b2 : h0.size ≤ b2 := Nat.le_trans K0.1 (Nat.le_of_eq g2.symm)
  have xF3 := E0.ext E2
  have xF4 := F0.ext E2
  have xZs5 := Nat.le_trans Z0 E2.1
  have xK6 := Keep.ext K0 E2
  have xF7 : ArF Z h2 b2 .int 0 (fun _ => (.int (0 : Int32))) := own_new (h := h0) A2 (by decide)
  refine Gd.go (fun _ w_k => st2 _ w_k) ?_
  show Gd _ _ _ _ (T2.setTop (mkF m 8 #[.val (.ref o)] [(.ref b2), (.ref o)]))
  obtain ⟨T8, h8, X8, e8, W8, st8⟩ := putF X2 hx hZ hown (host := "") (Or.inl (ow hw 15 rfl)) Via.refl e2 xF4 xF3 (Or.inl (ow hw 16 rfl)) (ow hw 7 rfl) (ty := (.array .int)) (by decide) rfl rfl (g := (mkF m 8 #[.val (.ref o)] [(.ref b2), (.ref o)])) rfl rfl (hb hby d2_8)
  refine Gd.go (fun _ w_k => st8 _ w_k) ?_
  have xF9 := xF3.wr W8
  have xF10 := xF4.same W8
  have xF11 := xF7.other W8 (Ne.symm ne_o_b2)
  have xN12 := Fr.snoc X8 N0 go
  have xZs13 := Nat.le_trans xZs5 (Keep.of_wr W8).1
  have xK14 := Keep.wr xK6 W8 (Or.inl (by simp))
  show Gd _ _ _ _ (T8.setTop (mkF m 11 #[.val (.ref o)] []))
  refine own_retV X8 hx hret hlk (hb hby d2_11) ?_ (by decide) (by decide)
  rw [e8]
  exact ⟨rfl, ⟨b2, ⟨xF9, xF10, ArF.congr xF11 (fun i hi => absurd hi (Nat.not_lt_zero i)), go, n0_b2, ne_o_b2⟩, kn_b2⟩, xK14, xN12⟩
theorem own_pn5 : plainFor (⟨"com/example/quiddity/quiddity/rdf/Partition", "lambda$join$0", "(II)I"⟩ : MethodName) = true := by first | exact plainFor_of_name (by first | (simp [plainName, overriddenIn, x]; done) | decide +kernel) | decide +kernel
theorem ef_11 (m : MethodId) (q0 : Addr) (q1 : Int32) (q2 : Int32) : entryFrame m #[(.ref q0), (.int q1), (.int q2)] 3 = mkF m 0 #[.val (.ref q0), .val (.int q1), .val (.int q2)] [] := by first | (simp [entryFrame, mkF, argsToLocals, Value.category, maxLocals]; done) | rfl
theorem d11_0 : decode prog_23_method_4_code 0 = .ok (.iload_n 2, 1) := by decide +kernel
theorem d11_1 : decode prog_23_method_4_code 1 = .ok (.iload_n 1, 1) := by decide +kernel
theorem d11_2 : decode prog_23_method_4_code 2 = .ok (.if_icmp .ge 12, 3) := by decide +kernel
theorem d11_5 : decode prog_23_method_4_code 5 = .ok (.aload_n 0, 1) := by decide +kernel
theorem d11_6 : decode prog_23_method_4_code 6 = .ok (.getfield 7, 3) := by decide +kernel
theorem d11_9 : decode prog_23_method_4_code 9 = .ok (.iload_n 2, 1) := by decide +kernel
theorem d11_10 : decode prog_23_method_4_code 10 = .ok (.iaload, 1) := by decide +kernel
theorem d11_11 : decode prog_23_method_4_code 11 = .ok (.goto 4, 3) := by decide +kernel
theorem d11_15 : decode prog_23_method_4_code 15 = .ok (.ireturn, 1) := by decide +kernel
theorem d11_14 : decode prog_23_method_4_code 14 = .ok (.iload_n 2, 1) := by decide +kernel
set_option maxRecDepth 65536 in
set_option maxHeartbeats 40000000 in
theorem own_c11 (l : Launch) (Z : State) (a0 : Array Value) (hw : ∀ d ∈ tables_1, d.before a0 Z = true) (o ap : Addr) (n fr i : Nat) (f : Nat → Nat) (h0 : Heap) (F0 : Fld Z h0 o "com/example/quiddity/quiddity/rdf/Partition" "parent" "[I" (.ref ap)) (A0 : ArF Z h0 ap .int n (own_A f)) (hin : i < n) (hfn : fr ≤ n) (hn6 : n ≤ 6) :
    Con l Z (⟨"com/example/quiddity/quiddity/rdf/Partition", "lambda$join$0", "(II)I"⟩ : MethodName) prog_23_method_4_code 3 (some .int) [] ({ frames := 0, cells := 0, slots := 0, locals := 0 } : Room) 0 0 #[(.ref o), (.int (Int32.ofNat fr)), (.int (Int32.ofNat i))] h0 (fun r h L => r = some (.int (Int32.ofNat (if i < fr then f i else i))) ∧ h = h0 ∧ L = []) := by
  refine Con.of own_pn5 ?_
  intro pg ev s_ m bl mt cd s₁ hx hby hml hown hnm hret hlk hZ X0 e0
  rw [ef_11]
  show Gd _ _ _ _ (s₁.setTop (mkF m 0 #[.val (.ref o), .val (.int (Int32.ofNat fr)), .val (.int (Int32.ofNat i))] []))
  refine Gd.go (fun _ w_k => XS.iloadN X0.here hx rfl (hb hby d11_0) rfl (XS.iloadN X0.here hx rfl (hb hby d11_1) rfl w_k)) ?_
  show Gd _ _ _ _ (s₁.setTop (mkF m 2 #[.val (.ref o), .val (.int (Int32.ofNat fr)), .val (.int (Int32.ofNat i))] [(.int (Int32.ofNat fr)), (.int (Int32.ofNat i))]))
  by_cases hc1 : (Int32.ofNat i) < (Int32.ofNat fr)
  · refine Gd.go (fun _ w_k => XS.icmpNo X0.here hx rfl (hb hby d11_2) rfl (tlt hc1).2.1 w_k) ?_
    show Gd _ _ _ _ (s₁.setTop (mkF m 5 #[.val (.ref o), .val (.int (Int32.ofNat fr)), .val (.int (Int32.ofNat i))] []))
    refine Gd.go (fun _ w_k => XS.aloadN X0.here hx rfl (hb hby d11_5) rfl rfl w_k) ?_
    show Gd _ _ _ _ (s₁.setTop (mkF m 6 #[.val (.ref o), .val (.int (Int32.ofNat fr)), .val (.int (Int32.ofNat i))] [(.ref o)]))
    obtain ⟨T2, X2, e2, st2⟩ := getF X0 hx hZ hown (host := "") (Or.inl (ow hw 15 rfl)) Via.refl e0 F0 (g := (mkF m 6 #[.val (.ref o), .val (.int (Int32.ofNat fr)), .val (.int (Int32.ofNat i))] [(.ref o)])) rfl rfl (hb hby d11_6)
    refine Gd.go (fun _ w_k => st2 _ (XS.iloadN X2.here hx rfl (hb hby d11_9) rfl (own_ldI X2 hx hZ e2 A0 (j := (Int32.ofNat i)) (by rw [own_ofN (by omega)]; omega) (by rw [own_ofN (by omega)]; omega) (v := (.int (Int32.ofNat (f i)))) (own_Ae (by omega)) (g := (mkF m 10 #[.val (.ref o), .val (.int (Int32.ofNat fr)), .val (.int (Int32.ofNat i))] [(.int (Int32.ofNat i)), (.ref ap)])) rfl rfl (hb hby d11_10) _ (XS.goto X2.here hx rfl (pc0 := 11) (pc' := 15) rfl (hb hby d11_11) (by decide) (by decide) w_k)))) ?_
    show Gd _ _ _ _ (T2.setTop (mkF m 15 #[.val (.ref o), .val (.int (Int32.ofNat fr)), .val (.int (Int32.ofNat i))] [(.int (Int32.ofNat (f i)))]))
    refine own_retI X2 hx hret hlk (hb hby d11_15) ?_ (by decide) (by decide)
    exact ⟨by rw [if_pos ((own_ltI (by omega) (by omega)).mp hc1)], e2, rfl⟩
  · refine Gd.go (fun _ w_k => XS.icmpYes X0.here hx rfl (pc0 := 2) (pc' := 14) rfl (hb hby d11_2) rfl (flt hc1).2.1 (by decide) (by decide) w_k) ?_
    show Gd _ _ _ _ (s₁.setTop (mkF m 14 #[.val (.ref o), .val (.int (Int32.ofNat fr)), .val (.int (Int32.ofNat i))] []))
    refine Gd.go (fun _ w_k => XS.iloadN X0.here hx rfl (hb hby d11_14) rfl w_k) ?_
    show Gd _ _ _ _ (s₁.setTop (mkF m 15 #[.val (.ref o), .val (.int (Int32.ofNat fr)), .val (.int (Int32.ofNat i))] [(.int (Int32.ofNat i))]))
    refine own_retI X0 hx hret hlk (hb hby d11_15) ?_ (by decide) (by decide)
    exact ⟨by rw [if_neg (fun z => hc1 ((own_ltI (by omega) (by omega)).mpr z))], e0, rfl⟩
theorem own_pn6 : plainFor (⟨"java/util/Arrays", "setAll", "([ILjava/util/function/IntUnaryOperator;)V"⟩ : MethodName) = true := by first | exact plainFor_of_name (by first | (simp [plainName, overriddenIn, x]; done) | decide +kernel) | decide +kernel
theorem ef_9 (m : MethodId) (q0 : Addr) (q1 : Addr) : entryFrame m #[(.ref q0), (.ref q1)] 3 = mkF m 0 #[.val (.ref q0), .val (.ref q1), .unset] [] := by first | (simp [entryFrame, mkF, argsToLocals, Value.category, maxLocals]; done) | rfl
theorem d9_7 : decode jdk_65_method_175_code 7 = .ok (.iload_n 2, 1) := by decide +kernel
theorem d9_8 : decode jdk_65_method_175_code 8 = .ok (.aload_n 0, 1) := by decide +kernel
theorem d9_9 : decode jdk_65_method_175_code 9 = .ok (.arraylength, 1) := by decide +kernel
theorem d9_10 : decode jdk_65_method_175_code 10 = .ok (.if_icmp .ge 19, 3) := by decide +kernel
theorem d9_13 : decode jdk_65_method_175_code 13 = .ok (.aload_n 0, 1) := by decide +kernel
theorem d9_14 : decode jdk_65_method_175_code 14 = .ok (.iload_n 2, 1) := by decide +kernel
theorem d9_15 : decode jdk_65_method_175_code 15 = .ok (.aload_n 1, 1) := by decide +kernel
theorem d9_16 : decode jdk_65_method_175_code 16 = .ok (.iload_n 2, 1) := by decide +kernel
theorem own_pd1 : parseMethodDescriptor "(I)I" = some ⟨[.int], some .int⟩ := by decide +kernel
theorem d9_17 : decode jdk_65_method_175_code 17 = .ok (.invokeinterface 582 2, 5) := by decide +kernel
theorem d9_22 : decode jdk_65_method_175_code 22 = .ok (.iastore, 1) := by decide +kernel
theorem d9_23 : decode jdk_65_method_175_code 23 = .ok (.iinc 2 1, 3) := by decide +kernel
theorem d9_26 : decode jdk_65_method_175_code 26 = .ok (.goto (-19), 3) := by decide +kernel
theorem d9_29 : decode jdk_65_method_175_code 29 = .ok (.return_, 1) := by decide +kernel
theorem d9_0 : decode jdk_65_method_175_code 0 = .ok (.aload_n 1, 1) := by decide +kernel
theorem own_pd2 : parseMethodDescriptor "(Ljava/lang/Object;)Ljava/lang/Object;" = some ⟨[(.object "java/lang/Object")], some (.object "java/lang/Object")⟩ := by decide +kernel
theorem d9_1 : decode jdk_65_method_175_code 1 = .ok (.invokestatic 175, 3) := by decide +kernel
theorem d9_4 : decode jdk_65_method_175_code 4 = .ok (.pop, 1) := by decide +kernel
theorem d9_5 : decode jdk_65_method_175_code 5 = .ok (.iconst 0, 1) := by decide +kernel
theorem d9_6 : decode jdk_65_method_175_code 6 = .ok (.istore_n 2, 1) := by decide +kernel
set_option maxRecDepth 65536 in
set_option maxHeartbeats 40000000 in
theorem own_c9 (l : Launch) (Z : State) (a0 : Array Value) (hw : ∀ d ∈ tables_1, d.before a0 Z = true) (o ap a : Addr) (n fr : Nat) (f : Nat → Nat) (cK : ClassId) (h0 : Heap) (n0 : Nat) (hmd : Jvm.LamKit.Made Z "com/example/quiddity/quiddity/rdf/Partition" own_sg cK) (E0 : Exa Z h0 o "com/example/quiddity/quiddity/rdf/Partition") (F0 : Fld Z h0 o "com/example/quiddity/quiddity/rdf/Partition" "parent" "[I" (.ref ap)) (A0 : ArF Z h0 ap .int n (own_A f)) (B0 : own_FN h0 a cK o (Int32.ofNat fr)) (gp : n0 ≤ ap) (no : o ≠ ap) (na : a ≠ ap) (hfn : fr ≤ n) (hn6 : n ≤ 6) :
    ConH l Z (⟨"java/util/Arrays", "setAll", "([ILjava/util/function/IntUnaryOperator;)V"⟩ : MethodName) jdk_65_method_175_code 3 none [] ({ frames := 2, cells := 0, slots := 0, locals := 40 } : Room) 0 0 #[(.ref ap), (.ref a)] h0 (fun r h L => r = none ∧ ArF Z h ap .int n (own_A (own_wk f fr n)) ∧ Keep h0 h [ap] ∧ Fr n0 L) := by
  refine ConH.of own_pn6 ?_
  intro pg ev s_ m bl mt cd s₁ hx hby hml hown hnm hret hlk hZ X0 e0 hHN
  rw [ef_9]
  show Gd _ _ _ _ (s₁.setTop (mkF m 0 #[.val (.ref ap), .val (.ref a), .unset] []))
  have N0 := Fr.nil n0
  have K0 := Keep.refl h0 [ap]
  have loop : ∀ (k i : Nat) (T : State) (h : Heap) (L : List Loc), n - i = k → i ≤ n → Exa Z h o "com/example/quiddity/quiddity/rdf/Partition" → Fld Z h o "com/example/quiddity/quiddity/rdf/Partition" "parent" "[I" (.ref ap) → ArF Z h ap .int n (own_A (own_wk f fr i)) → own_FN h a cK o (Int32.ofNat fr) → Keep h0 h [ap] → Fr n0 L → Stand pg l ev ({ frames := 2, cells := 0, slots := 0, locals := 40 } : Room) s_ m #[(.ref ap), (.ref a)] bl mt cd T L 0 0 → T.heap = h → Gd pg.tables ev bl (Owes s_ 0 0 (fun r h L => r = none ∧ ArF Z h ap .int n (own_A (own_wk f fr n)) ∧ Keep h0 h [ap] ∧ Fr n0 L)) (T.setTop (mkF m 7 #[.val (.ref ap), .val (.ref a), .val (.int (Int32.ofNat i))] [])) := by
    intro k
    induction k using Nat.strongRecOn with
    | _ k ih =>
      intro i T h L hk hi E1 F1 A1 B1 K1 N1 X eT
      refine Gd.go (fun _ w_k => XS.iloadN X.here hx rfl (hb hby d9_7) rfl (XS.aloadN X.here hx rfl (hb hby d9_8) rfl rfl (own_len X hx hZ eT A1 (z := (Int32.ofNat n)) rfl (g := (mkF m 9 #[.val (.ref ap), .val (.ref a), .val (.int (Int32.ofNat i))] [(.ref ap), (.int (Int32.ofNat i))])) rfl rfl (hb hby d9_9) _ w_k))) ?_
      show Gd _ _ _ _ (T.setTop (mkF m 10 #[.val (.ref ap), .val (.ref a), .val (.int (Int32.ofNat i))] [(.int (Int32.ofNat n)), (.int (Int32.ofNat i))]))
      by_cases hc1 : (Int32.ofNat i) < (Int32.ofNat n)
      · refine Gd.go (fun _ w_k => XS.icmpNo X.here hx rfl (hb hby d9_10) rfl (tlt hc1).2.1 w_k) ?_
        show Gd _ _ _ _ (T.setTop (mkF m 13 #[.val (.ref ap), .val (.ref a), .val (.int (Int32.ofNat i))] []))
        have hin : i < n := (own_ltI (by omega) (by omega)).mp hc1
        refine Gd.go (fun _ w_k => XS.aloadN X.here hx rfl (hb hby d9_13) rfl rfl (XS.iloadN X.here hx rfl (hb hby d9_14) rfl (XS.aloadN X.here hx rfl (hb hby d9_15) rfl rfl (XS.iloadN X.here hx rfl (hb hby d9_16) rfl w_k)))) ?_
        show Gd _ _ _ _ (T.setTop (mkF m 17 #[.val (.ref ap), .val (.ref a), .val (.int (Int32.ofNat i))] [(.int (Int32.ofNat i)), (.ref a), (.int (Int32.ofNat i)), (.ref ap)]))
        obtain ⟨T2, X2, e2, st2⟩ := own_callLam X hx hZ hHN.1 (xi := (⟨"java/util/function/IntUnaryOperator", "applyAsInt", "(I)I"⟩ : MethodName)) (y := (⟨"com/example/quiddity/quiddity/rdf/Partition", "lambda$join$0", "(II)I"⟩ : MethodName)) (σ := own_sg) hown (ow hw 54 rfl) (ow hw 55 rfl) (ow hw 56 rfl) (ow hw 58 rfl) (ow hw 57 rfl) (ow hw 8 rfl) (ow hw 59 rfl) (ow hw 46 rfl) (y' := (⟨"com/example/quiddity/quiddity/rdf/Partition", "join", "(II)V"⟩ : MethodName)) (ow hw 20 rfl) rfl (by first | rfl | decide) own_hxi own_hyy (by decide) (r := (Int32.ofNat (if i < fr then own_wk f fr i i else i))) hmd B1 E1 (fcode := own_fc) own_ok own_k1 own_k2 own_f0 own_f1 own_f4 own_f5 own_f8 own_f9 own_f12 (own_c11 l Z a0 hw o ap n fr i (own_wk f fr i) h F1 A1 hin hfn hn6) rfl rfl eT (g := (mkF m 17 #[.val (.ref ap), .val (.ref a), .val (.int (Int32.ofNat i))] [(.int (Int32.ofNat i)), (.ref a), (.int (Int32.ofNat i)), (.ref ap)])) rfl (by rw [hml]; rfl) (rest := [(.int (Int32.ofNat i)), (.ref ap)]) own_pd1 own_pd0 rfl (hb hby d9_17) (by decide) (by show 2 * 0 + 2 + 13 + ((3 + 11) + 0) ≤ 40; decide) (by decide) (by decide)
        refine Gd.go (fun _ w_k => st2 _ w_k) ?_
        show Gd _ _ _ _ (T2.setTop (mkF m 22 #[.val (.ref ap), .val (.ref a), .val (.int (Int32.ofNat i))] [(.int (Int32.ofNat (if i < fr then own_wk f fr i i else i))), (.int (Int32.ofNat i)), (.ref ap)]))
        obtain ⟨T3, h3, X3, e3, W3, st3⟩ := own_stI X2 hx hZ e2 A1 (j := (Int32.ofNat i)) (by rw [own_ofN (by omega)]; omega) (by rw [own_ofN (by omega)]; omega) (g := (mkF m 22 #[.val (.ref ap), .val (.ref a), .val (.int (Int32.ofNat i))] [(.int (Int32.ofNat (if i < fr then own_wk f fr i i else i))), (.int (Int32.ofNat i)), (.ref ap)])) rfl rfl (hb hby d9_22)
        refine Gd.go (fun _ w_k => st3 _ w_k) ?_
        have xF4 := E1.wr W3
        have xF5 := F1.other W3 (Or.inl no)
        have xF6 := A1.set W3
        have xF7 := B1.other W3 na
        have xN8 := Fr.snoc X3 N1 gp
        have xK9 := Keep.wr K1 W3 (Or.inl (by simp))
        show Gd _ _ _ _ (T3.setTop (mkF m 23 #[.val (.ref ap), .val (.ref a), .val (.int (Int32.ofNat i))] []))
        refine Gd.go (fun _ w_k => XS.iinc X3.here hx rfl (hb hby d9_23) rfl (l' := #[.val (.ref ap), .val (.ref a), .val (.int ((Int32.ofNat i) + (1 : Int32)))]) rfl w_k) ?_
        show Gd _ _ _ _ (T3.setTop (mkF m 26 #[.val (.ref ap), .val (.ref a), .val (.int ((Int32.ofNat i) + (1 : Int32)))] []))
        rw [own_incN]
        show Gd _ _ _ _ (T3.setTop (mkF m 26 #[.val (.ref ap), .val (.ref a), .val (.int (Int32.ofNat (i + 1)))] []))
        refine Gd.go (fun _ w_k => XS.goto X3.here hx rfl (pc0 := 26) (pc' := 7) rfl (hb hby d9_26) (by decide) (by decide) w_k) ?_
        show Gd _ _ _ _ (T3.setTop (mkF m 7 #[.val (.ref ap), .val (.ref a), .val (.int (Int32.ofNat (i + 1)))] []))
        exact ih _ (by omega) (i + 1) _ _ _ rfl (by omega) xF4 xF5 (own_wkS (by omega) xF6) xF7 xK9 xN8 X3 e3
      · refine Gd.go (fun _ w_k => XS.icmpYes X.here hx rfl (pc0 := 10) (pc' := 29) rfl (hb hby d9_10) rfl (flt hc1).2.1 (by decide) (by decide) w_k) ?_
        show Gd _ _ _ _ (T.setTop (mkF m 29 #[.val (.ref ap), .val (.ref a), .val (.int (Int32.ofNat i))] []))
        refine own_retV X hx hret hlk (hb hby d9_29) ?_ (by decide) (by decide)
        have ei : i = n := Nat.le_antisymm hi (Nat.le_of_not_lt (fun q => hc1 ((own_ltI (by omega) (by omega)).mpr q)))
        rw [ei] at A1
        rw [eT]
        exact ⟨rfl, A1, K1, N1⟩
  refine Gd.go (fun _ w_k => XS.aloadN X0.here hx rfl (hb hby d9_0) rfl rfl w_k) ?_
  show Gd _ _ _ _ (s₁.setTop (mkF m 1 #[.val (.ref ap), .val (.ref a), .unset] [(.ref a)]))
  obtain ⟨T10, X10, e10, st10⟩ := own_callSP X0 hx hZ (y := (⟨"java/util/Objects", "requireNonNull", "(Ljava/lang/Object;)Ljava/lang/Object;"⟩ : MethodName)) hown (ow hw 50 rfl) (ow hw 51 rfl) (ow hw 52 rfl) (ow hw 53 rfl) (by decide) (W := 0) (own_c10 l Z a0 hw a h0) rfl rfl e0 (by decide) (by decide) (g := (mkF m 1 #[.val (.ref ap), .val (.ref a), .unset] [(.ref a)])) rfl (by rw [hml]; rfl) (argsL := [(.ref a)]) (rest := []) (lenOf own_pd2 rfl) rfl (Nat.le_of_eq rfl) (hb hby d9_1) rfl
  refine Gd.go (fun _ w_k => st10 _ (XS.pop X10.here hx rfl (hb hby d9_4) rfl rfl (XS.iconst X10.here hx rfl (hb hby d9_5) (XS.istoreN X10.here hx rfl (hb hby d9_6) rfl (l' := #[.val (.ref ap), .val (.ref a), .val (.int (0 : Int32))]) rfl w_k)))) ?_
  show Gd _ _ _ _ (T10.setTop (mkF m 7 #[.val (.ref ap), .val (.ref a), .val (.int (0 : Int32))] []))
  exact loop n 0 T10 h0 [] rfl (Nat.zero_le _) E0 F0 (ArF.congr A0 (fun j _ => by unfold own_A own_wk; rw [if_neg (Nat.not_lt_zero j)])) B0 K0 N0 X10 e10
theorem own_pn7 : plainFor (⟨"com/example/quiddity/quiddity/rdf/Partition", "root", "(I)I"⟩ : MethodName) = true := by first | exact plainFor_of_name (by first | (simp [plainName, overriddenIn, x]; done) | decide +kernel) | decide +kernel
theorem ef_5 (m : MethodId) (q0 : Addr) (q1 : Int32) : entryFrame m #[(.ref q0), (.int q1)] 5 = mkF m 0 #[.val (.ref q0), .val (.int q1), .unset, .unset, .unset] [] := by first | (simp [entryFrame, mkF, argsToLocals, Value.category, maxLocals]; done) | rfl
theorem d5_0 : decode prog_23_method_2_code 0 = .ok (.iload_n 1, 1) := by decide +kernel
theorem d5_1 : decode prog_23_method_2_code 1 = .ok (.istore_n 2, 1) := by decide +kernel
theorem d5_2 : decode prog_23_method_2_code 2 = .ok (.iload_n 2, 1) := by decide +kernel
theorem d5_3 : decode prog_23_method_2_code 3 = .ok (.aload_n 0, 1) := by decide +kernel
theorem d5_4 : decode prog_23_method_2_code 4 = .ok (.getfield 7, 3) := by decide +kernel
theorem d5_7 : decode prog_23_method_2_code 7 = .ok (.arraylength, 1) := by decide +kernel
theorem d5_8 : decode prog_23_method_2_code 8 = .ok (.if_icmp .ge 23, 3) := by decide +kernel
theorem d5_11 : decode prog_23_method_2_code 11 = .ok (.aload_n 0, 1) := by decide +kernel
theorem d5_12 : decode prog_23_method_2_code 12 = .ok (.getfield 7, 3) := by decide +kernel
theorem d5_15 : decode prog_23_method_2_code 15 = .ok (.iload_n 2, 1) := by decide +kernel
theorem d5_16 : decode prog_23_method_2_code 16 = .ok (.iaload, 1) := by decide +kernel
theorem d5_17 : decode prog_23_method_2_code 17 = .ok (.iload_n 2, 1) := by decide +kernel
theorem d5_18 : decode prog_23_method_2_code 18 = .ok (.if_icmp .eq 13, 3) := by decide +kernel
theorem d5_31 : decode prog_23_method_2_code 31 = .ok (.iload_n 1, 1) := by decide +kernel
theorem d5_32 : decode prog_23_method_2_code 32 = .ok (.istore_n 3, 1) := by decide +kernel
theorem d5_33 : decode prog_23_method_2_code 33 = .ok (.iload_n 3, 1) := by decide +kernel
theorem d5_34 : decode prog_23_method_2_code 34 = .ok (.aload_n 0, 1) := by decide +kernel
theorem d5_35 : decode prog_23_method_2_code 35 = .ok (.getfield 7, 3) := by decide +kernel
theorem d5_38 : decode prog_23_method_2_code 38 = .ok (.arraylength, 1) := by decide +kernel
theorem d5_39 : decode prog_23_method_2_code 39 = .ok (.if_icmp .ge 34, 3) := by decide +kernel
theorem d5_42 : decode prog_23_method_2_code 42 = .ok (.aload_n 0, 1) := by decide +kernel
theorem d5_43 : decode prog_23_method_2_code 43 = .ok (.getfield 7, 3) := by decide +kernel
theorem d5_46 : decode prog_23_method_2_code 46 = .ok (.iload_n 3, 1) := by decide +kernel
theorem d5_47 : decode prog_23_method_2_code 47 = .ok (.iaload, 1) := by decide +kernel
theorem d5_48 : decode prog_23_method_2_code 48 = .ok (.iload_n 2, 1) := by decide +kernel
theorem d5_49 : decode prog_23_method_2_code 49 = .ok (.if_icmp .eq 24, 3) := by decide +kernel
theorem d5_73 : decode prog_23_method_2_code 73 = .ok (.iload_n 2, 1) := by decide +kernel
theorem d5_74 : decode prog_23_method_2_code 74 = .ok (.ireturn, 1) := by decide +kernel
set_option maxRecDepth 65536 in
set_option maxHeartbeats 40000000 in
theorem own_c5b (l : Launch) (Z : State) (a0 : Array Value) (hw : ∀ d ∈ tables_1, d.before a0 Z = true) (o ap : Addr) (n : Nat) (P R d : Nat → Nat) (gb : Int32) (h0 : Heap) (n0 : Nat) (H : own_P Z h0 n0 o ap n P) (I : own_I n P R d) (g4 : 4 ≤ gb.toInt) :
    Con l Z (⟨"com/example/quiddity/quiddity/rdf/Partition", "root", "(I)I"⟩ : MethodName) prog_23_method_2_code 5 (some .int) [] ({ frames := 0, cells := 0, slots := 0, locals := 0 } : Room) 0 0 #[(.ref o), (.int gb)] h0 (fun r h L => r = some (.int gb) ∧ h = h0 ∧ L = []) := by
  refine Con.of own_pn7 ?_
  intro pg ev s_ m bl mt cd s₁ hx hby hml hown hnm hret hlk hZ X0 e0
  rw [ef_5]
  show Gd _ _ _ _ (s₁.setTop (mkF m 0 #[.val (.ref o), .val (.int gb), .unset, .unset, .unset] []))
  have hn6 := I.1
  refine Gd.go (fun _ w_k => XS.iloadN X0.here hx rfl (hb hby d5_0) rfl (XS.istoreN X0.here hx rfl (hb hby d5_1) rfl (l' := #[.val (.ref o), .val (.int gb), .val (.int gb), .unset, .unset]) rfl (XS.iloadN X0.here hx rfl (hb hby d5_2) rfl (XS.aloadN X0.here hx rfl (hb hby d5_3) rfl rfl w_k)))) ?_
  show Gd _ _ _ _ (s₁.setTop (mkF m 4 #[.val (.ref o), .val (.int gb), .val (.int gb), .unset, .unset] [(.ref o), (.int gb)]))
  obtain ⟨T1, X1, e1, st1⟩ := getF X0 hx hZ hown (host := "") (Or.inl (ow hw 15 rfl)) Via.refl e0 H.2.1 (g := (mkF m 4 #[.val (.ref o), .val (.int gb), .val (.int gb), .unset, .unset] [(.ref o), (.int gb)])) rfl rfl (hb hby d5_4)
  refine Gd.go (fun _ w_k => st1 _ (own_len X1 hx hZ e1 H.2.2.1 (z := (Int32.ofNat n)) rfl (g := (mkF m 7 #[.val (.ref o), .val (.int gb), .val (.int gb), .unset, .unset] [(.ref ap), (.int gb)])) rfl rfl (hb hby d5_7) _ w_k)) ?_
  show Gd _ _ _ _ (T1.setTop (mkF m 8 #[.val (.ref o), .val (.int gb), .val (.int gb), .unset, .unset] [(.int (Int32.ofNat n)), (.int gb)]))
  by_cases hc2 : gb < (Int32.ofNat n)
  · refine Gd.go (fun _ w_k => XS.icmpNo X1.here hx rfl (hb hby d5_8) rfl (tlt hc2).2.1 w_k) ?_
    show Gd _ _ _ _ (T1.setTop (mkF m 11 #[.val (.ref o), .val (.int gb), .val (.int gb), .unset, .unset] []))
    have gn : gb.toInt < n := by have q := hc2; rw [Int32.lt_iff_toInt_lt, own_ofN (by omega)] at q; exact q
    refine Gd.go (fun _ w_k => XS.aloadN X1.here hx rfl (hb hby d5_11) rfl rfl w_k) ?_
    show Gd _ _ _ _ (T1.setTop (mkF m 12 #[.val (.ref o), .val (.int gb), .val (.int gb), .unset, .unset] [(.ref o)]))
    obtain ⟨T3, X3, e3, st3⟩ := getF X1 hx hZ hown (host := "") (Or.inl (ow hw 15 rfl)) Via.refl e1 H.2.1 (g := (mkF m 12 #[.val (.ref o), .val (.int gb), .val (.int gb), .unset, .unset] [(.ref o)])) rfl rfl (hb hby d5_12)
    refine Gd.go (fun _ w_k => st3 _ (XS.iloadN X3.here hx rfl (hb hby d5_15) rfl (own_ldI X3 hx hZ e3 H.2.2.1 (j := gb) (by omega) gn (v := (.int gb)) (own_bigE I g4 gn) (g := (mkF m 16 #[.val (.ref o), .val (.int gb), .val (.int gb), .unset, .unset] [(.int gb), (.ref ap)])) rfl rfl (hb hby d5_16) _ (XS.iloadN X3.here hx rfl (hb hby d5_17) rfl (XS.icmpYes X3.here hx rfl (pc0 := 18) (pc' := 31) rfl (hb hby d5_18) rfl (teq rfl).1 (by decide) (by decide) w_k))))) ?_
    show Gd _ _ _ _ (T3.setTop (mkF m 31 #[.val (.ref o), .val (.int gb), .val (.int gb), .unset, .unset] []))
    refine Gd.go (fun _ w_k => XS.iloadN X3.here hx rfl (hb hby d5_31) rfl (XS.istoreN X3.here hx rfl (hb hby d5_32) rfl (l' := #[.val (.ref o), .val (.int gb), .val (.int gb), .val (.int gb), .unset]) rfl (XS.iloadN X3.here hx rfl (hb hby d5_33) rfl (XS.aloadN X3.here hx rfl (hb hby d5_34) rfl rfl w_k)))) ?_
    show Gd _ _ _ _ (T3.setTop (mkF m 35 #[.val (.ref o), .val (.int gb), .val (.int gb), .val (.int gb), .unset] [(.ref o), (.int gb)]))
    obtain ⟨T4, X4, e4, st4⟩ := getF X3 hx hZ hown (host := "") (Or.inl (ow hw 15 rfl)) Via.refl e3 H.2.1 (g := (mkF m 35 #[.val (.ref o), .val (.int gb), .val (.int gb), .val (.int gb), .unset] [(.ref o), (.int gb)])) rfl rfl (hb hby d5_35)
    refine Gd.go (fun _ w_k => st4 _ (own_len X4 hx hZ e4 H.2.2.1 (z := (Int32.ofNat n)) rfl (g := (mkF m 38 #[.val (.ref o), .val (.int gb), .val (.int gb), .val (.int gb), .unset] [(.ref ap), (.int gb)])) rfl rfl (hb hby d5_38) _ (XS.icmpNo X4.here hx rfl (hb hby d5_39) rfl (tlt hc2).2.1 w_k))) ?_
    show Gd _ _ _ _ (T4.setTop (mkF m 42 #[.val (.ref o), .val (.int gb), .val (.int gb), .val (.int gb), .unset] []))
    refine Gd.go (fun _ w_k => XS.aloadN X4.here hx rfl (hb hby d5_42) rfl rfl w_k) ?_
    show Gd _ _ _ _ (T4.setTop (mkF m 43 #[.val (.ref o), .val (.int gb), .val (.int gb), .val (.int gb), .unset] [(.ref o)]))
    obtain ⟨T5, X5, e5, st5⟩ := getF X4 hx hZ hown (host := "") (Or.inl (ow hw 15 rfl)) Via.refl e4 H.2.1 (g := (mkF m 43 #[.val (.ref o), .val (.int gb), .val (.int gb), .val (.int gb), .unset] [(.ref o)])) rfl rfl (hb hby d5_43)
    refine Gd.go (fun _ w_k => st5 _ (XS.iloadN X5.here hx rfl (hb hby d5_46) rfl (own_ldI X5 hx hZ e5 H.2.2.1 (j := gb) (by omega) gn (v := (.int gb)) (own_bigE I g4 gn) (g := (mkF m 47 #[.val (.ref o), .val (.int gb), .val (.int gb), .val (.int gb), .unset] [(.int gb), (.ref ap)])) rfl rfl (hb hby d5_47) _ (XS.iloadN X5.here hx rfl (hb hby d5_48) rfl (XS.icmpYes X5.here hx rfl (pc0 := 49) (pc' := 73) rfl (hb hby d5_49) rfl (teq rfl).1 (by decide) (by decide) w_k))))) ?_
    show Gd _ _ _ _ (T5.setTop (mkF m 73 #[.val (.ref o), .val (.int gb), .val (.int gb), .val (.int gb), .unset] []))
    refine Gd.go (fun _ w_k => XS.iloadN X5.here hx rfl (hb hby d5_73) rfl w_k) ?_
    show Gd _ _ _ _ (T5.setTop (mkF m 74 #[.val (.ref o), .val (.int gb), .val (.int gb), .val (.int gb), .unset] [(.int gb)]))
    refine own_retI X5 hx hret hlk (hb hby d5_74) ?_ (by decide) (by decide)
    exact ⟨rfl, e5, rfl⟩
  · refine Gd.go (fun _ w_k => XS.icmpYes X1.here hx rfl (pc0 := 8) (pc' := 31) rfl (hb hby d5_8) rfl (flt hc2).2.1 (by decide) (by decide) w_k) ?_
    show Gd _ _ _ _ (T1.setTop (mkF m 31 #[.val (.ref o), .val (.int gb), .val (.int gb), .unset, .unset] []))
    refine Gd.go (fun _ w_k => XS.iloadN X1.here hx rfl (hb hby d5_31) rfl (XS.istoreN X1.here hx rfl (hb hby d5_32) rfl (l' := #[.val (.ref o), .val (.int gb), .val (.int gb), .val (.int gb), .unset]) rfl (XS.iloadN X1.here hx rfl (hb hby d5_33) rfl (XS.aloadN X1.here hx rfl (hb hby d5_34) rfl rfl w_k)))) ?_
    show Gd _ _ _ _ (T1.setTop (mkF m 35 #[.val (.ref o), .val (.int gb), .val (.int gb), .val (.int gb), .unset] [(.ref o), (.int gb)]))
    obtain ⟨T6, X6, e6, st6⟩ := getF X1 hx hZ hown (host := "") (Or.inl (ow hw 15 rfl)) Via.refl e1 H.2.1 (g := (mkF m 35 #[.val (.ref o), .val (.int gb), .val (.int gb), .val (.int gb), .unset] [(.ref o), (.int gb)])) rfl rfl (hb hby d5_35)
    refine Gd.go (fun _ w_k => st6 _ (own_len X6 hx hZ e6 H.2.2.1 (z := (Int32.ofNat n)) rfl (g := (mkF m 38 #[.val (.ref o), .val (.int gb), .val (.int gb), .val (.int gb), .unset] [(.ref ap), (.int gb)])) rfl rfl (hb hby d5_38) _ (XS.icmpYes X6.here hx rfl (pc0 := 39) (pc' := 73) rfl (hb hby d5_39) rfl (flt hc2).2.1 (by decide) (by decide) w_k))) ?_
    show Gd _ _ _ _ (T6.setTop (mkF m 73 #[.val (.ref o), .val (.int gb), .val (.int gb), .val (.int gb), .unset] []))
    refine Gd.go (fun _ w_k => XS.iloadN X6.here hx rfl (hb hby d5_73) rfl w_k) ?_
    show Gd _ _ _ _ (T6.setTop (mkF m 74 #[.val (.ref o), .val (.int gb), .val (.int gb), .val (.int gb), .unset] [(.int gb)]))
    refine own_retI X6 hx hret hlk (hb hby d5_74) ?_ (by decide) (by decide)
    exact ⟨rfl, e6, rfl⟩
theorem d5_52 : decode prog_23_method_2_code 52 = .ok (.aload_n 0, 1) := by decide +kernel
theorem d5_53 : decode prog_23_method_2_code 53 = .ok (.getfield 7, 3) := by decide +kernel
theorem d5_56 : decode prog_23_method_2_code 56 = .ok (.iload_n 3, 1) := by decide +kernel
theorem d5_57 : decode prog_23_method_2_code 57 = .ok (.iaload, 1) := by decide +kernel
theorem d5_58 : decode prog_23_method_2_code 58 = .ok (.istore 4, 2) := by decide +kernel
theorem d5_60 : decode prog_23_method_2_code 60 = .ok (.aload_n 0, 1) := by decide +kernel
theorem d5_61 : decode prog_23_method_2_code 61 = .ok (.getfield 7, 3) := by decide +kernel
theorem d5_64 : decode prog_23_method_2_code 64 = .ok (.iload_n 3, 1) := by decide +kernel
theorem d5_65 : decode prog_23_method_2_code 65 = .ok (.iload_n 2, 1) := by decide +kernel
theorem d5_66 : decode prog_23_method_2_code 66 = .ok (.iastore, 1) := by decide +kernel
theorem d5_67 : decode prog_23_method_2_code 67 = .ok (.iload 4, 2) := by decide +kernel
theorem d5_69 : decode prog_23_method_2_code 69 = .ok (.istore_n 3, 1) := by decide +kernel
theorem d5_70 : decode prog_23_method_2_code 70 = .ok (.goto (-37), 3) := by decide +kernel
theorem d5_21 : decode prog_23_method_2_code 21 = .ok (.aload_n 0, 1) := by decide +kernel
theorem d5_22 : decode prog_23_method_2_code 22 = .ok (.getfield 7, 3) := by decide +kernel
theorem d5_25 : decode prog_23_method_2_code 25 = .ok (.iload_n 2, 1) := by decide +kernel
theorem d5_26 : decode prog_23_method_2_code 26 = .ok (.iaload, 1) := by decide +kernel
theorem d5_27 : decode prog_23_method_2_code 27 = .ok (.istore_n 2, 1) := by decide +kernel
theorem d5_28 : decode prog_23_method_2_code 28 = .ok (.goto (-26), 3) := by decide +kernel
set_option maxRecDepth 65536 in
set_option maxHeartbeats 40000000 in
theorem own_c5 (l : Launch) (Z : State) (a0 : Array Value) (hw : ∀ d ∈ tables_1, d.before a0 Z = true) (o ap : Addr) (n kx : Nat) (P R d : Nat → Nat) (h0 : Heap) (n0 : Nat) (H : own_P Z h0 n0 o ap n P) (I : own_I n P R d) (hx4 : kx < 4) :
    Con l Z (⟨"com/example/quiddity/quiddity/rdf/Partition", "root", "(I)I"⟩ : MethodName) prog_23_method_2_code 5 (some .int) [] ({ frames := 0, cells := 0, slots := 0, locals := 0 } : Room) 0 0 #[(.ref o), (.int (Int32.ofNat kx))] h0 (fun r h L => r = some (.int (Int32.ofNat (R kx))) ∧ (∃ P', own_P Z h n0 o ap n P' ∧ own_I n P' R d) ∧ Keep h0 h [ap] ∧ Fr n0 L) := by
  refine Con.of own_pn7 ?_
  intro pg ev s_ m bl mt cd s₁ hx hby hml hown hnm hret hlk hZ X0 e0
  rw [ef_5]
  show Gd _ _ _ _ (s₁.setTop (mkF m 0 #[.val (.ref o), .val (.int (Int32.ofNat kx)), .unset, .unset, .unset] []))
  have hn6 := I.1
  have N0 := Fr.nil n0
  have K0 := Keep.refl h0 [ap]
  have rk := (I.2.1 kx hx4).1
  have loop2 : ∀ (k c : Nat) (P' : Nat → Nat) (T : State) (h : Heap) (L : List Loc) (s4 : Slot), own_s4 s4 → d c = k → c < 4 → R c = R kx → own_P Z h n0 o ap n P' → own_I n P' R d → Keep h0 h [ap] → Fr n0 L → Stand pg l ev ({ frames := 0, cells := 0, slots := 0, locals := 0 } : Room) s_ m #[(.ref o), (.int (Int32.ofNat kx))] bl mt cd T L 0 0 → T.heap = h → Gd pg.tables ev bl (Owes s_ 0 0 (fun r h L => r = some (.int (Int32.ofNat (R kx))) ∧ (∃ P', own_P Z h n0 o ap n P' ∧ own_I n P' R d) ∧ Keep h0 h [ap] ∧ Fr n0 L)) (T.setTop (mkF m 33 #[.val (.ref o), .val (.int (Int32.ofNat kx)), .val (.int (Int32.ofNat (R kx))), .val (.int (Int32.ofNat c)), s4] [])) := by
    intro k
    induction k using Nat.strongRecOn with
    | _ k ih =>
      intro c P' T h L s4 hs4 hk c4h hR H1 I1 K1 N1 X eT
      refine Gd.go (fun _ w_k => XS.iloadN X.here hx rfl (hb hby d5_33) rfl (XS.aloadN X.here hx rfl (hb hby d5_34) rfl rfl w_k)) ?_
      show Gd _ _ _ _ (T.setTop (mkF m 35 #[.val (.ref o), .val (.int (Int32.ofNat kx)), .val (.int (Int32.ofNat (R kx))), .val (.int (Int32.ofNat c)), s4] [(.ref o), (.int (Int32.ofNat c))]))
      obtain ⟨T1, X1, e1, st1⟩ := getF X hx hZ hown (host := "") (Or.inl (ow hw 15 rfl)) Via.refl eT H1.2.1 (g := (mkF m 35 #[.val (.ref o), .val (.int (Int32.ofNat kx)), .val (.int (Int32.ofNat (R kx))), .val (.int (Int32.ofNat c)), s4] [(.ref o), (.int (Int32.ofNat c))])) rfl rfl (hb hby d5_35)
      refine Gd.go (fun _ w_k => st1 _ (own_len X1 hx hZ e1 H1.2.2.1 (z := (Int32.ofNat n)) rfl (g := (mkF m 38 #[.val (.ref o), .val (.int (Int32.ofNat kx)), .val (.int (Int32.ofNat (R kx))), .val (.int (Int32.ofNat c)), s4] [(.ref ap), (.int (Int32.ofNat c))])) rfl rfl (hb hby d5_38) _ w_k)) ?_
      show Gd _ _ _ _ (T1.setTop (mkF m 39 #[.val (.ref o), .val (.int (Int32.ofNat kx)), .val (.int (Int32.ofNat (R kx))), .val (.int (Int32.ofNat c)), s4] [(.int (Int32.ofNat n)), (.int (Int32.ofNat c))]))
      by_cases hc2 : (Int32.ofNat c) < (Int32.ofNat n)
      · refine Gd.go (fun _ w_k => XS.icmpNo X1.here hx rfl (hb hby d5_39) rfl (tlt hc2).2.1 w_k) ?_
        show Gd _ _ _ _ (T1.setTop (mkF m 42 #[.val (.ref o), .val (.int (Int32.ofNat kx)), .val (.int (Int32.ofNat (R kx))), .val (.int (Int32.ofNat c)), s4] []))
        have hcn : c < n := (own_ltI (by omega) (by omega)).mp hc2
        refine Gd.go (fun _ w_k => XS.aloadN X1.here hx rfl (hb hby d5_42) rfl rfl w_k) ?_
        show Gd _ _ _ _ (T1.setTop (mkF m 43 #[.val (.ref o), .val (.int (Int32.ofNat kx)), .val (.int (Int32.ofNat (R kx))), .val (.int (Int32.ofNat c)), s4] [(.ref o)]))
        obtain ⟨T3, X3, e3, st3⟩ := getF X1 hx hZ hown (host := "") (Or.inl (ow hw 15 rfl)) Via.refl e1 H1.2.1 (g := (mkF m 43 #[.val (.ref o), .val (.int (Int32.ofNat kx)), .val (.int (Int32.ofNat (R kx))), .val (.int (Int32.ofNat c)), s4] [(.ref o)])) rfl rfl (hb hby d5_43)
        refine Gd.go (fun _ w_k => st3 _ (XS.iloadN X3.here hx rfl (hb hby d5_46) rfl (own_ldI X3 hx hZ e3 H1.2.2.1 (j := (Int32.ofNat c)) (by rw [own_ofN (by omega)]; omega) (by rw [own_ofN (by omega)]; omega) (v := (.int (Int32.ofNat (P' c)))) (own_Ae (by omega)) (g := (mkF m 47 #[.val (.ref o), .val (.int (Int32.ofNat kx)), .val (.int (Int32.ofNat (R kx))), .val (.int (Int32.ofNat c)), s4] [(.int (Int32.ofNat c)), (.ref ap)])) rfl rfl (hb hby d5_47) _ (XS.iloadN X3.here hx rfl (hb hby d5_48) rfl w_k)))) ?_
        show Gd _ _ _ _ (T3.setTop (mkF m 49 #[.val (.ref o), .val (.int (Int32.ofNat kx)), .val (.int (Int32.ofNat (R kx))), .val (.int (Int32.ofNat c)), s4] [(.int (Int32.ofNat (R kx))), (.int (Int32.ofNat (P' c)))]))
        by_cases hc4 : (Int32.ofNat (P' c)) = (Int32.ofNat (R kx))
        · refine Gd.go (fun _ w_k => XS.icmpYes X3.here hx rfl (pc0 := 49) (pc' := 73) rfl (hb hby d5_49) rfl (teq hc4).1 (by decide) (by decide) w_k) ?_
          show Gd _ _ _ _ (T3.setTop (mkF m 73 #[.val (.ref o), .val (.int (Int32.ofNat kx)), .val (.int (Int32.ofNat (R kx))), .val (.int (Int32.ofNat c)), s4] []))
          refine Gd.go (fun _ w_k => XS.iloadN X3.here hx rfl (hb hby d5_73) rfl w_k) ?_
          show Gd _ _ _ _ (T3.setTop (mkF m 74 #[.val (.ref o), .val (.int (Int32.ofNat kx)), .val (.int (Int32.ofNat (R kx))), .val (.int (Int32.ofNat c)), s4] [(.int (Int32.ofNat (R kx)))]))
          refine own_retI X3 hx hret hlk (hb hby d5_74) ?_ (by decide) (by decide)
          rw [e3]
          exact ⟨rfl, ⟨P', H1, I1⟩, K1, N1⟩
        · refine Gd.go (fun _ w_k => XS.icmpNo X3.here hx rfl (hb hby d5_49) rfl (feq hc4).1 w_k) ?_
          show Gd _ _ _ _ (T3.setTop (mkF m 52 #[.val (.ref o), .val (.int (Int32.ofNat kx)), .val (.int (Int32.ofNat (R kx))), .val (.int (Int32.ofNat c)), s4] []))
          obtain ⟨I2, p1, p2, p3⟩ := own_I_short I1 c4h hcn (fun q => hc4 (by rw [q, hR]))
          refine Gd.go (fun _ w_k => XS.aloadN X3.here hx rfl (hb hby d5_52) rfl rfl w_k) ?_
          show Gd _ _ _ _ (T3.setTop (mkF m 53 #[.val (.ref o), .val (.int (Int32.ofNat kx)), .val (.int (Int32.ofNat (R kx))), .val (.int (Int32.ofNat c)), s4] [(.ref o)]))
          obtain ⟨T5, X5, e5, st5⟩ := getF X3 hx hZ hown (host := "") (Or.inl (ow hw 15 rfl)) Via.refl e3 H1.2.1 (g := (mkF m 53 #[.val (.ref o), .val (.int (Int32.ofNat kx)), .val (.int (Int32.ofNat (R kx))), .val (.int (Int32.ofNat c)), s4] [(.ref o)])) rfl rfl (hb hby d5_53)
          refine Gd.go (fun _ w_k => st5 _ (XS.iloadN X5.here hx rfl (hb hby d5_56) rfl (own_ldI X5 hx hZ e5 H1.2.2.1 (j := (Int32.ofNat c)) (by rw [own_ofN (by omega)]; omega) (by rw [own_ofN (by omega)]; omega) (v := (.int (Int32.ofNat (P' c)))) (own_Ae (by omega)) (g := (mkF m 57 #[.val (.ref o), .val (.int (Int32.ofNat kx)), .val (.int (Int32.ofNat (R kx))), .val (.int (Int32.ofNat c)), s4] [(.int (Int32.ofNat c)), (.ref ap)])) rfl rfl (hb hby d5_57) _ (XS.istore X5.here hx rfl (hb hby d5_58) rfl (l' := #[.val (.ref o), .val (.int (Int32.ofNat kx)), .val (.int (Int32.ofNat (R kx))), .val (.int (Int32.ofNat c)), .val (.int (Int32.ofNat (P' c)))]) (hs4 _ _ _ _ _) (XS.aloadN X5.here hx rfl (hb hby d5_60) rfl rfl w_k))))) ?_
          show Gd _ _ _ _ (T5.setTop (mkF m 61 #[.val (.ref o), .val (.int (Int32.ofNat kx)), .val (.int (Int32.ofNat (R kx))), .val (.int (Int32.ofNat c)), .val (.int (Int32.ofNat (P' c)))] [(.ref o)]))
          obtain ⟨T6, X6, e6, st6⟩ := getF X5 hx hZ hown (host := "") (Or.inl (ow hw 15 rfl)) Via.refl e5 H1.2.1 (g := (mkF m 61 #[.val (.ref o), .val (.int (Int32.ofNat kx)), .val (.int (Int32.ofNat (R kx))), .val (.int (Int32.ofNat c)), .val (.int (Int32.ofNat (P' c)))] [(.ref o)])) rfl rfl (hb hby d5_61)
          refine Gd.go (fun _ w_k => st6 _ (XS.iloadN X6.here hx rfl (hb hby d5_64) rfl (XS.iloadN X6.here hx rfl (hb hby d5_65) rfl w_k))) ?_
          show Gd _ _ _ _ (T6.setTop (mkF m 66 #[.val (.ref o), .val (.int (Int32.ofNat kx)), .val (.int (Int32.ofNat (R kx))), .val (.int (Int32.ofNat c)), .val (.int (Int32.ofNat (P' c)))] [(.int (Int32.ofNat (R kx))), (.int (Int32.ofNat c)), (.ref ap)]))
          obtain ⟨T7, h7, X7, e7, W7, st7⟩ := own_stI X6 hx hZ e6 H1.2.2.1 (j := (Int32.ofNat c)) (by rw [own_ofN (by omega)]; omega) (by rw [own_ofN (by omega)]; omega) (g := (mkF m 66 #[.val (.ref o), .val (.int (Int32.ofNat kx)), .val (.int (Int32.ofNat (R kx))), .val (.int (Int32.ofNat c)), .val (.int (Int32.ofNat (P' c)))] [(.int (Int32.ofNat (R kx))), (.int (Int32.ofNat c)), (.ref ap)])) rfl rfl (hb hby d5_66)
          refine Gd.go (fun _ w_k => st7 _ w_k) ?_
          have xF8 := H1.1.wr W7
          have xF9 := H1.2.1.other W7 (Or.inl H1.2.2.2.2.2)
          have xF10 := H1.2.2.1.set W7
          have xN11 := Fr.snoc X7 N1 H1.2.2.2.2.1
          have xK12 := Keep.wr K1 W7 (Or.inl (by simp))
          show Gd _ _ _ _ (T7.setTop (mkF m 67 #[.val (.ref o), .val (.int (Int32.ofNat kx)), .val (.int (Int32.ofNat (R kx))), .val (.int (Int32.ofNat c)), .val (.int (Int32.ofNat (P' c)))] []))
          refine Gd.go (fun _ w_k => XS.iload X7.here hx rfl (hb hby d5_67) rfl (XS.istoreN X7.here hx rfl (hb hby d5_69) rfl (l' := #[.val (.ref o), .val (.int (Int32.ofNat kx)), .val (.int (Int32.ofNat (R kx))), .val (.int (Int32.ofNat (P' c))), .val (.int (Int32.ofNat (P' c)))]) rfl (XS.goto X7.here hx rfl (pc0 := 70) (pc' := 33) rfl (hb hby d5_70) (by decide) (by decide) w_k))) ?_
          show Gd _ _ _ _ (T7.setTop (mkF m 33 #[.val (.ref o), .val (.int (Int32.ofNat kx)), .val (.int (Int32.ofNat (R kx))), .val (.int (Int32.ofNat (P' c))), .val (.int (Int32.ofNat (P' c)))] []))
          have A2 : ArF Z h7 ap .int n (own_A (own_u P' c (R c))) := by rw [hR]; exact own_updA (by omega) xF10
          exact ih _ (by rw [← hk]; exact p3) _ _ _ _ _ _ (own_s4i _) rfl p1 (p2.trans hR) ⟨xF8, xF9, A2, H1.2.2.2⟩ I2 xK12 xN11 X7 e7
      · refine Gd.go (fun _ w_k => XS.icmpYes X1.here hx rfl (pc0 := 39) (pc' := 73) rfl (hb hby d5_39) rfl (flt hc2).2.1 (by decide) (by decide) w_k) ?_
        show Gd _ _ _ _ (T1.setTop (mkF m 73 #[.val (.ref o), .val (.int (Int32.ofNat kx)), .val (.int (Int32.ofNat (R kx))), .val (.int (Int32.ofNat c)), s4] []))
        refine Gd.go (fun _ w_k => XS.iloadN X1.here hx rfl (hb hby d5_73) rfl w_k) ?_
        show Gd _ _ _ _ (T1.setTop (mkF m 74 #[.val (.ref o), .val (.int (Int32.ofNat kx)), .val (.int (Int32.ofNat (R kx))), .val (.int (Int32.ofNat c)), s4] [(.int (Int32.ofNat (R kx)))]))
        refine own_retI X1 hx hret hlk (hb hby d5_74) ?_ (by decide) (by decide)
        rw [e1]
        exact ⟨rfl, ⟨P', H1, I1⟩, K1, N1⟩
  have loop1 : ∀ (k y : Nat) (T : State), d y = k → y < 4 → R y = R kx → Stand pg l ev ({ frames := 0, cells := 0, slots := 0, locals := 0 } : Room) s_ m #[(.ref o), (.int (Int32.ofNat kx))] bl mt cd T [] 0 0 → T.heap = h0 → Gd pg.tables ev bl (Owes s_ 0 0 (fun r h L => r = some (.int (Int32.ofNat (R kx))) ∧ (∃ P', own_P Z h n0 o ap n P' ∧ own_I n P' R d) ∧ Keep h0 h [ap] ∧ Fr n0 L)) (T.setTop (mkF m 2 #[.val (.ref o), .val (.int (Int32.ofNat kx)), .val (.int (Int32.ofNat y)), .unset, .unset] [])) := by
    intro k
    induction k using Nat.strongRecOn with
    | _ k ih =>
      intro y T hk hy4 hR X eT
      refine Gd.go (fun _ w_k => XS.iloadN X.here hx rfl (hb hby d5_2) rfl (XS.aloadN X.here hx rfl (hb hby d5_3) rfl rfl w_k)) ?_
      show Gd _ _ _ _ (T.setTop (mkF m 4 #[.val (.ref o), .val (.int (Int32.ofNat kx)), .val (.int (Int32.ofNat y)), .unset, .unset] [(.ref o), (.int (Int32.ofNat y))]))
      obtain ⟨T13, X13, e13, st13⟩ := getF X hx hZ hown (host := "") (Or.inl (ow hw 15 rfl)) Via.refl eT H.2.1 (g := (mkF m 4 #[.val (.ref o), .val (.int (Int32.ofNat kx)), .val (.int (Int32.ofNat y)), .unset, .unset] [(.ref o), (.int (Int32.ofNat y))])) rfl rfl (hb hby d5_4)
      refine Gd.go (fun _ w_k => st13 _ (own_len X13 hx hZ e13 H.2.2.1 (z := (Int32.ofNat n)) rfl (g := (mkF m 7 #[.val (.ref o), .val (.int (Int32.ofNat kx)), .val (.int (Int32.ofNat y)), .unset, .unset] [(.ref ap), (.int (Int32.ofNat y))])) rfl rfl (hb hby d5_7) _ w_k)) ?_
      show Gd _ _ _ _ (T13.setTop (mkF m 8 #[.val (.ref o), .val (.int (Int32.ofNat kx)), .val (.int (Int32.ofNat y)), .unset, .unset] [(.int (Int32.ofNat n)), (.int (Int32.ofNat y))]))
      by_cases hc14 : (Int32.ofNat y) < (Int32.ofNat n)
      · refine Gd.go (fun _ w_k => XS.icmpNo X13.here hx rfl (hb hby d5_8) rfl (tlt hc14).2.1 w_k) ?_
        show Gd _ _ _ _ (T13.setTop (mkF m 11 #[.val (.ref o), .val (.int (Int32.ofNat kx)), .val (.int (Int32.ofNat y)), .unset, .unset] []))
        have hyn : y < n := (own_ltI (by omega) (by omega)).mp hc14
        refine Gd.go (fun _ w_k => XS.aloadN X13.here hx rfl (hb hby d5_11) rfl rfl w_k) ?_
        show Gd _ _ _ _ (T13.setTop (mkF m 12 #[.val (.ref o), .val (.int (Int32.ofNat kx)), .val (.int (Int32.ofNat y)), .unset, .unset] [(.ref o)]))
        obtain ⟨T15, X15, e15, st15⟩ := getF X13 hx hZ hown (host := "") (Or.inl (ow hw 15 rfl)) Via.refl e13 H.2.1 (g := (mkF m 12 #[.val (.ref o), .val (.int (Int32.ofNat kx)), .val (.int (Int32.ofNat y)), .unset, .unset] [(.ref o)])) rfl rfl (hb hby d5_12)
        refine Gd.go (fun _ w_k => st15 _ (XS.iloadN X15.here hx rfl (hb hby d5_15) rfl (own_ldI X15 hx hZ e15 H.2.2.1 (j := (Int32.ofNat y)) (by rw [own_ofN (by omega)]; omega) (by rw [own_ofN (by omega)]; omega) (v := (.int (Int32.ofNat (P y)))) (own_Ae (by omega)) (g := (mkF m 16 #[.val (.ref o), .val (.int (Int32.ofNat kx)), .val (.int (Int32.ofNat y)), .unset, .unset] [(.int (Int32.ofNat y)), (.ref ap)])) rfl rfl (hb hby d5_16) _ (XS.iloadN X15.here hx rfl (hb hby d5_17) rfl w_k)))) ?_
        show Gd _ _ _ _ (T15.setTop (mkF m 18 #[.val (.ref o), .val (.int (Int32.ofNat kx)), .val (.int (Int32.ofNat y)), .unset, .unset] [(.int (Int32.ofNat y)), (.int (Int32.ofNat (P y)))]))
        by_cases hc16 : (Int32.ofNat (P y)) = (Int32.ofNat y)
        · refine Gd.go (fun _ w_k => XS.icmpYes X15.here hx rfl (pc0 := 18) (pc' := 31) rfl (hb hby d5_18) rfl (teq hc16).1 (by decide) (by decide) w_k) ?_
          show Gd _ _ _ _ (T15.setTop (mkF m 31 #[.val (.ref o), .val (.int (Int32.ofNat kx)), .val (.int (Int32.ofNat y)), .unset, .unset] []))
          have ey : y = R kx := (own_I_top2 I hy4 hyn ((own_eqI (by have := (own_I_b I hy4 hyn); omega) (by omega)).mp hc16)).symm.trans hR
          rw [ey]
          show Gd _ _ _ _ (T15.setTop (mkF m 31 #[.val (.ref o), .val (.int (Int32.ofNat kx)), .val (.int (Int32.ofNat (R kx))), .unset, .unset] []))
          refine Gd.go (fun _ w_k => XS.iloadN X15.here hx rfl (hb hby d5_31) rfl (XS.istoreN X15.here hx rfl (hb hby d5_32) rfl (l' := #[.val (.ref o), .val (.int (Int32.ofNat kx)), .val (.int (Int32.ofNat (R kx))), .val (.int (Int32.ofNat kx)), .unset]) rfl w_k)) ?_
          show Gd _ _ _ _ (T15.setTop (mkF m 33 #[.val (.ref o), .val (.int (Int32.ofNat kx)), .val (.int (Int32.ofNat (R kx))), .val (.int (Int32.ofNat kx)), .unset] []))
          exact loop2 (d kx) kx P T15 h0 [] .unset own_s4u rfl hx4 rfl H I K0 N0 X15 e15
        · refine Gd.go (fun _ w_k => XS.icmpNo X15.here hx rfl (hb hby d5_18) rfl (feq hc16).1 w_k) ?_
          show Gd _ _ _ _ (T15.setTop (mkF m 21 #[.val (.ref o), .val (.int (Int32.ofNat kx)), .val (.int (Int32.ofNat y)), .unset, .unset] []))
          refine Gd.go (fun _ w_k => XS.aloadN X15.here hx rfl (hb hby d5_21) rfl rfl w_k) ?_
          show Gd _ _ _ _ (T15.setTop (mkF m 22 #[.val (.ref o), .val (.int (Int32.ofNat kx)), .val (.int (Int32.ofNat y)), .unset, .unset] [(.ref o)]))
          obtain ⟨T17, X17, e17, st17⟩ := getF X15 hx hZ hown (host := "") (Or.inl (ow hw 15 rfl)) Via.refl e15 H.2.1 (g := (mkF m 22 #[.val (.ref o), .val (.int (Int32.ofNat kx)), .val (.int (Int32.ofNat y)), .unset, .unset] [(.ref o)])) rfl rfl (hb hby d5_22)
          refine Gd.go (fun _ w_k => st17 _ (XS.iloadN X17.here hx rfl (hb hby d5_25) rfl (own_ldI X17 hx hZ e17 H.2.2.1 (j := (Int32.ofNat y)) (by rw [own_ofN (by omega)]; omega) (by rw [own_ofN (by omega)]; omega) (v := (.int (Int32.ofNat (P y)))) (own_Ae (by omega)) (g := (mkF m 26 #[.val (.ref o), .val (.int (Int32.ofNat kx)), .val (.int (Int32.ofNat y)), .unset, .unset] [(.int (Int32.ofNat y)), (.ref ap)])) rfl rfl (hb hby d5_26) _ (XS.istoreN X17.here hx rfl (hb hby d5_27) rfl (l' := #[.val (.ref o), .val (.int (Int32.ofNat kx)), .val (.int (Int32.ofNat (P y))), .unset, .unset]) rfl (XS.goto X17.here hx rfl (pc0 := 28) (pc' := 2) rfl (hb hby d5_28) (by decide) (by decide) w_k))))) ?_
          show Gd _ _ _ _ (T17.setTop (mkF m 2 #[.val (.ref o), .val (.int (Int32.ofNat kx)), .val (.int (Int32.ofNat (P y))), .unset, .unset] []))
          obtain ⟨p1, p2, p3⟩ := own_I_go I hy4 hyn (fun q => hc16 (by rw [q]))
          exact ih _ (by rw [← hk]; exact p3) _ _ rfl p1 (p2.trans hR) X17 e17
      · refine Gd.go (fun _ w_k => XS.icmpYes X13.here hx rfl (pc0 := 8) (pc' := 31) rfl (hb hby d5_8) rfl (flt hc14).2.1 (by decide) (by decide) w_k) ?_
        show Gd _ _ _ _ (T13.setTop (mkF m 31 #[.val (.ref o), .val (.int (Int32.ofNat kx)), .val (.int (Int32.ofNat y)), .unset, .unset] []))
        have ey : y = R kx := (own_I_top1 I hy4 (fun q => hc14 ((own_ltI (by omega) (by omega)).mpr q))).symm.trans hR
        rw [ey]
        show Gd _ _ _ _ (T13.setTop (mkF m 31 #[.val (.ref o), .val (.int (Int32.ofNat kx)), .val (.int (Int32.ofNat (R kx))), .unset, .unset] []))
        refine Gd.go (fun _ w_k => XS.iloadN X13.here hx rfl (hb hby d5_31) rfl (XS.istoreN X13.here hx rfl (hb hby d5_32) rfl (l' := #[.val (.ref o), .val (.int (Int32.ofNat kx)), .val (.int (Int32.ofNat (R kx))), .val (.int (Int32.ofNat kx)), .unset]) rfl w_k)) ?_
        show Gd _ _ _ _ (T13.setTop (mkF m 33 #[.val (.ref o), .val (.int (Int32.ofNat kx)), .val (.int (Int32.ofNat (R kx))), .val (.int (Int32.ofNat kx)), .unset] []))
        exact loop2 (d kx) kx P T13 h0 [] .unset own_s4u rfl hx4 rfl H I K0 N0 X13 e13
  refine Gd.go (fun _ w_k => XS.iloadN X0.here hx rfl (hb hby d5_0) rfl (XS.istoreN X0.here hx rfl (hb hby d5_1) rfl (l' := #[.val (.ref o), .val (.int (Int32.ofNat kx)), .val (.int (Int32.ofNat kx)), .unset, .unset]) rfl w_k)) ?_
  show Gd _ _ _ _ (s₁.setTop (mkF m 2 #[.val (.ref o), .val (.int (Int32.ofNat kx)), .val (.int (Int32.ofNat kx)), .unset, .unset] []))
  exact loop1 (d kx) kx s₁ rfl hx4 rfl X0 e0
theorem own_pn8 : plainFor (⟨"com/example/quiddity/quiddity/rdf/Partition", "join", "(II)V"⟩ : MethodName) = true := by first | exact plainFor_of_name (by first | (simp [plainName, overriddenIn, x]; done) | decide +kernel) | decide +kernel
theorem ef_4 (m : MethodId) (q0 : Addr) (q1 : Int32) (q2 : Int32) : entryFrame m #[(.ref q0), (.int q1), (.int q2)] 6 = mkF m 0 #[.val (.ref q0), .val (.int q1), .val (.int q2), .unset, .unset, .unset] [] := by first | (simp [entryFrame, mkF, argsToLocals, Value.category, maxLocals]; done) | rfl
theorem d4_0 : decode prog_23_method_3_code 0 = .ok (.aload_n 0, 1) := by decide +kernel
theorem d4_1 : decode prog_23_method_3_code 1 = .ok (.iload_n 1, 1) := by decide +kernel
theorem d4_2 : decode prog_23_method_3_code 2 = .ok (.invokevirtual 13, 3) := by decide +kernel
theorem d4_5 : decode prog_23_method_3_code 5 = .ok (.istore_n 3, 1) := by decide +kernel
theorem d4_6 : decode prog_23_method_3_code 6 = .ok (.aload_n 0, 1) := by decide +kernel
theorem d4_7 : decode prog_23_method_3_code 7 = .ok (.iload_n 2, 1) := by decide +kernel
theorem d4_8 : decode prog_23_method_3_code 8 = .ok (.invokevirtual 13, 3) := by decide +kernel
theorem d4_11 : decode prog_23_method_3_code 11 = .ok (.istore 4, 2) := by decide +kernel
theorem d4_13 : decode prog_23_method_3_code 13 = .ok (.iload_n 3, 1) := by decide +kernel
theorem d4_14 : decode prog_23_method_3_code 14 = .ok (.iload 4, 2) := by decide +kernel
theorem d4_16 : decode prog_23_method_3_code 16 = .ok (.if_icmp .eq 66, 3) := by decide +kernel
theorem d4_82 : decode prog_23_method_3_code 82 = .ok (.return_, 1) := by decide +kernel
theorem d4_19 : decode prog_23_method_3_code 19 = .ok (.iload_n 3, 1) := by decide +kernel
theorem d4_20 : decode prog_23_method_3_code 20 = .ok (.aload_n 0, 1) := by decide +kernel
theorem d4_21 : decode prog_23_method_3_code 21 = .ok (.getfield 7, 3) := by decide +kernel
theorem d4_24 : decode prog_23_method_3_code 24 = .ok (.arraylength, 1) := by decide +kernel
theorem d4_25 : decode prog_23_method_3_code 25 = .ok (.if_icmp .lt 49, 3) := by decide +kernel
theorem d4_74 : decode prog_23_method_3_code 74 = .ok (.aload_n 0, 1) := by decide +kernel
theorem d4_75 : decode prog_23_method_3_code 75 = .ok (.getfield 7, 3) := by decide +kernel
theorem d4_78 : decode prog_23_method_3_code 78 = .ok (.iload_n 3, 1) := by decide +kernel
theorem d4_79 : decode prog_23_method_3_code 79 = .ok (.iload 4, 2) := by decide +kernel
theorem d4_81 : decode prog_23_method_3_code 81 = .ok (.iastore, 1) := by decide +kernel
theorem d4_28 : decode prog_23_method_3_code 28 = .ok (.aload_n 0, 1) := by decide +kernel
theorem d4_29 : decode prog_23_method_3_code 29 = .ok (.getfield 7, 3) := by decide +kernel
theorem d4_32 : decode prog_23_method_3_code 32 = .ok (.arraylength, 1) := by decide +kernel
theorem d4_33 : decode prog_23_method_3_code 33 = .ok (.istore 5, 2) := by decide +kernel
theorem d4_35 : decode prog_23_method_3_code 35 = .ok (.aload_n 0, 1) := by decide +kernel
theorem d4_36 : decode prog_23_method_3_code 36 = .ok (.aload_n 0, 1) := by decide +kernel
theorem d4_37 : decode prog_23_method_3_code 37 = .ok (.getfield 7, 3) := by decide +kernel
theorem d4_40 : decode prog_23_method_3_code 40 = .ok (.iload_n 3, 1) := by decide +kernel
theorem d4_41 : decode prog_23_method_3_code 41 = .ok (.iconst 1, 1) := by decide +kernel
theorem d4_42 : decode prog_23_method_3_code 42 = .ok (.iadd, 1) := by decide +kernel
theorem d4_43 : decode prog_23_method_3_code 43 = .ok (.iconst 2, 1) := by decide +kernel
theorem d4_44 : decode prog_23_method_3_code 44 = .ok (.aload_n 0, 1) := by decide +kernel
theorem d4_45 : decode prog_23_method_3_code 45 = .ok (.getfield 7, 3) := by decide +kernel
theorem d4_48 : decode prog_23_method_3_code 48 = .ok (.arraylength, 1) := by decide +kernel
theorem d4_49 : decode prog_23_method_3_code 49 = .ok (.imul, 1) := by decide +kernel
theorem d4_50 : decode prog_23_method_3_code 50 = .ok (.invokestatic 17, 3) := by decide +kernel
theorem own_pd3 : parseMethodDescriptor "([II)[I" = some ⟨[(.array .int), .int], some (.array .int)⟩ := by decide +kernel
theorem d4_53 : decode prog_23_method_3_code 53 = .ok (.invokestatic 23, 3) := by decide +kernel
theorem d4_56 : decode prog_23_method_3_code 56 = .ok (.putfield 7, 3) := by decide +kernel
theorem d4_59 : decode prog_23_method_3_code 59 = .ok (.aload_n 0, 1) := by decide +kernel
theorem d4_60 : decode prog_23_method_3_code 60 = .ok (.getfield 7, 3) := by decide +kernel
theorem d4_63 : decode prog_23_method_3_code 63 = .ok (.aload_n 0, 1) := by decide +kernel
theorem d4_64 : decode prog_23_method_3_code 64 = .ok (.iload 5, 2) := by decide +kernel
theorem d4_66 : decode prog_23_method_3_code 66 = .ok (.invokedynamic 29, 5) := by decide +kernel
theorem own_pd4 : parseMethodDescriptor "([ILjava/util/function/IntUnaryOperator;)V" = some ⟨[(.array .int), (.object "java/util/function/IntUnaryOperator")], none⟩ := by decide +kernel
theorem d4_71 : decode prog_23_method_3_code 71 = .ok (.invokestatic 33, 3) := by decide +kernel
set_option maxRecDepth 65536 in
set_option maxHeartbeats 40000000 in
theorem own_c4 (l : Launch) (Z : State) (a0 : Array Value) (hw : ∀ d ∈ tables_1, d.before a0 Z = true) (o ap : Addr) (n u v : Nat) (P R d : Nat → Nat) (h0 : Heap) (n0 : Nat) (Z0 : n0 ≤ h0.size) (H : own_P Z h0 n0 o ap n P) (I : own_I n P R d) (hu : u < 4) (hv : v < 4) :
    ConH l Z (⟨"com/example/quiddity/quiddity/rdf/Partition", "join", "(II)V"⟩ : MethodName) prog_23_method_3_code 6 none [] ({ frames := 3, cells := 2, slots := 8, locals := 3120 } : Room) 2 8 #[(.ref o), (.int (Int32.ofNat u)), (.int (Int32.ofNat v))] h0 (fun r h L => r = none ∧ (∃ ap' n' P' d', own_P Z h n0 o ap' n' P' ∧ own_I n' P' (own_mg R u v) d' ∧ (ap' = ap ∨ h0.size ≤ ap')) ∧ Keep h0 h [o, ap] ∧ Fr n0 L) := by
  refine ConH.of own_pn8 ?_
  intro pg ev s_ m bl mt cd s₁ hx hby hml hown hnm hret hlk hZ X0 e0 hHN
  rw [ef_4]
  show Gd _ _ _ _ (s₁.setTop (mkF m 0 #[.val (.ref o), .val (.int (Int32.ofNat u)), .val (.int (Int32.ofNat v)), .unset, .unset, .unset] []))
  have hn6 := I.1
  have N0 := Fr.nil n0
  have K0 := Keep.refl h0 [o, ap]
  have ru := (I.2.1 u hu).1
  have rv := (I.2.1 v hv).1
  refine Gd.go (fun _ w_k => XS.aloadN X0.here hx rfl (hb hby d4_0) rfl rfl (XS.iloadN X0.here hx rfl (hb hby d4_1) rfl w_k)) ?_
  show Gd _ _ _ _ (s₁.setTop (mkF m 2 #[.val (.ref o), .val (.int (Int32.ofNat u)), .val (.int (Int32.ofNat v)), .unset, .unset, .unset] [(.int (Int32.ofNat u)), (.ref o)]))
  obtain ⟨v1, T1, L1, X1, hQ1, st1⟩ := own_callV X0 hx hZ (C := "com/example/quiddity/quiddity/rdf/Partition") (y := (⟨"com/example/quiddity/quiddity/rdf/Partition", "root", "(I)I"⟩ : MethodName)) hown (ow hw 22 rfl) (ow hw 23 rfl) (ow hw 25 rfl) (ow hw 24 rfl) (ow hw 8 rfl) (ow hw 26 rfl) (by decide) H.1 (W := 0) (own_c5 l Z a0 hw o ap n u P R d h0 n0 H I hu) rfl rfl e0 (by decide) (by decide) (g := (mkF m 2 #[.val (.ref o), .val (.int (Int32.ofNat u)), .val (.int (Int32.ofNat v)), .unset, .unset, .unset] [(.int (Int32.ofNat u)), (.ref o)])) rfl (by rw [hml]; rfl) (argsL := [(.int (Int32.ofNat u))]) (rest := []) (lenOf own_pd1 rfl) rfl (Nat.le_of_eq rfl) (hb hby d4_2) rfl (by decide) (by decide)
  obtain ⟨rfl, ⟨Pa, Ha, Ia⟩, Ka, Na⟩ := hQ1
  refine Gd.go (fun _ w_k => st1 _ w_k) ?_
  show Gd _ _ _ _ (T1.setTop (mkF m 5 #[.val (.ref o), .val (.int (Int32.ofNat u)), .val (.int (Int32.ofNat v)), .unset, .unset, .unset] [(.int (Int32.ofNat (R u)))]))
  have xZs2 := Nat.le_trans Z0 Ka.1
  have xN3 := Fr.app N0 Na
  have xK4 := Keep.trans K0 Ka (allS (P := fun z => z ∈ ([o, ap] : List Addr) ∨ h0.size ≤ z) (Or.inl (by simp)) all0)
  refine Gd.go (fun _ w_k => XS.istoreN X1.here hx rfl (hb hby d4_5) rfl (l' := #[.val (.ref o), .val (.int (Int32.ofNat u)), .val (.int (Int32.ofNat v)), .val (.int (Int32.ofNat (R u))), .unset, .unset]) rfl (XS.aloadN X1.here hx rfl (hb hby d4_6) rfl rfl (XS.iloadN X1.here hx rfl (hb hby d4_7) rfl w_k))) ?_
  show Gd _ _ _ _ (T1.setTop (mkF m 8 #[.val (.ref o), .val (.int (Int32.ofNat u)), .val (.int (Int32.ofNat v)), .val (.int (Int32.ofNat (R u))), .unset, .unset] [(.int (Int32.ofNat v)), (.ref o)]))
  obtain ⟨v5, T5, L5, X5, hQ5, st5⟩ := own_callV X1 hx hZ (C := "com/example/quiddity/quiddity/rdf/Partition") (y := (⟨"com/example/quiddity/quiddity/rdf/Partition", "root", "(I)I"⟩ : MethodName)) hown (ow hw 22 rfl) (ow hw 23 rfl) (ow hw 25 rfl) (ow hw 24 rfl) (ow hw 8 rfl) (ow hw 26 rfl) (by decide) Ha.1 (W := 0) (own_c5 l Z a0 hw o ap n v Pa R d T1.heap n0 Ha Ia hv) rfl rfl rfl (by decide) (by decide) (g := (mkF m 8 #[.val (.ref o), .val (.int (Int32.ofNat u)), .val (.int (Int32.ofNat v)), .val (.int (Int32.ofNat (R u))), .unset, .unset] [(.int (Int32.ofNat v)), (.ref o)])) rfl (by rw [hml]; rfl) (argsL := [(.int (Int32.ofNat v))]) (rest := []) (lenOf own_pd1 rfl) rfl (Nat.le_of_eq rfl) (hb hby d4_8) rfl (by decide) (by decide)
  obtain ⟨rfl, ⟨Pb, Hb, Ib⟩, Kb, Nb⟩ := hQ5
  refine Gd.go (fun _ w_k => st5 _ w_k) ?_
  show Gd _ _ _ _ (T5.setTop (mkF m 11 #[.val (.ref o), .val (.int (Int32.ofNat u)), .val (.int (Int32.ofNat v)), .val (.int (Int32.ofNat (R u))), .unset, .unset] [(.int (Int32.ofNat (R v)))]))
  have xZs6 := Nat.le_trans xZs2 Kb.1
  have xN7 := Fr.app xN3 Nb
  have xK8 := Keep.trans xK4 Kb (allS (P := fun z => z ∈ ([o, ap] : List Addr) ∨ h0.size ≤ z) (Or.inl (by simp)) all0)
  refine Gd.go (fun _ w_k => XS.istore X5.here hx rfl (hb hby d4_11) rfl (l' := #[.val (.ref o), .val (.int (Int32.ofNat u)), .val (.int (Int32.ofNat v)), .val (.int (Int32.ofNat (R u))), .val (.int (Int32.ofNat (R v))), .unset]) rfl (XS.iloadN X5.here hx rfl (hb hby d4_13) rfl (XS.iload X5.here hx rfl (hb hby d4_14) rfl w_k))) ?_
  show Gd _ _ _ _ (T5.setTop (mkF m 16 #[.val (.ref o), .val (.int (Int32.ofNat u)), .val (.int (Int32.ofNat v)), .val (.int (Int32.ofNat (R u))), .val (.int (Int32.ofNat (R v))), .unset] [(.int (Int32.ofNat (R v))), (.int (Int32.ofNat (R u)))]))
  by_cases hc9 : (Int32.ofNat (R u)) = (Int32.ofNat (R v))
  · refine Gd.go (fun _ w_k => XS.icmpYes X5.here hx rfl (pc0 := 16) (pc' := 82) rfl (hb hby d4_16) rfl (teq hc9).1 (by decide) (by decide) w_k) ?_
    show Gd _ _ _ _ (T5.setTop (mkF m 82 #[.val (.ref o), .val (.int (Int32.ofNat u)), .val (.int (Int32.ofNat v)), .val (.int (Int32.ofNat (R u))), .val (.int (Int32.ofNat (R v))), .unset] []))
    refine own_retV X5 hx hret hlk (hb hby d4_82) ?_ (by decide) (by decide)
    exact ⟨rfl, ⟨ap, n, Pb, d, Hb, by rw [own_mg_eq ((own_eqI (by omega) (by omega)).mp hc9)]; exact Ib, Or.inl rfl⟩, xK8, xN7⟩
  · refine Gd.go (fun _ w_k => XS.icmpNo X5.here hx rfl (hb hby d4_16) rfl (feq hc9).1 w_k) ?_
    show Gd _ _ _ _ (T5.setTop (mkF m 19 #[.val (.ref o), .val (.int (Int32.ofNat u)), .val (.int (Int32.ofNat v)), .val (.int (Int32.ofNat (R u))), .val (.int (Int32.ofNat (R v))), .unset] []))
    have hne : R u ≠ R v := fun q => hc9 (by rw [q])
    refine Gd.go (fun _ w_k => XS.iloadN X5.here hx rfl (hb hby d4_19) rfl (XS.aloadN X5.here hx rfl (hb hby d4_20) rfl rfl w_k)) ?_
    show Gd _ _ _ _ (T5.setTop (mkF m 21 #[.val (.ref o), .val (.int (Int32.ofNat u)), .val (.int (Int32.ofNat v)), .val (.int (Int32.ofNat (R u))), .val (.int (Int32.ofNat (R v))), .unset] [(.ref o), (.int (Int32.ofNat (R u)))]))
    obtain ⟨T10, X10, e10, st10⟩ := getF X5 hx hZ hown (host := "") (Or.inl (ow hw 15 rfl)) Via.refl rfl Hb.2.1 (g := (mkF m 21 #[.val (.ref o), .val (.int (Int32.ofNat u)), .val (.int (Int32.ofNat v)), .val (.int (Int32.ofNat (R u))), .val (.int (Int32.ofNat (R v))), .unset] [(.ref o), (.int (Int32.ofNat (R u)))])) rfl rfl (hb hby d4_21)
    refine Gd.go (fun _ w_k => st10 _ (own_len X10 hx hZ e10 Hb.2.2.1 (z := (Int32.ofNat n)) rfl (g := (mkF m 24 #[.val (.ref o), .val (.int (Int32.ofNat u)), .val (.int (Int32.ofNat v)), .val (.int (Int32.ofNat (R u))), .val (.int (Int32.ofNat (R v))), .unset] [(.ref ap), (.int (Int32.ofNat (R u)))])) rfl rfl (hb hby d4_24) _ w_k)) ?_
    show Gd _ _ _ _ (T10.setTop (mkF m 25 #[.val (.ref o), .val (.int (Int32.ofNat u)), .val (.int (Int32.ofNat v)), .val (.int (Int32.ofNat (R u))), .val (.int (Int32.ofNat (R v))), .unset] [(.int (Int32.ofNat n)), (.int (Int32.ofNat (R u)))]))
    by_cases hc11 : (Int32.ofNat (R u)) < (Int32.ofNat n)
    · refine Gd.go (fun _ w_k => XS.icmpYes X10.here hx rfl (pc0 := 25) (pc' := 74) rfl (hb hby d4_25) rfl (tlt hc11).1 (by decide) (by decide) w_k) ?_
      show Gd _ _ _ _ (T10.setTop (mkF m 74 #[.val (.ref o), .val (.int (Int32.ofNat u)), .val (.int (Int32.ofNat v)), .val (.int (Int32.ofNat (R u))), .val (.int (Int32.ofNat (R v))), .unset] []))
      have hlt : R u < n := (own_ltI (by omega) (by omega)).mp hc11
      refine Gd.go (fun _ w_k => XS.aloadN X10.here hx rfl (hb hby d4_74) rfl rfl w_k) ?_
      show Gd _ _ _ _ (T10.setTop (mkF m 75 #[.val (.ref o), .val (.int (Int32.ofNat u)), .val (.int (Int32.ofNat v)), .val (.int (Int32.ofNat (R u))), .val (.int (Int32.ofNat (R v))), .unset] [(.ref o)]))
      obtain ⟨T12, X12, e12, st12⟩ := getF X10 hx hZ hown (host := "") (Or.inl (ow hw 15 rfl)) Via.refl e10 Hb.2.1 (g := (mkF m 75 #[.val (.ref o), .val (.int (Int32.ofNat u)), .val (.int (Int32.ofNat v)), .val (.int (Int32.ofNat (R u))), .val (.int (Int32.ofNat (R v))), .unset] [(.ref o)])) rfl rfl (hb hby d4_75)
      refine Gd.go (fun _ w_k => st12 _ (XS.iloadN X12.here hx rfl (hb hby d4_78) rfl (XS.iload X12.here hx rfl (hb hby d4_79) rfl w_k))) ?_
      show Gd _ _ _ _ (T12.setTop (mkF m 81 #[.val (.ref o), .val (.int (Int32.ofNat u)), .val (.int (Int32.ofNat v)), .val (.int (Int32.ofNat (R u))), .val (.int (Int32.ofNat (R v))), .unset] [(.int (Int32.ofNat (R v))), (.int (Int32.ofNat (R u))), (.ref ap)]))
      obtain ⟨T13, h13, X13, e13, W13, st13⟩ := own_stI X12 hx hZ e12 Hb.2.2.1 (j := (Int32.ofNat (R u))) (by rw [own_ofN (by omega)]; omega) (by rw [own_ofN (by omega)]; omega) (g := (mkF m 81 #[.val (.ref o), .val (.int (Int32.ofNat u)), .val (.int (Int32.ofNat v)), .val (.int (Int32.ofNat (R u))), .val (.int (Int32.ofNat (R v))), .unset] [(.int (Int32.ofNat (R v))), (.int (Int32.ofNat (R u))), (.ref ap)])) rfl rfl (hb hby d4_81)
      refine Gd.go (fun _ w_k => st13 _ w_k) ?_
      have xF14 := Hb.1.wr W13
      have xF15 := Hb.2.1.other W13 (Or.inl Hb.2.2.2.2.2)
      have xF16 := Hb.2.2.1.set W13
      have xN17 := Fr.snoc X13 xN7 Hb.2.2.2.2.1
      have xZs18 := Nat.le_trans xZs6 (Keep.of_wr W13).1
      have xK19 := Keep.wr xK8 W13 (Or.inl (by simp))
      show Gd _ _ _ _ (T13.setTop (mkF m 82 #[.val (.ref o), .val (.int (Int32.ofNat u)), .val (.int (Int32.ofNat v)), .val (.int (Int32.ofNat (R u))), .val (.int (Int32.ofNat (R v))), .unset] []))
      refine own_retV X13 hx hret hlk (hb hby d4_82) ?_ (by decide) (by decide)
      rw [e13]
      exact ⟨rfl, ⟨ap, _, _, _, ⟨xF14, xF15, own_updA (by omega) xF16, Hb.2.2.2.1, Hb.2.2.2.2.1, Hb.2.2.2.2.2⟩, own_I_join Ib hu hv hlt hne, (Or.inl rfl)⟩, xK19, xN17⟩
    · refine Gd.go (fun _ w_k => XS.icmpNo X10.here hx rfl (hb hby d4_25) rfl (flt hc11).1 w_k) ?_
      show Gd _ _ _ _ (T10.setTop (mkF m 28 #[.val (.ref o), .val (.int (Int32.ofNat u)), .val (.int (Int32.ofNat v)), .val (.int (Int32.ofNat (R u))), .val (.int (Int32.ofNat (R v))), .unset] []))
      have hge : n ≤ R u := Nat.le_of_not_lt (fun q => hc11 ((own_ltI (by omega) (by omega)).mpr q))
      obtain ⟨Ig, mg1⟩ := own_I_grow Ib hge ru
      have mg6 := Ig.1
      refine Gd.go (fun _ w_k => XS.aloadN X10.here hx rfl (hb hby d4_28) rfl rfl w_k) ?_
      show Gd _ _ _ _ (T10.setTop (mkF m 29 #[.val (.ref o), .val (.int (Int32.ofNat u)), .val (.int (Int32.ofNat v)), .val (.int (Int32.ofNat (R u))), .val (.int (Int32.ofNat (R v))), .unset] [(.ref o)]))
      obtain ⟨T20, X20, e20, st20⟩ := getF X10 hx hZ hown (host := "") (Or.inl (ow hw 15 rfl)) Via.refl e10 Hb.2.1 (g := (mkF m 29 #[.val (.ref o), .val (.int (Int32.ofNat u)), .val (.int (Int32.ofNat v)), .val (.int (Int32.ofNat (R u))), .val (.int (Int32.ofNat (R v))), .unset] [(.ref o)])) rfl rfl (hb hby d4_29)
      refine Gd.go (fun _ w_k => st20 _ (own_len X20 hx hZ e20 Hb.2.2.1 (z := (Int32.ofNat n)) rfl (g := (mkF m 32 #[.val (.ref o), .val (.int (Int32.ofNat u)), .val (.int (Int32.ofNat v)), .val (.int (Int32.ofNat (R u))), .val (.int (Int32.ofNat (R v))), .unset] [(.ref ap)])) rfl rfl (hb hby d4_32) _ (XS.istore X20.here hx rfl (hb hby d4_33) rfl (l' := #[.val (.ref o), .val (.int (Int32.ofNat u)), .val (.int (Int32.ofNat v)), .val (.int (Int32.ofNat (R u))), .val (.int (Int32.ofNat (R v))), .val (.int (Int32.ofNat n))]) rfl (XS.aloadN X20.here hx rfl (hb hby d4_35) rfl rfl (XS.aloadN X20.here hx rfl (hb hby d4_36) rfl rfl w_k))))) ?_
      show Gd _ _ _ _ (T20.setTop (mkF m 37 #[.val (.ref o), .val (.int (Int32.ofNat u)), .val (.int (Int32.ofNat v)), .val (.int (Int32.ofNat (R u))), .val (.int (Int32.ofNat (R v))), .val (.int (Int32.ofNat n))] [(.ref o), (.ref o)]))
      obtain ⟨T21, X21, e21, st21⟩ := getF X20 hx hZ hown (host := "") (Or.inl (ow hw 15 rfl)) Via.refl e20 Hb.2.1 (g := (mkF m 37 #[.val (.ref o), .val (.int (Int32.ofNat u)), .val (.int (Int32.ofNat v)), .val (.int (Int32.ofNat (R u))), .val (.int (Int32.ofNat (R v))), .val (.int (Int32.ofNat n))] [(.ref o), (.ref o)])) rfl rfl (hb hby d4_37)
      refine Gd.go (fun _ w_k => st21 _ (XS.iloadN X21.here hx rfl (hb hby d4_40) rfl (XS.iconst X21.here hx rfl (hb hby d4_41) (XS.iadd X21.here hx rfl (hb hby d4_42) rfl w_k)))) ?_
      show Gd _ _ _ _ (T21.setTop (mkF m 43 #[.val (.ref o), .val (.int (Int32.ofNat u)), .val (.int (Int32.ofNat v)), .val (.int (Int32.ofNat (R u))), .val (.int (Int32.ofNat (R v))), .val (.int (Int32.ofNat n))] [(.int ((Int32.ofNat (R u)) + (1 : Int32))), (.ref ap), (.ref o)]))
      rw [own_incN]
      show Gd _ _ _ _ (T21.setTop (mkF m 43 #[.val (.ref o), .val (.int (Int32.ofNat u)), .val (.int (Int32.ofNat v)), .val (.int (Int32.ofNat (R u))), .val (.int (Int32.ofNat (R v))), .val (.int (Int32.ofNat n))] [(.int (Int32.ofNat (R u + 1))), (.ref ap), (.ref o)]))
      refine Gd.go (fun _ w_k => XS.iconst X21.here hx rfl (hb hby d4_43) (XS.aloadN X21.here hx rfl (hb hby d4_44) rfl rfl w_k)) ?_
      show Gd _ _ _ _ (T21.setTop (mkF m 45 #[.val (.ref o), .val (.int (Int32.ofNat u)), .val (.int (Int32.ofNat v)), .val (.int (Int32.ofNat (R u))), .val (.int (Int32.ofNat (R v))), .val (.int (Int32.ofNat n))] [(.ref o), (.int (2 : Int32)), (.int (Int32.ofNat (R u + 1))), (.ref ap), (.ref o)]))
      obtain ⟨T22, X22, e22, st22⟩ := getF X21 hx hZ hown (host := "") (Or.inl (ow hw 15 rfl)) Via.refl e21 Hb.2.1 (g := (mkF m 45 #[.val (.ref o), .val (.int (Int32.ofNat u)), .val (.int (Int32.ofNat v)), .val (.int (Int32.ofNat (R u))), .val (.int (Int32.ofNat (R v))), .val (.int (Int32.ofNat n))] [(.ref o), (.int (2 : Int32)), (.int (Int32.ofNat (R u + 1))), (.ref ap), (.ref o)])) rfl rfl (hb hby d4_45)
      refine Gd.go (fun _ w_k => st22 _ (own_len X22 hx hZ e22 Hb.2.2.1 (z := (Int32.ofNat n)) rfl (g := (mkF m 48 #[.val (.ref o), .val (.int (Int32.ofNat u)), .val (.int (Int32.ofNat v)), .val (.int (Int32.ofNat (R u))), .val (.int (Int32.ofNat (R v))), .val (.int (Int32.ofNat n))] [(.ref ap), (.int (2 : Int32)), (.int (Int32.ofNat (R u + 1))), (.ref ap), (.ref o)])) rfl rfl (hb hby d4_48) _ (XS.imul X22.here hx rfl (hb hby d4_49) rfl w_k))) ?_
      show Gd _ _ _ _ (T22.setTop (mkF m 50 #[.val (.ref o), .val (.int (Int32.ofNat u)), .val (.int (Int32.ofNat v)), .val (.int (Int32.ofNat (R u))), .val (.int (Int32.ofNat (R v))), .val (.int (Int32.ofNat n))] [(.int ((2 : Int32) * (Int32.ofNat n))), (.int (Int32.ofNat (R u + 1))), (.ref ap), (.ref o)]))
      rw [own_dblN]
      show Gd _ _ _ _ (T22.setTop (mkF m 50 #[.val (.ref o), .val (.int (Int32.ofNat u)), .val (.int (Int32.ofNat v)), .val (.int (Int32.ofNat (R u))), .val (.int (Int32.ofNat (R v))), .val (.int (Int32.ofNat n))] [(.int (Int32.ofNat (2 * n))), (.int (Int32.ofNat (R u + 1))), (.ref ap), (.ref o)]))
      obtain ⟨T23, X23, e23, st23⟩ := own_callSP X22 hx hZ (y := (⟨"java/lang/Math", "max", "(II)I"⟩ : MethodName)) hown (ow hw 28 rfl) (ow hw 29 rfl) (ow hw 30 rfl) (ow hw 31 rfl) (by decide) (W := 2) (own_c6 l Z a0 hw (R u + 1) (2 * n) (by omega) (by omega) T5.heap) rfl rfl e22 (by decide) (by decide) (g := (mkF m 50 #[.val (.ref o), .val (.int (Int32.ofNat u)), .val (.int (Int32.ofNat v)), .val (.int (Int32.ofNat (R u))), .val (.int (Int32.ofNat (R v))), .val (.int (Int32.ofNat n))] [(.int (Int32.ofNat (2 * n))), (.int (Int32.ofNat (R u + 1))), (.ref ap), (.ref o)])) rfl (by rw [hml]; rfl) (argsL := [(.int (Int32.ofNat (R u + 1))), (.int (Int32.ofNat (2 * n)))]) (rest := [(.ref ap), (.ref o)]) (lenOf own_pd0 rfl) rfl (Nat.le_of_eq rfl) (hb hby d4_50) rfl
      refine Gd.go (fun _ w_k => st23 _ w_k) ?_
      show Gd _ _ _ _ (T23.setTop (mkF m 53 #[.val (.ref o), .val (.int (Int32.ofNat u)), .val (.int (Int32.ofNat v)), .val (.int (Int32.ofNat (R u))), .val (.int (Int32.ofNat (R v))), .val (.int (Int32.ofNat n))] [(.int (Int32.ofNat (own_mx (R u + 1) (2 * n)))), (.ref ap), (.ref o)]))
      have hN : (n : Int) < (Int32.ofNat (own_mx (R u + 1) (2 * n))).toInt ∧ (Int32.ofNat (own_mx (R u + 1) (2 * n))).toInt ≤ 6 := by rw [own_ofN (by omega)]; omega
      obtain ⟨v24, T24, L24, X24, hQ24, st24⟩ := own_callS X23 hx hZ (y := (⟨"java/util/Arrays", "copyOf", "([II)[I"⟩ : MethodName)) hown (ow hw 32 rfl) (ow hw 33 rfl) (ow hw 34 rfl) (ow hw 35 rfl) (by decide) (W := 1) (own_c7 l Z a0 hw ap n Pb (Int32.ofNat (own_mx (R u + 1) (2 * n))) hN T5.heap n0 xZs6 Hb.2.2.1) rfl rfl e23 (by decide) (by decide) (g := (mkF m 53 #[.val (.ref o), .val (.int (Int32.ofNat u)), .val (.int (Int32.ofNat v)), .val (.int (Int32.ofNat (R u))), .val (.int (Int32.ofNat (R v))), .val (.int (Int32.ofNat n))] [(.int (Int32.ofNat (own_mx (R u + 1) (2 * n)))), (.ref ap), (.ref o)])) rfl (by rw [hml]; rfl) (argsL := [(.ref ap), (.int (Int32.ofNat (own_mx (R u + 1) (2 * n))))]) (rest := [(.ref o)]) (lenOf own_pd3 rfl) rfl (Nat.le_of_eq rfl) (hb hby d4_53) rfl (by decide) (by decide)
      obtain ⟨bb, rfl, kb, Kq, Aq, Nq⟩ := hQ24
      refine Gd.go (fun _ w_k => st24 _ w_k) ?_
      show Gd _ _ _ _ (T24.setTop (mkF m 56 #[.val (.ref o), .val (.int (Int32.ofNat u)), .val (.int (Int32.ofNat v)), .val (.int (Int32.ofNat (R u))), .val (.int (Int32.ofNat (R v))), .val (.int (Int32.ofNat n))] [(.ref bb), (.ref o)]))
      rw [own_ofC (by omega)] at Aq
      have gbb : n0 ≤ bb := Nat.le_trans xZs6 kb
      have kbb : h0.size ≤ bb := Nat.le_trans xK8.1 kb
      have nob : o ≠ bb := Nat.ne_of_lt (Nat.lt_of_lt_of_le Hb.1.lt kb)
      have nab : ap ≠ bb := Nat.ne_of_lt (Nat.lt_of_lt_of_le Hb.2.2.1.lt kb)
      have xF25 := Hb.1.keep Kq
      have xF26 := Hb.2.1.keep Kq nin0
      have xF27 := Hb.2.2.1.keep Kq nin0
      have xZs28 := Nat.le_trans xZs6 Kq.1
      have xN29 := Fr.app xN7 Nq
      have xK30 := Keep.trans xK8 Kq all0
      obtain ⟨T31, h31, X31, e31, W31, st31⟩ := putF X24 hx hZ hown (host := "") (Or.inl (ow hw 15 rfl)) Via.refl rfl xF26 xF25 (Or.inl (ow hw 16 rfl)) (ow hw 7 rfl) (ty := (.array .int)) (by decide) rfl rfl (g := (mkF m 56 #[.val (.ref o), .val (.int (Int32.ofNat u)), .val (.int (Int32.ofNat v)), .val (.int (Int32.ofNat (R u))), .val (.int (Int32.ofNat (R v))), .val (.int (Int32.ofNat n))] [(.ref bb), (.ref o)])) rfl rfl (hb hby d4_56)
      refine Gd.go (fun _ w_k => st31 _ w_k) ?_
      have xF32 := xF25.wr W31
      have xF33 := xF26.same W31
      have xF34 := xF27.other W31 (Ne.symm Hb.2.2.2.2.2)
      have xF35 := Aq.other W31 (Ne.symm nob)
      have xN36 := Fr.snoc X31 xN29 Hb.2.2.2.1
      have xZs37 := Nat.le_trans xZs28 (Keep.of_wr W31).1
      have xK38 := Keep.wr xK30 W31 (Or.inl (by simp))
      show Gd _ _ _ _ (T31.setTop (mkF m 59 #[.val (.ref o), .val (.int (Int32.ofNat u)), .val (.int (Int32.ofNat v)), .val (.int (Int32.ofNat (R u))), .val (.int (Int32.ofNat (R v))), .val (.int (Int32.ofNat n))] []))
      refine Gd.go (fun _ w_k => XS.aloadN X31.here hx rfl (hb hby d4_59) rfl rfl w_k) ?_
      show Gd _ _ _ _ (T31.setTop (mkF m 60 #[.val (.ref o), .val (.int (Int32.ofNat u)), .val (.int (Int32.ofNat v)), .val (.int (Int32.ofNat (R u))), .val (.int (Int32.ofNat (R v))), .val (.int (Int32.ofNat n))] [(.ref o)]))
      obtain ⟨T39, X39, e39, st39⟩ := getF X31 hx hZ hown (host := "") (Or.inl (ow hw 15 rfl)) Via.refl e31 xF33 (g := (mkF m 60 #[.val (.ref o), .val (.int (Int32.ofNat u)), .val (.int (Int32.ofNat v)), .val (.int (Int32.ofNat (R u))), .val (.int (Int32.ofNat (R v))), .val (.int (Int32.ofNat n))] [(.ref o)])) rfl rfl (hb hby d4_60)
      refine Gd.go (fun _ w_k => st39 _ (XS.aloadN X39.here hx rfl (hb hby d4_63) rfl rfl (XS.iload X39.here hx rfl (hb hby d4_64) rfl w_k))) ?_
      show Gd _ _ _ _ (T39.setTop (mkF m 66 #[.val (.ref o), .val (.int (Int32.ofNat u)), .val (.int (Int32.ofNat v)), .val (.int (Int32.ofNat (R u))), .val (.int (Int32.ofNat (R v))), .val (.int (Int32.ofNat n))] [(.int (Int32.ofNat n)), (.ref o), (.ref bb)]))
      obtain ⟨cK, T40, h40, md, X40, e40, Es, fnc, st40⟩ := own_site X39 hx hHN.1 (x := (⟨"com/example/quiddity/quiddity/rdf/Partition", "join", "(II)V"⟩ : MethodName)) (σ := own_sg) hHN.2 (ow hw 43 rfl) (List.cons_ne_nil _ _) own_k1 (ow hw 46 rfl) e39 (g := (mkF m 66 #[.val (.ref o), .val (.int (Int32.ofNat u)), .val (.int (Int32.ofNat v)), .val (.int (Int32.ofNat (R u))), .val (.int (Int32.ofNat (R v))), .val (.int (Int32.ofNat n))] [(.int (Int32.ofNat n)), (.ref o), (.ref bb)])) rfl rfl (by rw [hml]; rfl) (hb hby d4_66) (vals := [.ref o, .int (Int32.ofNat n)]) (rest := [(.ref bb)]) rfl rfl (own_fit _ _) (by show 2 * 0 + 3 + 3072 ≤ 3120; decide) (by decide) (kv := 2) rfl (by decide)
      obtain ⟨bf, gf⟩ : ∃ z, z = h31.size := ⟨_, rfl⟩
      rw [← gf] at fnc st40
      have fnq : own_FN h40 bf cK o (Int32.ofNat n) := fnc
      have nbf : bf ≠ bb := Ne.symm (Nat.ne_of_lt (Nat.lt_of_lt_of_le xF35.lt (Nat.le_of_eq gf.symm)))
      have xF41 := xF32.ext Es
      have xF42 := xF33.ext Es
      have xF43 := xF35.ext Es
      have xZs44 := Nat.le_trans xZs37 Es.1
      have xK45 := Keep.ext xK38 Es
      refine Gd.go (fun _ w_k => st40 _ w_k) ?_
      show Gd _ _ _ _ (T40.setTop (mkF m 71 #[.val (.ref o), .val (.int (Int32.ofNat u)), .val (.int (Int32.ofNat v)), .val (.int (Int32.ofNat (R u))), .val (.int (Int32.ofNat (R v))), .val (.int (Int32.ofNat n))] [(.ref bf), (.ref bb)]))
      obtain ⟨v46, T46, L46, X46, hQ46, st46⟩ := own_callSH X40 hx hZ hHN.1 (y := (⟨"java/util/Arrays", "setAll", "([ILjava/util/function/IntUnaryOperator;)V"⟩ : MethodName)) hown (ow hw 47 rfl) (ow hw 48 rfl) (ow hw 34 rfl) (ow hw 49 rfl) (by decide) (W := 0) (own_c9 l Z a0 hw o bb bf (own_mx (R u + 1) (2 * n)) n (fun i => if i < n then Pb i else 0) cK h40 n0 md xF41 xF42 xF43 fnq gbb nob nbf (by omega) mg6) rfl rfl e40 (by decide) (by decide) (g := (mkF m 71 #[.val (.ref o), .val (.int (Int32.ofNat u)), .val (.int (Int32.ofNat v)), .val (.int (Int32.ofNat (R u))), .val (.int (Int32.ofNat (R v))), .val (.int (Int32.ofNat n))] [(.ref bf), (.ref bb)])) rfl (by rw [hml]; rfl) (argsL := [(.ref bb), (.ref bf)]) (rest := []) (lenOf own_pd4 rfl) rfl (Nat.le_of_eq rfl) (hb hby d4_71) rfl (by decide) (by decide)
      obtain ⟨rfl, As, Ks, Ns⟩ := hQ46
      refine Gd.go (fun _ w_k => st46 _ w_k) ?_
      show Gd _ _ _ _ (T46.setTop (mkF m 74 #[.val (.ref o), .val (.int (Int32.ofNat u)), .val (.int (Int32.ofNat v)), .val (.int (Int32.ofNat (R u))), .val (.int (Int32.ofNat (R v))), .val (.int (Int32.ofNat n))] []))
      have xF47 := xF41.keep Ks
      have xF48 := xF42.keep Ks (ninS nob nin0)
      have xZs49 := Nat.le_trans xZs44 Ks.1
      have xN50 := Fr.app xN36 Ns
      have xK51 := Keep.trans xK45 Ks (allS (P := fun z => z ∈ ([o, ap] : List Addr) ∨ h0.size ≤ z) (Or.inr kbb) all0)
      have Ag := ArF.congr As (own_wkg Pb)
      refine Gd.go (fun _ w_k => XS.aloadN X46.here hx rfl (hb hby d4_74) rfl rfl w_k) ?_
      show Gd _ _ _ _ (T46.setTop (mkF m 75 #[.val (.ref o), .val (.int (Int32.ofNat u)), .val (.int (Int32.ofNat v)), .val (.int (Int32.ofNat (R u))), .val (.int (Int32.ofNat (R v))), .val (.int (Int32.ofNat n))] [(.ref o)]))
      obtain ⟨T52, X52, e52, st52⟩ := getF X46 hx hZ hown (host := "") (Or.inl (ow hw 15 rfl)) Via.refl rfl xF48 (g := (mkF m 75 #[.val (.ref o), .val (.int (Int32.ofNat u)), .val (.int (Int32.ofNat v)), .val (.int (Int32.ofNat (R u))), .val (.int (Int32.ofNat (R v))), .val (.int (Int32.ofNat n))] [(.ref o)])) rfl rfl (hb hby d4_75)
      refine Gd.go (fun _ w_k => st52 _ (XS.iloadN X52.here hx rfl (hb hby d4_78) rfl (XS.iload X52.here hx rfl (hb hby d4_79) rfl w_k))) ?_
      show Gd _ _ _ _ (T52.setTop (mkF m 81 #[.val (.ref o), .val (.int (Int32.ofNat u)), .val (.int (Int32.ofNat v)), .val (.int (Int32.ofNat (R u))), .val (.int (Int32.ofNat (R v))), .val (.int (Int32.ofNat n))] [(.int (Int32.ofNat (R v))), (.int (Int32.ofNat (R u))), (.ref bb)]))
      obtain ⟨T53, h53, X53, e53, W53, st53⟩ := own_stI X52 hx hZ e52 Ag (j := (Int32.ofNat (R u))) (by rw [own_ofN (by omega)]; omega) (by rw [own_ofN (by omega)]; omega) (g := (mkF m 81 #[.val (.ref o), .val (.int (Int32.ofNat u)), .val (.int (Int32.ofNat v)), .val (.int (Int32.ofNat (R u))), .val (.int (Int32.ofNat (R v))), .val (.int (Int32.ofNat n))] [(.int (Int32.ofNat (R v))), (.int (Int32.ofNat (R u))), (.ref bb)])) rfl rfl (hb hby d4_81)
      refine Gd.go (fun _ w_k => st53 _ w_k) ?_
      have xF54 := xF47.wr W53
      have xF55 := xF48.other W53 (Or.inl nob)
      have xF56 := Ag.set W53
      have xN57 := Fr.snoc X53 xN50 gbb
      have xZs58 := Nat.le_trans xZs49 (Keep.of_wr W53).1
      have xK59 := Keep.wr xK51 W53 (Or.inr kbb)
      show Gd _ _ _ _ (T53.setTop (mkF m 82 #[.val (.ref o), .val (.int (Int32.ofNat u)), .val (.int (Int32.ofNat v)), .val (.int (Int32.ofNat (R u))), .val (.int (Int32.ofNat (R v))), .val (.int (Int32.ofNat n))] []))
      refine own_retV X53 hx hret hlk (hb hby d4_82) ?_ (by decide) (by decide)
      rw [e53]
      exact ⟨rfl, ⟨bb, _, _, _, ⟨xF54, xF55, own_updA (by omega) xF56, Hb.2.2.2.1, gbb, nob⟩, own_I_join Ig hu hv mg1 hne, (Or.inr kbb)⟩, xK59, xN57⟩
theorem own_pn9 : plainFor (⟨"com/example/quiddity/quiddity/rdf/PartitionRootPinLaw", "merge", "([III)V"⟩ : MethodName) = true := by first | exact plainFor_of_name (by first | (simp [plainName, overriddenIn, x]; done) | decide +kernel) | decide +kernel
theorem ef_1 (m : MethodId) (q0 : Addr) (q1 : Int32) (q2 : Int32) : entryFrame m #[(.ref q0), (.int q1), (.int q2)] 5 = mkF m 0 #[.val (.ref q0), .val (.int q1), .val (.int q2), .unset, .unset] [] := by first | (simp [entryFrame, mkF, argsToLocals, Value.category, maxLocals]; done) | rfl
theorem d1_0 : decode method_2_code 0 = .ok (.aload_n 0, 1) := by decide +kernel
theorem d1_1 : decode method_2_code 1 = .ok (.iload_n 1, 1) := by decide +kernel
theorem d1_2 : decode method_2_code 2 = .ok (.iaload, 1) := by decide +kernel
theorem d1_3 : decode method_2_code 3 = .ok (.istore_n 3, 1) := by decide +kernel
theorem d1_4 : decode method_2_code 4 = .ok (.aload_n 0, 1) := by decide +kernel
theorem d1_5 : decode method_2_code 5 = .ok (.iload_n 2, 1) := by decide +kernel
theorem d1_6 : decode method_2_code 6 = .ok (.iaload, 1) := by decide +kernel
theorem d1_7 : decode method_2_code 7 = .ok (.istore 4, 2) := by decide +kernel
theorem d1_9 : decode method_2_code 9 = .ok (.aload_n 0, 1) := by decide +kernel
theorem d1_10 : decode method_2_code 10 = .ok (.iconst 0, 1) := by decide +kernel
theorem d1_11 : decode method_2_code 11 = .ok (.iaload, 1) := by decide +kernel
theorem d1_12 : decode method_2_code 12 = .ok (.iload_n 3, 1) := by decide +kernel
theorem d1_13 : decode method_2_code 13 = .ok (.if_icmp .ne 8, 3) := by decide +kernel
theorem d1_16 : decode method_2_code 16 = .ok (.aload_n 0, 1) := by decide +kernel
theorem d1_17 : decode method_2_code 17 = .ok (.iconst 0, 1) := by decide +kernel
theorem d1_18 : decode method_2_code 18 = .ok (.iload 4, 2) := by decide +kernel
theorem d1_20 : decode method_2_code 20 = .ok (.iastore, 1) := by decide +kernel
theorem d1_21 : decode method_2_code 21 = .ok (.aload_n 0, 1) := by decide +kernel
theorem d1_22 : decode method_2_code 22 = .ok (.iconst 1, 1) := by decide +kernel
theorem d1_23 : decode method_2_code 23 = .ok (.iaload, 1) := by decide +kernel
theorem d1_24 : decode method_2_code 24 = .ok (.iload_n 3, 1) := by decide +kernel
theorem d1_25 : decode method_2_code 25 = .ok (.if_icmp .ne 8, 3) := by decide +kernel
theorem d1_28 : decode method_2_code 28 = .ok (.aload_n 0, 1) := by decide +kernel
theorem d1_29 : decode method_2_code 29 = .ok (.iconst 1, 1) := by decide +kernel
theorem d1_30 : decode method_2_code 30 = .ok (.iload 4, 2) := by decide +kernel
theorem d1_32 : decode method_2_code 32 = .ok (.iastore, 1) := by decide +kernel
theorem d1_33 : decode method_2_code 33 = .ok (.aload_n 0, 1) := by decide +kernel
theorem d1_34 : decode method_2_code 34 = .ok (.iconst 2, 1) := by decide +kernel
theorem d1_35 : decode method_2_code 35 = .ok (.iaload, 1) := by decide +kernel
theorem d1_36 : decode method_2_code 36 = .ok (.iload_n 3, 1) := by decide +kernel
theorem d1_37 : decode method_2_code 37 = .ok (.if_icmp .ne 8, 3) := by decide +kernel
theorem d1_40 : decode method_2_code 40 = .ok (.aload_n 0, 1) := by decide +kernel
theorem d1_41 : decode method_2_code 41 = .ok (.iconst 2, 1) := by decide +kernel
theorem d1_42 : decode method_2_code 42 = .ok (.iload 4, 2) := by decide +kernel
theorem d1_44 : decode method_2_code 44 = .ok (.iastore, 1) := by decide +kernel
theorem d1_45 : decode method_2_code 45 = .ok (.aload_n 0, 1) := by decide +kernel
theorem d1_46 : decode method_2_code 46 = .ok (.iconst 3, 1) := by decide +kernel
theorem d1_47 : decode method_2_code 47 = .ok (.iaload, 1) := by decide +kernel
theorem d1_48 : decode method_2_code 48 = .ok (.iload_n 3, 1) := by decide +kernel
theorem d1_49 : decode method_2_code 49 = .ok (.if_icmp .ne 8, 3) := by decide +kernel
theorem d1_52 : decode method_2_code 52 = .ok (.aload_n 0, 1) := by decide +kernel
theorem d1_53 : decode method_2_code 53 = .ok (.iconst 3, 1) := by decide +kernel
theorem d1_54 : decode method_2_code 54 = .ok (.iload 4, 2) := by decide +kernel
theorem d1_56 : decode method_2_code 56 = .ok (.iastore, 1) := by decide +kernel
theorem d1_57 : decode method_2_code 57 = .ok (.return_, 1) := by decide +kernel
set_option maxRecDepth 65536 in
set_option maxHeartbeats 40000000 in
theorem own_c1 (l : Launch) (Z : State) (a0 : Array Value) (hw : ∀ d ∈ tables_1, d.before a0 Z = true) (a : Addr) (u v : Nat) (f : Nat → Nat) (h0 : Heap) (n0 : Nat) (ga : n0 ≤ a) (A0 : ArF Z h0 a .int 4 (own_A f)) (hf : ∀ i, i < 4 → f i < 4) (hu : u < 4) (hv : v < 4) :
    Con l Z (⟨"com/example/quiddity/quiddity/rdf/PartitionRootPinLaw", "merge", "([III)V"⟩ : MethodName) method_2_code 5 none [] ({ frames := 0, cells := 0, slots := 0, locals := 0 } : Room) 0 0 #[(.ref a), (.int (Int32.ofNat u)), (.int (Int32.ofNat v))] h0 (fun r h L => r = none ∧ ArF Z h a .int 4 (own_A (own_mg f u v)) ∧ Keep h0 h [a] ∧ Fr n0 L) := by
  refine Con.of own_pn9 ?_
  intro pg ev s_ m bl mt cd s₁ hx hby hml hown hnm hret hlk hZ X0 e0
  rw [ef_1]
  show Gd _ _ _ _ (s₁.setTop (mkF m 0 #[.val (.ref a), .val (.int (Int32.ofNat u)), .val (.int (Int32.ofNat v)), .unset, .unset] []))
  have N0 := Fr.nil n0
  have K0 := Keep.refl h0 [a]
  have fu := hf u hu
  have fv := hf v hv
  refine Gd.go (fun _ w_k => XS.aloadN X0.here hx rfl (hb hby d1_0) rfl rfl (XS.iloadN X0.here hx rfl (hb hby d1_1) rfl (own_ldI X0 hx hZ e0 A0 (j := (Int32.ofNat u)) (by rw [own_ofN (by omega)]; omega) (by rw [own_ofN (by omega)]; omega) (v := (.int (Int32.ofNat (f u)))) (own_Ae (by omega)) (g := (mkF m 2 #[.val (.ref a), .val (.int (Int32.ofNat u)), .val (.int (Int32.ofNat v)), .unset, .unset] [(.int (Int32.ofNat u)), (.ref a)])) rfl rfl (hb hby d1_2) _ (XS.istoreN X0.here hx rfl (hb hby d1_3) rfl (l' := #[.val (.ref a), .val (.int (Int32.ofNat u)), .val (.int (Int32.ofNat v)), .val (.int (Int32.ofNat (f u))), .unset]) rfl (XS.aloadN X0.here hx rfl (hb hby d1_4) rfl rfl (XS.iloadN X0.here hx rfl (hb hby d1_5) rfl (own_ldI X0 hx hZ e0 A0 (j := (Int32.ofNat v)) (by rw [own_ofN (by omega)]; omega) (by rw [own_ofN (by omega)]; omega) (v := (.int (Int32.ofNat (f v)))) (own_Ae (by omega)) (g := (mkF m 6 #[.val (.ref a), .val (.int (Int32.ofNat u)), .val (.int (Int32.ofNat v)), .val (.int (Int32.ofNat (f u))), .unset] [(.int (Int32.ofNat v)), (.ref a)])) rfl rfl (hb hby d1_6) _ (XS.istore X0.here hx rfl (hb hby d1_7) rfl (l' := #[.val (.ref a), .val (.int (Int32.ofNat u)), .val (.int (Int32.ofNat v)), .val (.int (Int32.ofNat (f u))), .val (.int (Int32.ofNat (f v)))]) rfl w_k)))))))) ?_
  show Gd _ _ _ _ (s₁.setTop (mkF m 9 #[.val (.ref a), .val (.int (Int32.ofNat u)), .val (.int (Int32.ofNat v)), .val (.int (Int32.ofNat (f u))), .val (.int (Int32.ofNat (f v)))] []))
  have M0 := ArF.congr A0 (own_mk0 f u v)
  refine Gd.viaA (A := fun y : State × List Loc => Stand pg l ev ({ frames := 0, cells := 0, slots := 0, locals := 0 } : Room) s_ m #[(.ref a), (.int (Int32.ofNat u)), (.int (Int32.ofNat v))] bl mt cd y.1 y.2 0 0 ∧ ArF Z y.1.heap a .int 4 (own_A (own_mk f u v 1)) ∧ Keep h0 y.1.heap [a] ∧ Fr n0 y.2) (S' := fun y => y.1.setTop (mkF m 21 #[.val (.ref a), .val (.int (Int32.ofNat u)), .val (.int (Int32.ofNat v)), .val (.int (Int32.ofNat (f u))), .val (.int (Int32.ofNat (f v)))] [])) (fun J => ?_) (fun y hy => ?_)
  · refine Gd.go (fun _ w_k => XS.aloadN X0.here hx rfl (hb hby d1_9) rfl rfl (XS.iconst X0.here hx rfl (hb hby d1_10) (own_ldI X0 hx hZ e0 M0 (j := (0 : Int32)) (by decide) (by decide) (v := (.int (Int32.ofNat (f 0)))) (own_mkk f u v (k := 0) (by decide)) (g := (mkF m 11 #[.val (.ref a), .val (.int (Int32.ofNat u)), .val (.int (Int32.ofNat v)), .val (.int (Int32.ofNat (f u))), .val (.int (Int32.ofNat (f v)))] [(.int (0 : Int32)), (.ref a)])) rfl rfl (hb hby d1_11) _ (XS.iloadN X0.here hx rfl (hb hby d1_12) rfl w_k)))) ?_
    show Gd _ _ _ _ (s₁.setTop (mkF m 13 #[.val (.ref a), .val (.int (Int32.ofNat u)), .val (.int (Int32.ofNat v)), .val (.int (Int32.ofNat (f u))), .val (.int (Int32.ofNat (f v)))] [(.int (Int32.ofNat (f u))), (.int (Int32.ofNat (f 0)))]))
    by_cases hc1 : (Int32.ofNat (f 0)) = (Int32.ofNat (f u))
    · refine Gd.go (fun _ w_k => XS.icmpNo X0.here hx rfl (hb hby d1_13) rfl (teq hc1).2 w_k) ?_
      show Gd _ _ _ _ (s₁.setTop (mkF m 16 #[.val (.ref a), .val (.int (Int32.ofNat u)), .val (.int (Int32.ofNat v)), .val (.int (Int32.ofNat (f u))), .val (.int (Int32.ofNat (f v)))] []))
      refine Gd.go (fun _ w_k => XS.aloadN X0.here hx rfl (hb hby d1_16) rfl rfl (XS.iconst X0.here hx rfl (hb hby d1_17) (XS.iload X0.here hx rfl (hb hby d1_18) rfl w_k))) ?_
      show Gd _ _ _ _ (s₁.setTop (mkF m 20 #[.val (.ref a), .val (.int (Int32.ofNat u)), .val (.int (Int32.ofNat v)), .val (.int (Int32.ofNat (f u))), .val (.int (Int32.ofNat (f v)))] [(.int (Int32.ofNat (f v))), (.int (0 : Int32)), (.ref a)]))
      obtain ⟨T2, h2, X2, e2, W2, st2⟩ := own_stI X0 hx hZ e0 M0 (j := (0 : Int32)) (by decide) (by decide) (g := (mkF m 20 #[.val (.ref a), .val (.int (Int32.ofNat u)), .val (.int (Int32.ofNat v)), .val (.int (Int32.ofNat (f u))), .val (.int (Int32.ofNat (f v)))] [(.int (Int32.ofNat (f v))), (.int (0 : Int32)), (.ref a)])) rfl rfl (hb hby d1_20)
      refine Gd.go (fun _ w_k => st2 _ w_k) ?_
      have xF3 := M0.set W2
      have xN4 := Fr.snoc X2 N0 ga
      have xK5 := Keep.wr K0 W2 (Or.inl (by simp))
      show Gd _ _ _ _ (T2.setTop (mkF m 21 #[.val (.ref a), .val (.int (Int32.ofNat u)), .val (.int (Int32.ofNat v)), .val (.int (Int32.ofNat (f u))), .val (.int (Int32.ofNat (f v)))] []))
      have fk := hf 0 (by decide)
      exact J ⟨T2, _⟩ ⟨X2, by rw [e2]; exact ArF.congr xF3 (own_mkS (k := 0) (by decide) ((own_eqI (by omega) (by omega)).mp hc1)), by rw [e2]; exact xK5, xN4⟩
    · refine Gd.go (fun _ w_k => XS.icmpYes X0.here hx rfl (pc0 := 13) (pc' := 21) rfl (hb hby d1_13) rfl (feq hc1).2 (by decide) (by decide) w_k) ?_
      show Gd _ _ _ _ (s₁.setTop (mkF m 21 #[.val (.ref a), .val (.int (Int32.ofNat u)), .val (.int (Int32.ofNat v)), .val (.int (Int32.ofNat (f u))), .val (.int (Int32.ofNat (f v)))] []))
      have fk := hf 0 (by decide)
      exact J ⟨s₁, _⟩ ⟨X0, by rw [e0]; exact ArF.congr M0 (own_mkN (k := 0) (fun q => hc1 (by rw [q]))), by rw [e0]; exact K0, N0⟩
  obtain ⟨T_0, L_0⟩ := y
  obtain ⟨X_0, M_0, K_0, N_0⟩ := hy
  dsimp only at X_0 M_0 K_0 N_0 ⊢
  show Gd _ _ _ _ (T_0.setTop (mkF m 21 #[.val (.ref a), .val (.int (Int32.ofNat u)), .val (.int (Int32.ofNat v)), .val (.int (Int32.ofNat (f u))), .val (.int (Int32.ofNat (f v)))] []))
  refine Gd.viaA (A := fun y : State × List Loc => Stand pg l ev ({ frames := 0, cells := 0, slots := 0, locals := 0 } : Room) s_ m #[(.ref a), (.int (Int32.ofNat u)), (.int (Int32.ofNat v))] bl mt cd y.1 y.2 0 0 ∧ ArF Z y.1.heap a .int 4 (own_A (own_mk f u v 2)) ∧ Keep h0 y.1.heap [a] ∧ Fr n0 y.2) (S' := fun y => y.1.setTop (mkF m 33 #[.val (.ref a), .val (.int (Int32.ofNat u)), .val (.int (Int32.ofNat v)), .val (.int (Int32.ofNat (f u))), .val (.int (Int32.ofNat (f v)))] [])) (fun J => ?_) (fun y hy => ?_)
  · refine Gd.go (fun _ w_k => XS.aloadN X_0.here hx rfl (hb hby d1_21) rfl rfl (XS.iconst X_0.here hx rfl (hb hby d1_22) (own_ldI X_0 hx hZ rfl M_0 (j := (1 : Int32)) (by decide) (by decide) (v := (.int (Int32.ofNat (f 1)))) (own_mkk f u v (k := 1) (by decide)) (g := (mkF m 23 #[.val (.ref a), .val (.int (Int32.ofNat u)), .val (.int (Int32.ofNat v)), .val (.int (Int32.ofNat (f u))), .val (.int (Int32.ofNat (f v)))] [(.int (1 : Int32)), (.ref a)])) rfl rfl (hb hby d1_23) _ (XS.iloadN X_0.here hx rfl (hb hby d1_24) rfl w_k)))) ?_
    show Gd _ _ _ _ (T_0.setTop (mkF m 25 #[.val (.ref a), .val (.int (Int32.ofNat u)), .val (.int (Int32.ofNat v)), .val (.int (Int32.ofNat (f u))), .val (.int (Int32.ofNat (f v)))] [(.int (Int32.ofNat (f u))), (.int (Int32.ofNat (f 1)))]))
    by_cases hc6 : (Int32.ofNat (f 1)) = (Int32.ofNat (f u))
    · refine Gd.go (fun _ w_k => XS.icmpNo X_0.here hx rfl (hb hby d1_25) rfl (teq hc6).2 w_k) ?_
      show Gd _ _ _ _ (T_0.setTop (mkF m 28 #[.val (.ref a), .val (.int (Int32.ofNat u)), .val (.int (Int32.ofNat v)), .val (.int (Int32.ofNat (f u))), .val (.int (Int32.ofNat (f v)))] []))
      refine Gd.go (fun _ w_k => XS.aloadN X_0.here hx rfl (hb hby d1_28) rfl rfl (XS.iconst X_0.here hx rfl (hb hby d1_29) (XS.iload X_0.here hx rfl (hb hby d1_30) rfl w_k))) ?_
      show Gd _ _ _ _ (T_0.setTop (mkF m 32 #[.val (.ref a), .val (.int (Int32.ofNat u)), .val (.int (Int32.ofNat v)), .val (.int (Int32.ofNat (f u))), .val (.int (Int32.ofNat (f v)))] [(.int (Int32.ofNat (f v))), (.int (1 : Int32)), (.ref a)]))
      obtain ⟨T7, h7, X7, e7, W7, st7⟩ := own_stI X_0 hx hZ rfl M_0 (j := (1 : Int32)) (by decide) (by decide) (g := (mkF m 32 #[.val (.ref a), .val (.int (Int32.ofNat u)), .val (.int (Int32.ofNat v)), .val (.int (Int32.ofNat (f u))), .val (.int (Int32.ofNat (f v)))] [(.int (Int32.ofNat (f v))), (.int (1 : Int32)), (.ref a)])) rfl rfl (hb hby d1_32)
      refine Gd.go (fun _ w_k => st7 _ w_k) ?_
      have xF8 := M_0.set W7
      have xN9 := Fr.snoc X7 N_0 ga
      have xK10 := Keep.wr K_0 W7 (Or.inl (by simp))
      show Gd _ _ _ _ (T7.setTop (mkF m 33 #[.val (.ref a), .val (.int (Int32.ofNat u)), .val (.int (Int32.ofNat v)), .val (.int (Int32.ofNat (f u))), .val (.int (Int32.ofNat (f v)))] []))
      have fk := hf 1 (by decide)
      exact J ⟨T7, _⟩ ⟨X7, by rw [e7]; exact ArF.congr xF8 (own_mkS (k := 1) (by decide) ((own_eqI (by omega) (by omega)).mp hc6)), by rw [e7]; exact xK10, xN9⟩
    · refine Gd.go (fun _ w_k => XS.icmpYes X_0.here hx rfl (pc0 := 25) (pc' := 33) rfl (hb hby d1_25) rfl (feq hc6).2 (by decide) (by decide) w_k) ?_
      show Gd _ _ _ _ (T_0.setTop (mkF m 33 #[.val (.ref a), .val (.int (Int32.ofNat u)), .val (.int (Int32.ofNat v)), .val (.int (Int32.ofNat (f u))), .val (.int (Int32.ofNat (f v)))] []))
      have fk := hf 1 (by decide)
      exact J ⟨T_0, _⟩ ⟨X_0, by exact ArF.congr M_0 (own_mkN (k := 1) (fun q => hc6 (by rw [q]))), by exact K_0, N_0⟩
  obtain ⟨T_1, L_1⟩ := y
  obtain ⟨X_1, M_1, K_1, N_1⟩ := hy
  dsimp only at X_1 M_1 K_1 N_1 ⊢
  show Gd _ _ _ _ (T_1.setTop (mkF m 33 #[.val (.ref a), .val (.int (Int32.ofNat u)), .val (.int (Int32.ofNat v)), .val (.int (Int32.ofNat (f u))), .val (.int (Int32.ofNat (f v)))] []))
  refine Gd.viaA (A := fun y : State × List Loc => Stand pg l ev ({ frames := 0, cells := 0, slots := 0, locals := 0 } : Room) s_ m #[(.ref a), (.int (Int32.ofNat u)), (.int (Int32.ofNat v))] bl mt cd y.1 y.2 0 0 ∧ ArF Z y.1.heap a .int 4 (own_A (own_mk f u v 3)) ∧ Keep h0 y.1.heap [a] ∧ Fr n0 y.2) (S' := fun y => y.1.setTop (mkF m 45 #[.val (.ref a), .val (.int (Int32.ofNat u)), .val (.int (Int32.ofNat v)), .val (.int (Int32.ofNat (f u))), .val (.int (Int32.ofNat (f v)))] [])) (fun J => ?_) (fun y hy => ?_)
  · refine Gd.go (fun _ w_k => XS.aloadN X_1.here hx rfl (hb hby d1_33) rfl rfl (XS.iconst X_1.here hx rfl (hb hby d1_34) (own_ldI X_1 hx hZ rfl M_1 (j := (2 : Int32)) (by decide) (by decide) (v := (.int (Int32.ofNat (f 2)))) (own_mkk f u v (k := 2) (by decide)) (g := (mkF m 35 #[.val (.ref a), .val (.int (Int32.ofNat u)), .val (.int (Int32.ofNat v)), .val (.int (Int32.ofNat (f u))), .val (.int (Int32.ofNat (f v)))] [(.int (2 : Int32)), (.ref a)])) rfl rfl (hb hby d1_35) _ (XS.iloadN X_1.here hx rfl (hb hby d1_36) rfl w_k)))) ?_
    show Gd _ _ _ _ (T_1.setTop (mkF m 37 #[.val (.ref a), .val (.int (Int32.ofNat u)), .val (.int (Int32.ofNat v)), .val (.int (Int32.ofNat (f u))), .val (.int (Int32.ofNat (f v)))] [(.int (Int32.ofNat (f u))), (.int (Int32.ofNat (f 2)))]))
    by_cases hc11 : (Int32.ofNat (f 2)) = (Int32.ofNat (f u))
    · refine Gd.go (fun _ w_k => XS.icmpNo X_1.here hx rfl (hb hby d1_37) rfl (teq hc11).2 w_k) ?_
      show Gd _ _ _ _ (T_1.setTop (mkF m 40 #[.val (.ref a), .val (.int (Int32.ofNat u)), .val (.int (Int32.ofNat v)), .val (.int (Int32.ofNat (f u))), .val (.int (Int32.ofNat (f v)))] []))
      refine Gd.go (fun _ w_k => XS.aloadN X_1.here hx rfl (hb hby d1_40) rfl rfl (XS.iconst X_1.here hx rfl (hb hby d1_41) (XS.iload X_1.here hx rfl (hb hby d1_42) rfl w_k))) ?_
      show Gd _ _ _ _ (T_1.setTop (mkF m 44 #[.val (.ref a), .val (.int (Int32.ofNat u)), .val (.int (Int32.ofNat v)), .val (.int (Int32.ofNat (f u))), .val (.int (Int32.ofNat (f v)))] [(.int (Int32.ofNat (f v))), (.int (2 : Int32)), (.ref a)]))
      obtain ⟨T12, h12, X12, e12, W12, st12⟩ := own_stI X_1 hx hZ rfl M_1 (j := (2 : Int32)) (by decide) (by decide) (g := (mkF m 44 #[.val (.ref a), .val (.int (Int32.ofNat u)), .val (.int (Int32.ofNat v)), .val (.int (Int32.ofNat (f u))), .val (.int (Int32.ofNat (f v)))] [(.int (Int32.ofNat (f v))), (.int (2 : Int32)), (.ref a)])) rfl rfl (hb hby d1_44)
      refine Gd.go (fun _ w_k => st12 _ w_k) ?_
      have xF13 := M_1.set W12
      have xN14 := Fr.snoc X12 N_1 ga
      have xK15 := Keep.wr K_1 W12 (Or.inl (by simp))
      show Gd _ _ _ _ (T12.setTop (mkF m 45 #[.val (.ref a), .val (.int (Int32.ofNat u)), .val (.int (Int32.ofNat v)), .val (.int (Int32.ofNat (f u))), .val (.int (Int32.ofNat (f v)))] []))
      have fk := hf 2 (by decide)
      exact J ⟨T12, _⟩ ⟨X12, by rw [e12]; exact ArF.congr xF13 (own_mkS (k := 2) (by decide) ((own_eqI (by omega) (by omega)).mp hc11)), by rw [e12]; exact xK15, xN14⟩
    · refine Gd.go (fun _ w_k => XS.icmpYes X_1.here hx rfl (pc0 := 37) (pc' := 45) rfl (hb hby d1_37) rfl (feq hc11).2 (by decide) (by decide) w_k) ?_
      show Gd _ _ _ _ (T_1.setTop (mkF m 45 #[.val (.ref a), .val (.int (Int32.ofNat u)), .val (.int (Int32.ofNat v)), .val (.int (Int32.ofNat (f u))), .val (.int (Int32.ofNat (f v)))] []))
      have fk := hf 2 (by decide)
      exact J ⟨T_1, _⟩ ⟨X_1, by exact ArF.congr M_1 (own_mkN (k := 2) (fun q => hc11 (by rw [q]))), by exact K_1, N_1⟩
  obtain ⟨T_2, L_2⟩ := y
  obtain ⟨X_2, M_2, K_2, N_2⟩ := hy
  dsimp only at X_2 M_2 K_2 N_2 ⊢
  show Gd _ _ _ _ (T_2.setTop (mkF m 45 #[.val (.ref a), .val (.int (Int32.ofNat u)), .val (.int (Int32.ofNat v)), .val (.int (Int32.ofNat (f u))), .val (.int (Int32.ofNat (f v)))] []))
  refine Gd.viaA (A := fun y : State × List Loc => Stand pg l ev ({ frames := 0, cells := 0, slots := 0, locals := 0 } : Room) s_ m #[(.ref a), (.int (Int32.ofNat u)), (.int (Int32.ofNat v))] bl mt cd y.1 y.2 0 0 ∧ ArF Z y.1.heap a .int 4 (own_A (own_mk f u v 4)) ∧ Keep h0 y.1.heap [a] ∧ Fr n0 y.2) (S' := fun y => y.1.setTop (mkF m 57 #[.val (.ref a), .val (.int (Int32.ofNat u)), .val (.int (Int32.ofNat v)), .val (.int (Int32.ofNat (f u))), .val (.int (Int32.ofNat (f v)))] [])) (fun J => ?_) (fun y hy => ?_)
  · refine Gd.go (fun _ w_k => XS.aloadN X_2.here hx rfl (hb hby d1_45) rfl rfl (XS.iconst X_2.here hx rfl (hb hby d1_46) (own_ldI X_2 hx hZ rfl M_2 (j := (3 : Int32)) (by decide) (by decide) (v := (.int (Int32.ofNat (f 3)))) (own_mkk f u v (k := 3) (by decide)) (g := (mkF m 47 #[.val (.ref a), .val (.int (Int32.ofNat u)), .val (.int (Int32.ofNat v)), .val (.int (Int32.ofNat (f u))), .val (.int (Int32.ofNat (f v)))] [(.int (3 : Int32)), (.ref a)])) rfl rfl (hb hby d1_47) _ (XS.iloadN X_2.here hx rfl (hb hby d1_48) rfl w_k)))) ?_
    show Gd _ _ _ _ (T_2.setTop (mkF m 49 #[.val (.ref a), .val (.int (Int32.ofNat u)), .val (.int (Int32.ofNat v)), .val (.int (Int32.ofNat (f u))), .val (.int (Int32.ofNat (f v)))] [(.int (Int32.ofNat (f u))), (.int (Int32.ofNat (f 3)))]))
    by_cases hc16 : (Int32.ofNat (f 3)) = (Int32.ofNat (f u))
    · refine Gd.go (fun _ w_k => XS.icmpNo X_2.here hx rfl (hb hby d1_49) rfl (teq hc16).2 w_k) ?_
      show Gd _ _ _ _ (T_2.setTop (mkF m 52 #[.val (.ref a), .val (.int (Int32.ofNat u)), .val (.int (Int32.ofNat v)), .val (.int (Int32.ofNat (f u))), .val (.int (Int32.ofNat (f v)))] []))
      refine Gd.go (fun _ w_k => XS.aloadN X_2.here hx rfl (hb hby d1_52) rfl rfl (XS.iconst X_2.here hx rfl (hb hby d1_53) (XS.iload X_2.here hx rfl (hb hby d1_54) rfl w_k))) ?_
      show Gd _ _ _ _ (T_2.setTop (mkF m 56 #[.val (.ref a), .val (.int (Int32.ofNat u)), .val (.int (Int32.ofNat v)), .val (.int (Int32.ofNat (f u))), .val (.int (Int32.ofNat (f v)))] [(.int (Int32.ofNat (f v))), (.int (3 : Int32)), (.ref a)]))
      obtain ⟨T17, h17, X17, e17, W17, st17⟩ := own_stI X_2 hx hZ rfl M_2 (j := (3 : Int32)) (by decide) (by decide) (g := (mkF m 56 #[.val (.ref a), .val (.int (Int32.ofNat u)), .val (.int (Int32.ofNat v)), .val (.int (Int32.ofNat (f u))), .val (.int (Int32.ofNat (f v)))] [(.int (Int32.ofNat (f v))), (.int (3 : Int32)), (.ref a)])) rfl rfl (hb hby d1_56)
      refine Gd.go (fun _ w_k => st17 _ w_k) ?_
      have xF18 := M_2.set W17
      have xN19 := Fr.snoc X17 N_2 ga
      have xK20 := Keep.wr K_2 W17 (Or.inl (by simp))
      show Gd _ _ _ _ (T17.setTop (mkF m 57 #[.val (.ref a), .val (.int (Int32.ofNat u)), .val (.int (Int32.ofNat v)), .val (.int (Int32.ofNat (f u))), .val (.int (Int32.ofNat (f v)))] []))
      have fk := hf 3 (by decide)
      exact J ⟨T17, _⟩ ⟨X17, by rw [e17]; exact ArF.congr xF18 (own_mkS (k := 3) (by decide) ((own_eqI (by omega) (by omega)).mp hc16)), by rw [e17]; exact xK20, xN19⟩
    · refine Gd.go (fun _ w_k => XS.icmpYes X_2.here hx rfl (pc0 := 49) (pc' := 57) rfl (hb hby d1_49) rfl (feq hc16).2 (by decide) (by decide) w_k) ?_
      show Gd _ _ _ _ (T_2.setTop (mkF m 57 #[.val (.ref a), .val (.int (Int32.ofNat u)), .val (.int (Int32.ofNat v)), .val (.int (Int32.ofNat (f u))), .val (.int (Int32.ofNat (f v)))] []))
      have fk := hf 3 (by decide)
      exact J ⟨T_2, _⟩ ⟨X_2, by exact ArF.congr M_2 (own_mkN (k := 3) (fun q => hc16 (by rw [q]))), by exact K_2, N_2⟩
  obtain ⟨T_3, L_3⟩ := y
  obtain ⟨X_3, M_3, K_3, N_3⟩ := hy
  dsimp only at X_3 M_3 K_3 N_3 ⊢
  show Gd _ _ _ _ (T_3.setTop (mkF m 57 #[.val (.ref a), .val (.int (Int32.ofNat u)), .val (.int (Int32.ofNat v)), .val (.int (Int32.ofNat (f u))), .val (.int (Int32.ofNat (f v)))] []))
  refine own_retV X_3 hx hret hlk (hb hby d1_57) ?_ (by decide) (by decide)
  exact ⟨rfl, ArF.congr M_3 (own_mk4 f u v), K_3, N_3⟩
theorem own_pn10 : plainFor x = true := by first | exact plainFor_of_name (by first | (simp [plainName, overriddenIn, x]; done) | decide +kernel) | decide +kernel
theorem ef_0 (m : MethodId) (q0 : Int32) (q1 : Int32) (q2 : Int32) : entryFrame m #[(.int q0), (.int q1), (.int q2)] maxLocals = mkF m 0 #[.val (.int q0), .val (.int q1), .val (.int q2), .unset, .unset, .unset, .unset, .unset, .unset, .unset, .unset, .unset, .unset, .unset, .unset, .unset] [] := by first | (simp [entryFrame, mkF, argsToLocals, Value.category, maxLocals]; done) | rfl
theorem own_pd5 : parseMethodDescriptor "([III)V" = some ⟨[(.array .int), .int, .int], none⟩ := by decide +kernel
theorem own_pd6 : parseMethodDescriptor "()V" = some ⟨[], none⟩ := by decide +kernel
theorem own_pd7 : parseMethodDescriptor "(II)V" = some ⟨[.int, .int], none⟩ := by decide +kernel
set_option maxRecDepth 65536 in
set_option maxHeartbeats 40000000 in
theorem own_law (l : Launch) (Z : State) (a0 : Array Value) (hw : ∀ d ∈ tables_1, d.before a0 Z = true) (w0 w1 w2 : Int32) (h0 : Heap) (n0 : Nat) (Z0 : n0 ≤ h0.size) :
    ConH l Z x code maxLocals ret tables_1 room_1 32 128 #[(.int w0), (.int w1), (.int w2)] h0 (fun v h L => v = some (.int 1) ∧ Fr n0 L) := by
  refine ConH.of own_pn10 ?_
  intro pg ev s_ m bl mt cd s₁ hx hby hml hown hnm hret hlk hZ X0 e0 hHN
  rw [ef_0]
  show Gd _ _ _ _ (s₁.setTop (mkF m 0 #[.val (.int w0), .val (.int w1), .val (.int w2), .unset, .unset, .unset, .unset, .unset, .unset, .unset, .unset, .unset, .unset, .unset, .unset, .unset] []))
  have N0 := Fr.nil n0
  refine Gd.go (fun _ w_k => XS.iloadN X0.here hx rfl (hb hby at_0) rfl (XS.iconst X0.here hx rfl (hb hby at_1) (XS.iand X0.here hx rfl (hb hby at_2) rfl w_k))) ?_
  show Gd _ _ _ _ (s₁.setTop (mkF m 3 #[.val (.int w0), .val (.int w1), .val (.int w2), .unset, .unset, .unset, .unset, .unset, .unset, .unset, .unset, .unset, .unset, .unset, .unset, .unset] [(.int (w0 &&& (3 : Int32)))]))
  obtain ⟨u0, hu0, qu0⟩ : ∃ k, k < 4 ∧ (w0 &&& (3 : Int32)) = Int32.ofNat k := own_and3 _
  rw [qu0]
  show Gd _ _ _ _ (s₁.setTop (mkF m 3 #[.val (.int w0), .val (.int w1), .val (.int w2), .unset, .unset, .unset, .unset, .unset, .unset, .unset, .unset, .unset, .unset, .unset, .unset, .unset] [(.int (Int32.ofNat u0))]))
  refine Gd.go (fun _ w_k => XS.istoreN X0.here hx rfl (hb hby at_3) rfl (l' := #[.val (.int w0), .val (.int w1), .val (.int w2), .val (.int (Int32.ofNat u0)), .unset, .unset, .unset, .unset, .unset, .unset, .unset, .unset, .unset, .unset, .unset, .unset]) rfl (XS.iloadN X0.here hx rfl (hb hby at_4) rfl (XS.iconst X0.here hx rfl (hb hby at_5) (XS.iushr X0.here hx rfl (hb hby at_6) rfl (XS.iconst X0.here hx rfl (hb hby at_7) (XS.iand X0.here hx rfl (hb hby at_8) rfl w_k)))))) ?_
  show Gd _ _ _ _ (s₁.setTop (mkF m 9 #[.val (.int w0), .val (.int w1), .val (.int w2), .val (.int (Int32.ofNat u0)), .unset, .unset, .unset, .unset, .unset, .unset, .unset, .unset, .unset, .unset, .unset, .unset] [(.int (((w0.toUInt32 >>> ((2 : Int32) &&& 31).toUInt32).toInt32) &&& (3 : Int32)))]))
  obtain ⟨v0, hv0, qv0⟩ : ∃ k, k < 4 ∧ (((w0.toUInt32 >>> ((2 : Int32) &&& 31).toUInt32).toInt32) &&& (3 : Int32)) = Int32.ofNat k := own_and3 _
  rw [qv0]
  show Gd _ _ _ _ (s₁.setTop (mkF m 9 #[.val (.int w0), .val (.int w1), .val (.int w2), .val (.int (Int32.ofNat u0)), .unset, .unset, .unset, .unset, .unset, .unset, .unset, .unset, .unset, .unset, .unset, .unset] [(.int (Int32.ofNat v0))]))
  refine Gd.go (fun _ w_k => XS.istore X0.here hx rfl (hb hby at_9) rfl (l' := #[.val (.int w0), .val (.int w1), .val (.int w2), .val (.int (Int32.ofNat u0)), .val (.int (Int32.ofNat v0)), .unset, .unset, .unset, .unset, .unset, .unset, .unset, .unset, .unset, .unset, .unset]) rfl (XS.iloadN X0.here hx rfl (hb hby at_11) rfl (XS.iconst X0.here hx rfl (hb hby at_12) (XS.iushr X0.here hx rfl (hb hby at_13) rfl (XS.iconst X0.here hx rfl (hb hby at_14) (XS.iand X0.here hx rfl (hb hby at_15) rfl w_k)))))) ?_
  show Gd _ _ _ _ (s₁.setTop (mkF m 16 #[.val (.int w0), .val (.int w1), .val (.int w2), .val (.int (Int32.ofNat u0)), .val (.int (Int32.ofNat v0)), .unset, .unset, .unset, .unset, .unset, .unset, .unset, .unset, .unset, .unset, .unset] [(.int (((w0.toUInt32 >>> ((4 : Int32) &&& 31).toUInt32).toInt32) &&& (3 : Int32)))]))
  obtain ⟨u1, hu1, qu1⟩ : ∃ k, k < 4 ∧ (((w0.toUInt32 >>> ((4 : Int32) &&& 31).toUInt32).toInt32) &&& (3 : Int32)) = Int32.ofNat k := own_and3 _
  rw [qu1]
  show Gd _ _ _ _ (s₁.setTop (mkF m 16 #[.val (.int w0), .val (.int w1), .val (.int w2), .val (.int (Int32.ofNat u0)), .val (.int (Int32.ofNat v0)), .unset, .unset, .unset, .unset, .unset, .unset, .unset, .unset, .unset, .unset, .unset] [(.int (Int32.ofNat u1))]))
  refine Gd.go (fun _ w_k => XS.istore X0.here hx rfl (hb hby at_16) rfl (l' := #[.val (.int w0), .val (.int w1), .val (.int w2), .val (.int (Int32.ofNat u0)), .val (.int (Int32.ofNat v0)), .val (.int (Int32.ofNat u1)), .unset, .unset, .unset, .unset, .unset, .unset, .unset, .unset, .unset, .unset]) rfl (XS.iloadN X0.here hx rfl (hb hby at_18) rfl (XS.bipush X0.here hx rfl (hb hby at_19) (XS.iushr X0.here hx rfl (hb hby at_21) rfl (XS.iconst X0.here hx rfl (hb hby at_22) (XS.iand X0.here hx rfl (hb hby at_23) rfl w_k)))))) ?_
  show Gd _ _ _ _ (s₁.setTop (mkF m 24 #[.val (.int w0), .val (.int w1), .val (.int w2), .val (.int (Int32.ofNat u0)), .val (.int (Int32.ofNat v0)), .val (.int (Int32.ofNat u1)), .unset, .unset, .unset, .unset, .unset, .unset, .unset, .unset, .unset, .unset] [(.int (((w0.toUInt32 >>> ((6 : Int32) &&& 31).toUInt32).toInt32) &&& (3 : Int32)))]))
  obtain ⟨v1, hv1, qv1⟩ : ∃ k, k < 4 ∧ (((w0.toUInt32 >>> ((6 : Int32) &&& 31).toUInt32).toInt32) &&& (3 : Int32)) = Int32.ofNat k := own_and3 _
  rw [qv1]
  show Gd _ _ _ _ (s₁.setTop (mkF m 24 #[.val (.int w0), .val (.int w1), .val (.int w2), .val (.int (Int32.ofNat u0)), .val (.int (Int32.ofNat v0)), .val (.int (Int32.ofNat u1)), .unset, .unset, .unset, .unset, .unset, .unset, .unset, .unset, .unset, .unset] [(.int (Int32.ofNat v1))]))
  refine Gd.go (fun _ w_k => XS.istore X0.here hx rfl (hb hby at_24) rfl (l' := #[.val (.int w0), .val (.int w1), .val (.int w2), .val (.int (Int32.ofNat u0)), .val (.int (Int32.ofNat v0)), .val (.int (Int32.ofNat u1)), .val (.int (Int32.ofNat v1)), .unset, .unset, .unset, .unset, .unset, .unset, .unset, .unset, .unset]) rfl (XS.iloadN X0.here hx rfl (hb hby at_26) rfl (XS.bipush X0.here hx rfl (hb hby at_27) (XS.iushr X0.here hx rfl (hb hby at_29) rfl (XS.iconst X0.here hx rfl (hb hby at_30) (XS.iand X0.here hx rfl (hb hby at_31) rfl w_k)))))) ?_
  show Gd _ _ _ _ (s₁.setTop (mkF m 32 #[.val (.int w0), .val (.int w1), .val (.int w2), .val (.int (Int32.ofNat u0)), .val (.int (Int32.ofNat v0)), .val (.int (Int32.ofNat u1)), .val (.int (Int32.ofNat v1)), .unset, .unset, .unset, .unset, .unset, .unset, .unset, .unset, .unset] [(.int (((w0.toUInt32 >>> ((8 : Int32) &&& 31).toUInt32).toInt32) &&& (3 : Int32)))]))
  obtain ⟨u2, hu2, qu2⟩ : ∃ k, k < 4 ∧ (((w0.toUInt32 >>> ((8 : Int32) &&& 31).toUInt32).toInt32) &&& (3 : Int32)) = Int32.ofNat k := own_and3 _
  rw [qu2]
  show Gd _ _ _ _ (s₁.setTop (mkF m 32 #[.val (.int w0), .val (.int w1), .val (.int w2), .val (.int (Int32.ofNat u0)), .val (.int (Int32.ofNat v0)), .val (.int (Int32.ofNat u1)), .val (.int (Int32.ofNat v1)), .unset, .unset, .unset, .unset, .unset, .unset, .unset, .unset, .unset] [(.int (Int32.ofNat u2))]))
  refine Gd.go (fun _ w_k => XS.istore X0.here hx rfl (hb hby at_32) rfl (l' := #[.val (.int w0), .val (.int w1), .val (.int w2), .val (.int (Int32.ofNat u0)), .val (.int (Int32.ofNat v0)), .val (.int (Int32.ofNat u1)), .val (.int (Int32.ofNat v1)), .val (.int (Int32.ofNat u2)), .unset, .unset, .unset, .unset, .unset, .unset, .unset, .unset]) rfl (XS.iloadN X0.here hx rfl (hb hby at_34) rfl (XS.bipush X0.here hx rfl (hb hby at_35) (XS.iushr X0.here hx rfl (hb hby at_37) rfl (XS.iconst X0.here hx rfl (hb hby at_38) (XS.iand X0.here hx rfl (hb hby at_39) rfl w_k)))))) ?_
  show Gd _ _ _ _ (s₁.setTop (mkF m 40 #[.val (.int w0), .val (.int w1), .val (.int w2), .val (.int (Int32.ofNat u0)), .val (.int (Int32.ofNat v0)), .val (.int (Int32.ofNat u1)), .val (.int (Int32.ofNat v1)), .val (.int (Int32.ofNat u2)), .unset, .unset, .unset, .unset, .unset, .unset, .unset, .unset] [(.int (((w0.toUInt32 >>> ((10 : Int32) &&& 31).toUInt32).toInt32) &&& (3 : Int32)))]))
  obtain ⟨v2, hv2, qv2⟩ : ∃ k, k < 4 ∧ (((w0.toUInt32 >>> ((10 : Int32) &&& 31).toUInt32).toInt32) &&& (3 : Int32)) = Int32.ofNat k := own_and3 _
  rw [qv2]
  show Gd _ _ _ _ (s₁.setTop (mkF m 40 #[.val (.int w0), .val (.int w1), .val (.int w2), .val (.int (Int32.ofNat u0)), .val (.int (Int32.ofNat v0)), .val (.int (Int32.ofNat u1)), .val (.int (Int32.ofNat v1)), .val (.int (Int32.ofNat u2)), .unset, .unset, .unset, .unset, .unset, .unset, .unset, .unset] [(.int (Int32.ofNat v2))]))
  refine Gd.go (fun _ w_k => XS.istore X0.here hx rfl (hb hby at_40) rfl (l' := #[.val (.int w0), .val (.int w1), .val (.int w2), .val (.int (Int32.ofNat u0)), .val (.int (Int32.ofNat v0)), .val (.int (Int32.ofNat u1)), .val (.int (Int32.ofNat v1)), .val (.int (Int32.ofNat u2)), .val (.int (Int32.ofNat v2)), .unset, .unset, .unset, .unset, .unset, .unset, .unset]) rfl (XS.iloadN X0.here hx rfl (hb hby at_42) rfl (XS.iconst X0.here hx rfl (hb hby at_43) (XS.iand X0.here hx rfl (hb hby at_44) rfl w_k)))) ?_
  show Gd _ _ _ _ (s₁.setTop (mkF m 45 #[.val (.int w0), .val (.int w1), .val (.int w2), .val (.int (Int32.ofNat u0)), .val (.int (Int32.ofNat v0)), .val (.int (Int32.ofNat u1)), .val (.int (Int32.ofNat v1)), .val (.int (Int32.ofNat u2)), .val (.int (Int32.ofNat v2)), .unset, .unset, .unset, .unset, .unset, .unset, .unset] [(.int (w1 &&& (3 : Int32)))]))
  obtain ⟨px, hpx, qpx⟩ : ∃ k, k < 4 ∧ (w1 &&& (3 : Int32)) = Int32.ofNat k := own_and3 _
  rw [qpx]
  show Gd _ _ _ _ (s₁.setTop (mkF m 45 #[.val (.int w0), .val (.int w1), .val (.int w2), .val (.int (Int32.ofNat u0)), .val (.int (Int32.ofNat v0)), .val (.int (Int32.ofNat u1)), .val (.int (Int32.ofNat v1)), .val (.int (Int32.ofNat u2)), .val (.int (Int32.ofNat v2)), .unset, .unset, .unset, .unset, .unset, .unset, .unset] [(.int (Int32.ofNat px))]))
  refine Gd.go (fun _ w_k => XS.istore X0.here hx rfl (hb hby at_45) rfl (l' := #[.val (.int w0), .val (.int w1), .val (.int w2), .val (.int (Int32.ofNat u0)), .val (.int (Int32.ofNat v0)), .val (.int (Int32.ofNat u1)), .val (.int (Int32.ofNat v1)), .val (.int (Int32.ofNat u2)), .val (.int (Int32.ofNat v2)), .val (.int (Int32.ofNat px)), .unset, .unset, .unset, .unset, .unset, .unset]) rfl (XS.iloadN X0.here hx rfl (hb hby at_47) rfl (XS.iconst X0.here hx rfl (hb hby at_48) (XS.iushr X0.here hx rfl (hb hby at_49) rfl (XS.iconst X0.here hx rfl (hb hby at_50) (XS.iand X0.here hx rfl (hb hby at_51) rfl w_k)))))) ?_
  show Gd _ _ _ _ (s₁.setTop (mkF m 52 #[.val (.int w0), .val (.int w1), .val (.int w2), .val (.int (Int32.ofNat u0)), .val (.int (Int32.ofNat v0)), .val (.int (Int32.ofNat u1)), .val (.int (Int32.ofNat v1)), .val (.int (Int32.ofNat u2)), .val (.int (Int32.ofNat v2)), .val (.int (Int32.ofNat px)), .unset, .unset, .unset, .unset, .unset, .unset] [(.int (((w1.toUInt32 >>> ((2 : Int32) &&& 31).toUInt32).toInt32) &&& (3 : Int32)))]))
  obtain ⟨py, hpy, qpy⟩ : ∃ k, k < 4 ∧ (((w1.toUInt32 >>> ((2 : Int32) &&& 31).toUInt32).toInt32) &&& (3 : Int32)) = Int32.ofNat k := own_and3 _
  rw [qpy]
  show Gd _ _ _ _ (s₁.setTop (mkF m 52 #[.val (.int w0), .val (.int w1), .val (.int w2), .val (.int (Int32.ofNat u0)), .val (.int (Int32.ofNat v0)), .val (.int (Int32.ofNat u1)), .val (.int (Int32.ofNat v1)), .val (.int (Int32.ofNat u2)), .val (.int (Int32.ofNat v2)), .val (.int (Int32.ofNat px)), .unset, .unset, .unset, .unset, .unset, .unset] [(.int (Int32.ofNat py))]))
  refine Gd.go (fun _ w_k => XS.istore X0.here hx rfl (hb hby at_52) rfl (l' := #[.val (.int w0), .val (.int w1), .val (.int w2), .val (.int (Int32.ofNat u0)), .val (.int (Int32.ofNat v0)), .val (.int (Int32.ofNat u1)), .val (.int (Int32.ofNat v1)), .val (.int (Int32.ofNat u2)), .val (.int (Int32.ofNat v2)), .val (.int (Int32.ofNat px)), .val (.int (Int32.ofNat py)), .unset, .unset, .unset, .unset, .unset]) rfl (XS.iloadN X0.here hx rfl (hb hby at_54) rfl (X0.ldcInt hx hown (mvT hZ (ow hw 0 rfl)) (g := (mkF m 55 #[.val (.int w0), .val (.int w1), .val (.int w2), .val (.int (Int32.ofNat u0)), .val (.int (Int32.ofNat v0)), .val (.int (Int32.ofNat u1)), .val (.int (Int32.ofNat v1)), .val (.int (Int32.ofNat u2)), .val (.int (Int32.ofNat v2)), .val (.int (Int32.ofNat px)), .val (.int (Int32.ofNat py)), .unset, .unset, .unset, .unset, .unset] [(.int w2)])) rfl (hb hby at_55) _ (XS.iand X0.here hx rfl (hb hby at_57) rfl w_k)))) ?_
  show Gd _ _ _ _ (s₁.setTop (mkF m 58 #[.val (.int w0), .val (.int w1), .val (.int w2), .val (.int (Int32.ofNat u0)), .val (.int (Int32.ofNat v0)), .val (.int (Int32.ofNat u1)), .val (.int (Int32.ofNat v1)), .val (.int (Int32.ofNat u2)), .val (.int (Int32.ofNat v2)), .val (.int (Int32.ofNat px)), .val (.int (Int32.ofNat py)), .unset, .unset, .unset, .unset, .unset] [(.int (w2 &&& (2147483647 : Int32)))]))
  obtain ⟨zg, hzg, qzg⟩ : ∃ k : Int32, 0 ≤ k.toInt ∧ (w2 &&& (2147483647 : Int32)) = k := ⟨_, own_m31 _, rfl⟩
  rw [qzg]
  show Gd _ _ _ _ (s₁.setTop (mkF m 58 #[.val (.int w0), .val (.int w1), .val (.int w2), .val (.int (Int32.ofNat u0)), .val (.int (Int32.ofNat v0)), .val (.int (Int32.ofNat u1)), .val (.int (Int32.ofNat v1)), .val (.int (Int32.ofNat u2)), .val (.int (Int32.ofNat v2)), .val (.int (Int32.ofNat px)), .val (.int (Int32.ofNat py)), .unset, .unset, .unset, .unset, .unset] [(.int zg)]))
  refine Gd.go (fun _ w_k => XS.istore X0.here hx rfl (hb hby at_58) rfl (l' := #[.val (.int w0), .val (.int w1), .val (.int w2), .val (.int (Int32.ofNat u0)), .val (.int (Int32.ofNat v0)), .val (.int (Int32.ofNat u1)), .val (.int (Int32.ofNat v1)), .val (.int (Int32.ofNat u2)), .val (.int (Int32.ofNat v2)), .val (.int (Int32.ofNat px)), .val (.int (Int32.ofNat py)), .val (.int zg), .unset, .unset, .unset, .unset]) rfl w_k) ?_
  show Gd _ _ _ _ (s₁.setTop (mkF m 60 #[.val (.int w0), .val (.int w1), .val (.int w2), .val (.int (Int32.ofNat u0)), .val (.int (Int32.ofNat v0)), .val (.int (Int32.ofNat u1)), .val (.int (Int32.ofNat v1)), .val (.int (Int32.ofNat u2)), .val (.int (Int32.ofNat v2)), .val (.int (Int32.ofNat px)), .val (.int (Int32.ofNat py)), .val (.int zg), .unset, .unset, .unset, .unset] []))
  refine Gd.viaA (A := fun y : Int32 => 4 ≤ y.toInt) (S' := fun y => s₁.setTop (mkF m 72 #[.val (.int w0), .val (.int w1), .val (.int w2), .val (.int (Int32.ofNat u0)), .val (.int (Int32.ofNat v0)), .val (.int (Int32.ofNat u1)), .val (.int (Int32.ofNat v1)), .val (.int (Int32.ofNat u2)), .val (.int (Int32.ofNat v2)), .val (.int (Int32.ofNat px)), .val (.int (Int32.ofNat py)), .val (.int y), .unset, .unset, .unset, .unset] [])) (fun J => ?_) (fun y hy => ?_)
  · refine Gd.go (fun _ w_k => XS.iload X0.here hx rfl (hb hby at_60) rfl (XS.iconst X0.here hx rfl (hb hby at_62) w_k)) ?_
    show Gd _ _ _ _ (s₁.setTop (mkF m 63 #[.val (.int w0), .val (.int w1), .val (.int w2), .val (.int (Int32.ofNat u0)), .val (.int (Int32.ofNat v0)), .val (.int (Int32.ofNat u1)), .val (.int (Int32.ofNat v1)), .val (.int (Int32.ofNat u2)), .val (.int (Int32.ofNat v2)), .val (.int (Int32.ofNat px)), .val (.int (Int32.ofNat py)), .val (.int zg), .unset, .unset, .unset, .unset] [(.int (4 : Int32)), (.int zg)]))
    by_cases hc1 : zg < (4 : Int32)
    · refine Gd.go (fun _ w_k => XS.icmpNo X0.here hx rfl (hb hby at_63) rfl (tlt hc1).2.1 w_k) ?_
      show Gd _ _ _ _ (s₁.setTop (mkF m 66 #[.val (.int w0), .val (.int w1), .val (.int w2), .val (.int (Int32.ofNat u0)), .val (.int (Int32.ofNat v0)), .val (.int (Int32.ofNat u1)), .val (.int (Int32.ofNat v1)), .val (.int (Int32.ofNat u2)), .val (.int (Int32.ofNat v2)), .val (.int (Int32.ofNat px)), .val (.int (Int32.ofNat py)), .val (.int zg), .unset, .unset, .unset, .unset] []))
      refine Gd.go (fun _ w_k => XS.iload X0.here hx rfl (hb hby at_66) rfl (XS.iconst X0.here hx rfl (hb hby at_68) (XS.iadd X0.here hx rfl (hb hby at_69) rfl (XS.istore X0.here hx rfl (hb hby at_70) rfl (l' := #[.val (.int w0), .val (.int w1), .val (.int w2), .val (.int (Int32.ofNat u0)), .val (.int (Int32.ofNat v0)), .val (.int (Int32.ofNat u1)), .val (.int (Int32.ofNat v1)), .val (.int (Int32.ofNat u2)), .val (.int (Int32.ofNat v2)), .val (.int (Int32.ofNat px)), .val (.int (Int32.ofNat py)), .val (.int (zg + (4 : Int32))), .unset, .unset, .unset, .unset]) rfl w_k)))) ?_
      show Gd _ _ _ _ (s₁.setTop (mkF m 72 #[.val (.int w0), .val (.int w1), .val (.int w2), .val (.int (Int32.ofNat u0)), .val (.int (Int32.ofNat v0)), .val (.int (Int32.ofNat u1)), .val (.int (Int32.ofNat v1)), .val (.int (Int32.ofNat u2)), .val (.int (Int32.ofNat v2)), .val (.int (Int32.ofNat px)), .val (.int (Int32.ofNat py)), .val (.int (zg + (4 : Int32))), .unset, .unset, .unset, .unset] []))
      exact J (zg + (4 : Int32)) (own_big2 hzg hc1)
    · refine Gd.go (fun _ w_k => XS.icmpYes X0.here hx rfl (pc0 := 63) (pc' := 72) rfl (hb hby at_63) rfl (flt hc1).2.1 (by decide) (by decide) w_k) ?_
      show Gd _ _ _ _ (s₁.setTop (mkF m 72 #[.val (.int w0), .val (.int w1), .val (.int w2), .val (.int (Int32.ofNat u0)), .val (.int (Int32.ofNat v0)), .val (.int (Int32.ofNat u1)), .val (.int (Int32.ofNat v1)), .val (.int (Int32.ofNat u2)), .val (.int (Int32.ofNat v2)), .val (.int (Int32.ofNat px)), .val (.int (Int32.ofNat py)), .val (.int zg), .unset, .unset, .unset, .unset] []))
      exact J zg (own_big1 hc1)
  show Gd _ _ _ _ (s₁.setTop (mkF m 72 #[.val (.int w0), .val (.int w1), .val (.int w2), .val (.int (Int32.ofNat u0)), .val (.int (Int32.ofNat v0)), .val (.int (Int32.ofNat u1)), .val (.int (Int32.ofNat v1)), .val (.int (Int32.ofNat u2)), .val (.int (Int32.ofNat v2)), .val (.int (Int32.ofNat px)), .val (.int (Int32.ofNat py)), .val (.int y), .unset, .unset, .unset, .unset] []))
  refine Gd.go (fun _ w_k => XS.iconst X0.here hx rfl (hb hby at_72) w_k) ?_
  show Gd _ _ _ _ (s₁.setTop (mkF m 73 #[.val (.int w0), .val (.int w1), .val (.int w2), .val (.int (Int32.ofNat u0)), .val (.int (Int32.ofNat v0)), .val (.int (Int32.ofNat u1)), .val (.int (Int32.ofNat v1)), .val (.int (Int32.ofNat u2)), .val (.int (Int32.ofNat v2)), .val (.int (Int32.ofNat px)), .val (.int (Int32.ofNat py)), .val (.int y), .unset, .unset, .unset, .unset] [(.int (4 : Int32))]))
  obtain ⟨T2, h2, k2, X2, e2, E2, A2, st2⟩ := newP X0 hx hZ (ow hw 1 rfl) e0 (g := (mkF m 73 #[.val (.int w0), .val (.int w1), .val (.int w2), .val (.int (Int32.ofNat u0)), .val (.int (Int32.ofNat v0)), .val (.int (Int32.ofNat u1)), .val (.int (Int32.ofNat v1)), .val (.int (Int32.ofNat u2)), .val (.int (Int32.ofNat v2)), .val (.int (Int32.ofNat px)), .val (.int (Int32.ofNat py)), .val (.int y), .unset, .unset, .unset, .unset] [(.int (4 : Int32))])) rfl (hb hby at_73) rfl (by decide) (cap := 4) (by decide) (by decide) (by decide) (by decide)
  obtain ⟨b2, g2⟩ : ∃ z, z = h0.size := ⟨_, rfl⟩
  rw [← g2] at A2 st2
  have n0_b2 : n0 ≤ b2 := Nat.le_trans Z0 (Nat.le_of_eq g2.symm)
  have xZs3 := Nat.le_trans Z0 E2.1
  have xF4 : ArF Z h2 b2 .int 4 (fun _ => (.int (0 : Int32))) := own_new (h := h0) A2 (by decide)
  refine Gd.go (fun _ w_k => st2 _ (XS.dup X2.here hx rfl (hb hby at_75) rfl rfl (XS.iconst X2.here hx rfl (hb hby at_76) (XS.iconst X2.here hx rfl (hb hby at_77) w_k)))) ?_
  show Gd _ _ _ _ (T2.setTop (mkF m 78 #[.val (.int w0), .val (.int w1), .val (.int w2), .val (.int (Int32.ofNat u0)), .val (.int (Int32.ofNat v0)), .val (.int (Int32.ofNat u1)), .val (.int (Int32.ofNat v1)), .val (.int (Int32.ofNat u2)), .val (.int (Int32.ofNat v2)), .val (.int (Int32.ofNat px)), .val (.int (Int32.ofNat py)), .val (.int y), .unset, .unset, .unset, .unset] [(.int (0 : Int32)), (.int (0 : Int32)), (.ref b2), (.ref b2)]))
  obtain ⟨T5, h5, X5, e5, W5, st5⟩ := own_stI X2 hx hZ e2 xF4 (j := (0 : Int32)) (by decide) (by decide) (g := (mkF m 78 #[.val (.int w0), .val (.int w1), .val (.int w2), .val (.int (Int32.ofNat u0)), .val (.int (Int32.ofNat v0)), .val (.int (Int32.ofNat u1)), .val (.int (Int32.ofNat v1)), .val (.int (Int32.ofNat u2)), .val (.int (Int32.ofNat v2)), .val (.int (Int32.ofNat px)), .val (.int (Int32.ofNat py)), .val (.int y), .unset, .unset, .unset, .unset] [(.int (0 : Int32)), (.int (0 : Int32)), (.ref b2), (.ref b2)])) rfl rfl (hb hby at_78)
  refine Gd.go (fun _ w_k => st5 _ w_k) ?_
  have xF6 := xF4.set W5
  have xN7 := Fr.snoc X5 N0 n0_b2
  have xZs8 := Nat.le_trans xZs3 (Keep.of_wr W5).1
  show Gd _ _ _ _ (T5.setTop (mkF m 79 #[.val (.int w0), .val (.int w1), .val (.int w2), .val (.int (Int32.ofNat u0)), .val (.int (Int32.ofNat v0)), .val (.int (Int32.ofNat u1)), .val (.int (Int32.ofNat v1)), .val (.int (Int32.ofNat u2)), .val (.int (Int32.ofNat v2)), .val (.int (Int32.ofNat px)), .val (.int (Int32.ofNat py)), .val (.int y), .unset, .unset, .unset, .unset] [(.ref b2)]))
  refine Gd.go (fun _ w_k => XS.dup X5.here hx rfl (hb hby at_79) rfl rfl (XS.iconst X5.here hx rfl (hb hby at_80) (XS.iconst X5.here hx rfl (hb hby at_81) w_k))) ?_
  show Gd _ _ _ _ (T5.setTop (mkF m 82 #[.val (.int w0), .val (.int w1), .val (.int w2), .val (.int (Int32.ofNat u0)), .val (.int (Int32.ofNat v0)), .val (.int (Int32.ofNat u1)), .val (.int (Int32.ofNat v1)), .val (.int (Int32.ofNat u2)), .val (.int (Int32.ofNat v2)), .val (.int (Int32.ofNat px)), .val (.int (Int32.ofNat py)), .val (.int y), .unset, .unset, .unset, .unset] [(.int (1 : Int32)), (.int (1 : Int32)), (.ref b2), (.ref b2)]))
  obtain ⟨T9, h9, X9, e9, W9, st9⟩ := own_stI X5 hx hZ e5 xF6 (j := (1 : Int32)) (by decide) (by decide) (g := (mkF m 82 #[.val (.int w0), .val (.int w1), .val (.int w2), .val (.int (Int32.ofNat u0)), .val (.int (Int32.ofNat v0)), .val (.int (Int32.ofNat u1)), .val (.int (Int32.ofNat v1)), .val (.int (Int32.ofNat u2)), .val (.int (Int32.ofNat v2)), .val (.int (Int32.ofNat px)), .val (.int (Int32.ofNat py)), .val (.int y), .unset, .unset, .unset, .unset] [(.int (1 : Int32)), (.int (1 : Int32)), (.ref b2), (.ref b2)])) rfl rfl (hb hby at_82)
  refine Gd.go (fun _ w_k => st9 _ w_k) ?_
  have xF10 := xF6.set W9
  have xN11 := Fr.snoc X9 xN7 n0_b2
  have xZs12 := Nat.le_trans xZs8 (Keep.of_wr W9).1
  show Gd _ _ _ _ (T9.setTop (mkF m 83 #[.val (.int w0), .val (.int w1), .val (.int w2), .val (.int (Int32.ofNat u0)), .val (.int (Int32.ofNat v0)), .val (.int (Int32.ofNat u1)), .val (.int (Int32.ofNat v1)), .val (.int (Int32.ofNat u2)), .val (.int (Int32.ofNat v2)), .val (.int (Int32.ofNat px)), .val (.int (Int32.ofNat py)), .val (.int y), .unset, .unset, .unset, .unset] [(.ref b2)]))
  refine Gd.go (fun _ w_k => XS.dup X9.here hx rfl (hb hby at_83) rfl rfl (XS.iconst X9.here hx rfl (hb hby at_84) (XS.iconst X9.here hx rfl (hb hby at_85) w_k))) ?_
  show Gd _ _ _ _ (T9.setTop (mkF m 86 #[.val (.int w0), .val (.int w1), .val (.int w2), .val (.int (Int32.ofNat u0)), .val (.int (Int32.ofNat v0)), .val (.int (Int32.ofNat u1)), .val (.int (Int32.ofNat v1)), .val (.int (Int32.ofNat u2)), .val (.int (Int32.ofNat v2)), .val (.int (Int32.ofNat px)), .val (.int (Int32.ofNat py)), .val (.int y), .unset, .unset, .unset, .unset] [(.int (2 : Int32)), (.int (2 : Int32)), (.ref b2), (.ref b2)]))
  obtain ⟨T13, h13, X13, e13, W13, st13⟩ := own_stI X9 hx hZ e9 xF10 (j := (2 : Int32)) (by decide) (by decide) (g := (mkF m 86 #[.val (.int w0), .val (.int w1), .val (.int w2), .val (.int (Int32.ofNat u0)), .val (.int (Int32.ofNat v0)), .val (.int (Int32.ofNat u1)), .val (.int (Int32.ofNat v1)), .val (.int (Int32.ofNat u2)), .val (.int (Int32.ofNat v2)), .val (.int (Int32.ofNat px)), .val (.int (Int32.ofNat py)), .val (.int y), .unset, .unset, .unset, .unset] [(.int (2 : Int32)), (.int (2 : Int32)), (.ref b2), (.ref b2)])) rfl rfl (hb hby at_86)
  refine Gd.go (fun _ w_k => st13 _ w_k) ?_
  have xF14 := xF10.set W13
  have xN15 := Fr.snoc X13 xN11 n0_b2
  have xZs16 := Nat.le_trans xZs12 (Keep.of_wr W13).1
  show Gd _ _ _ _ (T13.setTop (mkF m 87 #[.val (.int w0), .val (.int w1), .val (.int w2), .val (.int (Int32.ofNat u0)), .val (.int (Int32.ofNat v0)), .val (.int (Int32.ofNat u1)), .val (.int (Int32.ofNat v1)), .val (.int (Int32.ofNat u2)), .val (.int (Int32.ofNat v2)), .val (.int (Int32.ofNat px)), .val (.int (Int32.ofNat py)), .val (.int y), .unset, .unset, .unset, .unset] [(.ref b2)]))
  refine Gd.go (fun _ w_k => XS.dup X13.here hx rfl (hb hby at_87) rfl rfl (XS.iconst X13.here hx rfl (hb hby at_88) (XS.iconst X13.here hx rfl (hb hby at_89) w_k))) ?_
  show Gd _ _ _ _ (T13.setTop (mkF m 90 #[.val (.int w0), .val (.int w1), .val (.int w2), .val (.int (Int32.ofNat u0)), .val (.int (Int32.ofNat v0)), .val (.int (Int32.ofNat u1)), .val (.int (Int32.ofNat v1)), .val (.int (Int32.ofNat u2)), .val (.int (Int32.ofNat v2)), .val (.int (Int32.ofNat px)), .val (.int (Int32.ofNat py)), .val (.int y), .unset, .unset, .unset, .unset] [(.int (3 : Int32)), (.int (3 : Int32)), (.ref b2), (.ref b2)]))
  obtain ⟨T17, h17, X17, e17, W17, st17⟩ := own_stI X13 hx hZ e13 xF14 (j := (3 : Int32)) (by decide) (by decide) (g := (mkF m 90 #[.val (.int w0), .val (.int w1), .val (.int w2), .val (.int (Int32.ofNat u0)), .val (.int (Int32.ofNat v0)), .val (.int (Int32.ofNat u1)), .val (.int (Int32.ofNat v1)), .val (.int (Int32.ofNat u2)), .val (.int (Int32.ofNat v2)), .val (.int (Int32.ofNat px)), .val (.int (Int32.ofNat py)), .val (.int y), .unset, .unset, .unset, .unset] [(.int (3 : Int32)), (.int (3 : Int32)), (.ref b2), (.ref b2)])) rfl rfl (hb hby at_90)
  refine Gd.go (fun _ w_k => st17 _ w_k) ?_
  have xF18 := xF14.set W17
  have xN19 := Fr.snoc X17 xN15 n0_b2
  have xZs20 := Nat.le_trans xZs16 (Keep.of_wr W17).1
  show Gd _ _ _ _ (T17.setTop (mkF m 91 #[.val (.int w0), .val (.int w1), .val (.int w2), .val (.int (Int32.ofNat u0)), .val (.int (Int32.ofNat v0)), .val (.int (Int32.ofNat u1)), .val (.int (Int32.ofNat v1)), .val (.int (Int32.ofNat u2)), .val (.int (Int32.ofNat v2)), .val (.int (Int32.ofNat px)), .val (.int (Int32.ofNat py)), .val (.int y), .unset, .unset, .unset, .unset] [(.ref b2)]))
  have Al := ArF.congr xF18 own_lab0
  have hf0 : ∀ i, i < 4 → own_id i < 4 := fun i hi => hi
  obtain ⟨R1, eR1⟩ : ∃ z, z = own_mg own_id u0 v0 := ⟨_, rfl⟩
  have hf1 : ∀ i, i < 4 → R1 i < 4 := by rw [eR1]; exact own_mg_lt hf0 hv0
  obtain ⟨R2, eR2⟩ : ∃ z, z = own_mg R1 u1 v1 := ⟨_, rfl⟩
  have hf2 : ∀ i, i < 4 → R2 i < 4 := by rw [eR2]; exact own_mg_lt hf1 hv1
  obtain ⟨R3, eR3⟩ : ∃ z, z = own_mg R2 u2 v2 := ⟨_, rfl⟩
  have hf3 : ∀ i, i < 4 → R3 i < 4 := by rw [eR3]; exact own_mg_lt hf2 hv2
  refine Gd.go (fun _ w_k => XS.astore X17.here hx rfl (hb hby at_91) rfl rfl (l' := #[.val (.int w0), .val (.int w1), .val (.int w2), .val (.int (Int32.ofNat u0)), .val (.int (Int32.ofNat v0)), .val (.int (Int32.ofNat u1)), .val (.int (Int32.ofNat v1)), .val (.int (Int32.ofNat u2)), .val (.int (Int32.ofNat v2)), .val (.int (Int32.ofNat px)), .val (.int (Int32.ofNat py)), .val (.int y), .val (.ref b2), .unset, .unset, .unset]) rfl (XS.aload X17.here hx rfl (hb hby at_93) rfl rfl (XS.iloadN X17.here hx rfl (hb hby at_95) rfl (XS.iload X17.here hx rfl (hb hby at_96) rfl w_k)))) ?_
  show Gd _ _ _ _ (T17.setTop (mkF m 98 #[.val (.int w0), .val (.int w1), .val (.int w2), .val (.int (Int32.ofNat u0)), .val (.int (Int32.ofNat v0)), .val (.int (Int32.ofNat u1)), .val (.int (Int32.ofNat v1)), .val (.int (Int32.ofNat u2)), .val (.int (Int32.ofNat v2)), .val (.int (Int32.ofNat px)), .val (.int (Int32.ofNat py)), .val (.int y), .val (.ref b2), .unset, .unset, .unset] [(.int (Int32.ofNat v0)), (.int (Int32.ofNat u0)), (.ref b2)]))
  obtain ⟨v21, T21, L21, X21, hQ21, st21⟩ := own_callS X17 hx hZ (y := (⟨"com/example/quiddity/quiddity/rdf/PartitionRootPinLaw", "merge", "([III)V"⟩ : MethodName)) hown (ow hw 2 rfl) (ow hw 3 rfl) (ow hw 4 rfl) (ow hw 5 rfl) (by decide) (W := 0) (own_c1 l Z a0 hw b2 u0 v0 own_id h17 n0 n0_b2 Al hf0 hu0 hv0) rfl rfl e17 (by decide) (by decide) (g := (mkF m 98 #[.val (.int w0), .val (.int w1), .val (.int w2), .val (.int (Int32.ofNat u0)), .val (.int (Int32.ofNat v0)), .val (.int (Int32.ofNat u1)), .val (.int (Int32.ofNat v1)), .val (.int (Int32.ofNat u2)), .val (.int (Int32.ofNat v2)), .val (.int (Int32.ofNat px)), .val (.int (Int32.ofNat py)), .val (.int y), .val (.ref b2), .unset, .unset, .unset] [(.int (Int32.ofNat v0)), (.int (Int32.ofNat u0)), (.ref b2)])) rfl (by rw [hml]; rfl) (argsL := [(.ref b2), (.int (Int32.ofNat u0)), (.int (Int32.ofNat v0))]) (rest := []) (lenOf own_pd5 rfl) rfl (Nat.le_of_eq rfl) (hb hby at_98) rfl (by decide) (by decide)
  obtain ⟨rfl, Am0, Km0, Nm0⟩ := hQ21
  refine Gd.go (fun _ w_k => st21 _ w_k) ?_
  show Gd _ _ _ _ (T21.setTop (mkF m 101 #[.val (.int w0), .val (.int w1), .val (.int w2), .val (.int (Int32.ofNat u0)), .val (.int (Int32.ofNat v0)), .val (.int (Int32.ofNat u1)), .val (.int (Int32.ofNat v1)), .val (.int (Int32.ofNat u2)), .val (.int (Int32.ofNat v2)), .val (.int (Int32.ofNat px)), .val (.int (Int32.ofNat py)), .val (.int y), .val (.ref b2), .unset, .unset, .unset] []))
  have xZs22 := Nat.le_trans xZs20 Km0.1
  have xN23 := Fr.app xN19 Nm0
  rw [← eR1] at Am0
  refine Gd.go (fun _ w_k => XS.aload X21.here hx rfl (hb hby at_101) rfl rfl (XS.iload X21.here hx rfl (hb hby at_103) rfl (XS.iload X21.here hx rfl (hb hby at_105) rfl w_k))) ?_
  show Gd _ _ _ _ (T21.setTop (mkF m 107 #[.val (.int w0), .val (.int w1), .val (.int w2), .val (.int (Int32.ofNat u0)), .val (.int (Int32.ofNat v0)), .val (.int (Int32.ofNat u1)), .val (.int (Int32.ofNat v1)), .val (.int (Int32.ofNat u2)), .val (.int (Int32.ofNat v2)), .val (.int (Int32.ofNat px)), .val (.int (Int32.ofNat py)), .val (.int y), .val (.ref b2), .unset, .unset, .unset] [(.int (Int32.ofNat v1)), (.int (Int32.ofNat u1)), (.ref b2)]))
  obtain ⟨v24, T24, L24, X24, hQ24, st24⟩ := own_callS X21 hx hZ (y := (⟨"com/example/quiddity/quiddity/rdf/PartitionRootPinLaw", "merge", "([III)V"⟩ : MethodName)) hown (ow hw 2 rfl) (ow hw 3 rfl) (ow hw 4 rfl) (ow hw 5 rfl) (by decide) (W := 0) (own_c1 l Z a0 hw b2 u1 v1 R1 T21.heap n0 n0_b2 Am0 hf1 hu1 hv1) rfl rfl rfl (by decide) (by decide) (g := (mkF m 107 #[.val (.int w0), .val (.int w1), .val (.int w2), .val (.int (Int32.ofNat u0)), .val (.int (Int32.ofNat v0)), .val (.int (Int32.ofNat u1)), .val (.int (Int32.ofNat v1)), .val (.int (Int32.ofNat u2)), .val (.int (Int32.ofNat v2)), .val (.int (Int32.ofNat px)), .val (.int (Int32.ofNat py)), .val (.int y), .val (.ref b2), .unset, .unset, .unset] [(.int (Int32.ofNat v1)), (.int (Int32.ofNat u1)), (.ref b2)])) rfl (by rw [hml]; rfl) (argsL := [(.ref b2), (.int (Int32.ofNat u1)), (.int (Int32.ofNat v1))]) (rest := []) (lenOf own_pd5 rfl) rfl (Nat.le_of_eq rfl) (hb hby at_107) rfl (by decide) (by decide)
  obtain ⟨rfl, Am1, Km1, Nm1⟩ := hQ24
  refine Gd.go (fun _ w_k => st24 _ w_k) ?_
  show Gd _ _ _ _ (T24.setTop (mkF m 110 #[.val (.int w0), .val (.int w1), .val (.int w2), .val (.int (Int32.ofNat u0)), .val (.int (Int32.ofNat v0)), .val (.int (Int32.ofNat u1)), .val (.int (Int32.ofNat v1)), .val (.int (Int32.ofNat u2)), .val (.int (Int32.ofNat v2)), .val (.int (Int32.ofNat px)), .val (.int (Int32.ofNat py)), .val (.int y), .val (.ref b2), .unset, .unset, .unset] []))
  have xZs25 := Nat.le_trans xZs22 Km1.1
  have xN26 := Fr.app xN23 Nm1
  rw [← eR2] at Am1
  refine Gd.go (fun _ w_k => XS.aload X24.here hx rfl (hb hby at_110) rfl rfl (XS.iload X24.here hx rfl (hb hby at_112) rfl (XS.iload X24.here hx rfl (hb hby at_114) rfl w_k))) ?_
  show Gd _ _ _ _ (T24.setTop (mkF m 116 #[.val (.int w0), .val (.int w1), .val (.int w2), .val (.int (Int32.ofNat u0)), .val (.int (Int32.ofNat v0)), .val (.int (Int32.ofNat u1)), .val (.int (Int32.ofNat v1)), .val (.int (Int32.ofNat u2)), .val (.int (Int32.ofNat v2)), .val (.int (Int32.ofNat px)), .val (.int (Int32.ofNat py)), .val (.int y), .val (.ref b2), .unset, .unset, .unset] [(.int (Int32.ofNat v2)), (.int (Int32.ofNat u2)), (.ref b2)]))
  obtain ⟨v27, T27, L27, X27, hQ27, st27⟩ := own_callS X24 hx hZ (y := (⟨"com/example/quiddity/quiddity/rdf/PartitionRootPinLaw", "merge", "([III)V"⟩ : MethodName)) hown (ow hw 2 rfl) (ow hw 3 rfl) (ow hw 4 rfl) (ow hw 5 rfl) (by decide) (W := 0) (own_c1 l Z a0 hw b2 u2 v2 R2 T24.heap n0 n0_b2 Am1 hf2 hu2 hv2) rfl rfl rfl (by decide) (by decide) (g := (mkF m 116 #[.val (.int w0), .val (.int w1), .val (.int w2), .val (.int (Int32.ofNat u0)), .val (.int (Int32.ofNat v0)), .val (.int (Int32.ofNat u1)), .val (.int (Int32.ofNat v1)), .val (.int (Int32.ofNat u2)), .val (.int (Int32.ofNat v2)), .val (.int (Int32.ofNat px)), .val (.int (Int32.ofNat py)), .val (.int y), .val (.ref b2), .unset, .unset, .unset] [(.int (Int32.ofNat v2)), (.int (Int32.ofNat u2)), (.ref b2)])) rfl (by rw [hml]; rfl) (argsL := [(.ref b2), (.int (Int32.ofNat u2)), (.int (Int32.ofNat v2))]) (rest := []) (lenOf own_pd5 rfl) rfl (Nat.le_of_eq rfl) (hb hby at_116) rfl (by decide) (by decide)
  obtain ⟨rfl, Am2, Km2, Nm2⟩ := hQ27
  refine Gd.go (fun _ w_k => st27 _ w_k) ?_
  show Gd _ _ _ _ (T27.setTop (mkF m 119 #[.val (.int w0), .val (.int w1), .val (.int w2), .val (.int (Int32.ofNat u0)), .val (.int (Int32.ofNat v0)), .val (.int (Int32.ofNat u1)), .val (.int (Int32.ofNat v1)), .val (.int (Int32.ofNat u2)), .val (.int (Int32.ofNat v2)), .val (.int (Int32.ofNat px)), .val (.int (Int32.ofNat py)), .val (.int y), .val (.ref b2), .unset, .unset, .unset] []))
  have xZs28 := Nat.le_trans xZs25 Km2.1
  have xN29 := Fr.app xN26 Nm2
  rw [← eR3] at Am2
  obtain ⟨T30, h30, X30, e30, E30, A30, D30, -, st30⟩ := newO X27 hx hZ hown (ow hw 6 rfl) (ow hw 7 rfl) (ow hw 8 rfl) rfl (g := (mkF m 119 #[.val (.int w0), .val (.int w1), .val (.int w2), .val (.int (Int32.ofNat u0)), .val (.int (Int32.ofNat v0)), .val (.int (Int32.ofNat u1)), .val (.int (Int32.ofNat v1)), .val (.int (Int32.ofNat u2)), .val (.int (Int32.ofNat v2)), .val (.int (Int32.ofNat px)), .val (.int (Int32.ofNat py)), .val (.int y), .val (.ref b2), .unset, .unset, .unset] [])) rfl (hb hby at_119) (by decide) (by decide)
  obtain ⟨b30, g30⟩ : ∃ z, z = T27.heap.size := ⟨_, rfl⟩
  rw [← g30] at A30 D30 st30
  have ne_b2_b30 : b2 ≠ b30 := fun q => Nat.lt_irrefl _ (Nat.lt_of_lt_of_le Am2.lt (Nat.le_of_eq (q.trans g30).symm))
  have n0_b30 : n0 ≤ b30 := Nat.le_trans xZs28 (Nat.le_of_eq g30.symm)
  have xF31 := Am2.ext E30
  have xZs32 := Nat.le_trans xZs28 E30.1
  have xF33 : Fld Z h30 b30 "com/example/quiddity/quiddity/rdf/Partition" "parent" "[I" .null := D30 (Or.inl (ow hw 16 rfl)) (ty := (.array .int)) (by decide)
  refine Gd.go (fun _ w_k => st30 _ (XS.dup X30.here hx rfl (hb hby at_122) rfl rfl w_k)) ?_
  show Gd _ _ _ _ (T30.setTop (mkF m 123 #[.val (.int w0), .val (.int w1), .val (.int w2), .val (.int (Int32.ofNat u0)), .val (.int (Int32.ofNat v0)), .val (.int (Int32.ofNat u1)), .val (.int (Int32.ofNat v1)), .val (.int (Int32.ofNat u2)), .val (.int (Int32.ofNat v2)), .val (.int (Int32.ofNat px)), .val (.int (Int32.ofNat py)), .val (.int y), .val (.ref b2), .unset, .unset, .unset] [(.ref b30), (.ref b30)]))
  obtain ⟨v34, T34, L34, X34, hQ34, st34⟩ := own_callI X30 hx hZ (y := (⟨"com/example/quiddity/quiddity/rdf/Partition", "<init>", "()V"⟩ : MethodName)) rfl hown (ow hw 9 rfl) (ow hw 10 rfl) (ow hw 8 rfl) (ow hw 11 rfl) (by decide) (b := b30) (W := 1) (own_c2 l Z a0 hw b30 h30 n0 xZs32 n0_b30 A30 xF33) rfl rfl e30 (by decide) (by decide) (g := (mkF m 123 #[.val (.int w0), .val (.int w1), .val (.int w2), .val (.int (Int32.ofNat u0)), .val (.int (Int32.ofNat v0)), .val (.int (Int32.ofNat u1)), .val (.int (Int32.ofNat v1)), .val (.int (Int32.ofNat u2)), .val (.int (Int32.ofNat v2)), .val (.int (Int32.ofNat px)), .val (.int (Int32.ofNat py)), .val (.int y), .val (.ref b2), .unset, .unset, .unset] [(.ref b30), (.ref b30)])) rfl (by rw [hml]; rfl) (argsL := []) (rest := [(.ref b30)]) (lenOf own_pd6 rfl) rfl (Nat.le_of_eq rfl) (hb hby at_123) rfl (by decide) (by decide)
  obtain ⟨rfl, ⟨ap0, Hp0, kp0⟩, Kp, Np⟩ := hQ34
  refine Gd.go (fun _ w_k => st34 _ w_k) ?_
  show Gd _ _ _ _ (T34.setTop (mkF m 126 #[.val (.int w0), .val (.int w1), .val (.int w2), .val (.int (Int32.ofNat u0)), .val (.int (Int32.ofNat v0)), .val (.int (Int32.ofNat u1)), .val (.int (Int32.ofNat v1)), .val (.int (Int32.ofNat u2)), .val (.int (Int32.ofNat v2)), .val (.int (Int32.ofNat px)), .val (.int (Int32.ofNat py)), .val (.int y), .val (.ref b2), .unset, .unset, .unset] [(.ref b30)]))
  have nl0 : b2 ≠ ap0 := Nat.ne_of_lt (Nat.lt_of_lt_of_le xF31.lt kp0)
  have xF35 := xF31.keep Kp (ninS ne_b2_b30 nin0)
  have xF36 := A30.keep Kp
  have xZs37 := Nat.le_trans xZs32 Kp.1
  have xN38 := Fr.app xN29 Np
  have Ip0 := own_I0
  refine Gd.go (fun _ w_k => XS.astore X34.here hx rfl (hb hby at_126) rfl rfl (l' := #[.val (.int w0), .val (.int w1), .val (.int w2), .val (.int (Int32.ofNat u0)), .val (.int (Int32.ofNat v0)), .val (.int (Int32.ofNat u1)), .val (.int (Int32.ofNat v1)), .val (.int (Int32.ofNat u2)), .val (.int (Int32.ofNat v2)), .val (.int (Int32.ofNat px)), .val (.int (Int32.ofNat py)), .val (.int y), .val (.ref b2), .val (.ref b30), .unset, .unset]) rfl (XS.aload X34.here hx rfl (hb hby at_128) rfl rfl (XS.iloadN X34.here hx rfl (hb hby at_130) rfl (XS.iload X34.here hx rfl (hb hby at_131) rfl w_k)))) ?_
  show Gd _ _ _ _ (T34.setTop (mkF m 133 #[.val (.int w0), .val (.int w1), .val (.int w2), .val (.int (Int32.ofNat u0)), .val (.int (Int32.ofNat v0)), .val (.int (Int32.ofNat u1)), .val (.int (Int32.ofNat v1)), .val (.int (Int32.ofNat u2)), .val (.int (Int32.ofNat v2)), .val (.int (Int32.ofNat px)), .val (.int (Int32.ofNat py)), .val (.int y), .val (.ref b2), .val (.ref b30), .unset, .unset] [(.int (Int32.ofNat v0)), (.int (Int32.ofNat u0)), (.ref b30)]))
  obtain ⟨v39, T39, L39, X39, hQ39, st39⟩ := own_callVH X34 hx hZ hHN.1 (C := "com/example/quiddity/quiddity/rdf/Partition") (y := (⟨"com/example/quiddity/quiddity/rdf/Partition", "join", "(II)V"⟩ : MethodName)) hown (ow hw 17 rfl) (ow hw 18 rfl) (ow hw 20 rfl) (ow hw 19 rfl) (ow hw 8 rfl) (ow hw 21 rfl) (by decide) Hp0.1 (W := 0) (own_c4 l Z a0 hw b30 ap0 0 u0 v0 (fun _ => 0) own_id (fun _ => 0) T34.heap n0 xZs37 Hp0 Ip0 hu0 hv0) rfl rfl rfl (by decide) (by decide) (g := (mkF m 133 #[.val (.int w0), .val (.int w1), .val (.int w2), .val (.int (Int32.ofNat u0)), .val (.int (Int32.ofNat v0)), .val (.int (Int32.ofNat u1)), .val (.int (Int32.ofNat v1)), .val (.int (Int32.ofNat u2)), .val (.int (Int32.ofNat v2)), .val (.int (Int32.ofNat px)), .val (.int (Int32.ofNat py)), .val (.int y), .val (.ref b2), .val (.ref b30), .unset, .unset] [(.int (Int32.ofNat v0)), (.int (Int32.ofNat u0)), (.ref b30)])) rfl (by rw [hml]; rfl) (argsL := [(.int (Int32.ofNat u0)), (.int (Int32.ofNat v0))]) (rest := []) (lenOf own_pd7 rfl) rfl (Nat.le_of_eq rfl) (hb hby at_133) rfl (by decide) (by decide)
  obtain ⟨rfl, ⟨ap1, n1, P1, d1, Hp1, Ip1, kp1⟩, Kj1, Nj1⟩ := hQ39
  refine Gd.go (fun _ w_k => st39 _ w_k) ?_
  show Gd _ _ _ _ (T39.setTop (mkF m 136 #[.val (.int w0), .val (.int w1), .val (.int w2), .val (.int (Int32.ofNat u0)), .val (.int (Int32.ofNat v0)), .val (.int (Int32.ofNat u1)), .val (.int (Int32.ofNat v1)), .val (.int (Int32.ofNat u2)), .val (.int (Int32.ofNat v2)), .val (.int (Int32.ofNat px)), .val (.int (Int32.ofNat py)), .val (.int y), .val (.ref b2), .val (.ref b30), .unset, .unset] []))
  rw [← eR1] at Ip1
  have nl1 : b2 ≠ ap1 := by
    rcases kp1 with q | q
    · rw [q]; exact nl0
    · exact Nat.ne_of_lt (Nat.lt_of_lt_of_le xF35.lt q)
  have xF40 := xF35.keep Kj1 (ninS ne_b2_b30 (ninS nl0 nin0))
  have xZs41 := Nat.le_trans xZs37 Kj1.1
  have xN42 := Fr.app xN38 Nj1
  refine Gd.go (fun _ w_k => XS.aload X39.here hx rfl (hb hby at_136) rfl rfl (XS.iload X39.here hx rfl (hb hby at_138) rfl (XS.iload X39.here hx rfl (hb hby at_140) rfl w_k))) ?_
  show Gd _ _ _ _ (T39.setTop (mkF m 142 #[.val (.int w0), .val (.int w1), .val (.int w2), .val (.int (Int32.ofNat u0)), .val (.int (Int32.ofNat v0)), .val (.int (Int32.ofNat u1)), .val (.int (Int32.ofNat v1)), .val (.int (Int32.ofNat u2)), .val (.int (Int32.ofNat v2)), .val (.int (Int32.ofNat px)), .val (.int (Int32.ofNat py)), .val (.int y), .val (.ref b2), .val (.ref b30), .unset, .unset] [(.int (Int32.ofNat v1)), (.int (Int32.ofNat u1)), (.ref b30)]))
  obtain ⟨v43, T43, L43, X43, hQ43, st43⟩ := own_callVH X39 hx hZ hHN.1 (C := "com/example/quiddity/quiddity/rdf/Partition") (y := (⟨"com/example/quiddity/quiddity/rdf/Partition", "join", "(II)V"⟩ : MethodName)) hown (ow hw 17 rfl) (ow hw 18 rfl) (ow hw 20 rfl) (ow hw 19 rfl) (ow hw 8 rfl) (ow hw 21 rfl) (by decide) Hp1.1 (W := 0) (own_c4 l Z a0 hw b30 ap1 n1 u1 v1 P1 R1 d1 T39.heap n0 xZs41 Hp1 Ip1 hu1 hv1) rfl rfl rfl (by decide) (by decide) (g := (mkF m 142 #[.val (.int w0), .val (.int w1), .val (.int w2), .val (.int (Int32.ofNat u0)), .val (.int (Int32.ofNat v0)), .val (.int (Int32.ofNat u1)), .val (.int (Int32.ofNat v1)), .val (.int (Int32.ofNat u2)), .val (.int (Int32.ofNat v2)), .val (.int (Int32.ofNat px)), .val (.int (Int32.ofNat py)), .val (.int y), .val (.ref b2), .val (.ref b30), .unset, .unset] [(.int (Int32.ofNat v1)), (.int (Int32.ofNat u1)), (.ref b30)])) rfl (by rw [hml]; rfl) (argsL := [(.int (Int32.ofNat u1)), (.int (Int32.ofNat v1))]) (rest := []) (lenOf own_pd7 rfl) rfl (Nat.le_of_eq rfl) (hb hby at_142) rfl (by decide) (by decide)
  obtain ⟨rfl, ⟨ap2, n2, P2, d2, Hp2, Ip2, kp2⟩, Kj2, Nj2⟩ := hQ43
  refine Gd.go (fun _ w_k => st43 _ w_k) ?_
  show Gd _ _ _ _ (T43.setTop (mkF m 145 #[.val (.int w0), .val (.int w1), .val (.int w2), .val (.int (Int32.ofNat u0)), .val (.int (Int32.ofNat v0)), .val (.int (Int32.ofNat u1)), .val (.int (Int32.ofNat v1)), .val (.int (Int32.ofNat u2)), .val (.int (Int32.ofNat v2)), .val (.int (Int32.ofNat px)), .val (.int (Int32.ofNat py)), .val (.int y), .val (.ref b2), .val (.ref b30), .unset, .unset] []))
  rw [← eR2] at Ip2
  have nl2 : b2 ≠ ap2 := by
    rcases kp2 with q | q
    · rw [q]; exact nl1
    · exact Nat.ne_of_lt (Nat.lt_of_lt_of_le xF40.lt q)
  have xF44 := xF40.keep Kj2 (ninS ne_b2_b30 (ninS nl1 nin0))
  have xZs45 := Nat.le_trans xZs41 Kj2.1
  have xN46 := Fr.app xN42 Nj2
  refine Gd.go (fun _ w_k => XS.aload X43.here hx rfl (hb hby at_145) rfl rfl (XS.iload X43.here hx rfl (hb hby at_147) rfl (XS.iload X43.here hx rfl (hb hby at_149) rfl w_k))) ?_
  show Gd _ _ _ _ (T43.setTop (mkF m 151 #[.val (.int w0), .val (.int w1), .val (.int w2), .val (.int (Int32.ofNat u0)), .val (.int (Int32.ofNat v0)), .val (.int (Int32.ofNat u1)), .val (.int (Int32.ofNat v1)), .val (.int (Int32.ofNat u2)), .val (.int (Int32.ofNat v2)), .val (.int (Int32.ofNat px)), .val (.int (Int32.ofNat py)), .val (.int y), .val (.ref b2), .val (.ref b30), .unset, .unset] [(.int (Int32.ofNat v2)), (.int (Int32.ofNat u2)), (.ref b30)]))
  obtain ⟨v47, T47, L47, X47, hQ47, st47⟩ := own_callVH X43 hx hZ hHN.1 (C := "com/example/quiddity/quiddity/rdf/Partition") (y := (⟨"com/example/quiddity/quiddity/rdf/Partition", "join", "(II)V"⟩ : MethodName)) hown (ow hw 17 rfl) (ow hw 18 rfl) (ow hw 20 rfl) (ow hw 19 rfl) (ow hw 8 rfl) (ow hw 21 rfl) (by decide) Hp2.1 (W := 0) (own_c4 l Z a0 hw b30 ap2 n2 u2 v2 P2 R2 d2 T43.heap n0 xZs45 Hp2 Ip2 hu2 hv2) rfl rfl rfl (by decide) (by decide) (g := (mkF m 151 #[.val (.int w0), .val (.int w1), .val (.int w2), .val (.int (Int32.ofNat u0)), .val (.int (Int32.ofNat v0)), .val (.int (Int32.ofNat u1)), .val (.int (Int32.ofNat v1)), .val (.int (Int32.ofNat u2)), .val (.int (Int32.ofNat v2)), .val (.int (Int32.ofNat px)), .val (.int (Int32.ofNat py)), .val (.int y), .val (.ref b2), .val (.ref b30), .unset, .unset] [(.int (Int32.ofNat v2)), (.int (Int32.ofNat u2)), (.ref b30)])) rfl (by rw [hml]; rfl) (argsL := [(.int (Int32.ofNat u2)), (.int (Int32.ofNat v2))]) (rest := []) (lenOf own_pd7 rfl) rfl (Nat.le_of_eq rfl) (hb hby at_151) rfl (by decide) (by decide)
  obtain ⟨rfl, ⟨ap3, n3, P3, d3, Hp3, Ip3, kp3⟩, Kj3, Nj3⟩ := hQ47
  refine Gd.go (fun _ w_k => st47 _ w_k) ?_
  show Gd _ _ _ _ (T47.setTop (mkF m 154 #[.val (.int w0), .val (.int w1), .val (.int w2), .val (.int (Int32.ofNat u0)), .val (.int (Int32.ofNat v0)), .val (.int (Int32.ofNat u1)), .val (.int (Int32.ofNat v1)), .val (.int (Int32.ofNat u2)), .val (.int (Int32.ofNat v2)), .val (.int (Int32.ofNat px)), .val (.int (Int32.ofNat py)), .val (.int y), .val (.ref b2), .val (.ref b30), .unset, .unset] []))
  rw [← eR3] at Ip3
  have nl3 : b2 ≠ ap3 := by
    rcases kp3 with q | q
    · rw [q]; exact nl2
    · exact Nat.ne_of_lt (Nat.lt_of_lt_of_le xF44.lt q)
  have xF48 := xF44.keep Kj3 (ninS ne_b2_b30 (ninS nl2 nin0))
  have xZs49 := Nat.le_trans xZs45 Kj3.1
  have xN50 := Fr.app xN46 Nj3
  have rr := hf3 px hpx
  have rs := hf3 py hpy
  have rq := (Ip3.2.1 px hpx).2.1
  have hn6 := Ip3.1
  refine Gd.go (fun _ w_k => XS.aload X47.here hx rfl (hb hby at_154) rfl rfl (XS.iload X47.here hx rfl (hb hby at_156) rfl w_k)) ?_
  show Gd _ _ _ _ (T47.setTop (mkF m 158 #[.val (.int w0), .val (.int w1), .val (.int w2), .val (.int (Int32.ofNat u0)), .val (.int (Int32.ofNat v0)), .val (.int (Int32.ofNat u1)), .val (.int (Int32.ofNat v1)), .val (.int (Int32.ofNat u2)), .val (.int (Int32.ofNat v2)), .val (.int (Int32.ofNat px)), .val (.int (Int32.ofNat py)), .val (.int y), .val (.ref b2), .val (.ref b30), .unset, .unset] [(.int (Int32.ofNat px)), (.ref b30)]))
  obtain ⟨v51, T51, L51, X51, hQ51, st51⟩ := own_callV X47 hx hZ (C := "com/example/quiddity/quiddity/rdf/Partition") (y := (⟨"com/example/quiddity/quiddity/rdf/Partition", "root", "(I)I"⟩ : MethodName)) hown (ow hw 27 rfl) (ow hw 23 rfl) (ow hw 25 rfl) (ow hw 24 rfl) (ow hw 8 rfl) (ow hw 26 rfl) (by decide) Hp3.1 (W := 0) (own_c5 l Z a0 hw b30 ap3 n3 px P3 R3 d3 T47.heap n0 Hp3 Ip3 hpx) rfl rfl rfl (by decide) (by decide) (g := (mkF m 158 #[.val (.int w0), .val (.int w1), .val (.int w2), .val (.int (Int32.ofNat u0)), .val (.int (Int32.ofNat v0)), .val (.int (Int32.ofNat u1)), .val (.int (Int32.ofNat v1)), .val (.int (Int32.ofNat u2)), .val (.int (Int32.ofNat v2)), .val (.int (Int32.ofNat px)), .val (.int (Int32.ofNat py)), .val (.int y), .val (.ref b2), .val (.ref b30), .unset, .unset] [(.int (Int32.ofNat px)), (.ref b30)])) rfl (by rw [hml]; rfl) (argsL := [(.int (Int32.ofNat px))]) (rest := []) (lenOf own_pd1 rfl) rfl (Nat.le_of_eq rfl) (hb hby at_158) rfl (by decide) (by decide)
  obtain ⟨rfl, ⟨Pr1, Hr1, Ir1⟩, Kr1, Nr1⟩ := hQ51
  refine Gd.go (fun _ w_k => st51 _ w_k) ?_
  show Gd _ _ _ _ (T51.setTop (mkF m 161 #[.val (.int w0), .val (.int w1), .val (.int w2), .val (.int (Int32.ofNat u0)), .val (.int (Int32.ofNat v0)), .val (.int (Int32.ofNat u1)), .val (.int (Int32.ofNat v1)), .val (.int (Int32.ofNat u2)), .val (.int (Int32.ofNat v2)), .val (.int (Int32.ofNat px)), .val (.int (Int32.ofNat py)), .val (.int y), .val (.ref b2), .val (.ref b30), .unset, .unset] [(.int (Int32.ofNat (R3 px)))]))
  have xF52 := xF48.keep Kr1 (ninS nl3 nin0)
  have xZs53 := Nat.le_trans xZs49 Kr1.1
  have xN54 := Fr.app xN50 Nr1
  refine Gd.go (fun _ w_k => XS.istore X51.here hx rfl (hb hby at_161) rfl (l' := #[.val (.int w0), .val (.int w1), .val (.int w2), .val (.int (Int32.ofNat u0)), .val (.int (Int32.ofNat v0)), .val (.int (Int32.ofNat u1)), .val (.int (Int32.ofNat v1)), .val (.int (Int32.ofNat u2)), .val (.int (Int32.ofNat v2)), .val (.int (Int32.ofNat px)), .val (.int (Int32.ofNat py)), .val (.int y), .val (.ref b2), .val (.ref b30), .val (.int (Int32.ofNat (R3 px))), .unset]) rfl (XS.aload X51.here hx rfl (hb hby at_163) rfl rfl (XS.iload X51.here hx rfl (hb hby at_165) rfl w_k))) ?_
  show Gd _ _ _ _ (T51.setTop (mkF m 167 #[.val (.int w0), .val (.int w1), .val (.int w2), .val (.int (Int32.ofNat u0)), .val (.int (Int32.ofNat v0)), .val (.int (Int32.ofNat u1)), .val (.int (Int32.ofNat v1)), .val (.int (Int32.ofNat u2)), .val (.int (Int32.ofNat v2)), .val (.int (Int32.ofNat px)), .val (.int (Int32.ofNat py)), .val (.int y), .val (.ref b2), .val (.ref b30), .val (.int (Int32.ofNat (R3 px))), .unset] [(.int (Int32.ofNat py)), (.ref b30)]))
  obtain ⟨v55, T55, L55, X55, hQ55, st55⟩ := own_callV X51 hx hZ (C := "com/example/quiddity/quiddity/rdf/Partition") (y := (⟨"com/example/quiddity/quiddity/rdf/Partition", "root", "(I)I"⟩ : MethodName)) hown (ow hw 27 rfl) (ow hw 23 rfl) (ow hw 25 rfl) (ow hw 24 rfl) (ow hw 8 rfl) (ow hw 26 rfl) (by decide) Hr1.1 (W := 0) (own_c5 l Z a0 hw b30 ap3 n3 py Pr1 R3 d3 T51.heap n0 Hr1 Ir1 hpy) rfl rfl rfl (by decide) (by decide) (g := (mkF m 167 #[.val (.int w0), .val (.int w1), .val (.int w2), .val (.int (Int32.ofNat u0)), .val (.int (Int32.ofNat v0)), .val (.int (Int32.ofNat u1)), .val (.int (Int32.ofNat v1)), .val (.int (Int32.ofNat u2)), .val (.int (Int32.ofNat v2)), .val (.int (Int32.ofNat px)), .val (.int (Int32.ofNat py)), .val (.int y), .val (.ref b2), .val (.ref b30), .val (.int (Int32.ofNat (R3 px))), .unset] [(.int (Int32.ofNat py)), (.ref b30)])) rfl (by rw [hml]; rfl) (argsL := [(.int (Int32.ofNat py))]) (rest := []) (lenOf own_pd1 rfl) rfl (Nat.le_of_eq rfl) (hb hby at_167) rfl (by decide) (by decide)
  obtain ⟨rfl, ⟨Pr2, Hr2, Ir2⟩, Kr2, Nr2⟩ := hQ55
  refine Gd.go (fun _ w_k => st55 _ w_k) ?_
  show Gd _ _ _ _ (T55.setTop (mkF m 170 #[.val (.int w0), .val (.int w1), .val (.int w2), .val (.int (Int32.ofNat u0)), .val (.int (Int32.ofNat v0)), .val (.int (Int32.ofNat u1)), .val (.int (Int32.ofNat v1)), .val (.int (Int32.ofNat u2)), .val (.int (Int32.ofNat v2)), .val (.int (Int32.ofNat px)), .val (.int (Int32.ofNat py)), .val (.int y), .val (.ref b2), .val (.ref b30), .val (.int (Int32.ofNat (R3 px))), .unset] [(.int (Int32.ofNat (R3 py)))]))
  have xF56 := xF52.keep Kr2 (ninS nl3 nin0)
  have xZs57 := Nat.le_trans xZs53 Kr2.1
  have xN58 := Fr.app xN54 Nr2
  refine Gd.go (fun _ w_k => XS.istore X55.here hx rfl (hb hby at_170) rfl (l' := #[.val (.int w0), .val (.int w1), .val (.int w2), .val (.int (Int32.ofNat u0)), .val (.int (Int32.ofNat v0)), .val (.int (Int32.ofNat u1)), .val (.int (Int32.ofNat v1)), .val (.int (Int32.ofNat u2)), .val (.int (Int32.ofNat v2)), .val (.int (Int32.ofNat px)), .val (.int (Int32.ofNat py)), .val (.int y), .val (.ref b2), .val (.ref b30), .val (.int (Int32.ofNat (R3 px))), .val (.int (Int32.ofNat (R3 py)))]) rfl (XS.iload X55.here hx rfl (hb hby at_172) rfl (XS.ifNo X55.here hx rfl (hb hby at_174) rfl ((if0 _ _).trans (flt (Int32.ofNat_not_neg (by omega))).1) w_k))) ?_
  show Gd _ _ _ _ (T55.setTop (mkF m 177 #[.val (.int w0), .val (.int w1), .val (.int w2), .val (.int (Int32.ofNat u0)), .val (.int (Int32.ofNat v0)), .val (.int (Int32.ofNat u1)), .val (.int (Int32.ofNat v1)), .val (.int (Int32.ofNat u2)), .val (.int (Int32.ofNat v2)), .val (.int (Int32.ofNat px)), .val (.int (Int32.ofNat py)), .val (.int y), .val (.ref b2), .val (.ref b30), .val (.int (Int32.ofNat (R3 px))), .val (.int (Int32.ofNat (R3 py)))] []))
  refine Gd.go (fun _ w_k => XS.iload X55.here hx rfl (hb hby at_177) rfl (XS.iconst X55.here hx rfl (hb hby at_179) (XS.icmpYes X55.here hx rfl (pc0 := 180) (pc' := 185) rfl (hb hby at_180) rfl (flt (own_le3 rr)).2.2.2 (by decide) (by decide) w_k))) ?_
  show Gd _ _ _ _ (T55.setTop (mkF m 185 #[.val (.int w0), .val (.int w1), .val (.int w2), .val (.int (Int32.ofNat u0)), .val (.int (Int32.ofNat v0)), .val (.int (Int32.ofNat u1)), .val (.int (Int32.ofNat v1)), .val (.int (Int32.ofNat u2)), .val (.int (Int32.ofNat v2)), .val (.int (Int32.ofNat px)), .val (.int (Int32.ofNat py)), .val (.int y), .val (.ref b2), .val (.ref b30), .val (.int (Int32.ofNat (R3 px))), .val (.int (Int32.ofNat (R3 py)))] []))
  refine Gd.go (fun _ w_k => XS.aload X55.here hx rfl (hb hby at_185) rfl rfl (XS.iload X55.here hx rfl (hb hby at_187) rfl (own_ldI X55 hx hZ rfl xF56 (j := (Int32.ofNat (R3 px))) (by rw [own_ofN (by omega)]; omega) (by rw [own_ofN (by omega)]; omega) (v := (.int (Int32.ofNat (R3 (R3 px))))) (own_Ae (by omega)) (g := (mkF m 189 #[.val (.int w0), .val (.int w1), .val (.int w2), .val (.int (Int32.ofNat u0)), .val (.int (Int32.ofNat v0)), .val (.int (Int32.ofNat u1)), .val (.int (Int32.ofNat v1)), .val (.int (Int32.ofNat u2)), .val (.int (Int32.ofNat v2)), .val (.int (Int32.ofNat px)), .val (.int (Int32.ofNat py)), .val (.int y), .val (.ref b2), .val (.ref b30), .val (.int (Int32.ofNat (R3 px))), .val (.int (Int32.ofNat (R3 py)))] [(.int (Int32.ofNat (R3 px))), (.ref b2)])) rfl rfl (hb hby at_189) _ (XS.aload X55.here hx rfl (hb hby at_190) rfl rfl (XS.iload X55.here hx rfl (hb hby at_192) rfl (own_ldI X55 hx hZ rfl xF56 (j := (Int32.ofNat px)) (by rw [own_ofN (by omega)]; omega) (by rw [own_ofN (by omega)]; omega) (v := (.int (Int32.ofNat (R3 px)))) (own_Ae (by omega)) (g := (mkF m 194 #[.val (.int w0), .val (.int w1), .val (.int w2), .val (.int (Int32.ofNat u0)), .val (.int (Int32.ofNat v0)), .val (.int (Int32.ofNat u1)), .val (.int (Int32.ofNat v1)), .val (.int (Int32.ofNat u2)), .val (.int (Int32.ofNat v2)), .val (.int (Int32.ofNat px)), .val (.int (Int32.ofNat py)), .val (.int y), .val (.ref b2), .val (.ref b30), .val (.int (Int32.ofNat (R3 px))), .val (.int (Int32.ofNat (R3 py)))] [(.int (Int32.ofNat px)), (.ref b2), (.int (Int32.ofNat (R3 (R3 px))))])) rfl rfl (hb hby at_194) _ (XS.icmpYes X55.here hx rfl (pc0 := 195) (pc' := 200) rfl (hb hby at_195) rfl (teq (by rw [rq])).1 (by decide) (by decide) w_k))))))) ?_
  show Gd _ _ _ _ (T55.setTop (mkF m 200 #[.val (.int w0), .val (.int w1), .val (.int w2), .val (.int (Int32.ofNat u0)), .val (.int (Int32.ofNat v0)), .val (.int (Int32.ofNat u1)), .val (.int (Int32.ofNat v1)), .val (.int (Int32.ofNat u2)), .val (.int (Int32.ofNat v2)), .val (.int (Int32.ofNat px)), .val (.int (Int32.ofNat py)), .val (.int y), .val (.ref b2), .val (.ref b30), .val (.int (Int32.ofNat (R3 px))), .val (.int (Int32.ofNat (R3 py)))] []))
  refine Gd.go (fun _ w_k => XS.iload X55.here hx rfl (hb hby at_200) rfl (XS.iload X55.here hx rfl (hb hby at_202) rfl w_k)) ?_
  show Gd _ _ _ _ (T55.setTop (mkF m 204 #[.val (.int w0), .val (.int w1), .val (.int w2), .val (.int (Int32.ofNat u0)), .val (.int (Int32.ofNat v0)), .val (.int (Int32.ofNat u1)), .val (.int (Int32.ofNat v1)), .val (.int (Int32.ofNat u2)), .val (.int (Int32.ofNat v2)), .val (.int (Int32.ofNat px)), .val (.int (Int32.ofNat py)), .val (.int y), .val (.ref b2), .val (.ref b30), .val (.int (Int32.ofNat (R3 px))), .val (.int (Int32.ofNat (R3 py)))] [(.int (Int32.ofNat (R3 py))), (.int (Int32.ofNat (R3 px)))]))
  by_cases hc59 : (Int32.ofNat (R3 px)) = (Int32.ofNat (R3 py))
  · refine Gd.go (fun _ w_k => XS.icmpNo X55.here hx rfl (hb hby at_204) rfl (teq hc59).2 w_k) ?_
    show Gd _ _ _ _ (T55.setTop (mkF m 207 #[.val (.int w0), .val (.int w1), .val (.int w2), .val (.int (Int32.ofNat u0)), .val (.int (Int32.ofNat v0)), .val (.int (Int32.ofNat u1)), .val (.int (Int32.ofNat v1)), .val (.int (Int32.ofNat u2)), .val (.int (Int32.ofNat v2)), .val (.int (Int32.ofNat px)), .val (.int (Int32.ofNat py)), .val (.int y), .val (.ref b2), .val (.ref b30), .val (.int (Int32.ofNat (R3 px))), .val (.int (Int32.ofNat (R3 py)))] []))
    refine Gd.go (fun _ w_k => XS.iconst X55.here hx rfl (hb hby at_207) (XS.goto X55.here hx rfl (pc0 := 208) (pc' := 212) rfl (hb hby at_208) (by decide) (by decide) (XS.aload X55.here hx rfl (hb hby at_212) rfl rfl (XS.iload X55.here hx rfl (hb hby at_214) rfl (own_ldI X55 hx hZ rfl xF56 (j := (Int32.ofNat px)) (by rw [own_ofN (by omega)]; omega) (by rw [own_ofN (by omega)]; omega) (v := (.int (Int32.ofNat (R3 px)))) (own_Ae (by omega)) (g := (mkF m 216 #[.val (.int w0), .val (.int w1), .val (.int w2), .val (.int (Int32.ofNat u0)), .val (.int (Int32.ofNat v0)), .val (.int (Int32.ofNat u1)), .val (.int (Int32.ofNat v1)), .val (.int (Int32.ofNat u2)), .val (.int (Int32.ofNat v2)), .val (.int (Int32.ofNat px)), .val (.int (Int32.ofNat py)), .val (.int y), .val (.ref b2), .val (.ref b30), .val (.int (Int32.ofNat (R3 px))), .val (.int (Int32.ofNat (R3 py)))] [(.int (Int32.ofNat px)), (.ref b2), (.int (1 : Int32))])) rfl rfl (hb hby at_216) _ (XS.aload X55.here hx rfl (hb hby at_217) rfl rfl (XS.iload X55.here hx rfl (hb hby at_219) rfl (own_ldI X55 hx hZ rfl xF56 (j := (Int32.ofNat py)) (by rw [own_ofN (by omega)]; omega) (by rw [own_ofN (by omega)]; omega) (v := (.int (Int32.ofNat (R3 py)))) (own_Ae (by omega)) (g := (mkF m 221 #[.val (.int w0), .val (.int w1), .val (.int w2), .val (.int (Int32.ofNat u0)), .val (.int (Int32.ofNat v0)), .val (.int (Int32.ofNat u1)), .val (.int (Int32.ofNat v1)), .val (.int (Int32.ofNat u2)), .val (.int (Int32.ofNat v2)), .val (.int (Int32.ofNat px)), .val (.int (Int32.ofNat py)), .val (.int y), .val (.ref b2), .val (.ref b30), .val (.int (Int32.ofNat (R3 px))), .val (.int (Int32.ofNat (R3 py)))] [(.int (Int32.ofNat py)), (.ref b2), (.int (Int32.ofNat (R3 px))), (.int (1 : Int32))])) rfl rfl (hb hby at_221) _ (XS.icmpNo X55.here hx rfl (hb hby at_222) rfl (teq hc59).2 w_k))))))))) ?_
    show Gd _ _ _ _ (T55.setTop (mkF m 225 #[.val (.int w0), .val (.int w1), .val (.int w2), .val (.int (Int32.ofNat u0)), .val (.int (Int32.ofNat v0)), .val (.int (Int32.ofNat u1)), .val (.int (Int32.ofNat v1)), .val (.int (Int32.ofNat u2)), .val (.int (Int32.ofNat v2)), .val (.int (Int32.ofNat px)), .val (.int (Int32.ofNat py)), .val (.int y), .val (.ref b2), .val (.ref b30), .val (.int (Int32.ofNat (R3 px))), .val (.int (Int32.ofNat (R3 py)))] [(.int (1 : Int32))]))
    refine Gd.go (fun _ w_k => XS.iconst X55.here hx rfl (hb hby at_225) (XS.goto X55.here hx rfl (pc0 := 226) (pc' := 230) rfl (hb hby at_226) (by decide) (by decide) (XS.icmpYes X55.here hx rfl (pc0 := 230) (pc' := 235) rfl (hb hby at_230) rfl (teq (by decide)).1 (by decide) (by decide) w_k))) ?_
    show Gd _ _ _ _ (T55.setTop (mkF m 235 #[.val (.int w0), .val (.int w1), .val (.int w2), .val (.int (Int32.ofNat u0)), .val (.int (Int32.ofNat v0)), .val (.int (Int32.ofNat u1)), .val (.int (Int32.ofNat v1)), .val (.int (Int32.ofNat u2)), .val (.int (Int32.ofNat v2)), .val (.int (Int32.ofNat px)), .val (.int (Int32.ofNat py)), .val (.int y), .val (.ref b2), .val (.ref b30), .val (.int (Int32.ofNat (R3 px))), .val (.int (Int32.ofNat (R3 py)))] []))
    refine Gd.go (fun _ w_k => XS.aload X55.here hx rfl (hb hby at_235) rfl rfl (XS.iload X55.here hx rfl (hb hby at_237) rfl w_k)) ?_
    show Gd _ _ _ _ (T55.setTop (mkF m 239 #[.val (.int w0), .val (.int w1), .val (.int w2), .val (.int (Int32.ofNat u0)), .val (.int (Int32.ofNat v0)), .val (.int (Int32.ofNat u1)), .val (.int (Int32.ofNat v1)), .val (.int (Int32.ofNat u2)), .val (.int (Int32.ofNat v2)), .val (.int (Int32.ofNat px)), .val (.int (Int32.ofNat py)), .val (.int y), .val (.ref b2), .val (.ref b30), .val (.int (Int32.ofNat (R3 px))), .val (.int (Int32.ofNat (R3 py)))] [(.int (Int32.ofNat px)), (.ref b30)]))
    obtain ⟨v60, T60, L60, X60, hQ60, st60⟩ := own_callV X55 hx hZ (C := "com/example/quiddity/quiddity/rdf/Partition") (y := (⟨"com/example/quiddity/quiddity/rdf/Partition", "root", "(I)I"⟩ : MethodName)) hown (ow hw 27 rfl) (ow hw 23 rfl) (ow hw 25 rfl) (ow hw 24 rfl) (ow hw 8 rfl) (ow hw 26 rfl) (by decide) Hr2.1 (W := 0) (own_c5 l Z a0 hw b30 ap3 n3 px Pr2 R3 d3 T55.heap n0 Hr2 Ir2 hpx) rfl rfl rfl (by decide) (by decide) (g := (mkF m 239 #[.val (.int w0), .val (.int w1), .val (.int w2), .val (.int (Int32.ofNat u0)), .val (.int (Int32.ofNat v0)), .val (.int (Int32.ofNat u1)), .val (.int (Int32.ofNat v1)), .val (.int (Int32.ofNat u2)), .val (.int (Int32.ofNat v2)), .val (.int (Int32.ofNat px)), .val (.int (Int32.ofNat py)), .val (.int y), .val (.ref b2), .val (.ref b30), .val (.int (Int32.ofNat (R3 px))), .val (.int (Int32.ofNat (R3 py)))] [(.int (Int32.ofNat px)), (.ref b30)])) rfl (by rw [hml]; rfl) (argsL := [(.int (Int32.ofNat px))]) (rest := []) (lenOf own_pd1 rfl) rfl (Nat.le_of_eq rfl) (hb hby at_239) rfl (by decide) (by decide)
    obtain ⟨rfl, ⟨Pr3, Hr3, Ir3⟩, Kr3, Nr3⟩ := hQ60
    refine Gd.go (fun _ w_k => st60 _ w_k) ?_
    show Gd _ _ _ _ (T60.setTop (mkF m 242 #[.val (.int w0), .val (.int w1), .val (.int w2), .val (.int (Int32.ofNat u0)), .val (.int (Int32.ofNat v0)), .val (.int (Int32.ofNat u1)), .val (.int (Int32.ofNat v1)), .val (.int (Int32.ofNat u2)), .val (.int (Int32.ofNat v2)), .val (.int (Int32.ofNat px)), .val (.int (Int32.ofNat py)), .val (.int y), .val (.ref b2), .val (.ref b30), .val (.int (Int32.ofNat (R3 px))), .val (.int (Int32.ofNat (R3 py)))] [(.int (Int32.ofNat (R3 px)))]))
    have xF61 := xF56.keep Kr3 (ninS nl3 nin0)
    have xZs62 := Nat.le_trans xZs57 Kr3.1
    have xN63 := Fr.app xN58 Nr3
    refine Gd.go (fun _ w_k => XS.iload X60.here hx rfl (hb hby at_242) rfl (XS.icmpYes X60.here hx rfl (pc0 := 244) (pc' := 249) rfl (hb hby at_244) rfl (teq rfl).1 (by decide) (by decide) w_k)) ?_
    show Gd _ _ _ _ (T60.setTop (mkF m 249 #[.val (.int w0), .val (.int w1), .val (.int w2), .val (.int (Int32.ofNat u0)), .val (.int (Int32.ofNat v0)), .val (.int (Int32.ofNat u1)), .val (.int (Int32.ofNat v1)), .val (.int (Int32.ofNat u2)), .val (.int (Int32.ofNat v2)), .val (.int (Int32.ofNat px)), .val (.int (Int32.ofNat py)), .val (.int y), .val (.ref b2), .val (.ref b30), .val (.int (Int32.ofNat (R3 px))), .val (.int (Int32.ofNat (R3 py)))] []))
    refine Gd.go (fun _ w_k => XS.aload X60.here hx rfl (hb hby at_249) rfl rfl (XS.iload X60.here hx rfl (hb hby at_251) rfl w_k)) ?_
    show Gd _ _ _ _ (T60.setTop (mkF m 253 #[.val (.int w0), .val (.int w1), .val (.int w2), .val (.int (Int32.ofNat u0)), .val (.int (Int32.ofNat v0)), .val (.int (Int32.ofNat u1)), .val (.int (Int32.ofNat v1)), .val (.int (Int32.ofNat u2)), .val (.int (Int32.ofNat v2)), .val (.int (Int32.ofNat px)), .val (.int (Int32.ofNat py)), .val (.int y), .val (.ref b2), .val (.ref b30), .val (.int (Int32.ofNat (R3 px))), .val (.int (Int32.ofNat (R3 py)))] [(.int (Int32.ofNat (R3 px))), (.ref b30)]))
    obtain ⟨v64, T64, L64, X64, hQ64, st64⟩ := own_callV X60 hx hZ (C := "com/example/quiddity/quiddity/rdf/Partition") (y := (⟨"com/example/quiddity/quiddity/rdf/Partition", "root", "(I)I"⟩ : MethodName)) hown (ow hw 27 rfl) (ow hw 23 rfl) (ow hw 25 rfl) (ow hw 24 rfl) (ow hw 8 rfl) (ow hw 26 rfl) (by decide) Hr3.1 (W := 0) (own_c5 l Z a0 hw b30 ap3 n3 (R3 px) Pr3 R3 d3 T60.heap n0 Hr3 Ir3 rr) rfl rfl rfl (by decide) (by decide) (g := (mkF m 253 #[.val (.int w0), .val (.int w1), .val (.int w2), .val (.int (Int32.ofNat u0)), .val (.int (Int32.ofNat v0)), .val (.int (Int32.ofNat u1)), .val (.int (Int32.ofNat v1)), .val (.int (Int32.ofNat u2)), .val (.int (Int32.ofNat v2)), .val (.int (Int32.ofNat px)), .val (.int (Int32.ofNat py)), .val (.int y), .val (.ref b2), .val (.ref b30), .val (.int (Int32.ofNat (R3 px))), .val (.int (Int32.ofNat (R3 py)))] [(.int (Int32.ofNat (R3 px))), (.ref b30)])) rfl (by rw [hml]; rfl) (argsL := [(.int (Int32.ofNat (R3 px)))]) (rest := []) (lenOf own_pd1 rfl) rfl (Nat.le_of_eq rfl) (hb hby at_253) rfl (by decide) (by decide)
    obtain ⟨rfl, ⟨Pr4, Hr4, Ir4⟩, Kr4, Nr4⟩ := hQ64
    refine Gd.go (fun _ w_k => st64 _ w_k) ?_
    show Gd _ _ _ _ (T64.setTop (mkF m 256 #[.val (.int w0), .val (.int w1), .val (.int w2), .val (.int (Int32.ofNat u0)), .val (.int (Int32.ofNat v0)), .val (.int (Int32.ofNat u1)), .val (.int (Int32.ofNat v1)), .val (.int (Int32.ofNat u2)), .val (.int (Int32.ofNat v2)), .val (.int (Int32.ofNat px)), .val (.int (Int32.ofNat py)), .val (.int y), .val (.ref b2), .val (.ref b30), .val (.int (Int32.ofNat (R3 px))), .val (.int (Int32.ofNat (R3 py)))] [(.int (Int32.ofNat (R3 (R3 px))))]))
    have xF65 := xF61.keep Kr4 (ninS nl3 nin0)
    have xZs66 := Nat.le_trans xZs62 Kr4.1
    have xN67 := Fr.app xN63 Nr4
    refine Gd.go (fun _ w_k => XS.iload X64.here hx rfl (hb hby at_256) rfl (XS.icmpYes X64.here hx rfl (pc0 := 258) (pc' := 263) rfl (hb hby at_258) rfl (teq (by rw [rq])).1 (by decide) (by decide) w_k)) ?_
    show Gd _ _ _ _ (T64.setTop (mkF m 263 #[.val (.int w0), .val (.int w1), .val (.int w2), .val (.int (Int32.ofNat u0)), .val (.int (Int32.ofNat v0)), .val (.int (Int32.ofNat u1)), .val (.int (Int32.ofNat v1)), .val (.int (Int32.ofNat u2)), .val (.int (Int32.ofNat v2)), .val (.int (Int32.ofNat px)), .val (.int (Int32.ofNat py)), .val (.int y), .val (.ref b2), .val (.ref b30), .val (.int (Int32.ofNat (R3 px))), .val (.int (Int32.ofNat (R3 py)))] []))
    refine Gd.go (fun _ w_k => XS.aload X64.here hx rfl (hb hby at_263) rfl rfl (XS.iload X64.here hx rfl (hb hby at_265) rfl w_k)) ?_
    show Gd _ _ _ _ (T64.setTop (mkF m 267 #[.val (.int w0), .val (.int w1), .val (.int w2), .val (.int (Int32.ofNat u0)), .val (.int (Int32.ofNat v0)), .val (.int (Int32.ofNat u1)), .val (.int (Int32.ofNat v1)), .val (.int (Int32.ofNat u2)), .val (.int (Int32.ofNat v2)), .val (.int (Int32.ofNat px)), .val (.int (Int32.ofNat py)), .val (.int y), .val (.ref b2), .val (.ref b30), .val (.int (Int32.ofNat (R3 px))), .val (.int (Int32.ofNat (R3 py)))] [(.int y), (.ref b30)]))
    obtain ⟨T68, X68, e68, st68⟩ := own_callVP X64 hx hZ (C := "com/example/quiddity/quiddity/rdf/Partition") (y := (⟨"com/example/quiddity/quiddity/rdf/Partition", "root", "(I)I"⟩ : MethodName)) hown (ow hw 27 rfl) (ow hw 23 rfl) (ow hw 25 rfl) (ow hw 24 rfl) (ow hw 8 rfl) (ow hw 26 rfl) (by decide) Hr4.1 (W := 0) (own_c5b l Z a0 hw b30 ap3 n3 Pr4 R3 d3 y T64.heap n0 Hr4 Ir4 hy) rfl rfl rfl (by decide) (by decide) (g := (mkF m 267 #[.val (.int w0), .val (.int w1), .val (.int w2), .val (.int (Int32.ofNat u0)), .val (.int (Int32.ofNat v0)), .val (.int (Int32.ofNat u1)), .val (.int (Int32.ofNat v1)), .val (.int (Int32.ofNat u2)), .val (.int (Int32.ofNat v2)), .val (.int (Int32.ofNat px)), .val (.int (Int32.ofNat py)), .val (.int y), .val (.ref b2), .val (.ref b30), .val (.int (Int32.ofNat (R3 px))), .val (.int (Int32.ofNat (R3 py)))] [(.int y), (.ref b30)])) rfl (by rw [hml]; rfl) (argsL := [(.int y)]) (rest := []) (lenOf own_pd1 rfl) rfl (Nat.le_of_eq rfl) (hb hby at_267) rfl
    refine Gd.go (fun _ w_k => st68 _ (XS.iload X68.here hx rfl (hb hby at_270) rfl (XS.icmpNo X68.here hx rfl (hb hby at_272) rfl (teq rfl).2 w_k))) ?_
    show Gd _ _ _ _ (T68.setTop (mkF m 275 #[.val (.int w0), .val (.int w1), .val (.int w2), .val (.int (Int32.ofNat u0)), .val (.int (Int32.ofNat v0)), .val (.int (Int32.ofNat u1)), .val (.int (Int32.ofNat v1)), .val (.int (Int32.ofNat u2)), .val (.int (Int32.ofNat v2)), .val (.int (Int32.ofNat px)), .val (.int (Int32.ofNat py)), .val (.int y), .val (.ref b2), .val (.ref b30), .val (.int (Int32.ofNat (R3 px))), .val (.int (Int32.ofNat (R3 py)))] []))
    refine Gd.go (fun _ w_k => XS.iconst X68.here hx rfl (hb hby at_275) (XS.goto X68.here hx rfl (pc0 := 276) (pc' := 280) rfl (hb hby at_276) (by decide) (by decide) w_k)) ?_
    show Gd _ _ _ _ (T68.setTop (mkF m 280 #[.val (.int w0), .val (.int w1), .val (.int w2), .val (.int (Int32.ofNat u0)), .val (.int (Int32.ofNat v0)), .val (.int (Int32.ofNat u1)), .val (.int (Int32.ofNat v1)), .val (.int (Int32.ofNat u2)), .val (.int (Int32.ofNat v2)), .val (.int (Int32.ofNat px)), .val (.int (Int32.ofNat py)), .val (.int y), .val (.ref b2), .val (.ref b30), .val (.int (Int32.ofNat (R3 px))), .val (.int (Int32.ofNat (R3 py)))] [(.int (1 : Int32))]))
    refine own_retN (t := .boolean) X68 hx hret hlk (by simp) (hb hby at_280) ?_ (by decide) (by decide)
    exact ⟨rfl, xN67⟩
  · refine Gd.go (fun _ w_k => XS.icmpYes X55.here hx rfl (pc0 := 204) (pc' := 211) rfl (hb hby at_204) rfl (feq hc59).2 (by decide) (by decide) w_k) ?_
    show Gd _ _ _ _ (T55.setTop (mkF m 211 #[.val (.int w0), .val (.int w1), .val (.int w2), .val (.int (Int32.ofNat u0)), .val (.int (Int32.ofNat v0)), .val (.int (Int32.ofNat u1)), .val (.int (Int32.ofNat v1)), .val (.int (Int32.ofNat u2)), .val (.int (Int32.ofNat v2)), .val (.int (Int32.ofNat px)), .val (.int (Int32.ofNat py)), .val (.int y), .val (.ref b2), .val (.ref b30), .val (.int (Int32.ofNat (R3 px))), .val (.int (Int32.ofNat (R3 py)))] []))
    refine Gd.go (fun _ w_k => XS.iconst X55.here hx rfl (hb hby at_211) (XS.aload X55.here hx rfl (hb hby at_212) rfl rfl (XS.iload X55.here hx rfl (hb hby at_214) rfl (own_ldI X55 hx hZ rfl xF56 (j := (Int32.ofNat px)) (by rw [own_ofN (by omega)]; omega) (by rw [own_ofN (by omega)]; omega) (v := (.int (Int32.ofNat (R3 px)))) (own_Ae (by omega)) (g := (mkF m 216 #[.val (.int w0), .val (.int w1), .val (.int w2), .val (.int (Int32.ofNat u0)), .val (.int (Int32.ofNat v0)), .val (.int (Int32.ofNat u1)), .val (.int (Int32.ofNat v1)), .val (.int (Int32.ofNat u2)), .val (.int (Int32.ofNat v2)), .val (.int (Int32.ofNat px)), .val (.int (Int32.ofNat py)), .val (.int y), .val (.ref b2), .val (.ref b30), .val (.int (Int32.ofNat (R3 px))), .val (.int (Int32.ofNat (R3 py)))] [(.int (Int32.ofNat px)), (.ref b2), (.int (0 : Int32))])) rfl rfl (hb hby at_216) _ (XS.aload X55.here hx rfl (hb hby at_217) rfl rfl (XS.iload X55.here hx rfl (hb hby at_219) rfl (own_ldI X55 hx hZ rfl xF56 (j := (Int32.ofNat py)) (by rw [own_ofN (by omega)]; omega) (by rw [own_ofN (by omega)]; omega) (v := (.int (Int32.ofNat (R3 py)))) (own_Ae (by omega)) (g := (mkF m 221 #[.val (.int w0), .val (.int w1), .val (.int w2), .val (.int (Int32.ofNat u0)), .val (.int (Int32.ofNat v0)), .val (.int (Int32.ofNat u1)), .val (.int (Int32.ofNat v1)), .val (.int (Int32.ofNat u2)), .val (.int (Int32.ofNat v2)), .val (.int (Int32.ofNat px)), .val (.int (Int32.ofNat py)), .val (.int y), .val (.ref b2), .val (.ref b30), .val (.int (Int32.ofNat (R3 px))), .val (.int (Int32.ofNat (R3 py)))] [(.int (Int32.ofNat py)), (.ref b2), (.int (Int32.ofNat (R3 px))), (.int (0 : Int32))])) rfl rfl (hb hby at_221) _ (XS.icmpYes X55.here hx rfl (pc0 := 222) (pc' := 229) rfl (hb hby at_222) rfl (feq hc59).2 (by decide) (by decide) w_k)))))))) ?_
    show Gd _ _ _ _ (T55.setTop (mkF m 229 #[.val (.int w0), .val (.int w1), .val (.int w2), .val (.int (Int32.ofNat u0)), .val (.int (Int32.ofNat v0)), .val (.int (Int32.ofNat u1)), .val (.int (Int32.ofNat v1)), .val (.int (Int32.ofNat u2)), .val (.int (Int32.ofNat v2)), .val (.int (Int32.ofNat px)), .val (.int (Int32.ofNat py)), .val (.int y), .val (.ref b2), .val (.ref b30), .val (.int (Int32.ofNat (R3 px))), .val (.int (Int32.ofNat (R3 py)))] [(.int (0 : Int32))]))
    refine Gd.go (fun _ w_k => XS.iconst X55.here hx rfl (hb hby at_229) (XS.icmpYes X55.here hx rfl (pc0 := 230) (pc' := 235) rfl (hb hby at_230) rfl (teq (by decide)).1 (by decide) (by decide) w_k)) ?_
    show Gd _ _ _ _ (T55.setTop (mkF m 235 #[.val (.int w0), .val (.int w1), .val (.int w2), .val (.int (Int32.ofNat u0)), .val (.int (Int32.ofNat v0)), .val (.int (Int32.ofNat u1)), .val (.int (Int32.ofNat v1)), .val (.int (Int32.ofNat u2)), .val (.int (Int32.ofNat v2)), .val (.int (Int32.ofNat px)), .val (.int (Int32.ofNat py)), .val (.int y), .val (.ref b2), .val (.ref b30), .val (.int (Int32.ofNat (R3 px))), .val (.int (Int32.ofNat (R3 py)))] []))
    refine Gd.go (fun _ w_k => XS.aload X55.here hx rfl (hb hby at_235) rfl rfl (XS.iload X55.here hx rfl (hb hby at_237) rfl w_k)) ?_
    show Gd _ _ _ _ (T55.setTop (mkF m 239 #[.val (.int w0), .val (.int w1), .val (.int w2), .val (.int (Int32.ofNat u0)), .val (.int (Int32.ofNat v0)), .val (.int (Int32.ofNat u1)), .val (.int (Int32.ofNat v1)), .val (.int (Int32.ofNat u2)), .val (.int (Int32.ofNat v2)), .val (.int (Int32.ofNat px)), .val (.int (Int32.ofNat py)), .val (.int y), .val (.ref b2), .val (.ref b30), .val (.int (Int32.ofNat (R3 px))), .val (.int (Int32.ofNat (R3 py)))] [(.int (Int32.ofNat px)), (.ref b30)]))
    obtain ⟨v69, T69, L69, X69, hQ69, st69⟩ := own_callV X55 hx hZ (C := "com/example/quiddity/quiddity/rdf/Partition") (y := (⟨"com/example/quiddity/quiddity/rdf/Partition", "root", "(I)I"⟩ : MethodName)) hown (ow hw 27 rfl) (ow hw 23 rfl) (ow hw 25 rfl) (ow hw 24 rfl) (ow hw 8 rfl) (ow hw 26 rfl) (by decide) Hr2.1 (W := 0) (own_c5 l Z a0 hw b30 ap3 n3 px Pr2 R3 d3 T55.heap n0 Hr2 Ir2 hpx) rfl rfl rfl (by decide) (by decide) (g := (mkF m 239 #[.val (.int w0), .val (.int w1), .val (.int w2), .val (.int (Int32.ofNat u0)), .val (.int (Int32.ofNat v0)), .val (.int (Int32.ofNat u1)), .val (.int (Int32.ofNat v1)), .val (.int (Int32.ofNat u2)), .val (.int (Int32.ofNat v2)), .val (.int (Int32.ofNat px)), .val (.int (Int32.ofNat py)), .val (.int y), .val (.ref b2), .val (.ref b30), .val (.int (Int32.ofNat (R3 px))), .val (.int (Int32.ofNat (R3 py)))] [(.int (Int32.ofNat px)), (.ref b30)])) rfl (by rw [hml]; rfl) (argsL := [(.int (Int32.ofNat px))]) (rest := []) (lenOf own_pd1 rfl) rfl (Nat.le_of_eq rfl) (hb hby at_239) rfl (by decide) (by decide)
    obtain ⟨rfl, ⟨Pr5, Hr5, Ir5⟩, Kr5, Nr5⟩ := hQ69
    refine Gd.go (fun _ w_k => st69 _ w_k) ?_
    show Gd _ _ _ _ (T69.setTop (mkF m 242 #[.val (.int w0), .val (.int w1), .val (.int w2), .val (.int (Int32.ofNat u0)), .val (.int (Int32.ofNat v0)), .val (.int (Int32.ofNat u1)), .val (.int (Int32.ofNat v1)), .val (.int (Int32.ofNat u2)), .val (.int (Int32.ofNat v2)), .val (.int (Int32.ofNat px)), .val (.int (Int32.ofNat py)), .val (.int y), .val (.ref b2), .val (.ref b30), .val (.int (Int32.ofNat (R3 px))), .val (.int (Int32.ofNat (R3 py)))] [(.int (Int32.ofNat (R3 px)))]))
    have xF70 := xF56.keep Kr5 (ninS nl3 nin0)
    have xZs71 := Nat.le_trans xZs57 Kr5.1
    have xN72 := Fr.app xN58 Nr5
    refine Gd.go (fun _ w_k => XS.iload X69.here hx rfl (hb hby at_242) rfl (XS.icmpYes X69.here hx rfl (pc0 := 244) (pc' := 249) rfl (hb hby at_244) rfl (teq rfl).1 (by decide) (by decide) w_k)) ?_
    show Gd _ _ _ _ (T69.setTop (mkF m 249 #[.val (.int w0), .val (.int w1), .val (.int w2), .val (.int (Int32.ofNat u0)), .val (.int (Int32.ofNat v0)), .val (.int (Int32.ofNat u1)), .val (.int (Int32.ofNat v1)), .val (.int (Int32.ofNat u2)), .val (.int (Int32.ofNat v2)), .val (.int (Int32.ofNat px)), .val (.int (Int32.ofNat py)), .val (.int y), .val (.ref b2), .val (.ref b30), .val (.int (Int32.ofNat (R3 px))), .val (.int (Int32.ofNat (R3 py)))] []))
    refine Gd.go (fun _ w_k => XS.aload X69.here hx rfl (hb hby at_249) rfl rfl (XS.iload X69.here hx rfl (hb hby at_251) rfl w_k)) ?_
    show Gd _ _ _ _ (T69.setTop (mkF m 253 #[.val (.int w0), .val (.int w1), .val (.int w2), .val (.int (Int32.ofNat u0)), .val (.int (Int32.ofNat v0)), .val (.int (Int32.ofNat u1)), .val (.int (Int32.ofNat v1)), .val (.int (Int32.ofNat u2)), .val (.int (Int32.ofNat v2)), .val (.int (Int32.ofNat px)), .val (.int (Int32.ofNat py)), .val (.int y), .val (.ref b2), .val (.ref b30), .val (.int (Int32.ofNat (R3 px))), .val (.int (Int32.ofNat (R3 py)))] [(.int (Int32.ofNat (R3 px))), (.ref b30)]))
    obtain ⟨v73, T73, L73, X73, hQ73, st73⟩ := own_callV X69 hx hZ (C := "com/example/quiddity/quiddity/rdf/Partition") (y := (⟨"com/example/quiddity/quiddity/rdf/Partition", "root", "(I)I"⟩ : MethodName)) hown (ow hw 27 rfl) (ow hw 23 rfl) (ow hw 25 rfl) (ow hw 24 rfl) (ow hw 8 rfl) (ow hw 26 rfl) (by decide) Hr5.1 (W := 0) (own_c5 l Z a0 hw b30 ap3 n3 (R3 px) Pr5 R3 d3 T69.heap n0 Hr5 Ir5 rr) rfl rfl rfl (by decide) (by decide) (g := (mkF m 253 #[.val (.int w0), .val (.int w1), .val (.int w2), .val (.int (Int32.ofNat u0)), .val (.int (Int32.ofNat v0)), .val (.int (Int32.ofNat u1)), .val (.int (Int32.ofNat v1)), .val (.int (Int32.ofNat u2)), .val (.int (Int32.ofNat v2)), .val (.int (Int32.ofNat px)), .val (.int (Int32.ofNat py)), .val (.int y), .val (.ref b2), .val (.ref b30), .val (.int (Int32.ofNat (R3 px))), .val (.int (Int32.ofNat (R3 py)))] [(.int (Int32.ofNat (R3 px))), (.ref b30)])) rfl (by rw [hml]; rfl) (argsL := [(.int (Int32.ofNat (R3 px)))]) (rest := []) (lenOf own_pd1 rfl) rfl (Nat.le_of_eq rfl) (hb hby at_253) rfl (by decide) (by decide)
    obtain ⟨rfl, ⟨Pr6, Hr6, Ir6⟩, Kr6, Nr6⟩ := hQ73
    refine Gd.go (fun _ w_k => st73 _ w_k) ?_
    show Gd _ _ _ _ (T73.setTop (mkF m 256 #[.val (.int w0), .val (.int w1), .val (.int w2), .val (.int (Int32.ofNat u0)), .val (.int (Int32.ofNat v0)), .val (.int (Int32.ofNat u1)), .val (.int (Int32.ofNat v1)), .val (.int (Int32.ofNat u2)), .val (.int (Int32.ofNat v2)), .val (.int (Int32.ofNat px)), .val (.int (Int32.ofNat py)), .val (.int y), .val (.ref b2), .val (.ref b30), .val (.int (Int32.ofNat (R3 px))), .val (.int (Int32.ofNat (R3 py)))] [(.int (Int32.ofNat (R3 (R3 px))))]))
    have xF74 := xF70.keep Kr6 (ninS nl3 nin0)
    have xZs75 := Nat.le_trans xZs71 Kr6.1
    have xN76 := Fr.app xN72 Nr6
    refine Gd.go (fun _ w_k => XS.iload X73.here hx rfl (hb hby at_256) rfl (XS.icmpYes X73.here hx rfl (pc0 := 258) (pc' := 263) rfl (hb hby at_258) rfl (teq (by rw [rq])).1 (by decide) (by decide) w_k)) ?_
    show Gd _ _ _ _ (T73.setTop (mkF m 263 #[.val (.int w0), .val (.int w1), .val (.int w2), .val (.int (Int32.ofNat u0)), .val (.int (Int32.ofNat v0)), .val (.int (Int32.ofNat u1)), .val (.int (Int32.ofNat v1)), .val (.int (Int32.ofNat u2)), .val (.int (Int32.ofNat v2)), .val (.int (Int32.ofNat px)), .val (.int (Int32.ofNat py)), .val (.int y), .val (.ref b2), .val (.ref b30), .val (.int (Int32.ofNat (R3 px))), .val (.int (Int32.ofNat (R3 py)))] []))
    refine Gd.go (fun _ w_k => XS.aload X73.here hx rfl (hb hby at_263) rfl rfl (XS.iload X73.here hx rfl (hb hby at_265) rfl w_k)) ?_
    show Gd _ _ _ _ (T73.setTop (mkF m 267 #[.val (.int w0), .val (.int w1), .val (.int w2), .val (.int (Int32.ofNat u0)), .val (.int (Int32.ofNat v0)), .val (.int (Int32.ofNat u1)), .val (.int (Int32.ofNat v1)), .val (.int (Int32.ofNat u2)), .val (.int (Int32.ofNat v2)), .val (.int (Int32.ofNat px)), .val (.int (Int32.ofNat py)), .val (.int y), .val (.ref b2), .val (.ref b30), .val (.int (Int32.ofNat (R3 px))), .val (.int (Int32.ofNat (R3 py)))] [(.int y), (.ref b30)]))
    obtain ⟨T77, X77, e77, st77⟩ := own_callVP X73 hx hZ (C := "com/example/quiddity/quiddity/rdf/Partition") (y := (⟨"com/example/quiddity/quiddity/rdf/Partition", "root", "(I)I"⟩ : MethodName)) hown (ow hw 27 rfl) (ow hw 23 rfl) (ow hw 25 rfl) (ow hw 24 rfl) (ow hw 8 rfl) (ow hw 26 rfl) (by decide) Hr6.1 (W := 0) (own_c5b l Z a0 hw b30 ap3 n3 Pr6 R3 d3 y T73.heap n0 Hr6 Ir6 hy) rfl rfl rfl (by decide) (by decide) (g := (mkF m 267 #[.val (.int w0), .val (.int w1), .val (.int w2), .val (.int (Int32.ofNat u0)), .val (.int (Int32.ofNat v0)), .val (.int (Int32.ofNat u1)), .val (.int (Int32.ofNat v1)), .val (.int (Int32.ofNat u2)), .val (.int (Int32.ofNat v2)), .val (.int (Int32.ofNat px)), .val (.int (Int32.ofNat py)), .val (.int y), .val (.ref b2), .val (.ref b30), .val (.int (Int32.ofNat (R3 px))), .val (.int (Int32.ofNat (R3 py)))] [(.int y), (.ref b30)])) rfl (by rw [hml]; rfl) (argsL := [(.int y)]) (rest := []) (lenOf own_pd1 rfl) rfl (Nat.le_of_eq rfl) (hb hby at_267) rfl
    refine Gd.go (fun _ w_k => st77 _ (XS.iload X77.here hx rfl (hb hby at_270) rfl (XS.icmpNo X77.here hx rfl (hb hby at_272) rfl (teq rfl).2 w_k))) ?_
    show Gd _ _ _ _ (T77.setTop (mkF m 275 #[.val (.int w0), .val (.int w1), .val (.int w2), .val (.int (Int32.ofNat u0)), .val (.int (Int32.ofNat v0)), .val (.int (Int32.ofNat u1)), .val (.int (Int32.ofNat v1)), .val (.int (Int32.ofNat u2)), .val (.int (Int32.ofNat v2)), .val (.int (Int32.ofNat px)), .val (.int (Int32.ofNat py)), .val (.int y), .val (.ref b2), .val (.ref b30), .val (.int (Int32.ofNat (R3 px))), .val (.int (Int32.ofNat (R3 py)))] []))
    refine Gd.go (fun _ w_k => XS.iconst X77.here hx rfl (hb hby at_275) (XS.goto X77.here hx rfl (pc0 := 276) (pc' := 280) rfl (hb hby at_276) (by decide) (by decide) w_k)) ?_
    show Gd _ _ _ _ (T77.setTop (mkF m 280 #[.val (.int w0), .val (.int w1), .val (.int w2), .val (.int (Int32.ofNat u0)), .val (.int (Int32.ofNat v0)), .val (.int (Int32.ofNat u1)), .val (.int (Int32.ofNat v1)), .val (.int (Int32.ofNat u2)), .val (.int (Int32.ofNat v2)), .val (.int (Int32.ofNat px)), .val (.int (Int32.ofNat py)), .val (.int y), .val (.ref b2), .val (.ref b30), .val (.int (Int32.ofNat (R3 px))), .val (.int (Int32.ofNat (R3 py)))] [(.int (1 : Int32))]))
    refine own_retN (t := .boolean) X77 hx hret hlk (by simp) (hb hby at_280) ?_ (by decide) (by decide)
    exact ⟨rfl, xN76⟩
set_option maxRecDepth 65536 in
set_option maxHeartbeats 40000000 in
theorem comes_1 {Post : Tables → Env → Array Value → State → Outcome → State → Prop} (hpost : ∀ tb e args s v u, (limb_1_1.after args s (.returned v) u = true ∧ limb_1_2.after args s (.returned v) u = true ∧ True) → FrameEnd s (.returned v) u (Jvm.fieldLocs frame_1_writes args s ++ Jvm.arrayLocs frame_1_arrays args s ++ Jvm.staticLocs frame_1_statics s) 32 128 → Post tb e args s (.returned v) u) :
    ArmFor flags0 classFile x code maxLocals ret World_1 tables_1 room_1 Calls_1 rest_1 Pre_1 Post := by
  intro l hfl _ _ p e ha hc hk s m args below hf hA hF happ hP
  obtain ⟨hcalls, hrest, hpre⟩ := hP
  obtain ⟨-, -, -, hnamed, -, -, -, hat⟩ := (Spec.applies_iff hf).mp happ
  obtain ⟨hg, hn⟩ := and_e (Cond.before_iff.mp (show (Jvm.Cond.and given_1 narrow_1).before args s = true from hpre))
  obtain ⟨h1, g0⟩ := and_e hg
  obtain ⟨k0, g1⟩ := and_e g0
  obtain ⟨k1, g2⟩ := and_e g1
  obtain ⟨w0, w1, w2, rfl⟩ : ∃ w0 w1 w2 : Value, args = #[w0, w1, w2] := by
    have hs : args.size = 3 := by simpa [Cond.value, given_1] using h1
    obtain ⟨L⟩ := args
    match L, hs with
    | [w0, w1, w2], _ => exact ⟨w0, w1, w2, rfl⟩
  have hw := fun d (hd : d ∈ tables_1) => atoms_spec (ws := Jvm.Cond.code x code maxLocals ret :: tables_1) hat d (List.mem_cons_of_mem _ hd)
  have hfit : Fit s := fun {y c} hc i hi => by
    obtain ⟨ha, rfl⟩ := Array.getElem?_eq_some_iff.mp hc
    have q := List.all_eq_true.mp ((Array.all_eq_true_iff_forall_mem.mp hF) _ (Array.getElem_mem ha)) i (List.mem_range.mpr hi)
    simpa [Array.getElem?_eq_getElem hi] using q
  obtain ⟨i0, e0⟩ := is_v k0
  obtain rfl : w0 = (.int i0) := Option.some.inj e0
  obtain ⟨i1, e1⟩ := is_v k1
  obtain rfl : w1 = (.int i1) := Option.some.inj e1
  obtain ⟨i2, e2⟩ := is_v g2
  obtain rfl : w2 = (.int i2) := Option.some.inj e2
  obtain ⟨n, o, h1, h2, h3, _, L, rfl, ⟨rfl, N⟩, hq⟩ := own_law l s _ hw i0 i1 i2 s.heap s.heap.size (Nat.le_refl _) p e ha hc hk s m _ below hf ((Spec.applies_iff_loose hf).mp happ).1 ⟨rfl, State.Warmed39.refl s, rfl, State.WarmedH.refl s⟩ trivial
  refine ⟨n, _, h1, h2, h3, hpost _ _ _ _ _ _ ⟨Cond.after_iff.mpr rfl, Cond.after_iff.mpr (eq_i res_at (Term.int_eval (1)) rfl), trivial⟩ ⟨hq.1, hq.2.1, (hq.2.2.sift fun y hy => Or.inr (N y hy)).mono (by decide) (by decide)⟩⟩
theorem main_1_1 : Claimed_1_1 := comes_1 fun _ _ _ _ _ _ h hF => ⟨h.1, ⟨hF.1, hF.2.1.wide, hF.2.1.no_new_pair _, hF.2.2⟩⟩
theorem main_1_2 : Claimed_1_2 := comes_1 fun _ _ _ _ _ _ h hF => ⟨h.2.1, ⟨hF.1, hF.2.1.wide, hF.2.1.no_new_pair _, hF.2.2⟩⟩
end Jvm.Pilot.@@N@@
namespace Jvm.Pilot.@@N@@
open Jvm Jvm.ClassFile Sem Op Lib Jvm.Free Jvm.Stand Jvm.Pilot.@@N@@.Jvm.D
/-! MADE BY PROGRAM (witnessworld.py) out of the Statement's table words and the real class files: 15 classes; the members and pool entries that the words name. The judged class is class 1, her method 2. -/
namespace start1
open Jvm.ClassFile
def u (s : String) : CpInfo := .utf8 (stringToUtf16 s)
/-- a pool by its gaps: so many unusable entries, then the entry; so many at the end -/
def gap : Nat → List CpInfo → List CpInfo
  | 0, r => r
  | n + 1, r => .unusable :: gap n r
def poolList (es : List (Nat × CpInfo)) (last : Nat) : List CpInfo := es.foldr (fun e r => gap e.1 (e.2 :: r)) (gap last [])
def pool (es : List (Nat × CpInfo)) (last : Nat) : Array CpInfo := ⟨poolList es last⟩
def fileOf (pool : Array CpInfo) (this : Nat) (attrs : Array Attribute := #[]) (ms : Array MethodInfo := #[]) (fl : Nat := 33) (sup : Nat := 0) (ifs : Array Nat := #[]) (fds : Array FieldInfo := #[]) : ClassFile where
  minorVersion := 0
  majorVersion := 65
  constantPool := pool
  accessFlags := fl
  thisClass := this
  superClass := sup
  interfaces := ifs
  fields := fds
  methods := ms
  attributes := attrs
def plain (name : String) (sup : Option ClassId) : Class where
  name := name
  kind := .ordinary
  loader := none
  accessFlags := 33
  super := sup
  interfaces := #[]
  cf := none
  fields := #[]
  methods := #[]
  instanceTypes := #[]
  staticTypes := #[]
  resolved := #[]
  callSites := []
  init := .initialized
  statics := none
  mirror := none

def pool0 : Array CpInfo := pool [(5, u "<init>"), (0, u "()V"), (1, .class_ 10), (1, u "java/lang/Object")] 113

def k0c0 : Code := { maxStack := 0, maxLocals := 1, code := object_method_1_code, exceptionTable := #[], attributes := #[] }
def k0m0 : Method := { name := "<init>", desc := "()V", sig := { parameters := [], returnType := none }, accessFlags := 1, code := some k0c0 }
/-- java/lang/Object -/
def k0 : Class := { plain "java/lang/Object" none with
  accessFlags := 33
  interfaces := #[]
  cf := some (fileOf pool0 8 #[] #[{ accessFlags := 1, nameIndex := 5, descriptorIndex := 6, attributes := #[] }] 33 0 #[] #[])
  fields := #[]
  methods := #[k0m0]
  instanceTypes := #[]
  staticTypes := #[]
  resolved := Array.replicate 124 none
  statics := none }

def pool1 : Array CpInfo := pool [(2, .class_ 4), (0, .nameAndType 5 6), (0, u "java/lang/Object"), (0, u "<init>"), (0, u "()V"), (0, .integer 2147483647), (0, .methodref 9 10), (0, .class_ 11), (0, .nameAndType 12 13), (0, u "com/example/quiddity/quiddity/rdf/PartitionRootPinLaw"), (0, u "merge"), (0, u "([III)V"), (0, .class_ 15), (0, u "com/example/quiddity/quiddity/rdf/Partition"), (0, .methodref 14 3), (0, .methodref 14 18), (0, .nameAndType 19 20), (0, u "join"), (0, u "(II)V"), (0, .methodref 14 22), (0, .nameAndType 23 24), (0, u "root"), (0, u "(I)I"), (3, u "law"), (0, u "(III)Z")] 4

def k1m0 : Method := { name := "<init>", desc := "()V", sig := { parameters := [], returnType := none }, accessFlags := 2, code := none }
def k1c1 : Code := { maxStack := 3, maxLocals := 5, code := method_2_code, exceptionTable := #[], attributes := #[] }
def k1m1 : Method := { name := "merge", desc := "([III)V", sig := { parameters := [(.array .int), .int, .int], returnType := none }, accessFlags := 10, code := some k1c1 }
def k1c2 : Code := { maxStack := 4, maxLocals := 16, code := code, exceptionTable := #[], attributes := #[] }
def k1m2 : Method := { name := "law", desc := "(III)Z", sig := { parameters := [.int, .int, .int], returnType := some .boolean }, accessFlags := 9, code := some k1c2 }
/-- com/example/quiddity/quiddity/rdf/PartitionRootPinLaw -/
def k1 : Class := { plain "com/example/quiddity/quiddity/rdf/PartitionRootPinLaw" (some 0) with
  accessFlags := 49
  interfaces := #[]
  cf := some (fileOf pool1 9 #[] #[{ accessFlags := 2, nameIndex := 5, descriptorIndex := 6, attributes := #[] }, { accessFlags := 10, nameIndex := 12, descriptorIndex := 13, attributes := #[] }, { accessFlags := 9, nameIndex := 28, descriptorIndex := 29, attributes := #[] }] 49 2 #[] #[])
  fields := #[]
  methods := #[k1m0, k1m1, k1m2]
  instanceTypes := #[]
  staticTypes := #[]
  resolved := Array.replicate 34 none
  statics := none }

def pool2 : Array CpInfo := pool [(1, .methodref 2 3), (0, .class_ 4), (0, .nameAndType 5 6), (0, u "java/lang/Object"), (0, u "<init>"), (0, u "()V"), (0, .fieldref 8 9), (0, .class_ 10), (0, .nameAndType 11 12), (0, u "com/example/quiddity/quiddity/rdf/Partition"), (0, u "parent"), (0, u "[I"), (0, .methodref 8 14), (0, .nameAndType 15 16), (0, u "root"), (0, u "(I)I"), (0, .methodref 18 19), (0, .class_ 20), (0, .nameAndType 21 22), (0, u "java/lang/Math"), (0, u "max"), (0, u "(II)I"), (0, .methodref 24 25), (0, .class_ 26), (0, .nameAndType 27 28), (0, u "java/util/Arrays"), (0, u "copyOf"), (0, u "([II)[I"), (0, .invokeDynamic 0 30), (0, .nameAndType 31 32), (0, u "applyAsInt"), (0, u "(Lcom/example/quiddity/quiddity/rdf/Partition;I)Ljava/util/function/IntUnaryOperator;"), (0, .methodref 24 34), (0, .nameAndType 35 36), (0, u "setAll"), (0, u "([ILjava/util/function/IntUnaryOperator;)V"), (3, u "join"), (0, u "(II)V"), (0, u "lambda$join$0"), (3, .methodType 16), (0, .methodHandle 5 48), (0, .methodref 8 49), (0, .nameAndType 42 22), (0, .methodHandle 6 51), (0, .methodref 52 53), (0, .class_ 54), (0, .nameAndType 55 56), (0, u "java/lang/invoke/LambdaMetafactory"), (0, u "metafactory"), (0, u "(Ljava/lang/invoke/MethodHandles$Lookup;Ljava/lang/String;Ljava/lang/invoke/MethodType;Ljava/lang/invoke/MethodType;Ljava/lang/invoke/MethodHandle;Ljava/lang/invoke/MethodType;)Ljava/lang/invoke/CallSite;")] 6

def k2c0 : Code := { maxStack := 2, maxLocals := 1, code := prog_23_method_1_code, exceptionTable := #[], attributes := #[] }
def k2m0 : Method := { name := "<init>", desc := "()V", sig := { parameters := [], returnType := none }, accessFlags := 1, code := some k2c0 }
def k2c1 : Code := { maxStack := 3, maxLocals := 5, code := prog_23_method_2_code, exceptionTable := #[], attributes := #[] }
def k2m1 : Method := { name := "root", desc := "(I)I", sig := { parameters := [.int], returnType := some .int }, accessFlags := 1, code := some k2c1 }
def k2c2 : Code := { maxStack := 5, maxLocals := 6, code := prog_23_method_3_code, exceptionTable := #[], attributes := #[] }
def k2m2 : Method := { name := "join", desc := "(II)V", sig := { parameters := [.int, .int], returnType := none }, accessFlags := 1, code := some k2c2 }
def k2c3 : Code := { maxStack := 2, maxLocals := 3, code := prog_23_method_4_code, exceptionTable := #[], attributes := #[] }
def k2m3 : Method := { name := "lambda$join$0", desc := "(II)I", sig := { parameters := [.int, .int], returnType := some .int }, accessFlags := 4098, code := some k2c3 }
/-- com/example/quiddity/quiddity/rdf/Partition -/
def k2 : Class := { plain "com/example/quiddity/quiddity/rdf/Partition" (some 0) with
  accessFlags := 49
  interfaces := #[]
  cf := some (fileOf pool2 8 #[.bootstrapMethods #[⟨50, #[46, 47, 46]⟩]] #[{ accessFlags := 1, nameIndex := 5, descriptorIndex := 6, attributes := #[] }, { accessFlags := 1, nameIndex := 15, descriptorIndex := 16, attributes := #[] }, { accessFlags := 1, nameIndex := 40, descriptorIndex := 41, attributes := #[] }, { accessFlags := 4098, nameIndex := 42, descriptorIndex := 22, attributes := #[] }] 49 2 #[] #[{ accessFlags := 2, nameIndex := 11, descriptorIndex := 12, attributes := #[] }])
  fields := #[{ name := "parent", type := (.array .int), accessFlags := 2, slot := 0, constantValue := 0 }]
  methods := #[k2m0, k2m1, k2m2, k2m3]
  instanceTypes := #[(.array .int)]
  staticTypes := #[]
  resolved := Array.replicate 63 none
  callSites := [(2, 66, .makes 14)]
  statics := none }

def pool3 : Array CpInfo := pool [(1, .class_ 2), (0, u "java/lang/Math"), (1, .class_ 6), (1, u "java/lang/Object"), (0, u "<init>"), (0, u "()V"), (89, .class_ 100), (1, u "java/lang/Math$RandomNumberGeneratorHolder"), (71, u "negativeZeroFloatBits"), (0, u "J"), (2, u "negativeZeroDoubleBits"), (21, u "max"), (2, u "min"), (43, u "$assertionsDisabled"), (0, u "Z"), (88, u "(II)I"), (2, u "twoToTheDoubleScaleDown"), (0, u "D"), (4, u "twoToTheDoubleScaleUp"), (9, u "E"), (3, u "PI"), (2, u "TAU"), (2, u "DEGREES_TO_RADIANS"), (0, u "RADIANS_TO_DEGREES")] 94

def k3m0 : Method := { name := "<init>", desc := "()V", sig := { parameters := [], returnType := none }, accessFlags := 2, code := none }
def k3c1 : Code := { maxStack := 2, maxLocals := 2, code := jdk_29_method_65_code, exceptionTable := #[], attributes := #[] }
def k3m1 : Method := { name := "max", desc := "(II)I", sig := { parameters := [.int, .int], returnType := some .int }, accessFlags := 9, code := some k3c1 }
def k3c2 : Code := { maxStack := 2, maxLocals := 2, code := jdk_29_method_69_code, exceptionTable := #[], attributes := #[] }
def k3m2 : Method := { name := "min", desc := "(II)I", sig := { parameters := [.int, .int], returnType := some .int }, accessFlags := 9, code := some k3c2 }
/-- java/lang/Math -/
def k3 : Class := { plain "java/lang/Math" (some 0) with
  accessFlags := 49
  interfaces := #[]
  cf := some (fileOf pool3 1 #[.nestMembers #[98]] #[{ accessFlags := 2, nameIndex := 7, descriptorIndex := 8, attributes := #[] }, { accessFlags := 9, nameIndex := 198, descriptorIndex := 335, attributes := #[] }, { accessFlags := 9, nameIndex := 201, descriptorIndex := 335, attributes := #[] }] 49 4 #[] #[{ accessFlags := 25, nameIndex := 354, descriptorIndex := 339, attributes := #[] }, { accessFlags := 25, nameIndex := 358, descriptorIndex := 339, attributes := #[] }, { accessFlags := 25, nameIndex := 361, descriptorIndex := 339, attributes := #[] }, { accessFlags := 26, nameIndex := 364, descriptorIndex := 339, attributes := #[] }, { accessFlags := 26, nameIndex := 365, descriptorIndex := 339, attributes := #[] }, { accessFlags := 26, nameIndex := 172, descriptorIndex := 173, attributes := #[] }, { accessFlags := 26, nameIndex := 176, descriptorIndex := 173, attributes := #[] }, { accessFlags := 8, nameIndex := 344, descriptorIndex := 339, attributes := #[] }, { accessFlags := 8, nameIndex := 338, descriptorIndex := 339, attributes := #[] }, { accessFlags := 4120, nameIndex := 245, descriptorIndex := 246, attributes := #[] }])
  fields := #[{ name := "E", type := .double, accessFlags := 25, slot := 0, constantValue := 0 }, { name := "PI", type := .double, accessFlags := 25, slot := 1, constantValue := 0 }, { name := "TAU", type := .double, accessFlags := 25, slot := 2, constantValue := 0 }, { name := "DEGREES_TO_RADIANS", type := .double, accessFlags := 26, slot := 3, constantValue := 0 }, { name := "RADIANS_TO_DEGREES", type := .double, accessFlags := 26, slot := 4, constantValue := 0 }, { name := "negativeZeroFloatBits", type := .long, accessFlags := 26, slot := 5, constantValue := 0 }, { name := "negativeZeroDoubleBits", type := .long, accessFlags := 26, slot := 6, constantValue := 0 }, { name := "twoToTheDoubleScaleUp", type := .double, accessFlags := 8, slot := 7, constantValue := 0 }, { name := "twoToTheDoubleScaleDown", type := .double, accessFlags := 8, slot := 8, constantValue := 0 }, { name := "$assertionsDisabled", type := .boolean, accessFlags := 4120, slot := 9, constantValue := 0 }]
  methods := #[k3m0, k3m1, k3m2]
  instanceTypes := #[]
  staticTypes := #[.double, .double, .double, .double, .double, .long, .long, .double, .double, .boolean]
  resolved := Array.replicate 460 none
  statics := none }

def pool4 : Array CpInfo := pool [(2, .class_ 4), (1, u "java/lang/Object"), (0, u "<init>"), (0, u "()V"), (7, .class_ 16), (1, u "java/util/Arrays"), (57, .class_ 76), (1, u "java/util/Arrays$NaturalOrder"), (36, .class_ 115), (1, u "java/util/Arrays$LegacyMergeSort"), (1, u "Z"), (32, .methodref 151 152), (0, .class_ 153), (0, .nameAndType 154 155), (0, u "java/lang/System"), (0, u "arraycopy"), (0, u "(Ljava/lang/Object;ILjava/lang/Object;II)V"), (19, .methodref 176 177), (0, .class_ 178), (0, .nameAndType 179 180), (0, u "java/util/Objects"), (0, u "requireNonNull"), (0, u "(Ljava/lang/Object;)Ljava/lang/Object;"), (121, u "copyOf"), (1, .methodref 305 306), (0, .class_ 307), (0, .nameAndType 308 309), (0, u "java/lang/Math"), (0, u "min"), (0, u "(II)I"), (65, .class_ 376), (0, u "java/util/Arrays$ArrayList"), (68, u "$assertionsDisabled"), (136, .interfaceMethodref 583 584), (0, .class_ 585), (0, .nameAndType 586 587), (0, u "java/util/function/IntUnaryOperator"), (0, u "applyAsInt"), (0, u "(I)I"), (127, u "MIN_ARRAY_SORT_GRAN"), (0, u "I"), (2, u "INSERTIONSORT_THRESHOLD"), (151, u "([II)[I"), (35, u "setAll"), (6, u "([ILjava/util/function/IntUnaryOperator;)V"), (60, .class_ 976), (0, u "java/util/Arrays$ArrayItr")] 52

def k4m0 : Method := { name := "<init>", desc := "()V", sig := { parameters := [], returnType := none }, accessFlags := 2, code := none }
def k4c1 : Code := { maxStack := 6, maxLocals := 3, code := jdk_65_method_123_code, exceptionTable := #[], attributes := #[] }
def k4m1 : Method := { name := "copyOf", desc := "([II)[I", sig := { parameters := [(.array .int), .int], returnType := some (.array .int) }, accessFlags := 9, code := some k4c1 }
def k4c2 : Code := { maxStack := 4, maxLocals := 3, code := jdk_65_method_175_code, exceptionTable := #[], attributes := #[] }
def k4m2 : Method := { name := "setAll", desc := "([ILjava/util/function/IntUnaryOperator;)V", sig := { parameters := [(.array .int), (.object "java/util/function/IntUnaryOperator")], returnType := none }, accessFlags := 9, code := some k4c2 }
/-- java/util/Arrays -/
def k4 : Class := { plain "java/util/Arrays" (some 0) with
  accessFlags := 49
  interfaces := #[]
  cf := some (fileOf pool4 14 #[.nestMembers #[975, 375, 113, 74]] #[{ accessFlags := 2, nameIndex := 5, descriptorIndex := 6, attributes := #[] }, { accessFlags := 9, nameIndex := 302, descriptorIndex := 871, attributes := #[] }, { accessFlags := 9, nameIndex := 907, descriptorIndex := 914, attributes := #[] }] 49 2 #[] #[{ accessFlags := 26, nameIndex := 715, descriptorIndex := 716, attributes := #[] }, { accessFlags := 26, nameIndex := 719, descriptorIndex := 716, attributes := #[] }, { accessFlags := 4120, nameIndex := 445, descriptorIndex := 117, attributes := #[] }])
  fields := #[{ name := "MIN_ARRAY_SORT_GRAN", type := .int, accessFlags := 26, slot := 0, constantValue := 0 }, { name := "INSERTIONSORT_THRESHOLD", type := .int, accessFlags := 26, slot := 1, constantValue := 0 }, { name := "$assertionsDisabled", type := .boolean, accessFlags := 4120, slot := 2, constantValue := 0 }]
  methods := #[k4m0, k4m1, k4m2]
  instanceTypes := #[]
  staticTypes := #[.int, .int, .boolean]
  resolved := Array.replicate 1029 none
  statics := none }

def pool5 : Array CpInfo := pool [(2, .class_ 4), (1, u "java/lang/Object"), (0, u "<init>"), (0, u "()V"), (1, .class_ 10), (1, u "java/lang/System"), (0, u "allowSecurityManager"), (0, u "I"), (16, u "cons"), (0, u "Ljava/io/Console;"), (77, .class_ 110), (1, u "java/lang/System$CallersHolder"), (43, u "initialErrStream"), (0, u "Ljava/io/PrintStream;"), (19, u "security"), (0, u "Ljava/lang/SecurityManager;"), (31, .class_ 209), (0, u "java/lang/System$1"), (7, u "props"), (0, u "Ljava/util/Properties;"), (2, u "lineSeparator"), (0, u "Ljava/lang/String;"), (96, .class_ 321), (1, u "java/lang/System$LoggerFinder"), (5, .class_ 328), (0, u "java/lang/System$Logger"), (67, u "err"), (2, u "out"), (91, u "notSupportedJnuEncoding"), (15, u "in"), (17, u "initialIn"), (0, u "Ljava/io/InputStream;"), (35, u "bootLayer"), (0, u "Ljava/lang/ModuleLayer;"), (99, .class_ 664), (0, u "java/lang/System$2"), (9, u "NEVER"), (2, u "MAYBE"), (49, u "arraycopy"), (0, u "(Ljava/lang/Object;ILjava/lang/Object;II)V"), (72, .class_ 802), (0, u "java/lang/System$Logger$Level")] 31

def k5m0 : Method := { name := "<init>", desc := "()V", sig := { parameters := [], returnType := none }, accessFlags := 2, code := none }
def k5m1 : Method := { name := "arraycopy", desc := "(Ljava/lang/Object;ILjava/lang/Object;II)V", sig := { parameters := [(.object "java/lang/Object"), .int, (.object "java/lang/Object"), .int, .int], returnType := none }, accessFlags := 265, code := none }
/-- java/lang/System -/
def k5 : Class := { plain "java/lang/System" (some 0) with
  accessFlags := 49
  interfaces := #[]
  cf := some (fileOf pool5 8 #[.nestMembers #[319, 327, 801, 108, 663, 208]] #[{ accessFlags := 2, nameIndex := 5, descriptorIndex := 6, attributes := #[] }, { accessFlags := 265, nameIndex := 727, descriptorIndex := 728, attributes := #[] }] 49 2 #[] #[{ accessFlags := 25, nameIndex := 507, descriptorIndex := 526, attributes := #[] }, { accessFlags := 25, nameIndex := 399, descriptorIndex := 155, attributes := #[] }, { accessFlags := 25, nameIndex := 396, descriptorIndex := 155, attributes := #[] }, { accessFlags := 10, nameIndex := 525, descriptorIndex := 526, attributes := #[] }, { accessFlags := 26, nameIndex := 674, descriptorIndex := 12, attributes := #[] }, { accessFlags := 26, nameIndex := 677, descriptorIndex := 12, attributes := #[] }, { accessFlags := 10, nameIndex := 11, descriptorIndex := 12, attributes := #[] }, { accessFlags := 74, nameIndex := 175, descriptorIndex := 176, attributes := #[] }, { accessFlags := 10, nameIndex := 491, descriptorIndex := 222, attributes := #[] }, { accessFlags := 74, nameIndex := 29, descriptorIndex := 30, attributes := #[] }, { accessFlags := 74, nameIndex := 154, descriptorIndex := 155, attributes := #[] }, { accessFlags := 10, nameIndex := 217, descriptorIndex := 218, attributes := #[] }, { accessFlags := 10, nameIndex := 221, descriptorIndex := 222, attributes := #[] }, { accessFlags := 8, nameIndex := 562, descriptorIndex := 563, attributes := #[] }])
  fields := #[{ name := "in", type := (.object "java/io/InputStream"), accessFlags := 25, slot := 0, constantValue := 0 }, { name := "out", type := (.object "java/io/PrintStream"), accessFlags := 25, slot := 1, constantValue := 0 }, { name := "err", type := (.object "java/io/PrintStream"), accessFlags := 25, slot := 2, constantValue := 0 }, { name := "initialIn", type := (.object "java/io/InputStream"), accessFlags := 10, slot := 3, constantValue := 0 }, { name := "NEVER", type := .int, accessFlags := 26, slot := 4, constantValue := 0 }, { name := "MAYBE", type := .int, accessFlags := 26, slot := 5, constantValue := 0 }, { name := "allowSecurityManager", type := .int, accessFlags := 10, slot := 6, constantValue := 0 }, { name := "security", type := (.object "java/lang/SecurityManager"), accessFlags := 74, slot := 7, constantValue := 0 }, { name := "notSupportedJnuEncoding", type := (.object "java/lang/String"), accessFlags := 10, slot := 8, constantValue := 0 }, { name := "cons", type := (.object "java/io/Console"), accessFlags := 74, slot := 9, constantValue := 0 }, { name := "initialErrStream", type := (.object "java/io/PrintStream"), accessFlags := 74, slot := 10, constantValue := 0 }, { name := "props", type := (.object "java/util/Properties"), accessFlags := 10, slot := 11, constantValue := 0 }, { name := "lineSeparator", type := (.object "java/lang/String"), accessFlags := 10, slot := 12, constantValue := 0 }, { name := "bootLayer", type := (.object "java/lang/ModuleLayer"), accessFlags := 8, slot := 13, constantValue := 0 }]
  methods := #[k5m0, k5m1]
  instanceTypes := #[]
  staticTypes := #[(.object "java/io/InputStream"), (.object "java/io/PrintStream"), (.object "java/io/PrintStream"), (.object "java/io/InputStream"), .int, .int, .int, (.object "java/lang/SecurityManager"), (.object "java/lang/String"), (.object "java/io/Console"), (.object "java/io/PrintStream"), (.object "java/util/Properties"), (.object "java/lang/String"), (.object "java/lang/ModuleLayer")]
  resolved := Array.replicate 834 none
  statics := none }

def pool6 : Array CpInfo := pool [(9, u "applyAsInt"), (6, .class_ 18), (1, u "java/util/function/IntUnaryOperator"), (0, u "(I)I"), (0, .class_ 21), (0, u "java/lang/Object")] 46

def k6m0 : Method := { name := "applyAsInt", desc := "(I)I", sig := { parameters := [.int], returnType := some .int }, accessFlags := 1025, code := none }
/-- java/util/function/IntUnaryOperator -/
def k6 : Class := { plain "java/util/function/IntUnaryOperator" (some 0) with
  accessFlags := 1537
  interfaces := #[]
  cf := some (fileOf pool6 16 #[] #[{ accessFlags := 1025, nameIndex := 9, descriptorIndex := 19, attributes := #[] }] 1537 20 #[] #[])
  fields := #[]
  methods := #[k6m0]
  instanceTypes := #[]
  staticTypes := #[]
  resolved := Array.replicate 68 none
  statics := none }

def pool7 : Array CpInfo := pool [(2, .class_ 4), (1, u "java/lang/Object"), (0, u "<init>"), (0, u "()V"), (35, .class_ 44), (1, u "java/util/Objects"), (0, u "requireNonNull"), (0, u "(Ljava/lang/Object;)Ljava/lang/Object;")] 137

def k7m0 : Method := { name := "<init>", desc := "()V", sig := { parameters := [], returnType := none }, accessFlags := 2, code := none }
def k7c1 : Code := { maxStack := 2, maxLocals := 1, code := jdk_31_method_10_code, exceptionTable := #[], attributes := #[] }
def k7m1 : Method := { name := "requireNonNull", desc := "(Ljava/lang/Object;)Ljava/lang/Object;", sig := { parameters := [(.object "java/lang/Object")], returnType := some (.object "java/lang/Object") }, accessFlags := 9, code := some k7c1 }
/-- java/util/Objects -/
def k7 : Class := { plain "java/util/Objects" (some 0) with
  accessFlags := 49
  interfaces := #[]
  cf := some (fileOf pool7 42 #[] #[{ accessFlags := 2, nameIndex := 5, descriptorIndex := 6, attributes := #[] }, { accessFlags := 9, nameIndex := 45, descriptorIndex := 46, attributes := #[] }] 49 2 #[] #[])
  fields := #[]
  methods := #[k7m0, k7m1]
  instanceTypes := #[]
  staticTypes := #[]
  resolved := Array.replicate 184 none
  statics := none }

def pool8 : Array CpInfo := pool [(1, u "java/lang/Cloneable"), (0, .class_ 1), (0, u "java/lang/Object"), (0, .class_ 3)] 3

/-- java/lang/Cloneable -/
def k8 : Class := { plain "java/lang/Cloneable" (some 0) with
  accessFlags := 1537
  interfaces := #[]
  cf := some (fileOf pool8 2 #[] #[] 1537 4 #[] #[])
  fields := #[]
  methods := #[]
  instanceTypes := #[]
  staticTypes := #[]
  resolved := Array.replicate 8 none
  statics := none }

def pool9 : Array CpInfo := pool [(1, u "java/io/Serializable"), (0, .class_ 1), (0, u "java/lang/Object"), (0, .class_ 3)] 3

/-- java/io/Serializable -/
def k9 : Class := { plain "java/io/Serializable" (some 0) with
  accessFlags := 1537
  interfaces := #[]
  cf := some (fileOf pool9 2 #[] #[] 1537 4 #[] #[])
  fields := #[]
  methods := #[]
  instanceTypes := #[]
  staticTypes := #[]
  resolved := Array.replicate 8 none
  statics := none }

/-- the primitive byte -/
def k10 : Class := { plain "byte" none with kind := .primitive 'B', accessFlags := 0x411 }
/-- [B -/
def k11 : Class := { plain "[B" (some 0) with kind := .array 10 .byte, interfaces := #[8, 9], accessFlags := 1041 }

/-- the primitive int -/
def k12 : Class := { plain "int" none with kind := .primitive 'I', accessFlags := 0x411 }
/-- [I -/
def k13 : Class := { plain "[I" (some 0) with kind := .array 12 .int, interfaces := #[8, 9], accessFlags := 1041 }

def classes0 : Array Class := #[k0, k1, k2, k3, k4, k5, k6, k7, k8, k9, k10, k11, k12, k13]
/-- the class that the rule has made for the site at 66 of com/example/quiddity/quiddity/rdf/Partition.join -/
def k14 : Class := Jvm.LamKit.madeRec { classes := classes0 } "com/example/quiddity/quiddity/rdf/Partition" (Jvm.Lambda.Shape.mk "java/util/function/IntUnaryOperator" "applyAsInt" (Jvm.ClassFile.MethodDescriptor.mk ([Jvm.ClassFile.FieldType.int] : List Jvm.ClassFile.FieldType) (Option.some Jvm.ClassFile.FieldType.int)) ([(Jvm.ClassFile.FieldType.object "com/example/quiddity/quiddity/rdf/Partition"), Jvm.ClassFile.FieldType.int] : List Jvm.ClassFile.FieldType) (5 : Nat) "com/example/quiddity/quiddity/rdf/Partition" "lambda$join$0" (Jvm.ClassFile.MethodDescriptor.mk ([Jvm.ClassFile.FieldType.int, Jvm.ClassFile.FieldType.int] : List Jvm.ClassFile.FieldType) (Option.some Jvm.ClassFile.FieldType.int)) false (Jvm.ClassFile.MethodDescriptor.mk ([Jvm.ClassFile.FieldType.int] : List Jvm.ClassFile.FieldType) (Option.some Jvm.ClassFile.FieldType.int))) 14

def heap : Heap := #[]
def classes : Array Class := #[k0, k1, k2, k3, k4, k5, k6, k7, k8, k9, k10, k11, k12, k13, k14]
def interned : List (Array UInt16 × Addr) := []
def slotsUsed : Nat := 0
def theMethod : MethodId := ⟨1, 2⟩
def args0 : Array Value := #[.int 0, .int 0, .int 7]
def aboutOver (below : List Frame) : State where
  vm := { classes := classes, interned := interned.toArray }
  heap := heap
  slotsUsed := slotsUsed
  threads := #[{ frames := .invoking theMethod args0 :: below }]
def below0 : List Frame := [.native { method := ⟨0, 0⟩, args := #[] }]
def about1 : State := aboutOver below0
def p0 : Program := .bare "" "" ""
def e0 : Env := launch0.env 0 0 0
theorem w_frames : about1.frames = Frame.invoking theMethod args0 :: below0 := rfl
set_option maxRecDepth 65536 in
theorem w_args : argsFit about1.vm theMethod args0 = true := by decide +kernel
set_option maxRecDepth 65536 in
theorem w_heap : heapFits about1 = true := by decide +kernel
set_option maxRecDepth 65536 in
theorem w_runnable : about1.curStatus? = some .runnable := by decide +kernel
set_option maxRecDepth 65536 in
theorem w_alone : about1.alone = true := by decide +kernel
set_option maxRecDepth 65536 in
theorem w_named : about1.methodNamed? x = some theMethod := by decide +kernel
set_option maxRecDepth 65536 in
theorem w_hears : about1.hears theMethod below0 = true := by decide +kernel
set_option maxRecDepth 65536 in
theorem w_ripe : about1.ripe theMethod args0 below0 = true := by decide +kernel
theorem w_running : about1.status = .running := rfl
set_option maxRecDepth 65536 in
theorem w_room : about1.hasRoom e0.platform room_1 = true :=
  launch0.hasRoom_least _ room_1 (by decide +kernel) (by decide +kernel) (by decide +kernel) (by decide +kernel) (by decide +kernel) (by decide +kernel)
theorem allAtoms_all (ts : List Jvm.Cond) (a : Array Jvm.Value) (st : Jvm.State) : (allAtoms ts).before a st = ts.all (fun c => c.before a st) := by
  induction ts with
  | nil => rfl
  | cons c t ih =>
    show (Jvm.Cond.and c (allAtoms t)).before a st = _
    rw [Jvm.Cond.before_and, ih, List.all_cons]
def words1 : List Jvm.Cond := Jvm.Cond.code x code maxLocals ret :: tables_1
/-- a 'code' word, met by the world's own term for the bytes: nothing is compared byte by byte -/
theorem code_word {y : MethodName} {bytes : ByteArray} {mx : Nat} {rt : Option FieldType} {a : Array Value} {s : State} {m : MethodId} {meth : Method} {c : Code} (h1 : s.methodNamed? y = some m) (h2 : s.vm.method? m = some meth) (h3 : meth.code = some c) (h4 : c.code = bytes)
    (h5 : (c.maxLocals == mx && c.exceptionTable.isEmpty && decide (c.maxStack ≤ mostOperands) && decide (meth.sig.returnType = rt) && !meth.locks && decide (parseMethodDescriptor y.desc = some meth.sig)) = true) : (Jvm.Cond.code y bytes mx rt).before a s = true := by
  simp only [Bool.and_eq_true, beq_iff_eq, Bool.not_eq_true', decide_eq_true_eq] at h5
  obtain ⟨⟨⟨⟨⟨g1, g2⟩, g3⟩, g4⟩, g5⟩, g6⟩ := h5
  simp [Cond.before, Cond.holds, Cond.value, h1, h2, h3, h4, g1, g2, g3, g4, g5, g6]
def isCode : Jvm.Cond → Bool
  | .code _ _ _ _ => true
  | _ => false
theorem all_split {L : List Jvm.Cond} {P : Jvm.Cond → Bool} (h1 : L.all (fun c => isCode c || P c) = true) (h2 : ∀ c ∈ L.filter isCode, P c = true) : L.all P = true := by
  refine List.all_eq_true.mpr fun c hc => ?_
  have h := List.all_eq_true.mp h1 c hc
  rcases Bool.eq_false_or_eq_true (isCode c) with hi | hi
  · exact h2 c (List.mem_filter.mpr ⟨hc, hi⟩)
  · simpa [hi] using h
set_option maxRecDepth 65536 in
theorem w_c0 : (Jvm.Cond.code x code maxLocals ret).before args0 about1 = true := code_word (m := ⟨1, 2⟩) (meth := k1m2) (c := k1c2) (by decide +kernel) rfl rfl rfl (by decide +kernel)
set_option maxRecDepth 65536 in
theorem w_c1 : (Jvm.Cond.code ({ cls := "com/example/quiddity/quiddity/rdf/PartitionRootPinLaw", name := "merge", desc := "([III)V" } : Jvm.MethodName) method_2_code (5 : Nat) (Option.none : Option Jvm.ClassFile.FieldType)).before args0 about1 = true := code_word (m := ⟨1, 1⟩) (meth := k1m1) (c := k1c1) (by decide +kernel) rfl rfl rfl (by decide +kernel)
set_option maxRecDepth 65536 in
theorem w_c2 : (Jvm.Cond.code ({ cls := "com/example/quiddity/quiddity/rdf/Partition", name := "<init>", desc := "()V" } : Jvm.MethodName) prog_23_method_1_code (1 : Nat) (Option.none : Option Jvm.ClassFile.FieldType)).before args0 about1 = true := code_word (m := ⟨2, 0⟩) (meth := k2m0) (c := k2c0) (by decide +kernel) rfl rfl rfl (by decide +kernel)
set_option maxRecDepth 65536 in
theorem w_c3 : (Jvm.Cond.code ({ cls := "java/lang/Object", name := "<init>", desc := "()V" } : Jvm.MethodName) object_method_1_code (1 : Nat) (Option.none : Option Jvm.ClassFile.FieldType)).before args0 about1 = true := code_word (m := ⟨0, 0⟩) (meth := k0m0) (c := k0c0) (by decide +kernel) rfl rfl rfl (by decide +kernel)
set_option maxRecDepth 65536 in
theorem w_c4 : (Jvm.Cond.code ({ cls := "com/example/quiddity/quiddity/rdf/Partition", name := "join", desc := "(II)V" } : Jvm.MethodName) prog_23_method_3_code (6 : Nat) (Option.none : Option Jvm.ClassFile.FieldType)).before args0 about1 = true := code_word (m := ⟨2, 2⟩) (meth := k2m2) (c := k2c2) (by decide +kernel) rfl rfl rfl (by decide +kernel)
set_option maxRecDepth 65536 in
theorem w_c5 : (Jvm.Cond.code ({ cls := "com/example/quiddity/quiddity/rdf/Partition", name := "root", desc := "(I)I" } : Jvm.MethodName) prog_23_method_2_code (5 : Nat) (Option.some Jvm.ClassFile.FieldType.int)).before args0 about1 = true := code_word (m := ⟨2, 1⟩) (meth := k2m1) (c := k2c1) (by decide +kernel) rfl rfl rfl (by decide +kernel)
set_option maxRecDepth 65536 in
theorem w_c6 : (Jvm.Cond.code ({ cls := "java/lang/Math", name := "max", desc := "(II)I" } : Jvm.MethodName) jdk_29_method_65_code (2 : Nat) (Option.some Jvm.ClassFile.FieldType.int)).before args0 about1 = true := code_word (m := ⟨3, 1⟩) (meth := k3m1) (c := k3c1) (by decide +kernel) rfl rfl rfl (by decide +kernel)
set_option maxRecDepth 65536 in
theorem w_c7 : (Jvm.Cond.code ({ cls := "java/util/Arrays", name := "copyOf", desc := "([II)[I" } : Jvm.MethodName) jdk_65_method_123_code (3 : Nat) (Option.some (Jvm.ClassFile.FieldType.array Jvm.ClassFile.FieldType.int))).before args0 about1 = true := code_word (m := ⟨4, 1⟩) (meth := k4m1) (c := k4c1) (by decide +kernel) rfl rfl rfl (by decide +kernel)
set_option maxRecDepth 65536 in
theorem w_c8 : (Jvm.Cond.code ({ cls := "java/lang/Math", name := "min", desc := "(II)I" } : Jvm.MethodName) jdk_29_method_69_code (2 : Nat) (Option.some Jvm.ClassFile.FieldType.int)).before args0 about1 = true := code_word (m := ⟨3, 2⟩) (meth := k3m2) (c := k3c2) (by decide +kernel) rfl rfl rfl (by decide +kernel)
set_option maxRecDepth 65536 in
theorem w_c9 : (Jvm.Cond.code ({ cls := "java/util/Arrays", name := "setAll", desc := "([ILjava/util/function/IntUnaryOperator;)V" } : Jvm.MethodName) jdk_65_method_175_code (3 : Nat) (Option.none : Option Jvm.ClassFile.FieldType)).before args0 about1 = true := code_word (m := ⟨4, 2⟩) (meth := k4m2) (c := k4c2) (by decide +kernel) rfl rfl rfl (by decide +kernel)
set_option maxRecDepth 65536 in
theorem w_c10 : (Jvm.Cond.code ({ cls := "java/util/Objects", name := "requireNonNull", desc := "(Ljava/lang/Object;)Ljava/lang/Object;" } : Jvm.MethodName) jdk_31_method_10_code (1 : Nat) (Option.some (Jvm.ClassFile.FieldType.object "java/lang/Object"))).before args0 about1 = true := code_word (m := ⟨7, 1⟩) (meth := k7m1) (c := k7c1) (by decide +kernel) rfl rfl rfl (by decide +kernel)
set_option maxRecDepth 65536 in
theorem w_c11 : (Jvm.Cond.code ({ cls := "com/example/quiddity/quiddity/rdf/Partition", name := "lambda$join$0", desc := "(II)I" } : Jvm.MethodName) prog_23_method_4_code (3 : Nat) (Option.some Jvm.ClassFile.FieldType.int)).before args0 about1 = true := code_word (m := ⟨2, 3⟩) (meth := k2m3) (c := k2c3) (by decide +kernel) rfl rfl rfl (by decide +kernel)
def codes1 : List Jvm.Cond := [Jvm.Cond.code x code maxLocals ret, Jvm.Cond.code ({ cls := "com/example/quiddity/quiddity/rdf/PartitionRootPinLaw", name := "merge", desc := "([III)V" } : Jvm.MethodName) method_2_code (5 : Nat) (Option.none : Option Jvm.ClassFile.FieldType), Jvm.Cond.code ({ cls := "com/example/quiddity/quiddity/rdf/Partition", name := "<init>", desc := "()V" } : Jvm.MethodName) prog_23_method_1_code (1 : Nat) (Option.none : Option Jvm.ClassFile.FieldType), Jvm.Cond.code ({ cls := "java/lang/Object", name := "<init>", desc := "()V" } : Jvm.MethodName) object_method_1_code (1 : Nat) (Option.none : Option Jvm.ClassFile.FieldType), Jvm.Cond.code ({ cls := "com/example/quiddity/quiddity/rdf/Partition", name := "join", desc := "(II)V" } : Jvm.MethodName) prog_23_method_3_code (6 : Nat) (Option.none : Option Jvm.ClassFile.FieldType), Jvm.Cond.code ({ cls := "com/example/quiddity/quiddity/rdf/Partition", name := "root", desc := "(I)I" } : Jvm.MethodName) prog_23_method_2_code (5 : Nat) (Option.some Jvm.ClassFile.FieldType.int), Jvm.Cond.code ({ cls := "java/lang/Math", name := "max", desc := "(II)I" } : Jvm.MethodName) jdk_29_method_65_code (2 : Nat) (Option.some Jvm.ClassFile.FieldType.int), Jvm.Cond.code ({ cls := "java/util/Arrays", name := "copyOf", desc := "([II)[I" } : Jvm.MethodName) jdk_65_method_123_code (3 : Nat) (Option.some (Jvm.ClassFile.FieldType.array Jvm.ClassFile.FieldType.int)), Jvm.Cond.code ({ cls := "java/lang/Math", name := "min", desc := "(II)I" } : Jvm.MethodName) jdk_29_method_69_code (2 : Nat) (Option.some Jvm.ClassFile.FieldType.int), Jvm.Cond.code ({ cls := "java/util/Arrays", name := "setAll", desc := "([ILjava/util/function/IntUnaryOperator;)V" } : Jvm.MethodName) jdk_65_method_175_code (3 : Nat) (Option.none : Option Jvm.ClassFile.FieldType), Jvm.Cond.code ({ cls := "java/util/Objects", name := "requireNonNull", desc := "(Ljava/lang/Object;)Ljava/lang/Object;" } : Jvm.MethodName) jdk_31_method_10_code (1 : Nat) (Option.some (Jvm.ClassFile.FieldType.object "java/lang/Object")), Jvm.Cond.code ({ cls := "com/example/quiddity/quiddity/rdf/Partition", name := "lambda$join$0", desc := "(II)I" } : Jvm.MethodName) prog_23_method_4_code (3 : Nat) (Option.some Jvm.ClassFile.FieldType.int)]
set_option maxRecDepth 65536 in
theorem codes_eq : words1.filter isCode = codes1 := rfl
theorem w_codes : ∀ c ∈ words1.filter isCode, c.before args0 about1 = true := by
  rw [codes_eq]
  intro c hc
  simp only [codes1, List.mem_cons, List.not_mem_nil, or_false] at hc
  rcases hc with rfl | rfl | rfl | rfl | rfl | rfl | rfl | rfl | rfl | rfl | rfl | rfl
  · exact w_c0
  · exact w_c1
  · exact w_c2
  · exact w_c3
  · exact w_c4
  · exact w_c5
  · exact w_c6
  · exact w_c7
  · exact w_c8
  · exact w_c9
  · exact w_c10
  · exact w_c11
set_option maxRecDepth 65536 in
theorem w_t1 : (words1.take 24).all (fun c => isCode c || c.before args0 about1) = true := by decide +kernel
set_option maxRecDepth 65536 in
theorem w_t2 : ((words1.drop 24).take 24).all (fun c => isCode c || c.before args0 about1) = true := by decide +kernel
set_option maxRecDepth 65536 in
theorem w_t3 : ((words1.drop 24).drop 24).all (fun c => isCode c || c.before args0 about1) = true := by decide +kernel
theorem w_tables : (allAtoms (Jvm.Cond.code x code maxLocals ret :: tables_1)).before args0 about1 = true := by
  rw [allAtoms_all]
  show words1.all (fun c => c.before args0 about1) = true
  refine all_split ?_ w_codes
  rw [← List.take_append_drop 24 words1, List.all_append, w_t1, ← List.take_append_drop 24 (words1.drop 24), List.all_append, w_t2, w_t3]
  rfl
set_option maxRecDepth 65536 in
theorem w_case : (Jvm.Cond.and given_1 narrow_1).before args0 about1 = true := by decide +kernel
theorem w_applies : (headSpec (Jvm.Cond.code x code maxLocals ret :: tables_1) room_1).applies x e0.platform about1 = true :=
  (Spec.applies_iff w_frames).mpr ⟨w_running, w_runnable, w_alone, w_named, w_hears, w_ripe, w_room, w_tables⟩
theorem atStart : AtStart classFile x code maxLocals ret World_1 tables_1 room_1 Calls_1 rest_1 Pre_1 launch0 p0 e0 about1 theMethod args0 below0 :=
  ⟨lists_1, trivial, launch0.admits_env _ _ _, launch0.least_env, fairChoices_fair.cas, fairChoices_fair.clock, w_frames, w_args, w_heap, w_applies, trivial, trivial, w_case⟩
end start1
theorem witness_1 : WitnessClaimed_1 := ⟨start1.p0, start1.e0, start1.about1, start1.theMethod, start1.args0, start1.below0, start1.atStart⟩
end Jvm.Pilot.@@N@@
