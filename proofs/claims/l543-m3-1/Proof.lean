import JvmDerived
import JvmDerived.Pilot.@@N@@Statement
import JvmDerived.Pilot.@@N@@Code
set_option linter.unusedVariables false
set_option linter.unusedSimpArgs false
namespace Jvm.Pilot.@@N@@
open Jvm Jvm.ClassFile Sem Op Lib Jvm.Free Jvm.Stand Jvm.LawKit Jvm.RoadKit Bundle Jvm.Pilot.@@N@@.Jvm.D
section OwnKit
variable {p : Program} {l : Launch} {e : Env} {R : Room} {s : State} {m : MethodId} {args : Array Value} {below : List Frame} {meth : Method} {c : Code} {T : State} {locs : List Loc} {cells slots : Nat} {Z : State} {a0 : Array Value} {h : Heap}
/-- from S the body comes to its end, and P holds of it -/
def Gd (tb : Tables) (e : Env) (below : List Frame) (P : Outcome → State → Prop) (S : State) : Prop := ∃ s₂ o, Steps tb e below S s₂ ∧ s₂.status = .running ∧ Ended s₂ below o ∧ P o s₂
theorem Gd.go {tb : Tables} {e : Env} {below : List Frame} {P : Outcome → State → Prop} {S S' : State} (h : ∀ t, Steps tb e below S' t → Steps tb e below S t) (k : Gd tb e below P S') : Gd tb e below P S := by
  obtain ⟨s₂, o, h1, h2⟩ := k
  exact ⟨s₂, o, h _ h1, h2⟩
theorem Gd.via {tb : Tables} {e : Env} {below : List Frame} {P : Outcome → State → Prop} {S S' : State} (h : Gd tb e below P S' → Gd tb e below P S) (k : Gd tb e below P S') : Gd tb e below P S := h k
theorem Gd.viaA {α : Type} {A : α → Prop} {tb : Tables} {e : Env} {below : List Frame} {P : Outcome → State → Prop} {S : State} {S' : α → State} (h : (∀ z, A z → Gd tb e below P (S' z)) → Gd tb e below P S) (k : ∀ z, A z → Gd tb e below P (S' z)) : Gd tb e below P S := h k
/-- a body's contract: called with these arguments over this heap it returns, Q holds, and so many cells and slots at most are new -/
def Con (l : Launch) (Z : State) (y : MethodName) (bytes : ByteArray) (maxL : Nat) (ret : Option FieldType) (ws : List Jvm.Cond) (rm : Room) (kc ks : Nat) (as' : Array Value) (h : Heap) (Q : Option Value → Heap → List Loc → Prop) : Prop :=
  MetFree l y (head1 (Jvm.Cond.code y bytes maxL ret :: ws) rm) (fun a U => a = as' ∧ Z.Warmed39 U.vm ∧ U.heap = h) (fun _ _ _ _ _ => True) (fun _ U o U' => ∃ v L, o = .returned v ∧ Q v U'.heap L ∧ FrameEnd U o U' L kc ks)
/-- what a body's walk owes -/
abbrev Owes (s : State) (kc ks : Nat) (Q : Option Value → Heap → List Loc → Prop) : Outcome → State → Prop := fun o U' => ∃ v L, o = .returned v ∧ Q v U'.heap L ∧ FrameEnd s o U' L kc ks
theorem Con.of {y : MethodName} {bytes : ByteArray} {maxL : Nat} {ret : Option FieldType} {ws : List Jvm.Cond} {rm : Room} {kc ks : Nat} {as' : Array Value} {Q : Option Value → Heap → List Loc → Prop} (hpn : plainFor y = true)
    (body : ∀ (p : Program) (e : Env) (s : State) (m : MethodId) (below : List Frame) (meth : Method) (c : Code) (s₁ : State), p.tables.exec = Jvm.exec → c.code = bytes → c.maxLocals = maxL → s.vm.findClass y.cls = some m.cls → meth.name = y.name → meth.sig.returnType = ret → meth.locks = false → Z.Warmed39 s.vm →
      Stand p l e rm s m as' below meth c s₁ [] 0 0 → s₁.heap = h → Gd p.tables e below (Owes s kc ks Q) (s₁.setTop (entryFrame m as' maxL))) : Con l Z y bytes maxL ret ws rm kc ks as' h Q := by
  refine MetFree.of_bodySF hpn hisR ?_
  intro p e s m args below meth c s₁ Bd hml0 hP hK
  obtain ⟨rfl, hZ, hh⟩ := hP
  exact body p e s m below meth c s₁ Bd.exec Bd.bytes hml0 (findClass_of_methodNamed Bd.named) (name_of_methodNamed Bd.named Bd.method).1 Bd.returns Bd.notSynchronized hZ (Stand.of_body Bd) (by rw [← hh, Bd.state]; rfl)
theorem own_retI (X : Stand p l e R s m args below meth c T locs cells slots) (hx : p.tables.exec = Jvm.exec) {pc : Nat} {Ls : Array Slot} {z : Int32} {rest : List Value} (hret : meth.sig.returnType = some .int) (hlk : meth.locks = false) (hd : decode c.code pc = .ok (.ireturn, 1)) {Q : Option Value → Heap → List Loc → Prop} {kc ks : Nat} (hq : Q (some (.int z)) T.heap locs) (hc : cells ≤ kc) (hs : slots ≤ ks) :
    Gd p.tables e below (Owes s kc ks Q) (T.setTop (mkF m pc Ls (.int z :: rest))) := by
  obtain ⟨fs, hr, hrun, hended, hW, hsame⟩ := X.leave (v := some (.int z)) (fun h => by rw [hret] at h; cases h) hlk
  have hm' : T.vm.method? m = some meth := X.method'
  have hn : narrow .int (.int z) = .int z := rfl
  refine ⟨_, _, ?_, hrun, hended, _, _, rfl, hq, ⟨_, rfl⟩, hW, hsame.mono hc hs⟩
  show Steps p.tables e below (T.setTop { method := m, pc := pc, locals := Ls, stack := _ :: rest, locked := none }) _
  jvm_step X.here [X.here.top, hx, hd, hm', hret, hn]
  first | (intro acts; rw [hr _ acts rfl rfl rfl]) | rw [hr _ _ rfl rfl rfl]
  exact Steps.refl _
theorem own_retN (X : Stand p l e R s m args below meth c T locs cells slots) (hx : p.tables.exec = Jvm.exec) {pc : Nat} {Ls : Array Slot} {z : Int32} {rest : List Value} {t : FieldType} (hret : meth.sig.returnType = some t) (hlk : meth.locks = false) (ht : t = .boolean ∨ t = .byte ∨ t = .char ∨ t = .short) (hd : decode c.code pc = .ok (.ireturn, 1)) {Q : Option Value → Heap → List Loc → Prop} {kc ks : Nat} (hq : Q (some (.int (nar t z))) T.heap locs) (hc : cells ≤ kc) (hs : slots ≤ ks) :
    Gd p.tables e below (Owes s kc ks Q) (T.setTop (mkF m pc Ls (.int z :: rest))) := by
  obtain ⟨fs, hr, hrun, hended, hW, hsame⟩ := X.leave (v := some (.int (nar t z))) (fun h => by rw [hret] at h; cases h) hlk
  exact ⟨_, _, retN X hx hret ht hd hr, hrun, hended, _, _, rfl, hq, ⟨_, rfl⟩, hW, hsame.mono hc hs⟩
theorem own_retV (X : Stand p l e R s m args below meth c T locs cells slots) (hx : p.tables.exec = Jvm.exec) {pc : Nat} {Ls : Array Slot} (hret : meth.sig.returnType = none) (hlk : meth.locks = false) (hd : decode c.code pc = .ok (.return_, 1)) {Q : Option Value → Heap → List Loc → Prop} {kc ks : Nat} (hq : Q none T.heap locs) (hc : cells ≤ kc) (hs : slots ≤ ks) :
    Gd p.tables e below (Owes s kc ks Q) (T.setTop (mkF m pc Ls [])) := by
  obtain ⟨fs, hr, hrun, hended, hW, hsame⟩ := X.leave (v := none) (fun _ => rfl) hlk
  exact ⟨_, _, X.returnOut hx hret hd hr, hrun, hended, _, _, rfl, hq, ⟨_, rfl⟩, hW, hsame.mono hc hs⟩
theorem own_retL (X : Stand p l e R s m args below meth c T locs cells slots) (hx : p.tables.exec = Jvm.exec) {pc : Nat} {Ls : Array Slot} {z : Int64} {rest : List Value} (hret : meth.sig.returnType = some .long) (hlk : meth.locks = false) (hd : decode c.code pc = .ok (.lreturn, 1)) {Q : Option Value → Heap → List Loc → Prop} {kc ks : Nat} (hq : Q (some (.long z)) T.heap locs) (hc : cells ≤ kc) (hs : slots ≤ ks) :
    Gd p.tables e below (Owes s kc ks Q) (T.setTop (mkF m pc Ls (.long z :: rest))) := by
  obtain ⟨fs, hr, hrun, hended, hW, hsame⟩ := X.leave (v := some (.long z)) (fun h => by rw [hret] at h; cases h) hlk
  have hm' : T.vm.method? m = some meth := X.method'
  refine ⟨_, _, ?_, hrun, hended, _, _, rfl, hq, ⟨_, rfl⟩, hW, hsame.mono hc hs⟩
  show Steps p.tables e below (T.setTop { method := m, pc := pc, locals := Ls, stack := _ :: rest, locked := none }) _
  jvm_step X.here [X.here.top, hx, hd, hm', hret, narrow]
  first | (intro acts; rw [hr _ acts rfl rfl rfl]) | rw [hr _ _ rfl rfl rfl]
  exact Steps.refl _
theorem own_retA (X : Stand p l e R s m args below meth c T locs cells slots) (hx : p.tables.exec = Jvm.exec) {pc : Nat} {Ls : Array Slot} {a : Addr} {rest : List Value} {t : FieldType} (hret : meth.sig.returnType = some t) (hlk : meth.locks = false) (ht : t.isReference = true) (hd : decode c.code pc = .ok (.areturn, 1)) {Q : Option Value → Heap → List Loc → Prop} {kc ks : Nat} (hq : Q (some (.ref a)) T.heap locs) (hc : cells ≤ kc) (hs : slots ≤ ks) :
    Gd p.tables e below (Owes s kc ks Q) (T.setTop (mkF m pc Ls (.ref a :: rest))) := by
  obtain ⟨fs, hr, hrun, hended, hW, hsame⟩ := X.leave (v := some (.ref a)) (fun h => by rw [hret] at h; cases h) hlk
  have hm' : T.vm.method? m = some meth := X.method'
  refine ⟨_, _, ?_, hrun, hended, _, _, rfl, hq, ⟨_, rfl⟩, hW, hsame.mono hc hs⟩
  show Steps p.tables e below (T.setTop { method := m, pc := pc, locals := Ls, stack := _ :: rest, locked := none }) _
  jvm_step X.here [X.here.top, hx, hd, hm', hret, ht, Value.isRef]
  first | (intro acts; rw [hr _ acts rfl rfl rfl]) | rw [hr _ _ rfl rfl rfl]
  exact Steps.refl _
/-- a static call by its contract -/
theorem own_callS (X : Stand p l e R s m args below meth c T locs cells slots) (hx : p.tables.exec = Jvm.exec) (hZ : Z.Warmed39 s.vm) {own : String} {index : Nat} {y : MethodName} {bytes : ByteArray} {maxL : Nat} {ret : Option FieldType} (hown : s.vm.findClass own = some m.cls)
    (w1 : (Jvm.Cond.methodLink own index y).before a0 Z = true) (w2 : (Jvm.Cond.static y).before a0 Z = true) (w3 : (Jvm.Cond.initialized y.cls).before a0 Z = true) (w4 : (Jvm.Cond.code y bytes maxL ret).before a0 Z = true) (hy : y.cls ≠ "java/lang/invoke/MethodHandle" ∧ y.cls ≠ "java/lang/invoke/VarHandle")
    {rm : Room} {as' : Array Value} {Q : Option Value → Heap → List Loc → Prop} {W kc ks : Nat} (hM : Con l Z y bytes maxL ret [] rm kc ks as' h Q) (hkc : rm.cells = kc) (hks : rm.slots = ks) (eT : T.heap = h) (hf : rm.frames + 1 ≤ R.frames) (hl : W + (maxL + 11) + rm.locals ≤ R.locals)
    {g : JFrame} (hg : g.method = m) (hsize : g.locals.size = c.maxLocals) {argsL rest : List Value} (hlen : ∀ sig, parseMethodDescriptor y.desc = some sig → argsL.length = sig.parameters.length) (hstack : g.stack = argsL.reverse ++ rest) (hW : 2 * g.monitorRoom + (rest.map fun v => v.category).sum ≤ W)
    (hdg : decode c.code g.pc = .ok (.invokestatic index, 3)) (has : argsL.toArray = as') (hc : cells + kc ≤ R.cells) (hs : slots + ks ≤ R.slots) :
    ∃ v T' L, Stand p l e R s m args below meth c T' (locs ++ L) (cells + kc) (slots + ks) ∧ Q v T'.heap L ∧ ∀ target, Steps p.tables e below (T'.setTop { g with pc := g.pc + 3, stack := v.toList ++ rest }) target → Steps p.tables e below (T.setTop g) target := by
  subst hkc hks
  obtain ⟨v, vm₁, ⟨T', L', c', s'⟩, -, X', ⟨L, hq, l1, l2, l3⟩, st⟩ := Jvm.LawKit.callS X hx (y := y) hown (mvT hZ w1) (mvT hZ w2) (mvT hZ w3) (mvT hZ w4) hy (backOf (W := W) hM hZ w4 w3 hf hl) hg hsize (argsL := argsL) (rest := rest) hlen hstack hW hdg (fun _ _ => ⟨has, eT, hc, hs⟩)
  dsimp only [Pt.U, Pt.locs, Pt.cells, Pt.slots] at X' l1 l2 l3 st hq
  subst l1 l2 l3
  exact ⟨v, T', L, X', hq, st⟩
/-- a static call that writes and makes nothing -/
theorem own_callSP (X : Stand p l e R s m args below meth c T locs cells slots) (hx : p.tables.exec = Jvm.exec) (hZ : Z.Warmed39 s.vm) {own : String} {index : Nat} {y : MethodName} {bytes : ByteArray} {maxL : Nat} {ret : Option FieldType} (hown : s.vm.findClass own = some m.cls)
    (w1 : (Jvm.Cond.methodLink own index y).before a0 Z = true) (w2 : (Jvm.Cond.static y).before a0 Z = true) (w3 : (Jvm.Cond.initialized y.cls).before a0 Z = true) (w4 : (Jvm.Cond.code y bytes maxL ret).before a0 Z = true) (hy : y.cls ≠ "java/lang/invoke/MethodHandle" ∧ y.cls ≠ "java/lang/invoke/VarHandle")
    {rm : Room} {as' : Array Value} {v : Option Value} {W : Nat} (hM : Con l Z y bytes maxL ret [] rm 0 0 as' h (fun v' h' L => v' = v ∧ h' = h ∧ L = [])) (hkc : rm.cells = 0) (hks : rm.slots = 0) (eT : T.heap = h) (hf : rm.frames + 1 ≤ R.frames) (hl : W + (maxL + 11) + rm.locals ≤ R.locals)
    {g : JFrame} (hg : g.method = m) (hsize : g.locals.size = c.maxLocals) {argsL rest : List Value} (hlen : ∀ sig, parseMethodDescriptor y.desc = some sig → argsL.length = sig.parameters.length) (hstack : g.stack = argsL.reverse ++ rest) (hW : 2 * g.monitorRoom + (rest.map fun v => v.category).sum ≤ W)
    (hdg : decode c.code g.pc = .ok (.invokestatic index, 3)) (has : argsL.toArray = as') (hc : cells ≤ R.cells := by decide) (hs : slots ≤ R.slots := by decide) :
    ∃ T', Stand p l e R s m args below meth c T' locs cells slots ∧ T'.heap = h ∧ ∀ target, Steps p.tables e below (T'.setTop { g with pc := g.pc + 3, stack := v.toList ++ rest }) target → Steps p.tables e below (T.setTop g) target := by
  obtain ⟨v', T', L, X', ⟨e1, e2, e3⟩, st⟩ := own_callS X hx hZ hown w1 w2 w3 w4 hy hM hkc hks eT hf hl hg hsize hlen hstack hW hdg has hc hs
  subst e1 e3
  rw [List.append_nil] at X'
  exact ⟨T', X', e2, st⟩
/-- an instance method by its contract, chosen by the receiver's class -/
theorem own_callV (X : Stand p l e R s m args below meth c T locs cells slots) (hx : p.tables.exec = Jvm.exec) (hZ : Z.Warmed39 s.vm) {own C : String} {index : Nat} {y : MethodName} {bytes : ByteArray} {maxL : Nat} {ret : Option FieldType} (hown : s.vm.findClass own = some m.cls)
    (w1 : (Jvm.Cond.methodLink own index y).before a0 Z = true) (w2 : (Jvm.Cond.declares y).before a0 Z = true) (w3 : (Jvm.Cond.selects C y y).before a0 Z = true) (w4 : (Jvm.Cond.instanceMethod y).before a0 Z = true) (w5 : (Jvm.Cond.initialized y.cls).before a0 Z = true) (w6 : (Jvm.Cond.code y bytes maxL ret).before a0 Z = true) (hy : y.cls ≠ "java/lang/invoke/MethodHandle" ∧ y.cls ≠ "java/lang/invoke/VarHandle")
    {b : Addr} (E : Exa Z h b C) {rm : Room} {as' : Array Value} {Q : Option Value → Heap → List Loc → Prop} {W kc ks : Nat} (hM : Con l Z y bytes maxL ret [] rm kc ks as' h Q) (hkc : rm.cells = kc) (hks : rm.slots = ks) (eT : T.heap = h) (hf : rm.frames + 1 ≤ R.frames) (hl : W + (maxL + 11) + rm.locals ≤ R.locals)
    {g : JFrame} (hg : g.method = m) (hsize : g.locals.size = c.maxLocals) {argsL rest : List Value} (hlen : ∀ sig, parseMethodDescriptor y.desc = some sig → argsL.length = sig.parameters.length) (hstack : g.stack = argsL.reverse ++ .ref b :: rest) (hW : 2 * g.monitorRoom + (rest.map fun v => v.category).sum ≤ W)
    (hdg : decode c.code g.pc = .ok (.invokevirtual index, 3)) (has : (.ref b :: argsL).toArray = as') (hc : cells + kc ≤ R.cells) (hs : slots + ks ≤ R.slots) :
    ∃ v T' L, Stand p l e R s m args below meth c T' (locs ++ L) (cells + kc) (slots + ks) ∧ Q v T'.heap L ∧ ∀ target, Steps p.tables e below (T'.setTop { g with pc := g.pc + 3, stack := v.toList ++ rest }) target → Steps p.tables e below (T.setTop g) target := by
  subst hkc hks
  obtain ⟨cq, kq, qa, qb, qc⟩ := isOf hZ eT E
  obtain ⟨v, vm₁, ⟨T', L', c', s'⟩, -, X', ⟨L, hq, l1, l2, l3⟩, st⟩ := X.virtualBack hx (y := y) (z := y) hown (mvT hZ w1) (mvT hZ w2) (notFace_of_selects (args := #[]) (mvT hZ w3)) (mvT hZ w3) (mvT hZ w4) hy (backOf (W := W) hM hZ w6 w5 hf hl) qa qc hg hsize (Steps.refl _) (argsL := argsL) (rest := rest) hlen hstack hW hdg (fun _ _ => ⟨has, eT, hc, hs⟩)
  dsimp only [Pt.U, Pt.locs, Pt.cells, Pt.slots] at X' l1 l2 l3 st hq
  subst l1 l2 l3
  exact ⟨v, T', L, X', hq, fun _ k => st.trans k⟩
/-- an instance method that writes and makes nothing -/
theorem own_callVP (X : Stand p l e R s m args below meth c T locs cells slots) (hx : p.tables.exec = Jvm.exec) (hZ : Z.Warmed39 s.vm) {own C : String} {index : Nat} {y : MethodName} {bytes : ByteArray} {maxL : Nat} {ret : Option FieldType} (hown : s.vm.findClass own = some m.cls)
    (w1 : (Jvm.Cond.methodLink own index y).before a0 Z = true) (w2 : (Jvm.Cond.declares y).before a0 Z = true) (w3 : (Jvm.Cond.selects C y y).before a0 Z = true) (w4 : (Jvm.Cond.instanceMethod y).before a0 Z = true) (w5 : (Jvm.Cond.initialized y.cls).before a0 Z = true) (w6 : (Jvm.Cond.code y bytes maxL ret).before a0 Z = true) (hy : y.cls ≠ "java/lang/invoke/MethodHandle" ∧ y.cls ≠ "java/lang/invoke/VarHandle")
    {b : Addr} (E : Exa Z h b C) {rm : Room} {as' : Array Value} {v : Option Value} {W : Nat} (hM : Con l Z y bytes maxL ret [] rm 0 0 as' h (fun v' h' L => v' = v ∧ h' = h ∧ L = [])) (hkc : rm.cells = 0) (hks : rm.slots = 0) (eT : T.heap = h) (hf : rm.frames + 1 ≤ R.frames) (hl : W + (maxL + 11) + rm.locals ≤ R.locals)
    {g : JFrame} (hg : g.method = m) (hsize : g.locals.size = c.maxLocals) {argsL rest : List Value} (hlen : ∀ sig, parseMethodDescriptor y.desc = some sig → argsL.length = sig.parameters.length) (hstack : g.stack = argsL.reverse ++ .ref b :: rest) (hW : 2 * g.monitorRoom + (rest.map fun v => v.category).sum ≤ W)
    (hdg : decode c.code g.pc = .ok (.invokevirtual index, 3)) (has : (.ref b :: argsL).toArray = as') (hc : cells ≤ R.cells := by decide) (hs : slots ≤ R.slots := by decide) :
    ∃ T', Stand p l e R s m args below meth c T' locs cells slots ∧ T'.heap = h ∧ ∀ target, Steps p.tables e below (T'.setTop { g with pc := g.pc + 3, stack := v.toList ++ rest }) target → Steps p.tables e below (T.setTop g) target := by
  obtain ⟨v', T', L, X', ⟨e1, e2, e3⟩, st⟩ := own_callV X hx hZ hown w1 w2 w3 w4 w5 w6 hy E hM hkc hks eT hf hl hg hsize hlen hstack hW hdg has hc hs
  subst e1 e3
  rw [List.append_nil] at X'
  exact ⟨T', X', e2, st⟩
/-- a constructor by its contract -/
theorem own_callI (X : Stand p l e R s m args below meth c T locs cells slots) (hx : p.tables.exec = Jvm.exec) (hZ : Z.Warmed39 s.vm) {own : String} {index : Nat} {y : MethodName} {bytes : ByteArray} {maxL : Nat} (hy1 : y.name = "<init>") (hown : s.vm.findClass own = some m.cls)
    (w1 : (Jvm.Cond.methodLink own index y).before a0 Z = true) (w4 : (Jvm.Cond.instanceMethod y).before a0 Z = true) (w5 : (Jvm.Cond.initialized y.cls).before a0 Z = true) (w6 : (Jvm.Cond.code y bytes maxL none).before a0 Z = true) (hy : y.cls ≠ "java/lang/invoke/MethodHandle" ∧ y.cls ≠ "java/lang/invoke/VarHandle")
    {b : Addr} {rm : Room} {as' : Array Value} {Q : Option Value → Heap → List Loc → Prop} {W kc ks : Nat} (hM : Con l Z y bytes maxL none [] rm kc ks as' h Q) (hkc : rm.cells = kc) (hks : rm.slots = ks) (eT : T.heap = h) (hf : rm.frames + 1 ≤ R.frames) (hl : W + (maxL + 11) + rm.locals ≤ R.locals)
    {g : JFrame} (hg : g.method = m) (hsize : g.locals.size = c.maxLocals) {argsL rest : List Value} (hlen : ∀ sig, parseMethodDescriptor y.desc = some sig → argsL.length = sig.parameters.length) (hstack : g.stack = argsL.reverse ++ .ref b :: rest) (hW : 2 * g.monitorRoom + (rest.map fun v => v.category).sum ≤ W)
    (hdg : decode c.code g.pc = .ok (.invokespecial index, 3)) (has : (.ref b :: argsL).toArray = as') (hc : cells + kc ≤ R.cells) (hs : slots + ks ≤ R.slots) :
    ∃ v T' L, Stand p l e R s m args below meth c T' (locs ++ L) (cells + kc) (slots + ks) ∧ Q v T'.heap L ∧ ∀ target, Steps p.tables e below (T'.setTop { g with pc := g.pc + 3, stack := v.toList ++ rest }) target → Steps p.tables e below (T.setTop g) target := by
  subst hkc hks
  obtain ⟨v, vm₁, ⟨T', L', c', s'⟩, -, X', ⟨L, hq, l1, l2, l3⟩, st⟩ := X.specialBack hx (y := y) hy1 hown (mvT hZ w1) (mvT hZ w4) (mvT hZ w6) hy (backOf (W := W) hM hZ w6 w5 hf hl) hg hsize (Steps.refl _) (a := b) (argsL := argsL) (rest := rest) hlen hstack hW hdg (fun _ _ => ⟨has, eT, hc, hs⟩)
  dsimp only [Pt.U, Pt.locs, Pt.cells, Pt.slots] at X' l1 l2 l3 st hq
  subst l1 l2 l3
  exact ⟨v, T', L, X', hq, fun _ k => st.trans k⟩
/-- an array as a function of its places -/
def ArF (Z : State) (h : Heap) (a : Addr) (ty : FieldType) (n : Nat) (f : Nat → Value) : Prop := ∃ c : Cell, Arr Z h a c ty ∧ c.slots.size = n ∧ n < 2 ^ 31 ∧ ∀ i, i < n → c.slots[i]? = some (f i)
def upd (f : Nat → Value) (j : Nat) (v : Value) : Nat → Value := fun i => if i = j then v else f i
theorem upd_at (f : Nat → Value) (j : Nat) (v : Value) : upd f j v j = v := if_pos rfl
theorem upd_ne (f : Nat → Value) {i j : Nat} (v : Value) (q : ¬ i = j) : upd f j v i = f i := if_neg q
theorem ArF.lt {h : Heap} {a : Addr} {ty : FieldType} {n : Nat} {f : Nat → Value} (F : ArF Z h a ty n f) : a < h.size := by obtain ⟨c, A, -⟩ := F; exact A.lt
theorem ArF.ext {h h' : Heap} {a : Addr} {ty : FieldType} {n : Nat} {f : Nat → Value} (F : ArF Z h a ty n f) (E : Ext h h') : ArF Z h' a ty n f := by obtain ⟨c, A, r⟩ := F; exact ⟨c, A.ext E, r⟩
theorem ArF.other {h h' : Heap} {a b : Addr} {ty : FieldType} {n : Nat} {f : Nat → Value} {sl : Nat} {v : Value} (F : ArF Z h b ty n f) (W : Wr h h' a sl v) (q : b ≠ a) : ArF Z h' b ty n f := by obtain ⟨c, A, r⟩ := F; exact ⟨c, A.other W q, r⟩
theorem ArF.keep {h h' : Heap} {a : Addr} {ty : FieldType} {n : Nat} {f : Nat → Value} {ws : List Addr} (F : ArF Z h a ty n f) (K : Keep h h' ws) (q : a ∉ ws) : ArF Z h' a ty n f := by obtain ⟨c, A, r⟩ := F; exact ⟨c, ⟨K.2.1 a c A.1 q, A.2⟩, r⟩
theorem ArF.set {h h' : Heap} {a : Addr} {ty : FieldType} {n : Nat} {f : Nat → Value} {j : Nat} {v : Value} (F : ArF Z h a ty n f) (W : Wr h h' a j v) : ArF Z h' a ty n (upd f j v) := by
  obtain ⟨c, A, r1, r2, r3⟩ := F
  refine ⟨_, A.same W, by rw [sz_set]; exact r1, r2, fun i hi => ?_⟩
  show (c.slots.setIfInBounds j v)[i]? = _
  rw [Array.getElem?_setIfInBounds]
  by_cases q : j = i
  · subst q; rw [if_pos rfl, if_pos (by omega), upd_at]
  · rw [if_neg q, upd_ne _ _ (fun w => q w.symm)]; exact r3 i hi
theorem ArF.congr {h : Heap} {a : Addr} {ty : FieldType} {n : Nat} {f g : Nat → Value} (F : ArF Z h a ty n f) (q : ∀ i, i < n → f i = g i) : ArF Z h a ty n g := by
  obtain ⟨c, A, r1, r2, r3⟩ := F
  exact ⟨c, A, r1, r2, fun i hi => by rw [← q i hi]; exact r3 i hi⟩
theorem ArF.n31 {h : Heap} {a : Addr} {ty : FieldType} {n : Nat} {f : Nat → Value} (F : ArF Z h a ty n f) : n < 2 ^ 31 := by obtain ⟨c, A, r1, r2, r3⟩ := F; exact r2
theorem own_ofN {n : Nat} (h : n < 2 ^ 31) : (Int32.ofNat n).toInt = n := Int32.toInt_ofNat_small h
theorem own_ofC {n : Nat} (h : n < 2 ^ 31) : (Int32.ofNat n).toNatClampNeg = n := by show (Int32.ofNat n).toInt.toNat = n; rw [own_ofN h]; rfl
theorem own_ltN {i n : Nat} (h : i < n) (hn : n < 2 ^ 31) : Int32.ofNat i < Int32.ofNat n := by rw [Int32.lt_iff_toInt_lt, own_ofN (by omega), own_ofN hn]; omega
theorem own_geN {i n : Nat} (h : ¬ i < n) (hn : i < 2 ^ 31) : ¬ Int32.ofNat i < Int32.ofNat n := by rw [Int32.lt_iff_toInt_lt, own_ofN hn, own_ofN (by omega)]; omega
theorem own_incN (i : Nat) : Int32.ofNat i + (1 : Int32) = Int32.ofNat (i + 1) := (Int32.ofNat_add i 1).symm
theorem own_nat {j : Int32} (h : 0 ≤ j.toInt) : (j.toNatClampNeg : Int) = j.toInt := Int.toNat_of_nonneg h
theorem own_natInj {i j : Int32} (hi : 0 ≤ i.toInt) (hj : 0 ≤ j.toInt) : i.toNatClampNeg = j.toNatClampNeg ↔ i = j := by
  constructor
  · intro q; have a := own_nat hi; have b := own_nat hj; exact Int32.toInt_inj.mp (by omega)
  · rintro rfl; rfl
theorem own_in {c : Cell} {n : Nat} {j : Int32} (S : c.slots.size = n) (h1 : 0 ≤ j.toInt) (h2 : j.toInt < n) : ¬ (j < 0 ∨ c.slots.size ≤ j.toNatClampNeg) := by
  have e : (j.toNatClampNeg : Int) = j.toInt := Int.toNat_of_nonneg h1
  rw [Int32.lt_iff_toInt_lt]
  have : (0 : Int32).toInt = 0 := rfl
  omega
theorem own_new {h h' : Heap} {k : ClassId} {ty : FieldType} {z : Int32} {a : Addr} (A : Arr Z h' a (newA k ty z) ty) (q : ¬ z < 0) : ArF Z h' a ty z.toNatClampNeg (fun _ => defaultValue ty) :=
  ⟨_, A, sz_new _ _ _, (back32 q).2, fun i hi => by simp [newA, hi]⟩
theorem own_ldI (X : Stand p l e R s m args below meth c T locs cells slots) (hx : p.tables.exec = Jvm.exec) (hZ : Z.Warmed39 s.vm) (eT : T.heap = h) {a : Addr} {n : Nat} {f : Nat → Value} (A : ArF Z h a .int n f) {j : Int32} (h1 : 0 ≤ j.toInt) (h2 : j.toInt < n) {v : Value} (hv : f j.toNatClampNeg = v)
    {g : JFrame} (hg : g.method = m) {rest : List Value} (hs : g.stack = .int j :: .ref a :: rest) (hd : decode c.code g.pc = .ok (.iaload, 1)) (target : State) (k : Steps p.tables e below (T.setTop { g with pc := g.pc + 1, stack := v :: rest }) target) : Steps p.tables e below (T.setTop g) target := by
  obtain ⟨cl, Ar, S, -, H⟩ := A
  exact X.iaload hx (j := j) (v := v) (by rw [eT]; exact Ar.1) (State.isArrayOf_alike hZ.alike Ar.2.1) Ar.2.2 (own_in S h1 h2) (by have e := Int.toNat_of_nonneg h1; rw [← hv]; exact H _ (by show j.toInt.toNat < n; omega)) hg hs hd _ k
theorem own_ldJ (X : Stand p l e R s m args below meth c T locs cells slots) (hx : p.tables.exec = Jvm.exec) (hZ : Z.Warmed39 s.vm) (eT : T.heap = h) {a : Addr} {n : Nat} {f : Nat → Value} (A : ArF Z h a .long n f) {j : Int32} (h1 : 0 ≤ j.toInt) (h2 : j.toInt < n) {v : Value} (hv : f j.toNatClampNeg = v)
    {g : JFrame} (hg : g.method = m) {rest : List Value} (hs : g.stack = .int j :: .ref a :: rest) (hd : decode c.code g.pc = .ok (.laload, 1)) (target : State) (k : Steps p.tables e below (T.setTop { g with pc := g.pc + 1, stack := v :: rest }) target) : Steps p.tables e below (T.setTop g) target := by
  obtain ⟨cl, Ar, S, -, H⟩ := A
  exact X.laload hx (j := j) (v := v) (by rw [eT]; exact Ar.1) (State.isArrayOf_alike hZ.alike Ar.2.1) Ar.2.2 (own_in S h1 h2) (by have e := Int.toNat_of_nonneg h1; rw [← hv]; exact H _ (by show j.toInt.toNat < n; omega)) hg hs hd _ k
theorem own_ldB (X : Stand p l e R s m args below meth c T locs cells slots) (hx : p.tables.exec = Jvm.exec) (hZ : Z.Warmed39 s.vm) (eT : T.heap = h) {a : Addr} {n : Nat} {f : Nat → Value} (A : ArF Z h a .byte n f) {j : Int32} (h1 : 0 ≤ j.toInt) (h2 : j.toInt < n) {v : Value} (hv : f j.toNatClampNeg = v)
    {g : JFrame} (hg : g.method = m) {rest : List Value} (hs : g.stack = .int j :: .ref a :: rest) (hd : decode c.code g.pc = .ok (.baload, 1)) (target : State) (k : Steps p.tables e below (T.setTop { g with pc := g.pc + 1, stack := v :: rest }) target) : Steps p.tables e below (T.setTop g) target := by
  obtain ⟨cl, Ar, S, -, H⟩ := A
  exact X.baloadBytes hx (j := j) (v := v) (by rw [eT]; exact Ar.1) (State.isArrayOf_alike hZ.alike Ar.2.1) Ar.2.2 (own_in S h1 h2) (by have e := Int.toNat_of_nonneg h1; rw [← hv]; exact H _ (by show j.toInt.toNat < n; omega)) hg hs hd _ k
theorem own_ldC (X : Stand p l e R s m args below meth c T locs cells slots) (hx : p.tables.exec = Jvm.exec) (hZ : Z.Warmed39 s.vm) (eT : T.heap = h) {a : Addr} {n : Nat} {f : Nat → Value} (A : ArF Z h a .char n f) {j : Int32} (h1 : 0 ≤ j.toInt) (h2 : j.toInt < n) {v : Value} (hv : f j.toNatClampNeg = v)
    {g : JFrame} (hg : g.method = m) {rest : List Value} (hs : g.stack = .int j :: .ref a :: rest) (hd : decode c.code g.pc = .ok (.caload, 1)) (target : State) (k : Steps p.tables e below (T.setTop { g with pc := g.pc + 1, stack := v :: rest }) target) : Steps p.tables e below (T.setTop g) target := by
  obtain ⟨cl, Ar, S, -, H⟩ := A
  exact X.caload hx (j := j) (v := v) (by rw [eT]; exact Ar.1) (State.isArrayOf_alike hZ.alike Ar.2.1) Ar.2.2 (own_in S h1 h2) (by have e := Int.toNat_of_nonneg h1; rw [← hv]; exact H _ (by show j.toInt.toNat < n; omega)) hg hs hd _ k
theorem own_len (X : Stand p l e R s m args below meth c T locs cells slots) (hx : p.tables.exec = Jvm.exec) (hZ : Z.Warmed39 s.vm) (eT : T.heap = h) {a : Addr} {ty : FieldType} {n : Nat} {f : Nat → Value} (A : ArF Z h a ty n f) {z : Int32} (hz : Int32.ofNat n = z)
    {g : JFrame} (hg : g.method = m) {rest : List Value} (hs : g.stack = .ref a :: rest) (hd : decode c.code g.pc = .ok (.arraylength, 1)) (target : State) (k : Steps p.tables e below (T.setTop { g with pc := g.pc + 1, stack := .int z :: rest }) target) : Steps p.tables e below (T.setTop g) target := by
  obtain ⟨cl, Ar, S, -, H⟩ := A
  refine X.arraylength hx (by rw [eT]; exact Ar.1) (State.isArrayOf_alike hZ.alike Ar.2.1) hg hs hd _ ?_
  rw [S]; rw [← hz] at k; exact k
theorem own_stI (X : Stand p l e R s m args below meth c T locs cells slots) (hx : p.tables.exec = Jvm.exec) (hZ : Z.Warmed39 s.vm) (eT : T.heap = h) {a : Addr} {n : Nat} {f : Nat → Value} (A : ArF Z h a .int n f) {j x : Int32} (h1 : 0 ≤ j.toInt) (h2 : j.toInt < n)
    {g : JFrame} (hg : g.method = m) {rest : List Value} (hs : g.stack = .int x :: .int j :: .ref a :: rest) (hd : decode c.code g.pc = .ok (.iastore, 1)) :
    ∃ T' h', Stand p l e R s m args below meth c T' (locs ++ [⟨a, j.toNatClampNeg⟩]) cells slots ∧ T'.heap = h' ∧ Wr h h' a j.toNatClampNeg (.int x) ∧ ∀ target, Steps p.tables e below (T'.setTop { g with pc := g.pc + 1, stack := rest }) target → Steps p.tables e below (T.setTop g) target := by
  obtain ⟨cl, Ar, S, -, H⟩ := A
  exact stI X hx hZ eT Ar (own_in S h1 h2) hg hs hd
theorem own_stJ (X : Stand p l e R s m args below meth c T locs cells slots) (hx : p.tables.exec = Jvm.exec) (hZ : Z.Warmed39 s.vm) (eT : T.heap = h) {a : Addr} {n : Nat} {f : Nat → Value} (A : ArF Z h a .long n f) {j : Int32} {x : Int64} (h1 : 0 ≤ j.toInt) (h2 : j.toInt < n)
    {g : JFrame} (hg : g.method = m) {rest : List Value} (hs : g.stack = .long x :: .int j :: .ref a :: rest) (hd : decode c.code g.pc = .ok (.lastore, 1)) :
    ∃ T' h', Stand p l e R s m args below meth c T' (locs ++ [⟨a, j.toNatClampNeg⟩]) cells slots ∧ T'.heap = h' ∧ Wr h h' a j.toNatClampNeg (.long x) ∧ ∀ target, Steps p.tables e below (T'.setTop { g with pc := g.pc + 1, stack := rest }) target → Steps p.tables e below (T.setTop g) target := by
  obtain ⟨cl, Ar, S, -, H⟩ := A
  exact stJ X hx hZ eT Ar (own_in S h1 h2) hg hs hd
/-- a boolean as an int -/
def bI (P : Prop) [Decidable P] : Int32 := if P then 1 else 0
theorem bI_z {P : Prop} [Decidable P] (h : ¬ P) : bI P = 0 := if_neg h
theorem bI_o {P : Prop} [Decidable P] (h : P) : bI P = 1 := if_pos h
theorem bI_ne {P : Prop} [Decidable P] (h : P) : ¬ bI P = 0 := by rw [bI_o h]; decide
theorem nar_b {P : Prop} [Decidable P] : nar .boolean (bI P) = bI P := by unfold bI; split <;> rfl
end OwnKit
theorem own_stat {C n d K O f df : String} {k : Int32} {s : State} {args : Array Value} (h1 : (Jvm.Cond.exactly (Term.static C n d) K).value args s none s [] = some true) (h2 : (Jvm.Cond.eq (Term.field (Term.static C n d) O f df) (Term.int k)).value args s none s [] = some true)
    (wi : (Jvm.Cond.initialized C).before args s = true) (wl : (Jvm.Cond.laysStatic C n d).before args s = true) : ∃ a, Sta s s.heap C n d (.ref a) ∧ Exa s s.heap a K ∧ Fld s s.heap a O f df (.int k) := by
  obtain ⟨a, ev⟩ := exa_v h1
  obtain ⟨v, y, e1, e2, k1, k2⟩ := cmp_v (Or.inl h2)
  have hy : y = .int k := (Option.some.inj e2).symm
  subst hy
  obtain ⟨z, rfl⟩ := k2
  have hz : z = k := by simpa [Cond.value, e1, e2] using h2
  subst hz
  rw [fld_at ev] at e1
  exact ⟨a, Sta.start ev (Or.inr ⟨wi, wl⟩), Exa.start ev h1, Fld.start e1⟩
theorem own_no {k n : Int32} (h1 : ¬ k < 0) (h2 : ¬ n = k) : ¬ (k < 0 ∨ n = k) := fun q => q.elim h1 h2
theorem own_pn0 : plainFor (⟨"com/example/quiddity/quiddity/sparql/Function", "takes", "(I)Z"⟩ : MethodName) = true := by first | exact plainFor_of_name (by first | (simp [plainName, overriddenIn, x]; done) | decide +kernel) | decide +kernel
theorem ef_1 (m : MethodId) (q0 : Addr) (q1 : Int32) : entryFrame m #[(.ref q0), (.int q1)] 2 = mkF m 0 #[.val (.ref q0), .val (.int q1)] [] := by first | (simp [entryFrame, mkF, argsToLocals, Value.category, maxLocals]; done) | rfl
theorem d1_0 : decode prog_52_method_4_code 0 = .ok (.aload_n 0, 1) := by decide +kernel
theorem d1_1 : decode prog_52_method_4_code 1 = .ok (.getfield 44, 3) := by decide +kernel
theorem d1_4 : decode prog_52_method_4_code 4 = .ok (.ifCond .lt 11, 3) := by decide +kernel
theorem d1_15 : decode prog_52_method_4_code 15 = .ok (.iconst 1, 1) := by decide +kernel
theorem d1_16 : decode prog_52_method_4_code 16 = .ok (.goto 4, 3) := by decide +kernel
theorem d1_20 : decode prog_52_method_4_code 20 = .ok (.ireturn, 1) := by decide +kernel
theorem d1_7 : decode prog_52_method_4_code 7 = .ok (.iload_n 1, 1) := by decide +kernel
theorem d1_8 : decode prog_52_method_4_code 8 = .ok (.aload_n 0, 1) := by decide +kernel
theorem d1_9 : decode prog_52_method_4_code 9 = .ok (.getfield 44, 3) := by decide +kernel
theorem d1_12 : decode prog_52_method_4_code 12 = .ok (.if_icmp .ne 7, 3) := by decide +kernel
theorem d1_19 : decode prog_52_method_4_code 19 = .ok (.iconst 0, 1) := by decide +kernel
set_option maxRecDepth 65536 in
set_option maxHeartbeats 40000000 in
theorem own_c1 (l : Launch) (Z : State) (a0 : Array Value) (hw : ∀ d ∈ tables_1, d.before a0 Z = true) (b : Addr) (k n : Int32) (h0 : Heap) (F0 : Fld Z h0 b "com/example/quiddity/quiddity/sparql/Function" "arity" "I" (.int k)) :
    Con l Z (⟨"com/example/quiddity/quiddity/sparql/Function", "takes", "(I)Z"⟩ : MethodName) prog_52_method_4_code 2 (some .boolean) [] ({ frames := 0, cells := 0, slots := 0, locals := 0 } : Room) 0 0 #[(.ref b), (.int n)] h0 (fun v h L => v = some (.int (bI (k < 0 ∨ n = k))) ∧ h = h0 ∧ L = []) := by
  refine Con.of own_pn0 ?_
  intro pg ev s_ m bl mt cd s₁ hx hby hml hown hnm hret hlk hZ X0 e0
  rw [ef_1]
  show Gd _ _ _ _ (s₁.setTop (mkF m 0 #[.val (.ref b), .val (.int n)] []))
  refine Gd.go (fun _ w_k => XS.aloadN X0.here hx rfl (hb hby d1_0) rfl rfl w_k) ?_
  show Gd _ _ _ _ (s₁.setTop (mkF m 1 #[.val (.ref b), .val (.int n)] [(.ref b)]))
  obtain ⟨T1, X1, e1, st1⟩ := getF X0 hx hZ hown (host := "") (Or.inl (hw _ (List.mem_of_getElem? (i := 9) rfl))) Via.refl e0 F0 (g := (mkF m 1 #[.val (.ref b), .val (.int n)] [(.ref b)])) rfl rfl (hb hby d1_1)
  refine Gd.go (fun _ w_k => st1 _ w_k) ?_
  show Gd _ _ _ _ (T1.setTop (mkF m 4 #[.val (.ref b), .val (.int n)] [(.int k)]))
  by_cases hc2 : k < (0 : Int32)
  · refine Gd.go (fun _ w_k => XS.ifYes X1.here hx rfl (pc0 := 4) (pc' := 15) rfl (hb hby d1_4) rfl ((if0 _ _).trans (tlt hc2).1) (by decide) (by decide) w_k) ?_
    show Gd _ _ _ _ (T1.setTop (mkF m 15 #[.val (.ref b), .val (.int n)] []))
    refine Gd.go (fun _ w_k => XS.iconst X1.here hx rfl (hb hby d1_15) w_k) ?_
    show Gd _ _ _ _ (T1.setTop (mkF m 16 #[.val (.ref b), .val (.int n)] [(.int (1 : Int32))]))
    refine Gd.go (fun _ w_k => XS.goto X1.here hx rfl (pc0 := 16) (pc' := 20) rfl (hb hby d1_16) (by decide) (by decide) w_k) ?_
    show Gd _ _ _ _ (T1.setTop (mkF m 20 #[.val (.ref b), .val (.int n)] [(.int (1 : Int32))]))
    refine own_retN (t := .boolean) X1 hx hret hlk (by simp) (hb hby d1_20) ?_ (by decide) (by decide)
    exact ⟨by rw [(bI_o (Or.inl hc2))]; rfl, e1, rfl⟩
  · refine Gd.go (fun _ w_k => XS.ifNo X1.here hx rfl (hb hby d1_4) rfl ((if0 _ _).trans (flt hc2).1) w_k) ?_
    show Gd _ _ _ _ (T1.setTop (mkF m 7 #[.val (.ref b), .val (.int n)] []))
    refine Gd.go (fun _ w_k => XS.iloadN X1.here hx rfl (hb hby d1_7) rfl w_k) ?_
    show Gd _ _ _ _ (T1.setTop (mkF m 8 #[.val (.ref b), .val (.int n)] [(.int n)]))
    refine Gd.go (fun _ w_k => XS.aloadN X1.here hx rfl (hb hby d1_8) rfl rfl w_k) ?_
    show Gd _ _ _ _ (T1.setTop (mkF m 9 #[.val (.ref b), .val (.int n)] [(.ref b), (.int n)]))
    obtain ⟨T3, X3, e3, st3⟩ := getF X1 hx hZ hown (host := "") (Or.inl (hw _ (List.mem_of_getElem? (i := 9) rfl))) Via.refl e1 F0 (g := (mkF m 9 #[.val (.ref b), .val (.int n)] [(.ref b), (.int n)])) rfl rfl (hb hby d1_9)
    refine Gd.go (fun _ w_k => st3 _ w_k) ?_
    show Gd _ _ _ _ (T3.setTop (mkF m 12 #[.val (.ref b), .val (.int n)] [(.int k), (.int n)]))
    by_cases hc4 : n = k
    · refine Gd.go (fun _ w_k => XS.icmpNo X3.here hx rfl (hb hby d1_12) rfl (teq hc4).2 w_k) ?_
      show Gd _ _ _ _ (T3.setTop (mkF m 15 #[.val (.ref b), .val (.int n)] []))
      refine Gd.go (fun _ w_k => XS.iconst X3.here hx rfl (hb hby d1_15) w_k) ?_
      show Gd _ _ _ _ (T3.setTop (mkF m 16 #[.val (.ref b), .val (.int n)] [(.int (1 : Int32))]))
      refine Gd.go (fun _ w_k => XS.goto X3.here hx rfl (pc0 := 16) (pc' := 20) rfl (hb hby d1_16) (by decide) (by decide) w_k) ?_
      show Gd _ _ _ _ (T3.setTop (mkF m 20 #[.val (.ref b), .val (.int n)] [(.int (1 : Int32))]))
      refine own_retN (t := .boolean) X3 hx hret hlk (by simp) (hb hby d1_20) ?_ (by decide) (by decide)
      exact ⟨by rw [(bI_o (Or.inr hc4))]; rfl, e3, rfl⟩
    · refine Gd.go (fun _ w_k => XS.icmpYes X3.here hx rfl (pc0 := 12) (pc' := 19) rfl (hb hby d1_12) rfl (feq hc4).2 (by decide) (by decide) w_k) ?_
      show Gd _ _ _ _ (T3.setTop (mkF m 19 #[.val (.ref b), .val (.int n)] []))
      refine Gd.go (fun _ w_k => XS.iconst X3.here hx rfl (hb hby d1_19) w_k) ?_
      show Gd _ _ _ _ (T3.setTop (mkF m 20 #[.val (.ref b), .val (.int n)] [(.int (0 : Int32))]))
      refine own_retN (t := .boolean) X3 hx hret hlk (by simp) (hb hby d1_20) ?_ (by decide) (by decide)
      exact ⟨by rw [(bI_z (own_no hc2 hc4))]; rfl, e3, rfl⟩
theorem own_pn1 : plainFor x = true := by first | exact plainFor_of_name (by first | (simp [plainName, overriddenIn, x]; done) | decide +kernel) | decide +kernel
theorem ef_0 (m : MethodId) (q0 : Int32) (q1 : Int32) : entryFrame m #[(.int q0), (.int q1)] maxLocals = mkF m 0 #[.val (.int q0), .val (.int q1), .unset, .unset, .unset, .unset] [] := by first | (simp [entryFrame, mkF, argsToLocals, Value.category, maxLocals]; done) | rfl
theorem own_pd0 : parseMethodDescriptor "(I)Z" = some ⟨[.int], some .boolean⟩ := by decide +kernel
set_option maxRecDepth 65536 in
set_option maxHeartbeats 40000000 in
theorem own_law (l : Launch) (Z : State) (a0 : Array Value) (hw : ∀ d ∈ tables_1, d.before a0 Z = true) (sel cnt : Int32) (h0 : Heap) (n0 : Nat) (a1 : Addr) (S1 : Sta Z h0 "com/example/quiddity/quiddity/sparql/Function" "EQUAL" "Lcom/example/quiddity/quiddity/sparql/Function;" (.ref a1)) (E1 : Exa Z h0 a1 "com/example/quiddity/quiddity/sparql/Function$1") (F1 : Fld Z h0 a1 "com/example/quiddity/quiddity/sparql/Function" "arity" "I" (.int (2 : Int32))) (a2 : Addr) (S2 : Sta Z h0 "com/example/quiddity/quiddity/sparql/Function" "NOT_EQUAL" "Lcom/example/quiddity/quiddity/sparql/Function;" (.ref a2)) (E2 : Exa Z h0 a2 "com/example/quiddity/quiddity/sparql/Function$2") (F2 : Fld Z h0 a2 "com/example/quiddity/quiddity/sparql/Function" "arity" "I" (.int (2 : Int32))) (a3 : Addr) (S3 : Sta Z h0 "com/example/quiddity/quiddity/sparql/Function" "SAME_TERM" "Lcom/example/quiddity/quiddity/sparql/Function;" (.ref a3)) (E3 : Exa Z h0 a3 "com/example/quiddity/quiddity/sparql/Function$3") (F3 : Fld Z h0 a3 "com/example/quiddity/quiddity/sparql/Function" "arity" "I" (.int (2 : Int32))) (a4 : Addr) (S4 : Sta Z h0 "com/example/quiddity/quiddity/sparql/Function" "ADD" "Lcom/example/quiddity/quiddity/sparql/Function;" (.ref a4)) (E4 : Exa Z h0 a4 "com/example/quiddity/quiddity/sparql/Function$4") (F4 : Fld Z h0 a4 "com/example/quiddity/quiddity/sparql/Function" "arity" "I" (.int (2 : Int32))) (a5 : Addr) (S5 : Sta Z h0 "com/example/quiddity/quiddity/sparql/Function" "STR" "Lcom/example/quiddity/quiddity/sparql/Function;" (.ref a5)) (E5 : Exa Z h0 a5 "com/example/quiddity/quiddity/sparql/Function$5") (F5 : Fld Z h0 a5 "com/example/quiddity/quiddity/sparql/Function" "arity" "I" (.int (1 : Int32))) (a6 : Addr) (S6 : Sta Z h0 "com/example/quiddity/quiddity/sparql/Function" "CONCAT" "Lcom/example/quiddity/quiddity/sparql/Function;" (.ref a6)) (E6 : Exa Z h0 a6 "com/example/quiddity/quiddity/sparql/Function$6") (F6 : Fld Z h0 a6 "com/example/quiddity/quiddity/sparql/Function" "arity" "I" (.int (-1 : Int32))) (a7 : Addr) (S7 : Sta Z h0 "com/example/quiddity/quiddity/sparql/Function" "STRAFTER" "Lcom/example/quiddity/quiddity/sparql/Function;" (.ref a7)) (E7 : Exa Z h0 a7 "com/example/quiddity/quiddity/sparql/Function$7") (F7 : Fld Z h0 a7 "com/example/quiddity/quiddity/sparql/Function" "arity" "I" (.int (2 : Int32))) :
    Con l Z x code maxLocals ret tables_1 room_1 0 0 #[(.int sel), (.int cnt)] h0 (fun v h L => v = some (.int 1) ∧ Fr n0 L) := by
  refine Con.of own_pn1 ?_
  intro pg ev s_ m bl mt cd s₁ hx hby hml hown hnm hret hlk hZ X0 e0
  rw [ef_0]
  show Gd _ _ _ _ (s₁.setTop (mkF m 0 #[.val (.int sel), .val (.int cnt), .unset, .unset, .unset, .unset] []))
  refine Gd.go (fun _ w_k => XS.iloadN X0.here hx rfl (hb hby at_0) rfl w_k) ?_
  show Gd _ _ _ _ (s₁.setTop (mkF m 1 #[.val (.int sel), .val (.int cnt), .unset, .unset, .unset, .unset] [(.int sel)]))
  refine Gd.go (fun _ w_k => X0.ldcInt hx hown (mvT hZ (hw _ (List.mem_of_getElem? (i := 0) rfl))) (g := (mkF m 1 #[.val (.int sel), .val (.int cnt), .unset, .unset, .unset, .unset] [(.int sel)])) rfl (hb hby at_1) _ w_k) ?_
  show Gd _ _ _ _ (s₁.setTop (mkF m 3 #[.val (.int sel), .val (.int cnt), .unset, .unset, .unset, .unset] [(.int (2147483647 : Int32)), (.int sel)]))
  refine Gd.go (fun _ w_k => XS.iand X0.here hx rfl (hb hby at_3) rfl w_k) ?_
  show Gd _ _ _ _ (s₁.setTop (mkF m 4 #[.val (.int sel), .val (.int cnt), .unset, .unset, .unset, .unset] [(.int (sel &&& (2147483647 : Int32)))]))
  refine Gd.go (fun _ w_k => XS.bipush X0.here hx rfl (hb hby at_4) w_k) ?_
  show Gd _ _ _ _ (s₁.setTop (mkF m 6 #[.val (.int sel), .val (.int cnt), .unset, .unset, .unset, .unset] [(.int (7 : Int32)), (.int (sel &&& (2147483647 : Int32)))]))
  refine Gd.go (fun _ w_k => iremM (g := (mkF m 6 #[.val (.int sel), .val (.int cnt), .unset, .unset, .unset, .unset] [(.int (7 : Int32)), (.int (sel &&& (2147483647 : Int32)))])) X0 hx rfl (hb hby at_6) rfl (by decide) w_k) ?_
  show Gd _ _ _ _ (s₁.setTop (mkF m 7 #[.val (.int sel), .val (.int cnt), .unset, .unset, .unset, .unset] [(.int ((sel &&& (2147483647 : Int32)) % (7 : Int32)))]))
  generalize ((sel &&& (2147483647 : Int32)) % (7 : Int32)) = k
  show Gd _ _ _ _ (s₁.setTop (mkF m 7 #[.val (.int sel), .val (.int cnt), .unset, .unset, .unset, .unset] [(.int k)]))
  refine Gd.go (fun _ w_k => XS.istoreN X0.here hx rfl (hb hby at_7) rfl (l' := #[.val (.int sel), .val (.int cnt), .val (.int k), .unset, .unset, .unset]) rfl w_k) ?_
  show Gd _ _ _ _ (s₁.setTop (mkF m 8 #[.val (.int sel), .val (.int cnt), .val (.int k), .unset, .unset, .unset] []))
  refine Gd.go (fun _ w_k => XS.iloadN X0.here hx rfl (hb hby at_8) rfl w_k) ?_
  show Gd _ _ _ _ (s₁.setTop (mkF m 9 #[.val (.int sel), .val (.int cnt), .val (.int k), .unset, .unset, .unset] [(.int cnt)]))
  refine Gd.go (fun _ w_k => X0.ldcInt hx hown (mvT hZ (hw _ (List.mem_of_getElem? (i := 0) rfl))) (g := (mkF m 9 #[.val (.int sel), .val (.int cnt), .val (.int k), .unset, .unset, .unset] [(.int cnt)])) rfl (hb hby at_9) _ w_k) ?_
  show Gd _ _ _ _ (s₁.setTop (mkF m 11 #[.val (.int sel), .val (.int cnt), .val (.int k), .unset, .unset, .unset] [(.int (2147483647 : Int32)), (.int cnt)]))
  refine Gd.go (fun _ w_k => XS.iand X0.here hx rfl (hb hby at_11) rfl w_k) ?_
  show Gd _ _ _ _ (s₁.setTop (mkF m 12 #[.val (.int sel), .val (.int cnt), .val (.int k), .unset, .unset, .unset] [(.int (cnt &&& (2147483647 : Int32)))]))
  generalize (cnt &&& (2147483647 : Int32)) = n
  show Gd _ _ _ _ (s₁.setTop (mkF m 12 #[.val (.int sel), .val (.int cnt), .val (.int k), .unset, .unset, .unset] [(.int n)]))
  refine Gd.go (fun _ w_k => XS.istoreN X0.here hx rfl (hb hby at_12) rfl (l' := #[.val (.int sel), .val (.int cnt), .val (.int k), .val (.int n), .unset, .unset]) rfl w_k) ?_
  show Gd _ _ _ _ (s₁.setTop (mkF m 13 #[.val (.int sel), .val (.int cnt), .val (.int k), .val (.int n), .unset, .unset] []))
  refine Gd.go (fun _ w_k => XS.iloadN X0.here hx rfl (hb hby at_13) rfl w_k) ?_
  show Gd _ _ _ _ (s₁.setTop (mkF m 14 #[.val (.int sel), .val (.int cnt), .val (.int k), .val (.int n), .unset, .unset] [(.int k)]))
  by_cases hc1 : k = (0 : Int32)
  · refine Gd.go (fun _ w_k => XS.ifNo X0.here hx rfl (hb hby at_14) rfl ((if0 _ _).trans (teq hc1).2) w_k) ?_
    show Gd _ _ _ _ (s₁.setTop (mkF m 17 #[.val (.int sel), .val (.int cnt), .val (.int k), .val (.int n), .unset, .unset] []))
    obtain ⟨T2, X2, e2, st2⟩ := getS2 X0 hx hZ hown (host := "") (Or.inl (hw _ (List.mem_of_getElem? (i := 1) rfl))) Via.refl e0 S1 (g := (mkF m 17 #[.val (.int sel), .val (.int cnt), .val (.int k), .val (.int n), .unset, .unset] [])) rfl (hb hby at_17)
    refine Gd.go (fun _ w_k => st2 _ w_k) ?_
    show Gd _ _ _ _ (T2.setTop (mkF m 20 #[.val (.int sel), .val (.int cnt), .val (.int k), .val (.int n), .unset, .unset] [(.ref a1)]))
    refine Gd.go (fun _ w_k => XS.astore X2.here hx rfl (hb hby at_20) rfl rfl (l' := #[.val (.int sel), .val (.int cnt), .val (.int k), .val (.int n), .val (.ref a1), .unset]) rfl w_k) ?_
    show Gd _ _ _ _ (T2.setTop (mkF m 22 #[.val (.int sel), .val (.int cnt), .val (.int k), .val (.int n), .val (.ref a1), .unset] []))
    refine Gd.go (fun _ w_k => XS.iloadN X2.here hx rfl (hb hby at_22) rfl w_k) ?_
    show Gd _ _ _ _ (T2.setTop (mkF m 23 #[.val (.int sel), .val (.int cnt), .val (.int k), .val (.int n), .val (.ref a1), .unset] [(.int n)]))
    refine Gd.go (fun _ w_k => XS.iconst X2.here hx rfl (hb hby at_23) w_k) ?_
    show Gd _ _ _ _ (T2.setTop (mkF m 24 #[.val (.int sel), .val (.int cnt), .val (.int k), .val (.int n), .val (.ref a1), .unset] [(.int (2 : Int32)), (.int n)]))
    by_cases hc3 : n = (2 : Int32)
    · refine Gd.go (fun _ w_k => XS.icmpNo X2.here hx rfl (hb hby at_24) rfl (teq hc3).2 w_k) ?_
      show Gd _ _ _ _ (T2.setTop (mkF m 27 #[.val (.int sel), .val (.int cnt), .val (.int k), .val (.int n), .val (.ref a1), .unset] []))
      refine Gd.go (fun _ w_k => XS.iconst X2.here hx rfl (hb hby at_27) w_k) ?_
      show Gd _ _ _ _ (T2.setTop (mkF m 28 #[.val (.int sel), .val (.int cnt), .val (.int k), .val (.int n), .val (.ref a1), .unset] [(.int (1 : Int32))]))
      refine Gd.go (fun _ w_k => XS.goto X2.here hx rfl (pc0 := 28) (pc' := 32) rfl (hb hby at_28) (by decide) (by decide) w_k) ?_
      show Gd _ _ _ _ (T2.setTop (mkF m 32 #[.val (.int sel), .val (.int cnt), .val (.int k), .val (.int n), .val (.ref a1), .unset] [(.int (1 : Int32))]))
      refine Gd.go (fun _ w_k => XS.istore X2.here hx rfl (hb hby at_32) rfl (l' := #[.val (.int sel), .val (.int cnt), .val (.int k), .val (.int n), .val (.ref a1), .val (.int (1 : Int32))]) rfl w_k) ?_
      show Gd _ _ _ _ (T2.setTop (mkF m 34 #[.val (.int sel), .val (.int cnt), .val (.int k), .val (.int n), .val (.ref a1), .val (.int (1 : Int32))] []))
      refine Gd.go (fun _ w_k => XS.goto X2.here hx rfl (pc0 := 34) (pc' := 170) rfl (hb hby at_34) (by decide) (by decide) w_k) ?_
      show Gd _ _ _ _ (T2.setTop (mkF m 170 #[.val (.int sel), .val (.int cnt), .val (.int k), .val (.int n), .val (.ref a1), .val (.int (1 : Int32))] []))
      refine Gd.go (fun _ w_k => XS.aload X2.here hx rfl (hb hby at_170) rfl rfl w_k) ?_
      show Gd _ _ _ _ (T2.setTop (mkF m 172 #[.val (.int sel), .val (.int cnt), .val (.int k), .val (.int n), .val (.ref a1), .val (.int (1 : Int32))] [(.ref a1)]))
      refine Gd.go (fun _ w_k => XS.iloadN X2.here hx rfl (hb hby at_172) rfl w_k) ?_
      show Gd _ _ _ _ (T2.setTop (mkF m 173 #[.val (.int sel), .val (.int cnt), .val (.int k), .val (.int n), .val (.ref a1), .val (.int (1 : Int32))] [(.int n), (.ref a1)]))
      obtain ⟨T4, X4, e4, st4⟩ := own_callVP X2 hx hZ (C := "com/example/quiddity/quiddity/sparql/Function$1") (y := (⟨"com/example/quiddity/quiddity/sparql/Function", "takes", "(I)Z"⟩ : MethodName)) hown (hw _ (List.mem_of_getElem? (i := 4) rfl)) (hw _ (List.mem_of_getElem? (i := 5) rfl)) (hw _ (List.mem_of_getElem? (i := 7) rfl)) (hw _ (List.mem_of_getElem? (i := 6) rfl)) (hw _ (List.mem_of_getElem? (i := 2) rfl)) (hw _ (List.mem_of_getElem? (i := 8) rfl)) (by decide) E1 (W := 0) (own_c1 l Z a0 hw a1 (2 : Int32) n h0 F1) rfl rfl e2 (by decide) (by decide) (g := (mkF m 173 #[.val (.int sel), .val (.int cnt), .val (.int k), .val (.int n), .val (.ref a1), .val (.int (1 : Int32))] [(.int n), (.ref a1)])) rfl (by rw [hml]; rfl) (argsL := [(.int n)]) (rest := []) (lenOf own_pd0 rfl) rfl (Nat.le_of_eq rfl) (hb hby at_173) rfl
      refine Gd.go (fun _ w_k => st4 _ w_k) ?_
      show Gd _ _ _ _ (T4.setTop (mkF m 176 #[.val (.int sel), .val (.int cnt), .val (.int k), .val (.int n), .val (.ref a1), .val (.int (1 : Int32))] [(.int (bI ((2 : Int32) < 0 ∨ n = (2 : Int32))))]))
      refine Gd.go (fun _ w_k => XS.iload X4.here hx rfl (hb hby at_176) rfl w_k) ?_
      show Gd _ _ _ _ (T4.setTop (mkF m 178 #[.val (.int sel), .val (.int cnt), .val (.int k), .val (.int n), .val (.ref a1), .val (.int (1 : Int32))] [(.int (1 : Int32)), (.int (bI ((2 : Int32) < 0 ∨ n = (2 : Int32))))]))
      refine Gd.go (fun _ w_k => XS.icmpNo X4.here hx rfl (hb hby at_178) rfl (teq (bI_o (Or.inr hc3))).2 w_k) ?_
      show Gd _ _ _ _ (T4.setTop (mkF m 181 #[.val (.int sel), .val (.int cnt), .val (.int k), .val (.int n), .val (.ref a1), .val (.int (1 : Int32))] []))
      refine Gd.go (fun _ w_k => XS.iconst X4.here hx rfl (hb hby at_181) w_k) ?_
      show Gd _ _ _ _ (T4.setTop (mkF m 182 #[.val (.int sel), .val (.int cnt), .val (.int k), .val (.int n), .val (.ref a1), .val (.int (1 : Int32))] [(.int (1 : Int32))]))
      refine Gd.go (fun _ w_k => XS.goto X4.here hx rfl (pc0 := 182) (pc' := 186) rfl (hb hby at_182) (by decide) (by decide) w_k) ?_
      show Gd _ _ _ _ (T4.setTop (mkF m 186 #[.val (.int sel), .val (.int cnt), .val (.int k), .val (.int n), .val (.ref a1), .val (.int (1 : Int32))] [(.int (1 : Int32))]))
      refine own_retN (t := .boolean) X4 hx hret hlk (by simp) (hb hby at_186) ?_ (by decide) (by decide)
      exact ⟨rfl, Fr.nil n0⟩
    · refine Gd.go (fun _ w_k => XS.icmpYes X2.here hx rfl (pc0 := 24) (pc' := 31) rfl (hb hby at_24) rfl (feq hc3).2 (by decide) (by decide) w_k) ?_
      show Gd _ _ _ _ (T2.setTop (mkF m 31 #[.val (.int sel), .val (.int cnt), .val (.int k), .val (.int n), .val (.ref a1), .unset] []))
      refine Gd.go (fun _ w_k => XS.iconst X2.here hx rfl (hb hby at_31) w_k) ?_
      show Gd _ _ _ _ (T2.setTop (mkF m 32 #[.val (.int sel), .val (.int cnt), .val (.int k), .val (.int n), .val (.ref a1), .unset] [(.int (0 : Int32))]))
      refine Gd.go (fun _ w_k => XS.istore X2.here hx rfl (hb hby at_32) rfl (l' := #[.val (.int sel), .val (.int cnt), .val (.int k), .val (.int n), .val (.ref a1), .val (.int (0 : Int32))]) rfl w_k) ?_
      show Gd _ _ _ _ (T2.setTop (mkF m 34 #[.val (.int sel), .val (.int cnt), .val (.int k), .val (.int n), .val (.ref a1), .val (.int (0 : Int32))] []))
      refine Gd.go (fun _ w_k => XS.goto X2.here hx rfl (pc0 := 34) (pc' := 170) rfl (hb hby at_34) (by decide) (by decide) w_k) ?_
      show Gd _ _ _ _ (T2.setTop (mkF m 170 #[.val (.int sel), .val (.int cnt), .val (.int k), .val (.int n), .val (.ref a1), .val (.int (0 : Int32))] []))
      refine Gd.go (fun _ w_k => XS.aload X2.here hx rfl (hb hby at_170) rfl rfl w_k) ?_
      show Gd _ _ _ _ (T2.setTop (mkF m 172 #[.val (.int sel), .val (.int cnt), .val (.int k), .val (.int n), .val (.ref a1), .val (.int (0 : Int32))] [(.ref a1)]))
      refine Gd.go (fun _ w_k => XS.iloadN X2.here hx rfl (hb hby at_172) rfl w_k) ?_
      show Gd _ _ _ _ (T2.setTop (mkF m 173 #[.val (.int sel), .val (.int cnt), .val (.int k), .val (.int n), .val (.ref a1), .val (.int (0 : Int32))] [(.int n), (.ref a1)]))
      obtain ⟨T5, X5, e5, st5⟩ := own_callVP X2 hx hZ (C := "com/example/quiddity/quiddity/sparql/Function$1") (y := (⟨"com/example/quiddity/quiddity/sparql/Function", "takes", "(I)Z"⟩ : MethodName)) hown (hw _ (List.mem_of_getElem? (i := 4) rfl)) (hw _ (List.mem_of_getElem? (i := 5) rfl)) (hw _ (List.mem_of_getElem? (i := 7) rfl)) (hw _ (List.mem_of_getElem? (i := 6) rfl)) (hw _ (List.mem_of_getElem? (i := 2) rfl)) (hw _ (List.mem_of_getElem? (i := 8) rfl)) (by decide) E1 (W := 0) (own_c1 l Z a0 hw a1 (2 : Int32) n h0 F1) rfl rfl e2 (by decide) (by decide) (g := (mkF m 173 #[.val (.int sel), .val (.int cnt), .val (.int k), .val (.int n), .val (.ref a1), .val (.int (0 : Int32))] [(.int n), (.ref a1)])) rfl (by rw [hml]; rfl) (argsL := [(.int n)]) (rest := []) (lenOf own_pd0 rfl) rfl (Nat.le_of_eq rfl) (hb hby at_173) rfl
      refine Gd.go (fun _ w_k => st5 _ w_k) ?_
      show Gd _ _ _ _ (T5.setTop (mkF m 176 #[.val (.int sel), .val (.int cnt), .val (.int k), .val (.int n), .val (.ref a1), .val (.int (0 : Int32))] [(.int (bI ((2 : Int32) < 0 ∨ n = (2 : Int32))))]))
      refine Gd.go (fun _ w_k => XS.iload X5.here hx rfl (hb hby at_176) rfl w_k) ?_
      show Gd _ _ _ _ (T5.setTop (mkF m 178 #[.val (.int sel), .val (.int cnt), .val (.int k), .val (.int n), .val (.ref a1), .val (.int (0 : Int32))] [(.int (0 : Int32)), (.int (bI ((2 : Int32) < 0 ∨ n = (2 : Int32))))]))
      refine Gd.go (fun _ w_k => XS.icmpNo X5.here hx rfl (hb hby at_178) rfl (teq (bI_z (own_no (by decide) hc3))).2 w_k) ?_
      show Gd _ _ _ _ (T5.setTop (mkF m 181 #[.val (.int sel), .val (.int cnt), .val (.int k), .val (.int n), .val (.ref a1), .val (.int (0 : Int32))] []))
      refine Gd.go (fun _ w_k => XS.iconst X5.here hx rfl (hb hby at_181) w_k) ?_
      show Gd _ _ _ _ (T5.setTop (mkF m 182 #[.val (.int sel), .val (.int cnt), .val (.int k), .val (.int n), .val (.ref a1), .val (.int (0 : Int32))] [(.int (1 : Int32))]))
      refine Gd.go (fun _ w_k => XS.goto X5.here hx rfl (pc0 := 182) (pc' := 186) rfl (hb hby at_182) (by decide) (by decide) w_k) ?_
      show Gd _ _ _ _ (T5.setTop (mkF m 186 #[.val (.int sel), .val (.int cnt), .val (.int k), .val (.int n), .val (.ref a1), .val (.int (0 : Int32))] [(.int (1 : Int32))]))
      refine own_retN (t := .boolean) X5 hx hret hlk (by simp) (hb hby at_186) ?_ (by decide) (by decide)
      exact ⟨rfl, Fr.nil n0⟩
  · refine Gd.go (fun _ w_k => XS.ifYes X0.here hx rfl (pc0 := 14) (pc' := 37) rfl (hb hby at_14) rfl ((if0 _ _).trans (feq hc1).2) (by decide) (by decide) w_k) ?_
    show Gd _ _ _ _ (s₁.setTop (mkF m 37 #[.val (.int sel), .val (.int cnt), .val (.int k), .val (.int n), .unset, .unset] []))
    refine Gd.go (fun _ w_k => XS.iloadN X0.here hx rfl (hb hby at_37) rfl w_k) ?_
    show Gd _ _ _ _ (s₁.setTop (mkF m 38 #[.val (.int sel), .val (.int cnt), .val (.int k), .val (.int n), .unset, .unset] [(.int k)]))
    refine Gd.go (fun _ w_k => XS.iconst X0.here hx rfl (hb hby at_38) w_k) ?_
    show Gd _ _ _ _ (s₁.setTop (mkF m 39 #[.val (.int sel), .val (.int cnt), .val (.int k), .val (.int n), .unset, .unset] [(.int (1 : Int32)), (.int k)]))
    by_cases hc6 : k = (1 : Int32)
    · refine Gd.go (fun _ w_k => XS.icmpNo X0.here hx rfl (hb hby at_39) rfl (teq hc6).2 w_k) ?_
      show Gd _ _ _ _ (s₁.setTop (mkF m 42 #[.val (.int sel), .val (.int cnt), .val (.int k), .val (.int n), .unset, .unset] []))
      obtain ⟨T7, X7, e7, st7⟩ := getS2 X0 hx hZ hown (host := "") (Or.inl (hw _ (List.mem_of_getElem? (i := 15) rfl))) Via.refl e0 S2 (g := (mkF m 42 #[.val (.int sel), .val (.int cnt), .val (.int k), .val (.int n), .unset, .unset] [])) rfl (hb hby at_42)
      refine Gd.go (fun _ w_k => st7 _ w_k) ?_
      show Gd _ _ _ _ (T7.setTop (mkF m 45 #[.val (.int sel), .val (.int cnt), .val (.int k), .val (.int n), .unset, .unset] [(.ref a2)]))
      refine Gd.go (fun _ w_k => XS.astore X7.here hx rfl (hb hby at_45) rfl rfl (l' := #[.val (.int sel), .val (.int cnt), .val (.int k), .val (.int n), .val (.ref a2), .unset]) rfl w_k) ?_
      show Gd _ _ _ _ (T7.setTop (mkF m 47 #[.val (.int sel), .val (.int cnt), .val (.int k), .val (.int n), .val (.ref a2), .unset] []))
      refine Gd.go (fun _ w_k => XS.iloadN X7.here hx rfl (hb hby at_47) rfl w_k) ?_
      show Gd _ _ _ _ (T7.setTop (mkF m 48 #[.val (.int sel), .val (.int cnt), .val (.int k), .val (.int n), .val (.ref a2), .unset] [(.int n)]))
      refine Gd.go (fun _ w_k => XS.iconst X7.here hx rfl (hb hby at_48) w_k) ?_
      show Gd _ _ _ _ (T7.setTop (mkF m 49 #[.val (.int sel), .val (.int cnt), .val (.int k), .val (.int n), .val (.ref a2), .unset] [(.int (2 : Int32)), (.int n)]))
      by_cases hc8 : n = (2 : Int32)
      · refine Gd.go (fun _ w_k => XS.icmpNo X7.here hx rfl (hb hby at_49) rfl (teq hc8).2 w_k) ?_
        show Gd _ _ _ _ (T7.setTop (mkF m 52 #[.val (.int sel), .val (.int cnt), .val (.int k), .val (.int n), .val (.ref a2), .unset] []))
        refine Gd.go (fun _ w_k => XS.iconst X7.here hx rfl (hb hby at_52) w_k) ?_
        show Gd _ _ _ _ (T7.setTop (mkF m 53 #[.val (.int sel), .val (.int cnt), .val (.int k), .val (.int n), .val (.ref a2), .unset] [(.int (1 : Int32))]))
        refine Gd.go (fun _ w_k => XS.goto X7.here hx rfl (pc0 := 53) (pc' := 57) rfl (hb hby at_53) (by decide) (by decide) w_k) ?_
        show Gd _ _ _ _ (T7.setTop (mkF m 57 #[.val (.int sel), .val (.int cnt), .val (.int k), .val (.int n), .val (.ref a2), .unset] [(.int (1 : Int32))]))
        refine Gd.go (fun _ w_k => XS.istore X7.here hx rfl (hb hby at_57) rfl (l' := #[.val (.int sel), .val (.int cnt), .val (.int k), .val (.int n), .val (.ref a2), .val (.int (1 : Int32))]) rfl w_k) ?_
        show Gd _ _ _ _ (T7.setTop (mkF m 59 #[.val (.int sel), .val (.int cnt), .val (.int k), .val (.int n), .val (.ref a2), .val (.int (1 : Int32))] []))
        refine Gd.go (fun _ w_k => XS.goto X7.here hx rfl (pc0 := 59) (pc' := 170) rfl (hb hby at_59) (by decide) (by decide) w_k) ?_
        show Gd _ _ _ _ (T7.setTop (mkF m 170 #[.val (.int sel), .val (.int cnt), .val (.int k), .val (.int n), .val (.ref a2), .val (.int (1 : Int32))] []))
        refine Gd.go (fun _ w_k => XS.aload X7.here hx rfl (hb hby at_170) rfl rfl w_k) ?_
        show Gd _ _ _ _ (T7.setTop (mkF m 172 #[.val (.int sel), .val (.int cnt), .val (.int k), .val (.int n), .val (.ref a2), .val (.int (1 : Int32))] [(.ref a2)]))
        refine Gd.go (fun _ w_k => XS.iloadN X7.here hx rfl (hb hby at_172) rfl w_k) ?_
        show Gd _ _ _ _ (T7.setTop (mkF m 173 #[.val (.int sel), .val (.int cnt), .val (.int k), .val (.int n), .val (.ref a2), .val (.int (1 : Int32))] [(.int n), (.ref a2)]))
        obtain ⟨T9, X9, e9, st9⟩ := own_callVP X7 hx hZ (C := "com/example/quiddity/quiddity/sparql/Function$2") (y := (⟨"com/example/quiddity/quiddity/sparql/Function", "takes", "(I)Z"⟩ : MethodName)) hown (hw _ (List.mem_of_getElem? (i := 4) rfl)) (hw _ (List.mem_of_getElem? (i := 5) rfl)) (hw _ (List.mem_of_getElem? (i := 17) rfl)) (hw _ (List.mem_of_getElem? (i := 6) rfl)) (hw _ (List.mem_of_getElem? (i := 2) rfl)) (hw _ (List.mem_of_getElem? (i := 8) rfl)) (by decide) E2 (W := 0) (own_c1 l Z a0 hw a2 (2 : Int32) n h0 F2) rfl rfl e7 (by decide) (by decide) (g := (mkF m 173 #[.val (.int sel), .val (.int cnt), .val (.int k), .val (.int n), .val (.ref a2), .val (.int (1 : Int32))] [(.int n), (.ref a2)])) rfl (by rw [hml]; rfl) (argsL := [(.int n)]) (rest := []) (lenOf own_pd0 rfl) rfl (Nat.le_of_eq rfl) (hb hby at_173) rfl
        refine Gd.go (fun _ w_k => st9 _ w_k) ?_
        show Gd _ _ _ _ (T9.setTop (mkF m 176 #[.val (.int sel), .val (.int cnt), .val (.int k), .val (.int n), .val (.ref a2), .val (.int (1 : Int32))] [(.int (bI ((2 : Int32) < 0 ∨ n = (2 : Int32))))]))
        refine Gd.go (fun _ w_k => XS.iload X9.here hx rfl (hb hby at_176) rfl w_k) ?_
        show Gd _ _ _ _ (T9.setTop (mkF m 178 #[.val (.int sel), .val (.int cnt), .val (.int k), .val (.int n), .val (.ref a2), .val (.int (1 : Int32))] [(.int (1 : Int32)), (.int (bI ((2 : Int32) < 0 ∨ n = (2 : Int32))))]))
        refine Gd.go (fun _ w_k => XS.icmpNo X9.here hx rfl (hb hby at_178) rfl (teq (bI_o (Or.inr hc8))).2 w_k) ?_
        show Gd _ _ _ _ (T9.setTop (mkF m 181 #[.val (.int sel), .val (.int cnt), .val (.int k), .val (.int n), .val (.ref a2), .val (.int (1 : Int32))] []))
        refine Gd.go (fun _ w_k => XS.iconst X9.here hx rfl (hb hby at_181) w_k) ?_
        show Gd _ _ _ _ (T9.setTop (mkF m 182 #[.val (.int sel), .val (.int cnt), .val (.int k), .val (.int n), .val (.ref a2), .val (.int (1 : Int32))] [(.int (1 : Int32))]))
        refine Gd.go (fun _ w_k => XS.goto X9.here hx rfl (pc0 := 182) (pc' := 186) rfl (hb hby at_182) (by decide) (by decide) w_k) ?_
        show Gd _ _ _ _ (T9.setTop (mkF m 186 #[.val (.int sel), .val (.int cnt), .val (.int k), .val (.int n), .val (.ref a2), .val (.int (1 : Int32))] [(.int (1 : Int32))]))
        refine own_retN (t := .boolean) X9 hx hret hlk (by simp) (hb hby at_186) ?_ (by decide) (by decide)
        exact ⟨rfl, Fr.nil n0⟩
      · refine Gd.go (fun _ w_k => XS.icmpYes X7.here hx rfl (pc0 := 49) (pc' := 56) rfl (hb hby at_49) rfl (feq hc8).2 (by decide) (by decide) w_k) ?_
        show Gd _ _ _ _ (T7.setTop (mkF m 56 #[.val (.int sel), .val (.int cnt), .val (.int k), .val (.int n), .val (.ref a2), .unset] []))
        refine Gd.go (fun _ w_k => XS.iconst X7.here hx rfl (hb hby at_56) w_k) ?_
        show Gd _ _ _ _ (T7.setTop (mkF m 57 #[.val (.int sel), .val (.int cnt), .val (.int k), .val (.int n), .val (.ref a2), .unset] [(.int (0 : Int32))]))
        refine Gd.go (fun _ w_k => XS.istore X7.here hx rfl (hb hby at_57) rfl (l' := #[.val (.int sel), .val (.int cnt), .val (.int k), .val (.int n), .val (.ref a2), .val (.int (0 : Int32))]) rfl w_k) ?_
        show Gd _ _ _ _ (T7.setTop (mkF m 59 #[.val (.int sel), .val (.int cnt), .val (.int k), .val (.int n), .val (.ref a2), .val (.int (0 : Int32))] []))
        refine Gd.go (fun _ w_k => XS.goto X7.here hx rfl (pc0 := 59) (pc' := 170) rfl (hb hby at_59) (by decide) (by decide) w_k) ?_
        show Gd _ _ _ _ (T7.setTop (mkF m 170 #[.val (.int sel), .val (.int cnt), .val (.int k), .val (.int n), .val (.ref a2), .val (.int (0 : Int32))] []))
        refine Gd.go (fun _ w_k => XS.aload X7.here hx rfl (hb hby at_170) rfl rfl w_k) ?_
        show Gd _ _ _ _ (T7.setTop (mkF m 172 #[.val (.int sel), .val (.int cnt), .val (.int k), .val (.int n), .val (.ref a2), .val (.int (0 : Int32))] [(.ref a2)]))
        refine Gd.go (fun _ w_k => XS.iloadN X7.here hx rfl (hb hby at_172) rfl w_k) ?_
        show Gd _ _ _ _ (T7.setTop (mkF m 173 #[.val (.int sel), .val (.int cnt), .val (.int k), .val (.int n), .val (.ref a2), .val (.int (0 : Int32))] [(.int n), (.ref a2)]))
        obtain ⟨T10, X10, e10, st10⟩ := own_callVP X7 hx hZ (C := "com/example/quiddity/quiddity/sparql/Function$2") (y := (⟨"com/example/quiddity/quiddity/sparql/Function", "takes", "(I)Z"⟩ : MethodName)) hown (hw _ (List.mem_of_getElem? (i := 4) rfl)) (hw _ (List.mem_of_getElem? (i := 5) rfl)) (hw _ (List.mem_of_getElem? (i := 17) rfl)) (hw _ (List.mem_of_getElem? (i := 6) rfl)) (hw _ (List.mem_of_getElem? (i := 2) rfl)) (hw _ (List.mem_of_getElem? (i := 8) rfl)) (by decide) E2 (W := 0) (own_c1 l Z a0 hw a2 (2 : Int32) n h0 F2) rfl rfl e7 (by decide) (by decide) (g := (mkF m 173 #[.val (.int sel), .val (.int cnt), .val (.int k), .val (.int n), .val (.ref a2), .val (.int (0 : Int32))] [(.int n), (.ref a2)])) rfl (by rw [hml]; rfl) (argsL := [(.int n)]) (rest := []) (lenOf own_pd0 rfl) rfl (Nat.le_of_eq rfl) (hb hby at_173) rfl
        refine Gd.go (fun _ w_k => st10 _ w_k) ?_
        show Gd _ _ _ _ (T10.setTop (mkF m 176 #[.val (.int sel), .val (.int cnt), .val (.int k), .val (.int n), .val (.ref a2), .val (.int (0 : Int32))] [(.int (bI ((2 : Int32) < 0 ∨ n = (2 : Int32))))]))
        refine Gd.go (fun _ w_k => XS.iload X10.here hx rfl (hb hby at_176) rfl w_k) ?_
        show Gd _ _ _ _ (T10.setTop (mkF m 178 #[.val (.int sel), .val (.int cnt), .val (.int k), .val (.int n), .val (.ref a2), .val (.int (0 : Int32))] [(.int (0 : Int32)), (.int (bI ((2 : Int32) < 0 ∨ n = (2 : Int32))))]))
        refine Gd.go (fun _ w_k => XS.icmpNo X10.here hx rfl (hb hby at_178) rfl (teq (bI_z (own_no (by decide) hc8))).2 w_k) ?_
        show Gd _ _ _ _ (T10.setTop (mkF m 181 #[.val (.int sel), .val (.int cnt), .val (.int k), .val (.int n), .val (.ref a2), .val (.int (0 : Int32))] []))
        refine Gd.go (fun _ w_k => XS.iconst X10.here hx rfl (hb hby at_181) w_k) ?_
        show Gd _ _ _ _ (T10.setTop (mkF m 182 #[.val (.int sel), .val (.int cnt), .val (.int k), .val (.int n), .val (.ref a2), .val (.int (0 : Int32))] [(.int (1 : Int32))]))
        refine Gd.go (fun _ w_k => XS.goto X10.here hx rfl (pc0 := 182) (pc' := 186) rfl (hb hby at_182) (by decide) (by decide) w_k) ?_
        show Gd _ _ _ _ (T10.setTop (mkF m 186 #[.val (.int sel), .val (.int cnt), .val (.int k), .val (.int n), .val (.ref a2), .val (.int (0 : Int32))] [(.int (1 : Int32))]))
        refine own_retN (t := .boolean) X10 hx hret hlk (by simp) (hb hby at_186) ?_ (by decide) (by decide)
        exact ⟨rfl, Fr.nil n0⟩
    · refine Gd.go (fun _ w_k => XS.icmpYes X0.here hx rfl (pc0 := 39) (pc' := 62) rfl (hb hby at_39) rfl (feq hc6).2 (by decide) (by decide) w_k) ?_
      show Gd _ _ _ _ (s₁.setTop (mkF m 62 #[.val (.int sel), .val (.int cnt), .val (.int k), .val (.int n), .unset, .unset] []))
      refine Gd.go (fun _ w_k => XS.iloadN X0.here hx rfl (hb hby at_62) rfl w_k) ?_
      show Gd _ _ _ _ (s₁.setTop (mkF m 63 #[.val (.int sel), .val (.int cnt), .val (.int k), .val (.int n), .unset, .unset] [(.int k)]))
      refine Gd.go (fun _ w_k => XS.iconst X0.here hx rfl (hb hby at_63) w_k) ?_
      show Gd _ _ _ _ (s₁.setTop (mkF m 64 #[.val (.int sel), .val (.int cnt), .val (.int k), .val (.int n), .unset, .unset] [(.int (2 : Int32)), (.int k)]))
      by_cases hc11 : k = (2 : Int32)
      · refine Gd.go (fun _ w_k => XS.icmpNo X0.here hx rfl (hb hby at_64) rfl (teq hc11).2 w_k) ?_
        show Gd _ _ _ _ (s₁.setTop (mkF m 67 #[.val (.int sel), .val (.int cnt), .val (.int k), .val (.int n), .unset, .unset] []))
        obtain ⟨T12, X12, e12, st12⟩ := getS2 X0 hx hZ hown (host := "") (Or.inl (hw _ (List.mem_of_getElem? (i := 31) rfl))) Via.refl e0 S3 (g := (mkF m 67 #[.val (.int sel), .val (.int cnt), .val (.int k), .val (.int n), .unset, .unset] [])) rfl (hb hby at_67)
        refine Gd.go (fun _ w_k => st12 _ w_k) ?_
        show Gd _ _ _ _ (T12.setTop (mkF m 70 #[.val (.int sel), .val (.int cnt), .val (.int k), .val (.int n), .unset, .unset] [(.ref a3)]))
        refine Gd.go (fun _ w_k => XS.astore X12.here hx rfl (hb hby at_70) rfl rfl (l' := #[.val (.int sel), .val (.int cnt), .val (.int k), .val (.int n), .val (.ref a3), .unset]) rfl w_k) ?_
        show Gd _ _ _ _ (T12.setTop (mkF m 72 #[.val (.int sel), .val (.int cnt), .val (.int k), .val (.int n), .val (.ref a3), .unset] []))
        refine Gd.go (fun _ w_k => XS.iloadN X12.here hx rfl (hb hby at_72) rfl w_k) ?_
        show Gd _ _ _ _ (T12.setTop (mkF m 73 #[.val (.int sel), .val (.int cnt), .val (.int k), .val (.int n), .val (.ref a3), .unset] [(.int n)]))
        refine Gd.go (fun _ w_k => XS.iconst X12.here hx rfl (hb hby at_73) w_k) ?_
        show Gd _ _ _ _ (T12.setTop (mkF m 74 #[.val (.int sel), .val (.int cnt), .val (.int k), .val (.int n), .val (.ref a3), .unset] [(.int (2 : Int32)), (.int n)]))
        by_cases hc13 : n = (2 : Int32)
        · refine Gd.go (fun _ w_k => XS.icmpNo X12.here hx rfl (hb hby at_74) rfl (teq hc13).2 w_k) ?_
          show Gd _ _ _ _ (T12.setTop (mkF m 77 #[.val (.int sel), .val (.int cnt), .val (.int k), .val (.int n), .val (.ref a3), .unset] []))
          refine Gd.go (fun _ w_k => XS.iconst X12.here hx rfl (hb hby at_77) w_k) ?_
          show Gd _ _ _ _ (T12.setTop (mkF m 78 #[.val (.int sel), .val (.int cnt), .val (.int k), .val (.int n), .val (.ref a3), .unset] [(.int (1 : Int32))]))
          refine Gd.go (fun _ w_k => XS.goto X12.here hx rfl (pc0 := 78) (pc' := 82) rfl (hb hby at_78) (by decide) (by decide) w_k) ?_
          show Gd _ _ _ _ (T12.setTop (mkF m 82 #[.val (.int sel), .val (.int cnt), .val (.int k), .val (.int n), .val (.ref a3), .unset] [(.int (1 : Int32))]))
          refine Gd.go (fun _ w_k => XS.istore X12.here hx rfl (hb hby at_82) rfl (l' := #[.val (.int sel), .val (.int cnt), .val (.int k), .val (.int n), .val (.ref a3), .val (.int (1 : Int32))]) rfl w_k) ?_
          show Gd _ _ _ _ (T12.setTop (mkF m 84 #[.val (.int sel), .val (.int cnt), .val (.int k), .val (.int n), .val (.ref a3), .val (.int (1 : Int32))] []))
          refine Gd.go (fun _ w_k => XS.goto X12.here hx rfl (pc0 := 84) (pc' := 170) rfl (hb hby at_84) (by decide) (by decide) w_k) ?_
          show Gd _ _ _ _ (T12.setTop (mkF m 170 #[.val (.int sel), .val (.int cnt), .val (.int k), .val (.int n), .val (.ref a3), .val (.int (1 : Int32))] []))
          refine Gd.go (fun _ w_k => XS.aload X12.here hx rfl (hb hby at_170) rfl rfl w_k) ?_
          show Gd _ _ _ _ (T12.setTop (mkF m 172 #[.val (.int sel), .val (.int cnt), .val (.int k), .val (.int n), .val (.ref a3), .val (.int (1 : Int32))] [(.ref a3)]))
          refine Gd.go (fun _ w_k => XS.iloadN X12.here hx rfl (hb hby at_172) rfl w_k) ?_
          show Gd _ _ _ _ (T12.setTop (mkF m 173 #[.val (.int sel), .val (.int cnt), .val (.int k), .val (.int n), .val (.ref a3), .val (.int (1 : Int32))] [(.int n), (.ref a3)]))
          obtain ⟨T14, X14, e14, st14⟩ := own_callVP X12 hx hZ (C := "com/example/quiddity/quiddity/sparql/Function$3") (y := (⟨"com/example/quiddity/quiddity/sparql/Function", "takes", "(I)Z"⟩ : MethodName)) hown (hw _ (List.mem_of_getElem? (i := 4) rfl)) (hw _ (List.mem_of_getElem? (i := 5) rfl)) (hw _ (List.mem_of_getElem? (i := 33) rfl)) (hw _ (List.mem_of_getElem? (i := 6) rfl)) (hw _ (List.mem_of_getElem? (i := 2) rfl)) (hw _ (List.mem_of_getElem? (i := 8) rfl)) (by decide) E3 (W := 0) (own_c1 l Z a0 hw a3 (2 : Int32) n h0 F3) rfl rfl e12 (by decide) (by decide) (g := (mkF m 173 #[.val (.int sel), .val (.int cnt), .val (.int k), .val (.int n), .val (.ref a3), .val (.int (1 : Int32))] [(.int n), (.ref a3)])) rfl (by rw [hml]; rfl) (argsL := [(.int n)]) (rest := []) (lenOf own_pd0 rfl) rfl (Nat.le_of_eq rfl) (hb hby at_173) rfl
          refine Gd.go (fun _ w_k => st14 _ w_k) ?_
          show Gd _ _ _ _ (T14.setTop (mkF m 176 #[.val (.int sel), .val (.int cnt), .val (.int k), .val (.int n), .val (.ref a3), .val (.int (1 : Int32))] [(.int (bI ((2 : Int32) < 0 ∨ n = (2 : Int32))))]))
          refine Gd.go (fun _ w_k => XS.iload X14.here hx rfl (hb hby at_176) rfl w_k) ?_
          show Gd _ _ _ _ (T14.setTop (mkF m 178 #[.val (.int sel), .val (.int cnt), .val (.int k), .val (.int n), .val (.ref a3), .val (.int (1 : Int32))] [(.int (1 : Int32)), (.int (bI ((2 : Int32) < 0 ∨ n = (2 : Int32))))]))
          refine Gd.go (fun _ w_k => XS.icmpNo X14.here hx rfl (hb hby at_178) rfl (teq (bI_o (Or.inr hc13))).2 w_k) ?_
          show Gd _ _ _ _ (T14.setTop (mkF m 181 #[.val (.int sel), .val (.int cnt), .val (.int k), .val (.int n), .val (.ref a3), .val (.int (1 : Int32))] []))
          refine Gd.go (fun _ w_k => XS.iconst X14.here hx rfl (hb hby at_181) w_k) ?_
          show Gd _ _ _ _ (T14.setTop (mkF m 182 #[.val (.int sel), .val (.int cnt), .val (.int k), .val (.int n), .val (.ref a3), .val (.int (1 : Int32))] [(.int (1 : Int32))]))
          refine Gd.go (fun _ w_k => XS.goto X14.here hx rfl (pc0 := 182) (pc' := 186) rfl (hb hby at_182) (by decide) (by decide) w_k) ?_
          show Gd _ _ _ _ (T14.setTop (mkF m 186 #[.val (.int sel), .val (.int cnt), .val (.int k), .val (.int n), .val (.ref a3), .val (.int (1 : Int32))] [(.int (1 : Int32))]))
          refine own_retN (t := .boolean) X14 hx hret hlk (by simp) (hb hby at_186) ?_ (by decide) (by decide)
          exact ⟨rfl, Fr.nil n0⟩
        · refine Gd.go (fun _ w_k => XS.icmpYes X12.here hx rfl (pc0 := 74) (pc' := 81) rfl (hb hby at_74) rfl (feq hc13).2 (by decide) (by decide) w_k) ?_
          show Gd _ _ _ _ (T12.setTop (mkF m 81 #[.val (.int sel), .val (.int cnt), .val (.int k), .val (.int n), .val (.ref a3), .unset] []))
          refine Gd.go (fun _ w_k => XS.iconst X12.here hx rfl (hb hby at_81) w_k) ?_
          show Gd _ _ _ _ (T12.setTop (mkF m 82 #[.val (.int sel), .val (.int cnt), .val (.int k), .val (.int n), .val (.ref a3), .unset] [(.int (0 : Int32))]))
          refine Gd.go (fun _ w_k => XS.istore X12.here hx rfl (hb hby at_82) rfl (l' := #[.val (.int sel), .val (.int cnt), .val (.int k), .val (.int n), .val (.ref a3), .val (.int (0 : Int32))]) rfl w_k) ?_
          show Gd _ _ _ _ (T12.setTop (mkF m 84 #[.val (.int sel), .val (.int cnt), .val (.int k), .val (.int n), .val (.ref a3), .val (.int (0 : Int32))] []))
          refine Gd.go (fun _ w_k => XS.goto X12.here hx rfl (pc0 := 84) (pc' := 170) rfl (hb hby at_84) (by decide) (by decide) w_k) ?_
          show Gd _ _ _ _ (T12.setTop (mkF m 170 #[.val (.int sel), .val (.int cnt), .val (.int k), .val (.int n), .val (.ref a3), .val (.int (0 : Int32))] []))
          refine Gd.go (fun _ w_k => XS.aload X12.here hx rfl (hb hby at_170) rfl rfl w_k) ?_
          show Gd _ _ _ _ (T12.setTop (mkF m 172 #[.val (.int sel), .val (.int cnt), .val (.int k), .val (.int n), .val (.ref a3), .val (.int (0 : Int32))] [(.ref a3)]))
          refine Gd.go (fun _ w_k => XS.iloadN X12.here hx rfl (hb hby at_172) rfl w_k) ?_
          show Gd _ _ _ _ (T12.setTop (mkF m 173 #[.val (.int sel), .val (.int cnt), .val (.int k), .val (.int n), .val (.ref a3), .val (.int (0 : Int32))] [(.int n), (.ref a3)]))
          obtain ⟨T15, X15, e15, st15⟩ := own_callVP X12 hx hZ (C := "com/example/quiddity/quiddity/sparql/Function$3") (y := (⟨"com/example/quiddity/quiddity/sparql/Function", "takes", "(I)Z"⟩ : MethodName)) hown (hw _ (List.mem_of_getElem? (i := 4) rfl)) (hw _ (List.mem_of_getElem? (i := 5) rfl)) (hw _ (List.mem_of_getElem? (i := 33) rfl)) (hw _ (List.mem_of_getElem? (i := 6) rfl)) (hw _ (List.mem_of_getElem? (i := 2) rfl)) (hw _ (List.mem_of_getElem? (i := 8) rfl)) (by decide) E3 (W := 0) (own_c1 l Z a0 hw a3 (2 : Int32) n h0 F3) rfl rfl e12 (by decide) (by decide) (g := (mkF m 173 #[.val (.int sel), .val (.int cnt), .val (.int k), .val (.int n), .val (.ref a3), .val (.int (0 : Int32))] [(.int n), (.ref a3)])) rfl (by rw [hml]; rfl) (argsL := [(.int n)]) (rest := []) (lenOf own_pd0 rfl) rfl (Nat.le_of_eq rfl) (hb hby at_173) rfl
          refine Gd.go (fun _ w_k => st15 _ w_k) ?_
          show Gd _ _ _ _ (T15.setTop (mkF m 176 #[.val (.int sel), .val (.int cnt), .val (.int k), .val (.int n), .val (.ref a3), .val (.int (0 : Int32))] [(.int (bI ((2 : Int32) < 0 ∨ n = (2 : Int32))))]))
          refine Gd.go (fun _ w_k => XS.iload X15.here hx rfl (hb hby at_176) rfl w_k) ?_
          show Gd _ _ _ _ (T15.setTop (mkF m 178 #[.val (.int sel), .val (.int cnt), .val (.int k), .val (.int n), .val (.ref a3), .val (.int (0 : Int32))] [(.int (0 : Int32)), (.int (bI ((2 : Int32) < 0 ∨ n = (2 : Int32))))]))
          refine Gd.go (fun _ w_k => XS.icmpNo X15.here hx rfl (hb hby at_178) rfl (teq (bI_z (own_no (by decide) hc13))).2 w_k) ?_
          show Gd _ _ _ _ (T15.setTop (mkF m 181 #[.val (.int sel), .val (.int cnt), .val (.int k), .val (.int n), .val (.ref a3), .val (.int (0 : Int32))] []))
          refine Gd.go (fun _ w_k => XS.iconst X15.here hx rfl (hb hby at_181) w_k) ?_
          show Gd _ _ _ _ (T15.setTop (mkF m 182 #[.val (.int sel), .val (.int cnt), .val (.int k), .val (.int n), .val (.ref a3), .val (.int (0 : Int32))] [(.int (1 : Int32))]))
          refine Gd.go (fun _ w_k => XS.goto X15.here hx rfl (pc0 := 182) (pc' := 186) rfl (hb hby at_182) (by decide) (by decide) w_k) ?_
          show Gd _ _ _ _ (T15.setTop (mkF m 186 #[.val (.int sel), .val (.int cnt), .val (.int k), .val (.int n), .val (.ref a3), .val (.int (0 : Int32))] [(.int (1 : Int32))]))
          refine own_retN (t := .boolean) X15 hx hret hlk (by simp) (hb hby at_186) ?_ (by decide) (by decide)
          exact ⟨rfl, Fr.nil n0⟩
      · refine Gd.go (fun _ w_k => XS.icmpYes X0.here hx rfl (pc0 := 64) (pc' := 87) rfl (hb hby at_64) rfl (feq hc11).2 (by decide) (by decide) w_k) ?_
        show Gd _ _ _ _ (s₁.setTop (mkF m 87 #[.val (.int sel), .val (.int cnt), .val (.int k), .val (.int n), .unset, .unset] []))
        refine Gd.go (fun _ w_k => XS.iloadN X0.here hx rfl (hb hby at_87) rfl w_k) ?_
        show Gd _ _ _ _ (s₁.setTop (mkF m 88 #[.val (.int sel), .val (.int cnt), .val (.int k), .val (.int n), .unset, .unset] [(.int k)]))
        refine Gd.go (fun _ w_k => XS.iconst X0.here hx rfl (hb hby at_88) w_k) ?_
        show Gd _ _ _ _ (s₁.setTop (mkF m 89 #[.val (.int sel), .val (.int cnt), .val (.int k), .val (.int n), .unset, .unset] [(.int (3 : Int32)), (.int k)]))
        by_cases hc16 : k = (3 : Int32)
        · refine Gd.go (fun _ w_k => XS.icmpNo X0.here hx rfl (hb hby at_89) rfl (teq hc16).2 w_k) ?_
          show Gd _ _ _ _ (s₁.setTop (mkF m 92 #[.val (.int sel), .val (.int cnt), .val (.int k), .val (.int n), .unset, .unset] []))
          obtain ⟨T17, X17, e17, st17⟩ := getS2 X0 hx hZ hown (host := "") (Or.inl (hw _ (List.mem_of_getElem? (i := 11) rfl))) Via.refl e0 S4 (g := (mkF m 92 #[.val (.int sel), .val (.int cnt), .val (.int k), .val (.int n), .unset, .unset] [])) rfl (hb hby at_92)
          refine Gd.go (fun _ w_k => st17 _ w_k) ?_
          show Gd _ _ _ _ (T17.setTop (mkF m 95 #[.val (.int sel), .val (.int cnt), .val (.int k), .val (.int n), .unset, .unset] [(.ref a4)]))
          refine Gd.go (fun _ w_k => XS.astore X17.here hx rfl (hb hby at_95) rfl rfl (l' := #[.val (.int sel), .val (.int cnt), .val (.int k), .val (.int n), .val (.ref a4), .unset]) rfl w_k) ?_
          show Gd _ _ _ _ (T17.setTop (mkF m 97 #[.val (.int sel), .val (.int cnt), .val (.int k), .val (.int n), .val (.ref a4), .unset] []))
          refine Gd.go (fun _ w_k => XS.iloadN X17.here hx rfl (hb hby at_97) rfl w_k) ?_
          show Gd _ _ _ _ (T17.setTop (mkF m 98 #[.val (.int sel), .val (.int cnt), .val (.int k), .val (.int n), .val (.ref a4), .unset] [(.int n)]))
          refine Gd.go (fun _ w_k => XS.iconst X17.here hx rfl (hb hby at_98) w_k) ?_
          show Gd _ _ _ _ (T17.setTop (mkF m 99 #[.val (.int sel), .val (.int cnt), .val (.int k), .val (.int n), .val (.ref a4), .unset] [(.int (2 : Int32)), (.int n)]))
          by_cases hc18 : n = (2 : Int32)
          · refine Gd.go (fun _ w_k => XS.icmpNo X17.here hx rfl (hb hby at_99) rfl (teq hc18).2 w_k) ?_
            show Gd _ _ _ _ (T17.setTop (mkF m 102 #[.val (.int sel), .val (.int cnt), .val (.int k), .val (.int n), .val (.ref a4), .unset] []))
            refine Gd.go (fun _ w_k => XS.iconst X17.here hx rfl (hb hby at_102) w_k) ?_
            show Gd _ _ _ _ (T17.setTop (mkF m 103 #[.val (.int sel), .val (.int cnt), .val (.int k), .val (.int n), .val (.ref a4), .unset] [(.int (1 : Int32))]))
            refine Gd.go (fun _ w_k => XS.goto X17.here hx rfl (pc0 := 103) (pc' := 107) rfl (hb hby at_103) (by decide) (by decide) w_k) ?_
            show Gd _ _ _ _ (T17.setTop (mkF m 107 #[.val (.int sel), .val (.int cnt), .val (.int k), .val (.int n), .val (.ref a4), .unset] [(.int (1 : Int32))]))
            refine Gd.go (fun _ w_k => XS.istore X17.here hx rfl (hb hby at_107) rfl (l' := #[.val (.int sel), .val (.int cnt), .val (.int k), .val (.int n), .val (.ref a4), .val (.int (1 : Int32))]) rfl w_k) ?_
            show Gd _ _ _ _ (T17.setTop (mkF m 109 #[.val (.int sel), .val (.int cnt), .val (.int k), .val (.int n), .val (.ref a4), .val (.int (1 : Int32))] []))
            refine Gd.go (fun _ w_k => XS.goto X17.here hx rfl (pc0 := 109) (pc' := 170) rfl (hb hby at_109) (by decide) (by decide) w_k) ?_
            show Gd _ _ _ _ (T17.setTop (mkF m 170 #[.val (.int sel), .val (.int cnt), .val (.int k), .val (.int n), .val (.ref a4), .val (.int (1 : Int32))] []))
            refine Gd.go (fun _ w_k => XS.aload X17.here hx rfl (hb hby at_170) rfl rfl w_k) ?_
            show Gd _ _ _ _ (T17.setTop (mkF m 172 #[.val (.int sel), .val (.int cnt), .val (.int k), .val (.int n), .val (.ref a4), .val (.int (1 : Int32))] [(.ref a4)]))
            refine Gd.go (fun _ w_k => XS.iloadN X17.here hx rfl (hb hby at_172) rfl w_k) ?_
            show Gd _ _ _ _ (T17.setTop (mkF m 173 #[.val (.int sel), .val (.int cnt), .val (.int k), .val (.int n), .val (.ref a4), .val (.int (1 : Int32))] [(.int n), (.ref a4)]))
            obtain ⟨T19, X19, e19, st19⟩ := own_callVP X17 hx hZ (C := "com/example/quiddity/quiddity/sparql/Function$4") (y := (⟨"com/example/quiddity/quiddity/sparql/Function", "takes", "(I)Z"⟩ : MethodName)) hown (hw _ (List.mem_of_getElem? (i := 4) rfl)) (hw _ (List.mem_of_getElem? (i := 5) rfl)) (hw _ (List.mem_of_getElem? (i := 13) rfl)) (hw _ (List.mem_of_getElem? (i := 6) rfl)) (hw _ (List.mem_of_getElem? (i := 2) rfl)) (hw _ (List.mem_of_getElem? (i := 8) rfl)) (by decide) E4 (W := 0) (own_c1 l Z a0 hw a4 (2 : Int32) n h0 F4) rfl rfl e17 (by decide) (by decide) (g := (mkF m 173 #[.val (.int sel), .val (.int cnt), .val (.int k), .val (.int n), .val (.ref a4), .val (.int (1 : Int32))] [(.int n), (.ref a4)])) rfl (by rw [hml]; rfl) (argsL := [(.int n)]) (rest := []) (lenOf own_pd0 rfl) rfl (Nat.le_of_eq rfl) (hb hby at_173) rfl
            refine Gd.go (fun _ w_k => st19 _ w_k) ?_
            show Gd _ _ _ _ (T19.setTop (mkF m 176 #[.val (.int sel), .val (.int cnt), .val (.int k), .val (.int n), .val (.ref a4), .val (.int (1 : Int32))] [(.int (bI ((2 : Int32) < 0 ∨ n = (2 : Int32))))]))
            refine Gd.go (fun _ w_k => XS.iload X19.here hx rfl (hb hby at_176) rfl w_k) ?_
            show Gd _ _ _ _ (T19.setTop (mkF m 178 #[.val (.int sel), .val (.int cnt), .val (.int k), .val (.int n), .val (.ref a4), .val (.int (1 : Int32))] [(.int (1 : Int32)), (.int (bI ((2 : Int32) < 0 ∨ n = (2 : Int32))))]))
            refine Gd.go (fun _ w_k => XS.icmpNo X19.here hx rfl (hb hby at_178) rfl (teq (bI_o (Or.inr hc18))).2 w_k) ?_
            show Gd _ _ _ _ (T19.setTop (mkF m 181 #[.val (.int sel), .val (.int cnt), .val (.int k), .val (.int n), .val (.ref a4), .val (.int (1 : Int32))] []))
            refine Gd.go (fun _ w_k => XS.iconst X19.here hx rfl (hb hby at_181) w_k) ?_
            show Gd _ _ _ _ (T19.setTop (mkF m 182 #[.val (.int sel), .val (.int cnt), .val (.int k), .val (.int n), .val (.ref a4), .val (.int (1 : Int32))] [(.int (1 : Int32))]))
            refine Gd.go (fun _ w_k => XS.goto X19.here hx rfl (pc0 := 182) (pc' := 186) rfl (hb hby at_182) (by decide) (by decide) w_k) ?_
            show Gd _ _ _ _ (T19.setTop (mkF m 186 #[.val (.int sel), .val (.int cnt), .val (.int k), .val (.int n), .val (.ref a4), .val (.int (1 : Int32))] [(.int (1 : Int32))]))
            refine own_retN (t := .boolean) X19 hx hret hlk (by simp) (hb hby at_186) ?_ (by decide) (by decide)
            exact ⟨rfl, Fr.nil n0⟩
          · refine Gd.go (fun _ w_k => XS.icmpYes X17.here hx rfl (pc0 := 99) (pc' := 106) rfl (hb hby at_99) rfl (feq hc18).2 (by decide) (by decide) w_k) ?_
            show Gd _ _ _ _ (T17.setTop (mkF m 106 #[.val (.int sel), .val (.int cnt), .val (.int k), .val (.int n), .val (.ref a4), .unset] []))
            refine Gd.go (fun _ w_k => XS.iconst X17.here hx rfl (hb hby at_106) w_k) ?_
            show Gd _ _ _ _ (T17.setTop (mkF m 107 #[.val (.int sel), .val (.int cnt), .val (.int k), .val (.int n), .val (.ref a4), .unset] [(.int (0 : Int32))]))
            refine Gd.go (fun _ w_k => XS.istore X17.here hx rfl (hb hby at_107) rfl (l' := #[.val (.int sel), .val (.int cnt), .val (.int k), .val (.int n), .val (.ref a4), .val (.int (0 : Int32))]) rfl w_k) ?_
            show Gd _ _ _ _ (T17.setTop (mkF m 109 #[.val (.int sel), .val (.int cnt), .val (.int k), .val (.int n), .val (.ref a4), .val (.int (0 : Int32))] []))
            refine Gd.go (fun _ w_k => XS.goto X17.here hx rfl (pc0 := 109) (pc' := 170) rfl (hb hby at_109) (by decide) (by decide) w_k) ?_
            show Gd _ _ _ _ (T17.setTop (mkF m 170 #[.val (.int sel), .val (.int cnt), .val (.int k), .val (.int n), .val (.ref a4), .val (.int (0 : Int32))] []))
            refine Gd.go (fun _ w_k => XS.aload X17.here hx rfl (hb hby at_170) rfl rfl w_k) ?_
            show Gd _ _ _ _ (T17.setTop (mkF m 172 #[.val (.int sel), .val (.int cnt), .val (.int k), .val (.int n), .val (.ref a4), .val (.int (0 : Int32))] [(.ref a4)]))
            refine Gd.go (fun _ w_k => XS.iloadN X17.here hx rfl (hb hby at_172) rfl w_k) ?_
            show Gd _ _ _ _ (T17.setTop (mkF m 173 #[.val (.int sel), .val (.int cnt), .val (.int k), .val (.int n), .val (.ref a4), .val (.int (0 : Int32))] [(.int n), (.ref a4)]))
            obtain ⟨T20, X20, e20, st20⟩ := own_callVP X17 hx hZ (C := "com/example/quiddity/quiddity/sparql/Function$4") (y := (⟨"com/example/quiddity/quiddity/sparql/Function", "takes", "(I)Z"⟩ : MethodName)) hown (hw _ (List.mem_of_getElem? (i := 4) rfl)) (hw _ (List.mem_of_getElem? (i := 5) rfl)) (hw _ (List.mem_of_getElem? (i := 13) rfl)) (hw _ (List.mem_of_getElem? (i := 6) rfl)) (hw _ (List.mem_of_getElem? (i := 2) rfl)) (hw _ (List.mem_of_getElem? (i := 8) rfl)) (by decide) E4 (W := 0) (own_c1 l Z a0 hw a4 (2 : Int32) n h0 F4) rfl rfl e17 (by decide) (by decide) (g := (mkF m 173 #[.val (.int sel), .val (.int cnt), .val (.int k), .val (.int n), .val (.ref a4), .val (.int (0 : Int32))] [(.int n), (.ref a4)])) rfl (by rw [hml]; rfl) (argsL := [(.int n)]) (rest := []) (lenOf own_pd0 rfl) rfl (Nat.le_of_eq rfl) (hb hby at_173) rfl
            refine Gd.go (fun _ w_k => st20 _ w_k) ?_
            show Gd _ _ _ _ (T20.setTop (mkF m 176 #[.val (.int sel), .val (.int cnt), .val (.int k), .val (.int n), .val (.ref a4), .val (.int (0 : Int32))] [(.int (bI ((2 : Int32) < 0 ∨ n = (2 : Int32))))]))
            refine Gd.go (fun _ w_k => XS.iload X20.here hx rfl (hb hby at_176) rfl w_k) ?_
            show Gd _ _ _ _ (T20.setTop (mkF m 178 #[.val (.int sel), .val (.int cnt), .val (.int k), .val (.int n), .val (.ref a4), .val (.int (0 : Int32))] [(.int (0 : Int32)), (.int (bI ((2 : Int32) < 0 ∨ n = (2 : Int32))))]))
            refine Gd.go (fun _ w_k => XS.icmpNo X20.here hx rfl (hb hby at_178) rfl (teq (bI_z (own_no (by decide) hc18))).2 w_k) ?_
            show Gd _ _ _ _ (T20.setTop (mkF m 181 #[.val (.int sel), .val (.int cnt), .val (.int k), .val (.int n), .val (.ref a4), .val (.int (0 : Int32))] []))
            refine Gd.go (fun _ w_k => XS.iconst X20.here hx rfl (hb hby at_181) w_k) ?_
            show Gd _ _ _ _ (T20.setTop (mkF m 182 #[.val (.int sel), .val (.int cnt), .val (.int k), .val (.int n), .val (.ref a4), .val (.int (0 : Int32))] [(.int (1 : Int32))]))
            refine Gd.go (fun _ w_k => XS.goto X20.here hx rfl (pc0 := 182) (pc' := 186) rfl (hb hby at_182) (by decide) (by decide) w_k) ?_
            show Gd _ _ _ _ (T20.setTop (mkF m 186 #[.val (.int sel), .val (.int cnt), .val (.int k), .val (.int n), .val (.ref a4), .val (.int (0 : Int32))] [(.int (1 : Int32))]))
            refine own_retN (t := .boolean) X20 hx hret hlk (by simp) (hb hby at_186) ?_ (by decide) (by decide)
            exact ⟨rfl, Fr.nil n0⟩
        · refine Gd.go (fun _ w_k => XS.icmpYes X0.here hx rfl (pc0 := 89) (pc' := 112) rfl (hb hby at_89) rfl (feq hc16).2 (by decide) (by decide) w_k) ?_
          show Gd _ _ _ _ (s₁.setTop (mkF m 112 #[.val (.int sel), .val (.int cnt), .val (.int k), .val (.int n), .unset, .unset] []))
          refine Gd.go (fun _ w_k => XS.iloadN X0.here hx rfl (hb hby at_112) rfl w_k) ?_
          show Gd _ _ _ _ (s₁.setTop (mkF m 113 #[.val (.int sel), .val (.int cnt), .val (.int k), .val (.int n), .unset, .unset] [(.int k)]))
          refine Gd.go (fun _ w_k => XS.iconst X0.here hx rfl (hb hby at_113) w_k) ?_
          show Gd _ _ _ _ (s₁.setTop (mkF m 114 #[.val (.int sel), .val (.int cnt), .val (.int k), .val (.int n), .unset, .unset] [(.int (4 : Int32)), (.int k)]))
          by_cases hc21 : k = (4 : Int32)
          · refine Gd.go (fun _ w_k => XS.icmpNo X0.here hx rfl (hb hby at_114) rfl (teq hc21).2 w_k) ?_
            show Gd _ _ _ _ (s₁.setTop (mkF m 117 #[.val (.int sel), .val (.int cnt), .val (.int k), .val (.int n), .unset, .unset] []))
            obtain ⟨T22, X22, e22, st22⟩ := getS2 X0 hx hZ hown (host := "") (Or.inl (hw _ (List.mem_of_getElem? (i := 19) rfl))) Via.refl e0 S5 (g := (mkF m 117 #[.val (.int sel), .val (.int cnt), .val (.int k), .val (.int n), .unset, .unset] [])) rfl (hb hby at_117)
            refine Gd.go (fun _ w_k => st22 _ w_k) ?_
            show Gd _ _ _ _ (T22.setTop (mkF m 120 #[.val (.int sel), .val (.int cnt), .val (.int k), .val (.int n), .unset, .unset] [(.ref a5)]))
            refine Gd.go (fun _ w_k => XS.astore X22.here hx rfl (hb hby at_120) rfl rfl (l' := #[.val (.int sel), .val (.int cnt), .val (.int k), .val (.int n), .val (.ref a5), .unset]) rfl w_k) ?_
            show Gd _ _ _ _ (T22.setTop (mkF m 122 #[.val (.int sel), .val (.int cnt), .val (.int k), .val (.int n), .val (.ref a5), .unset] []))
            refine Gd.go (fun _ w_k => XS.iloadN X22.here hx rfl (hb hby at_122) rfl w_k) ?_
            show Gd _ _ _ _ (T22.setTop (mkF m 123 #[.val (.int sel), .val (.int cnt), .val (.int k), .val (.int n), .val (.ref a5), .unset] [(.int n)]))
            refine Gd.go (fun _ w_k => XS.iconst X22.here hx rfl (hb hby at_123) w_k) ?_
            show Gd _ _ _ _ (T22.setTop (mkF m 124 #[.val (.int sel), .val (.int cnt), .val (.int k), .val (.int n), .val (.ref a5), .unset] [(.int (1 : Int32)), (.int n)]))
            by_cases hc23 : n = (1 : Int32)
            · refine Gd.go (fun _ w_k => XS.icmpNo X22.here hx rfl (hb hby at_124) rfl (teq hc23).2 w_k) ?_
              show Gd _ _ _ _ (T22.setTop (mkF m 127 #[.val (.int sel), .val (.int cnt), .val (.int k), .val (.int n), .val (.ref a5), .unset] []))
              refine Gd.go (fun _ w_k => XS.iconst X22.here hx rfl (hb hby at_127) w_k) ?_
              show Gd _ _ _ _ (T22.setTop (mkF m 128 #[.val (.int sel), .val (.int cnt), .val (.int k), .val (.int n), .val (.ref a5), .unset] [(.int (1 : Int32))]))
              refine Gd.go (fun _ w_k => XS.goto X22.here hx rfl (pc0 := 128) (pc' := 132) rfl (hb hby at_128) (by decide) (by decide) w_k) ?_
              show Gd _ _ _ _ (T22.setTop (mkF m 132 #[.val (.int sel), .val (.int cnt), .val (.int k), .val (.int n), .val (.ref a5), .unset] [(.int (1 : Int32))]))
              refine Gd.go (fun _ w_k => XS.istore X22.here hx rfl (hb hby at_132) rfl (l' := #[.val (.int sel), .val (.int cnt), .val (.int k), .val (.int n), .val (.ref a5), .val (.int (1 : Int32))]) rfl w_k) ?_
              show Gd _ _ _ _ (T22.setTop (mkF m 134 #[.val (.int sel), .val (.int cnt), .val (.int k), .val (.int n), .val (.ref a5), .val (.int (1 : Int32))] []))
              refine Gd.go (fun _ w_k => XS.goto X22.here hx rfl (pc0 := 134) (pc' := 170) rfl (hb hby at_134) (by decide) (by decide) w_k) ?_
              show Gd _ _ _ _ (T22.setTop (mkF m 170 #[.val (.int sel), .val (.int cnt), .val (.int k), .val (.int n), .val (.ref a5), .val (.int (1 : Int32))] []))
              refine Gd.go (fun _ w_k => XS.aload X22.here hx rfl (hb hby at_170) rfl rfl w_k) ?_
              show Gd _ _ _ _ (T22.setTop (mkF m 172 #[.val (.int sel), .val (.int cnt), .val (.int k), .val (.int n), .val (.ref a5), .val (.int (1 : Int32))] [(.ref a5)]))
              refine Gd.go (fun _ w_k => XS.iloadN X22.here hx rfl (hb hby at_172) rfl w_k) ?_
              show Gd _ _ _ _ (T22.setTop (mkF m 173 #[.val (.int sel), .val (.int cnt), .val (.int k), .val (.int n), .val (.ref a5), .val (.int (1 : Int32))] [(.int n), (.ref a5)]))
              obtain ⟨T24, X24, e24, st24⟩ := own_callVP X22 hx hZ (C := "com/example/quiddity/quiddity/sparql/Function$5") (y := (⟨"com/example/quiddity/quiddity/sparql/Function", "takes", "(I)Z"⟩ : MethodName)) hown (hw _ (List.mem_of_getElem? (i := 4) rfl)) (hw _ (List.mem_of_getElem? (i := 5) rfl)) (hw _ (List.mem_of_getElem? (i := 21) rfl)) (hw _ (List.mem_of_getElem? (i := 6) rfl)) (hw _ (List.mem_of_getElem? (i := 2) rfl)) (hw _ (List.mem_of_getElem? (i := 8) rfl)) (by decide) E5 (W := 0) (own_c1 l Z a0 hw a5 (1 : Int32) n h0 F5) rfl rfl e22 (by decide) (by decide) (g := (mkF m 173 #[.val (.int sel), .val (.int cnt), .val (.int k), .val (.int n), .val (.ref a5), .val (.int (1 : Int32))] [(.int n), (.ref a5)])) rfl (by rw [hml]; rfl) (argsL := [(.int n)]) (rest := []) (lenOf own_pd0 rfl) rfl (Nat.le_of_eq rfl) (hb hby at_173) rfl
              refine Gd.go (fun _ w_k => st24 _ w_k) ?_
              show Gd _ _ _ _ (T24.setTop (mkF m 176 #[.val (.int sel), .val (.int cnt), .val (.int k), .val (.int n), .val (.ref a5), .val (.int (1 : Int32))] [(.int (bI ((1 : Int32) < 0 ∨ n = (1 : Int32))))]))
              refine Gd.go (fun _ w_k => XS.iload X24.here hx rfl (hb hby at_176) rfl w_k) ?_
              show Gd _ _ _ _ (T24.setTop (mkF m 178 #[.val (.int sel), .val (.int cnt), .val (.int k), .val (.int n), .val (.ref a5), .val (.int (1 : Int32))] [(.int (1 : Int32)), (.int (bI ((1 : Int32) < 0 ∨ n = (1 : Int32))))]))
              refine Gd.go (fun _ w_k => XS.icmpNo X24.here hx rfl (hb hby at_178) rfl (teq (bI_o (Or.inr hc23))).2 w_k) ?_
              show Gd _ _ _ _ (T24.setTop (mkF m 181 #[.val (.int sel), .val (.int cnt), .val (.int k), .val (.int n), .val (.ref a5), .val (.int (1 : Int32))] []))
              refine Gd.go (fun _ w_k => XS.iconst X24.here hx rfl (hb hby at_181) w_k) ?_
              show Gd _ _ _ _ (T24.setTop (mkF m 182 #[.val (.int sel), .val (.int cnt), .val (.int k), .val (.int n), .val (.ref a5), .val (.int (1 : Int32))] [(.int (1 : Int32))]))
              refine Gd.go (fun _ w_k => XS.goto X24.here hx rfl (pc0 := 182) (pc' := 186) rfl (hb hby at_182) (by decide) (by decide) w_k) ?_
              show Gd _ _ _ _ (T24.setTop (mkF m 186 #[.val (.int sel), .val (.int cnt), .val (.int k), .val (.int n), .val (.ref a5), .val (.int (1 : Int32))] [(.int (1 : Int32))]))
              refine own_retN (t := .boolean) X24 hx hret hlk (by simp) (hb hby at_186) ?_ (by decide) (by decide)
              exact ⟨rfl, Fr.nil n0⟩
            · refine Gd.go (fun _ w_k => XS.icmpYes X22.here hx rfl (pc0 := 124) (pc' := 131) rfl (hb hby at_124) rfl (feq hc23).2 (by decide) (by decide) w_k) ?_
              show Gd _ _ _ _ (T22.setTop (mkF m 131 #[.val (.int sel), .val (.int cnt), .val (.int k), .val (.int n), .val (.ref a5), .unset] []))
              refine Gd.go (fun _ w_k => XS.iconst X22.here hx rfl (hb hby at_131) w_k) ?_
              show Gd _ _ _ _ (T22.setTop (mkF m 132 #[.val (.int sel), .val (.int cnt), .val (.int k), .val (.int n), .val (.ref a5), .unset] [(.int (0 : Int32))]))
              refine Gd.go (fun _ w_k => XS.istore X22.here hx rfl (hb hby at_132) rfl (l' := #[.val (.int sel), .val (.int cnt), .val (.int k), .val (.int n), .val (.ref a5), .val (.int (0 : Int32))]) rfl w_k) ?_
              show Gd _ _ _ _ (T22.setTop (mkF m 134 #[.val (.int sel), .val (.int cnt), .val (.int k), .val (.int n), .val (.ref a5), .val (.int (0 : Int32))] []))
              refine Gd.go (fun _ w_k => XS.goto X22.here hx rfl (pc0 := 134) (pc' := 170) rfl (hb hby at_134) (by decide) (by decide) w_k) ?_
              show Gd _ _ _ _ (T22.setTop (mkF m 170 #[.val (.int sel), .val (.int cnt), .val (.int k), .val (.int n), .val (.ref a5), .val (.int (0 : Int32))] []))
              refine Gd.go (fun _ w_k => XS.aload X22.here hx rfl (hb hby at_170) rfl rfl w_k) ?_
              show Gd _ _ _ _ (T22.setTop (mkF m 172 #[.val (.int sel), .val (.int cnt), .val (.int k), .val (.int n), .val (.ref a5), .val (.int (0 : Int32))] [(.ref a5)]))
              refine Gd.go (fun _ w_k => XS.iloadN X22.here hx rfl (hb hby at_172) rfl w_k) ?_
              show Gd _ _ _ _ (T22.setTop (mkF m 173 #[.val (.int sel), .val (.int cnt), .val (.int k), .val (.int n), .val (.ref a5), .val (.int (0 : Int32))] [(.int n), (.ref a5)]))
              obtain ⟨T25, X25, e25, st25⟩ := own_callVP X22 hx hZ (C := "com/example/quiddity/quiddity/sparql/Function$5") (y := (⟨"com/example/quiddity/quiddity/sparql/Function", "takes", "(I)Z"⟩ : MethodName)) hown (hw _ (List.mem_of_getElem? (i := 4) rfl)) (hw _ (List.mem_of_getElem? (i := 5) rfl)) (hw _ (List.mem_of_getElem? (i := 21) rfl)) (hw _ (List.mem_of_getElem? (i := 6) rfl)) (hw _ (List.mem_of_getElem? (i := 2) rfl)) (hw _ (List.mem_of_getElem? (i := 8) rfl)) (by decide) E5 (W := 0) (own_c1 l Z a0 hw a5 (1 : Int32) n h0 F5) rfl rfl e22 (by decide) (by decide) (g := (mkF m 173 #[.val (.int sel), .val (.int cnt), .val (.int k), .val (.int n), .val (.ref a5), .val (.int (0 : Int32))] [(.int n), (.ref a5)])) rfl (by rw [hml]; rfl) (argsL := [(.int n)]) (rest := []) (lenOf own_pd0 rfl) rfl (Nat.le_of_eq rfl) (hb hby at_173) rfl
              refine Gd.go (fun _ w_k => st25 _ w_k) ?_
              show Gd _ _ _ _ (T25.setTop (mkF m 176 #[.val (.int sel), .val (.int cnt), .val (.int k), .val (.int n), .val (.ref a5), .val (.int (0 : Int32))] [(.int (bI ((1 : Int32) < 0 ∨ n = (1 : Int32))))]))
              refine Gd.go (fun _ w_k => XS.iload X25.here hx rfl (hb hby at_176) rfl w_k) ?_
              show Gd _ _ _ _ (T25.setTop (mkF m 178 #[.val (.int sel), .val (.int cnt), .val (.int k), .val (.int n), .val (.ref a5), .val (.int (0 : Int32))] [(.int (0 : Int32)), (.int (bI ((1 : Int32) < 0 ∨ n = (1 : Int32))))]))
              refine Gd.go (fun _ w_k => XS.icmpNo X25.here hx rfl (hb hby at_178) rfl (teq (bI_z (own_no (by decide) hc23))).2 w_k) ?_
              show Gd _ _ _ _ (T25.setTop (mkF m 181 #[.val (.int sel), .val (.int cnt), .val (.int k), .val (.int n), .val (.ref a5), .val (.int (0 : Int32))] []))
              refine Gd.go (fun _ w_k => XS.iconst X25.here hx rfl (hb hby at_181) w_k) ?_
              show Gd _ _ _ _ (T25.setTop (mkF m 182 #[.val (.int sel), .val (.int cnt), .val (.int k), .val (.int n), .val (.ref a5), .val (.int (0 : Int32))] [(.int (1 : Int32))]))
              refine Gd.go (fun _ w_k => XS.goto X25.here hx rfl (pc0 := 182) (pc' := 186) rfl (hb hby at_182) (by decide) (by decide) w_k) ?_
              show Gd _ _ _ _ (T25.setTop (mkF m 186 #[.val (.int sel), .val (.int cnt), .val (.int k), .val (.int n), .val (.ref a5), .val (.int (0 : Int32))] [(.int (1 : Int32))]))
              refine own_retN (t := .boolean) X25 hx hret hlk (by simp) (hb hby at_186) ?_ (by decide) (by decide)
              exact ⟨rfl, Fr.nil n0⟩
          · refine Gd.go (fun _ w_k => XS.icmpYes X0.here hx rfl (pc0 := 114) (pc' := 137) rfl (hb hby at_114) rfl (feq hc21).2 (by decide) (by decide) w_k) ?_
            show Gd _ _ _ _ (s₁.setTop (mkF m 137 #[.val (.int sel), .val (.int cnt), .val (.int k), .val (.int n), .unset, .unset] []))
            refine Gd.go (fun _ w_k => XS.iloadN X0.here hx rfl (hb hby at_137) rfl w_k) ?_
            show Gd _ _ _ _ (s₁.setTop (mkF m 138 #[.val (.int sel), .val (.int cnt), .val (.int k), .val (.int n), .unset, .unset] [(.int k)]))
            refine Gd.go (fun _ w_k => XS.iconst X0.here hx rfl (hb hby at_138) w_k) ?_
            show Gd _ _ _ _ (s₁.setTop (mkF m 139 #[.val (.int sel), .val (.int cnt), .val (.int k), .val (.int n), .unset, .unset] [(.int (5 : Int32)), (.int k)]))
            by_cases hc26 : k = (5 : Int32)
            · refine Gd.go (fun _ w_k => XS.icmpNo X0.here hx rfl (hb hby at_139) rfl (teq hc26).2 w_k) ?_
              show Gd _ _ _ _ (s₁.setTop (mkF m 142 #[.val (.int sel), .val (.int cnt), .val (.int k), .val (.int n), .unset, .unset] []))
              obtain ⟨T27, X27, e27, st27⟩ := getS2 X0 hx hZ hown (host := "") (Or.inl (hw _ (List.mem_of_getElem? (i := 27) rfl))) Via.refl e0 S6 (g := (mkF m 142 #[.val (.int sel), .val (.int cnt), .val (.int k), .val (.int n), .unset, .unset] [])) rfl (hb hby at_142)
              refine Gd.go (fun _ w_k => st27 _ w_k) ?_
              show Gd _ _ _ _ (T27.setTop (mkF m 145 #[.val (.int sel), .val (.int cnt), .val (.int k), .val (.int n), .unset, .unset] [(.ref a6)]))
              refine Gd.go (fun _ w_k => XS.astore X27.here hx rfl (hb hby at_145) rfl rfl (l' := #[.val (.int sel), .val (.int cnt), .val (.int k), .val (.int n), .val (.ref a6), .unset]) rfl w_k) ?_
              show Gd _ _ _ _ (T27.setTop (mkF m 147 #[.val (.int sel), .val (.int cnt), .val (.int k), .val (.int n), .val (.ref a6), .unset] []))
              refine Gd.go (fun _ w_k => XS.iconst X27.here hx rfl (hb hby at_147) w_k) ?_
              show Gd _ _ _ _ (T27.setTop (mkF m 148 #[.val (.int sel), .val (.int cnt), .val (.int k), .val (.int n), .val (.ref a6), .unset] [(.int (1 : Int32))]))
              refine Gd.go (fun _ w_k => XS.istore X27.here hx rfl (hb hby at_148) rfl (l' := #[.val (.int sel), .val (.int cnt), .val (.int k), .val (.int n), .val (.ref a6), .val (.int (1 : Int32))]) rfl w_k) ?_
              show Gd _ _ _ _ (T27.setTop (mkF m 150 #[.val (.int sel), .val (.int cnt), .val (.int k), .val (.int n), .val (.ref a6), .val (.int (1 : Int32))] []))
              refine Gd.go (fun _ w_k => XS.goto X27.here hx rfl (pc0 := 150) (pc' := 170) rfl (hb hby at_150) (by decide) (by decide) w_k) ?_
              show Gd _ _ _ _ (T27.setTop (mkF m 170 #[.val (.int sel), .val (.int cnt), .val (.int k), .val (.int n), .val (.ref a6), .val (.int (1 : Int32))] []))
              refine Gd.go (fun _ w_k => XS.aload X27.here hx rfl (hb hby at_170) rfl rfl w_k) ?_
              show Gd _ _ _ _ (T27.setTop (mkF m 172 #[.val (.int sel), .val (.int cnt), .val (.int k), .val (.int n), .val (.ref a6), .val (.int (1 : Int32))] [(.ref a6)]))
              refine Gd.go (fun _ w_k => XS.iloadN X27.here hx rfl (hb hby at_172) rfl w_k) ?_
              show Gd _ _ _ _ (T27.setTop (mkF m 173 #[.val (.int sel), .val (.int cnt), .val (.int k), .val (.int n), .val (.ref a6), .val (.int (1 : Int32))] [(.int n), (.ref a6)]))
              obtain ⟨T28, X28, e28, st28⟩ := own_callVP X27 hx hZ (C := "com/example/quiddity/quiddity/sparql/Function$6") (y := (⟨"com/example/quiddity/quiddity/sparql/Function", "takes", "(I)Z"⟩ : MethodName)) hown (hw _ (List.mem_of_getElem? (i := 4) rfl)) (hw _ (List.mem_of_getElem? (i := 5) rfl)) (hw _ (List.mem_of_getElem? (i := 29) rfl)) (hw _ (List.mem_of_getElem? (i := 6) rfl)) (hw _ (List.mem_of_getElem? (i := 2) rfl)) (hw _ (List.mem_of_getElem? (i := 8) rfl)) (by decide) E6 (W := 0) (own_c1 l Z a0 hw a6 (-1 : Int32) n h0 F6) rfl rfl e27 (by decide) (by decide) (g := (mkF m 173 #[.val (.int sel), .val (.int cnt), .val (.int k), .val (.int n), .val (.ref a6), .val (.int (1 : Int32))] [(.int n), (.ref a6)])) rfl (by rw [hml]; rfl) (argsL := [(.int n)]) (rest := []) (lenOf own_pd0 rfl) rfl (Nat.le_of_eq rfl) (hb hby at_173) rfl
              refine Gd.go (fun _ w_k => st28 _ w_k) ?_
              show Gd _ _ _ _ (T28.setTop (mkF m 176 #[.val (.int sel), .val (.int cnt), .val (.int k), .val (.int n), .val (.ref a6), .val (.int (1 : Int32))] [(.int (bI ((-1 : Int32) < 0 ∨ n = (-1 : Int32))))]))
              refine Gd.go (fun _ w_k => XS.iload X28.here hx rfl (hb hby at_176) rfl w_k) ?_
              show Gd _ _ _ _ (T28.setTop (mkF m 178 #[.val (.int sel), .val (.int cnt), .val (.int k), .val (.int n), .val (.ref a6), .val (.int (1 : Int32))] [(.int (1 : Int32)), (.int (bI ((-1 : Int32) < 0 ∨ n = (-1 : Int32))))]))
              refine Gd.go (fun _ w_k => XS.icmpNo X28.here hx rfl (hb hby at_178) rfl (teq (bI_o (Or.inl (by decide)))).2 w_k) ?_
              show Gd _ _ _ _ (T28.setTop (mkF m 181 #[.val (.int sel), .val (.int cnt), .val (.int k), .val (.int n), .val (.ref a6), .val (.int (1 : Int32))] []))
              refine Gd.go (fun _ w_k => XS.iconst X28.here hx rfl (hb hby at_181) w_k) ?_
              show Gd _ _ _ _ (T28.setTop (mkF m 182 #[.val (.int sel), .val (.int cnt), .val (.int k), .val (.int n), .val (.ref a6), .val (.int (1 : Int32))] [(.int (1 : Int32))]))
              refine Gd.go (fun _ w_k => XS.goto X28.here hx rfl (pc0 := 182) (pc' := 186) rfl (hb hby at_182) (by decide) (by decide) w_k) ?_
              show Gd _ _ _ _ (T28.setTop (mkF m 186 #[.val (.int sel), .val (.int cnt), .val (.int k), .val (.int n), .val (.ref a6), .val (.int (1 : Int32))] [(.int (1 : Int32))]))
              refine own_retN (t := .boolean) X28 hx hret hlk (by simp) (hb hby at_186) ?_ (by decide) (by decide)
              exact ⟨rfl, Fr.nil n0⟩
            · refine Gd.go (fun _ w_k => XS.icmpYes X0.here hx rfl (pc0 := 139) (pc' := 153) rfl (hb hby at_139) rfl (feq hc26).2 (by decide) (by decide) w_k) ?_
              show Gd _ _ _ _ (s₁.setTop (mkF m 153 #[.val (.int sel), .val (.int cnt), .val (.int k), .val (.int n), .unset, .unset] []))
              obtain ⟨T29, X29, e29, st29⟩ := getS2 X0 hx hZ hown (host := "") (Or.inl (hw _ (List.mem_of_getElem? (i := 23) rfl))) Via.refl e0 S7 (g := (mkF m 153 #[.val (.int sel), .val (.int cnt), .val (.int k), .val (.int n), .unset, .unset] [])) rfl (hb hby at_153)
              refine Gd.go (fun _ w_k => st29 _ w_k) ?_
              show Gd _ _ _ _ (T29.setTop (mkF m 156 #[.val (.int sel), .val (.int cnt), .val (.int k), .val (.int n), .unset, .unset] [(.ref a7)]))
              refine Gd.go (fun _ w_k => XS.astore X29.here hx rfl (hb hby at_156) rfl rfl (l' := #[.val (.int sel), .val (.int cnt), .val (.int k), .val (.int n), .val (.ref a7), .unset]) rfl w_k) ?_
              show Gd _ _ _ _ (T29.setTop (mkF m 158 #[.val (.int sel), .val (.int cnt), .val (.int k), .val (.int n), .val (.ref a7), .unset] []))
              refine Gd.go (fun _ w_k => XS.iloadN X29.here hx rfl (hb hby at_158) rfl w_k) ?_
              show Gd _ _ _ _ (T29.setTop (mkF m 159 #[.val (.int sel), .val (.int cnt), .val (.int k), .val (.int n), .val (.ref a7), .unset] [(.int n)]))
              refine Gd.go (fun _ w_k => XS.iconst X29.here hx rfl (hb hby at_159) w_k) ?_
              show Gd _ _ _ _ (T29.setTop (mkF m 160 #[.val (.int sel), .val (.int cnt), .val (.int k), .val (.int n), .val (.ref a7), .unset] [(.int (2 : Int32)), (.int n)]))
              by_cases hc30 : n = (2 : Int32)
              · refine Gd.go (fun _ w_k => XS.icmpNo X29.here hx rfl (hb hby at_160) rfl (teq hc30).2 w_k) ?_
                show Gd _ _ _ _ (T29.setTop (mkF m 163 #[.val (.int sel), .val (.int cnt), .val (.int k), .val (.int n), .val (.ref a7), .unset] []))
                refine Gd.go (fun _ w_k => XS.iconst X29.here hx rfl (hb hby at_163) w_k) ?_
                show Gd _ _ _ _ (T29.setTop (mkF m 164 #[.val (.int sel), .val (.int cnt), .val (.int k), .val (.int n), .val (.ref a7), .unset] [(.int (1 : Int32))]))
                refine Gd.go (fun _ w_k => XS.goto X29.here hx rfl (pc0 := 164) (pc' := 168) rfl (hb hby at_164) (by decide) (by decide) w_k) ?_
                show Gd _ _ _ _ (T29.setTop (mkF m 168 #[.val (.int sel), .val (.int cnt), .val (.int k), .val (.int n), .val (.ref a7), .unset] [(.int (1 : Int32))]))
                refine Gd.go (fun _ w_k => XS.istore X29.here hx rfl (hb hby at_168) rfl (l' := #[.val (.int sel), .val (.int cnt), .val (.int k), .val (.int n), .val (.ref a7), .val (.int (1 : Int32))]) rfl w_k) ?_
                show Gd _ _ _ _ (T29.setTop (mkF m 170 #[.val (.int sel), .val (.int cnt), .val (.int k), .val (.int n), .val (.ref a7), .val (.int (1 : Int32))] []))
                refine Gd.go (fun _ w_k => XS.aload X29.here hx rfl (hb hby at_170) rfl rfl w_k) ?_
                show Gd _ _ _ _ (T29.setTop (mkF m 172 #[.val (.int sel), .val (.int cnt), .val (.int k), .val (.int n), .val (.ref a7), .val (.int (1 : Int32))] [(.ref a7)]))
                refine Gd.go (fun _ w_k => XS.iloadN X29.here hx rfl (hb hby at_172) rfl w_k) ?_
                show Gd _ _ _ _ (T29.setTop (mkF m 173 #[.val (.int sel), .val (.int cnt), .val (.int k), .val (.int n), .val (.ref a7), .val (.int (1 : Int32))] [(.int n), (.ref a7)]))
                obtain ⟨T31, X31, e31, st31⟩ := own_callVP X29 hx hZ (C := "com/example/quiddity/quiddity/sparql/Function$7") (y := (⟨"com/example/quiddity/quiddity/sparql/Function", "takes", "(I)Z"⟩ : MethodName)) hown (hw _ (List.mem_of_getElem? (i := 4) rfl)) (hw _ (List.mem_of_getElem? (i := 5) rfl)) (hw _ (List.mem_of_getElem? (i := 25) rfl)) (hw _ (List.mem_of_getElem? (i := 6) rfl)) (hw _ (List.mem_of_getElem? (i := 2) rfl)) (hw _ (List.mem_of_getElem? (i := 8) rfl)) (by decide) E7 (W := 0) (own_c1 l Z a0 hw a7 (2 : Int32) n h0 F7) rfl rfl e29 (by decide) (by decide) (g := (mkF m 173 #[.val (.int sel), .val (.int cnt), .val (.int k), .val (.int n), .val (.ref a7), .val (.int (1 : Int32))] [(.int n), (.ref a7)])) rfl (by rw [hml]; rfl) (argsL := [(.int n)]) (rest := []) (lenOf own_pd0 rfl) rfl (Nat.le_of_eq rfl) (hb hby at_173) rfl
                refine Gd.go (fun _ w_k => st31 _ w_k) ?_
                show Gd _ _ _ _ (T31.setTop (mkF m 176 #[.val (.int sel), .val (.int cnt), .val (.int k), .val (.int n), .val (.ref a7), .val (.int (1 : Int32))] [(.int (bI ((2 : Int32) < 0 ∨ n = (2 : Int32))))]))
                refine Gd.go (fun _ w_k => XS.iload X31.here hx rfl (hb hby at_176) rfl w_k) ?_
                show Gd _ _ _ _ (T31.setTop (mkF m 178 #[.val (.int sel), .val (.int cnt), .val (.int k), .val (.int n), .val (.ref a7), .val (.int (1 : Int32))] [(.int (1 : Int32)), (.int (bI ((2 : Int32) < 0 ∨ n = (2 : Int32))))]))
                refine Gd.go (fun _ w_k => XS.icmpNo X31.here hx rfl (hb hby at_178) rfl (teq (bI_o (Or.inr hc30))).2 w_k) ?_
                show Gd _ _ _ _ (T31.setTop (mkF m 181 #[.val (.int sel), .val (.int cnt), .val (.int k), .val (.int n), .val (.ref a7), .val (.int (1 : Int32))] []))
                refine Gd.go (fun _ w_k => XS.iconst X31.here hx rfl (hb hby at_181) w_k) ?_
                show Gd _ _ _ _ (T31.setTop (mkF m 182 #[.val (.int sel), .val (.int cnt), .val (.int k), .val (.int n), .val (.ref a7), .val (.int (1 : Int32))] [(.int (1 : Int32))]))
                refine Gd.go (fun _ w_k => XS.goto X31.here hx rfl (pc0 := 182) (pc' := 186) rfl (hb hby at_182) (by decide) (by decide) w_k) ?_
                show Gd _ _ _ _ (T31.setTop (mkF m 186 #[.val (.int sel), .val (.int cnt), .val (.int k), .val (.int n), .val (.ref a7), .val (.int (1 : Int32))] [(.int (1 : Int32))]))
                refine own_retN (t := .boolean) X31 hx hret hlk (by simp) (hb hby at_186) ?_ (by decide) (by decide)
                exact ⟨rfl, Fr.nil n0⟩
              · refine Gd.go (fun _ w_k => XS.icmpYes X29.here hx rfl (pc0 := 160) (pc' := 167) rfl (hb hby at_160) rfl (feq hc30).2 (by decide) (by decide) w_k) ?_
                show Gd _ _ _ _ (T29.setTop (mkF m 167 #[.val (.int sel), .val (.int cnt), .val (.int k), .val (.int n), .val (.ref a7), .unset] []))
                refine Gd.go (fun _ w_k => XS.iconst X29.here hx rfl (hb hby at_167) w_k) ?_
                show Gd _ _ _ _ (T29.setTop (mkF m 168 #[.val (.int sel), .val (.int cnt), .val (.int k), .val (.int n), .val (.ref a7), .unset] [(.int (0 : Int32))]))
                refine Gd.go (fun _ w_k => XS.istore X29.here hx rfl (hb hby at_168) rfl (l' := #[.val (.int sel), .val (.int cnt), .val (.int k), .val (.int n), .val (.ref a7), .val (.int (0 : Int32))]) rfl w_k) ?_
                show Gd _ _ _ _ (T29.setTop (mkF m 170 #[.val (.int sel), .val (.int cnt), .val (.int k), .val (.int n), .val (.ref a7), .val (.int (0 : Int32))] []))
                refine Gd.go (fun _ w_k => XS.aload X29.here hx rfl (hb hby at_170) rfl rfl w_k) ?_
                show Gd _ _ _ _ (T29.setTop (mkF m 172 #[.val (.int sel), .val (.int cnt), .val (.int k), .val (.int n), .val (.ref a7), .val (.int (0 : Int32))] [(.ref a7)]))
                refine Gd.go (fun _ w_k => XS.iloadN X29.here hx rfl (hb hby at_172) rfl w_k) ?_
                show Gd _ _ _ _ (T29.setTop (mkF m 173 #[.val (.int sel), .val (.int cnt), .val (.int k), .val (.int n), .val (.ref a7), .val (.int (0 : Int32))] [(.int n), (.ref a7)]))
                obtain ⟨T32, X32, e32, st32⟩ := own_callVP X29 hx hZ (C := "com/example/quiddity/quiddity/sparql/Function$7") (y := (⟨"com/example/quiddity/quiddity/sparql/Function", "takes", "(I)Z"⟩ : MethodName)) hown (hw _ (List.mem_of_getElem? (i := 4) rfl)) (hw _ (List.mem_of_getElem? (i := 5) rfl)) (hw _ (List.mem_of_getElem? (i := 25) rfl)) (hw _ (List.mem_of_getElem? (i := 6) rfl)) (hw _ (List.mem_of_getElem? (i := 2) rfl)) (hw _ (List.mem_of_getElem? (i := 8) rfl)) (by decide) E7 (W := 0) (own_c1 l Z a0 hw a7 (2 : Int32) n h0 F7) rfl rfl e29 (by decide) (by decide) (g := (mkF m 173 #[.val (.int sel), .val (.int cnt), .val (.int k), .val (.int n), .val (.ref a7), .val (.int (0 : Int32))] [(.int n), (.ref a7)])) rfl (by rw [hml]; rfl) (argsL := [(.int n)]) (rest := []) (lenOf own_pd0 rfl) rfl (Nat.le_of_eq rfl) (hb hby at_173) rfl
                refine Gd.go (fun _ w_k => st32 _ w_k) ?_
                show Gd _ _ _ _ (T32.setTop (mkF m 176 #[.val (.int sel), .val (.int cnt), .val (.int k), .val (.int n), .val (.ref a7), .val (.int (0 : Int32))] [(.int (bI ((2 : Int32) < 0 ∨ n = (2 : Int32))))]))
                refine Gd.go (fun _ w_k => XS.iload X32.here hx rfl (hb hby at_176) rfl w_k) ?_
                show Gd _ _ _ _ (T32.setTop (mkF m 178 #[.val (.int sel), .val (.int cnt), .val (.int k), .val (.int n), .val (.ref a7), .val (.int (0 : Int32))] [(.int (0 : Int32)), (.int (bI ((2 : Int32) < 0 ∨ n = (2 : Int32))))]))
                refine Gd.go (fun _ w_k => XS.icmpNo X32.here hx rfl (hb hby at_178) rfl (teq (bI_z (own_no (by decide) hc30))).2 w_k) ?_
                show Gd _ _ _ _ (T32.setTop (mkF m 181 #[.val (.int sel), .val (.int cnt), .val (.int k), .val (.int n), .val (.ref a7), .val (.int (0 : Int32))] []))
                refine Gd.go (fun _ w_k => XS.iconst X32.here hx rfl (hb hby at_181) w_k) ?_
                show Gd _ _ _ _ (T32.setTop (mkF m 182 #[.val (.int sel), .val (.int cnt), .val (.int k), .val (.int n), .val (.ref a7), .val (.int (0 : Int32))] [(.int (1 : Int32))]))
                refine Gd.go (fun _ w_k => XS.goto X32.here hx rfl (pc0 := 182) (pc' := 186) rfl (hb hby at_182) (by decide) (by decide) w_k) ?_
                show Gd _ _ _ _ (T32.setTop (mkF m 186 #[.val (.int sel), .val (.int cnt), .val (.int k), .val (.int n), .val (.ref a7), .val (.int (0 : Int32))] [(.int (1 : Int32))]))
                refine own_retN (t := .boolean) X32 hx hret hlk (by simp) (hb hby at_186) ?_ (by decide) (by decide)
                exact ⟨rfl, Fr.nil n0⟩
set_option maxRecDepth 65536 in
set_option maxHeartbeats 40000000 in
theorem comes_1 {Post : Tables → Env → Array Value → State → Outcome → State → Prop} (hpost : ∀ tb e args s v u, (limb_1_1.after args s (.returned v) u = true ∧ limb_1_2.after args s (.returned v) u = true ∧ True) → FrameEnd s (.returned v) u (Jvm.fieldLocs frame_1_writes args s ++ Jvm.arrayLocs frame_1_arrays args s ++ Jvm.staticLocs frame_1_statics s) 0 0 → Post tb e args s (.returned v) u) :
    ArmFor flags0 classFile x code maxLocals ret World_1 tables_1 room_1 Calls_1 rest_1 Pre_1 Post := by
  intro l hfl _ _ p e ha hc hk s m args below hf hA hF happ hP
  obtain ⟨hcalls, hrest, hpre⟩ := hP
  obtain ⟨-, -, -, hnamed, -, -, -, hat⟩ := (Spec.applies_iff hf).mp happ
  obtain ⟨hg, hn⟩ := and_e (Cond.before_iff.mp (show (Jvm.Cond.and given_1 narrow_1).before args s = true from hpre))
  obtain ⟨h1, g0⟩ := and_e hg
  obtain ⟨k0, g1⟩ := and_e g0
  obtain ⟨w0, w1, rfl⟩ : ∃ w0 w1 : Value, args = #[w0, w1] := by
    have hs : args.size = 2 := by simpa [Cond.value, given_1] using h1
    obtain ⟨L⟩ := args
    match L, hs with
    | [w0, w1], _ => exact ⟨w0, w1, rfl⟩
  have hw := fun d (hd : d ∈ tables_1) => atoms_spec (ws := Jvm.Cond.code x code maxLocals ret :: tables_1) hat d (List.mem_cons_of_mem _ hd)
  have hfit : Fit s := fun {y c} hc i hi => by
    obtain ⟨ha, rfl⟩ := Array.getElem?_eq_some_iff.mp hc
    have q := List.all_eq_true.mp ((Array.all_eq_true_iff_forall_mem.mp hF) _ (Array.getElem_mem ha)) i (List.mem_range.mpr hi)
    simpa [Array.getElem?_eq_getElem hi] using q
  obtain ⟨i0, e0⟩ := is_v k0
  obtain rfl : w0 = (.int i0) := Option.some.inj e0
  obtain ⟨i1, e1⟩ := is_v g1
  obtain rfl : w1 = (.int i1) := Option.some.inj e1
  obtain ⟨x0, n1⟩ := and_e hn
  obtain ⟨x1, n2⟩ := and_e n1
  obtain ⟨x2, n3⟩ := and_e n2
  obtain ⟨x3, n4⟩ := and_e n3
  obtain ⟨x4, n5⟩ := and_e n4
  obtain ⟨x5, n6⟩ := and_e n5
  obtain ⟨x6, n7⟩ := and_e n6
  obtain ⟨x7, n8⟩ := and_e n7
  obtain ⟨x8, n9⟩ := and_e n8
  obtain ⟨x9, n10⟩ := and_e n9
  obtain ⟨x10, n11⟩ := and_e n10
  obtain ⟨x11, n12⟩ := and_e n11
  obtain ⟨x12, n13⟩ := and_e n12
  obtain ⟨a1, S1, E1, F1⟩ := own_stat x0 x1 (hw _ (List.mem_of_getElem? (i := 2) rfl)) (hw _ (List.mem_of_getElem? (i := 3) rfl))
  obtain ⟨a4, S4, E4, F4⟩ := own_stat x2 x3 (hw _ (List.mem_of_getElem? (i := 2) rfl)) (hw _ (List.mem_of_getElem? (i := 12) rfl))
  obtain ⟨a2, S2, E2, F2⟩ := own_stat x4 x5 (hw _ (List.mem_of_getElem? (i := 2) rfl)) (hw _ (List.mem_of_getElem? (i := 16) rfl))
  obtain ⟨a5, S5, E5, F5⟩ := own_stat x6 x7 (hw _ (List.mem_of_getElem? (i := 2) rfl)) (hw _ (List.mem_of_getElem? (i := 20) rfl))
  obtain ⟨a7, S7, E7, F7⟩ := own_stat x8 x9 (hw _ (List.mem_of_getElem? (i := 2) rfl)) (hw _ (List.mem_of_getElem? (i := 24) rfl))
  obtain ⟨a6, S6, E6, F6⟩ := own_stat x10 x11 (hw _ (List.mem_of_getElem? (i := 2) rfl)) (hw _ (List.mem_of_getElem? (i := 28) rfl))
  obtain ⟨a3, S3, E3, F3⟩ := own_stat x12 n13 (hw _ (List.mem_of_getElem? (i := 2) rfl)) (hw _ (List.mem_of_getElem? (i := 32) rfl))
  obtain ⟨n, o, h1, h2, h3, _, L, rfl, ⟨rfl, N⟩, hq⟩ := own_law l s _ hw i0 i1 s.heap s.heap.size a1 S1 E1 F1 a2 S2 E2 F2 a3 S3 E3 F3 a4 S4 E4 F4 a5 S5 E5 F5 a6 S6 E6 F6 a7 S7 E7 F7 p e ha hc hk s m _ below hf ((Spec.applies_iff_loose hf).mp happ).1 ⟨rfl, State.Warmed39.refl s, rfl⟩ trivial
  refine ⟨n, _, h1, h2, h3, hpost _ _ _ _ _ _ ⟨Cond.after_iff.mpr rfl, Cond.after_iff.mpr (eq_i res_at (Term.int_eval (1)) rfl), trivial⟩ ⟨hq.1, hq.2.1, (hq.2.2.sift fun y hy => Or.inr (N y hy)).mono (by decide) (by decide)⟩⟩
theorem main_1_1 : Claimed_1_1 := comes_1 fun _ _ _ _ _ _ h hF => ⟨h.1, hF⟩
theorem main_1_2 : Claimed_1_2 := comes_1 fun _ _ _ _ _ _ h hF => ⟨h.2.1, hF⟩
end Jvm.Pilot.@@N@@
namespace Jvm.Pilot.@@N@@
open Jvm Jvm.ClassFile Sem Op Lib Jvm.Free Jvm.Stand Jvm.Pilot.@@N@@.Jvm.D
/-! MADE BY PROGRAM (witnessworld.py) out of the Statement's table words and the real class files: 19 classes; the members and pool entries that the words name. The judged class is class 1, her method 1. -/
namespace start1
open Jvm.ClassFile
def u (s : String) : CpInfo := .utf8 (stringToUtf16 s)
/-- a pool by its gaps: so many unusable entries, then the entry; so many at the end -/
def gap : Nat → List CpInfo → List CpInfo
  | 0, r => r
  | n + 1, r => .unusable :: gap n r
def poolList (es : List (Nat × CpInfo)) (last : Nat) : List CpInfo := es.foldr (fun e r => gap e.1 (e.2 :: r)) (gap last [])
def pool (es : List (Nat × CpInfo)) (last : Nat) : Array CpInfo := ⟨poolList es last⟩
def fileOf (pool : Array CpInfo) (this : Nat) (attrs : Array Attribute := #[]) (ms : Array MethodInfo := #[]) (fl : Nat := 33) (sup : Nat := 0) (ifs : Array Nat := #[]) (fds : Array FieldInfo := #[]) : ClassFile where
  minorVersion := 0
  majorVersion := 65
  constantPool := pool
  accessFlags := fl
  thisClass := this
  superClass := sup
  interfaces := ifs
  fields := fds
  methods := ms
  attributes := attrs
def plain (name : String) (sup : Option ClassId) : Class where
  name := name
  kind := .ordinary
  loader := none
  accessFlags := 33
  super := sup
  interfaces := #[]
  cf := none
  fields := #[]
  methods := #[]
  instanceTypes := #[]
  staticTypes := #[]
  resolved := #[]
  callSites := []
  init := .initialized
  statics := none
  mirror := none

def pool0 : Array CpInfo := pool [(5, u "<init>"), (0, u "()V"), (1, .class_ 10), (1, u "java/lang/Object")] 113

def k0m0 : Method := { name := "<init>", desc := "()V", sig := { parameters := [], returnType := none }, accessFlags := 1, code := none }
/-- java/lang/Object -/
def k0 : Class := { plain "java/lang/Object" none with
  accessFlags := 33
  interfaces := #[]
  cf := some (fileOf pool0 8 #[] #[{ accessFlags := 1, nameIndex := 5, descriptorIndex := 6, attributes := #[] }] 33 0 #[] #[])
  fields := #[]
  methods := #[k0m0]
  instanceTypes := #[]
  staticTypes := #[]
  resolved := Array.replicate 124 none
  statics := none }

def pool1 : Array CpInfo := pool [(2, .class_ 4), (1, u "java/lang/Object"), (0, u "<init>"), (0, u "()V"), (0, .integer 2147483647), (0, .fieldref 9 10), (0, .class_ 11), (0, .nameAndType 12 13), (0, u "com/example/quiddity/quiddity/sparql/Function"), (0, u "EQUAL"), (0, u "Lcom/example/quiddity/quiddity/sparql/Function;"), (0, .fieldref 9 15), (0, .nameAndType 16 13), (0, u "NOT_EQUAL"), (0, .fieldref 9 18), (0, .nameAndType 19 13), (0, u "SAME_TERM"), (0, .fieldref 9 21), (0, .nameAndType 22 13), (0, u "ADD"), (0, .fieldref 9 24), (0, .nameAndType 25 13), (0, u "STR"), (0, .fieldref 9 27), (0, .nameAndType 28 13), (0, u "CONCAT"), (0, .fieldref 9 30), (0, .nameAndType 31 13), (0, u "STRAFTER"), (0, .methodref 9 33), (0, .nameAndType 34 35), (0, u "takes"), (0, u "(I)Z"), (0, .class_ 37), (0, u "com/example/quiddity/quiddity/sparql/FunctionTakesPinLaw"), (2, u "law"), (0, u "(II)Z")] 3

def k1m0 : Method := { name := "<init>", desc := "()V", sig := { parameters := [], returnType := none }, accessFlags := 1, code := none }
def k1c1 : Code := { maxStack := 2, maxLocals := 6, code := code, exceptionTable := #[], attributes := #[] }
def k1m1 : Method := { name := "law", desc := "(II)Z", sig := { parameters := [.int, .int], returnType := some .boolean }, accessFlags := 9, code := some k1c1 }
/-- com/example/quiddity/quiddity/sparql/FunctionTakesPinLaw -/
def k1 : Class := { plain "com/example/quiddity/quiddity/sparql/FunctionTakesPinLaw" (some 0) with
  accessFlags := 49
  interfaces := #[]
  cf := some (fileOf pool1 36 #[] #[{ accessFlags := 1, nameIndex := 5, descriptorIndex := 6, attributes := #[] }, { accessFlags := 9, nameIndex := 40, descriptorIndex := 41, attributes := #[] }] 49 2 #[] #[])
  fields := #[]
  methods := #[k1m0, k1m1]
  instanceTypes := #[]
  staticTypes := #[]
  resolved := Array.replicate 45 none
  statics := none }

def pool2 : Array CpInfo := pool [(1, .class_ 2), (0, u "java/lang/constant/Constable"), (0, .class_ 4), (0, u "java/lang/Object")] 6

/-- java/lang/constant/Constable -/
def k2 : Class := { plain "java/lang/constant/Constable" (some 0) with
  accessFlags := 1537
  interfaces := #[]
  cf := some (fileOf pool2 1 #[] #[] 1537 3 #[] #[])
  fields := #[]
  methods := #[]
  instanceTypes := #[]
  staticTypes := #[]
  resolved := Array.replicate 11 none
  statics := none }

def pool3 : Array CpInfo := pool [(1, .class_ 2), (0, u "java/lang/Comparable"), (0, .class_ 4), (0, u "java/lang/Object")] 7

/-- java/lang/Comparable -/
def k3 : Class := { plain "java/lang/Comparable" (some 0) with
  accessFlags := 1537
  interfaces := #[]
  cf := some (fileOf pool3 1 #[] #[] 1537 3 #[] #[])
  fields := #[]
  methods := #[]
  instanceTypes := #[]
  staticTypes := #[]
  resolved := Array.replicate 12 none
  statics := none }

def pool4 : Array CpInfo := pool [(1, .class_ 2), (0, u "java/io/Serializable"), (0, .class_ 4), (0, u "java/lang/Object")] 2

/-- java/io/Serializable -/
def k4 : Class := { plain "java/io/Serializable" (some 0) with
  accessFlags := 1537
  interfaces := #[]
  cf := some (fileOf pool4 1 #[] #[] 1537 3 #[] #[])
  fields := #[]
  methods := #[]
  instanceTypes := #[]
  staticTypes := #[]
  resolved := Array.replicate 7 none
  statics := none }

def pool5 : Array CpInfo := pool [(2, .class_ 4), (1, u "java/lang/Enum"), (0, u "name"), (0, u "Ljava/lang/String;"), (2, u "ordinal"), (0, u "I"), (1, .class_ 14), (1, u "java/lang/Object"), (4, u "hash"), (86, .class_ 108), (1, u "java/lang/Enum$EnumDesc"), (2, .class_ 112), (0, u "java/lang/constant/Constable"), (0, .class_ 114), (0, u "java/lang/Comparable"), (0, .class_ 116), (0, u "java/io/Serializable")] 87

/-- java/lang/Enum -/
def k5 : Class := { plain "java/lang/Enum" (some 0) with
  accessFlags := 1057
  interfaces := #[2, 3, 4]
  cf := some (fileOf pool5 2 #[.nestMembers #[106]] #[] 1057 12 #[111, 113, 115] #[{ accessFlags := 18, nameIndex := 5, descriptorIndex := 6, attributes := #[] }, { accessFlags := 18, nameIndex := 9, descriptorIndex := 10, attributes := #[] }, { accessFlags := 2, nameIndex := 19, descriptorIndex := 10, attributes := #[] }])
  fields := #[{ name := "name", type := (.object "java/lang/String"), accessFlags := 18, slot := 0, constantValue := 0 }, { name := "ordinal", type := .int, accessFlags := 18, slot := 1, constantValue := 0 }, { name := "hash", type := .int, accessFlags := 2, slot := 2, constantValue := 0 }]
  methods := #[]
  instanceTypes := #[(.object "java/lang/String"), .int, .int]
  staticTypes := #[]
  resolved := Array.replicate 204 none
  statics := none }

def pool6 : Array CpInfo := pool [(1, .class_ 2), (0, u "com/example/quiddity/quiddity/sparql/Function"), (2, u "EQUAL"), (0, u "Lcom/example/quiddity/quiddity/sparql/Function;"), (2, u "NOT_EQUAL"), (2, u "SAME_TERM"), (2, u "ADD"), (2, u "STR"), (2, u "CONCAT"), (2, u "STRAFTER"), (2, u "$VALUES"), (0, u "[Lcom/example/quiddity/quiddity/sparql/Function;"), (6, .class_ 37), (1, u "java/lang/Enum"), (6, .fieldref 1 45), (0, .nameAndType 46 47), (0, u "arity"), (0, u "I"), (18, u "TRUE"), (55, u "Lcom/example/quiddity/quiddity/rdf/Literal;"), (2, u "FALSE"), (0, .class_ 127), (0, u "com/example/quiddity/quiddity/sparql/Function$1"), (4, .class_ 133), (0, u "com/example/quiddity/quiddity/sparql/Function$2"), (2, .class_ 137), (0, u "com/example/quiddity/quiddity/sparql/Function$3"), (2, .class_ 141), (0, u "com/example/quiddity/quiddity/sparql/Function$4"), (2, .class_ 145), (0, u "com/example/quiddity/quiddity/sparql/Function$5"), (2, .class_ 149), (0, u "com/example/quiddity/quiddity/sparql/Function$6"), (2, .class_ 153), (0, u "com/example/quiddity/quiddity/sparql/Function$7"), (10, u "XSD_BOOLEAN"), (0, u "Ljava/lang/String;"), (8, u "takes"), (0, u "(I)Z")] 17

def k6c0 : Code := { maxStack := 2, maxLocals := 2, code := prog_52_method_4_code, exceptionTable := #[], attributes := #[] }
def k6m0 : Method := { name := "takes", desc := "(I)Z", sig := { parameters := [.int], returnType := some .boolean }, accessFlags := 0, code := some k6c0 }
/-- com/example/quiddity/quiddity/sparql/Function -/
def k6 : Class := { plain "com/example/quiddity/quiddity/sparql/Function" (some 5) with
  accessFlags := 17441
  interfaces := #[]
  cf := some (fileOf pool6 1 #[.nestMembers #[152, 148, 144, 140, 136, 132, 126]] #[{ accessFlags := 0, nameIndex := 174, descriptorIndex := 175, attributes := #[] }] 17441 35 #[] #[{ accessFlags := 16409, nameIndex := 5, descriptorIndex := 6, attributes := #[] }, { accessFlags := 16409, nameIndex := 9, descriptorIndex := 6, attributes := #[] }, { accessFlags := 16409, nameIndex := 12, descriptorIndex := 6, attributes := #[] }, { accessFlags := 16409, nameIndex := 15, descriptorIndex := 6, attributes := #[] }, { accessFlags := 16409, nameIndex := 18, descriptorIndex := 6, attributes := #[] }, { accessFlags := 16409, nameIndex := 21, descriptorIndex := 6, attributes := #[] }, { accessFlags := 16409, nameIndex := 24, descriptorIndex := 6, attributes := #[] }, { accessFlags := 26, nameIndex := 164, descriptorIndex := 165, attributes := #[] }, { accessFlags := 26, nameIndex := 66, descriptorIndex := 122, attributes := #[] }, { accessFlags := 26, nameIndex := 125, descriptorIndex := 122, attributes := #[] }, { accessFlags := 18, nameIndex := 46, descriptorIndex := 47, attributes := #[] }, { accessFlags := 4122, nameIndex := 27, descriptorIndex := 28, attributes := #[] }])
  fields := #[{ name := "EQUAL", type := (.object "com/example/quiddity/quiddity/sparql/Function"), accessFlags := 16409, slot := 0, constantValue := 0 }, { name := "NOT_EQUAL", type := (.object "com/example/quiddity/quiddity/sparql/Function"), accessFlags := 16409, slot := 1, constantValue := 0 }, { name := "SAME_TERM", type := (.object "com/example/quiddity/quiddity/sparql/Function"), accessFlags := 16409, slot := 2, constantValue := 0 }, { name := "ADD", type := (.object "com/example/quiddity/quiddity/sparql/Function"), accessFlags := 16409, slot := 3, constantValue := 0 }, { name := "STR", type := (.object "com/example/quiddity/quiddity/sparql/Function"), accessFlags := 16409, slot := 4, constantValue := 0 }, { name := "CONCAT", type := (.object "com/example/quiddity/quiddity/sparql/Function"), accessFlags := 16409, slot := 5, constantValue := 0 }, { name := "STRAFTER", type := (.object "com/example/quiddity/quiddity/sparql/Function"), accessFlags := 16409, slot := 6, constantValue := 0 }, { name := "XSD_BOOLEAN", type := (.object "java/lang/String"), accessFlags := 26, slot := 7, constantValue := 0 }, { name := "TRUE", type := (.object "com/example/quiddity/quiddity/rdf/Literal"), accessFlags := 26, slot := 8, constantValue := 0 }, { name := "FALSE", type := (.object "com/example/quiddity/quiddity/rdf/Literal"), accessFlags := 26, slot := 9, constantValue := 0 }, { name := "arity", type := .int, accessFlags := 18, slot := 3, constantValue := 0 }, { name := "$VALUES", type := (.array (.object "com/example/quiddity/quiddity/sparql/Function")), accessFlags := 4122, slot := 10, constantValue := 0 }]
  methods := #[k6m0]
  instanceTypes := #[(.object "java/lang/String"), .int, .int, .int]
  staticTypes := #[(.object "com/example/quiddity/quiddity/sparql/Function"), (.object "com/example/quiddity/quiddity/sparql/Function"), (.object "com/example/quiddity/quiddity/sparql/Function"), (.object "com/example/quiddity/quiddity/sparql/Function"), (.object "com/example/quiddity/quiddity/sparql/Function"), (.object "com/example/quiddity/quiddity/sparql/Function"), (.object "com/example/quiddity/quiddity/sparql/Function"), (.object "java/lang/String"), (.object "com/example/quiddity/quiddity/rdf/Literal"), (.object "com/example/quiddity/quiddity/rdf/Literal"), (.array (.object "com/example/quiddity/quiddity/sparql/Function"))]
  resolved := Array.replicate 193 none
  statics := some 0 }

def pool7 : Array CpInfo := pool [(2, .class_ 4), (1, u "com/example/quiddity/quiddity/sparql/Function"), (24, .class_ 30), (0, u "com/example/quiddity/quiddity/sparql/Function$1")] 13

/-- com/example/quiddity/quiddity/sparql/Function$1 -/
def k7 : Class := { plain "com/example/quiddity/quiddity/sparql/Function$1" (some 6) with
  accessFlags := 16432
  interfaces := #[]
  cf := some (fileOf pool7 29 #[.nestHost 2] #[] 16432 2 #[] #[])
  fields := #[]
  methods := #[]
  instanceTypes := #[(.object "java/lang/String"), .int, .int, .int]
  staticTypes := #[]
  resolved := Array.replicate 44 none
  statics := none }

def pool8 : Array CpInfo := pool [(2, .class_ 4), (1, u "com/example/quiddity/quiddity/sparql/Function"), (24, .class_ 30), (0, u "com/example/quiddity/quiddity/sparql/Function$4")] 13

/-- com/example/quiddity/quiddity/sparql/Function$4 -/
def k8 : Class := { plain "com/example/quiddity/quiddity/sparql/Function$4" (some 6) with
  accessFlags := 16432
  interfaces := #[]
  cf := some (fileOf pool8 29 #[.nestHost 2] #[] 16432 2 #[] #[])
  fields := #[]
  methods := #[]
  instanceTypes := #[(.object "java/lang/String"), .int, .int, .int]
  staticTypes := #[]
  resolved := Array.replicate 44 none
  statics := none }

def pool9 : Array CpInfo := pool [(2, .class_ 4), (1, u "com/example/quiddity/quiddity/sparql/Function"), (24, .class_ 30), (0, u "com/example/quiddity/quiddity/sparql/Function$2")] 13

/-- com/example/quiddity/quiddity/sparql/Function$2 -/
def k9 : Class := { plain "com/example/quiddity/quiddity/sparql/Function$2" (some 6) with
  accessFlags := 16432
  interfaces := #[]
  cf := some (fileOf pool9 29 #[.nestHost 2] #[] 16432 2 #[] #[])
  fields := #[]
  methods := #[]
  instanceTypes := #[(.object "java/lang/String"), .int, .int, .int]
  staticTypes := #[]
  resolved := Array.replicate 44 none
  statics := none }

def pool10 : Array CpInfo := pool [(2, .class_ 4), (1, u "com/example/quiddity/quiddity/sparql/Function"), (27, .class_ 33), (0, u "com/example/quiddity/quiddity/sparql/Function$5")] 13

/-- com/example/quiddity/quiddity/sparql/Function$5 -/
def k10 : Class := { plain "com/example/quiddity/quiddity/sparql/Function$5" (some 6) with
  accessFlags := 16432
  interfaces := #[]
  cf := some (fileOf pool10 32 #[.nestHost 2] #[] 16432 2 #[] #[])
  fields := #[]
  methods := #[]
  instanceTypes := #[(.object "java/lang/String"), .int, .int, .int]
  staticTypes := #[]
  resolved := Array.replicate 47 none
  statics := none }

def pool11 : Array CpInfo := pool [(2, .class_ 4), (1, u "com/example/quiddity/quiddity/sparql/Function"), (59, .class_ 65), (0, u "com/example/quiddity/quiddity/sparql/Function$7")] 13

/-- com/example/quiddity/quiddity/sparql/Function$7 -/
def k11 : Class := { plain "com/example/quiddity/quiddity/sparql/Function$7" (some 6) with
  accessFlags := 16432
  interfaces := #[]
  cf := some (fileOf pool11 64 #[.nestHost 2] #[] 16432 2 #[] #[])
  fields := #[]
  methods := #[]
  instanceTypes := #[(.object "java/lang/String"), .int, .int, .int]
  staticTypes := #[]
  resolved := Array.replicate 79 none
  statics := none }

def pool12 : Array CpInfo := pool [(2, .class_ 4), (1, u "com/example/quiddity/quiddity/sparql/Function"), (65, .class_ 71), (0, u "com/example/quiddity/quiddity/sparql/Function$6")] 13

/-- com/example/quiddity/quiddity/sparql/Function$6 -/
def k12 : Class := { plain "com/example/quiddity/quiddity/sparql/Function$6" (some 6) with
  accessFlags := 16432
  interfaces := #[]
  cf := some (fileOf pool12 70 #[.nestHost 2] #[] 16432 2 #[] #[])
  fields := #[]
  methods := #[]
  instanceTypes := #[(.object "java/lang/String"), .int, .int, .int]
  staticTypes := #[]
  resolved := Array.replicate 85 none
  statics := none }

def pool13 : Array CpInfo := pool [(2, .class_ 4), (1, u "com/example/quiddity/quiddity/sparql/Function"), (18, .class_ 24), (0, u "com/example/quiddity/quiddity/sparql/Function$3")] 12

/-- com/example/quiddity/quiddity/sparql/Function$3 -/
def k13 : Class := { plain "com/example/quiddity/quiddity/sparql/Function$3" (some 6) with
  accessFlags := 16432
  interfaces := #[]
  cf := some (fileOf pool13 23 #[.nestHost 2] #[] 16432 2 #[] #[])
  fields := #[]
  methods := #[]
  instanceTypes := #[(.object "java/lang/String"), .int, .int, .int]
  staticTypes := #[]
  resolved := Array.replicate 37 none
  statics := none }

def pool14 : Array CpInfo := pool [(1, u "java/lang/Cloneable"), (0, .class_ 1), (0, u "java/lang/Object"), (0, .class_ 3)] 3

/-- java/lang/Cloneable -/
def k14 : Class := { plain "java/lang/Cloneable" (some 0) with
  accessFlags := 1537
  interfaces := #[]
  cf := some (fileOf pool14 2 #[] #[] 1537 4 #[] #[])
  fields := #[]
  methods := #[]
  instanceTypes := #[]
  staticTypes := #[]
  resolved := Array.replicate 8 none
  statics := none }

/-- the primitive byte -/
def k15 : Class := { plain "byte" none with kind := .primitive 'B', accessFlags := 0x411 }
/-- [B -/
def k16 : Class := { plain "[B" (some 0) with kind := .array 15 .byte, interfaces := #[14, 4], accessFlags := 1041 }

/-- the primitive int -/
def k17 : Class := { plain "int" none with kind := .primitive 'I', accessFlags := 0x411 }
/-- [I -/
def k18 : Class := { plain "[I" (some 0) with kind := .array 17 .int, interfaces := #[14, 4], accessFlags := 1041 }

def heap : Heap := #[{ cls := 6, slots := #[.ref 1, .ref 2, .ref 3, .ref 4, .ref 5, .ref 6, .ref 7, .null, .null, .null, .null], vm := .statics 6 },
  { cls := 7, slots := #[.null, .int 0, .int 0, .int 2], vm := .none },
  { cls := 9, slots := #[.null, .int 1, .int 0, .int 2], vm := .none },
  { cls := 13, slots := #[.null, .int 2, .int 0, .int 2], vm := .none },
  { cls := 8, slots := #[.null, .int 3, .int 0, .int 2], vm := .none },
  { cls := 10, slots := #[.null, .int 4, .int 0, .int 1], vm := .none },
  { cls := 12, slots := #[.null, .int 5, .int 0, .int (-1)], vm := .none },
  { cls := 11, slots := #[.null, .int 6, .int 0, .int 2], vm := .none }]
def classes : Array Class := #[k0, k1, k2, k3, k4, k5, k6, k7, k8, k9, k10, k11, k12, k13, k14, k15, k16, k17, k18]
def interned : List (Array UInt16 × Addr) := []
def slotsUsed : Nat := 39
def theMethod : MethodId := ⟨1, 1⟩
def args0 : Array Value := #[.int 3, .int 2]
def aboutOver (below : List Frame) : State where
  vm := { classes := classes, interned := interned.toArray }
  heap := heap
  slotsUsed := slotsUsed
  threads := #[{ frames := .invoking theMethod args0 :: below }]
def below0 : List Frame := [.native { method := ⟨0, 0⟩, args := #[] }]
def about1 : State := aboutOver below0
def p0 : Program := .bare "" "" ""
def e0 : Env := launch0.env 0 0 0
theorem w_frames : about1.frames = Frame.invoking theMethod args0 :: below0 := rfl
set_option maxRecDepth 65536 in
theorem w_args : argsFit about1.vm theMethod args0 = true := by decide +kernel
set_option maxRecDepth 65536 in
theorem w_heap : heapFits about1 = true := by decide +kernel
set_option maxRecDepth 65536 in
theorem w_runnable : about1.curStatus? = some .runnable := by decide +kernel
set_option maxRecDepth 65536 in
theorem w_alone : about1.alone = true := by decide +kernel
set_option maxRecDepth 65536 in
theorem w_named : about1.methodNamed? x = some theMethod := by decide +kernel
set_option maxRecDepth 65536 in
theorem w_hears : about1.hears theMethod below0 = true := by decide +kernel
set_option maxRecDepth 65536 in
theorem w_ripe : about1.ripe theMethod args0 below0 = true := by decide +kernel
theorem w_running : about1.status = .running := rfl
set_option maxRecDepth 65536 in
theorem w_room : about1.hasRoom e0.platform room_1 = true :=
  launch0.hasRoom_least _ room_1 (by decide +kernel) (by decide +kernel) (by decide +kernel) (by decide +kernel) (by decide +kernel) (by decide +kernel)
theorem allAtoms_all (ts : List Jvm.Cond) (a : Array Jvm.Value) (st : Jvm.State) : (allAtoms ts).before a st = ts.all (fun c => c.before a st) := by
  induction ts with
  | nil => rfl
  | cons c t ih =>
    show (Jvm.Cond.and c (allAtoms t)).before a st = _
    rw [Jvm.Cond.before_and, ih, List.all_cons]
def words1 : List Jvm.Cond := Jvm.Cond.code x code maxLocals ret :: tables_1
/-- a 'code' word, met by the world's own term for the bytes: nothing is compared byte by byte -/
theorem code_word {y : MethodName} {bytes : ByteArray} {mx : Nat} {rt : Option FieldType} {a : Array Value} {s : State} {m : MethodId} {meth : Method} {c : Code} (h1 : s.methodNamed? y = some m) (h2 : s.vm.method? m = some meth) (h3 : meth.code = some c) (h4 : c.code = bytes)
    (h5 : (c.maxLocals == mx && c.exceptionTable.isEmpty && decide (c.maxStack ≤ mostOperands) && decide (meth.sig.returnType = rt) && !meth.locks && decide (parseMethodDescriptor y.desc = some meth.sig)) = true) : (Jvm.Cond.code y bytes mx rt).before a s = true := by
  simp only [Bool.and_eq_true, beq_iff_eq, Bool.not_eq_true', decide_eq_true_eq] at h5
  obtain ⟨⟨⟨⟨⟨g1, g2⟩, g3⟩, g4⟩, g5⟩, g6⟩ := h5
  simp [Cond.before, Cond.holds, Cond.value, h1, h2, h3, h4, g1, g2, g3, g4, g5, g6]
def isCode : Jvm.Cond → Bool
  | .code _ _ _ _ => true
  | _ => false
theorem all_split {L : List Jvm.Cond} {P : Jvm.Cond → Bool} (h1 : L.all (fun c => isCode c || P c) = true) (h2 : ∀ c ∈ L.filter isCode, P c = true) : L.all P = true := by
  refine List.all_eq_true.mpr fun c hc => ?_
  have h := List.all_eq_true.mp h1 c hc
  rcases Bool.eq_false_or_eq_true (isCode c) with hi | hi
  · exact h2 c (List.mem_filter.mpr ⟨hc, hi⟩)
  · simpa [hi] using h
set_option maxRecDepth 65536 in
theorem w_c0 : (Jvm.Cond.code x code maxLocals ret).before args0 about1 = true := code_word (m := ⟨1, 1⟩) (meth := k1m1) (c := k1c1) (by decide +kernel) rfl rfl rfl (by decide +kernel)
set_option maxRecDepth 65536 in
theorem w_c1 : (Jvm.Cond.code ({ cls := "com/example/quiddity/quiddity/sparql/Function", name := "takes", desc := "(I)Z" } : Jvm.MethodName) prog_52_method_4_code (2 : Nat) (Option.some Jvm.ClassFile.FieldType.boolean)).before args0 about1 = true := code_word (m := ⟨6, 0⟩) (meth := k6m0) (c := k6c0) (by decide +kernel) rfl rfl rfl (by decide +kernel)
def codes1 : List Jvm.Cond := [Jvm.Cond.code x code maxLocals ret, Jvm.Cond.code ({ cls := "com/example/quiddity/quiddity/sparql/Function", name := "takes", desc := "(I)Z" } : Jvm.MethodName) prog_52_method_4_code (2 : Nat) (Option.some Jvm.ClassFile.FieldType.boolean)]
set_option maxRecDepth 65536 in
theorem codes_eq : words1.filter isCode = codes1 := rfl
theorem w_codes : ∀ c ∈ words1.filter isCode, c.before args0 about1 = true := by
  rw [codes_eq]
  intro c hc
  simp only [codes1, List.mem_cons, List.not_mem_nil, or_false] at hc
  rcases hc with rfl | rfl
  · exact w_c0
  · exact w_c1
set_option maxRecDepth 65536 in
theorem w_t1 : (words1.take 24).all (fun c => isCode c || c.before args0 about1) = true := by decide +kernel
set_option maxRecDepth 65536 in
theorem w_t2 : (words1.drop 24).all (fun c => isCode c || c.before args0 about1) = true := by decide +kernel
theorem w_tables : (allAtoms (Jvm.Cond.code x code maxLocals ret :: tables_1)).before args0 about1 = true := by
  rw [allAtoms_all]
  show words1.all (fun c => c.before args0 about1) = true
  refine all_split ?_ w_codes
  rw [← List.take_append_drop 24 words1, List.all_append, w_t1, w_t2]
  rfl
set_option maxRecDepth 65536 in
theorem w_case : (Jvm.Cond.and given_1 narrow_1).before args0 about1 = true := by decide +kernel
theorem w_applies : (headSpec (Jvm.Cond.code x code maxLocals ret :: tables_1) room_1).applies x e0.platform about1 = true :=
  (Spec.applies_iff w_frames).mpr ⟨w_running, w_runnable, w_alone, w_named, w_hears, w_ripe, w_room, w_tables⟩
theorem atStart : AtStart classFile x code maxLocals ret World_1 tables_1 room_1 Calls_1 rest_1 Pre_1 launch0 p0 e0 about1 theMethod args0 below0 :=
  ⟨lists_1, trivial, launch0.admits_env _ _ _, launch0.least_env, fairChoices_fair.cas, fairChoices_fair.clock, w_frames, w_args, w_heap, w_applies, trivial, trivial, w_case⟩
end start1
theorem witness_1 : WitnessClaimed_1 := ⟨start1.p0, start1.e0, start1.about1, start1.theMethod, start1.args0, start1.below0, start1.atStart⟩
end Jvm.Pilot.@@N@@
