import JvmDerived
import JvmDerived.Pilot.@@N@@Statement
import JvmDerived.Pilot.@@N@@Code
set_option linter.unusedVariables false
set_option linter.unusedSimpArgs false
namespace Jvm.Pilot.@@N@@
open Jvm Jvm.ClassFile Sem Op Lib Jvm.Free Jvm.Stand Jvm.LawKit Jvm.RoadKit Bundle Jvm.Pilot.@@N@@.Jvm.D
section OwnKit
variable {p : Program} {l : Launch} {e : Env} {R : Room} {s : State} {m : MethodId} {args : Array Value} {below : List Frame} {meth : Method} {c : Code} {T : State} {locs : List Loc} {cells slots : Nat} {Z : State} {a0 : Array Value} {h : Heap}
/-- from S the body comes to its end, and P holds of it -/
def Gd (tb : Tables) (e : Env) (below : List Frame) (P : Outcome → State → Prop) (S : State) : Prop := ∃ s₂ o, Steps tb e below S s₂ ∧ s₂.status = .running ∧ Ended s₂ below o ∧ P o s₂
theorem Gd.go {tb : Tables} {e : Env} {below : List Frame} {P : Outcome → State → Prop} {S S' : State} (h : ∀ t, Steps tb e below S' t → Steps tb e below S t) (k : Gd tb e below P S') : Gd tb e below P S := by
  obtain ⟨s₂, o, h1, h2⟩ := k
  exact ⟨s₂, o, h _ h1, h2⟩
theorem Gd.via {tb : Tables} {e : Env} {below : List Frame} {P : Outcome → State → Prop} {S S' : State} (h : Gd tb e below P S' → Gd tb e below P S) (k : Gd tb e below P S') : Gd tb e below P S := h k
theorem Gd.viaA {α : Type} {A : α → Prop} {tb : Tables} {e : Env} {below : List Frame} {P : Outcome → State → Prop} {S : State} {S' : α → State} (h : (∀ z, A z → Gd tb e below P (S' z)) → Gd tb e below P S) (k : ∀ z, A z → Gd tb e below P (S' z)) : Gd tb e below P S := h k
/-- a body's contract: called with these arguments over this heap it returns, Q holds, and so many cells and slots at most are new -/
def Con (l : Launch) (Z : State) (y : MethodName) (bytes : ByteArray) (maxL : Nat) (ret : Option FieldType) (ws : List Jvm.Cond) (rm : Room) (kc ks : Nat) (as' : Array Value) (h : Heap) (Q : Option Value → Heap → List Loc → Prop) : Prop :=
  MetFree l y (head1 (Jvm.Cond.code y bytes maxL ret :: ws) rm) (fun a U => a = as' ∧ Z.Warmed39 U.vm ∧ U.heap = h) (fun _ _ _ _ _ => True) (fun _ U o U' => ∃ v L, o = .returned v ∧ Q v U'.heap L ∧ FrameEnd U o U' L kc ks)
/-- what a body's walk owes -/
abbrev Owes (s : State) (kc ks : Nat) (Q : Option Value → Heap → List Loc → Prop) : Outcome → State → Prop := fun o U' => ∃ v L, o = .returned v ∧ Q v U'.heap L ∧ FrameEnd s o U' L kc ks
theorem Con.of {y : MethodName} {bytes : ByteArray} {maxL : Nat} {ret : Option FieldType} {ws : List Jvm.Cond} {rm : Room} {kc ks : Nat} {as' : Array Value} {Q : Option Value → Heap → List Loc → Prop} (hpn : plainFor y = true)
    (body : ∀ (p : Program) (e : Env) (s : State) (m : MethodId) (below : List Frame) (meth : Method) (c : Code) (s₁ : State), p.tables.exec = Jvm.exec → c.code = bytes → c.maxLocals = maxL → s.vm.findClass y.cls = some m.cls → meth.name = y.name → meth.sig.returnType = ret → meth.locks = false → Z.Warmed39 s.vm →
      Stand p l e rm s m as' below meth c s₁ [] 0 0 → s₁.heap = h → Gd p.tables e below (Owes s kc ks Q) (s₁.setTop (entryFrame m as' maxL))) : Con l Z y bytes maxL ret ws rm kc ks as' h Q := by
  refine MetFree.of_bodySF hpn hisR ?_
  intro p e s m args below meth c s₁ Bd hml0 hP hK
  obtain ⟨rfl, hZ, hh⟩ := hP
  exact body p e s m below meth c s₁ Bd.exec Bd.bytes hml0 (findClass_of_methodNamed Bd.named) (name_of_methodNamed Bd.named Bd.method).1 Bd.returns Bd.notSynchronized hZ (Stand.of_body Bd) (by rw [← hh, Bd.state]; rfl)
theorem own_retI (X : Stand p l e R s m args below meth c T locs cells slots) (hx : p.tables.exec = Jvm.exec) {pc : Nat} {Ls : Array Slot} {z : Int32} {rest : List Value} (hret : meth.sig.returnType = some .int) (hlk : meth.locks = false) (hd : decode c.code pc = .ok (.ireturn, 1)) {Q : Option Value → Heap → List Loc → Prop} {kc ks : Nat} (hq : Q (some (.int z)) T.heap locs) (hc : cells ≤ kc) (hs : slots ≤ ks) :
    Gd p.tables e below (Owes s kc ks Q) (T.setTop (mkF m pc Ls (.int z :: rest))) := by
  obtain ⟨fs, hr, hrun, hended, hW, hsame⟩ := X.leave (v := some (.int z)) (fun h => by rw [hret] at h; cases h) hlk
  have hm' : T.vm.method? m = some meth := X.method'
  have hn : narrow .int (.int z) = .int z := rfl
  refine ⟨_, _, ?_, hrun, hended, _, _, rfl, hq, ⟨_, rfl⟩, hW, hsame.mono hc hs⟩
  show Steps p.tables e below (T.setTop { method := m, pc := pc, locals := Ls, stack := _ :: rest, locked := none }) _
  jvm_step X.here [X.here.top, hx, hd, hm', hret, hn]
  first | (intro acts; rw [hr _ acts rfl rfl rfl]) | rw [hr _ _ rfl rfl rfl]
  exact Steps.refl _
theorem own_retN (X : Stand p l e R s m args below meth c T locs cells slots) (hx : p.tables.exec = Jvm.exec) {pc : Nat} {Ls : Array Slot} {z : Int32} {rest : List Value} {t : FieldType} (hret : meth.sig.returnType = some t) (hlk : meth.locks = false) (ht : t = .boolean ∨ t = .byte ∨ t = .char ∨ t = .short) (hd : decode c.code pc = .ok (.ireturn, 1)) {Q : Option Value → Heap → List Loc → Prop} {kc ks : Nat} (hq : Q (some (.int (nar t z))) T.heap locs) (hc : cells ≤ kc) (hs : slots ≤ ks) :
    Gd p.tables e below (Owes s kc ks Q) (T.setTop (mkF m pc Ls (.int z :: rest))) := by
  obtain ⟨fs, hr, hrun, hended, hW, hsame⟩ := X.leave (v := some (.int (nar t z))) (fun h => by rw [hret] at h; cases h) hlk
  exact ⟨_, _, retN X hx hret ht hd hr, hrun, hended, _, _, rfl, hq, ⟨_, rfl⟩, hW, hsame.mono hc hs⟩
theorem own_retV (X : Stand p l e R s m args below meth c T locs cells slots) (hx : p.tables.exec = Jvm.exec) {pc : Nat} {Ls : Array Slot} (hret : meth.sig.returnType = none) (hlk : meth.locks = false) (hd : decode c.code pc = .ok (.return_, 1)) {Q : Option Value → Heap → List Loc → Prop} {kc ks : Nat} (hq : Q none T.heap locs) (hc : cells ≤ kc) (hs : slots ≤ ks) :
    Gd p.tables e below (Owes s kc ks Q) (T.setTop (mkF m pc Ls [])) := by
  obtain ⟨fs, hr, hrun, hended, hW, hsame⟩ := X.leave (v := none) (fun _ => rfl) hlk
  exact ⟨_, _, X.returnOut hx hret hd hr, hrun, hended, _, _, rfl, hq, ⟨_, rfl⟩, hW, hsame.mono hc hs⟩
theorem own_retL (X : Stand p l e R s m args below meth c T locs cells slots) (hx : p.tables.exec = Jvm.exec) {pc : Nat} {Ls : Array Slot} {z : Int64} {rest : List Value} (hret : meth.sig.returnType = some .long) (hlk : meth.locks = false) (hd : decode c.code pc = .ok (.lreturn, 1)) {Q : Option Value → Heap → List Loc → Prop} {kc ks : Nat} (hq : Q (some (.long z)) T.heap locs) (hc : cells ≤ kc) (hs : slots ≤ ks) :
    Gd p.tables e below (Owes s kc ks Q) (T.setTop (mkF m pc Ls (.long z :: rest))) := by
  obtain ⟨fs, hr, hrun, hended, hW, hsame⟩ := X.leave (v := some (.long z)) (fun h => by rw [hret] at h; cases h) hlk
  have hm' : T.vm.method? m = some meth := X.method'
  refine ⟨_, _, ?_, hrun, hended, _, _, rfl, hq, ⟨_, rfl⟩, hW, hsame.mono hc hs⟩
  show Steps p.tables e below (T.setTop { method := m, pc := pc, locals := Ls, stack := _ :: rest, locked := none }) _
  jvm_step X.here [X.here.top, hx, hd, hm', hret, narrow]
  first | (intro acts; rw [hr _ acts rfl rfl rfl]) | rw [hr _ _ rfl rfl rfl]
  exact Steps.refl _
theorem own_retA (X : Stand p l e R s m args below meth c T locs cells slots) (hx : p.tables.exec = Jvm.exec) {pc : Nat} {Ls : Array Slot} {a : Addr} {rest : List Value} {t : FieldType} (hret : meth.sig.returnType = some t) (hlk : meth.locks = false) (ht : t.isReference = true) (hd : decode c.code pc = .ok (.areturn, 1)) {Q : Option Value → Heap → List Loc → Prop} {kc ks : Nat} (hq : Q (some (.ref a)) T.heap locs) (hc : cells ≤ kc) (hs : slots ≤ ks) :
    Gd p.tables e below (Owes s kc ks Q) (T.setTop (mkF m pc Ls (.ref a :: rest))) := by
  obtain ⟨fs, hr, hrun, hended, hW, hsame⟩ := X.leave (v := some (.ref a)) (fun h => by rw [hret] at h; cases h) hlk
  have hm' : T.vm.method? m = some meth := X.method'
  refine ⟨_, _, ?_, hrun, hended, _, _, rfl, hq, ⟨_, rfl⟩, hW, hsame.mono hc hs⟩
  show Steps p.tables e below (T.setTop { method := m, pc := pc, locals := Ls, stack := _ :: rest, locked := none }) _
  jvm_step X.here [X.here.top, hx, hd, hm', hret, ht, Value.isRef]
  first | (intro acts; rw [hr _ acts rfl rfl rfl]) | rw [hr _ _ rfl rfl rfl]
  exact Steps.refl _
/-- a static call by its contract -/
theorem own_callS (X : Stand p l e R s m args below meth c T locs cells slots) (hx : p.tables.exec = Jvm.exec) (hZ : Z.Warmed39 s.vm) {own : String} {index : Nat} {y : MethodName} {bytes : ByteArray} {maxL : Nat} {ret : Option FieldType} (hown : s.vm.findClass own = some m.cls)
    (w1 : (Jvm.Cond.methodLink own index y).before a0 Z = true) (w2 : (Jvm.Cond.static y).before a0 Z = true) (w3 : (Jvm.Cond.initialized y.cls).before a0 Z = true) (w4 : (Jvm.Cond.code y bytes maxL ret).before a0 Z = true) (hy : y.cls ≠ "java/lang/invoke/MethodHandle" ∧ y.cls ≠ "java/lang/invoke/VarHandle")
    {rm : Room} {as' : Array Value} {Q : Option Value → Heap → List Loc → Prop} {W kc ks : Nat} (hM : Con l Z y bytes maxL ret [] rm kc ks as' h Q) (hkc : rm.cells = kc) (hks : rm.slots = ks) (eT : T.heap = h) (hf : rm.frames + 1 ≤ R.frames) (hl : W + (maxL + 11) + rm.locals ≤ R.locals)
    {g : JFrame} (hg : g.method = m) (hsize : g.locals.size = c.maxLocals) {argsL rest : List Value} (hlen : ∀ sig, parseMethodDescriptor y.desc = some sig → argsL.length = sig.parameters.length) (hstack : g.stack = argsL.reverse ++ rest) (hW : 2 * g.monitorRoom + (rest.map fun v => v.category).sum ≤ W)
    (hdg : decode c.code g.pc = .ok (.invokestatic index, 3)) (has : argsL.toArray = as') (hc : cells + kc ≤ R.cells) (hs : slots + ks ≤ R.slots) :
    ∃ v T' L, Stand p l e R s m args below meth c T' (locs ++ L) (cells + kc) (slots + ks) ∧ Q v T'.heap L ∧ ∀ target, Steps p.tables e below (T'.setTop { g with pc := g.pc + 3, stack := v.toList ++ rest }) target → Steps p.tables e below (T.setTop g) target := by
  subst hkc hks
  obtain ⟨v, vm₁, ⟨T', L', c', s'⟩, -, X', ⟨L, hq, l1, l2, l3⟩, st⟩ := Jvm.LawKit.callS X hx (y := y) hown (mvT hZ w1) (mvT hZ w2) (mvT hZ w3) (mvT hZ w4) hy (backOf (W := W) hM hZ w4 w3 hf hl) hg hsize (argsL := argsL) (rest := rest) hlen hstack hW hdg (fun _ _ => ⟨has, eT, hc, hs⟩)
  dsimp only [Pt.U, Pt.locs, Pt.cells, Pt.slots] at X' l1 l2 l3 st hq
  subst l1 l2 l3
  exact ⟨v, T', L, X', hq, st⟩
/-- a static call that writes and makes nothing -/
theorem own_callSP (X : Stand p l e R s m args below meth c T locs cells slots) (hx : p.tables.exec = Jvm.exec) (hZ : Z.Warmed39 s.vm) {own : String} {index : Nat} {y : MethodName} {bytes : ByteArray} {maxL : Nat} {ret : Option FieldType} (hown : s.vm.findClass own = some m.cls)
    (w1 : (Jvm.Cond.methodLink own index y).before a0 Z = true) (w2 : (Jvm.Cond.static y).before a0 Z = true) (w3 : (Jvm.Cond.initialized y.cls).before a0 Z = true) (w4 : (Jvm.Cond.code y bytes maxL ret).before a0 Z = true) (hy : y.cls ≠ "java/lang/invoke/MethodHandle" ∧ y.cls ≠ "java/lang/invoke/VarHandle")
    {rm : Room} {as' : Array Value} {v : Option Value} {W : Nat} (hM : Con l Z y bytes maxL ret [] rm 0 0 as' h (fun v' h' L => v' = v ∧ h' = h ∧ L = [])) (hkc : rm.cells = 0) (hks : rm.slots = 0) (eT : T.heap = h) (hf : rm.frames + 1 ≤ R.frames) (hl : W + (maxL + 11) + rm.locals ≤ R.locals)
    {g : JFrame} (hg : g.method = m) (hsize : g.locals.size = c.maxLocals) {argsL rest : List Value} (hlen : ∀ sig, parseMethodDescriptor y.desc = some sig → argsL.length = sig.parameters.length) (hstack : g.stack = argsL.reverse ++ rest) (hW : 2 * g.monitorRoom + (rest.map fun v => v.category).sum ≤ W)
    (hdg : decode c.code g.pc = .ok (.invokestatic index, 3)) (has : argsL.toArray = as') (hc : cells ≤ R.cells := by decide) (hs : slots ≤ R.slots := by decide) :
    ∃ T', Stand p l e R s m args below meth c T' locs cells slots ∧ T'.heap = h ∧ ∀ target, Steps p.tables e below (T'.setTop { g with pc := g.pc + 3, stack := v.toList ++ rest }) target → Steps p.tables e below (T.setTop g) target := by
  obtain ⟨v', T', L, X', ⟨e1, e2, e3⟩, st⟩ := own_callS X hx hZ hown w1 w2 w3 w4 hy hM hkc hks eT hf hl hg hsize hlen hstack hW hdg has hc hs
  subst e1 e3
  rw [List.append_nil] at X'
  exact ⟨T', X', e2, st⟩
/-- an instance method by its contract, chosen by the receiver's class -/
theorem own_callV (X : Stand p l e R s m args below meth c T locs cells slots) (hx : p.tables.exec = Jvm.exec) (hZ : Z.Warmed39 s.vm) {own C : String} {index : Nat} {y : MethodName} {bytes : ByteArray} {maxL : Nat} {ret : Option FieldType} (hown : s.vm.findClass own = some m.cls)
    (w1 : (Jvm.Cond.methodLink own index y).before a0 Z = true) (w2 : (Jvm.Cond.declares y).before a0 Z = true) (w3 : (Jvm.Cond.selects C y y).before a0 Z = true) (w4 : (Jvm.Cond.instanceMethod y).before a0 Z = true) (w5 : (Jvm.Cond.initialized y.cls).before a0 Z = true) (w6 : (Jvm.Cond.code y bytes maxL ret).before a0 Z = true) (hy : y.cls ≠ "java/lang/invoke/MethodHandle" ∧ y.cls ≠ "java/lang/invoke/VarHandle")
    {b : Addr} (E : Exa Z h b C) {rm : Room} {as' : Array Value} {Q : Option Value → Heap → List Loc → Prop} {W kc ks : Nat} (hM : Con l Z y bytes maxL ret [] rm kc ks as' h Q) (hkc : rm.cells = kc) (hks : rm.slots = ks) (eT : T.heap = h) (hf : rm.frames + 1 ≤ R.frames) (hl : W + (maxL + 11) + rm.locals ≤ R.locals)
    {g : JFrame} (hg : g.method = m) (hsize : g.locals.size = c.maxLocals) {argsL rest : List Value} (hlen : ∀ sig, parseMethodDescriptor y.desc = some sig → argsL.length = sig.parameters.length) (hstack : g.stack = argsL.reverse ++ .ref b :: rest) (hW : 2 * g.monitorRoom + (rest.map fun v => v.category).sum ≤ W)
    (hdg : decode c.code g.pc = .ok (.invokevirtual index, 3)) (has : (.ref b :: argsL).toArray = as') (hc : cells + kc ≤ R.cells) (hs : slots + ks ≤ R.slots) :
    ∃ v T' L, Stand p l e R s m args below meth c T' (locs ++ L) (cells + kc) (slots + ks) ∧ Q v T'.heap L ∧ ∀ target, Steps p.tables e below (T'.setTop { g with pc := g.pc + 3, stack := v.toList ++ rest }) target → Steps p.tables e below (T.setTop g) target := by
  subst hkc hks
  obtain ⟨cq, kq, qa, qb, qc⟩ := isOf hZ eT E
  obtain ⟨v, vm₁, ⟨T', L', c', s'⟩, -, X', ⟨L, hq, l1, l2, l3⟩, st⟩ := X.virtualBack hx (y := y) (z := y) hown (mvT hZ w1) (mvT hZ w2) (notFace_of_selects (args := #[]) (mvT hZ w3)) (mvT hZ w3) (mvT hZ w4) hy (backOf (W := W) hM hZ w6 w5 hf hl) qa qc hg hsize (Steps.refl _) (argsL := argsL) (rest := rest) hlen hstack hW hdg (fun _ _ => ⟨has, eT, hc, hs⟩)
  dsimp only [Pt.U, Pt.locs, Pt.cells, Pt.slots] at X' l1 l2 l3 st hq
  subst l1 l2 l3
  exact ⟨v, T', L, X', hq, fun _ k => st.trans k⟩
/-- an instance method that writes and makes nothing -/
theorem own_callVP (X : Stand p l e R s m args below meth c T locs cells slots) (hx : p.tables.exec = Jvm.exec) (hZ : Z.Warmed39 s.vm) {own C : String} {index : Nat} {y : MethodName} {bytes : ByteArray} {maxL : Nat} {ret : Option FieldType} (hown : s.vm.findClass own = some m.cls)
    (w1 : (Jvm.Cond.methodLink own index y).before a0 Z = true) (w2 : (Jvm.Cond.declares y).before a0 Z = true) (w3 : (Jvm.Cond.selects C y y).before a0 Z = true) (w4 : (Jvm.Cond.instanceMethod y).before a0 Z = true) (w5 : (Jvm.Cond.initialized y.cls).before a0 Z = true) (w6 : (Jvm.Cond.code y bytes maxL ret).before a0 Z = true) (hy : y.cls ≠ "java/lang/invoke/MethodHandle" ∧ y.cls ≠ "java/lang/invoke/VarHandle")
    {b : Addr} (E : Exa Z h b C) {rm : Room} {as' : Array Value} {v : Option Value} {W : Nat} (hM : Con l Z y bytes maxL ret [] rm 0 0 as' h (fun v' h' L => v' = v ∧ h' = h ∧ L = [])) (hkc : rm.cells = 0) (hks : rm.slots = 0) (eT : T.heap = h) (hf : rm.frames + 1 ≤ R.frames) (hl : W + (maxL + 11) + rm.locals ≤ R.locals)
    {g : JFrame} (hg : g.method = m) (hsize : g.locals.size = c.maxLocals) {argsL rest : List Value} (hlen : ∀ sig, parseMethodDescriptor y.desc = some sig → argsL.length = sig.parameters.length) (hstack : g.stack = argsL.reverse ++ .ref b :: rest) (hW : 2 * g.monitorRoom + (rest.map fun v => v.category).sum ≤ W)
    (hdg : decode c.code g.pc = .ok (.invokevirtual index, 3)) (has : (.ref b :: argsL).toArray = as') (hc : cells ≤ R.cells := by decide) (hs : slots ≤ R.slots := by decide) :
    ∃ T', Stand p l e R s m args below meth c T' locs cells slots ∧ T'.heap = h ∧ ∀ target, Steps p.tables e below (T'.setTop { g with pc := g.pc + 3, stack := v.toList ++ rest }) target → Steps p.tables e below (T.setTop g) target := by
  obtain ⟨v', T', L, X', ⟨e1, e2, e3⟩, st⟩ := own_callV X hx hZ hown w1 w2 w3 w4 w5 w6 hy E hM hkc hks eT hf hl hg hsize hlen hstack hW hdg has hc hs
  subst e1 e3
  rw [List.append_nil] at X'
  exact ⟨T', X', e2, st⟩
/-- a constructor by its contract -/
theorem own_callI (X : Stand p l e R s m args below meth c T locs cells slots) (hx : p.tables.exec = Jvm.exec) (hZ : Z.Warmed39 s.vm) {own : String} {index : Nat} {y : MethodName} {bytes : ByteArray} {maxL : Nat} (hy1 : y.name = "<init>") (hown : s.vm.findClass own = some m.cls)
    (w1 : (Jvm.Cond.methodLink own index y).before a0 Z = true) (w4 : (Jvm.Cond.instanceMethod y).before a0 Z = true) (w5 : (Jvm.Cond.initialized y.cls).before a0 Z = true) (w6 : (Jvm.Cond.code y bytes maxL none).before a0 Z = true) (hy : y.cls ≠ "java/lang/invoke/MethodHandle" ∧ y.cls ≠ "java/lang/invoke/VarHandle")
    {b : Addr} {rm : Room} {as' : Array Value} {Q : Option Value → Heap → List Loc → Prop} {W kc ks : Nat} (hM : Con l Z y bytes maxL none [] rm kc ks as' h Q) (hkc : rm.cells = kc) (hks : rm.slots = ks) (eT : T.heap = h) (hf : rm.frames + 1 ≤ R.frames) (hl : W + (maxL + 11) + rm.locals ≤ R.locals)
    {g : JFrame} (hg : g.method = m) (hsize : g.locals.size = c.maxLocals) {argsL rest : List Value} (hlen : ∀ sig, parseMethodDescriptor y.desc = some sig → argsL.length = sig.parameters.length) (hstack : g.stack = argsL.reverse ++ .ref b :: rest) (hW : 2 * g.monitorRoom + (rest.map fun v => v.category).sum ≤ W)
    (hdg : decode c.code g.pc = .ok (.invokespecial index, 3)) (has : (.ref b :: argsL).toArray = as') (hc : cells + kc ≤ R.cells) (hs : slots + ks ≤ R.slots) :
    ∃ v T' L, Stand p l e R s m args below meth c T' (locs ++ L) (cells + kc) (slots + ks) ∧ Q v T'.heap L ∧ ∀ target, Steps p.tables e below (T'.setTop { g with pc := g.pc + 3, stack := v.toList ++ rest }) target → Steps p.tables e below (T.setTop g) target := by
  subst hkc hks
  obtain ⟨v, vm₁, ⟨T', L', c', s'⟩, -, X', ⟨L, hq, l1, l2, l3⟩, st⟩ := X.specialBack hx (y := y) hy1 hown (mvT hZ w1) (mvT hZ w4) (mvT hZ w6) hy (backOf (W := W) hM hZ w6 w5 hf hl) hg hsize (Steps.refl _) (a := b) (argsL := argsL) (rest := rest) hlen hstack hW hdg (fun _ _ => ⟨has, eT, hc, hs⟩)
  dsimp only [Pt.U, Pt.locs, Pt.cells, Pt.slots] at X' l1 l2 l3 st hq
  subst l1 l2 l3
  exact ⟨v, T', L, X', hq, fun _ k => st.trans k⟩
/-- an array as a function of its places -/
def ArF (Z : State) (h : Heap) (a : Addr) (ty : FieldType) (n : Nat) (f : Nat → Value) : Prop := ∃ c : Cell, Arr Z h a c ty ∧ c.slots.size = n ∧ n < 2 ^ 31 ∧ ∀ i, i < n → c.slots[i]? = some (f i)
def upd (f : Nat → Value) (j : Nat) (v : Value) : Nat → Value := fun i => if i = j then v else f i
theorem upd_at (f : Nat → Value) (j : Nat) (v : Value) : upd f j v j = v := if_pos rfl
theorem upd_ne (f : Nat → Value) {i j : Nat} (v : Value) (q : ¬ i = j) : upd f j v i = f i := if_neg q
theorem ArF.lt {h : Heap} {a : Addr} {ty : FieldType} {n : Nat} {f : Nat → Value} (F : ArF Z h a ty n f) : a < h.size := by obtain ⟨c, A, -⟩ := F; exact A.lt
theorem ArF.ext {h h' : Heap} {a : Addr} {ty : FieldType} {n : Nat} {f : Nat → Value} (F : ArF Z h a ty n f) (E : Ext h h') : ArF Z h' a ty n f := by obtain ⟨c, A, r⟩ := F; exact ⟨c, A.ext E, r⟩
theorem ArF.other {h h' : Heap} {a b : Addr} {ty : FieldType} {n : Nat} {f : Nat → Value} {sl : Nat} {v : Value} (F : ArF Z h b ty n f) (W : Wr h h' a sl v) (q : b ≠ a) : ArF Z h' b ty n f := by obtain ⟨c, A, r⟩ := F; exact ⟨c, A.other W q, r⟩
theorem ArF.keep {h h' : Heap} {a : Addr} {ty : FieldType} {n : Nat} {f : Nat → Value} {ws : List Addr} (F : ArF Z h a ty n f) (K : Keep h h' ws) (q : a ∉ ws) : ArF Z h' a ty n f := by obtain ⟨c, A, r⟩ := F; exact ⟨c, ⟨K.2.1 a c A.1 q, A.2⟩, r⟩
theorem ArF.set {h h' : Heap} {a : Addr} {ty : FieldType} {n : Nat} {f : Nat → Value} {j : Nat} {v : Value} (F : ArF Z h a ty n f) (W : Wr h h' a j v) : ArF Z h' a ty n (upd f j v) := by
  obtain ⟨c, A, r1, r2, r3⟩ := F
  refine ⟨_, A.same W, by rw [sz_set]; exact r1, r2, fun i hi => ?_⟩
  show (c.slots.setIfInBounds j v)[i]? = _
  rw [Array.getElem?_setIfInBounds]
  by_cases q : j = i
  · subst q; rw [if_pos rfl, if_pos (by omega), upd_at]
  · rw [if_neg q, upd_ne _ _ (fun w => q w.symm)]; exact r3 i hi
theorem ArF.congr {h : Heap} {a : Addr} {ty : FieldType} {n : Nat} {f g : Nat → Value} (F : ArF Z h a ty n f) (q : ∀ i, i < n → f i = g i) : ArF Z h a ty n g := by
  obtain ⟨c, A, r1, r2, r3⟩ := F
  exact ⟨c, A, r1, r2, fun i hi => by rw [← q i hi]; exact r3 i hi⟩
theorem ArF.n31 {h : Heap} {a : Addr} {ty : FieldType} {n : Nat} {f : Nat → Value} (F : ArF Z h a ty n f) : n < 2 ^ 31 := by obtain ⟨c, A, r1, r2, r3⟩ := F; exact r2
theorem own_ofN {n : Nat} (h : n < 2 ^ 31) : (Int32.ofNat n).toInt = n := Int32.toInt_ofNat_small h
theorem own_ofC {n : Nat} (h : n < 2 ^ 31) : (Int32.ofNat n).toNatClampNeg = n := by show (Int32.ofNat n).toInt.toNat = n; rw [own_ofN h]; rfl
theorem own_ltN {i n : Nat} (h : i < n) (hn : n < 2 ^ 31) : Int32.ofNat i < Int32.ofNat n := by rw [Int32.lt_iff_toInt_lt, own_ofN (by omega), own_ofN hn]; omega
theorem own_geN {i n : Nat} (h : ¬ i < n) (hn : i < 2 ^ 31) : ¬ Int32.ofNat i < Int32.ofNat n := by rw [Int32.lt_iff_toInt_lt, own_ofN hn, own_ofN (by omega)]; omega
theorem own_incN (i : Nat) : Int32.ofNat i + (1 : Int32) = Int32.ofNat (i + 1) := (Int32.ofNat_add i 1).symm
theorem own_nat {j : Int32} (h : 0 ≤ j.toInt) : (j.toNatClampNeg : Int) = j.toInt := Int.toNat_of_nonneg h
theorem own_natInj {i j : Int32} (hi : 0 ≤ i.toInt) (hj : 0 ≤ j.toInt) : i.toNatClampNeg = j.toNatClampNeg ↔ i = j := by
  constructor
  · intro q; have a := own_nat hi; have b := own_nat hj; exact Int32.toInt_inj.mp (by omega)
  · rintro rfl; rfl
theorem own_in {c : Cell} {n : Nat} {j : Int32} (S : c.slots.size = n) (h1 : 0 ≤ j.toInt) (h2 : j.toInt < n) : ¬ (j < 0 ∨ c.slots.size ≤ j.toNatClampNeg) := by
  have e : (j.toNatClampNeg : Int) = j.toInt := Int.toNat_of_nonneg h1
  rw [Int32.lt_iff_toInt_lt]
  have : (0 : Int32).toInt = 0 := rfl
  omega
theorem own_new {h h' : Heap} {k : ClassId} {ty : FieldType} {z : Int32} {a : Addr} (A : Arr Z h' a (newA k ty z) ty) (q : ¬ z < 0) : ArF Z h' a ty z.toNatClampNeg (fun _ => defaultValue ty) :=
  ⟨_, A, sz_new _ _ _, (back32 q).2, fun i hi => by simp [newA, hi]⟩
theorem own_ldI (X : Stand p l e R s m args below meth c T locs cells slots) (hx : p.tables.exec = Jvm.exec) (hZ : Z.Warmed39 s.vm) (eT : T.heap = h) {a : Addr} {n : Nat} {f : Nat → Value} (A : ArF Z h a .int n f) {j : Int32} (h1 : 0 ≤ j.toInt) (h2 : j.toInt < n) {v : Value} (hv : f j.toNatClampNeg = v)
    {g : JFrame} (hg : g.method = m) {rest : List Value} (hs : g.stack = .int j :: .ref a :: rest) (hd : decode c.code g.pc = .ok (.iaload, 1)) (target : State) (k : Steps p.tables e below (T.setTop { g with pc := g.pc + 1, stack := v :: rest }) target) : Steps p.tables e below (T.setTop g) target := by
  obtain ⟨cl, Ar, S, -, H⟩ := A
  exact X.iaload hx (j := j) (v := v) (by rw [eT]; exact Ar.1) (State.isArrayOf_alike hZ.alike Ar.2.1) Ar.2.2 (own_in S h1 h2) (by have e := Int.toNat_of_nonneg h1; rw [← hv]; exact H _ (by show j.toInt.toNat < n; omega)) hg hs hd _ k
theorem own_ldJ (X : Stand p l e R s m args below meth c T locs cells slots) (hx : p.tables.exec = Jvm.exec) (hZ : Z.Warmed39 s.vm) (eT : T.heap = h) {a : Addr} {n : Nat} {f : Nat → Value} (A : ArF Z h a .long n f) {j : Int32} (h1 : 0 ≤ j.toInt) (h2 : j.toInt < n) {v : Value} (hv : f j.toNatClampNeg = v)
    {g : JFrame} (hg : g.method = m) {rest : List Value} (hs : g.stack = .int j :: .ref a :: rest) (hd : decode c.code g.pc = .ok (.laload, 1)) (target : State) (k : Steps p.tables e below (T.setTop { g with pc := g.pc + 1, stack := v :: rest }) target) : Steps p.tables e below (T.setTop g) target := by
  obtain ⟨cl, Ar, S, -, H⟩ := A
  exact X.laload hx (j := j) (v := v) (by rw [eT]; exact Ar.1) (State.isArrayOf_alike hZ.alike Ar.2.1) Ar.2.2 (own_in S h1 h2) (by have e := Int.toNat_of_nonneg h1; rw [← hv]; exact H _ (by show j.toInt.toNat < n; omega)) hg hs hd _ k
theorem own_ldB (X : Stand p l e R s m args below meth c T locs cells slots) (hx : p.tables.exec = Jvm.exec) (hZ : Z.Warmed39 s.vm) (eT : T.heap = h) {a : Addr} {n : Nat} {f : Nat → Value} (A : ArF Z h a .byte n f) {j : Int32} (h1 : 0 ≤ j.toInt) (h2 : j.toInt < n) {v : Value} (hv : f j.toNatClampNeg = v)
    {g : JFrame} (hg : g.method = m) {rest : List Value} (hs : g.stack = .int j :: .ref a :: rest) (hd : decode c.code g.pc = .ok (.baload, 1)) (target : State) (k : Steps p.tables e below (T.setTop { g with pc := g.pc + 1, stack := v :: rest }) target) : Steps p.tables e below (T.setTop g) target := by
  obtain ⟨cl, Ar, S, -, H⟩ := A
  exact X.baloadBytes hx (j := j) (v := v) (by rw [eT]; exact Ar.1) (State.isArrayOf_alike hZ.alike Ar.2.1) Ar.2.2 (own_in S h1 h2) (by have e := Int.toNat_of_nonneg h1; rw [← hv]; exact H _ (by show j.toInt.toNat < n; omega)) hg hs hd _ k
theorem own_ldC (X : Stand p l e R s m args below meth c T locs cells slots) (hx : p.tables.exec = Jvm.exec) (hZ : Z.Warmed39 s.vm) (eT : T.heap = h) {a : Addr} {n : Nat} {f : Nat → Value} (A : ArF Z h a .char n f) {j : Int32} (h1 : 0 ≤ j.toInt) (h2 : j.toInt < n) {v : Value} (hv : f j.toNatClampNeg = v)
    {g : JFrame} (hg : g.method = m) {rest : List Value} (hs : g.stack = .int j :: .ref a :: rest) (hd : decode c.code g.pc = .ok (.caload, 1)) (target : State) (k : Steps p.tables e below (T.setTop { g with pc := g.pc + 1, stack := v :: rest }) target) : Steps p.tables e below (T.setTop g) target := by
  obtain ⟨cl, Ar, S, -, H⟩ := A
  exact X.caload hx (j := j) (v := v) (by rw [eT]; exact Ar.1) (State.isArrayOf_alike hZ.alike Ar.2.1) Ar.2.2 (own_in S h1 h2) (by have e := Int.toNat_of_nonneg h1; rw [← hv]; exact H _ (by show j.toInt.toNat < n; omega)) hg hs hd _ k
theorem own_len (X : Stand p l e R s m args below meth c T locs cells slots) (hx : p.tables.exec = Jvm.exec) (hZ : Z.Warmed39 s.vm) (eT : T.heap = h) {a : Addr} {ty : FieldType} {n : Nat} {f : Nat → Value} (A : ArF Z h a ty n f) {z : Int32} (hz : Int32.ofNat n = z)
    {g : JFrame} (hg : g.method = m) {rest : List Value} (hs : g.stack = .ref a :: rest) (hd : decode c.code g.pc = .ok (.arraylength, 1)) (target : State) (k : Steps p.tables e below (T.setTop { g with pc := g.pc + 1, stack := .int z :: rest }) target) : Steps p.tables e below (T.setTop g) target := by
  obtain ⟨cl, Ar, S, -, H⟩ := A
  refine X.arraylength hx (by rw [eT]; exact Ar.1) (State.isArrayOf_alike hZ.alike Ar.2.1) hg hs hd _ ?_
  rw [S]; rw [← hz] at k; exact k
theorem own_stI (X : Stand p l e R s m args below meth c T locs cells slots) (hx : p.tables.exec = Jvm.exec) (hZ : Z.Warmed39 s.vm) (eT : T.heap = h) {a : Addr} {n : Nat} {f : Nat → Value} (A : ArF Z h a .int n f) {j x : Int32} (h1 : 0 ≤ j.toInt) (h2 : j.toInt < n)
    {g : JFrame} (hg : g.method = m) {rest : List Value} (hs : g.stack = .int x :: .int j :: .ref a :: rest) (hd : decode c.code g.pc = .ok (.iastore, 1)) :
    ∃ T' h', Stand p l e R s m args below meth c T' (locs ++ [⟨a, j.toNatClampNeg⟩]) cells slots ∧ T'.heap = h' ∧ Wr h h' a j.toNatClampNeg (.int x) ∧ ∀ target, Steps p.tables e below (T'.setTop { g with pc := g.pc + 1, stack := rest }) target → Steps p.tables e below (T.setTop g) target := by
  obtain ⟨cl, Ar, S, -, H⟩ := A
  exact stI X hx hZ eT Ar (own_in S h1 h2) hg hs hd
theorem own_stJ (X : Stand p l e R s m args below meth c T locs cells slots) (hx : p.tables.exec = Jvm.exec) (hZ : Z.Warmed39 s.vm) (eT : T.heap = h) {a : Addr} {n : Nat} {f : Nat → Value} (A : ArF Z h a .long n f) {j : Int32} {x : Int64} (h1 : 0 ≤ j.toInt) (h2 : j.toInt < n)
    {g : JFrame} (hg : g.method = m) {rest : List Value} (hs : g.stack = .long x :: .int j :: .ref a :: rest) (hd : decode c.code g.pc = .ok (.lastore, 1)) :
    ∃ T' h', Stand p l e R s m args below meth c T' (locs ++ [⟨a, j.toNatClampNeg⟩]) cells slots ∧ T'.heap = h' ∧ Wr h h' a j.toNatClampNeg (.long x) ∧ ∀ target, Steps p.tables e below (T'.setTop { g with pc := g.pc + 1, stack := rest }) target → Steps p.tables e below (T.setTop g) target := by
  obtain ⟨cl, Ar, S, -, H⟩ := A
  exact stJ X hx hZ eT Ar (own_in S h1 h2) hg hs hd
/-- a boolean as an int -/
def bI (P : Prop) [Decidable P] : Int32 := if P then 1 else 0
theorem bI_z {P : Prop} [Decidable P] (h : ¬ P) : bI P = 0 := if_neg h
theorem bI_o {P : Prop} [Decidable P] (h : P) : bI P = 1 := if_pos h
theorem bI_ne {P : Prop} [Decidable P] (h : P) : ¬ bI P = 0 := by rw [bI_o h]; decide
theorem nar_b {P : Prop} [Decidable P] : nar .boolean (bI P) = bI P := by unfold bI; split <;> rfl
end OwnKit
def own_B (Z : State) (h : Heap) (o : Addr) (n0 N : Nat) (w : Nat → Int64) : Prop :=
  ∃ W : Addr, Exa Z h o "com/example/nearfield/nearfield/job/Bits" ∧ Fld Z h o "com/example/nearfield/nearfield/job/Bits" "words" "[J" (.ref W) ∧ ArF Z h W .long N (fun i => .long (w i)) ∧ n0 ≤ o ∧ n0 ≤ W ∧ o ≠ W
theorem own_B.exa {Z : State} {h : Heap} {o : Addr} {n0 N : Nat} {w : Nat → Int64} (H : own_B Z h o n0 N w) : Exa Z h o "com/example/nearfield/nearfield/job/Bits" := by obtain ⟨_, E, -⟩ := H; exact E
def own_bit (w : Nat → Int64) (j : Nat) : Bool := (w (j / 64)).toBitVec.getLsbD (j % 64)
def own_tab : List Int32 := [0, 1, 48, 2, 57, 49, 28, 3, 61, 58, 50, 42, 38, 29, 17, 4, 62, 55, 59, 36, 53, 51, 43, 22, 45, 39, 33, 30, 24, 18, 12, 5, 63, 47, 56, 27, 60, 41, 37, 16, 54, 35, 52, 21, 44, 32, 23, 11, 46, 26, 40, 15, 34, 20, 31, 10, 25, 14, 19, 9, 13, 8, 7, 6]
def own_low (i : Nat) : Int32 := own_tab.getD i 0
theorem own_updJ (F : Nat → Int64) (j : Nat) (v : Int64) : upd (fun i => .long (F i)) j (.long v) = fun i => .long (if i = j then v else F i) := by
  funext i; unfold upd; split <;> rfl
theorem own_shl (v : Int64) (q : Int32) {k : Nat} (hk : q.toBitVec.toNat % 64 = k) : (v <<< (q &&& 0x3f).toInt64).toBitVec = v.toBitVec <<< k := by
  show v.toBitVec <<< ((q &&& 0x3f).toInt64.toBitVec.smod 64) = _
  rw [BitVec.shiftLeft_eq', (sm64 q k hk).1, smod64 k (sm64 q k hk).2]
theorem own_q64 {q : Int32} (h : 0 ≤ q.toInt) : q.toBitVec.toNat % 64 = q.toInt.toNat % 64 := by
  have : q.toInt = (q.toBitVec.toNat : Int) := by
    have h2 : q.toInt = q.toBitVec.toInt := rfl
    rw [h2, BitVec.toInt_eq_toNat_cond] at h ⊢
    have := q.toBitVec.isLt
    split at h <;> split <;> omega
  rw [this]; rfl
theorem own_div64 {q : Int32} (h : 0 ≤ q.toInt) : (q / (64 : Int32)).toInt = q.toInt / 64 := (c_idiv q 64 64 rfl (by decide)).1 h
theorem own_divN {q : Int32} (h : 0 ≤ q.toInt) : (q / (64 : Int32)).toNatClampNeg = q.toInt.toNat / 64 := by
  have e := own_div64 h; show (q / (64 : Int32)).toInt.toNat = _; omega
/-- a set bit -/
theorem own_or (v : Int64) {q : Int32} (h : 0 ≤ q.toInt) (j : Nat) (hj : j < 64) : (v ||| ((1 : Int64) <<< (q &&& 0x3f).toInt64)).toBitVec.getLsbD j = (v.toBitVec.getLsbD j || decide (j = q.toInt.toNat % 64)) := by
  show (v.toBitVec ||| ((1 : Int64) <<< (q &&& 0x3f).toInt64).toBitVec).getLsbD j = _
  rw [own_shl 1 q (own_q64 h), BitVec.getLsbD_or]
  congr 1
  show BitVec.getLsbD ((1#64) <<< (q.toInt.toNat % 64)) j = _
  rw [BitVec.getLsbD_shiftLeft]
  have h1 : ∀ i, (1#64).getLsbD i = decide (i = 0) := fun i => by cases i with | zero => rfl | succ i => simp
  rw [h1]
  generalize q.toInt.toNat % 64 = r
  by_cases a : j = r
  · subst a; simp [hj]
  · by_cases b : j < r
    · simp [b, a]
    · have : ¬ j - r = 0 := by omega
      simp [a, this]
/-- the bits from a place on -/
theorem own_msk (v : Int64) {q : Int32} (h : 0 ≤ q.toInt) (j : Nat) (hj : j < 64) : (v &&& ((-1 : Int64) <<< (q &&& 0x3f).toInt64)).toBitVec.getLsbD j = (v.toBitVec.getLsbD j && decide (q.toInt.toNat % 64 ≤ j)) := by
  show (v.toBitVec &&& ((-1 : Int64) <<< (q &&& 0x3f).toInt64).toBitVec).getLsbD j = _
  rw [own_shl (-1) q (own_q64 h), BitVec.getLsbD_and]
  congr 1
  show BitVec.getLsbD ((BitVec.allOnes 64) <<< (q.toInt.toNat % 64)) j = _
  rw [BitVec.getLsbD_shiftLeft, BitVec.getLsbD_allOnes]
  generalize q.toInt.toNat % 64 = r
  by_cases b : j < r
  · simp [b]
  · have : j - r < 64 := by omega
    have : r ≤ j := by omega
    simp [*]
theorem own_odd (y : BitVec 64) (h : y.getLsbD 0 = true) : y &&& (-y) = 1#64 := by
  have e : -y = ~~~y ||| 1#64 := by
    rw [BitVec.neg_eq_not_add]
    apply BitVec.add_eq_or_of_and_eq_zero
    apply BitVec.eq_of_getLsbD_eq
    intro i hi
    have h1 : (1#64).getLsbD i = decide (i = 0) := by cases i with | zero => rfl | succ i => simp
    rw [BitVec.getLsbD_and, h1]
    by_cases q : i = 0
    · subst q; simp [h]
    · simp [q]
  rw [e]
  apply BitVec.eq_of_getLsbD_eq
  intro i hi
  have h1 : (1#64).getLsbD i = decide (i = 0) := by cases i with | zero => rfl | succ i => simp
  rw [BitVec.getLsbD_and, BitVec.getLsbD_or, h1]
  by_cases q : i = 0
  · subst q; simp [h]
  · simp [q, hi]
theorem own_least (v : BitVec 64) (h : v ≠ 0#64) : ∃ k, k < 64 ∧ v.getLsbD k = true ∧ ∀ j, j < k → v.getLsbD j = false := by
  have ex : ∃ k, v.getLsbD k = true := by
    refine Classical.byContradiction fun q => h ?_
    apply BitVec.eq_of_getLsbD_eq
    intro i hi
    cases e : v.getLsbD i with
    | false => simp
    | true => exact absurd ⟨i, e⟩ q
  have : ∀ n k, k ≤ n → v.getLsbD k = true → ∃ k, v.getLsbD k = true ∧ ∀ j, j < k → v.getLsbD j = false := by
    intro n
    induction n with
    | zero => intro k hk e; exact ⟨k, e, fun j hj => by omega⟩
    | succ n ih =>
      intro k hk e
      by_cases q : ∃ j, j < k ∧ v.getLsbD j = true
      · obtain ⟨j, hj, ej⟩ := q; exact ih j (by omega) ej
      · refine ⟨k, e, fun j hj => ?_⟩
        cases ej : v.getLsbD j with
        | false => rfl
        | true => exact absurd ⟨j, hj, ej⟩ q
  obtain ⟨k0, e0⟩ := ex
  obtain ⟨k, e, hl⟩ := this k0 k0 (Nat.le_refl _) e0
  refine ⟨k, ?_, e, hl⟩
  refine Classical.byContradiction fun q => ?_
  rw [BitVec.getLsbD_of_ge v k (by omega)] at e; cases e
theorem own_low1 (v : BitVec 64) (k : Nat) (hk : k < 64) (h1 : v.getLsbD k = true) (h2 : ∀ j, j < k → v.getLsbD j = false) : v &&& (-v) = 1#64 <<< k := by
  have e : v = (v >>> k) <<< k := by
    apply BitVec.eq_of_getLsbD_eq
    intro i hi
    rw [BitVec.getLsbD_shiftLeft, BitVec.getLsbD_ushiftRight]
    by_cases q : i < k
    · simp [q, h2 i q]
    · simp [q, hi]; congr 1; omega
  have ho : (v >>> k).getLsbD 0 = true := by rw [BitVec.getLsbD_ushiftRight]; simpa using h1
  have hn : -v = (-(v >>> k)) <<< k := by
    have e2 : v = (v >>> k) * BitVec.twoPow 64 k := by rw [← BitVec.shiftLeft_eq_mul_twoPow]; exact e
    have e3 : (-(v >>> k)) <<< k = (-(v >>> k)) * BitVec.twoPow 64 k := BitVec.shiftLeft_eq_mul_twoPow _ _
    rw [e3, BitVec.neg_mul, ← e2]
  rw [hn]
  conv => lhs; lhs; rw [e]
  rw [← BitVec.shiftLeft_and_distrib, own_odd _ ho]
theorem own_deb (b : Int64) (h : ¬ b = 0) : ∃ k, k < 64 ∧ b.toBitVec.getLsbD k = true ∧ (∀ j, j < k → b.toBitVec.getLsbD j = false) ∧ 0 ≤ (((((b &&& (-b)) * (285870213051386505 : Int64)).toUInt64 >>> ((58 : Int32) &&& 0x3f).toInt64.toUInt64).toInt64.toInt32)).toInt ∧ (((((b &&& (-b)) * (285870213051386505 : Int64)).toUInt64 >>> ((58 : Int32) &&& 0x3f).toInt64.toUInt64).toInt64.toInt32)).toInt < ((64 : Nat) : Int) ∧ own_low (((((b &&& (-b)) * (285870213051386505 : Int64)).toUInt64 >>> ((58 : Int32) &&& 0x3f).toInt64.toUInt64).toInt64.toInt32)).toNatClampNeg = Int32.ofNat k := by
  obtain ⟨k, hk, h1, h2⟩ := own_least b.toBitVec (fun q => h (Int64.toBitVec_inj.mp q))
  have e : (b &&& (-b)) = Int64.ofBitVec (1#64 <<< k) := Int64.toBitVec_inj.mp (own_low1 b.toBitVec k hk h1 h2)
  refine ⟨k, hk, h1, h2, ?_⟩
  rw [e]
  have : ∀ k : Fin 64, 0 ≤ ((((Int64.ofBitVec (1#64 <<< k.val)) * (285870213051386505 : Int64)).toUInt64 >>> ((58 : Int32) &&& 0x3f).toInt64.toUInt64).toInt64.toInt32).toInt ∧ ((((Int64.ofBitVec (1#64 <<< k.val)) * (285870213051386505 : Int64)).toUInt64 >>> ((58 : Int32) &&& 0x3f).toInt64.toUInt64).toInt64.toInt32).toInt < ((64 : Nat) : Int) ∧ own_low ((((Int64.ofBitVec (1#64 <<< k.val)) * (285870213051386505 : Int64)).toUInt64 >>> ((58 : Int32) &&& 0x3f).toInt64.toUInt64).toInt64.toInt32).toNatClampNeg = Int32.ofNat k.val := by decide +kernel
  exact this ⟨k, hk⟩
theorem own_words {z : Int32} (hz : 0 ≤ z.toInt ∧ z.toInt ≤ 256) : ((z + (63 : Int32)) / (64 : Int32)).toInt = (z.toInt + 63) / 64 := by
  have e : (z + (63 : Int32)).toInt = z.toInt + 63 := by have := c_iadd z 63; have e1 : (63 : Int32).toInt = 63 := rfl; have := rng32 (z + 63); omega
  rw [own_div64 (by omega), e]
theorem own_words0 {z : Int32} (hz : 0 ≤ z.toInt ∧ z.toInt ≤ 256) : ¬ ((z + (63 : Int32)) / (64 : Int32)) < 0 := by rw [Int32.lt_iff_toInt_lt, own_words hz]; have : (0 : Int32).toInt = 0 := rfl; omega
theorem own_words4 {z : Int32} (hz : 0 ≤ z.toInt ∧ z.toInt ≤ 256) : ((z + (63 : Int32)) / (64 : Int32)).toNatClampNeg ≤ 4 := by have := own_words hz; have := own_nat (j := ((z + (63 : Int32)) / (64 : Int32))) (by omega); omega
theorem own_pn0 : plainFor (⟨"com/example/nearfield/nearfield/job/Bits", "<init>", "(I)V"⟩ : MethodName) = true := by first | exact plainFor_of_name (by first | (simp [plainName, overriddenIn, x]; done) | decide +kernel) | decide +kernel
theorem ef_1 (m : MethodId) (q0 : Addr) (q1 : Int32) : entryFrame m #[(.ref q0), (.int q1)] 2 = mkF m 0 #[.val (.ref q0), .val (.int q1)] [] := by first | (simp [entryFrame, mkF, argsToLocals, Value.category, maxLocals]; done) | rfl
theorem d1_0 : decode prog_45_method_1_code 0 = .ok (.aload_n 0, 1) := by decide +kernel
theorem d1_1 : decode prog_45_method_1_code 1 = .ok (.invokespecial 1, 3) := by decide +kernel
theorem d1_4 : decode prog_45_method_1_code 4 = .ok (.aload_n 0, 1) := by decide +kernel
theorem d1_5 : decode prog_45_method_1_code 5 = .ok (.iload_n 1, 1) := by decide +kernel
theorem d1_6 : decode prog_45_method_1_code 6 = .ok (.putfield 7, 3) := by decide +kernel
theorem d1_9 : decode prog_45_method_1_code 9 = .ok (.aload_n 0, 1) := by decide +kernel
theorem d1_10 : decode prog_45_method_1_code 10 = .ok (.iload_n 1, 1) := by decide +kernel
theorem d1_11 : decode prog_45_method_1_code 11 = .ok (.bipush 63, 2) := by decide +kernel
theorem d1_13 : decode prog_45_method_1_code 13 = .ok (.iadd, 1) := by decide +kernel
theorem d1_14 : decode prog_45_method_1_code 14 = .ok (.bipush 64, 2) := by decide +kernel
theorem d1_16 : decode prog_45_method_1_code 16 = .ok (.idiv, 1) := by decide +kernel
theorem d1_17 : decode prog_45_method_1_code 17 = .ok (.newarray .long, 2) := by decide +kernel
theorem d1_19 : decode prog_45_method_1_code 19 = .ok (.putfield 13, 3) := by decide +kernel
theorem d1_22 : decode prog_45_method_1_code 22 = .ok (.return_, 1) := by decide +kernel
set_option maxRecDepth 65536 in
set_option maxHeartbeats 40000000 in
theorem own_c1 (l : Launch) (Z : State) (a0 : Array Value) (hw : ∀ d ∈ tables_1, d.before a0 Z = true) (b : Addr) (z : Int32) (hz : 0 ≤ z.toInt ∧ z.toInt ≤ 256) (h0 : Heap) (n0 : Nat) (Z0 : n0 ≤ h0.size) (gb : n0 ≤ b) (O0 : Old Z n0 h0) (E0 : Exa Z h0 b "com/example/nearfield/nearfield/job/Bits") (F1 : Fld Z h0 b "com/example/nearfield/nearfield/job/Bits" "size" "I" (.int (0 : Int32))) (F2 : Fld Z h0 b "com/example/nearfield/nearfield/job/Bits" "words" "[J" .null) :
    Con l Z (⟨"com/example/nearfield/nearfield/job/Bits", "<init>", "(I)V"⟩ : MethodName) prog_45_method_1_code 2 none [] ({ frames := 1, cells := 1, slots := 4, locals := 12 } : Room) 1 4 #[(.ref b), (.int z)] h0 (fun r h L => r = none ∧ own_B Z h b n0 ((z + (63 : Int32)) / (64 : Int32)).toNatClampNeg (fun _ => 0) ∧ Old Z n0 h ∧ Fr n0 L) := by
  refine Con.of own_pn0 ?_
  intro pg ev s_ m bl mt cd s₁ hx hby hml hown hnm hret hlk hZ X0 e0
  rw [ef_1]
  show Gd _ _ _ _ (s₁.setTop (mkF m 0 #[.val (.ref b), .val (.int z)] []))
  have N0 := Fr.nil n0
  refine Gd.go (fun _ w_k => XS.aloadN X0.here hx rfl (hb hby d1_0) rfl rfl w_k) ?_
  show Gd _ _ _ _ (s₁.setTop (mkF m 1 #[.val (.ref b), .val (.int z)] [(.ref b)]))
  obtain ⟨T1, X1, e1, st1⟩ := initO X0 hx hZ hown (hw _ (List.mem_of_getElem? (i := 7) rfl)) (hw _ (List.mem_of_getElem? (i := 8) rfl)) (hw _ (List.mem_of_getElem? (i := 9) rfl)) e0 (g := (mkF m 1 #[.val (.ref b), .val (.int z)] [(.ref b)])) rfl (by rw [hml]; rfl) rfl (hb hby d1_1) (by decide) (W := 0) (Nat.le_of_eq rfl) (by decide)
  refine Gd.go (fun _ w_k => st1 _ w_k) ?_
  show Gd _ _ _ _ (T1.setTop (mkF m 4 #[.val (.ref b), .val (.int z)] []))
  refine Gd.go (fun _ w_k => XS.aloadN X1.here hx rfl (hb hby d1_4) rfl rfl w_k) ?_
  show Gd _ _ _ _ (T1.setTop (mkF m 5 #[.val (.ref b), .val (.int z)] [(.ref b)]))
  refine Gd.go (fun _ w_k => XS.iloadN X1.here hx rfl (hb hby d1_5) rfl w_k) ?_
  show Gd _ _ _ _ (T1.setTop (mkF m 6 #[.val (.ref b), .val (.int z)] [(.int z), (.ref b)]))
  obtain ⟨T2, h2, X2, e2, W2, st2⟩ := putF X1 hx hZ hown (host := "") (Or.inl (hw _ (List.mem_of_getElem? (i := 10) rfl))) Via.refl e1 F1 E0 (Or.inr ⟨(hw _ (List.mem_of_getElem? (i := 11) rfl)), rfl, hnm⟩) (hw _ (List.mem_of_getElem? (i := 2) rfl)) (ty := .int) (by decide) rfl rfl (g := (mkF m 6 #[.val (.ref b), .val (.int z)] [(.int z), (.ref b)])) rfl rfl (hb hby d1_6)
  refine Gd.go (fun _ w_k => st2 _ w_k) ?_
  have xF3 := E0.wr W2
  have xF4 := F1.same W2
  have xF5 := F2.other W2 (Or.inr (slot_ne (Or.inr (hw _ (List.mem_of_getElem? (i := 14) rfl))) (Or.inr (hw _ (List.mem_of_getElem? (i := 11) rfl))) (by decide) (t := (.array .long)) (t' := .int) (by decide) (by decide)))
  have xN6 := Fr.snoc X2 N0 gb
  have xO7 := Old.wr O0 W2 gb
  have xZs8 := Nat.le_trans Z0 (Keep.of_wr W2).1
  show Gd _ _ _ _ (T2.setTop (mkF m 9 #[.val (.ref b), .val (.int z)] []))
  refine Gd.go (fun _ w_k => XS.aloadN X2.here hx rfl (hb hby d1_9) rfl rfl w_k) ?_
  show Gd _ _ _ _ (T2.setTop (mkF m 10 #[.val (.ref b), .val (.int z)] [(.ref b)]))
  refine Gd.go (fun _ w_k => XS.iloadN X2.here hx rfl (hb hby d1_10) rfl w_k) ?_
  show Gd _ _ _ _ (T2.setTop (mkF m 11 #[.val (.ref b), .val (.int z)] [(.int z), (.ref b)]))
  refine Gd.go (fun _ w_k => XS.bipush X2.here hx rfl (hb hby d1_11) w_k) ?_
  show Gd _ _ _ _ (T2.setTop (mkF m 13 #[.val (.ref b), .val (.int z)] [(.int (63 : Int32)), (.int z), (.ref b)]))
  refine Gd.go (fun _ w_k => XS.iadd X2.here hx rfl (hb hby d1_13) rfl w_k) ?_
  show Gd _ _ _ _ (T2.setTop (mkF m 14 #[.val (.ref b), .val (.int z)] [(.int (z + (63 : Int32))), (.ref b)]))
  refine Gd.go (fun _ w_k => XS.bipush X2.here hx rfl (hb hby d1_14) w_k) ?_
  show Gd _ _ _ _ (T2.setTop (mkF m 16 #[.val (.ref b), .val (.int z)] [(.int (64 : Int32)), (.int (z + (63 : Int32))), (.ref b)]))
  refine Gd.go (fun _ w_k => XS.idiv X2.here hx rfl (hb hby d1_16) rfl (by decide) w_k) ?_
  show Gd _ _ _ _ (T2.setTop (mkF m 17 #[.val (.ref b), .val (.int z)] [(.int ((z + (63 : Int32)) / (64 : Int32))), (.ref b)]))
  obtain ⟨T9, h9, k9, X9, e9, E9, A9, st9⟩ := newP X2 hx hZ (hw _ (List.mem_of_getElem? (i := 12) rfl)) e2 (g := (mkF m 17 #[.val (.ref b), .val (.int z)] [(.int ((z + (63 : Int32)) / (64 : Int32))), (.ref b)])) rfl (hb hby d1_17) rfl (own_words0 hz) (cap := 4) (own_words4 hz) (by decide) (by decide) (by decide)
  obtain ⟨b9, g9⟩ : ∃ z, z = h2.size := ⟨_, rfl⟩
  rw [← g9] at A9 st9
  have ne_b_b9 : b ≠ b9 := fun q => Nat.lt_irrefl _ (Nat.lt_of_lt_of_le xF3.lt (Nat.le_of_eq (q.trans g9).symm))
  have n0_b9 : n0 ≤ b9 := Nat.le_trans xZs8 (Nat.le_of_eq g9.symm)
  have xF10 := xF3.ext E9
  have xF11 := xF4.ext E9
  have xF12 := xF5.ext E9
  have xO13 := Old.ext xO7 E9
  have xZs14 := Nat.le_trans xZs8 E9.1
  have xF15 : ArF Z h9 b9 .long (((z + (63 : Int32)) / (64 : Int32))).toNatClampNeg (fun _ => (.long (0 : Int64))) := own_new (h := h2) A9 (own_words0 hz)
  refine Gd.go (fun _ w_k => st9 _ w_k) ?_
  show Gd _ _ _ _ (T9.setTop (mkF m 19 #[.val (.ref b), .val (.int z)] [(.ref b9), (.ref b)]))
  obtain ⟨T16, h16, X16, e16, W16, st16⟩ := putF X9 hx hZ hown (host := "") (Or.inl (hw _ (List.mem_of_getElem? (i := 13) rfl))) Via.refl e9 xF12 xF10 (Or.inr ⟨(hw _ (List.mem_of_getElem? (i := 14) rfl)), rfl, hnm⟩) (hw _ (List.mem_of_getElem? (i := 2) rfl)) (ty := (.array .long)) (by decide) rfl rfl (g := (mkF m 19 #[.val (.ref b), .val (.int z)] [(.ref b9), (.ref b)])) rfl rfl (hb hby d1_19)
  refine Gd.go (fun _ w_k => st16 _ w_k) ?_
  have xF17 := xF10.wr W16
  have xF18 := xF11.other W16 (Or.inr (slot_ne (Or.inr (hw _ (List.mem_of_getElem? (i := 11) rfl))) (Or.inr (hw _ (List.mem_of_getElem? (i := 14) rfl))) (by decide) (t := .int) (t' := (.array .long)) (by decide) (by decide)))
  have xF19 := xF12.same W16
  have xF20 := xF15.other W16 (Ne.symm ne_b_b9)
  have xN21 := Fr.snoc X16 xN6 gb
  have xO22 := Old.wr xO13 W16 gb
  have xZs23 := Nat.le_trans xZs14 (Keep.of_wr W16).1
  show Gd _ _ _ _ (T16.setTop (mkF m 22 #[.val (.ref b), .val (.int z)] []))
  refine own_retV X16 hx hret hlk (hb hby d1_22) ?_ (by decide) (by decide)
  rw [e16]
  exact ⟨rfl, ⟨b9, xF17, xF19, xF20, gb, n0_b9, ne_b_b9⟩, xO22, xN21⟩
theorem own_setbits {w w' : Nat → Int64} {q : Int32} (hq : 0 ≤ q.toInt) (e : w' = fun k => if k = (q / (64 : Int32)).toNatClampNeg then (w (q / (64 : Int32)).toNatClampNeg ||| ((1 : Int64) <<< (q &&& 0x3f).toInt64)) else w k) (j : Nat) : own_bit w' j = (own_bit w j || decide (j = q.toInt.toNat)) := by
  subst e
  unfold own_bit
  rw [own_divN hq]
  by_cases a : j / 64 = q.toInt.toNat / 64
  · simp only [a, if_pos]
    rw [own_or _ hq _ (Nat.mod_lt _ (by decide))]
    congr 1
    exact decide_eq_decide.mpr (by omega)
  · simp only [if_neg a]
    have : ¬ j = q.toInt.toNat := fun z => a (by rw [z])
    rw [decide_eq_false this, Bool.or_false]
theorem own_pn1 : plainFor (⟨"com/example/nearfield/nearfield/job/Bits", "set", "(I)V"⟩ : MethodName) = true := by first | exact plainFor_of_name (by first | (simp [plainName, overriddenIn, x]; done) | decide +kernel) | decide +kernel
theorem ef_5 (m : MethodId) (q0 : Addr) (q1 : Int32) : entryFrame m #[(.ref q0), (.int q1)] 2 = mkF m 0 #[.val (.ref q0), .val (.int q1)] [] := by first | (simp [entryFrame, mkF, argsToLocals, Value.category, maxLocals]; done) | rfl
theorem d5_0 : decode prog_45_method_3_code 0 = .ok (.aload_n 0, 1) := by decide +kernel
theorem d5_1 : decode prog_45_method_3_code 1 = .ok (.getfield 13, 3) := by decide +kernel
theorem d5_4 : decode prog_45_method_3_code 4 = .ok (.iload_n 1, 1) := by decide +kernel
theorem d5_5 : decode prog_45_method_3_code 5 = .ok (.bipush 64, 2) := by decide +kernel
theorem d5_7 : decode prog_45_method_3_code 7 = .ok (.idiv, 1) := by decide +kernel
theorem d5_8 : decode prog_45_method_3_code 8 = .ok (.dup2, 1) := by decide +kernel
theorem d5_9 : decode prog_45_method_3_code 9 = .ok (.laload, 1) := by decide +kernel
theorem d5_10 : decode prog_45_method_3_code 10 = .ok (.lconst 1, 1) := by decide +kernel
theorem d5_11 : decode prog_45_method_3_code 11 = .ok (.iload_n 1, 1) := by decide +kernel
theorem d5_12 : decode prog_45_method_3_code 12 = .ok (.lshl, 1) := by decide +kernel
theorem d5_13 : decode prog_45_method_3_code 13 = .ok (.lor, 1) := by decide +kernel
theorem d5_14 : decode prog_45_method_3_code 14 = .ok (.lastore, 1) := by decide +kernel
theorem d5_15 : decode prog_45_method_3_code 15 = .ok (.return_, 1) := by decide +kernel
set_option maxRecDepth 65536 in
set_option maxHeartbeats 40000000 in
theorem own_c5 (l : Launch) (Z : State) (a0 : Array Value) (hw : ∀ d ∈ tables_1, d.before a0 Z = true) (o : Addr) (q : Int32) (N : Nat) (w : Nat → Int64) (h0 : Heap) (n0 : Nat) (O0 : Old Z n0 h0) (H : own_B Z h0 o n0 N w) (hq : 0 ≤ q.toInt ∧ q.toInt < 64 * N) :
    Con l Z (⟨"com/example/nearfield/nearfield/job/Bits", "set", "(I)V"⟩ : MethodName) prog_45_method_3_code 2 none [] ({ frames := 0, cells := 0, slots := 0, locals := 0 } : Room) 0 0 #[(.ref o), (.int q)] h0 (fun r h L => r = none ∧ (∃ w', own_B Z h o n0 N w' ∧ ∀ j, own_bit w' j = (own_bit w j || decide (j = q.toInt.toNat))) ∧ Old Z n0 h ∧ Fr n0 L) := by
  refine Con.of own_pn1 ?_
  intro pg ev s_ m bl mt cd s₁ hx hby hml hown hnm hret hlk hZ X0 e0
  rw [ef_5]
  show Gd _ _ _ _ (s₁.setTop (mkF m 0 #[.val (.ref o), .val (.int q)] []))
  obtain ⟨W, E, F1, A1, go, gW, ne1⟩ := H
  have N0 := Fr.nil n0
  have b1 : 0 ≤ (q / (64 : Int32)).toInt := by rw [own_div64 hq.1]; omega
  have b2 : (q / (64 : Int32)).toInt < N := by rw [own_div64 hq.1]; omega
  refine Gd.go (fun _ w_k => XS.aloadN X0.here hx rfl (hb hby d5_0) rfl rfl w_k) ?_
  show Gd _ _ _ _ (s₁.setTop (mkF m 1 #[.val (.ref o), .val (.int q)] [(.ref o)]))
  obtain ⟨T1, X1, e1, st1⟩ := getF X0 hx hZ hown (host := "") (Or.inl (hw _ (List.mem_of_getElem? (i := 13) rfl))) Via.refl e0 F1 (g := (mkF m 1 #[.val (.ref o), .val (.int q)] [(.ref o)])) rfl rfl (hb hby d5_1)
  refine Gd.go (fun _ w_k => st1 _ w_k) ?_
  show Gd _ _ _ _ (T1.setTop (mkF m 4 #[.val (.ref o), .val (.int q)] [(.ref W)]))
  refine Gd.go (fun _ w_k => XS.iloadN X1.here hx rfl (hb hby d5_4) rfl w_k) ?_
  show Gd _ _ _ _ (T1.setTop (mkF m 5 #[.val (.ref o), .val (.int q)] [(.int q), (.ref W)]))
  refine Gd.go (fun _ w_k => XS.bipush X1.here hx rfl (hb hby d5_5) w_k) ?_
  show Gd _ _ _ _ (T1.setTop (mkF m 7 #[.val (.ref o), .val (.int q)] [(.int (64 : Int32)), (.int q), (.ref W)]))
  refine Gd.go (fun _ w_k => XS.idiv X1.here hx rfl (hb hby d5_7) rfl (by decide) w_k) ?_
  show Gd _ _ _ _ (T1.setTop (mkF m 8 #[.val (.ref o), .val (.int q)] [(.int (q / (64 : Int32))), (.ref W)]))
  refine Gd.go (fun _ w_k => XT.dup2 X1.here hx rfl (hb hby d5_8) rfl rfl rfl w_k) ?_
  show Gd _ _ _ _ (T1.setTop (mkF m 9 #[.val (.ref o), .val (.int q)] [(.int (q / (64 : Int32))), (.ref W), (.int (q / (64 : Int32))), (.ref W)]))
  refine Gd.go (fun _ w_k => own_ldJ X1 hx hZ e1 A1 (j := (q / (64 : Int32))) b1 b2 (v := (.long (w (q / (64 : Int32)).toNatClampNeg))) rfl (g := (mkF m 9 #[.val (.ref o), .val (.int q)] [(.int (q / (64 : Int32))), (.ref W), (.int (q / (64 : Int32))), (.ref W)])) rfl rfl (hb hby d5_9) _ w_k) ?_
  show Gd _ _ _ _ (T1.setTop (mkF m 10 #[.val (.ref o), .val (.int q)] [(.long (w (q / (64 : Int32)).toNatClampNeg)), (.int (q / (64 : Int32))), (.ref W)]))
  refine Gd.go (fun _ w_k => XS.lconst X1.here hx rfl (hb hby d5_10) w_k) ?_
  show Gd _ _ _ _ (T1.setTop (mkF m 11 #[.val (.ref o), .val (.int q)] [(.long (1 : Int64)), (.long (w (q / (64 : Int32)).toNatClampNeg)), (.int (q / (64 : Int32))), (.ref W)]))
  refine Gd.go (fun _ w_k => XS.iloadN X1.here hx rfl (hb hby d5_11) rfl w_k) ?_
  show Gd _ _ _ _ (T1.setTop (mkF m 12 #[.val (.ref o), .val (.int q)] [(.int q), (.long (1 : Int64)), (.long (w (q / (64 : Int32)).toNatClampNeg)), (.int (q / (64 : Int32))), (.ref W)]))
  refine Gd.go (fun _ w_k => XS.lshl X1.here hx rfl (hb hby d5_12) rfl w_k) ?_
  show Gd _ _ _ _ (T1.setTop (mkF m 13 #[.val (.ref o), .val (.int q)] [(.long ((1 : Int64) <<< (q &&& 0x3f).toInt64)), (.long (w (q / (64 : Int32)).toNatClampNeg)), (.int (q / (64 : Int32))), (.ref W)]))
  refine Gd.go (fun _ w_k => XS.lor X1.here hx rfl (hb hby d5_13) rfl w_k) ?_
  show Gd _ _ _ _ (T1.setTop (mkF m 14 #[.val (.ref o), .val (.int q)] [(.long ((w (q / (64 : Int32)).toNatClampNeg) ||| ((1 : Int64) <<< (q &&& 0x3f).toInt64))), (.int (q / (64 : Int32))), (.ref W)]))
  obtain ⟨T2, h2, X2, e2, W2, st2⟩ := own_stJ X1 hx hZ e1 A1 (j := (q / (64 : Int32))) b1 b2 (g := (mkF m 14 #[.val (.ref o), .val (.int q)] [(.long ((w (q / (64 : Int32)).toNatClampNeg) ||| ((1 : Int64) <<< (q &&& 0x3f).toInt64))), (.int (q / (64 : Int32))), (.ref W)])) rfl rfl (hb hby d5_14)
  refine Gd.go (fun _ w_k => st2 _ w_k) ?_
  have xF3 := E.wr W2
  have xF4 := F1.other W2 (Or.inl ne1)
  have xF5 := A1.set W2
  have xN6 := Fr.snoc X2 N0 gW
  have xO7 := Old.wr O0 W2 gW
  show Gd _ _ _ _ (T2.setTop (mkF m 15 #[.val (.ref o), .val (.int q)] []))
  refine own_retV X2 hx hret hlk (hb hby d5_15) ?_ (by decide) (by decide)
  rw [e2]
  have AW := xF5
  rw [own_updJ] at AW
  exact ⟨rfl, ⟨_, ⟨W, xF3, xF4, AW, go, gW, ne1⟩, own_setbits hq.1 rfl⟩, xO7, xN6⟩
def own_pick (best on idx f e : Int32) : Int32 := if on = 0 then best else if idx < f then best else if idx < e then (if best = -1 then idx else if idx < best then idx else best) else best
theorem own_pn2 : plainFor (⟨"com/example/nearfield/nearfield/job/BitsNextPinLaw", "pick", "(IZIII)I"⟩ : MethodName) = true := by first | exact plainFor_of_name (by first | (simp [plainName, overriddenIn, x]; done) | decide +kernel) | decide +kernel
theorem ef_4 (m : MethodId) (q0 : Int32) (q1 : Int32) (q2 : Int32) (q3 : Int32) (q4 : Int32) : entryFrame m #[(.int q0), (.int q1), (.int q2), (.int q3), (.int q4)] 5 = mkF m 0 #[.val (.int q0), .val (.int q1), .val (.int q2), .val (.int q3), .val (.int q4)] [] := by first | (simp [entryFrame, mkF, argsToLocals, Value.category, maxLocals]; done) | rfl
theorem d4_0 : decode method_2_code 0 = .ok (.iload_n 1, 1) := by decide +kernel
theorem d4_1 : decode method_2_code 1 = .ok (.ifCond .ne 5, 3) := by decide +kernel
theorem d4_4 : decode method_2_code 4 = .ok (.iload_n 0, 1) := by decide +kernel
theorem d4_5 : decode method_2_code 5 = .ok (.ireturn, 1) := by decide +kernel
theorem d4_6 : decode method_2_code 6 = .ok (.iload_n 2, 1) := by decide +kernel
theorem d4_7 : decode method_2_code 7 = .ok (.iload_n 3, 1) := by decide +kernel
theorem d4_8 : decode method_2_code 8 = .ok (.if_icmp .lt 9, 3) := by decide +kernel
theorem d4_17 : decode method_2_code 17 = .ok (.iload_n 0, 1) := by decide +kernel
theorem d4_18 : decode method_2_code 18 = .ok (.ireturn, 1) := by decide +kernel
theorem d4_11 : decode method_2_code 11 = .ok (.iload_n 2, 1) := by decide +kernel
theorem d4_12 : decode method_2_code 12 = .ok (.iload 4, 2) := by decide +kernel
theorem d4_14 : decode method_2_code 14 = .ok (.if_icmp .lt 5, 3) := by decide +kernel
theorem d4_19 : decode method_2_code 19 = .ok (.iload_n 0, 1) := by decide +kernel
theorem d4_20 : decode method_2_code 20 = .ok (.iconst (-1), 1) := by decide +kernel
theorem d4_21 : decode method_2_code 21 = .ok (.if_icmp .eq 8, 3) := by decide +kernel
theorem d4_29 : decode method_2_code 29 = .ok (.iload_n 2, 1) := by decide +kernel
theorem d4_30 : decode method_2_code 30 = .ok (.ireturn, 1) := by decide +kernel
theorem d4_24 : decode method_2_code 24 = .ok (.iload_n 2, 1) := by decide +kernel
theorem d4_25 : decode method_2_code 25 = .ok (.iload_n 0, 1) := by decide +kernel
theorem d4_26 : decode method_2_code 26 = .ok (.if_icmp .ge 5, 3) := by decide +kernel
theorem d4_31 : decode method_2_code 31 = .ok (.iload_n 0, 1) := by decide +kernel
theorem d4_32 : decode method_2_code 32 = .ok (.ireturn, 1) := by decide +kernel
set_option maxRecDepth 65536 in
set_option maxHeartbeats 40000000 in
theorem own_c4 (l : Launch) (Z : State) (a0 : Array Value) (hw : ∀ d ∈ tables_1, d.before a0 Z = true) (best on idx f e' : Int32) (h0 : Heap) :
    Con l Z (⟨"com/example/nearfield/nearfield/job/BitsNextPinLaw", "pick", "(IZIII)I"⟩ : MethodName) method_2_code 5 (some .int) [] ({ frames := 0, cells := 0, slots := 0, locals := 0 } : Room) 0 0 #[(.int best), (.int on), (.int idx), (.int f), (.int e')] h0 (fun r h L => r = some (.int (own_pick best on idx f e')) ∧ h = h0 ∧ L = []) := by
  refine Con.of own_pn2 ?_
  intro pg ev s_ m bl mt cd s₁ hx hby hml hown hnm hret hlk hZ X0 e0
  rw [ef_4]
  show Gd _ _ _ _ (s₁.setTop (mkF m 0 #[.val (.int best), .val (.int on), .val (.int idx), .val (.int f), .val (.int e')] []))
  refine Gd.go (fun _ w_k => XS.iloadN X0.here hx rfl (hb hby d4_0) rfl w_k) ?_
  show Gd _ _ _ _ (s₁.setTop (mkF m 1 #[.val (.int best), .val (.int on), .val (.int idx), .val (.int f), .val (.int e')] [(.int on)]))
  by_cases hc1 : on = (0 : Int32)
  · refine Gd.go (fun _ w_k => XS.ifNo X0.here hx rfl (hb hby d4_1) rfl ((if0 _ _).trans (teq hc1).2) w_k) ?_
    show Gd _ _ _ _ (s₁.setTop (mkF m 4 #[.val (.int best), .val (.int on), .val (.int idx), .val (.int f), .val (.int e')] []))
    refine Gd.go (fun _ w_k => XS.iloadN X0.here hx rfl (hb hby d4_4) rfl w_k) ?_
    show Gd _ _ _ _ (s₁.setTop (mkF m 5 #[.val (.int best), .val (.int on), .val (.int idx), .val (.int f), .val (.int e')] [(.int best)]))
    refine own_retI X0 hx hret hlk (hb hby d4_5) ?_ (by decide) (by decide)
    exact ⟨by simp only [own_pick, hc1, if_true, if_false], e0, rfl⟩
  · refine Gd.go (fun _ w_k => XS.ifYes X0.here hx rfl (pc0 := 1) (pc' := 6) rfl (hb hby d4_1) rfl ((if0 _ _).trans (feq hc1).2) (by decide) (by decide) w_k) ?_
    show Gd _ _ _ _ (s₁.setTop (mkF m 6 #[.val (.int best), .val (.int on), .val (.int idx), .val (.int f), .val (.int e')] []))
    refine Gd.go (fun _ w_k => XS.iloadN X0.here hx rfl (hb hby d4_6) rfl w_k) ?_
    show Gd _ _ _ _ (s₁.setTop (mkF m 7 #[.val (.int best), .val (.int on), .val (.int idx), .val (.int f), .val (.int e')] [(.int idx)]))
    refine Gd.go (fun _ w_k => XS.iloadN X0.here hx rfl (hb hby d4_7) rfl w_k) ?_
    show Gd _ _ _ _ (s₁.setTop (mkF m 8 #[.val (.int best), .val (.int on), .val (.int idx), .val (.int f), .val (.int e')] [(.int f), (.int idx)]))
    by_cases hc2 : idx < f
    · refine Gd.go (fun _ w_k => XS.icmpYes X0.here hx rfl (pc0 := 8) (pc' := 17) rfl (hb hby d4_8) rfl (tlt hc2).1 (by decide) (by decide) w_k) ?_
      show Gd _ _ _ _ (s₁.setTop (mkF m 17 #[.val (.int best), .val (.int on), .val (.int idx), .val (.int f), .val (.int e')] []))
      refine Gd.go (fun _ w_k => XS.iloadN X0.here hx rfl (hb hby d4_17) rfl w_k) ?_
      show Gd _ _ _ _ (s₁.setTop (mkF m 18 #[.val (.int best), .val (.int on), .val (.int idx), .val (.int f), .val (.int e')] [(.int best)]))
      refine own_retI X0 hx hret hlk (hb hby d4_18) ?_ (by decide) (by decide)
      exact ⟨by simp only [own_pick, hc1, hc2, if_true, if_false], e0, rfl⟩
    · refine Gd.go (fun _ w_k => XS.icmpNo X0.here hx rfl (hb hby d4_8) rfl (flt hc2).1 w_k) ?_
      show Gd _ _ _ _ (s₁.setTop (mkF m 11 #[.val (.int best), .val (.int on), .val (.int idx), .val (.int f), .val (.int e')] []))
      refine Gd.go (fun _ w_k => XS.iloadN X0.here hx rfl (hb hby d4_11) rfl w_k) ?_
      show Gd _ _ _ _ (s₁.setTop (mkF m 12 #[.val (.int best), .val (.int on), .val (.int idx), .val (.int f), .val (.int e')] [(.int idx)]))
      refine Gd.go (fun _ w_k => XS.iload X0.here hx rfl (hb hby d4_12) rfl w_k) ?_
      show Gd _ _ _ _ (s₁.setTop (mkF m 14 #[.val (.int best), .val (.int on), .val (.int idx), .val (.int f), .val (.int e')] [(.int e'), (.int idx)]))
      by_cases hc3 : idx < e'
      · refine Gd.go (fun _ w_k => XS.icmpYes X0.here hx rfl (pc0 := 14) (pc' := 19) rfl (hb hby d4_14) rfl (tlt hc3).1 (by decide) (by decide) w_k) ?_
        show Gd _ _ _ _ (s₁.setTop (mkF m 19 #[.val (.int best), .val (.int on), .val (.int idx), .val (.int f), .val (.int e')] []))
        refine Gd.go (fun _ w_k => XS.iloadN X0.here hx rfl (hb hby d4_19) rfl w_k) ?_
        show Gd _ _ _ _ (s₁.setTop (mkF m 20 #[.val (.int best), .val (.int on), .val (.int idx), .val (.int f), .val (.int e')] [(.int best)]))
        refine Gd.go (fun _ w_k => XS.iconst X0.here hx rfl (hb hby d4_20) w_k) ?_
        show Gd _ _ _ _ (s₁.setTop (mkF m 21 #[.val (.int best), .val (.int on), .val (.int idx), .val (.int f), .val (.int e')] [(.int (-1 : Int32)), (.int best)]))
        by_cases hc4 : best = (-1 : Int32)
        · refine Gd.go (fun _ w_k => XS.icmpYes X0.here hx rfl (pc0 := 21) (pc' := 29) rfl (hb hby d4_21) rfl (teq hc4).1 (by decide) (by decide) w_k) ?_
          show Gd _ _ _ _ (s₁.setTop (mkF m 29 #[.val (.int best), .val (.int on), .val (.int idx), .val (.int f), .val (.int e')] []))
          refine Gd.go (fun _ w_k => XS.iloadN X0.here hx rfl (hb hby d4_29) rfl w_k) ?_
          show Gd _ _ _ _ (s₁.setTop (mkF m 30 #[.val (.int best), .val (.int on), .val (.int idx), .val (.int f), .val (.int e')] [(.int idx)]))
          refine own_retI X0 hx hret hlk (hb hby d4_30) ?_ (by decide) (by decide)
          exact ⟨by simp only [own_pick, hc1, hc2, hc3, hc4, if_true, if_false], e0, rfl⟩
        · refine Gd.go (fun _ w_k => XS.icmpNo X0.here hx rfl (hb hby d4_21) rfl (feq hc4).1 w_k) ?_
          show Gd _ _ _ _ (s₁.setTop (mkF m 24 #[.val (.int best), .val (.int on), .val (.int idx), .val (.int f), .val (.int e')] []))
          refine Gd.go (fun _ w_k => XS.iloadN X0.here hx rfl (hb hby d4_24) rfl w_k) ?_
          show Gd _ _ _ _ (s₁.setTop (mkF m 25 #[.val (.int best), .val (.int on), .val (.int idx), .val (.int f), .val (.int e')] [(.int idx)]))
          refine Gd.go (fun _ w_k => XS.iloadN X0.here hx rfl (hb hby d4_25) rfl w_k) ?_
          show Gd _ _ _ _ (s₁.setTop (mkF m 26 #[.val (.int best), .val (.int on), .val (.int idx), .val (.int f), .val (.int e')] [(.int best), (.int idx)]))
          by_cases hc5 : idx < best
          · refine Gd.go (fun _ w_k => XS.icmpNo X0.here hx rfl (hb hby d4_26) rfl (tlt hc5).2.1 w_k) ?_
            show Gd _ _ _ _ (s₁.setTop (mkF m 29 #[.val (.int best), .val (.int on), .val (.int idx), .val (.int f), .val (.int e')] []))
            refine Gd.go (fun _ w_k => XS.iloadN X0.here hx rfl (hb hby d4_29) rfl w_k) ?_
            show Gd _ _ _ _ (s₁.setTop (mkF m 30 #[.val (.int best), .val (.int on), .val (.int idx), .val (.int f), .val (.int e')] [(.int idx)]))
            refine own_retI X0 hx hret hlk (hb hby d4_30) ?_ (by decide) (by decide)
            exact ⟨by simp only [own_pick, hc1, hc2, hc3, hc4, hc5, if_true, if_false], e0, rfl⟩
          · refine Gd.go (fun _ w_k => XS.icmpYes X0.here hx rfl (pc0 := 26) (pc' := 31) rfl (hb hby d4_26) rfl (flt hc5).2.1 (by decide) (by decide) w_k) ?_
            show Gd _ _ _ _ (s₁.setTop (mkF m 31 #[.val (.int best), .val (.int on), .val (.int idx), .val (.int f), .val (.int e')] []))
            refine Gd.go (fun _ w_k => XS.iloadN X0.here hx rfl (hb hby d4_31) rfl w_k) ?_
            show Gd _ _ _ _ (s₁.setTop (mkF m 32 #[.val (.int best), .val (.int on), .val (.int idx), .val (.int f), .val (.int e')] [(.int best)]))
            refine own_retI X0 hx hret hlk (hb hby d4_32) ?_ (by decide) (by decide)
            exact ⟨by simp only [own_pick, hc1, hc2, hc3, hc4, hc5, if_true, if_false], e0, rfl⟩
      · refine Gd.go (fun _ w_k => XS.icmpNo X0.here hx rfl (hb hby d4_14) rfl (flt hc3).1 w_k) ?_
        show Gd _ _ _ _ (s₁.setTop (mkF m 17 #[.val (.int best), .val (.int on), .val (.int idx), .val (.int f), .val (.int e')] []))
        refine Gd.go (fun _ w_k => XS.iloadN X0.here hx rfl (hb hby d4_17) rfl w_k) ?_
        show Gd _ _ _ _ (s₁.setTop (mkF m 18 #[.val (.int best), .val (.int on), .val (.int idx), .val (.int f), .val (.int e')] [(.int best)]))
        refine own_retI X0 hx hret hlk (hb hby d4_18) ?_ (by decide) (by decide)
        exact ⟨by simp only [own_pick, hc1, hc2, hc3, if_true, if_false], e0, rfl⟩
/-- what 'next' answers -/
def own_res (w : Nat → Int64) (f e : Int) (v : Int32) : Prop := (v = -1 ∧ ∀ j : Nat, f ≤ j → (j : Int) < e → own_bit w j = false) ∨ (∃ j : Nat, v = Int32.ofNat j ∧ f ≤ j ∧ (j : Int) < e ∧ own_bit w j = true ∧ ∀ i : Nat, f ≤ i → i < j → own_bit w i = false)
/-- where the search stands: the word i, what is left of it, nothing found below -/
def own_inv (w : Nat → Int64) (f : Int) (i : Nat) (b : Int64) : Prop := f / 64 ≤ i ∧ (∀ j : Nat, j / 64 = i → f ≤ j → b.toBitVec.getLsbD (j % 64) = own_bit w j) ∧ (∀ j : Nat, j / 64 = i → ¬ f ≤ j → b.toBitVec.getLsbD (j % 64) = false) ∧ ∀ j : Nat, f ≤ j → j < 64 * i → own_bit w j = false
theorem own_inv0 {w : Nat → Int64} {f : Int32} (hf : 0 ≤ f.toInt) : own_inv w f.toInt (f / (64 : Int32)).toNatClampNeg (w (f / (64 : Int32)).toNatClampNeg &&& ((-1 : Int64) <<< (f &&& 0x3f).toInt64)) := by
  rw [own_divN hf]
  refine ⟨by omega, fun j hj h => ?_, fun j hj h => ?_, fun j h1 h2 => by omega⟩
  · rw [own_msk _ hf _ (Nat.mod_lt _ (by decide))]
    have : f.toInt.toNat % 64 ≤ j % 64 := by omega
    unfold own_bit; rw [hj, decide_eq_true this, Bool.and_true]
  · rw [own_msk _ hf _ (Nat.mod_lt _ (by decide))]
    have : ¬ f.toInt.toNat % 64 ≤ j % 64 := by omega
    rw [decide_eq_false this, Bool.and_false]
theorem own_inv_zero {w : Nat → Int64} {f : Int} {i : Nat} {b : Int64} (H : own_inv w f i b) (hb : b = 0) (j : Nat) (h1 : f ≤ j) (h2 : j < 64 * (i + 1)) : own_bit w j = false := by
  by_cases q : j < 64 * i
  · exact H.2.2.2 j h1 q
  · rw [← H.2.1 j (by omega) h1, hb]
    show (0#64).getLsbD _ = false
    simp
theorem own_inv_next {w : Nat → Int64} {f : Int} {i : Nat} {b : Int64} (hf : 0 ≤ f) (H : own_inv w f i b) (hb : b = 0) : own_inv w f (i + 1) (w (i + 1)) := by
  refine ⟨by have := H.1; omega, fun j hj h => by unfold own_bit; rw [hj], fun j hj h => ?_, fun j h1 h2 => own_inv_zero H hb j h1 h2⟩
  have := H.1; omega
theorem own_inv_hit {w : Nat → Int64} {f : Int} {i : Nat} {b : Int64} {k : Nat} (H : own_inv w f i b) (hk : k < 64) (h1 : b.toBitVec.getLsbD k = true) (h2 : ∀ j, j < k → b.toBitVec.getLsbD j = false) :
    f ≤ ((64 * i + k : Nat) : Int) ∧ own_bit w (64 * i + k) = true ∧ ∀ j : Nat, f ≤ j → j < 64 * i + k → own_bit w j = false := by
  have e1 : (64 * i + k) / 64 = i := by omega
  have e2 : (64 * i + k) % 64 = k := by omega
  have hf : f ≤ ((64 * i + k : Nat) : Int) := by
    refine Classical.byContradiction fun q => ?_
    have := H.2.2.1 _ e1 q
    rw [e2, h1] at this; cases this
  refine ⟨hf, ?_, fun j g1 g2 => ?_⟩
  · rw [← H.2.1 _ e1 hf, e2]; exact h1
  · by_cases q : j < 64 * i
    · exact H.2.2.2 j g1 q
    · rw [← H.2.1 j (by omega) g1]; exact h2 _ (by omega)
theorem own_mul64 {i : Nat} (h : i < 2 ^ 20) : ((Int32.ofNat i).toInt64 * (64 : Int64)).toInt = 64 * i := by
  have e := c_lmul (Int32.ofNat i).toInt64 64
  rw [c_i2l, own_ofN (by omega)] at e
  have e1 : (64 : Int64).toInt = 64 := rfl
  rw [e1] at e
  have := rng64 ((Int32.ofNat i).toInt64 * (64 : Int64)); omega
theorem own_ge64 {i : Nat} {e : Int32} (h : i < 2 ^ 20) (q : ¬ (Int32.ofNat i).toInt64 * (64 : Int64) < e.toInt64) : e.toInt ≤ 64 * i := by
  rw [Int64.lt_iff_toInt_lt, own_mul64 h, c_i2l] at q; omega
theorem own_lt64 {i : Nat} {e : Int32} (h : i < 2 ^ 20) (q : (Int32.ofNat i).toInt64 * (64 : Int64) < e.toInt64) : (64 * i : Int) < e.toInt := by
  rw [Int64.lt_iff_toInt_lt, own_mul64 h, c_i2l] at q; omega
theorem own_at64 {i k : Nat} (h : i < 2 ^ 20) (hk : k < 64) : (Int32.ofNat i * (64 : Int32) + Int32.ofNat k) = Int32.ofNat (64 * i + k) := by
  apply Int32.toInt_inj.mp
  have e := c_imul (Int32.ofNat i) 64
  have e1 : (64 : Int32).toInt = 64 := rfl
  rw [own_ofN (by omega), e1] at e
  have r1 := rng32 (Int32.ofNat i * 64)
  have e2 := c_iadd (Int32.ofNat i * (64 : Int32)) (Int32.ofNat k)
  rw [own_ofN (n := k) (by omega)] at e2
  have r2 := rng32 (Int32.ofNat i * (64 : Int32) + Int32.ofNat k)
  rw [own_ofN (by omega)]
  omega
theorem own_pn3 : plainFor (⟨"com/example/nearfield/nearfield/job/Bits", "next", "(II)I"⟩ : MethodName) = true := by first | exact plainFor_of_name (by first | (simp [plainName, overriddenIn, x]; done) | decide +kernel) | decide +kernel
theorem ef_3 (m : MethodId) (q0 : Addr) (q1 : Int32) (q2 : Int32) : entryFrame m #[(.ref q0), (.int q1), (.int q2)] 7 = mkF m 0 #[.val (.ref q0), .val (.int q1), .val (.int q2), .unset, .unset, .unset, .unset] [] := by first | (simp [entryFrame, mkF, argsToLocals, Value.category, maxLocals]; done) | rfl
theorem d3_26 : decode prog_45_method_10_code 26 = .ok (.lload 4, 2) := by decide +kernel
theorem d3_28 : decode prog_45_method_10_code 28 = .ok (.lconst 0, 1) := by decide +kernel
theorem d3_29 : decode prog_45_method_10_code 29 = .ok (.lcmp, 1) := by decide +kernel
theorem d3_30 : decode prog_45_method_10_code 30 = .ok (.ifCond .ne 31, 3) := by decide +kernel
theorem d3_33 : decode prog_45_method_10_code 33 = .ok (.iinc 3 1, 3) := by decide +kernel
theorem d3_36 : decode prog_45_method_10_code 36 = .ok (.iload_n 3, 1) := by decide +kernel
theorem d3_37 : decode prog_45_method_10_code 37 = .ok (.i2l, 1) := by decide +kernel
theorem d3_38 : decode prog_45_method_10_code 38 = .ok (.ldc2_w 35, 3) := by decide +kernel
theorem d3_41 : decode prog_45_method_10_code 41 = .ok (.lmul, 1) := by decide +kernel
theorem d3_42 : decode prog_45_method_10_code 42 = .ok (.iload_n 2, 1) := by decide +kernel
theorem d3_43 : decode prog_45_method_10_code 43 = .ok (.i2l, 1) := by decide +kernel
theorem d3_44 : decode prog_45_method_10_code 44 = .ok (.lcmp, 1) := by decide +kernel
theorem d3_45 : decode prog_45_method_10_code 45 = .ok (.ifCond .lt 5, 3) := by decide +kernel
theorem d3_50 : decode prog_45_method_10_code 50 = .ok (.aload_n 0, 1) := by decide +kernel
theorem d3_51 : decode prog_45_method_10_code 51 = .ok (.getfield 13, 3) := by decide +kernel
theorem d3_54 : decode prog_45_method_10_code 54 = .ok (.iload_n 3, 1) := by decide +kernel
theorem d3_55 : decode prog_45_method_10_code 55 = .ok (.laload, 1) := by decide +kernel
theorem d3_56 : decode prog_45_method_10_code 56 = .ok (.lstore 4, 2) := by decide +kernel
theorem d3_58 : decode prog_45_method_10_code 58 = .ok (.goto (-32), 3) := by decide +kernel
theorem d3_48 : decode prog_45_method_10_code 48 = .ok (.iconst (-1), 1) := by decide +kernel
theorem d3_49 : decode prog_45_method_10_code 49 = .ok (.ireturn, 1) := by decide +kernel
theorem d3_61 : decode prog_45_method_10_code 61 = .ok (.iload_n 3, 1) := by decide +kernel
theorem d3_62 : decode prog_45_method_10_code 62 = .ok (.bipush 64, 2) := by decide +kernel
theorem d3_64 : decode prog_45_method_10_code 64 = .ok (.imul, 1) := by decide +kernel
theorem d3_65 : decode prog_45_method_10_code 65 = .ok (.getstatic 37, 3) := by decide +kernel
theorem d3_68 : decode prog_45_method_10_code 68 = .ok (.lload 4, 2) := by decide +kernel
theorem d3_70 : decode prog_45_method_10_code 70 = .ok (.lload 4, 2) := by decide +kernel
theorem d3_72 : decode prog_45_method_10_code 72 = .ok (.lneg, 1) := by decide +kernel
theorem d3_73 : decode prog_45_method_10_code 73 = .ok (.land, 1) := by decide +kernel
theorem d3_74 : decode prog_45_method_10_code 74 = .ok (.ldc2_w 41, 3) := by decide +kernel
theorem d3_77 : decode prog_45_method_10_code 77 = .ok (.lmul, 1) := by decide +kernel
theorem d3_78 : decode prog_45_method_10_code 78 = .ok (.bipush 58, 2) := by decide +kernel
theorem d3_80 : decode prog_45_method_10_code 80 = .ok (.lushr, 1) := by decide +kernel
theorem d3_81 : decode prog_45_method_10_code 81 = .ok (.l2i, 1) := by decide +kernel
theorem d3_82 : decode prog_45_method_10_code 82 = .ok (.baload, 1) := by decide +kernel
theorem d3_83 : decode prog_45_method_10_code 83 = .ok (.iadd, 1) := by decide +kernel
theorem d3_84 : decode prog_45_method_10_code 84 = .ok (.istore 6, 2) := by decide +kernel
theorem d3_86 : decode prog_45_method_10_code 86 = .ok (.iload 6, 2) := by decide +kernel
theorem d3_88 : decode prog_45_method_10_code 88 = .ok (.iload_n 2, 1) := by decide +kernel
theorem d3_89 : decode prog_45_method_10_code 89 = .ok (.if_icmp .ge 8, 3) := by decide +kernel
theorem d3_92 : decode prog_45_method_10_code 92 = .ok (.iload 6, 2) := by decide +kernel
theorem d3_94 : decode prog_45_method_10_code 94 = .ok (.goto 4, 3) := by decide +kernel
theorem d3_98 : decode prog_45_method_10_code 98 = .ok (.ireturn, 1) := by decide +kernel
theorem d3_97 : decode prog_45_method_10_code 97 = .ok (.iconst (-1), 1) := by decide +kernel
theorem d3_0 : decode prog_45_method_10_code 0 = .ok (.iload_n 1, 1) := by decide +kernel
theorem d3_1 : decode prog_45_method_10_code 1 = .ok (.iload_n 2, 1) := by decide +kernel
theorem d3_2 : decode prog_45_method_10_code 2 = .ok (.if_icmp .lt 5, 3) := by decide +kernel
theorem d3_7 : decode prog_45_method_10_code 7 = .ok (.iload_n 1, 1) := by decide +kernel
theorem d3_8 : decode prog_45_method_10_code 8 = .ok (.bipush 64, 2) := by decide +kernel
theorem d3_10 : decode prog_45_method_10_code 10 = .ok (.idiv, 1) := by decide +kernel
theorem d3_11 : decode prog_45_method_10_code 11 = .ok (.istore_n 3, 1) := by decide +kernel
theorem d3_12 : decode prog_45_method_10_code 12 = .ok (.aload_n 0, 1) := by decide +kernel
theorem d3_13 : decode prog_45_method_10_code 13 = .ok (.getfield 13, 3) := by decide +kernel
theorem d3_16 : decode prog_45_method_10_code 16 = .ok (.iload_n 3, 1) := by decide +kernel
theorem d3_17 : decode prog_45_method_10_code 17 = .ok (.laload, 1) := by decide +kernel
theorem d3_18 : decode prog_45_method_10_code 18 = .ok (.ldc2_w 17, 3) := by decide +kernel
theorem d3_21 : decode prog_45_method_10_code 21 = .ok (.iload_n 1, 1) := by decide +kernel
theorem d3_22 : decode prog_45_method_10_code 22 = .ok (.lshl, 1) := by decide +kernel
theorem d3_23 : decode prog_45_method_10_code 23 = .ok (.land, 1) := by decide +kernel
theorem d3_24 : decode prog_45_method_10_code 24 = .ok (.lstore 4, 2) := by decide +kernel
theorem d3_5 : decode prog_45_method_10_code 5 = .ok (.iconst (-1), 1) := by decide +kernel
theorem d3_6 : decode prog_45_method_10_code 6 = .ok (.ireturn, 1) := by decide +kernel
set_option maxRecDepth 65536 in
set_option maxHeartbeats 40000000 in
theorem own_c3 (l : Launch) (Z : State) (a0 : Array Value) (hw : ∀ d ∈ tables_1, d.before a0 Z = true) (o : Addr) (f e' : Int32) (N : Nat) (hN : N < 2 ^ 20) (w : Nat → Int64) (Lw : Addr) (h0 : Heap) (n0 : Nat) (H : own_B Z h0 o n0 N w) (S0 : Sta Z h0 "com/example/nearfield/nearfield/job/Bits" "LOWEST" "[B" (.ref Lw)) (A0 : ArF Z h0 Lw .byte 64 (fun i => .int (own_low i))) (hf : 0 ≤ f.toInt) (he : e'.toInt ≤ 64 * N) :
    Con l Z (⟨"com/example/nearfield/nearfield/job/Bits", "next", "(II)I"⟩ : MethodName) prog_45_method_10_code 7 (some .int) [] ({ frames := 0, cells := 0, slots := 0, locals := 0 } : Room) 0 0 #[(.ref o), (.int f), (.int e')] h0 (fun r h L => (∃ v, r = some (.int v) ∧ own_res w f.toInt e'.toInt v) ∧ h = h0 ∧ L = []) := by
  refine Con.of own_pn3 ?_
  intro pg ev s_ m bl mt cd s₁ hx hby hml hown hnm hret hlk hZ X0 e0
  rw [ef_3]
  show Gd _ _ _ _ (s₁.setTop (mkF m 0 #[.val (.ref o), .val (.int f), .val (.int e'), .unset, .unset, .unset, .unset] []))
  obtain ⟨W, E, F1, A1, go, gW, ne1⟩ := H
  have loop : ∀ (k i : Nat) (B : Int64) (T : State), i + k = N → i < N → Stand pg l ev ({ frames := 0, cells := 0, slots := 0, locals := 0 } : Room) s_ m #[(.ref o), (.int f), (.int e')] bl mt cd T [] 0 0 → T.heap = h0 → own_inv w f.toInt i B → Gd pg.tables ev bl (Owes s_ 0 0 (fun r h L => (∃ v, r = some (.int v) ∧ own_res w f.toInt e'.toInt v) ∧ h = h0 ∧ L = [])) (T.setTop (mkF m 26 #[.val (.ref o), .val (.int f), .val (.int e'), .val (.int (Int32.ofNat i)), .val (.long B), .second, .unset] [])) := by
    intro k
    induction k with
    | zero => intro i B T hk hi X eT I; omega
    | succ k ih =>
      intro i B T hk hi X eT I
      refine Gd.go (fun _ w_k => XS.lload X.here hx rfl (hb hby d3_26) rfl w_k) ?_
      show Gd _ _ _ _ (T.setTop (mkF m 28 #[.val (.ref o), .val (.int f), .val (.int e'), .val (.int (Int32.ofNat i)), .val (.long B), .second, .unset] [(.long B)]))
      refine Gd.go (fun _ w_k => XS.lconst X.here hx rfl (hb hby d3_28) w_k) ?_
      show Gd _ _ _ _ (T.setTop (mkF m 29 #[.val (.ref o), .val (.int f), .val (.int e'), .val (.int (Int32.ofNat i)), .val (.long B), .second, .unset] [(.long (0 : Int64)), (.long B)]))
      refine Gd.go (fun _ w_k => XS.lcmp X.here hx rfl (hb hby d3_29) rfl w_k) ?_
      show Gd _ _ _ _ (T.setTop (mkF m 30 #[.val (.ref o), .val (.int f), .val (.int e'), .val (.int (Int32.ofNat i)), .val (.long B), .second, .unset] [(.int (lcmpW B (0 : Int64)))]))
      by_cases hc1 : B = (0 : Int64)
      · refine Gd.go (fun _ w_k => XS.ifNo X.here hx rfl (hb hby d3_30) rfl ((if0 _ _).trans (teq ((lw_eq _ _).mpr hc1)).2) w_k) ?_
        show Gd _ _ _ _ (T.setTop (mkF m 33 #[.val (.ref o), .val (.int f), .val (.int e'), .val (.int (Int32.ofNat i)), .val (.long B), .second, .unset] []))
        refine Gd.go (fun _ w_k => XS.iinc X.here hx rfl (hb hby d3_33) rfl (l' := #[.val (.ref o), .val (.int f), .val (.int e'), .val (.int ((Int32.ofNat i) + (1 : Int32))), .val (.long B), .second, .unset]) rfl w_k) ?_
        show Gd _ _ _ _ (T.setTop (mkF m 36 #[.val (.ref o), .val (.int f), .val (.int e'), .val (.int ((Int32.ofNat i) + (1 : Int32))), .val (.long B), .second, .unset] []))
        rw [own_incN]
        show Gd _ _ _ _ (T.setTop (mkF m 36 #[.val (.ref o), .val (.int f), .val (.int e'), .val (.int (Int32.ofNat (i + 1))), .val (.long B), .second, .unset] []))
        refine Gd.go (fun _ w_k => XS.iloadN X.here hx rfl (hb hby d3_36) rfl w_k) ?_
        show Gd _ _ _ _ (T.setTop (mkF m 37 #[.val (.ref o), .val (.int f), .val (.int e'), .val (.int (Int32.ofNat (i + 1))), .val (.long B), .second, .unset] [(.int (Int32.ofNat (i + 1)))]))
        refine Gd.go (fun _ w_k => XS.i2l X.here hx rfl (hb hby d3_37) rfl w_k) ?_
        show Gd _ _ _ _ (T.setTop (mkF m 38 #[.val (.ref o), .val (.int f), .val (.int e'), .val (.int (Int32.ofNat (i + 1))), .val (.long B), .second, .unset] [(.long ((Int32.ofNat (i + 1)).toInt64))]))
        refine Gd.go (fun _ w_k => X.ldc2Long hx hown (mvT hZ (hw _ (List.mem_of_getElem? (i := 33) rfl))) (g := (mkF m 38 #[.val (.ref o), .val (.int f), .val (.int e'), .val (.int (Int32.ofNat (i + 1))), .val (.long B), .second, .unset] [(.long ((Int32.ofNat (i + 1)).toInt64))])) rfl (hb hby d3_38) _ w_k) ?_
        show Gd _ _ _ _ (T.setTop (mkF m 41 #[.val (.ref o), .val (.int f), .val (.int e'), .val (.int (Int32.ofNat (i + 1))), .val (.long B), .second, .unset] [(.long (64 : Int64)), (.long ((Int32.ofNat (i + 1)).toInt64))]))
        refine Gd.go (fun _ w_k => XS.lmul X.here hx rfl (hb hby d3_41) rfl w_k) ?_
        show Gd _ _ _ _ (T.setTop (mkF m 42 #[.val (.ref o), .val (.int f), .val (.int e'), .val (.int (Int32.ofNat (i + 1))), .val (.long B), .second, .unset] [(.long (((Int32.ofNat (i + 1)).toInt64) * (64 : Int64)))]))
        refine Gd.go (fun _ w_k => XS.iloadN X.here hx rfl (hb hby d3_42) rfl w_k) ?_
        show Gd _ _ _ _ (T.setTop (mkF m 43 #[.val (.ref o), .val (.int f), .val (.int e'), .val (.int (Int32.ofNat (i + 1))), .val (.long B), .second, .unset] [(.int e'), (.long (((Int32.ofNat (i + 1)).toInt64) * (64 : Int64)))]))
        refine Gd.go (fun _ w_k => XS.i2l X.here hx rfl (hb hby d3_43) rfl w_k) ?_
        show Gd _ _ _ _ (T.setTop (mkF m 44 #[.val (.ref o), .val (.int f), .val (.int e'), .val (.int (Int32.ofNat (i + 1))), .val (.long B), .second, .unset] [(.long (e'.toInt64)), (.long (((Int32.ofNat (i + 1)).toInt64) * (64 : Int64)))]))
        refine Gd.go (fun _ w_k => XS.lcmp X.here hx rfl (hb hby d3_44) rfl w_k) ?_
        show Gd _ _ _ _ (T.setTop (mkF m 45 #[.val (.ref o), .val (.int f), .val (.int e'), .val (.int (Int32.ofNat (i + 1))), .val (.long B), .second, .unset] [(.int (lcmpW (((Int32.ofNat (i + 1)).toInt64) * (64 : Int64)) (e'.toInt64)))]))
        by_cases hc2 : (((Int32.ofNat (i + 1)).toInt64) * (64 : Int64)) < (e'.toInt64)
        · refine Gd.go (fun _ w_k => XS.ifYes X.here hx rfl (pc0 := 45) (pc' := 50) rfl (hb hby d3_45) rfl ((if0 _ _).trans (tlt ((lw_lt _ _).mpr hc2)).1) (by decide) (by decide) w_k) ?_
          show Gd _ _ _ _ (T.setTop (mkF m 50 #[.val (.ref o), .val (.int f), .val (.int e'), .val (.int (Int32.ofNat (i + 1))), .val (.long B), .second, .unset] []))
          refine Gd.go (fun _ w_k => XS.aloadN X.here hx rfl (hb hby d3_50) rfl rfl w_k) ?_
          show Gd _ _ _ _ (T.setTop (mkF m 51 #[.val (.ref o), .val (.int f), .val (.int e'), .val (.int (Int32.ofNat (i + 1))), .val (.long B), .second, .unset] [(.ref o)]))
          obtain ⟨T3, X3, e3, st3⟩ := getF X hx hZ hown (host := "") (Or.inl (hw _ (List.mem_of_getElem? (i := 13) rfl))) Via.refl eT F1 (g := (mkF m 51 #[.val (.ref o), .val (.int f), .val (.int e'), .val (.int (Int32.ofNat (i + 1))), .val (.long B), .second, .unset] [(.ref o)])) rfl rfl (hb hby d3_51)
          refine Gd.go (fun _ w_k => st3 _ w_k) ?_
          show Gd _ _ _ _ (T3.setTop (mkF m 54 #[.val (.ref o), .val (.int f), .val (.int e'), .val (.int (Int32.ofNat (i + 1))), .val (.long B), .second, .unset] [(.ref W)]))
          refine Gd.go (fun _ w_k => XS.iloadN X3.here hx rfl (hb hby d3_54) rfl w_k) ?_
          show Gd _ _ _ _ (T3.setTop (mkF m 55 #[.val (.ref o), .val (.int f), .val (.int e'), .val (.int (Int32.ofNat (i + 1))), .val (.long B), .second, .unset] [(.int (Int32.ofNat (i + 1))), (.ref W)]))
          refine Gd.go (fun _ w_k => own_ldJ X3 hx hZ e3 A1 (j := (Int32.ofNat (i + 1))) (by rw [own_ofN (by omega)]; omega) (by have := own_lt64 (by omega) hc2; rw [own_ofN (by omega)]; omega) (v := (.long (w (i + 1)))) (by rw [own_ofC (by omega)]) (g := (mkF m 55 #[.val (.ref o), .val (.int f), .val (.int e'), .val (.int (Int32.ofNat (i + 1))), .val (.long B), .second, .unset] [(.int (Int32.ofNat (i + 1))), (.ref W)])) rfl rfl (hb hby d3_55) _ w_k) ?_
          show Gd _ _ _ _ (T3.setTop (mkF m 56 #[.val (.ref o), .val (.int f), .val (.int e'), .val (.int (Int32.ofNat (i + 1))), .val (.long B), .second, .unset] [(.long (w (i + 1)))]))
          refine Gd.go (fun _ w_k => XS.lstore X3.here hx rfl (hb hby d3_56) rfl (l' := #[.val (.ref o), .val (.int f), .val (.int e'), .val (.int (Int32.ofNat (i + 1))), .val (.long (w (i + 1))), .second, .unset]) rfl w_k) ?_
          show Gd _ _ _ _ (T3.setTop (mkF m 58 #[.val (.ref o), .val (.int f), .val (.int e'), .val (.int (Int32.ofNat (i + 1))), .val (.long (w (i + 1))), .second, .unset] []))
          refine Gd.go (fun _ w_k => XS.goto X3.here hx rfl (pc0 := 58) (pc' := 26) rfl (hb hby d3_58) (by decide) (by decide) w_k) ?_
          show Gd _ _ _ _ (T3.setTop (mkF m 26 #[.val (.ref o), .val (.int f), .val (.int e'), .val (.int (Int32.ofNat (i + 1))), .val (.long (w (i + 1))), .second, .unset] []))
          exact ih (i + 1) (w (i + 1)) T3 (by omega) (by have := own_lt64 (by omega) hc2; omega) X3 e3 (own_inv_next hf I hc1)
        · refine Gd.go (fun _ w_k => XS.ifNo X.here hx rfl (hb hby d3_45) rfl ((if0 _ _).trans (flt (fun q => hc2 ((lw_lt _ _).mp q))).1) w_k) ?_
          show Gd _ _ _ _ (T.setTop (mkF m 48 #[.val (.ref o), .val (.int f), .val (.int e'), .val (.int (Int32.ofNat (i + 1))), .val (.long B), .second, .unset] []))
          refine Gd.go (fun _ w_k => XS.iconst X.here hx rfl (hb hby d3_48) w_k) ?_
          show Gd _ _ _ _ (T.setTop (mkF m 49 #[.val (.ref o), .val (.int f), .val (.int e'), .val (.int (Int32.ofNat (i + 1))), .val (.long B), .second, .unset] [(.int (-1 : Int32))]))
          refine own_retI X hx hret hlk (hb hby d3_49) ?_ (by decide) (by decide)
          exact ⟨⟨_, rfl, Or.inl ⟨rfl, fun j h1 h2 => own_inv_zero I hc1 j h1 (by have := own_ge64 (by omega) hc2; omega)⟩⟩, eT, rfl⟩
      · refine Gd.go (fun _ w_k => XS.ifYes X.here hx rfl (pc0 := 30) (pc' := 61) rfl (hb hby d3_30) rfl ((if0 _ _).trans (feq (fun q => hc1 ((lw_eq _ _).mp q))).2) (by decide) (by decide) w_k) ?_
        show Gd _ _ _ _ (T.setTop (mkF m 61 #[.val (.ref o), .val (.int f), .val (.int e'), .val (.int (Int32.ofNat i)), .val (.long B), .second, .unset] []))
        obtain ⟨kk, hk64, q5, q6, q1, q2, q3⟩ := own_deb B hc1
        refine Gd.go (fun _ w_k => XS.iloadN X.here hx rfl (hb hby d3_61) rfl w_k) ?_
        show Gd _ _ _ _ (T.setTop (mkF m 62 #[.val (.ref o), .val (.int f), .val (.int e'), .val (.int (Int32.ofNat i)), .val (.long B), .second, .unset] [(.int (Int32.ofNat i))]))
        refine Gd.go (fun _ w_k => XS.bipush X.here hx rfl (hb hby d3_62) w_k) ?_
        show Gd _ _ _ _ (T.setTop (mkF m 64 #[.val (.ref o), .val (.int f), .val (.int e'), .val (.int (Int32.ofNat i)), .val (.long B), .second, .unset] [(.int (64 : Int32)), (.int (Int32.ofNat i))]))
        refine Gd.go (fun _ w_k => XS.imul X.here hx rfl (hb hby d3_64) rfl w_k) ?_
        show Gd _ _ _ _ (T.setTop (mkF m 65 #[.val (.ref o), .val (.int f), .val (.int e'), .val (.int (Int32.ofNat i)), .val (.long B), .second, .unset] [(.int ((Int32.ofNat i) * (64 : Int32)))]))
        obtain ⟨T4, X4, e4, st4⟩ := getS2 X hx hZ hown (host := "") (Or.inl (hw _ (List.mem_of_getElem? (i := 30) rfl))) Via.refl eT S0 (g := (mkF m 65 #[.val (.ref o), .val (.int f), .val (.int e'), .val (.int (Int32.ofNat i)), .val (.long B), .second, .unset] [(.int ((Int32.ofNat i) * (64 : Int32)))])) rfl (hb hby d3_65)
        refine Gd.go (fun _ w_k => st4 _ w_k) ?_
        show Gd _ _ _ _ (T4.setTop (mkF m 68 #[.val (.ref o), .val (.int f), .val (.int e'), .val (.int (Int32.ofNat i)), .val (.long B), .second, .unset] [(.ref Lw), (.int ((Int32.ofNat i) * (64 : Int32)))]))
        refine Gd.go (fun _ w_k => XS.lload X4.here hx rfl (hb hby d3_68) rfl w_k) ?_
        show Gd _ _ _ _ (T4.setTop (mkF m 70 #[.val (.ref o), .val (.int f), .val (.int e'), .val (.int (Int32.ofNat i)), .val (.long B), .second, .unset] [(.long B), (.ref Lw), (.int ((Int32.ofNat i) * (64 : Int32)))]))
        refine Gd.go (fun _ w_k => XS.lload X4.here hx rfl (hb hby d3_70) rfl w_k) ?_
        show Gd _ _ _ _ (T4.setTop (mkF m 72 #[.val (.ref o), .val (.int f), .val (.int e'), .val (.int (Int32.ofNat i)), .val (.long B), .second, .unset] [(.long B), (.long B), (.ref Lw), (.int ((Int32.ofNat i) * (64 : Int32)))]))
        refine Gd.go (fun _ w_k => XS.lneg X4.here hx rfl (hb hby d3_72) rfl w_k) ?_
        show Gd _ _ _ _ (T4.setTop (mkF m 73 #[.val (.ref o), .val (.int f), .val (.int e'), .val (.int (Int32.ofNat i)), .val (.long B), .second, .unset] [(.long (-B)), (.long B), (.ref Lw), (.int ((Int32.ofNat i) * (64 : Int32)))]))
        refine Gd.go (fun _ w_k => XS.land X4.here hx rfl (hb hby d3_73) rfl w_k) ?_
        show Gd _ _ _ _ (T4.setTop (mkF m 74 #[.val (.ref o), .val (.int f), .val (.int e'), .val (.int (Int32.ofNat i)), .val (.long B), .second, .unset] [(.long (B &&& (-B))), (.ref Lw), (.int ((Int32.ofNat i) * (64 : Int32)))]))
        refine Gd.go (fun _ w_k => X4.ldc2Long hx hown (mvT hZ (hw _ (List.mem_of_getElem? (i := 32) rfl))) (g := (mkF m 74 #[.val (.ref o), .val (.int f), .val (.int e'), .val (.int (Int32.ofNat i)), .val (.long B), .second, .unset] [(.long (B &&& (-B))), (.ref Lw), (.int ((Int32.ofNat i) * (64 : Int32)))])) rfl (hb hby d3_74) _ w_k) ?_
        show Gd _ _ _ _ (T4.setTop (mkF m 77 #[.val (.ref o), .val (.int f), .val (.int e'), .val (.int (Int32.ofNat i)), .val (.long B), .second, .unset] [(.long (285870213051386505 : Int64)), (.long (B &&& (-B))), (.ref Lw), (.int ((Int32.ofNat i) * (64 : Int32)))]))
        refine Gd.go (fun _ w_k => XS.lmul X4.here hx rfl (hb hby d3_77) rfl w_k) ?_
        show Gd _ _ _ _ (T4.setTop (mkF m 78 #[.val (.ref o), .val (.int f), .val (.int e'), .val (.int (Int32.ofNat i)), .val (.long B), .second, .unset] [(.long ((B &&& (-B)) * (285870213051386505 : Int64))), (.ref Lw), (.int ((Int32.ofNat i) * (64 : Int32)))]))
        refine Gd.go (fun _ w_k => XS.bipush X4.here hx rfl (hb hby d3_78) w_k) ?_
        show Gd _ _ _ _ (T4.setTop (mkF m 80 #[.val (.ref o), .val (.int f), .val (.int e'), .val (.int (Int32.ofNat i)), .val (.long B), .second, .unset] [(.int (58 : Int32)), (.long ((B &&& (-B)) * (285870213051386505 : Int64))), (.ref Lw), (.int ((Int32.ofNat i) * (64 : Int32)))]))
        refine Gd.go (fun _ w_k => XS.lushr X4.here hx rfl (hb hby d3_80) rfl w_k) ?_
        show Gd _ _ _ _ (T4.setTop (mkF m 81 #[.val (.ref o), .val (.int f), .val (.int e'), .val (.int (Int32.ofNat i)), .val (.long B), .second, .unset] [(.long ((((B &&& (-B)) * (285870213051386505 : Int64)).toUInt64 >>> ((58 : Int32) &&& 0x3f).toInt64.toUInt64).toInt64)), (.ref Lw), (.int ((Int32.ofNat i) * (64 : Int32)))]))
        refine Gd.go (fun _ w_k => XS.l2i X4.here hx rfl (hb hby d3_81) rfl w_k) ?_
        show Gd _ _ _ _ (T4.setTop (mkF m 82 #[.val (.ref o), .val (.int f), .val (.int e'), .val (.int (Int32.ofNat i)), .val (.long B), .second, .unset] [(.int (((((B &&& (-B)) * (285870213051386505 : Int64)).toUInt64 >>> ((58 : Int32) &&& 0x3f).toInt64.toUInt64).toInt64).toInt32)), (.ref Lw), (.int ((Int32.ofNat i) * (64 : Int32)))]))
        refine Gd.go (fun _ w_k => own_ldB X4 hx hZ e4 A0 (j := (((((B &&& (-B)) * (285870213051386505 : Int64)).toUInt64 >>> ((58 : Int32) &&& 0x3f).toInt64.toUInt64).toInt64).toInt32)) q1 q2 (v := (.int (Int32.ofNat kk))) (congrArg Value.int q3) (g := (mkF m 82 #[.val (.ref o), .val (.int f), .val (.int e'), .val (.int (Int32.ofNat i)), .val (.long B), .second, .unset] [(.int (((((B &&& (-B)) * (285870213051386505 : Int64)).toUInt64 >>> ((58 : Int32) &&& 0x3f).toInt64.toUInt64).toInt64).toInt32)), (.ref Lw), (.int ((Int32.ofNat i) * (64 : Int32)))])) rfl rfl (hb hby d3_82) _ w_k) ?_
        show Gd _ _ _ _ (T4.setTop (mkF m 83 #[.val (.ref o), .val (.int f), .val (.int e'), .val (.int (Int32.ofNat i)), .val (.long B), .second, .unset] [(.int (Int32.ofNat kk)), (.int ((Int32.ofNat i) * (64 : Int32)))]))
        refine Gd.go (fun _ w_k => XS.iadd X4.here hx rfl (hb hby d3_83) rfl w_k) ?_
        show Gd _ _ _ _ (T4.setTop (mkF m 84 #[.val (.ref o), .val (.int f), .val (.int e'), .val (.int (Int32.ofNat i)), .val (.long B), .second, .unset] [(.int (((Int32.ofNat i) * (64 : Int32)) + (Int32.ofNat kk)))]))
        rw [own_at64 (by omega) hk64]
        show Gd _ _ _ _ (T4.setTop (mkF m 84 #[.val (.ref o), .val (.int f), .val (.int e'), .val (.int (Int32.ofNat i)), .val (.long B), .second, .unset] [(.int (Int32.ofNat (64 * i + kk)))]))
        refine Gd.go (fun _ w_k => XS.istore X4.here hx rfl (hb hby d3_84) rfl (l' := #[.val (.ref o), .val (.int f), .val (.int e'), .val (.int (Int32.ofNat i)), .val (.long B), .second, .val (.int (Int32.ofNat (64 * i + kk)))]) rfl w_k) ?_
        show Gd _ _ _ _ (T4.setTop (mkF m 86 #[.val (.ref o), .val (.int f), .val (.int e'), .val (.int (Int32.ofNat i)), .val (.long B), .second, .val (.int (Int32.ofNat (64 * i + kk)))] []))
        refine Gd.go (fun _ w_k => XS.iload X4.here hx rfl (hb hby d3_86) rfl w_k) ?_
        show Gd _ _ _ _ (T4.setTop (mkF m 88 #[.val (.ref o), .val (.int f), .val (.int e'), .val (.int (Int32.ofNat i)), .val (.long B), .second, .val (.int (Int32.ofNat (64 * i + kk)))] [(.int (Int32.ofNat (64 * i + kk)))]))
        refine Gd.go (fun _ w_k => XS.iloadN X4.here hx rfl (hb hby d3_88) rfl w_k) ?_
        show Gd _ _ _ _ (T4.setTop (mkF m 89 #[.val (.ref o), .val (.int f), .val (.int e'), .val (.int (Int32.ofNat i)), .val (.long B), .second, .val (.int (Int32.ofNat (64 * i + kk)))] [(.int e'), (.int (Int32.ofNat (64 * i + kk)))]))
        by_cases hc5 : (Int32.ofNat (64 * i + kk)) < e'
        · refine Gd.go (fun _ w_k => XS.icmpNo X4.here hx rfl (hb hby d3_89) rfl (tlt hc5).2.1 w_k) ?_
          show Gd _ _ _ _ (T4.setTop (mkF m 92 #[.val (.ref o), .val (.int f), .val (.int e'), .val (.int (Int32.ofNat i)), .val (.long B), .second, .val (.int (Int32.ofNat (64 * i + kk)))] []))
          refine Gd.go (fun _ w_k => XS.iload X4.here hx rfl (hb hby d3_92) rfl w_k) ?_
          show Gd _ _ _ _ (T4.setTop (mkF m 94 #[.val (.ref o), .val (.int f), .val (.int e'), .val (.int (Int32.ofNat i)), .val (.long B), .second, .val (.int (Int32.ofNat (64 * i + kk)))] [(.int (Int32.ofNat (64 * i + kk)))]))
          refine Gd.go (fun _ w_k => XS.goto X4.here hx rfl (pc0 := 94) (pc' := 98) rfl (hb hby d3_94) (by decide) (by decide) w_k) ?_
          show Gd _ _ _ _ (T4.setTop (mkF m 98 #[.val (.ref o), .val (.int f), .val (.int e'), .val (.int (Int32.ofNat i)), .val (.long B), .second, .val (.int (Int32.ofNat (64 * i + kk)))] [(.int (Int32.ofNat (64 * i + kk)))]))
          refine own_retI X4 hx hret hlk (hb hby d3_98) ?_ (by decide) (by decide)
          obtain ⟨r1, r2, r3⟩ := own_inv_hit I hk64 q5 q6
          have r4 := own_ofN (n := 64 * i + kk) (by omega)
          exact ⟨⟨_, rfl, Or.inr ⟨64 * i + kk, rfl, r1, by rw [Int32.lt_iff_toInt_lt] at hc5; omega, r2, r3⟩⟩, e4, rfl⟩
        · refine Gd.go (fun _ w_k => XS.icmpYes X4.here hx rfl (pc0 := 89) (pc' := 97) rfl (hb hby d3_89) rfl (flt hc5).2.1 (by decide) (by decide) w_k) ?_
          show Gd _ _ _ _ (T4.setTop (mkF m 97 #[.val (.ref o), .val (.int f), .val (.int e'), .val (.int (Int32.ofNat i)), .val (.long B), .second, .val (.int (Int32.ofNat (64 * i + kk)))] []))
          refine Gd.go (fun _ w_k => XS.iconst X4.here hx rfl (hb hby d3_97) w_k) ?_
          show Gd _ _ _ _ (T4.setTop (mkF m 98 #[.val (.ref o), .val (.int f), .val (.int e'), .val (.int (Int32.ofNat i)), .val (.long B), .second, .val (.int (Int32.ofNat (64 * i + kk)))] [(.int (-1 : Int32))]))
          refine own_retI X4 hx hret hlk (hb hby d3_98) ?_ (by decide) (by decide)
          obtain ⟨r1, r2, r3⟩ := own_inv_hit I hk64 q5 q6
          have r4 := own_ofN (n := 64 * i + kk) (by omega)
          exact ⟨⟨_, rfl, Or.inl ⟨rfl, fun j h1 h2 => r3 j h1 (by rw [Int32.lt_iff_toInt_lt] at hc5; omega)⟩⟩, e4, rfl⟩
  refine Gd.go (fun _ w_k => XS.iloadN X0.here hx rfl (hb hby d3_0) rfl w_k) ?_
  show Gd _ _ _ _ (s₁.setTop (mkF m 1 #[.val (.ref o), .val (.int f), .val (.int e'), .unset, .unset, .unset, .unset] [(.int f)]))
  refine Gd.go (fun _ w_k => XS.iloadN X0.here hx rfl (hb hby d3_1) rfl w_k) ?_
  show Gd _ _ _ _ (s₁.setTop (mkF m 2 #[.val (.ref o), .val (.int f), .val (.int e'), .unset, .unset, .unset, .unset] [(.int e'), (.int f)]))
  by_cases hc6 : f < e'
  · refine Gd.go (fun _ w_k => XS.icmpYes X0.here hx rfl (pc0 := 2) (pc' := 7) rfl (hb hby d3_2) rfl (tlt hc6).1 (by decide) (by decide) w_k) ?_
    show Gd _ _ _ _ (s₁.setTop (mkF m 7 #[.val (.ref o), .val (.int f), .val (.int e'), .unset, .unset, .unset, .unset] []))
    refine Gd.go (fun _ w_k => XS.iloadN X0.here hx rfl (hb hby d3_7) rfl w_k) ?_
    show Gd _ _ _ _ (s₁.setTop (mkF m 8 #[.val (.ref o), .val (.int f), .val (.int e'), .unset, .unset, .unset, .unset] [(.int f)]))
    refine Gd.go (fun _ w_k => XS.bipush X0.here hx rfl (hb hby d3_8) w_k) ?_
    show Gd _ _ _ _ (s₁.setTop (mkF m 10 #[.val (.ref o), .val (.int f), .val (.int e'), .unset, .unset, .unset, .unset] [(.int (64 : Int32)), (.int f)]))
    refine Gd.go (fun _ w_k => XS.idiv X0.here hx rfl (hb hby d3_10) rfl (by decide) w_k) ?_
    show Gd _ _ _ _ (s₁.setTop (mkF m 11 #[.val (.ref o), .val (.int f), .val (.int e'), .unset, .unset, .unset, .unset] [(.int (f / (64 : Int32)))]))
    refine Gd.go (fun _ w_k => XS.istoreN X0.here hx rfl (hb hby d3_11) rfl (l' := #[.val (.ref o), .val (.int f), .val (.int e'), .val (.int (f / (64 : Int32))), .unset, .unset, .unset]) rfl w_k) ?_
    show Gd _ _ _ _ (s₁.setTop (mkF m 12 #[.val (.ref o), .val (.int f), .val (.int e'), .val (.int (f / (64 : Int32))), .unset, .unset, .unset] []))
    have hlt := hc6
    rw [Int32.lt_iff_toInt_lt] at hlt
    have b1 : 0 ≤ (f / (64 : Int32)).toInt := by rw [own_div64 hf]; omega
    have b2 : (f / (64 : Int32)).toInt < N := by rw [own_div64 hf]; omega
    refine Gd.go (fun _ w_k => XS.aloadN X0.here hx rfl (hb hby d3_12) rfl rfl w_k) ?_
    show Gd _ _ _ _ (s₁.setTop (mkF m 13 #[.val (.ref o), .val (.int f), .val (.int e'), .val (.int (f / (64 : Int32))), .unset, .unset, .unset] [(.ref o)]))
    obtain ⟨T7, X7, e7, st7⟩ := getF X0 hx hZ hown (host := "") (Or.inl (hw _ (List.mem_of_getElem? (i := 13) rfl))) Via.refl e0 F1 (g := (mkF m 13 #[.val (.ref o), .val (.int f), .val (.int e'), .val (.int (f / (64 : Int32))), .unset, .unset, .unset] [(.ref o)])) rfl rfl (hb hby d3_13)
    refine Gd.go (fun _ w_k => st7 _ w_k) ?_
    show Gd _ _ _ _ (T7.setTop (mkF m 16 #[.val (.ref o), .val (.int f), .val (.int e'), .val (.int (f / (64 : Int32))), .unset, .unset, .unset] [(.ref W)]))
    refine Gd.go (fun _ w_k => XS.iloadN X7.here hx rfl (hb hby d3_16) rfl w_k) ?_
    show Gd _ _ _ _ (T7.setTop (mkF m 17 #[.val (.ref o), .val (.int f), .val (.int e'), .val (.int (f / (64 : Int32))), .unset, .unset, .unset] [(.int (f / (64 : Int32))), (.ref W)]))
    refine Gd.go (fun _ w_k => own_ldJ X7 hx hZ e7 A1 (j := (f / (64 : Int32))) b1 b2 (v := (.long (w (f / (64 : Int32)).toNatClampNeg))) rfl (g := (mkF m 17 #[.val (.ref o), .val (.int f), .val (.int e'), .val (.int (f / (64 : Int32))), .unset, .unset, .unset] [(.int (f / (64 : Int32))), (.ref W)])) rfl rfl (hb hby d3_17) _ w_k) ?_
    show Gd _ _ _ _ (T7.setTop (mkF m 18 #[.val (.ref o), .val (.int f), .val (.int e'), .val (.int (f / (64 : Int32))), .unset, .unset, .unset] [(.long (w (f / (64 : Int32)).toNatClampNeg))]))
    refine Gd.go (fun _ w_k => X7.ldc2Long hx hown (mvT hZ (hw _ (List.mem_of_getElem? (i := 29) rfl))) (g := (mkF m 18 #[.val (.ref o), .val (.int f), .val (.int e'), .val (.int (f / (64 : Int32))), .unset, .unset, .unset] [(.long (w (f / (64 : Int32)).toNatClampNeg))])) rfl (hb hby d3_18) _ w_k) ?_
    show Gd _ _ _ _ (T7.setTop (mkF m 21 #[.val (.ref o), .val (.int f), .val (.int e'), .val (.int (f / (64 : Int32))), .unset, .unset, .unset] [(.long (-1 : Int64)), (.long (w (f / (64 : Int32)).toNatClampNeg))]))
    refine Gd.go (fun _ w_k => XS.iloadN X7.here hx rfl (hb hby d3_21) rfl w_k) ?_
    show Gd _ _ _ _ (T7.setTop (mkF m 22 #[.val (.ref o), .val (.int f), .val (.int e'), .val (.int (f / (64 : Int32))), .unset, .unset, .unset] [(.int f), (.long (-1 : Int64)), (.long (w (f / (64 : Int32)).toNatClampNeg))]))
    refine Gd.go (fun _ w_k => XS.lshl X7.here hx rfl (hb hby d3_22) rfl w_k) ?_
    show Gd _ _ _ _ (T7.setTop (mkF m 23 #[.val (.ref o), .val (.int f), .val (.int e'), .val (.int (f / (64 : Int32))), .unset, .unset, .unset] [(.long ((-1 : Int64) <<< (f &&& 0x3f).toInt64)), (.long (w (f / (64 : Int32)).toNatClampNeg))]))
    refine Gd.go (fun _ w_k => XS.land X7.here hx rfl (hb hby d3_23) rfl w_k) ?_
    show Gd _ _ _ _ (T7.setTop (mkF m 24 #[.val (.ref o), .val (.int f), .val (.int e'), .val (.int (f / (64 : Int32))), .unset, .unset, .unset] [(.long ((w (f / (64 : Int32)).toNatClampNeg) &&& ((-1 : Int64) <<< (f &&& 0x3f).toInt64)))]))
    refine Gd.go (fun _ w_k => XS.lstore X7.here hx rfl (hb hby d3_24) rfl (l' := #[.val (.ref o), .val (.int f), .val (.int e'), .val (.int (f / (64 : Int32))), .val (.long ((w (f / (64 : Int32)).toNatClampNeg) &&& ((-1 : Int64) <<< (f &&& 0x3f).toInt64))), .second, .unset]) rfl w_k) ?_
    show Gd _ _ _ _ (T7.setTop (mkF m 26 #[.val (.ref o), .val (.int f), .val (.int e'), .val (.int (f / (64 : Int32))), .val (.long ((w (f / (64 : Int32)).toNatClampNeg) &&& ((-1 : Int64) <<< (f &&& 0x3f).toInt64))), .second, .unset] []))
    have ei : Int32.ofNat (f / (64 : Int32)).toNatClampNeg = f / (64 : Int32) := Int32.toInt_inj.mp (by have := own_nat b1; rw [own_ofN (by omega)]; omega)
    have g := loop (N - (f / (64 : Int32)).toNatClampNeg) (f / (64 : Int32)).toNatClampNeg _ T7 (by have := own_nat b1; omega) (by have := own_nat b1; omega) X7 e7 (own_inv0 hf)
    rw [ei] at g
    exact g
  · refine Gd.go (fun _ w_k => XS.icmpNo X0.here hx rfl (hb hby d3_2) rfl (flt hc6).1 w_k) ?_
    show Gd _ _ _ _ (s₁.setTop (mkF m 5 #[.val (.ref o), .val (.int f), .val (.int e'), .unset, .unset, .unset, .unset] []))
    refine Gd.go (fun _ w_k => XS.iconst X0.here hx rfl (hb hby d3_5) w_k) ?_
    show Gd _ _ _ _ (s₁.setTop (mkF m 6 #[.val (.ref o), .val (.int f), .val (.int e'), .unset, .unset, .unset, .unset] [(.int (-1 : Int32))]))
    refine own_retI X0 hx hret hlk (hb hby d3_6) ?_ (by decide) (by decide)
    exact ⟨⟨_, rfl, Or.inl ⟨rfl, fun j h1 h2 => absurd h1 (by rw [Int32.lt_iff_toInt_lt] at hc6; omega)⟩⟩, e0, rfl⟩
theorem own_size (x : Int32) : 0 ≤ ((x &&& 511) % 257).toInt ∧ ((x &&& 511) % 257).toInt ≤ 256 := by
  have h := c_mask x 511 9 (by decide) (by decide +kernel)
  have := (c_iremV (x &&& 511) 257).1 (by omega) (by decide); have : (257 : Int32).toInt = 257 := rfl; omega
theorem own_rem (x z : Int32) (hz : 0 < z) : 0 ≤ ((x &&& 2147483647) % z).toInt ∧ ((x &&& 2147483647) % z).toInt < z.toInt := by
  have h := c_mask x 2147483647 31 (by decide) (by decide +kernel)
  rw [Int32.lt_iff_toInt_lt] at hz; have : (0 : Int32).toInt = 0 := rfl
  have := (c_iremV (x &&& 2147483647) z).1 (by omega) (by omega); omega
theorem own_plus1 {z : Int32} (hz : 0 ≤ z.toInt ∧ z.toInt ≤ 256) : (z + 1).toInt = z.toInt + 1 := by
  have := c_iadd z 1; have e1 : (1 : Int32).toInt = 1 := rfl; have := rng32 (z + 1); omega
theorem own_pos1 {z : Int32} (hz : 0 ≤ z.toInt ∧ z.toInt ≤ 256) : 0 < z + 1 := by rw [Int32.lt_iff_toInt_lt, own_plus1 hz]; have : (0 : Int32).toInt = 0 := rfl; omega
theorem own_nz {z : Int32} (hz : 0 < z) : z ≠ 0 := fun q => by subst q; exact absurd hz (by decide)
theorem own_at (x z : Int32) (hz : 0 ≤ z.toInt ∧ z.toInt ≤ 256) : 0 ≤ ((x &&& 2147483647) % (z + 1)).toInt ∧ ((x &&& 2147483647) % (z + 1)).toInt ≤ z.toInt := by
  have := own_rem x (z + 1) (own_pos1 hz); rw [own_plus1 hz] at this; omega
def own_in1 (o i : Int32) (j : Nat) : Bool := decide (¬ o = 0) && decide (j = i.toInt.toNat)
def own_M (f e : Int) (b : Int32) (S : Int → Prop) : Prop := (b = -1 ∧ ∀ t, S t → f ≤ t → t < e → False) ∨ (S b.toInt ∧ f ≤ b.toInt ∧ b.toInt < e ∧ ∀ t, S t → f ≤ t → t < e → b.toInt ≤ t)
theorem own_em : (-1 : Int32).toInt = -1 := rfl
theorem own_M_pick {f e b o i : Int32} {S : Int → Prop} (hf : 0 ≤ f.toInt) (H : own_M f.toInt e.toInt b S) : own_M f.toInt e.toInt (own_pick b o i f e) (fun t => S t ∨ (¬ o = 0 ∧ t = i.toInt)) := by
  have same : (¬ o = 0 → f.toInt ≤ i.toInt → i.toInt < e.toInt → ¬ b = -1 ∧ b.toInt ≤ i.toInt) → own_M f.toInt e.toInt b (fun t => S t ∨ (¬ o = 0 ∧ t = i.toInt)) := by
    intro g
    rcases H with ⟨h1, h2⟩ | ⟨h1, h2, h3, h4⟩
    · refine Or.inl ⟨h1, fun t ht g1 g2 => ?_⟩
      rcases ht with ht | ⟨q, rfl⟩
      · exact h2 t ht g1 g2
      · exact (g q g1 g2).1 h1
    · refine Or.inr ⟨Or.inl h1, h2, h3, fun t ht g1 g2 => ?_⟩
      rcases ht with ht | ⟨q, rfl⟩
      · exact h4 t ht g1 g2
      · exact (g q g1 g2).2
  unfold own_pick
  by_cases q : o = 0
  · rw [if_pos q]; exact same (fun n => absurd q n)
  · rw [if_neg q]
    by_cases u : i < f
    · rw [if_pos u]; rw [Int32.lt_iff_toInt_lt] at u; exact same (fun _ g _ => by omega)
    · rw [if_neg u]; rw [Int32.lt_iff_toInt_lt] at u
      by_cases u2 : i < e
      · rw [if_pos u2]; rw [Int32.lt_iff_toInt_lt] at u2
        by_cases u3 : b = -1
        · rw [if_pos u3]
          refine Or.inr ⟨Or.inr ⟨q, rfl⟩, by omega, u2, fun t ht g1 g2 => ?_⟩
          rcases ht with ht | ⟨_, rfl⟩
          · rcases H with ⟨h1, h2⟩ | ⟨h1, h2, h3, h4⟩
            · exact absurd (h2 t ht g1 g2) id
            · rw [u3, own_em] at h2; omega
          · omega
        · rw [if_neg u3]
          by_cases u4 : i < b
          · rw [if_pos u4]; rw [Int32.lt_iff_toInt_lt] at u4
            refine Or.inr ⟨Or.inr ⟨q, rfl⟩, by omega, u2, fun t ht g1 g2 => ?_⟩
            rcases ht with ht | ⟨_, rfl⟩
            · rcases H with ⟨h1, h2⟩ | ⟨h1, h2, h3, h4⟩
              · exact absurd h1 u3
              · have := h4 t ht g1 g2; omega
            · omega
          · rw [if_neg u4]; rw [Int32.lt_iff_toInt_lt] at u4; exact same (fun _ _ _ => ⟨u3, by omega⟩)
      · rw [if_neg u2]; rw [Int32.lt_iff_toInt_lt] at u2; exact same (fun _ _ g => by omega)
theorem own_M_uniq {f e : Int} {b b' : Int32} {S : Int → Prop} (hf : 0 ≤ f) (H : own_M f e b S) (H' : own_M f e b' S) : b = b' := by
  rcases H with ⟨h1, h2⟩ | ⟨h1, h2, h3, h4⟩ <;> rcases H' with ⟨k1, k2⟩ | ⟨k1, k2, k3, k4⟩
  · rw [h1, k1]
  · exact absurd (h2 _ k1 k2 k3) id
  · exact absurd (k2 _ h1 h2 h3) id
  · have := h4 _ k1 k2 k3; have := k4 _ h1 h2 h3; exact Int32.toInt_inj.mp (by omega)
theorem own_final {w : Nat → Int64} {f e v o1 i1 o2 i2 o3 i3 : Int32} (hf : 0 ≤ f.toInt) (h1 : 0 ≤ i1.toInt) (h2 : 0 ≤ i2.toInt) (h3 : 0 ≤ i3.toInt) (R : own_res w f.toInt e.toInt v) (Hw : ∀ j, own_bit w j = (own_in1 o1 i1 j || own_in1 o2 i2 j || own_in1 o3 i3 j)) :
    v = own_pick (own_pick (own_pick (-1) o1 i1 f e) o2 i2 f e) o3 i3 f e := by
  have P := own_M_pick (o := o3) (i := i3) hf (own_M_pick (o := o2) (i := i2) hf (own_M_pick (o := o1) (i := i1) hf (show own_M f.toInt e.toInt (-1) (fun _ => False) from Or.inl ⟨rfl, fun _ h _ _ => h⟩)))
  refine own_M_uniq hf ?_ P
  have hS : ∀ t : Int, 0 ≤ t → ((((False ∨ (¬ o1 = 0 ∧ t = i1.toInt)) ∨ (¬ o2 = 0 ∧ t = i2.toInt)) ∨ (¬ o3 = 0 ∧ t = i3.toInt)) ↔ own_bit w t.toNat = true) := by
    intro t ht
    have c : ∀ i : Int32, 0 ≤ i.toInt → (t = i.toInt ↔ t.toNat = i.toInt.toNat) := fun i hi => by omega
    rw [Hw]
    simp only [own_in1, Bool.or_eq_true, Bool.and_eq_true, decide_eq_true_eq, false_or, c i1 h1, c i2 h2, c i3 h3]
  rcases R with ⟨rfl, R⟩ | ⟨j, rfl, r1, r2, r3, r4⟩
  · refine Or.inl ⟨rfl, fun t ht g1 g2 => ?_⟩
    have := (hS t (by omega)).mp ht
    rw [R t.toNat (by omega) (by omega)] at this; cases this
  · have hj : (Int32.ofNat j).toInt = (j : Int) := own_ofN (by have := rng32 e; omega)
    refine Or.inr ⟨(hS _ (by omega)).mpr (by rw [hj]; exact r3), by omega, by omega, fun t ht g1 g2 => ?_⟩
    refine Classical.byContradiction fun q => ?_
    have := (hS t (by omega)).mp ht
    rw [r4 t.toNat (by omega) (by omega)] at this; cases this
theorem own_pn4 : plainFor x = true := by first | exact plainFor_of_name (by first | (simp [plainName, overriddenIn, x]; done) | decide +kernel) | decide +kernel
theorem ef_0 (m : MethodId) (q0 : Int32) (q1 : Int32) (q2 : Int32) (q3 : Int32) (q4 : Int32) (q5 : Int32) : entryFrame m #[(.int q0), (.int q1), (.int q2), (.int q3), (.int q4), (.int q5)] maxLocals = mkF m 0 #[.val (.int q0), .val (.int q1), .val (.int q2), .val (.int q3), .val (.int q4), .val (.int q5), .unset, .unset, .unset, .unset, .unset, .unset, .unset, .unset, .unset, .unset, .unset, .unset] [] := by first | (simp [entryFrame, mkF, argsToLocals, Value.category, maxLocals]; done) | rfl
theorem own_fit {z i : Int32} (hz : 0 ≤ z.toInt ∧ z.toInt ≤ 256) (h : i.toInt < z.toInt) : i.toInt < 64 * (((z + (63 : Int32)) / (64 : Int32)).toNatClampNeg : Int) := by
  have := own_words hz; have := own_nat (j := ((z + (63 : Int32)) / (64 : Int32))) (by omega); omega
theorem own_fit2 {z i : Int32} (hz : 0 ≤ z.toInt ∧ z.toInt ≤ 256) (h : i.toInt ≤ z.toInt) : i.toInt ≤ 64 * (((z + (63 : Int32)) / (64 : Int32)).toNatClampNeg : Int) := by
  have := own_words hz; have := own_nat (j := ((z + (63 : Int32)) / (64 : Int32))) (by omega); omega
theorem own_big {z : Int32} (hz : 0 ≤ z.toInt ∧ z.toInt ≤ 256) : ((z + (63 : Int32)) / (64 : Int32)).toNatClampNeg < 2 ^ 20 := Nat.lt_of_le_of_lt (own_words4 hz) (by decide)
theorem own_pd0 : parseMethodDescriptor "(I)V" = some ⟨[.int], none⟩ := by decide +kernel
theorem own_pd1 : parseMethodDescriptor "(II)I" = some ⟨[.int, .int], some .int⟩ := by decide +kernel
theorem own_pd2 : parseMethodDescriptor "(IZIII)I" = some ⟨[.int, .boolean, .int, .int, .int], some .int⟩ := by decide +kernel
set_option maxRecDepth 65536 in
set_option maxHeartbeats 40000000 in
theorem own_law (l : Launch) (Z : State) (a0 : Array Value) (hw : ∀ d ∈ tables_1, d.before a0 Z = true) (r0 r1 r2 r3 r4 r5 : Int32) (Lw : Addr) (h0 : Heap) (n0 : Nat) (Z0 : n0 ≤ h0.size) (O0 : Old Z n0 h0) (S0 : Sta Z Z.heap "com/example/nearfield/nearfield/job/Bits" "LOWEST" "[B" (.ref Lw)) (A0 : ArF Z Z.heap Lw .byte 64 (fun i => .int (own_low i))) :
    Con l Z x code maxLocals ret tables_1 room_1 16 128 #[(.int r0), (.int r1), (.int r2), (.int r3), (.int r4), (.int r5)] h0 (fun v h L => v = some (.int 1) ∧ Fr n0 L) := by
  refine Con.of own_pn4 ?_
  intro pg ev s_ m bl mt cd s₁ hx hby hml hown hnm hret hlk hZ X0 e0
  rw [ef_0]
  show Gd _ _ _ _ (s₁.setTop (mkF m 0 #[.val (.int r0), .val (.int r1), .val (.int r2), .val (.int r3), .val (.int r4), .val (.int r5), .unset, .unset, .unset, .unset, .unset, .unset, .unset, .unset, .unset, .unset, .unset, .unset] []))
  have N0 := Fr.nil n0
  refine Gd.go (fun _ w_k => XS.iloadN X0.here hx rfl (hb hby at_0) rfl w_k) ?_
  show Gd _ _ _ _ (s₁.setTop (mkF m 1 #[.val (.int r0), .val (.int r1), .val (.int r2), .val (.int r3), .val (.int r4), .val (.int r5), .unset, .unset, .unset, .unset, .unset, .unset, .unset, .unset, .unset, .unset, .unset, .unset] [(.int r0)]))
  refine Gd.go (fun _ w_k => XS.sipush X0.here hx rfl (hb hby at_1) w_k) ?_
  show Gd _ _ _ _ (s₁.setTop (mkF m 4 #[.val (.int r0), .val (.int r1), .val (.int r2), .val (.int r3), .val (.int r4), .val (.int r5), .unset, .unset, .unset, .unset, .unset, .unset, .unset, .unset, .unset, .unset, .unset, .unset] [(.int (511 : Int32)), (.int r0)]))
  refine Gd.go (fun _ w_k => XS.iand X0.here hx rfl (hb hby at_4) rfl w_k) ?_
  show Gd _ _ _ _ (s₁.setTop (mkF m 5 #[.val (.int r0), .val (.int r1), .val (.int r2), .val (.int r3), .val (.int r4), .val (.int r5), .unset, .unset, .unset, .unset, .unset, .unset, .unset, .unset, .unset, .unset, .unset, .unset] [(.int (r0 &&& (511 : Int32)))]))
  refine Gd.go (fun _ w_k => XS.sipush X0.here hx rfl (hb hby at_5) w_k) ?_
  show Gd _ _ _ _ (s₁.setTop (mkF m 8 #[.val (.int r0), .val (.int r1), .val (.int r2), .val (.int r3), .val (.int r4), .val (.int r5), .unset, .unset, .unset, .unset, .unset, .unset, .unset, .unset, .unset, .unset, .unset, .unset] [(.int (257 : Int32)), (.int (r0 &&& (511 : Int32)))]))
  refine Gd.go (fun _ w_k => iremM (g := (mkF m 8 #[.val (.int r0), .val (.int r1), .val (.int r2), .val (.int r3), .val (.int r4), .val (.int r5), .unset, .unset, .unset, .unset, .unset, .unset, .unset, .unset, .unset, .unset, .unset, .unset] [(.int (257 : Int32)), (.int (r0 &&& (511 : Int32)))])) X0 hx rfl (hb hby at_8) rfl (by decide) w_k) ?_
  show Gd _ _ _ _ (s₁.setTop (mkF m 9 #[.val (.int r0), .val (.int r1), .val (.int r2), .val (.int r3), .val (.int r4), .val (.int r5), .unset, .unset, .unset, .unset, .unset, .unset, .unset, .unset, .unset, .unset, .unset, .unset] [(.int ((r0 &&& (511 : Int32)) % (257 : Int32)))]))
  have g_z := own_size r0
  generalize ((r0 &&& (511 : Int32)) % (257 : Int32)) = z at g_z ⊢
  show Gd _ _ _ _ (s₁.setTop (mkF m 9 #[.val (.int r0), .val (.int r1), .val (.int r2), .val (.int r3), .val (.int r4), .val (.int r5), .unset, .unset, .unset, .unset, .unset, .unset, .unset, .unset, .unset, .unset, .unset, .unset] [(.int z)]))
  refine Gd.go (fun _ w_k => XS.istore X0.here hx rfl (hb hby at_9) rfl (l' := #[.val (.int r0), .val (.int r1), .val (.int r2), .val (.int r3), .val (.int r4), .val (.int r5), .val (.int z), .unset, .unset, .unset, .unset, .unset, .unset, .unset, .unset, .unset, .unset, .unset]) rfl w_k) ?_
  show Gd _ _ _ _ (s₁.setTop (mkF m 11 #[.val (.int r0), .val (.int r1), .val (.int r2), .val (.int r3), .val (.int r4), .val (.int r5), .val (.int z), .unset, .unset, .unset, .unset, .unset, .unset, .unset, .unset, .unset, .unset, .unset] []))
  refine Gd.go (fun _ w_k => XS.iload X0.here hx rfl (hb hby at_11) rfl w_k) ?_
  show Gd _ _ _ _ (s₁.setTop (mkF m 13 #[.val (.int r0), .val (.int r1), .val (.int r2), .val (.int r3), .val (.int r4), .val (.int r5), .val (.int z), .unset, .unset, .unset, .unset, .unset, .unset, .unset, .unset, .unset, .unset, .unset] [(.int z)]))
  refine Gd.viaA (A := fun y : Int32 => y = 0 ∨ (0 : Int32) < z) (S' := fun y => s₁.setTop (mkF m 30 #[.val (.int r0), .val (.int r1), .val (.int r2), .val (.int r3), .val (.int r4), .val (.int r5), .val (.int z), .unset, .unset, .unset, .unset, .unset, .unset, .unset, .unset, .unset, .unset, .unset] [(.int y)])) (fun J => ?_) (fun y hy => ?_)
  · by_cases hc1 : (0 : Int32) < z
    · refine Gd.go (fun _ w_k => XS.ifNo X0.here hx rfl (hb hby at_13) rfl ((if0 _ _).trans (tlt hc1).2.2.2) w_k) ?_
      show Gd _ _ _ _ (s₁.setTop (mkF m 16 #[.val (.int r0), .val (.int r1), .val (.int r2), .val (.int r3), .val (.int r4), .val (.int r5), .val (.int z), .unset, .unset, .unset, .unset, .unset, .unset, .unset, .unset, .unset, .unset, .unset] []))
      refine Gd.go (fun _ w_k => XS.iloadN X0.here hx rfl (hb hby at_16) rfl w_k) ?_
      show Gd _ _ _ _ (s₁.setTop (mkF m 17 #[.val (.int r0), .val (.int r1), .val (.int r2), .val (.int r3), .val (.int r4), .val (.int r5), .val (.int z), .unset, .unset, .unset, .unset, .unset, .unset, .unset, .unset, .unset, .unset, .unset] [(.int r0)]))
      refine Gd.go (fun _ w_k => XS.bipush X0.here hx rfl (hb hby at_17) w_k) ?_
      show Gd _ _ _ _ (s₁.setTop (mkF m 19 #[.val (.int r0), .val (.int r1), .val (.int r2), .val (.int r3), .val (.int r4), .val (.int r5), .val (.int z), .unset, .unset, .unset, .unset, .unset, .unset, .unset, .unset, .unset, .unset, .unset] [(.int (9 : Int32)), (.int r0)]))
      refine Gd.go (fun _ w_k => XS.iushr X0.here hx rfl (hb hby at_19) rfl w_k) ?_
      show Gd _ _ _ _ (s₁.setTop (mkF m 20 #[.val (.int r0), .val (.int r1), .val (.int r2), .val (.int r3), .val (.int r4), .val (.int r5), .val (.int z), .unset, .unset, .unset, .unset, .unset, .unset, .unset, .unset, .unset, .unset, .unset] [(.int ((r0.toUInt32 >>> ((9 : Int32) &&& 31).toUInt32).toInt32))]))
      refine Gd.go (fun _ w_k => XS.iconst X0.here hx rfl (hb hby at_20) w_k) ?_
      show Gd _ _ _ _ (s₁.setTop (mkF m 21 #[.val (.int r0), .val (.int r1), .val (.int r2), .val (.int r3), .val (.int r4), .val (.int r5), .val (.int z), .unset, .unset, .unset, .unset, .unset, .unset, .unset, .unset, .unset, .unset, .unset] [(.int (1 : Int32)), (.int ((r0.toUInt32 >>> ((9 : Int32) &&& 31).toUInt32).toInt32))]))
      refine Gd.go (fun _ w_k => XS.iand X0.here hx rfl (hb hby at_21) rfl w_k) ?_
      show Gd _ _ _ _ (s₁.setTop (mkF m 22 #[.val (.int r0), .val (.int r1), .val (.int r2), .val (.int r3), .val (.int r4), .val (.int r5), .val (.int z), .unset, .unset, .unset, .unset, .unset, .unset, .unset, .unset, .unset, .unset, .unset] [(.int (((r0.toUInt32 >>> ((9 : Int32) &&& 31).toUInt32).toInt32) &&& (1 : Int32)))]))
      by_cases hc2 : (((r0.toUInt32 >>> ((9 : Int32) &&& 31).toUInt32).toInt32) &&& (1 : Int32)) = (0 : Int32)
      · refine Gd.go (fun _ w_k => XS.ifYes X0.here hx rfl (pc0 := 22) (pc' := 29) rfl (hb hby at_22) rfl ((if0 _ _).trans (teq hc2).1) (by decide) (by decide) w_k) ?_
        show Gd _ _ _ _ (s₁.setTop (mkF m 29 #[.val (.int r0), .val (.int r1), .val (.int r2), .val (.int r3), .val (.int r4), .val (.int r5), .val (.int z), .unset, .unset, .unset, .unset, .unset, .unset, .unset, .unset, .unset, .unset, .unset] []))
        refine Gd.go (fun _ w_k => XS.iconst X0.here hx rfl (hb hby at_29) w_k) ?_
        show Gd _ _ _ _ (s₁.setTop (mkF m 30 #[.val (.int r0), .val (.int r1), .val (.int r2), .val (.int r3), .val (.int r4), .val (.int r5), .val (.int z), .unset, .unset, .unset, .unset, .unset, .unset, .unset, .unset, .unset, .unset, .unset] [(.int (0 : Int32))]))
        exact J _ (Or.inl rfl)
      · refine Gd.go (fun _ w_k => XS.ifNo X0.here hx rfl (hb hby at_22) rfl ((if0 _ _).trans (feq hc2).1) w_k) ?_
        show Gd _ _ _ _ (s₁.setTop (mkF m 25 #[.val (.int r0), .val (.int r1), .val (.int r2), .val (.int r3), .val (.int r4), .val (.int r5), .val (.int z), .unset, .unset, .unset, .unset, .unset, .unset, .unset, .unset, .unset, .unset, .unset] []))
        refine Gd.go (fun _ w_k => XS.iconst X0.here hx rfl (hb hby at_25) w_k) ?_
        show Gd _ _ _ _ (s₁.setTop (mkF m 26 #[.val (.int r0), .val (.int r1), .val (.int r2), .val (.int r3), .val (.int r4), .val (.int r5), .val (.int z), .unset, .unset, .unset, .unset, .unset, .unset, .unset, .unset, .unset, .unset, .unset] [(.int (1 : Int32))]))
        refine Gd.go (fun _ w_k => XS.goto X0.here hx rfl (pc0 := 26) (pc' := 30) rfl (hb hby at_26) (by decide) (by decide) w_k) ?_
        show Gd _ _ _ _ (s₁.setTop (mkF m 30 #[.val (.int r0), .val (.int r1), .val (.int r2), .val (.int r3), .val (.int r4), .val (.int r5), .val (.int z), .unset, .unset, .unset, .unset, .unset, .unset, .unset, .unset, .unset, .unset, .unset] [(.int (1 : Int32))]))
        exact J _ (Or.inr hc1)
    · refine Gd.go (fun _ w_k => XS.ifYes X0.here hx rfl (pc0 := 13) (pc' := 29) rfl (hb hby at_13) rfl ((if0 _ _).trans (flt hc1).2.2.2) (by decide) (by decide) w_k) ?_
      show Gd _ _ _ _ (s₁.setTop (mkF m 29 #[.val (.int r0), .val (.int r1), .val (.int r2), .val (.int r3), .val (.int r4), .val (.int r5), .val (.int z), .unset, .unset, .unset, .unset, .unset, .unset, .unset, .unset, .unset, .unset, .unset] []))
      refine Gd.go (fun _ w_k => XS.iconst X0.here hx rfl (hb hby at_29) w_k) ?_
      show Gd _ _ _ _ (s₁.setTop (mkF m 30 #[.val (.int r0), .val (.int r1), .val (.int r2), .val (.int r3), .val (.int r4), .val (.int r5), .val (.int z), .unset, .unset, .unset, .unset, .unset, .unset, .unset, .unset, .unset, .unset, .unset] [(.int (0 : Int32))]))
      exact J _ (Or.inl rfl)
  obtain ⟨oA, eyoA⟩ : ∃ q, q = y := ⟨_, rfl⟩
  rw [← eyoA] at hy ⊢
  have g_oA := hy
  show Gd _ _ _ _ (s₁.setTop (mkF m 30 #[.val (.int r0), .val (.int r1), .val (.int r2), .val (.int r3), .val (.int r4), .val (.int r5), .val (.int z), .unset, .unset, .unset, .unset, .unset, .unset, .unset, .unset, .unset, .unset, .unset] [(.int oA)]))
  refine Gd.go (fun _ w_k => XS.istore X0.here hx rfl (hb hby at_30) rfl (l' := #[.val (.int r0), .val (.int r1), .val (.int r2), .val (.int r3), .val (.int r4), .val (.int r5), .val (.int z), .val (.int oA), .unset, .unset, .unset, .unset, .unset, .unset, .unset, .unset, .unset, .unset]) rfl w_k) ?_
  show Gd _ _ _ _ (s₁.setTop (mkF m 32 #[.val (.int r0), .val (.int r1), .val (.int r2), .val (.int r3), .val (.int r4), .val (.int r5), .val (.int z), .val (.int oA), .unset, .unset, .unset, .unset, .unset, .unset, .unset, .unset, .unset, .unset] []))
  refine Gd.go (fun _ w_k => XS.iload X0.here hx rfl (hb hby at_32) rfl w_k) ?_
  show Gd _ _ _ _ (s₁.setTop (mkF m 34 #[.val (.int r0), .val (.int r1), .val (.int r2), .val (.int r3), .val (.int r4), .val (.int r5), .val (.int z), .val (.int oA), .unset, .unset, .unset, .unset, .unset, .unset, .unset, .unset, .unset, .unset] [(.int z)]))
  refine Gd.viaA (A := fun y : Int32 => y = 0 ∨ (0 : Int32) < z) (S' := fun y => s₁.setTop (mkF m 51 #[.val (.int r0), .val (.int r1), .val (.int r2), .val (.int r3), .val (.int r4), .val (.int r5), .val (.int z), .val (.int oA), .unset, .unset, .unset, .unset, .unset, .unset, .unset, .unset, .unset, .unset] [(.int y)])) (fun J => ?_) (fun y hy => ?_)
  · by_cases hc3 : (0 : Int32) < z
    · refine Gd.go (fun _ w_k => XS.ifNo X0.here hx rfl (hb hby at_34) rfl ((if0 _ _).trans (tlt hc3).2.2.2) w_k) ?_
      show Gd _ _ _ _ (s₁.setTop (mkF m 37 #[.val (.int r0), .val (.int r1), .val (.int r2), .val (.int r3), .val (.int r4), .val (.int r5), .val (.int z), .val (.int oA), .unset, .unset, .unset, .unset, .unset, .unset, .unset, .unset, .unset, .unset] []))
      refine Gd.go (fun _ w_k => XS.iloadN X0.here hx rfl (hb hby at_37) rfl w_k) ?_
      show Gd _ _ _ _ (s₁.setTop (mkF m 38 #[.val (.int r0), .val (.int r1), .val (.int r2), .val (.int r3), .val (.int r4), .val (.int r5), .val (.int z), .val (.int oA), .unset, .unset, .unset, .unset, .unset, .unset, .unset, .unset, .unset, .unset] [(.int r0)]))
      refine Gd.go (fun _ w_k => XS.bipush X0.here hx rfl (hb hby at_38) w_k) ?_
      show Gd _ _ _ _ (s₁.setTop (mkF m 40 #[.val (.int r0), .val (.int r1), .val (.int r2), .val (.int r3), .val (.int r4), .val (.int r5), .val (.int z), .val (.int oA), .unset, .unset, .unset, .unset, .unset, .unset, .unset, .unset, .unset, .unset] [(.int (10 : Int32)), (.int r0)]))
      refine Gd.go (fun _ w_k => XS.iushr X0.here hx rfl (hb hby at_40) rfl w_k) ?_
      show Gd _ _ _ _ (s₁.setTop (mkF m 41 #[.val (.int r0), .val (.int r1), .val (.int r2), .val (.int r3), .val (.int r4), .val (.int r5), .val (.int z), .val (.int oA), .unset, .unset, .unset, .unset, .unset, .unset, .unset, .unset, .unset, .unset] [(.int ((r0.toUInt32 >>> ((10 : Int32) &&& 31).toUInt32).toInt32))]))
      refine Gd.go (fun _ w_k => XS.iconst X0.here hx rfl (hb hby at_41) w_k) ?_
      show Gd _ _ _ _ (s₁.setTop (mkF m 42 #[.val (.int r0), .val (.int r1), .val (.int r2), .val (.int r3), .val (.int r4), .val (.int r5), .val (.int z), .val (.int oA), .unset, .unset, .unset, .unset, .unset, .unset, .unset, .unset, .unset, .unset] [(.int (1 : Int32)), (.int ((r0.toUInt32 >>> ((10 : Int32) &&& 31).toUInt32).toInt32))]))
      refine Gd.go (fun _ w_k => XS.iand X0.here hx rfl (hb hby at_42) rfl w_k) ?_
      show Gd _ _ _ _ (s₁.setTop (mkF m 43 #[.val (.int r0), .val (.int r1), .val (.int r2), .val (.int r3), .val (.int r4), .val (.int r5), .val (.int z), .val (.int oA), .unset, .unset, .unset, .unset, .unset, .unset, .unset, .unset, .unset, .unset] [(.int (((r0.toUInt32 >>> ((10 : Int32) &&& 31).toUInt32).toInt32) &&& (1 : Int32)))]))
      by_cases hc4 : (((r0.toUInt32 >>> ((10 : Int32) &&& 31).toUInt32).toInt32) &&& (1 : Int32)) = (0 : Int32)
      · refine Gd.go (fun _ w_k => XS.ifYes X0.here hx rfl (pc0 := 43) (pc' := 50) rfl (hb hby at_43) rfl ((if0 _ _).trans (teq hc4).1) (by decide) (by decide) w_k) ?_
        show Gd _ _ _ _ (s₁.setTop (mkF m 50 #[.val (.int r0), .val (.int r1), .val (.int r2), .val (.int r3), .val (.int r4), .val (.int r5), .val (.int z), .val (.int oA), .unset, .unset, .unset, .unset, .unset, .unset, .unset, .unset, .unset, .unset] []))
        refine Gd.go (fun _ w_k => XS.iconst X0.here hx rfl (hb hby at_50) w_k) ?_
        show Gd _ _ _ _ (s₁.setTop (mkF m 51 #[.val (.int r0), .val (.int r1), .val (.int r2), .val (.int r3), .val (.int r4), .val (.int r5), .val (.int z), .val (.int oA), .unset, .unset, .unset, .unset, .unset, .unset, .unset, .unset, .unset, .unset] [(.int (0 : Int32))]))
        exact J _ (Or.inl rfl)
      · refine Gd.go (fun _ w_k => XS.ifNo X0.here hx rfl (hb hby at_43) rfl ((if0 _ _).trans (feq hc4).1) w_k) ?_
        show Gd _ _ _ _ (s₁.setTop (mkF m 46 #[.val (.int r0), .val (.int r1), .val (.int r2), .val (.int r3), .val (.int r4), .val (.int r5), .val (.int z), .val (.int oA), .unset, .unset, .unset, .unset, .unset, .unset, .unset, .unset, .unset, .unset] []))
        refine Gd.go (fun _ w_k => XS.iconst X0.here hx rfl (hb hby at_46) w_k) ?_
        show Gd _ _ _ _ (s₁.setTop (mkF m 47 #[.val (.int r0), .val (.int r1), .val (.int r2), .val (.int r3), .val (.int r4), .val (.int r5), .val (.int z), .val (.int oA), .unset, .unset, .unset, .unset, .unset, .unset, .unset, .unset, .unset, .unset] [(.int (1 : Int32))]))
        refine Gd.go (fun _ w_k => XS.goto X0.here hx rfl (pc0 := 47) (pc' := 51) rfl (hb hby at_47) (by decide) (by decide) w_k) ?_
        show Gd _ _ _ _ (s₁.setTop (mkF m 51 #[.val (.int r0), .val (.int r1), .val (.int r2), .val (.int r3), .val (.int r4), .val (.int r5), .val (.int z), .val (.int oA), .unset, .unset, .unset, .unset, .unset, .unset, .unset, .unset, .unset, .unset] [(.int (1 : Int32))]))
        exact J _ (Or.inr hc3)
    · refine Gd.go (fun _ w_k => XS.ifYes X0.here hx rfl (pc0 := 34) (pc' := 50) rfl (hb hby at_34) rfl ((if0 _ _).trans (flt hc3).2.2.2) (by decide) (by decide) w_k) ?_
      show Gd _ _ _ _ (s₁.setTop (mkF m 50 #[.val (.int r0), .val (.int r1), .val (.int r2), .val (.int r3), .val (.int r4), .val (.int r5), .val (.int z), .val (.int oA), .unset, .unset, .unset, .unset, .unset, .unset, .unset, .unset, .unset, .unset] []))
      refine Gd.go (fun _ w_k => XS.iconst X0.here hx rfl (hb hby at_50) w_k) ?_
      show Gd _ _ _ _ (s₁.setTop (mkF m 51 #[.val (.int r0), .val (.int r1), .val (.int r2), .val (.int r3), .val (.int r4), .val (.int r5), .val (.int z), .val (.int oA), .unset, .unset, .unset, .unset, .unset, .unset, .unset, .unset, .unset, .unset] [(.int (0 : Int32))]))
      exact J _ (Or.inl rfl)
  obtain ⟨oB, eyoB⟩ : ∃ q, q = y := ⟨_, rfl⟩
  rw [← eyoB] at hy ⊢
  have g_oB := hy
  show Gd _ _ _ _ (s₁.setTop (mkF m 51 #[.val (.int r0), .val (.int r1), .val (.int r2), .val (.int r3), .val (.int r4), .val (.int r5), .val (.int z), .val (.int oA), .unset, .unset, .unset, .unset, .unset, .unset, .unset, .unset, .unset, .unset] [(.int oB)]))
  refine Gd.go (fun _ w_k => XS.istore X0.here hx rfl (hb hby at_51) rfl (l' := #[.val (.int r0), .val (.int r1), .val (.int r2), .val (.int r3), .val (.int r4), .val (.int r5), .val (.int z), .val (.int oA), .val (.int oB), .unset, .unset, .unset, .unset, .unset, .unset, .unset, .unset, .unset]) rfl w_k) ?_
  show Gd _ _ _ _ (s₁.setTop (mkF m 53 #[.val (.int r0), .val (.int r1), .val (.int r2), .val (.int r3), .val (.int r4), .val (.int r5), .val (.int z), .val (.int oA), .val (.int oB), .unset, .unset, .unset, .unset, .unset, .unset, .unset, .unset, .unset] []))
  refine Gd.go (fun _ w_k => XS.iload X0.here hx rfl (hb hby at_53) rfl w_k) ?_
  show Gd _ _ _ _ (s₁.setTop (mkF m 55 #[.val (.int r0), .val (.int r1), .val (.int r2), .val (.int r3), .val (.int r4), .val (.int r5), .val (.int z), .val (.int oA), .val (.int oB), .unset, .unset, .unset, .unset, .unset, .unset, .unset, .unset, .unset] [(.int z)]))
  refine Gd.viaA (A := fun y : Int32 => y = 0 ∨ (0 : Int32) < z) (S' := fun y => s₁.setTop (mkF m 72 #[.val (.int r0), .val (.int r1), .val (.int r2), .val (.int r3), .val (.int r4), .val (.int r5), .val (.int z), .val (.int oA), .val (.int oB), .unset, .unset, .unset, .unset, .unset, .unset, .unset, .unset, .unset] [(.int y)])) (fun J => ?_) (fun y hy => ?_)
  · by_cases hc5 : (0 : Int32) < z
    · refine Gd.go (fun _ w_k => XS.ifNo X0.here hx rfl (hb hby at_55) rfl ((if0 _ _).trans (tlt hc5).2.2.2) w_k) ?_
      show Gd _ _ _ _ (s₁.setTop (mkF m 58 #[.val (.int r0), .val (.int r1), .val (.int r2), .val (.int r3), .val (.int r4), .val (.int r5), .val (.int z), .val (.int oA), .val (.int oB), .unset, .unset, .unset, .unset, .unset, .unset, .unset, .unset, .unset] []))
      refine Gd.go (fun _ w_k => XS.iloadN X0.here hx rfl (hb hby at_58) rfl w_k) ?_
      show Gd _ _ _ _ (s₁.setTop (mkF m 59 #[.val (.int r0), .val (.int r1), .val (.int r2), .val (.int r3), .val (.int r4), .val (.int r5), .val (.int z), .val (.int oA), .val (.int oB), .unset, .unset, .unset, .unset, .unset, .unset, .unset, .unset, .unset] [(.int r0)]))
      refine Gd.go (fun _ w_k => XS.bipush X0.here hx rfl (hb hby at_59) w_k) ?_
      show Gd _ _ _ _ (s₁.setTop (mkF m 61 #[.val (.int r0), .val (.int r1), .val (.int r2), .val (.int r3), .val (.int r4), .val (.int r5), .val (.int z), .val (.int oA), .val (.int oB), .unset, .unset, .unset, .unset, .unset, .unset, .unset, .unset, .unset] [(.int (11 : Int32)), (.int r0)]))
      refine Gd.go (fun _ w_k => XS.iushr X0.here hx rfl (hb hby at_61) rfl w_k) ?_
      show Gd _ _ _ _ (s₁.setTop (mkF m 62 #[.val (.int r0), .val (.int r1), .val (.int r2), .val (.int r3), .val (.int r4), .val (.int r5), .val (.int z), .val (.int oA), .val (.int oB), .unset, .unset, .unset, .unset, .unset, .unset, .unset, .unset, .unset] [(.int ((r0.toUInt32 >>> ((11 : Int32) &&& 31).toUInt32).toInt32))]))
      refine Gd.go (fun _ w_k => XS.iconst X0.here hx rfl (hb hby at_62) w_k) ?_
      show Gd _ _ _ _ (s₁.setTop (mkF m 63 #[.val (.int r0), .val (.int r1), .val (.int r2), .val (.int r3), .val (.int r4), .val (.int r5), .val (.int z), .val (.int oA), .val (.int oB), .unset, .unset, .unset, .unset, .unset, .unset, .unset, .unset, .unset] [(.int (1 : Int32)), (.int ((r0.toUInt32 >>> ((11 : Int32) &&& 31).toUInt32).toInt32))]))
      refine Gd.go (fun _ w_k => XS.iand X0.here hx rfl (hb hby at_63) rfl w_k) ?_
      show Gd _ _ _ _ (s₁.setTop (mkF m 64 #[.val (.int r0), .val (.int r1), .val (.int r2), .val (.int r3), .val (.int r4), .val (.int r5), .val (.int z), .val (.int oA), .val (.int oB), .unset, .unset, .unset, .unset, .unset, .unset, .unset, .unset, .unset] [(.int (((r0.toUInt32 >>> ((11 : Int32) &&& 31).toUInt32).toInt32) &&& (1 : Int32)))]))
      by_cases hc6 : (((r0.toUInt32 >>> ((11 : Int32) &&& 31).toUInt32).toInt32) &&& (1 : Int32)) = (0 : Int32)
      · refine Gd.go (fun _ w_k => XS.ifYes X0.here hx rfl (pc0 := 64) (pc' := 71) rfl (hb hby at_64) rfl ((if0 _ _).trans (teq hc6).1) (by decide) (by decide) w_k) ?_
        show Gd _ _ _ _ (s₁.setTop (mkF m 71 #[.val (.int r0), .val (.int r1), .val (.int r2), .val (.int r3), .val (.int r4), .val (.int r5), .val (.int z), .val (.int oA), .val (.int oB), .unset, .unset, .unset, .unset, .unset, .unset, .unset, .unset, .unset] []))
        refine Gd.go (fun _ w_k => XS.iconst X0.here hx rfl (hb hby at_71) w_k) ?_
        show Gd _ _ _ _ (s₁.setTop (mkF m 72 #[.val (.int r0), .val (.int r1), .val (.int r2), .val (.int r3), .val (.int r4), .val (.int r5), .val (.int z), .val (.int oA), .val (.int oB), .unset, .unset, .unset, .unset, .unset, .unset, .unset, .unset, .unset] [(.int (0 : Int32))]))
        exact J _ (Or.inl rfl)
      · refine Gd.go (fun _ w_k => XS.ifNo X0.here hx rfl (hb hby at_64) rfl ((if0 _ _).trans (feq hc6).1) w_k) ?_
        show Gd _ _ _ _ (s₁.setTop (mkF m 67 #[.val (.int r0), .val (.int r1), .val (.int r2), .val (.int r3), .val (.int r4), .val (.int r5), .val (.int z), .val (.int oA), .val (.int oB), .unset, .unset, .unset, .unset, .unset, .unset, .unset, .unset, .unset] []))
        refine Gd.go (fun _ w_k => XS.iconst X0.here hx rfl (hb hby at_67) w_k) ?_
        show Gd _ _ _ _ (s₁.setTop (mkF m 68 #[.val (.int r0), .val (.int r1), .val (.int r2), .val (.int r3), .val (.int r4), .val (.int r5), .val (.int z), .val (.int oA), .val (.int oB), .unset, .unset, .unset, .unset, .unset, .unset, .unset, .unset, .unset] [(.int (1 : Int32))]))
        refine Gd.go (fun _ w_k => XS.goto X0.here hx rfl (pc0 := 68) (pc' := 72) rfl (hb hby at_68) (by decide) (by decide) w_k) ?_
        show Gd _ _ _ _ (s₁.setTop (mkF m 72 #[.val (.int r0), .val (.int r1), .val (.int r2), .val (.int r3), .val (.int r4), .val (.int r5), .val (.int z), .val (.int oA), .val (.int oB), .unset, .unset, .unset, .unset, .unset, .unset, .unset, .unset, .unset] [(.int (1 : Int32))]))
        exact J _ (Or.inr hc5)
    · refine Gd.go (fun _ w_k => XS.ifYes X0.here hx rfl (pc0 := 55) (pc' := 71) rfl (hb hby at_55) rfl ((if0 _ _).trans (flt hc5).2.2.2) (by decide) (by decide) w_k) ?_
      show Gd _ _ _ _ (s₁.setTop (mkF m 71 #[.val (.int r0), .val (.int r1), .val (.int r2), .val (.int r3), .val (.int r4), .val (.int r5), .val (.int z), .val (.int oA), .val (.int oB), .unset, .unset, .unset, .unset, .unset, .unset, .unset, .unset, .unset] []))
      refine Gd.go (fun _ w_k => XS.iconst X0.here hx rfl (hb hby at_71) w_k) ?_
      show Gd _ _ _ _ (s₁.setTop (mkF m 72 #[.val (.int r0), .val (.int r1), .val (.int r2), .val (.int r3), .val (.int r4), .val (.int r5), .val (.int z), .val (.int oA), .val (.int oB), .unset, .unset, .unset, .unset, .unset, .unset, .unset, .unset, .unset] [(.int (0 : Int32))]))
      exact J _ (Or.inl rfl)
  obtain ⟨oC, eyoC⟩ : ∃ q, q = y := ⟨_, rfl⟩
  rw [← eyoC] at hy ⊢
  have g_oC := hy
  show Gd _ _ _ _ (s₁.setTop (mkF m 72 #[.val (.int r0), .val (.int r1), .val (.int r2), .val (.int r3), .val (.int r4), .val (.int r5), .val (.int z), .val (.int oA), .val (.int oB), .unset, .unset, .unset, .unset, .unset, .unset, .unset, .unset, .unset] [(.int oC)]))
  refine Gd.go (fun _ w_k => XS.istore X0.here hx rfl (hb hby at_72) rfl (l' := #[.val (.int r0), .val (.int r1), .val (.int r2), .val (.int r3), .val (.int r4), .val (.int r5), .val (.int z), .val (.int oA), .val (.int oB), .val (.int oC), .unset, .unset, .unset, .unset, .unset, .unset, .unset, .unset]) rfl w_k) ?_
  show Gd _ _ _ _ (s₁.setTop (mkF m 74 #[.val (.int r0), .val (.int r1), .val (.int r2), .val (.int r3), .val (.int r4), .val (.int r5), .val (.int z), .val (.int oA), .val (.int oB), .val (.int oC), .unset, .unset, .unset, .unset, .unset, .unset, .unset, .unset] []))
  refine Gd.go (fun _ w_k => XS.iload X0.here hx rfl (hb hby at_74) rfl w_k) ?_
  show Gd _ _ _ _ (s₁.setTop (mkF m 76 #[.val (.int r0), .val (.int r1), .val (.int r2), .val (.int r3), .val (.int r4), .val (.int r5), .val (.int z), .val (.int oA), .val (.int oB), .val (.int oC), .unset, .unset, .unset, .unset, .unset, .unset, .unset, .unset] [(.int z)]))
  refine Gd.viaA (A := fun y : Int32 => 0 ≤ y.toInt ∧ ((0 : Int32) < z → y.toInt < z.toInt)) (S' := fun y => s₁.setTop (mkF m 90 #[.val (.int r0), .val (.int r1), .val (.int r2), .val (.int r3), .val (.int r4), .val (.int r5), .val (.int z), .val (.int oA), .val (.int oB), .val (.int oC), .unset, .unset, .unset, .unset, .unset, .unset, .unset, .unset] [(.int y)])) (fun J => ?_) (fun y hy => ?_)
  · by_cases hc7 : (0 : Int32) < z
    · refine Gd.go (fun _ w_k => XS.ifNo X0.here hx rfl (hb hby at_76) rfl ((if0 _ _).trans (tlt hc7).2.2.2) w_k) ?_
      show Gd _ _ _ _ (s₁.setTop (mkF m 79 #[.val (.int r0), .val (.int r1), .val (.int r2), .val (.int r3), .val (.int r4), .val (.int r5), .val (.int z), .val (.int oA), .val (.int oB), .val (.int oC), .unset, .unset, .unset, .unset, .unset, .unset, .unset, .unset] []))
      refine Gd.go (fun _ w_k => XS.iloadN X0.here hx rfl (hb hby at_79) rfl w_k) ?_
      show Gd _ _ _ _ (s₁.setTop (mkF m 80 #[.val (.int r0), .val (.int r1), .val (.int r2), .val (.int r3), .val (.int r4), .val (.int r5), .val (.int z), .val (.int oA), .val (.int oB), .val (.int oC), .unset, .unset, .unset, .unset, .unset, .unset, .unset, .unset] [(.int r1)]))
      refine Gd.go (fun _ w_k => X0.ldcInt hx hown (mvT hZ (hw _ (List.mem_of_getElem? (i := 0) rfl))) (g := (mkF m 80 #[.val (.int r0), .val (.int r1), .val (.int r2), .val (.int r3), .val (.int r4), .val (.int r5), .val (.int z), .val (.int oA), .val (.int oB), .val (.int oC), .unset, .unset, .unset, .unset, .unset, .unset, .unset, .unset] [(.int r1)])) rfl (hb hby at_80) _ w_k) ?_
      show Gd _ _ _ _ (s₁.setTop (mkF m 82 #[.val (.int r0), .val (.int r1), .val (.int r2), .val (.int r3), .val (.int r4), .val (.int r5), .val (.int z), .val (.int oA), .val (.int oB), .val (.int oC), .unset, .unset, .unset, .unset, .unset, .unset, .unset, .unset] [(.int (2147483647 : Int32)), (.int r1)]))
      refine Gd.go (fun _ w_k => XS.iand X0.here hx rfl (hb hby at_82) rfl w_k) ?_
      show Gd _ _ _ _ (s₁.setTop (mkF m 83 #[.val (.int r0), .val (.int r1), .val (.int r2), .val (.int r3), .val (.int r4), .val (.int r5), .val (.int z), .val (.int oA), .val (.int oB), .val (.int oC), .unset, .unset, .unset, .unset, .unset, .unset, .unset, .unset] [(.int (r1 &&& (2147483647 : Int32)))]))
      refine Gd.go (fun _ w_k => XS.iload X0.here hx rfl (hb hby at_83) rfl w_k) ?_
      show Gd _ _ _ _ (s₁.setTop (mkF m 85 #[.val (.int r0), .val (.int r1), .val (.int r2), .val (.int r3), .val (.int r4), .val (.int r5), .val (.int z), .val (.int oA), .val (.int oB), .val (.int oC), .unset, .unset, .unset, .unset, .unset, .unset, .unset, .unset] [(.int z), (.int (r1 &&& (2147483647 : Int32)))]))
      refine Gd.go (fun _ w_k => iremM (g := (mkF m 85 #[.val (.int r0), .val (.int r1), .val (.int r2), .val (.int r3), .val (.int r4), .val (.int r5), .val (.int z), .val (.int oA), .val (.int oB), .val (.int oC), .unset, .unset, .unset, .unset, .unset, .unset, .unset, .unset] [(.int z), (.int (r1 &&& (2147483647 : Int32)))])) X0 hx rfl (hb hby at_85) rfl (own_nz hc7) w_k) ?_
      show Gd _ _ _ _ (s₁.setTop (mkF m 86 #[.val (.int r0), .val (.int r1), .val (.int r2), .val (.int r3), .val (.int r4), .val (.int r5), .val (.int z), .val (.int oA), .val (.int oB), .val (.int oC), .unset, .unset, .unset, .unset, .unset, .unset, .unset, .unset] [(.int ((r1 &&& (2147483647 : Int32)) % z))]))
      refine Gd.go (fun _ w_k => XS.goto X0.here hx rfl (pc0 := 86) (pc' := 90) rfl (hb hby at_86) (by decide) (by decide) w_k) ?_
      show Gd _ _ _ _ (s₁.setTop (mkF m 90 #[.val (.int r0), .val (.int r1), .val (.int r2), .val (.int r3), .val (.int r4), .val (.int r5), .val (.int z), .val (.int oA), .val (.int oB), .val (.int oC), .unset, .unset, .unset, .unset, .unset, .unset, .unset, .unset] [(.int ((r1 &&& (2147483647 : Int32)) % z))]))
      exact J _ ⟨(own_rem _ _ hc7).1, fun _ => (own_rem _ _ hc7).2⟩
    · refine Gd.go (fun _ w_k => XS.ifYes X0.here hx rfl (pc0 := 76) (pc' := 89) rfl (hb hby at_76) rfl ((if0 _ _).trans (flt hc7).2.2.2) (by decide) (by decide) w_k) ?_
      show Gd _ _ _ _ (s₁.setTop (mkF m 89 #[.val (.int r0), .val (.int r1), .val (.int r2), .val (.int r3), .val (.int r4), .val (.int r5), .val (.int z), .val (.int oA), .val (.int oB), .val (.int oC), .unset, .unset, .unset, .unset, .unset, .unset, .unset, .unset] []))
      refine Gd.go (fun _ w_k => XS.iconst X0.here hx rfl (hb hby at_89) w_k) ?_
      show Gd _ _ _ _ (s₁.setTop (mkF m 90 #[.val (.int r0), .val (.int r1), .val (.int r2), .val (.int r3), .val (.int r4), .val (.int r5), .val (.int z), .val (.int oA), .val (.int oB), .val (.int oC), .unset, .unset, .unset, .unset, .unset, .unset, .unset, .unset] [(.int (0 : Int32))]))
      exact J _ ⟨by decide, fun q => absurd q hc7⟩
  obtain ⟨ia, eyia⟩ : ∃ q, q = y := ⟨_, rfl⟩
  rw [← eyia] at hy ⊢
  have g_ia := hy
  show Gd _ _ _ _ (s₁.setTop (mkF m 90 #[.val (.int r0), .val (.int r1), .val (.int r2), .val (.int r3), .val (.int r4), .val (.int r5), .val (.int z), .val (.int oA), .val (.int oB), .val (.int oC), .unset, .unset, .unset, .unset, .unset, .unset, .unset, .unset] [(.int ia)]))
  refine Gd.go (fun _ w_k => XS.istore X0.here hx rfl (hb hby at_90) rfl (l' := #[.val (.int r0), .val (.int r1), .val (.int r2), .val (.int r3), .val (.int r4), .val (.int r5), .val (.int z), .val (.int oA), .val (.int oB), .val (.int oC), .val (.int ia), .unset, .unset, .unset, .unset, .unset, .unset, .unset]) rfl w_k) ?_
  show Gd _ _ _ _ (s₁.setTop (mkF m 92 #[.val (.int r0), .val (.int r1), .val (.int r2), .val (.int r3), .val (.int r4), .val (.int r5), .val (.int z), .val (.int oA), .val (.int oB), .val (.int oC), .val (.int ia), .unset, .unset, .unset, .unset, .unset, .unset, .unset] []))
  refine Gd.go (fun _ w_k => XS.iload X0.here hx rfl (hb hby at_92) rfl w_k) ?_
  show Gd _ _ _ _ (s₁.setTop (mkF m 94 #[.val (.int r0), .val (.int r1), .val (.int r2), .val (.int r3), .val (.int r4), .val (.int r5), .val (.int z), .val (.int oA), .val (.int oB), .val (.int oC), .val (.int ia), .unset, .unset, .unset, .unset, .unset, .unset, .unset] [(.int z)]))
  refine Gd.viaA (A := fun y : Int32 => 0 ≤ y.toInt ∧ ((0 : Int32) < z → y.toInt < z.toInt)) (S' := fun y => s₁.setTop (mkF m 108 #[.val (.int r0), .val (.int r1), .val (.int r2), .val (.int r3), .val (.int r4), .val (.int r5), .val (.int z), .val (.int oA), .val (.int oB), .val (.int oC), .val (.int ia), .unset, .unset, .unset, .unset, .unset, .unset, .unset] [(.int y)])) (fun J => ?_) (fun y hy => ?_)
  · by_cases hc8 : (0 : Int32) < z
    · refine Gd.go (fun _ w_k => XS.ifNo X0.here hx rfl (hb hby at_94) rfl ((if0 _ _).trans (tlt hc8).2.2.2) w_k) ?_
      show Gd _ _ _ _ (s₁.setTop (mkF m 97 #[.val (.int r0), .val (.int r1), .val (.int r2), .val (.int r3), .val (.int r4), .val (.int r5), .val (.int z), .val (.int oA), .val (.int oB), .val (.int oC), .val (.int ia), .unset, .unset, .unset, .unset, .unset, .unset, .unset] []))
      refine Gd.go (fun _ w_k => XS.iloadN X0.here hx rfl (hb hby at_97) rfl w_k) ?_
      show Gd _ _ _ _ (s₁.setTop (mkF m 98 #[.val (.int r0), .val (.int r1), .val (.int r2), .val (.int r3), .val (.int r4), .val (.int r5), .val (.int z), .val (.int oA), .val (.int oB), .val (.int oC), .val (.int ia), .unset, .unset, .unset, .unset, .unset, .unset, .unset] [(.int r2)]))
      refine Gd.go (fun _ w_k => X0.ldcInt hx hown (mvT hZ (hw _ (List.mem_of_getElem? (i := 0) rfl))) (g := (mkF m 98 #[.val (.int r0), .val (.int r1), .val (.int r2), .val (.int r3), .val (.int r4), .val (.int r5), .val (.int z), .val (.int oA), .val (.int oB), .val (.int oC), .val (.int ia), .unset, .unset, .unset, .unset, .unset, .unset, .unset] [(.int r2)])) rfl (hb hby at_98) _ w_k) ?_
      show Gd _ _ _ _ (s₁.setTop (mkF m 100 #[.val (.int r0), .val (.int r1), .val (.int r2), .val (.int r3), .val (.int r4), .val (.int r5), .val (.int z), .val (.int oA), .val (.int oB), .val (.int oC), .val (.int ia), .unset, .unset, .unset, .unset, .unset, .unset, .unset] [(.int (2147483647 : Int32)), (.int r2)]))
      refine Gd.go (fun _ w_k => XS.iand X0.here hx rfl (hb hby at_100) rfl w_k) ?_
      show Gd _ _ _ _ (s₁.setTop (mkF m 101 #[.val (.int r0), .val (.int r1), .val (.int r2), .val (.int r3), .val (.int r4), .val (.int r5), .val (.int z), .val (.int oA), .val (.int oB), .val (.int oC), .val (.int ia), .unset, .unset, .unset, .unset, .unset, .unset, .unset] [(.int (r2 &&& (2147483647 : Int32)))]))
      refine Gd.go (fun _ w_k => XS.iload X0.here hx rfl (hb hby at_101) rfl w_k) ?_
      show Gd _ _ _ _ (s₁.setTop (mkF m 103 #[.val (.int r0), .val (.int r1), .val (.int r2), .val (.int r3), .val (.int r4), .val (.int r5), .val (.int z), .val (.int oA), .val (.int oB), .val (.int oC), .val (.int ia), .unset, .unset, .unset, .unset, .unset, .unset, .unset] [(.int z), (.int (r2 &&& (2147483647 : Int32)))]))
      refine Gd.go (fun _ w_k => iremM (g := (mkF m 103 #[.val (.int r0), .val (.int r1), .val (.int r2), .val (.int r3), .val (.int r4), .val (.int r5), .val (.int z), .val (.int oA), .val (.int oB), .val (.int oC), .val (.int ia), .unset, .unset, .unset, .unset, .unset, .unset, .unset] [(.int z), (.int (r2 &&& (2147483647 : Int32)))])) X0 hx rfl (hb hby at_103) rfl (own_nz hc8) w_k) ?_
      show Gd _ _ _ _ (s₁.setTop (mkF m 104 #[.val (.int r0), .val (.int r1), .val (.int r2), .val (.int r3), .val (.int r4), .val (.int r5), .val (.int z), .val (.int oA), .val (.int oB), .val (.int oC), .val (.int ia), .unset, .unset, .unset, .unset, .unset, .unset, .unset] [(.int ((r2 &&& (2147483647 : Int32)) % z))]))
      refine Gd.go (fun _ w_k => XS.goto X0.here hx rfl (pc0 := 104) (pc' := 108) rfl (hb hby at_104) (by decide) (by decide) w_k) ?_
      show Gd _ _ _ _ (s₁.setTop (mkF m 108 #[.val (.int r0), .val (.int r1), .val (.int r2), .val (.int r3), .val (.int r4), .val (.int r5), .val (.int z), .val (.int oA), .val (.int oB), .val (.int oC), .val (.int ia), .unset, .unset, .unset, .unset, .unset, .unset, .unset] [(.int ((r2 &&& (2147483647 : Int32)) % z))]))
      exact J _ ⟨(own_rem _ _ hc8).1, fun _ => (own_rem _ _ hc8).2⟩
    · refine Gd.go (fun _ w_k => XS.ifYes X0.here hx rfl (pc0 := 94) (pc' := 107) rfl (hb hby at_94) rfl ((if0 _ _).trans (flt hc8).2.2.2) (by decide) (by decide) w_k) ?_
      show Gd _ _ _ _ (s₁.setTop (mkF m 107 #[.val (.int r0), .val (.int r1), .val (.int r2), .val (.int r3), .val (.int r4), .val (.int r5), .val (.int z), .val (.int oA), .val (.int oB), .val (.int oC), .val (.int ia), .unset, .unset, .unset, .unset, .unset, .unset, .unset] []))
      refine Gd.go (fun _ w_k => XS.iconst X0.here hx rfl (hb hby at_107) w_k) ?_
      show Gd _ _ _ _ (s₁.setTop (mkF m 108 #[.val (.int r0), .val (.int r1), .val (.int r2), .val (.int r3), .val (.int r4), .val (.int r5), .val (.int z), .val (.int oA), .val (.int oB), .val (.int oC), .val (.int ia), .unset, .unset, .unset, .unset, .unset, .unset, .unset] [(.int (0 : Int32))]))
      exact J _ ⟨by decide, fun q => absurd q hc8⟩
  obtain ⟨ib, eyib⟩ : ∃ q, q = y := ⟨_, rfl⟩
  rw [← eyib] at hy ⊢
  have g_ib := hy
  show Gd _ _ _ _ (s₁.setTop (mkF m 108 #[.val (.int r0), .val (.int r1), .val (.int r2), .val (.int r3), .val (.int r4), .val (.int r5), .val (.int z), .val (.int oA), .val (.int oB), .val (.int oC), .val (.int ia), .unset, .unset, .unset, .unset, .unset, .unset, .unset] [(.int ib)]))
  refine Gd.go (fun _ w_k => XS.istore X0.here hx rfl (hb hby at_108) rfl (l' := #[.val (.int r0), .val (.int r1), .val (.int r2), .val (.int r3), .val (.int r4), .val (.int r5), .val (.int z), .val (.int oA), .val (.int oB), .val (.int oC), .val (.int ia), .val (.int ib), .unset, .unset, .unset, .unset, .unset, .unset]) rfl w_k) ?_
  show Gd _ _ _ _ (s₁.setTop (mkF m 110 #[.val (.int r0), .val (.int r1), .val (.int r2), .val (.int r3), .val (.int r4), .val (.int r5), .val (.int z), .val (.int oA), .val (.int oB), .val (.int oC), .val (.int ia), .val (.int ib), .unset, .unset, .unset, .unset, .unset, .unset] []))
  refine Gd.go (fun _ w_k => XS.iload X0.here hx rfl (hb hby at_110) rfl w_k) ?_
  show Gd _ _ _ _ (s₁.setTop (mkF m 112 #[.val (.int r0), .val (.int r1), .val (.int r2), .val (.int r3), .val (.int r4), .val (.int r5), .val (.int z), .val (.int oA), .val (.int oB), .val (.int oC), .val (.int ia), .val (.int ib), .unset, .unset, .unset, .unset, .unset, .unset] [(.int z)]))
  refine Gd.viaA (A := fun y : Int32 => 0 ≤ y.toInt ∧ ((0 : Int32) < z → y.toInt < z.toInt)) (S' := fun y => s₁.setTop (mkF m 126 #[.val (.int r0), .val (.int r1), .val (.int r2), .val (.int r3), .val (.int r4), .val (.int r5), .val (.int z), .val (.int oA), .val (.int oB), .val (.int oC), .val (.int ia), .val (.int ib), .unset, .unset, .unset, .unset, .unset, .unset] [(.int y)])) (fun J => ?_) (fun y hy => ?_)
  · by_cases hc9 : (0 : Int32) < z
    · refine Gd.go (fun _ w_k => XS.ifNo X0.here hx rfl (hb hby at_112) rfl ((if0 _ _).trans (tlt hc9).2.2.2) w_k) ?_
      show Gd _ _ _ _ (s₁.setTop (mkF m 115 #[.val (.int r0), .val (.int r1), .val (.int r2), .val (.int r3), .val (.int r4), .val (.int r5), .val (.int z), .val (.int oA), .val (.int oB), .val (.int oC), .val (.int ia), .val (.int ib), .unset, .unset, .unset, .unset, .unset, .unset] []))
      refine Gd.go (fun _ w_k => XS.iloadN X0.here hx rfl (hb hby at_115) rfl w_k) ?_
      show Gd _ _ _ _ (s₁.setTop (mkF m 116 #[.val (.int r0), .val (.int r1), .val (.int r2), .val (.int r3), .val (.int r4), .val (.int r5), .val (.int z), .val (.int oA), .val (.int oB), .val (.int oC), .val (.int ia), .val (.int ib), .unset, .unset, .unset, .unset, .unset, .unset] [(.int r3)]))
      refine Gd.go (fun _ w_k => X0.ldcInt hx hown (mvT hZ (hw _ (List.mem_of_getElem? (i := 0) rfl))) (g := (mkF m 116 #[.val (.int r0), .val (.int r1), .val (.int r2), .val (.int r3), .val (.int r4), .val (.int r5), .val (.int z), .val (.int oA), .val (.int oB), .val (.int oC), .val (.int ia), .val (.int ib), .unset, .unset, .unset, .unset, .unset, .unset] [(.int r3)])) rfl (hb hby at_116) _ w_k) ?_
      show Gd _ _ _ _ (s₁.setTop (mkF m 118 #[.val (.int r0), .val (.int r1), .val (.int r2), .val (.int r3), .val (.int r4), .val (.int r5), .val (.int z), .val (.int oA), .val (.int oB), .val (.int oC), .val (.int ia), .val (.int ib), .unset, .unset, .unset, .unset, .unset, .unset] [(.int (2147483647 : Int32)), (.int r3)]))
      refine Gd.go (fun _ w_k => XS.iand X0.here hx rfl (hb hby at_118) rfl w_k) ?_
      show Gd _ _ _ _ (s₁.setTop (mkF m 119 #[.val (.int r0), .val (.int r1), .val (.int r2), .val (.int r3), .val (.int r4), .val (.int r5), .val (.int z), .val (.int oA), .val (.int oB), .val (.int oC), .val (.int ia), .val (.int ib), .unset, .unset, .unset, .unset, .unset, .unset] [(.int (r3 &&& (2147483647 : Int32)))]))
      refine Gd.go (fun _ w_k => XS.iload X0.here hx rfl (hb hby at_119) rfl w_k) ?_
      show Gd _ _ _ _ (s₁.setTop (mkF m 121 #[.val (.int r0), .val (.int r1), .val (.int r2), .val (.int r3), .val (.int r4), .val (.int r5), .val (.int z), .val (.int oA), .val (.int oB), .val (.int oC), .val (.int ia), .val (.int ib), .unset, .unset, .unset, .unset, .unset, .unset] [(.int z), (.int (r3 &&& (2147483647 : Int32)))]))
      refine Gd.go (fun _ w_k => iremM (g := (mkF m 121 #[.val (.int r0), .val (.int r1), .val (.int r2), .val (.int r3), .val (.int r4), .val (.int r5), .val (.int z), .val (.int oA), .val (.int oB), .val (.int oC), .val (.int ia), .val (.int ib), .unset, .unset, .unset, .unset, .unset, .unset] [(.int z), (.int (r3 &&& (2147483647 : Int32)))])) X0 hx rfl (hb hby at_121) rfl (own_nz hc9) w_k) ?_
      show Gd _ _ _ _ (s₁.setTop (mkF m 122 #[.val (.int r0), .val (.int r1), .val (.int r2), .val (.int r3), .val (.int r4), .val (.int r5), .val (.int z), .val (.int oA), .val (.int oB), .val (.int oC), .val (.int ia), .val (.int ib), .unset, .unset, .unset, .unset, .unset, .unset] [(.int ((r3 &&& (2147483647 : Int32)) % z))]))
      refine Gd.go (fun _ w_k => XS.goto X0.here hx rfl (pc0 := 122) (pc' := 126) rfl (hb hby at_122) (by decide) (by decide) w_k) ?_
      show Gd _ _ _ _ (s₁.setTop (mkF m 126 #[.val (.int r0), .val (.int r1), .val (.int r2), .val (.int r3), .val (.int r4), .val (.int r5), .val (.int z), .val (.int oA), .val (.int oB), .val (.int oC), .val (.int ia), .val (.int ib), .unset, .unset, .unset, .unset, .unset, .unset] [(.int ((r3 &&& (2147483647 : Int32)) % z))]))
      exact J _ ⟨(own_rem _ _ hc9).1, fun _ => (own_rem _ _ hc9).2⟩
    · refine Gd.go (fun _ w_k => XS.ifYes X0.here hx rfl (pc0 := 112) (pc' := 125) rfl (hb hby at_112) rfl ((if0 _ _).trans (flt hc9).2.2.2) (by decide) (by decide) w_k) ?_
      show Gd _ _ _ _ (s₁.setTop (mkF m 125 #[.val (.int r0), .val (.int r1), .val (.int r2), .val (.int r3), .val (.int r4), .val (.int r5), .val (.int z), .val (.int oA), .val (.int oB), .val (.int oC), .val (.int ia), .val (.int ib), .unset, .unset, .unset, .unset, .unset, .unset] []))
      refine Gd.go (fun _ w_k => XS.iconst X0.here hx rfl (hb hby at_125) w_k) ?_
      show Gd _ _ _ _ (s₁.setTop (mkF m 126 #[.val (.int r0), .val (.int r1), .val (.int r2), .val (.int r3), .val (.int r4), .val (.int r5), .val (.int z), .val (.int oA), .val (.int oB), .val (.int oC), .val (.int ia), .val (.int ib), .unset, .unset, .unset, .unset, .unset, .unset] [(.int (0 : Int32))]))
      exact J _ ⟨by decide, fun q => absurd q hc9⟩
  obtain ⟨ic, eyic⟩ : ∃ q, q = y := ⟨_, rfl⟩
  rw [← eyic] at hy ⊢
  have g_ic := hy
  show Gd _ _ _ _ (s₁.setTop (mkF m 126 #[.val (.int r0), .val (.int r1), .val (.int r2), .val (.int r3), .val (.int r4), .val (.int r5), .val (.int z), .val (.int oA), .val (.int oB), .val (.int oC), .val (.int ia), .val (.int ib), .unset, .unset, .unset, .unset, .unset, .unset] [(.int ic)]))
  refine Gd.go (fun _ w_k => XS.istore X0.here hx rfl (hb hby at_126) rfl (l' := #[.val (.int r0), .val (.int r1), .val (.int r2), .val (.int r3), .val (.int r4), .val (.int r5), .val (.int z), .val (.int oA), .val (.int oB), .val (.int oC), .val (.int ia), .val (.int ib), .val (.int ic), .unset, .unset, .unset, .unset, .unset]) rfl w_k) ?_
  show Gd _ _ _ _ (s₁.setTop (mkF m 128 #[.val (.int r0), .val (.int r1), .val (.int r2), .val (.int r3), .val (.int r4), .val (.int r5), .val (.int z), .val (.int oA), .val (.int oB), .val (.int oC), .val (.int ia), .val (.int ib), .val (.int ic), .unset, .unset, .unset, .unset, .unset] []))
  refine Gd.go (fun _ w_k => XS.iload X0.here hx rfl (hb hby at_128) rfl w_k) ?_
  show Gd _ _ _ _ (s₁.setTop (mkF m 130 #[.val (.int r0), .val (.int r1), .val (.int r2), .val (.int r3), .val (.int r4), .val (.int r5), .val (.int z), .val (.int oA), .val (.int oB), .val (.int oC), .val (.int ia), .val (.int ib), .val (.int ic), .unset, .unset, .unset, .unset, .unset] [(.int r4)]))
  refine Gd.go (fun _ w_k => X0.ldcInt hx hown (mvT hZ (hw _ (List.mem_of_getElem? (i := 0) rfl))) (g := (mkF m 130 #[.val (.int r0), .val (.int r1), .val (.int r2), .val (.int r3), .val (.int r4), .val (.int r5), .val (.int z), .val (.int oA), .val (.int oB), .val (.int oC), .val (.int ia), .val (.int ib), .val (.int ic), .unset, .unset, .unset, .unset, .unset] [(.int r4)])) rfl (hb hby at_130) _ w_k) ?_
  show Gd _ _ _ _ (s₁.setTop (mkF m 132 #[.val (.int r0), .val (.int r1), .val (.int r2), .val (.int r3), .val (.int r4), .val (.int r5), .val (.int z), .val (.int oA), .val (.int oB), .val (.int oC), .val (.int ia), .val (.int ib), .val (.int ic), .unset, .unset, .unset, .unset, .unset] [(.int (2147483647 : Int32)), (.int r4)]))
  refine Gd.go (fun _ w_k => XS.iand X0.here hx rfl (hb hby at_132) rfl w_k) ?_
  show Gd _ _ _ _ (s₁.setTop (mkF m 133 #[.val (.int r0), .val (.int r1), .val (.int r2), .val (.int r3), .val (.int r4), .val (.int r5), .val (.int z), .val (.int oA), .val (.int oB), .val (.int oC), .val (.int ia), .val (.int ib), .val (.int ic), .unset, .unset, .unset, .unset, .unset] [(.int (r4 &&& (2147483647 : Int32)))]))
  refine Gd.go (fun _ w_k => XS.iload X0.here hx rfl (hb hby at_133) rfl w_k) ?_
  show Gd _ _ _ _ (s₁.setTop (mkF m 135 #[.val (.int r0), .val (.int r1), .val (.int r2), .val (.int r3), .val (.int r4), .val (.int r5), .val (.int z), .val (.int oA), .val (.int oB), .val (.int oC), .val (.int ia), .val (.int ib), .val (.int ic), .unset, .unset, .unset, .unset, .unset] [(.int z), (.int (r4 &&& (2147483647 : Int32)))]))
  refine Gd.go (fun _ w_k => XS.iconst X0.here hx rfl (hb hby at_135) w_k) ?_
  show Gd _ _ _ _ (s₁.setTop (mkF m 136 #[.val (.int r0), .val (.int r1), .val (.int r2), .val (.int r3), .val (.int r4), .val (.int r5), .val (.int z), .val (.int oA), .val (.int oB), .val (.int oC), .val (.int ia), .val (.int ib), .val (.int ic), .unset, .unset, .unset, .unset, .unset] [(.int (1 : Int32)), (.int z), (.int (r4 &&& (2147483647 : Int32)))]))
  refine Gd.go (fun _ w_k => XS.iadd X0.here hx rfl (hb hby at_136) rfl w_k) ?_
  show Gd _ _ _ _ (s₁.setTop (mkF m 137 #[.val (.int r0), .val (.int r1), .val (.int r2), .val (.int r3), .val (.int r4), .val (.int r5), .val (.int z), .val (.int oA), .val (.int oB), .val (.int oC), .val (.int ia), .val (.int ib), .val (.int ic), .unset, .unset, .unset, .unset, .unset] [(.int (z + (1 : Int32))), (.int (r4 &&& (2147483647 : Int32)))]))
  refine Gd.go (fun _ w_k => iremM (g := (mkF m 137 #[.val (.int r0), .val (.int r1), .val (.int r2), .val (.int r3), .val (.int r4), .val (.int r5), .val (.int z), .val (.int oA), .val (.int oB), .val (.int oC), .val (.int ia), .val (.int ib), .val (.int ic), .unset, .unset, .unset, .unset, .unset] [(.int (z + (1 : Int32))), (.int (r4 &&& (2147483647 : Int32)))])) X0 hx rfl (hb hby at_137) rfl (own_nz (own_pos1 g_z)) w_k) ?_
  show Gd _ _ _ _ (s₁.setTop (mkF m 138 #[.val (.int r0), .val (.int r1), .val (.int r2), .val (.int r3), .val (.int r4), .val (.int r5), .val (.int z), .val (.int oA), .val (.int oB), .val (.int oC), .val (.int ia), .val (.int ib), .val (.int ic), .unset, .unset, .unset, .unset, .unset] [(.int ((r4 &&& (2147483647 : Int32)) % (z + (1 : Int32))))]))
  have g_fr := own_at r4 z g_z
  generalize ((r4 &&& (2147483647 : Int32)) % (z + (1 : Int32))) = fr at g_fr ⊢
  show Gd _ _ _ _ (s₁.setTop (mkF m 138 #[.val (.int r0), .val (.int r1), .val (.int r2), .val (.int r3), .val (.int r4), .val (.int r5), .val (.int z), .val (.int oA), .val (.int oB), .val (.int oC), .val (.int ia), .val (.int ib), .val (.int ic), .unset, .unset, .unset, .unset, .unset] [(.int fr)]))
  refine Gd.go (fun _ w_k => XS.istore X0.here hx rfl (hb hby at_138) rfl (l' := #[.val (.int r0), .val (.int r1), .val (.int r2), .val (.int r3), .val (.int r4), .val (.int r5), .val (.int z), .val (.int oA), .val (.int oB), .val (.int oC), .val (.int ia), .val (.int ib), .val (.int ic), .val (.int fr), .unset, .unset, .unset, .unset]) rfl w_k) ?_
  show Gd _ _ _ _ (s₁.setTop (mkF m 140 #[.val (.int r0), .val (.int r1), .val (.int r2), .val (.int r3), .val (.int r4), .val (.int r5), .val (.int z), .val (.int oA), .val (.int oB), .val (.int oC), .val (.int ia), .val (.int ib), .val (.int ic), .val (.int fr), .unset, .unset, .unset, .unset] []))
  refine Gd.go (fun _ w_k => XS.iload X0.here hx rfl (hb hby at_140) rfl w_k) ?_
  show Gd _ _ _ _ (s₁.setTop (mkF m 142 #[.val (.int r0), .val (.int r1), .val (.int r2), .val (.int r3), .val (.int r4), .val (.int r5), .val (.int z), .val (.int oA), .val (.int oB), .val (.int oC), .val (.int ia), .val (.int ib), .val (.int ic), .val (.int fr), .unset, .unset, .unset, .unset] [(.int r5)]))
  refine Gd.go (fun _ w_k => X0.ldcInt hx hown (mvT hZ (hw _ (List.mem_of_getElem? (i := 0) rfl))) (g := (mkF m 142 #[.val (.int r0), .val (.int r1), .val (.int r2), .val (.int r3), .val (.int r4), .val (.int r5), .val (.int z), .val (.int oA), .val (.int oB), .val (.int oC), .val (.int ia), .val (.int ib), .val (.int ic), .val (.int fr), .unset, .unset, .unset, .unset] [(.int r5)])) rfl (hb hby at_142) _ w_k) ?_
  show Gd _ _ _ _ (s₁.setTop (mkF m 144 #[.val (.int r0), .val (.int r1), .val (.int r2), .val (.int r3), .val (.int r4), .val (.int r5), .val (.int z), .val (.int oA), .val (.int oB), .val (.int oC), .val (.int ia), .val (.int ib), .val (.int ic), .val (.int fr), .unset, .unset, .unset, .unset] [(.int (2147483647 : Int32)), (.int r5)]))
  refine Gd.go (fun _ w_k => XS.iand X0.here hx rfl (hb hby at_144) rfl w_k) ?_
  show Gd _ _ _ _ (s₁.setTop (mkF m 145 #[.val (.int r0), .val (.int r1), .val (.int r2), .val (.int r3), .val (.int r4), .val (.int r5), .val (.int z), .val (.int oA), .val (.int oB), .val (.int oC), .val (.int ia), .val (.int ib), .val (.int ic), .val (.int fr), .unset, .unset, .unset, .unset] [(.int (r5 &&& (2147483647 : Int32)))]))
  refine Gd.go (fun _ w_k => XS.iload X0.here hx rfl (hb hby at_145) rfl w_k) ?_
  show Gd _ _ _ _ (s₁.setTop (mkF m 147 #[.val (.int r0), .val (.int r1), .val (.int r2), .val (.int r3), .val (.int r4), .val (.int r5), .val (.int z), .val (.int oA), .val (.int oB), .val (.int oC), .val (.int ia), .val (.int ib), .val (.int ic), .val (.int fr), .unset, .unset, .unset, .unset] [(.int z), (.int (r5 &&& (2147483647 : Int32)))]))
  refine Gd.go (fun _ w_k => XS.iconst X0.here hx rfl (hb hby at_147) w_k) ?_
  show Gd _ _ _ _ (s₁.setTop (mkF m 148 #[.val (.int r0), .val (.int r1), .val (.int r2), .val (.int r3), .val (.int r4), .val (.int r5), .val (.int z), .val (.int oA), .val (.int oB), .val (.int oC), .val (.int ia), .val (.int ib), .val (.int ic), .val (.int fr), .unset, .unset, .unset, .unset] [(.int (1 : Int32)), (.int z), (.int (r5 &&& (2147483647 : Int32)))]))
  refine Gd.go (fun _ w_k => XS.iadd X0.here hx rfl (hb hby at_148) rfl w_k) ?_
  show Gd _ _ _ _ (s₁.setTop (mkF m 149 #[.val (.int r0), .val (.int r1), .val (.int r2), .val (.int r3), .val (.int r4), .val (.int r5), .val (.int z), .val (.int oA), .val (.int oB), .val (.int oC), .val (.int ia), .val (.int ib), .val (.int ic), .val (.int fr), .unset, .unset, .unset, .unset] [(.int (z + (1 : Int32))), (.int (r5 &&& (2147483647 : Int32)))]))
  refine Gd.go (fun _ w_k => iremM (g := (mkF m 149 #[.val (.int r0), .val (.int r1), .val (.int r2), .val (.int r3), .val (.int r4), .val (.int r5), .val (.int z), .val (.int oA), .val (.int oB), .val (.int oC), .val (.int ia), .val (.int ib), .val (.int ic), .val (.int fr), .unset, .unset, .unset, .unset] [(.int (z + (1 : Int32))), (.int (r5 &&& (2147483647 : Int32)))])) X0 hx rfl (hb hby at_149) rfl (own_nz (own_pos1 g_z)) w_k) ?_
  show Gd _ _ _ _ (s₁.setTop (mkF m 150 #[.val (.int r0), .val (.int r1), .val (.int r2), .val (.int r3), .val (.int r4), .val (.int r5), .val (.int z), .val (.int oA), .val (.int oB), .val (.int oC), .val (.int ia), .val (.int ib), .val (.int ic), .val (.int fr), .unset, .unset, .unset, .unset] [(.int ((r5 &&& (2147483647 : Int32)) % (z + (1 : Int32))))]))
  have g_en := own_at r5 z g_z
  generalize ((r5 &&& (2147483647 : Int32)) % (z + (1 : Int32))) = en at g_en ⊢
  show Gd _ _ _ _ (s₁.setTop (mkF m 150 #[.val (.int r0), .val (.int r1), .val (.int r2), .val (.int r3), .val (.int r4), .val (.int r5), .val (.int z), .val (.int oA), .val (.int oB), .val (.int oC), .val (.int ia), .val (.int ib), .val (.int ic), .val (.int fr), .unset, .unset, .unset, .unset] [(.int en)]))
  refine Gd.go (fun _ w_k => XS.istore X0.here hx rfl (hb hby at_150) rfl (l' := #[.val (.int r0), .val (.int r1), .val (.int r2), .val (.int r3), .val (.int r4), .val (.int r5), .val (.int z), .val (.int oA), .val (.int oB), .val (.int oC), .val (.int ia), .val (.int ib), .val (.int ic), .val (.int fr), .val (.int en), .unset, .unset, .unset]) rfl w_k) ?_
  show Gd _ _ _ _ (s₁.setTop (mkF m 152 #[.val (.int r0), .val (.int r1), .val (.int r2), .val (.int r3), .val (.int r4), .val (.int r5), .val (.int z), .val (.int oA), .val (.int oB), .val (.int oC), .val (.int ia), .val (.int ib), .val (.int ic), .val (.int fr), .val (.int en), .unset, .unset, .unset] []))
  obtain ⟨T10, h10, X10, e10, E10, A10, D10, -, st10⟩ := newO X0 hx hZ hown (hw _ (List.mem_of_getElem? (i := 1) rfl)) (hw _ (List.mem_of_getElem? (i := 2) rfl)) (hw _ (List.mem_of_getElem? (i := 3) rfl)) e0 (g := (mkF m 152 #[.val (.int r0), .val (.int r1), .val (.int r2), .val (.int r3), .val (.int r4), .val (.int r5), .val (.int z), .val (.int oA), .val (.int oB), .val (.int oC), .val (.int ia), .val (.int ib), .val (.int ic), .val (.int fr), .val (.int en), .unset, .unset, .unset] [])) rfl (hb hby at_152) (by decide) (by decide)
  obtain ⟨b10, g10⟩ : ∃ z, z = h0.size := ⟨_, rfl⟩
  rw [← g10] at A10 D10 st10
  have n0_b10 : n0 ≤ b10 := Nat.le_trans Z0 (Nat.le_of_eq g10.symm)
  have xO11 := Old.ext O0 E10
  have xZs12 := Nat.le_trans Z0 E10.1
  have xF13 : Fld Z h10 b10 "com/example/nearfield/nearfield/job/Bits" "size" "I" (.int (0 : Int32)) := D10 (Or.inr (hw _ (List.mem_of_getElem? (i := 11) rfl))) (ty := .int) (by decide)
  have xF14 : Fld Z h10 b10 "com/example/nearfield/nearfield/job/Bits" "words" "[J" .null := D10 (Or.inr (hw _ (List.mem_of_getElem? (i := 14) rfl))) (ty := (.array .long)) (by decide)
  refine Gd.go (fun _ w_k => st10 _ w_k) ?_
  show Gd _ _ _ _ (T10.setTop (mkF m 155 #[.val (.int r0), .val (.int r1), .val (.int r2), .val (.int r3), .val (.int r4), .val (.int r5), .val (.int z), .val (.int oA), .val (.int oB), .val (.int oC), .val (.int ia), .val (.int ib), .val (.int ic), .val (.int fr), .val (.int en), .unset, .unset, .unset] [(.ref b10)]))
  refine Gd.go (fun _ w_k => XS.dup X10.here hx rfl (hb hby at_155) rfl rfl w_k) ?_
  show Gd _ _ _ _ (T10.setTop (mkF m 156 #[.val (.int r0), .val (.int r1), .val (.int r2), .val (.int r3), .val (.int r4), .val (.int r5), .val (.int z), .val (.int oA), .val (.int oB), .val (.int oC), .val (.int ia), .val (.int ib), .val (.int ic), .val (.int fr), .val (.int en), .unset, .unset, .unset] [(.ref b10), (.ref b10)]))
  refine Gd.go (fun _ w_k => XS.iload X10.here hx rfl (hb hby at_156) rfl w_k) ?_
  show Gd _ _ _ _ (T10.setTop (mkF m 158 #[.val (.int r0), .val (.int r1), .val (.int r2), .val (.int r3), .val (.int r4), .val (.int r5), .val (.int z), .val (.int oA), .val (.int oB), .val (.int oC), .val (.int ia), .val (.int ib), .val (.int ic), .val (.int fr), .val (.int en), .unset, .unset, .unset] [(.int z), (.ref b10), (.ref b10)]))
  obtain ⟨v15, T15, L15, X15, hQ15, st15⟩ := own_callI X10 hx hZ (y := (⟨"com/example/nearfield/nearfield/job/Bits", "<init>", "(I)V"⟩ : MethodName)) rfl hown (hw _ (List.mem_of_getElem? (i := 4) rfl)) (hw _ (List.mem_of_getElem? (i := 5) rfl)) (hw _ (List.mem_of_getElem? (i := 3) rfl)) (hw _ (List.mem_of_getElem? (i := 6) rfl)) (by decide) (b := b10) (W := 1) (own_c1 l Z a0 hw b10 z g_z h10 n0 xZs12 n0_b10 xO11 A10 xF13 xF14) rfl rfl e10 (by decide) (by decide) (g := (mkF m 158 #[.val (.int r0), .val (.int r1), .val (.int r2), .val (.int r3), .val (.int r4), .val (.int r5), .val (.int z), .val (.int oA), .val (.int oB), .val (.int oC), .val (.int ia), .val (.int ib), .val (.int ic), .val (.int fr), .val (.int en), .unset, .unset, .unset] [(.int z), (.ref b10), (.ref b10)])) rfl (by rw [hml]; rfl) (argsL := [(.int z)]) (rest := [(.ref b10)]) (lenOf own_pd0 rfl) rfl (Nat.le_of_eq rfl) (hb hby at_158) rfl (by decide) (by decide)
  obtain ⟨rfl, H0, O9, N9⟩ := hQ15
  refine Gd.go (fun _ w_k => st15 _ w_k) ?_
  show Gd _ _ _ _ (T15.setTop (mkF m 161 #[.val (.int r0), .val (.int r1), .val (.int r2), .val (.int r3), .val (.int r4), .val (.int r5), .val (.int z), .val (.int oA), .val (.int oB), .val (.int oC), .val (.int ia), .val (.int ib), .val (.int ic), .val (.int fr), .val (.int en), .unset, .unset, .unset] [(.ref b10)]))
  have NN0 := Fr.app N0 N9
  have B0 : ∀ j, own_bit (fun _ => 0) j = false := fun j => by unfold own_bit; show (0#64).getLsbD _ = false; simp
  refine Gd.go (fun _ w_k => XS.astore X15.here hx rfl (hb hby at_161) rfl rfl (l' := #[.val (.int r0), .val (.int r1), .val (.int r2), .val (.int r3), .val (.int r4), .val (.int r5), .val (.int z), .val (.int oA), .val (.int oB), .val (.int oC), .val (.int ia), .val (.int ib), .val (.int ic), .val (.int fr), .val (.int en), .val (.ref b10), .unset, .unset]) rfl w_k) ?_
  show Gd _ _ _ _ (T15.setTop (mkF m 163 #[.val (.int r0), .val (.int r1), .val (.int r2), .val (.int r3), .val (.int r4), .val (.int r5), .val (.int z), .val (.int oA), .val (.int oB), .val (.int oC), .val (.int ia), .val (.int ib), .val (.int ic), .val (.int fr), .val (.int en), .val (.ref b10), .unset, .unset] []))
  refine Gd.viaA (A := fun y : State × List Loc × (Nat → Int64) => Stand pg l ev room_1 s_ m #[(.int r0), (.int r1), (.int r2), (.int r3), (.int r4), (.int r5)] bl mt cd y.1 y.2.1 2 6 ∧ own_B Z y.1.heap b10 n0 ((z + (63 : Int32)) / (64 : Int32)).toNatClampNeg y.2.2 ∧ Old Z n0 y.1.heap ∧ Fr n0 y.2.1 ∧ ∀ j, own_bit y.2.2 j = (own_in1 oA ia j)) (S' := fun y => y.1.setTop (mkF m 175 #[.val (.int r0), .val (.int r1), .val (.int r2), .val (.int r3), .val (.int r4), .val (.int r5), .val (.int z), .val (.int oA), .val (.int oB), .val (.int oC), .val (.int ia), .val (.int ib), .val (.int ic), .val (.int fr), .val (.int en), .val (.ref b10), .unset, .unset] [])) (fun J => ?_) (fun y hy => ?_)
  · refine Gd.go (fun _ w_k => XS.iload X15.here hx rfl (hb hby at_163) rfl w_k) ?_
    show Gd _ _ _ _ (T15.setTop (mkF m 165 #[.val (.int r0), .val (.int r1), .val (.int r2), .val (.int r3), .val (.int r4), .val (.int r5), .val (.int z), .val (.int oA), .val (.int oB), .val (.int oC), .val (.int ia), .val (.int ib), .val (.int ic), .val (.int fr), .val (.int en), .val (.ref b10), .unset, .unset] [(.int oA)]))
    by_cases hc16 : oA = (0 : Int32)
    · refine Gd.go (fun _ w_k => XS.ifYes X15.here hx rfl (pc0 := 165) (pc' := 175) rfl (hb hby at_165) rfl ((if0 _ _).trans (teq hc16).1) (by decide) (by decide) w_k) ?_
      show Gd _ _ _ _ (T15.setTop (mkF m 175 #[.val (.int r0), .val (.int r1), .val (.int r2), .val (.int r3), .val (.int r4), .val (.int r5), .val (.int z), .val (.int oA), .val (.int oB), .val (.int oC), .val (.int ia), .val (.int ib), .val (.int ic), .val (.int fr), .val (.int en), .val (.ref b10), .unset, .unset] []))
      exact J ⟨T15, _, (fun _ => 0)⟩ ⟨X15, H0, O9, NN0, fun j => by rw [B0 j]; simp [own_in1, hc16]⟩
    · refine Gd.go (fun _ w_k => XS.ifNo X15.here hx rfl (hb hby at_165) rfl ((if0 _ _).trans (feq hc16).1) w_k) ?_
      show Gd _ _ _ _ (T15.setTop (mkF m 168 #[.val (.int r0), .val (.int r1), .val (.int r2), .val (.int r3), .val (.int r4), .val (.int r5), .val (.int z), .val (.int oA), .val (.int oB), .val (.int oC), .val (.int ia), .val (.int ib), .val (.int ic), .val (.int fr), .val (.int en), .val (.ref b10), .unset, .unset] []))
      refine Gd.go (fun _ w_k => XS.aload X15.here hx rfl (hb hby at_168) rfl rfl w_k) ?_
      show Gd _ _ _ _ (T15.setTop (mkF m 170 #[.val (.int r0), .val (.int r1), .val (.int r2), .val (.int r3), .val (.int r4), .val (.int r5), .val (.int z), .val (.int oA), .val (.int oB), .val (.int oC), .val (.int ia), .val (.int ib), .val (.int ic), .val (.int fr), .val (.int en), .val (.ref b10), .unset, .unset] [(.ref b10)]))
      refine Gd.go (fun _ w_k => XS.iload X15.here hx rfl (hb hby at_170) rfl w_k) ?_
      show Gd _ _ _ _ (T15.setTop (mkF m 172 #[.val (.int r0), .val (.int r1), .val (.int r2), .val (.int r3), .val (.int r4), .val (.int r5), .val (.int z), .val (.int oA), .val (.int oB), .val (.int oC), .val (.int ia), .val (.int ib), .val (.int ic), .val (.int fr), .val (.int en), .val (.ref b10), .unset, .unset] [(.int ia), (.ref b10)]))
      obtain ⟨v18, T18, L18, X18, hQ18, st18⟩ := own_callV X15 hx hZ (C := "com/example/nearfield/nearfield/job/Bits") (y := (⟨"com/example/nearfield/nearfield/job/Bits", "set", "(I)V"⟩ : MethodName)) hown (hw _ (List.mem_of_getElem? (i := 24) rfl)) (hw _ (List.mem_of_getElem? (i := 25) rfl)) (hw _ (List.mem_of_getElem? (i := 27) rfl)) (hw _ (List.mem_of_getElem? (i := 26) rfl)) (hw _ (List.mem_of_getElem? (i := 3) rfl)) (hw _ (List.mem_of_getElem? (i := 28) rfl)) (by decide) H0.exa (W := 0) (own_c5 l Z a0 hw b10 ia ((z + (63 : Int32)) / (64 : Int32)).toNatClampNeg (fun _ => 0) T15.heap n0 O9 H0 ⟨g_ia.1, own_fit g_z (g_ia.2 (g_oA.resolve_left hc16))⟩) rfl rfl rfl (by decide) (by decide) (g := (mkF m 172 #[.val (.int r0), .val (.int r1), .val (.int r2), .val (.int r3), .val (.int r4), .val (.int r5), .val (.int z), .val (.int oA), .val (.int oB), .val (.int oC), .val (.int ia), .val (.int ib), .val (.int ic), .val (.int fr), .val (.int en), .val (.ref b10), .unset, .unset] [(.int ia), (.ref b10)])) rfl (by rw [hml]; rfl) (argsL := [(.int ia)]) (rest := []) (lenOf own_pd0 rfl) rfl (Nat.le_of_eq rfl) (hb hby at_172) rfl (by decide) (by decide)
      obtain ⟨rfl, ⟨wc17, Hc17, Sc17⟩, Oc17, Nc17⟩ := hQ18
      refine Gd.go (fun _ w_k => st18 _ w_k) ?_
      show Gd _ _ _ _ (T18.setTop (mkF m 175 #[.val (.int r0), .val (.int r1), .val (.int r2), .val (.int r3), .val (.int r4), .val (.int r5), .val (.int z), .val (.int oA), .val (.int oB), .val (.int oC), .val (.int ia), .val (.int ib), .val (.int ic), .val (.int fr), .val (.int en), .val (.ref b10), .unset, .unset] []))
      have NNc17 := Fr.app NN0 Nc17
      exact J ⟨T18, _, wc17⟩ ⟨X18, Hc17, Oc17, NNc17, fun j => by rw [Sc17 j, B0 j]; simp [own_in1, hc16]⟩
  obtain ⟨T_0, L_0, w_0⟩ := y
  obtain ⟨X_0, H_0, O_0, N_0, B_0⟩ := hy
  dsimp only at X_0 H_0 O_0 N_0 B_0
  show Gd _ _ _ _ (T_0.setTop (mkF m 175 #[.val (.int r0), .val (.int r1), .val (.int r2), .val (.int r3), .val (.int r4), .val (.int r5), .val (.int z), .val (.int oA), .val (.int oB), .val (.int oC), .val (.int ia), .val (.int ib), .val (.int ic), .val (.int fr), .val (.int en), .val (.ref b10), .unset, .unset] []))
  refine Gd.viaA (A := fun y : State × List Loc × (Nat → Int64) => Stand pg l ev room_1 s_ m #[(.int r0), (.int r1), (.int r2), (.int r3), (.int r4), (.int r5)] bl mt cd y.1 y.2.1 2 6 ∧ own_B Z y.1.heap b10 n0 ((z + (63 : Int32)) / (64 : Int32)).toNatClampNeg y.2.2 ∧ Old Z n0 y.1.heap ∧ Fr n0 y.2.1 ∧ ∀ j, own_bit y.2.2 j = (own_in1 oA ia j || own_in1 oB ib j)) (S' := fun y => y.1.setTop (mkF m 187 #[.val (.int r0), .val (.int r1), .val (.int r2), .val (.int r3), .val (.int r4), .val (.int r5), .val (.int z), .val (.int oA), .val (.int oB), .val (.int oC), .val (.int ia), .val (.int ib), .val (.int ic), .val (.int fr), .val (.int en), .val (.ref b10), .unset, .unset] [])) (fun J => ?_) (fun y hy => ?_)
  · refine Gd.go (fun _ w_k => XS.iload X_0.here hx rfl (hb hby at_175) rfl w_k) ?_
    show Gd _ _ _ _ (T_0.setTop (mkF m 177 #[.val (.int r0), .val (.int r1), .val (.int r2), .val (.int r3), .val (.int r4), .val (.int r5), .val (.int z), .val (.int oA), .val (.int oB), .val (.int oC), .val (.int ia), .val (.int ib), .val (.int ic), .val (.int fr), .val (.int en), .val (.ref b10), .unset, .unset] [(.int oB)]))
    by_cases hc19 : oB = (0 : Int32)
    · refine Gd.go (fun _ w_k => XS.ifYes X_0.here hx rfl (pc0 := 177) (pc' := 187) rfl (hb hby at_177) rfl ((if0 _ _).trans (teq hc19).1) (by decide) (by decide) w_k) ?_
      show Gd _ _ _ _ (T_0.setTop (mkF m 187 #[.val (.int r0), .val (.int r1), .val (.int r2), .val (.int r3), .val (.int r4), .val (.int r5), .val (.int z), .val (.int oA), .val (.int oB), .val (.int oC), .val (.int ia), .val (.int ib), .val (.int ic), .val (.int fr), .val (.int en), .val (.ref b10), .unset, .unset] []))
      exact J ⟨T_0, _, w_0⟩ ⟨X_0, H_0, O_0, N_0, fun j => by rw [B_0 j]; simp [own_in1, hc19]⟩
    · refine Gd.go (fun _ w_k => XS.ifNo X_0.here hx rfl (hb hby at_177) rfl ((if0 _ _).trans (feq hc19).1) w_k) ?_
      show Gd _ _ _ _ (T_0.setTop (mkF m 180 #[.val (.int r0), .val (.int r1), .val (.int r2), .val (.int r3), .val (.int r4), .val (.int r5), .val (.int z), .val (.int oA), .val (.int oB), .val (.int oC), .val (.int ia), .val (.int ib), .val (.int ic), .val (.int fr), .val (.int en), .val (.ref b10), .unset, .unset] []))
      refine Gd.go (fun _ w_k => XS.aload X_0.here hx rfl (hb hby at_180) rfl rfl w_k) ?_
      show Gd _ _ _ _ (T_0.setTop (mkF m 182 #[.val (.int r0), .val (.int r1), .val (.int r2), .val (.int r3), .val (.int r4), .val (.int r5), .val (.int z), .val (.int oA), .val (.int oB), .val (.int oC), .val (.int ia), .val (.int ib), .val (.int ic), .val (.int fr), .val (.int en), .val (.ref b10), .unset, .unset] [(.ref b10)]))
      refine Gd.go (fun _ w_k => XS.iload X_0.here hx rfl (hb hby at_182) rfl w_k) ?_
      show Gd _ _ _ _ (T_0.setTop (mkF m 184 #[.val (.int r0), .val (.int r1), .val (.int r2), .val (.int r3), .val (.int r4), .val (.int r5), .val (.int z), .val (.int oA), .val (.int oB), .val (.int oC), .val (.int ia), .val (.int ib), .val (.int ic), .val (.int fr), .val (.int en), .val (.ref b10), .unset, .unset] [(.int ib), (.ref b10)]))
      obtain ⟨v21, T21, L21, X21, hQ21, st21⟩ := own_callV X_0 hx hZ (C := "com/example/nearfield/nearfield/job/Bits") (y := (⟨"com/example/nearfield/nearfield/job/Bits", "set", "(I)V"⟩ : MethodName)) hown (hw _ (List.mem_of_getElem? (i := 24) rfl)) (hw _ (List.mem_of_getElem? (i := 25) rfl)) (hw _ (List.mem_of_getElem? (i := 27) rfl)) (hw _ (List.mem_of_getElem? (i := 26) rfl)) (hw _ (List.mem_of_getElem? (i := 3) rfl)) (hw _ (List.mem_of_getElem? (i := 28) rfl)) (by decide) H_0.exa (W := 0) (own_c5 l Z a0 hw b10 ib ((z + (63 : Int32)) / (64 : Int32)).toNatClampNeg w_0 T_0.heap n0 O_0 H_0 ⟨g_ib.1, own_fit g_z (g_ib.2 (g_oB.resolve_left hc19))⟩) rfl rfl rfl (by decide) (by decide) (g := (mkF m 184 #[.val (.int r0), .val (.int r1), .val (.int r2), .val (.int r3), .val (.int r4), .val (.int r5), .val (.int z), .val (.int oA), .val (.int oB), .val (.int oC), .val (.int ia), .val (.int ib), .val (.int ic), .val (.int fr), .val (.int en), .val (.ref b10), .unset, .unset] [(.int ib), (.ref b10)])) rfl (by rw [hml]; rfl) (argsL := [(.int ib)]) (rest := []) (lenOf own_pd0 rfl) rfl (Nat.le_of_eq rfl) (hb hby at_184) rfl (by decide) (by decide)
      obtain ⟨rfl, ⟨wc20, Hc20, Sc20⟩, Oc20, Nc20⟩ := hQ21
      refine Gd.go (fun _ w_k => st21 _ w_k) ?_
      show Gd _ _ _ _ (T21.setTop (mkF m 187 #[.val (.int r0), .val (.int r1), .val (.int r2), .val (.int r3), .val (.int r4), .val (.int r5), .val (.int z), .val (.int oA), .val (.int oB), .val (.int oC), .val (.int ia), .val (.int ib), .val (.int ic), .val (.int fr), .val (.int en), .val (.ref b10), .unset, .unset] []))
      have NNc20 := Fr.app N_0 Nc20
      exact J ⟨T21, _, wc20⟩ ⟨X21, Hc20, Oc20, NNc20, fun j => by rw [Sc20 j, B_0 j]; simp [own_in1, hc19]⟩
  obtain ⟨T_1, L_1, w_1⟩ := y
  obtain ⟨X_1, H_1, O_1, N_1, B_1⟩ := hy
  dsimp only at X_1 H_1 O_1 N_1 B_1
  show Gd _ _ _ _ (T_1.setTop (mkF m 187 #[.val (.int r0), .val (.int r1), .val (.int r2), .val (.int r3), .val (.int r4), .val (.int r5), .val (.int z), .val (.int oA), .val (.int oB), .val (.int oC), .val (.int ia), .val (.int ib), .val (.int ic), .val (.int fr), .val (.int en), .val (.ref b10), .unset, .unset] []))
  refine Gd.viaA (A := fun y : State × List Loc × (Nat → Int64) => Stand pg l ev room_1 s_ m #[(.int r0), (.int r1), (.int r2), (.int r3), (.int r4), (.int r5)] bl mt cd y.1 y.2.1 2 6 ∧ own_B Z y.1.heap b10 n0 ((z + (63 : Int32)) / (64 : Int32)).toNatClampNeg y.2.2 ∧ Old Z n0 y.1.heap ∧ Fr n0 y.2.1 ∧ ∀ j, own_bit y.2.2 j = (own_in1 oA ia j || own_in1 oB ib j || own_in1 oC ic j)) (S' := fun y => y.1.setTop (mkF m 199 #[.val (.int r0), .val (.int r1), .val (.int r2), .val (.int r3), .val (.int r4), .val (.int r5), .val (.int z), .val (.int oA), .val (.int oB), .val (.int oC), .val (.int ia), .val (.int ib), .val (.int ic), .val (.int fr), .val (.int en), .val (.ref b10), .unset, .unset] [])) (fun J => ?_) (fun y hy => ?_)
  · refine Gd.go (fun _ w_k => XS.iload X_1.here hx rfl (hb hby at_187) rfl w_k) ?_
    show Gd _ _ _ _ (T_1.setTop (mkF m 189 #[.val (.int r0), .val (.int r1), .val (.int r2), .val (.int r3), .val (.int r4), .val (.int r5), .val (.int z), .val (.int oA), .val (.int oB), .val (.int oC), .val (.int ia), .val (.int ib), .val (.int ic), .val (.int fr), .val (.int en), .val (.ref b10), .unset, .unset] [(.int oC)]))
    by_cases hc22 : oC = (0 : Int32)
    · refine Gd.go (fun _ w_k => XS.ifYes X_1.here hx rfl (pc0 := 189) (pc' := 199) rfl (hb hby at_189) rfl ((if0 _ _).trans (teq hc22).1) (by decide) (by decide) w_k) ?_
      show Gd _ _ _ _ (T_1.setTop (mkF m 199 #[.val (.int r0), .val (.int r1), .val (.int r2), .val (.int r3), .val (.int r4), .val (.int r5), .val (.int z), .val (.int oA), .val (.int oB), .val (.int oC), .val (.int ia), .val (.int ib), .val (.int ic), .val (.int fr), .val (.int en), .val (.ref b10), .unset, .unset] []))
      exact J ⟨T_1, _, w_1⟩ ⟨X_1, H_1, O_1, N_1, fun j => by rw [B_1 j]; simp [own_in1, hc22]⟩
    · refine Gd.go (fun _ w_k => XS.ifNo X_1.here hx rfl (hb hby at_189) rfl ((if0 _ _).trans (feq hc22).1) w_k) ?_
      show Gd _ _ _ _ (T_1.setTop (mkF m 192 #[.val (.int r0), .val (.int r1), .val (.int r2), .val (.int r3), .val (.int r4), .val (.int r5), .val (.int z), .val (.int oA), .val (.int oB), .val (.int oC), .val (.int ia), .val (.int ib), .val (.int ic), .val (.int fr), .val (.int en), .val (.ref b10), .unset, .unset] []))
      refine Gd.go (fun _ w_k => XS.aload X_1.here hx rfl (hb hby at_192) rfl rfl w_k) ?_
      show Gd _ _ _ _ (T_1.setTop (mkF m 194 #[.val (.int r0), .val (.int r1), .val (.int r2), .val (.int r3), .val (.int r4), .val (.int r5), .val (.int z), .val (.int oA), .val (.int oB), .val (.int oC), .val (.int ia), .val (.int ib), .val (.int ic), .val (.int fr), .val (.int en), .val (.ref b10), .unset, .unset] [(.ref b10)]))
      refine Gd.go (fun _ w_k => XS.iload X_1.here hx rfl (hb hby at_194) rfl w_k) ?_
      show Gd _ _ _ _ (T_1.setTop (mkF m 196 #[.val (.int r0), .val (.int r1), .val (.int r2), .val (.int r3), .val (.int r4), .val (.int r5), .val (.int z), .val (.int oA), .val (.int oB), .val (.int oC), .val (.int ia), .val (.int ib), .val (.int ic), .val (.int fr), .val (.int en), .val (.ref b10), .unset, .unset] [(.int ic), (.ref b10)]))
      obtain ⟨v24, T24, L24, X24, hQ24, st24⟩ := own_callV X_1 hx hZ (C := "com/example/nearfield/nearfield/job/Bits") (y := (⟨"com/example/nearfield/nearfield/job/Bits", "set", "(I)V"⟩ : MethodName)) hown (hw _ (List.mem_of_getElem? (i := 24) rfl)) (hw _ (List.mem_of_getElem? (i := 25) rfl)) (hw _ (List.mem_of_getElem? (i := 27) rfl)) (hw _ (List.mem_of_getElem? (i := 26) rfl)) (hw _ (List.mem_of_getElem? (i := 3) rfl)) (hw _ (List.mem_of_getElem? (i := 28) rfl)) (by decide) H_1.exa (W := 0) (own_c5 l Z a0 hw b10 ic ((z + (63 : Int32)) / (64 : Int32)).toNatClampNeg w_1 T_1.heap n0 O_1 H_1 ⟨g_ic.1, own_fit g_z (g_ic.2 (g_oC.resolve_left hc22))⟩) rfl rfl rfl (by decide) (by decide) (g := (mkF m 196 #[.val (.int r0), .val (.int r1), .val (.int r2), .val (.int r3), .val (.int r4), .val (.int r5), .val (.int z), .val (.int oA), .val (.int oB), .val (.int oC), .val (.int ia), .val (.int ib), .val (.int ic), .val (.int fr), .val (.int en), .val (.ref b10), .unset, .unset] [(.int ic), (.ref b10)])) rfl (by rw [hml]; rfl) (argsL := [(.int ic)]) (rest := []) (lenOf own_pd0 rfl) rfl (Nat.le_of_eq rfl) (hb hby at_196) rfl (by decide) (by decide)
      obtain ⟨rfl, ⟨wc23, Hc23, Sc23⟩, Oc23, Nc23⟩ := hQ24
      refine Gd.go (fun _ w_k => st24 _ w_k) ?_
      show Gd _ _ _ _ (T24.setTop (mkF m 199 #[.val (.int r0), .val (.int r1), .val (.int r2), .val (.int r3), .val (.int r4), .val (.int r5), .val (.int z), .val (.int oA), .val (.int oB), .val (.int oC), .val (.int ia), .val (.int ib), .val (.int ic), .val (.int fr), .val (.int en), .val (.ref b10), .unset, .unset] []))
      have NNc23 := Fr.app N_1 Nc23
      exact J ⟨T24, _, wc23⟩ ⟨X24, Hc23, Oc23, NNc23, fun j => by rw [Sc23 j, B_1 j]; simp [own_in1, hc22]⟩
  obtain ⟨T_2, L_2, w_2⟩ := y
  obtain ⟨X_2, H_2, O_2, N_2, B_2⟩ := hy
  dsimp only at X_2 H_2 O_2 N_2 B_2
  show Gd _ _ _ _ (T_2.setTop (mkF m 199 #[.val (.int r0), .val (.int r1), .val (.int r2), .val (.int r3), .val (.int r4), .val (.int r5), .val (.int z), .val (.int oA), .val (.int oB), .val (.int oC), .val (.int ia), .val (.int ib), .val (.int ic), .val (.int fr), .val (.int en), .val (.ref b10), .unset, .unset] []))
  refine Gd.go (fun _ w_k => XS.aload X_2.here hx rfl (hb hby at_199) rfl rfl w_k) ?_
  show Gd _ _ _ _ (T_2.setTop (mkF m 201 #[.val (.int r0), .val (.int r1), .val (.int r2), .val (.int r3), .val (.int r4), .val (.int r5), .val (.int z), .val (.int oA), .val (.int oB), .val (.int oC), .val (.int ia), .val (.int ib), .val (.int ic), .val (.int fr), .val (.int en), .val (.ref b10), .unset, .unset] [(.ref b10)]))
  refine Gd.go (fun _ w_k => XS.iload X_2.here hx rfl (hb hby at_201) rfl w_k) ?_
  show Gd _ _ _ _ (T_2.setTop (mkF m 203 #[.val (.int r0), .val (.int r1), .val (.int r2), .val (.int r3), .val (.int r4), .val (.int r5), .val (.int z), .val (.int oA), .val (.int oB), .val (.int oC), .val (.int ia), .val (.int ib), .val (.int ic), .val (.int fr), .val (.int en), .val (.ref b10), .unset, .unset] [(.int fr), (.ref b10)]))
  refine Gd.go (fun _ w_k => XS.iload X_2.here hx rfl (hb hby at_203) rfl w_k) ?_
  show Gd _ _ _ _ (T_2.setTop (mkF m 205 #[.val (.int r0), .val (.int r1), .val (.int r2), .val (.int r3), .val (.int r4), .val (.int r5), .val (.int z), .val (.int oA), .val (.int oB), .val (.int oC), .val (.int ia), .val (.int ib), .val (.int ic), .val (.int fr), .val (.int en), .val (.ref b10), .unset, .unset] [(.int en), (.int fr), (.ref b10)]))
  obtain ⟨v25, T25, L25, X25, hQ25, st25⟩ := own_callV X_2 hx hZ (C := "com/example/nearfield/nearfield/job/Bits") (y := (⟨"com/example/nearfield/nearfield/job/Bits", "next", "(II)I"⟩ : MethodName)) hown (hw _ (List.mem_of_getElem? (i := 15) rfl)) (hw _ (List.mem_of_getElem? (i := 16) rfl)) (hw _ (List.mem_of_getElem? (i := 18) rfl)) (hw _ (List.mem_of_getElem? (i := 17) rfl)) (hw _ (List.mem_of_getElem? (i := 3) rfl)) (hw _ (List.mem_of_getElem? (i := 19) rfl)) (by decide) H_2.exa (W := 0) (own_c3 l Z a0 hw b10 fr en ((z + (63 : Int32)) / (64 : Int32)).toNatClampNeg (own_big g_z) w_2 Lw T_2.heap n0 H_2 (S0.ext O_2.2) (A0.ext O_2.2) g_fr.1 (own_fit2 g_z g_en.2)) rfl rfl rfl (by decide) (by decide) (g := (mkF m 205 #[.val (.int r0), .val (.int r1), .val (.int r2), .val (.int r3), .val (.int r4), .val (.int r5), .val (.int z), .val (.int oA), .val (.int oB), .val (.int oC), .val (.int ia), .val (.int ib), .val (.int ic), .val (.int fr), .val (.int en), .val (.ref b10), .unset, .unset] [(.int en), (.int fr), (.ref b10)])) rfl (by rw [hml]; rfl) (argsL := [(.int fr), (.int en)]) (rest := []) (lenOf own_pd1 rfl) rfl (Nat.le_of_eq rfl) (hb hby at_205) rfl (by decide) (by decide)
  obtain ⟨⟨vr, rfl, hvr⟩, eh25, rfl⟩ := hQ25
  refine Gd.go (fun _ w_k => st25 _ w_k) ?_
  show Gd _ _ _ _ (T25.setTop (mkF m 208 #[.val (.int r0), .val (.int r1), .val (.int r2), .val (.int r3), .val (.int r4), .val (.int r5), .val (.int z), .val (.int oA), .val (.int oB), .val (.int oC), .val (.int ia), .val (.int ib), .val (.int ic), .val (.int fr), .val (.int en), .val (.ref b10), .unset, .unset] [(.int vr)]))
  rw [List.append_nil] at X25
  refine Gd.go (fun _ w_k => XS.istore X25.here hx rfl (hb hby at_208) rfl (l' := #[.val (.int r0), .val (.int r1), .val (.int r2), .val (.int r3), .val (.int r4), .val (.int r5), .val (.int z), .val (.int oA), .val (.int oB), .val (.int oC), .val (.int ia), .val (.int ib), .val (.int ic), .val (.int fr), .val (.int en), .val (.ref b10), .val (.int vr), .unset]) rfl w_k) ?_
  show Gd _ _ _ _ (T25.setTop (mkF m 210 #[.val (.int r0), .val (.int r1), .val (.int r2), .val (.int r3), .val (.int r4), .val (.int r5), .val (.int z), .val (.int oA), .val (.int oB), .val (.int oC), .val (.int ia), .val (.int ib), .val (.int ic), .val (.int fr), .val (.int en), .val (.ref b10), .val (.int vr), .unset] []))
  refine Gd.go (fun _ w_k => XS.iconst X25.here hx rfl (hb hby at_210) w_k) ?_
  show Gd _ _ _ _ (T25.setTop (mkF m 211 #[.val (.int r0), .val (.int r1), .val (.int r2), .val (.int r3), .val (.int r4), .val (.int r5), .val (.int z), .val (.int oA), .val (.int oB), .val (.int oC), .val (.int ia), .val (.int ib), .val (.int ic), .val (.int fr), .val (.int en), .val (.ref b10), .val (.int vr), .unset] [(.int (-1 : Int32))]))
  refine Gd.go (fun _ w_k => XS.istore X25.here hx rfl (hb hby at_211) rfl (l' := #[.val (.int r0), .val (.int r1), .val (.int r2), .val (.int r3), .val (.int r4), .val (.int r5), .val (.int z), .val (.int oA), .val (.int oB), .val (.int oC), .val (.int ia), .val (.int ib), .val (.int ic), .val (.int fr), .val (.int en), .val (.ref b10), .val (.int vr), .val (.int (-1 : Int32))]) rfl w_k) ?_
  show Gd _ _ _ _ (T25.setTop (mkF m 213 #[.val (.int r0), .val (.int r1), .val (.int r2), .val (.int r3), .val (.int r4), .val (.int r5), .val (.int z), .val (.int oA), .val (.int oB), .val (.int oC), .val (.int ia), .val (.int ib), .val (.int ic), .val (.int fr), .val (.int en), .val (.ref b10), .val (.int vr), .val (.int (-1 : Int32))] []))
  refine Gd.go (fun _ w_k => XS.iload X25.here hx rfl (hb hby at_213) rfl w_k) ?_
  show Gd _ _ _ _ (T25.setTop (mkF m 215 #[.val (.int r0), .val (.int r1), .val (.int r2), .val (.int r3), .val (.int r4), .val (.int r5), .val (.int z), .val (.int oA), .val (.int oB), .val (.int oC), .val (.int ia), .val (.int ib), .val (.int ic), .val (.int fr), .val (.int en), .val (.ref b10), .val (.int vr), .val (.int (-1 : Int32))] [(.int (-1 : Int32))]))
  refine Gd.go (fun _ w_k => XS.iload X25.here hx rfl (hb hby at_215) rfl w_k) ?_
  show Gd _ _ _ _ (T25.setTop (mkF m 217 #[.val (.int r0), .val (.int r1), .val (.int r2), .val (.int r3), .val (.int r4), .val (.int r5), .val (.int z), .val (.int oA), .val (.int oB), .val (.int oC), .val (.int ia), .val (.int ib), .val (.int ic), .val (.int fr), .val (.int en), .val (.ref b10), .val (.int vr), .val (.int (-1 : Int32))] [(.int oA), (.int (-1 : Int32))]))
  refine Gd.go (fun _ w_k => XS.iload X25.here hx rfl (hb hby at_217) rfl w_k) ?_
  show Gd _ _ _ _ (T25.setTop (mkF m 219 #[.val (.int r0), .val (.int r1), .val (.int r2), .val (.int r3), .val (.int r4), .val (.int r5), .val (.int z), .val (.int oA), .val (.int oB), .val (.int oC), .val (.int ia), .val (.int ib), .val (.int ic), .val (.int fr), .val (.int en), .val (.ref b10), .val (.int vr), .val (.int (-1 : Int32))] [(.int ia), (.int oA), (.int (-1 : Int32))]))
  refine Gd.go (fun _ w_k => XS.iload X25.here hx rfl (hb hby at_219) rfl w_k) ?_
  show Gd _ _ _ _ (T25.setTop (mkF m 221 #[.val (.int r0), .val (.int r1), .val (.int r2), .val (.int r3), .val (.int r4), .val (.int r5), .val (.int z), .val (.int oA), .val (.int oB), .val (.int oC), .val (.int ia), .val (.int ib), .val (.int ic), .val (.int fr), .val (.int en), .val (.ref b10), .val (.int vr), .val (.int (-1 : Int32))] [(.int fr), (.int ia), (.int oA), (.int (-1 : Int32))]))
  refine Gd.go (fun _ w_k => XS.iload X25.here hx rfl (hb hby at_221) rfl w_k) ?_
  show Gd _ _ _ _ (T25.setTop (mkF m 223 #[.val (.int r0), .val (.int r1), .val (.int r2), .val (.int r3), .val (.int r4), .val (.int r5), .val (.int z), .val (.int oA), .val (.int oB), .val (.int oC), .val (.int ia), .val (.int ib), .val (.int ic), .val (.int fr), .val (.int en), .val (.ref b10), .val (.int vr), .val (.int (-1 : Int32))] [(.int en), (.int fr), (.int ia), (.int oA), (.int (-1 : Int32))]))
  obtain ⟨T26, X26, e26, st26⟩ := own_callSP X25 hx hZ (y := (⟨"com/example/nearfield/nearfield/job/BitsNextPinLaw", "pick", "(IZIII)I"⟩ : MethodName)) hown (hw _ (List.mem_of_getElem? (i := 20) rfl)) (hw _ (List.mem_of_getElem? (i := 21) rfl)) (hw _ (List.mem_of_getElem? (i := 22) rfl)) (hw _ (List.mem_of_getElem? (i := 23) rfl)) (by decide) (W := 0) (own_c4 l Z a0 hw (-1 : Int32) oA ia fr en T25.heap) rfl rfl rfl (by decide) (by decide) (g := (mkF m 223 #[.val (.int r0), .val (.int r1), .val (.int r2), .val (.int r3), .val (.int r4), .val (.int r5), .val (.int z), .val (.int oA), .val (.int oB), .val (.int oC), .val (.int ia), .val (.int ib), .val (.int ic), .val (.int fr), .val (.int en), .val (.ref b10), .val (.int vr), .val (.int (-1 : Int32))] [(.int en), (.int fr), (.int ia), (.int oA), (.int (-1 : Int32))])) rfl (by rw [hml]; rfl) (argsL := [(.int (-1 : Int32)), (.int oA), (.int ia), (.int fr), (.int en)]) (rest := []) (lenOf own_pd2 rfl) rfl (Nat.le_of_eq rfl) (hb hby at_223) rfl
  refine Gd.go (fun _ w_k => st26 _ w_k) ?_
  show Gd _ _ _ _ (T26.setTop (mkF m 226 #[.val (.int r0), .val (.int r1), .val (.int r2), .val (.int r3), .val (.int r4), .val (.int r5), .val (.int z), .val (.int oA), .val (.int oB), .val (.int oC), .val (.int ia), .val (.int ib), .val (.int ic), .val (.int fr), .val (.int en), .val (.ref b10), .val (.int vr), .val (.int (-1 : Int32))] [(.int (own_pick (-1 : Int32) oA ia fr en))]))
  refine Gd.go (fun _ w_k => XS.istore X26.here hx rfl (hb hby at_226) rfl (l' := #[.val (.int r0), .val (.int r1), .val (.int r2), .val (.int r3), .val (.int r4), .val (.int r5), .val (.int z), .val (.int oA), .val (.int oB), .val (.int oC), .val (.int ia), .val (.int ib), .val (.int ic), .val (.int fr), .val (.int en), .val (.ref b10), .val (.int vr), .val (.int (own_pick (-1 : Int32) oA ia fr en))]) rfl w_k) ?_
  show Gd _ _ _ _ (T26.setTop (mkF m 228 #[.val (.int r0), .val (.int r1), .val (.int r2), .val (.int r3), .val (.int r4), .val (.int r5), .val (.int z), .val (.int oA), .val (.int oB), .val (.int oC), .val (.int ia), .val (.int ib), .val (.int ic), .val (.int fr), .val (.int en), .val (.ref b10), .val (.int vr), .val (.int (own_pick (-1 : Int32) oA ia fr en))] []))
  refine Gd.go (fun _ w_k => XS.iload X26.here hx rfl (hb hby at_228) rfl w_k) ?_
  show Gd _ _ _ _ (T26.setTop (mkF m 230 #[.val (.int r0), .val (.int r1), .val (.int r2), .val (.int r3), .val (.int r4), .val (.int r5), .val (.int z), .val (.int oA), .val (.int oB), .val (.int oC), .val (.int ia), .val (.int ib), .val (.int ic), .val (.int fr), .val (.int en), .val (.ref b10), .val (.int vr), .val (.int (own_pick (-1 : Int32) oA ia fr en))] [(.int (own_pick (-1 : Int32) oA ia fr en))]))
  refine Gd.go (fun _ w_k => XS.iload X26.here hx rfl (hb hby at_230) rfl w_k) ?_
  show Gd _ _ _ _ (T26.setTop (mkF m 232 #[.val (.int r0), .val (.int r1), .val (.int r2), .val (.int r3), .val (.int r4), .val (.int r5), .val (.int z), .val (.int oA), .val (.int oB), .val (.int oC), .val (.int ia), .val (.int ib), .val (.int ic), .val (.int fr), .val (.int en), .val (.ref b10), .val (.int vr), .val (.int (own_pick (-1 : Int32) oA ia fr en))] [(.int oB), (.int (own_pick (-1 : Int32) oA ia fr en))]))
  refine Gd.go (fun _ w_k => XS.iload X26.here hx rfl (hb hby at_232) rfl w_k) ?_
  show Gd _ _ _ _ (T26.setTop (mkF m 234 #[.val (.int r0), .val (.int r1), .val (.int r2), .val (.int r3), .val (.int r4), .val (.int r5), .val (.int z), .val (.int oA), .val (.int oB), .val (.int oC), .val (.int ia), .val (.int ib), .val (.int ic), .val (.int fr), .val (.int en), .val (.ref b10), .val (.int vr), .val (.int (own_pick (-1 : Int32) oA ia fr en))] [(.int ib), (.int oB), (.int (own_pick (-1 : Int32) oA ia fr en))]))
  refine Gd.go (fun _ w_k => XS.iload X26.here hx rfl (hb hby at_234) rfl w_k) ?_
  show Gd _ _ _ _ (T26.setTop (mkF m 236 #[.val (.int r0), .val (.int r1), .val (.int r2), .val (.int r3), .val (.int r4), .val (.int r5), .val (.int z), .val (.int oA), .val (.int oB), .val (.int oC), .val (.int ia), .val (.int ib), .val (.int ic), .val (.int fr), .val (.int en), .val (.ref b10), .val (.int vr), .val (.int (own_pick (-1 : Int32) oA ia fr en))] [(.int fr), (.int ib), (.int oB), (.int (own_pick (-1 : Int32) oA ia fr en))]))
  refine Gd.go (fun _ w_k => XS.iload X26.here hx rfl (hb hby at_236) rfl w_k) ?_
  show Gd _ _ _ _ (T26.setTop (mkF m 238 #[.val (.int r0), .val (.int r1), .val (.int r2), .val (.int r3), .val (.int r4), .val (.int r5), .val (.int z), .val (.int oA), .val (.int oB), .val (.int oC), .val (.int ia), .val (.int ib), .val (.int ic), .val (.int fr), .val (.int en), .val (.ref b10), .val (.int vr), .val (.int (own_pick (-1 : Int32) oA ia fr en))] [(.int en), (.int fr), (.int ib), (.int oB), (.int (own_pick (-1 : Int32) oA ia fr en))]))
  obtain ⟨T27, X27, e27, st27⟩ := own_callSP X26 hx hZ (y := (⟨"com/example/nearfield/nearfield/job/BitsNextPinLaw", "pick", "(IZIII)I"⟩ : MethodName)) hown (hw _ (List.mem_of_getElem? (i := 20) rfl)) (hw _ (List.mem_of_getElem? (i := 21) rfl)) (hw _ (List.mem_of_getElem? (i := 22) rfl)) (hw _ (List.mem_of_getElem? (i := 23) rfl)) (by decide) (W := 0) (own_c4 l Z a0 hw (own_pick (-1 : Int32) oA ia fr en) oB ib fr en T25.heap) rfl rfl e26 (by decide) (by decide) (g := (mkF m 238 #[.val (.int r0), .val (.int r1), .val (.int r2), .val (.int r3), .val (.int r4), .val (.int r5), .val (.int z), .val (.int oA), .val (.int oB), .val (.int oC), .val (.int ia), .val (.int ib), .val (.int ic), .val (.int fr), .val (.int en), .val (.ref b10), .val (.int vr), .val (.int (own_pick (-1 : Int32) oA ia fr en))] [(.int en), (.int fr), (.int ib), (.int oB), (.int (own_pick (-1 : Int32) oA ia fr en))])) rfl (by rw [hml]; rfl) (argsL := [(.int (own_pick (-1 : Int32) oA ia fr en)), (.int oB), (.int ib), (.int fr), (.int en)]) (rest := []) (lenOf own_pd2 rfl) rfl (Nat.le_of_eq rfl) (hb hby at_238) rfl
  refine Gd.go (fun _ w_k => st27 _ w_k) ?_
  show Gd _ _ _ _ (T27.setTop (mkF m 241 #[.val (.int r0), .val (.int r1), .val (.int r2), .val (.int r3), .val (.int r4), .val (.int r5), .val (.int z), .val (.int oA), .val (.int oB), .val (.int oC), .val (.int ia), .val (.int ib), .val (.int ic), .val (.int fr), .val (.int en), .val (.ref b10), .val (.int vr), .val (.int (own_pick (-1 : Int32) oA ia fr en))] [(.int (own_pick (own_pick (-1 : Int32) oA ia fr en) oB ib fr en))]))
  refine Gd.go (fun _ w_k => XS.istore X27.here hx rfl (hb hby at_241) rfl (l' := #[.val (.int r0), .val (.int r1), .val (.int r2), .val (.int r3), .val (.int r4), .val (.int r5), .val (.int z), .val (.int oA), .val (.int oB), .val (.int oC), .val (.int ia), .val (.int ib), .val (.int ic), .val (.int fr), .val (.int en), .val (.ref b10), .val (.int vr), .val (.int (own_pick (own_pick (-1 : Int32) oA ia fr en) oB ib fr en))]) rfl w_k) ?_
  show Gd _ _ _ _ (T27.setTop (mkF m 243 #[.val (.int r0), .val (.int r1), .val (.int r2), .val (.int r3), .val (.int r4), .val (.int r5), .val (.int z), .val (.int oA), .val (.int oB), .val (.int oC), .val (.int ia), .val (.int ib), .val (.int ic), .val (.int fr), .val (.int en), .val (.ref b10), .val (.int vr), .val (.int (own_pick (own_pick (-1 : Int32) oA ia fr en) oB ib fr en))] []))
  refine Gd.go (fun _ w_k => XS.iload X27.here hx rfl (hb hby at_243) rfl w_k) ?_
  show Gd _ _ _ _ (T27.setTop (mkF m 245 #[.val (.int r0), .val (.int r1), .val (.int r2), .val (.int r3), .val (.int r4), .val (.int r5), .val (.int z), .val (.int oA), .val (.int oB), .val (.int oC), .val (.int ia), .val (.int ib), .val (.int ic), .val (.int fr), .val (.int en), .val (.ref b10), .val (.int vr), .val (.int (own_pick (own_pick (-1 : Int32) oA ia fr en) oB ib fr en))] [(.int (own_pick (own_pick (-1 : Int32) oA ia fr en) oB ib fr en))]))
  refine Gd.go (fun _ w_k => XS.iload X27.here hx rfl (hb hby at_245) rfl w_k) ?_
  show Gd _ _ _ _ (T27.setTop (mkF m 247 #[.val (.int r0), .val (.int r1), .val (.int r2), .val (.int r3), .val (.int r4), .val (.int r5), .val (.int z), .val (.int oA), .val (.int oB), .val (.int oC), .val (.int ia), .val (.int ib), .val (.int ic), .val (.int fr), .val (.int en), .val (.ref b10), .val (.int vr), .val (.int (own_pick (own_pick (-1 : Int32) oA ia fr en) oB ib fr en))] [(.int oC), (.int (own_pick (own_pick (-1 : Int32) oA ia fr en) oB ib fr en))]))
  refine Gd.go (fun _ w_k => XS.iload X27.here hx rfl (hb hby at_247) rfl w_k) ?_
  show Gd _ _ _ _ (T27.setTop (mkF m 249 #[.val (.int r0), .val (.int r1), .val (.int r2), .val (.int r3), .val (.int r4), .val (.int r5), .val (.int z), .val (.int oA), .val (.int oB), .val (.int oC), .val (.int ia), .val (.int ib), .val (.int ic), .val (.int fr), .val (.int en), .val (.ref b10), .val (.int vr), .val (.int (own_pick (own_pick (-1 : Int32) oA ia fr en) oB ib fr en))] [(.int ic), (.int oC), (.int (own_pick (own_pick (-1 : Int32) oA ia fr en) oB ib fr en))]))
  refine Gd.go (fun _ w_k => XS.iload X27.here hx rfl (hb hby at_249) rfl w_k) ?_
  show Gd _ _ _ _ (T27.setTop (mkF m 251 #[.val (.int r0), .val (.int r1), .val (.int r2), .val (.int r3), .val (.int r4), .val (.int r5), .val (.int z), .val (.int oA), .val (.int oB), .val (.int oC), .val (.int ia), .val (.int ib), .val (.int ic), .val (.int fr), .val (.int en), .val (.ref b10), .val (.int vr), .val (.int (own_pick (own_pick (-1 : Int32) oA ia fr en) oB ib fr en))] [(.int fr), (.int ic), (.int oC), (.int (own_pick (own_pick (-1 : Int32) oA ia fr en) oB ib fr en))]))
  refine Gd.go (fun _ w_k => XS.iload X27.here hx rfl (hb hby at_251) rfl w_k) ?_
  show Gd _ _ _ _ (T27.setTop (mkF m 253 #[.val (.int r0), .val (.int r1), .val (.int r2), .val (.int r3), .val (.int r4), .val (.int r5), .val (.int z), .val (.int oA), .val (.int oB), .val (.int oC), .val (.int ia), .val (.int ib), .val (.int ic), .val (.int fr), .val (.int en), .val (.ref b10), .val (.int vr), .val (.int (own_pick (own_pick (-1 : Int32) oA ia fr en) oB ib fr en))] [(.int en), (.int fr), (.int ic), (.int oC), (.int (own_pick (own_pick (-1 : Int32) oA ia fr en) oB ib fr en))]))
  obtain ⟨T28, X28, e28, st28⟩ := own_callSP X27 hx hZ (y := (⟨"com/example/nearfield/nearfield/job/BitsNextPinLaw", "pick", "(IZIII)I"⟩ : MethodName)) hown (hw _ (List.mem_of_getElem? (i := 20) rfl)) (hw _ (List.mem_of_getElem? (i := 21) rfl)) (hw _ (List.mem_of_getElem? (i := 22) rfl)) (hw _ (List.mem_of_getElem? (i := 23) rfl)) (by decide) (W := 0) (own_c4 l Z a0 hw (own_pick (own_pick (-1 : Int32) oA ia fr en) oB ib fr en) oC ic fr en T25.heap) rfl rfl e27 (by decide) (by decide) (g := (mkF m 253 #[.val (.int r0), .val (.int r1), .val (.int r2), .val (.int r3), .val (.int r4), .val (.int r5), .val (.int z), .val (.int oA), .val (.int oB), .val (.int oC), .val (.int ia), .val (.int ib), .val (.int ic), .val (.int fr), .val (.int en), .val (.ref b10), .val (.int vr), .val (.int (own_pick (own_pick (-1 : Int32) oA ia fr en) oB ib fr en))] [(.int en), (.int fr), (.int ic), (.int oC), (.int (own_pick (own_pick (-1 : Int32) oA ia fr en) oB ib fr en))])) rfl (by rw [hml]; rfl) (argsL := [(.int (own_pick (own_pick (-1 : Int32) oA ia fr en) oB ib fr en)), (.int oC), (.int ic), (.int fr), (.int en)]) (rest := []) (lenOf own_pd2 rfl) rfl (Nat.le_of_eq rfl) (hb hby at_253) rfl
  refine Gd.go (fun _ w_k => st28 _ w_k) ?_
  show Gd _ _ _ _ (T28.setTop (mkF m 256 #[.val (.int r0), .val (.int r1), .val (.int r2), .val (.int r3), .val (.int r4), .val (.int r5), .val (.int z), .val (.int oA), .val (.int oB), .val (.int oC), .val (.int ia), .val (.int ib), .val (.int ic), .val (.int fr), .val (.int en), .val (.ref b10), .val (.int vr), .val (.int (own_pick (own_pick (-1 : Int32) oA ia fr en) oB ib fr en))] [(.int (own_pick (own_pick (own_pick (-1 : Int32) oA ia fr en) oB ib fr en) oC ic fr en))]))
  refine Gd.go (fun _ w_k => XS.istore X28.here hx rfl (hb hby at_256) rfl (l' := #[.val (.int r0), .val (.int r1), .val (.int r2), .val (.int r3), .val (.int r4), .val (.int r5), .val (.int z), .val (.int oA), .val (.int oB), .val (.int oC), .val (.int ia), .val (.int ib), .val (.int ic), .val (.int fr), .val (.int en), .val (.ref b10), .val (.int vr), .val (.int (own_pick (own_pick (own_pick (-1 : Int32) oA ia fr en) oB ib fr en) oC ic fr en))]) rfl w_k) ?_
  show Gd _ _ _ _ (T28.setTop (mkF m 258 #[.val (.int r0), .val (.int r1), .val (.int r2), .val (.int r3), .val (.int r4), .val (.int r5), .val (.int z), .val (.int oA), .val (.int oB), .val (.int oC), .val (.int ia), .val (.int ib), .val (.int ic), .val (.int fr), .val (.int en), .val (.ref b10), .val (.int vr), .val (.int (own_pick (own_pick (own_pick (-1 : Int32) oA ia fr en) oB ib fr en) oC ic fr en))] []))
  refine Gd.go (fun _ w_k => XS.iload X28.here hx rfl (hb hby at_258) rfl w_k) ?_
  show Gd _ _ _ _ (T28.setTop (mkF m 260 #[.val (.int r0), .val (.int r1), .val (.int r2), .val (.int r3), .val (.int r4), .val (.int r5), .val (.int z), .val (.int oA), .val (.int oB), .val (.int oC), .val (.int ia), .val (.int ib), .val (.int ic), .val (.int fr), .val (.int en), .val (.ref b10), .val (.int vr), .val (.int (own_pick (own_pick (own_pick (-1 : Int32) oA ia fr en) oB ib fr en) oC ic fr en))] [(.int vr)]))
  refine Gd.go (fun _ w_k => XS.iload X28.here hx rfl (hb hby at_260) rfl w_k) ?_
  show Gd _ _ _ _ (T28.setTop (mkF m 262 #[.val (.int r0), .val (.int r1), .val (.int r2), .val (.int r3), .val (.int r4), .val (.int r5), .val (.int z), .val (.int oA), .val (.int oB), .val (.int oC), .val (.int ia), .val (.int ib), .val (.int ic), .val (.int fr), .val (.int en), .val (.ref b10), .val (.int vr), .val (.int (own_pick (own_pick (own_pick (-1 : Int32) oA ia fr en) oB ib fr en) oC ic fr en))] [(.int (own_pick (own_pick (own_pick (-1 : Int32) oA ia fr en) oB ib fr en) oC ic fr en)), (.int vr)]))
  refine Gd.go (fun _ w_k => XS.icmpNo X28.here hx rfl (hb hby at_262) rfl (teq (own_final g_fr.1 g_ia.1 g_ib.1 g_ic.1 hvr B_2)).2 w_k) ?_
  show Gd _ _ _ _ (T28.setTop (mkF m 265 #[.val (.int r0), .val (.int r1), .val (.int r2), .val (.int r3), .val (.int r4), .val (.int r5), .val (.int z), .val (.int oA), .val (.int oB), .val (.int oC), .val (.int ia), .val (.int ib), .val (.int ic), .val (.int fr), .val (.int en), .val (.ref b10), .val (.int vr), .val (.int (own_pick (own_pick (own_pick (-1 : Int32) oA ia fr en) oB ib fr en) oC ic fr en))] []))
  refine Gd.go (fun _ w_k => XS.iconst X28.here hx rfl (hb hby at_265) w_k) ?_
  show Gd _ _ _ _ (T28.setTop (mkF m 266 #[.val (.int r0), .val (.int r1), .val (.int r2), .val (.int r3), .val (.int r4), .val (.int r5), .val (.int z), .val (.int oA), .val (.int oB), .val (.int oC), .val (.int ia), .val (.int ib), .val (.int ic), .val (.int fr), .val (.int en), .val (.ref b10), .val (.int vr), .val (.int (own_pick (own_pick (own_pick (-1 : Int32) oA ia fr en) oB ib fr en) oC ic fr en))] [(.int (1 : Int32))]))
  refine Gd.go (fun _ w_k => XS.goto X28.here hx rfl (pc0 := 266) (pc' := 270) rfl (hb hby at_266) (by decide) (by decide) w_k) ?_
  show Gd _ _ _ _ (T28.setTop (mkF m 270 #[.val (.int r0), .val (.int r1), .val (.int r2), .val (.int r3), .val (.int r4), .val (.int r5), .val (.int z), .val (.int oA), .val (.int oB), .val (.int oC), .val (.int ia), .val (.int ib), .val (.int ic), .val (.int fr), .val (.int en), .val (.ref b10), .val (.int vr), .val (.int (own_pick (own_pick (own_pick (-1 : Int32) oA ia fr en) oB ib fr en) oC ic fr en))] [(.int (1 : Int32))]))
  refine own_retN (t := .boolean) X28 hx hret hlk (by simp) (hb hby at_270) ?_ (by decide) (by decide)
  exact ⟨rfl, N_2⟩
theorem own_eqI {args : Array Value} {s : State} {a : Term} {k : Int32} (h : (Jvm.Cond.eq a (Term.int k)).value args s none s [] = some true) : a.eval args s none [] s = some (.int k) := by
  obtain ⟨v, y, e1, e2, k1, k2⟩ := cmp_v (Or.inl h)
  have hy : y = .int k := (Option.some.inj e2).symm
  subst hy
  obtain ⟨z, rfl⟩ := k2
  have hz : z = k := by simpa [Cond.value, e1, e2] using h
  rw [e1, hz]
theorem own_stab {C n d : String} {s : State} {args : Array Value} {N : Nat} (f : Nat → Int32) (hN : N < 2 ^ 31) (h1 : (Jvm.Cond.arrayOf (Term.static C n d) .byte).value args s none s [] = some true) (h2 : (Jvm.Cond.eq (Term.length (Term.static C n d)) (Term.int (Int32.ofNat N))).value args s none s [] = some true)
    (h3 : ∀ i, i < N → (Jvm.Cond.eq (Term.elem (Term.static C n d) (Term.int (Int32.ofNat i))) (Term.int (f i))).value args s none s [] = some true) (wi : (Jvm.Cond.initialized C).before args s = true) (wl : (Jvm.Cond.laysStatic C n d).before args s = true) : ∃ a, Sta s s.heap C n d (.ref a) ∧ ArF s s.heap a .byte N (fun i => .int (f i)) := by
  obtain ⟨a, ev⟩ := arr_v h1
  obtain ⟨c, A⟩ := Arr.start ev h1
  have ha : s.arrayAt? a = some c := Arr.fin (Vm.Alike.refl _) A
  have hl := own_eqI h2
  have hs : c.slots.size = N := by
    simp only [Term.eval, Option.bind_eq_bind] at ev hl
    rw [ev] at hl
    simp only [Option.bind_some, ha] at hl
    split at hl
    · rename_i q
      have := Value.int.inj (Option.some.inj hl)
      have e := congrArg Int32.toInt this
      rw [own_ofN hN] at e
      have e2 : c.slots.size.toInt32.toInt = c.slots.size := len_toInt q
      omega
    · cases hl
  refine ⟨a, Sta.start ev (Or.inr ⟨wi, wl⟩), c, A, hs, hN, fun i hi => ?_⟩
  have := elem_in (own_eqI (h3 i hi)) ev (Term.int_eval _) A.1
  rw [own_ofC (by omega)] at this
  exact this.2
set_option maxRecDepth 65536 in
set_option maxHeartbeats 40000000 in
theorem comes_1 {Post : Tables → Env → Array Value → State → Outcome → State → Prop} (hpost : ∀ tb e args s v u, (limb_1_1.after args s (.returned v) u = true ∧ limb_1_2.after args s (.returned v) u = true ∧ True) → FrameEnd s (.returned v) u (Jvm.fieldLocs frame_1_writes args s ++ Jvm.arrayLocs frame_1_arrays args s ++ Jvm.staticLocs frame_1_statics s) 16 128 → Post tb e args s (.returned v) u) :
    ArmFor flags0 classFile x code maxLocals ret World_1 tables_1 room_1 Calls_1 rest_1 Pre_1 Post := by
  intro l hfl _ _ p e ha hc hk s m args below hf hA hF happ hP
  obtain ⟨hcalls, hrest, hpre⟩ := hP
  obtain ⟨-, -, -, hnamed, -, -, -, hat⟩ := (Spec.applies_iff hf).mp happ
  obtain ⟨hg, hn⟩ := and_e (Cond.before_iff.mp (show (Jvm.Cond.and given_1 narrow_1).before args s = true from hpre))
  obtain ⟨h1, g0⟩ := and_e hg
  obtain ⟨k0, g1⟩ := and_e g0
  obtain ⟨k1, g2⟩ := and_e g1
  obtain ⟨k2, g3⟩ := and_e g2
  obtain ⟨k3, g4⟩ := and_e g3
  obtain ⟨k4, g5⟩ := and_e g4
  obtain ⟨w0, w1, w2, w3, w4, w5, rfl⟩ : ∃ w0 w1 w2 w3 w4 w5 : Value, args = #[w0, w1, w2, w3, w4, w5] := by
    have hs : args.size = 6 := by simpa [Cond.value, given_1] using h1
    obtain ⟨L⟩ := args
    match L, hs with
    | [w0, w1, w2, w3, w4, w5], _ => exact ⟨w0, w1, w2, w3, w4, w5, rfl⟩
  have hw := fun d (hd : d ∈ tables_1) => atoms_spec (ws := Jvm.Cond.code x code maxLocals ret :: tables_1) hat d (List.mem_cons_of_mem _ hd)
  have hfit : Fit s := fun {y c} hc i hi => by
    obtain ⟨ha, rfl⟩ := Array.getElem?_eq_some_iff.mp hc
    have q := List.all_eq_true.mp ((Array.all_eq_true_iff_forall_mem.mp hF) _ (Array.getElem_mem ha)) i (List.mem_range.mpr hi)
    simpa [Array.getElem?_eq_getElem hi] using q
  obtain ⟨i0, e0⟩ := is_v k0
  obtain rfl : w0 = (.int i0) := Option.some.inj e0
  obtain ⟨i1, e1⟩ := is_v k1
  obtain rfl : w1 = (.int i1) := Option.some.inj e1
  obtain ⟨i2, e2⟩ := is_v k2
  obtain rfl : w2 = (.int i2) := Option.some.inj e2
  obtain ⟨i3, e3⟩ := is_v k3
  obtain rfl : w3 = (.int i3) := Option.some.inj e3
  obtain ⟨i4, e4⟩ := is_v k4
  obtain rfl : w4 = (.int i4) := Option.some.inj e4
  obtain ⟨i5, e5⟩ := is_v g5
  obtain rfl : w5 = (.int i5) := Option.some.inj e5
  obtain ⟨x0, n1⟩ := and_e hn
  obtain ⟨x1, n2⟩ := and_e n1
  obtain ⟨x2, n3⟩ := and_e n2
  obtain ⟨x3, n4⟩ := and_e n3
  obtain ⟨x4, n5⟩ := and_e n4
  obtain ⟨x5, n6⟩ := and_e n5
  obtain ⟨x6, n7⟩ := and_e n6
  obtain ⟨x7, n8⟩ := and_e n7
  obtain ⟨x8, n9⟩ := and_e n8
  obtain ⟨x9, n10⟩ := and_e n9
  obtain ⟨x10, n11⟩ := and_e n10
  obtain ⟨x11, n12⟩ := and_e n11
  obtain ⟨x12, n13⟩ := and_e n12
  obtain ⟨x13, n14⟩ := and_e n13
  obtain ⟨x14, n15⟩ := and_e n14
  obtain ⟨x15, n16⟩ := and_e n15
  obtain ⟨x16, n17⟩ := and_e n16
  obtain ⟨x17, n18⟩ := and_e n17
  obtain ⟨x18, n19⟩ := and_e n18
  obtain ⟨x19, n20⟩ := and_e n19
  obtain ⟨x20, n21⟩ := and_e n20
  obtain ⟨x21, n22⟩ := and_e n21
  obtain ⟨x22, n23⟩ := and_e n22
  obtain ⟨x23, n24⟩ := and_e n23
  obtain ⟨x24, n25⟩ := and_e n24
  obtain ⟨x25, n26⟩ := and_e n25
  obtain ⟨x26, n27⟩ := and_e n26
  obtain ⟨x27, n28⟩ := and_e n27
  obtain ⟨x28, n29⟩ := and_e n28
  obtain ⟨x29, n30⟩ := and_e n29
  obtain ⟨x30, n31⟩ := and_e n30
  obtain ⟨x31, n32⟩ := and_e n31
  obtain ⟨x32, n33⟩ := and_e n32
  obtain ⟨x33, n34⟩ := and_e n33
  obtain ⟨x34, n35⟩ := and_e n34
  obtain ⟨x35, n36⟩ := and_e n35
  obtain ⟨x36, n37⟩ := and_e n36
  obtain ⟨x37, n38⟩ := and_e n37
  obtain ⟨x38, n39⟩ := and_e n38
  obtain ⟨x39, n40⟩ := and_e n39
  obtain ⟨x40, n41⟩ := and_e n40
  obtain ⟨x41, n42⟩ := and_e n41
  obtain ⟨x42, n43⟩ := and_e n42
  obtain ⟨x43, n44⟩ := and_e n43
  obtain ⟨x44, n45⟩ := and_e n44
  obtain ⟨x45, n46⟩ := and_e n45
  obtain ⟨x46, n47⟩ := and_e n46
  obtain ⟨x47, n48⟩ := and_e n47
  obtain ⟨x48, n49⟩ := and_e n48
  obtain ⟨x49, n50⟩ := and_e n49
  obtain ⟨x50, n51⟩ := and_e n50
  obtain ⟨x51, n52⟩ := and_e n51
  obtain ⟨x52, n53⟩ := and_e n52
  obtain ⟨x53, n54⟩ := and_e n53
  obtain ⟨x54, n55⟩ := and_e n54
  obtain ⟨x55, n56⟩ := and_e n55
  obtain ⟨x56, n57⟩ := and_e n56
  obtain ⟨x57, n58⟩ := and_e n57
  obtain ⟨x58, n59⟩ := and_e n58
  obtain ⟨x59, n60⟩ := and_e n59
  obtain ⟨x60, n61⟩ := and_e n60
  obtain ⟨x61, n62⟩ := and_e n61
  obtain ⟨x62, n63⟩ := and_e n62
  obtain ⟨x63, n64⟩ := and_e n63
  obtain ⟨x64, n65⟩ := and_e n64
  obtain ⟨Lw, S0, A0⟩ := own_stab (N := 64) own_low (by decide) x0 x1 (fun i hi => match i, hi with
    | 0, _ => x2
    | 1, _ => x3
    | 2, _ => x4
    | 3, _ => x5
    | 4, _ => x6
    | 5, _ => x7
    | 6, _ => x8
    | 7, _ => x9
    | 8, _ => x10
    | 9, _ => x11
    | 10, _ => x12
    | 11, _ => x13
    | 12, _ => x14
    | 13, _ => x15
    | 14, _ => x16
    | 15, _ => x17
    | 16, _ => x18
    | 17, _ => x19
    | 18, _ => x20
    | 19, _ => x21
    | 20, _ => x22
    | 21, _ => x23
    | 22, _ => x24
    | 23, _ => x25
    | 24, _ => x26
    | 25, _ => x27
    | 26, _ => x28
    | 27, _ => x29
    | 28, _ => x30
    | 29, _ => x31
    | 30, _ => x32
    | 31, _ => x33
    | 32, _ => x34
    | 33, _ => x35
    | 34, _ => x36
    | 35, _ => x37
    | 36, _ => x38
    | 37, _ => x39
    | 38, _ => x40
    | 39, _ => x41
    | 40, _ => x42
    | 41, _ => x43
    | 42, _ => x44
    | 43, _ => x45
    | 44, _ => x46
    | 45, _ => x47
    | 46, _ => x48
    | 47, _ => x49
    | 48, _ => x50
    | 49, _ => x51
    | 50, _ => x52
    | 51, _ => x53
    | 52, _ => x54
    | 53, _ => x55
    | 54, _ => x56
    | 55, _ => x57
    | 56, _ => x58
    | 57, _ => x59
    | 58, _ => x60
    | 59, _ => x61
    | 60, _ => x62
    | 61, _ => x63
    | 62, _ => x64
    | 63, _ => n65
    | (q + 64), h => absurd h (by omega)) (hw _ (List.mem_of_getElem? (i := 3) rfl)) (hw _ (List.mem_of_getElem? (i := 31) rfl))
  obtain ⟨n, o, h1, h2, h3, _, L, rfl, ⟨rfl, N⟩, hq⟩ := own_law l s _ hw i0 i1 i2 i3 i4 i5 Lw s.heap s.heap.size (Nat.le_refl _) (Old.start s) S0 A0 p e ha hc hk s m _ below hf ((Spec.applies_iff_loose hf).mp happ).1 ⟨rfl, State.Warmed39.refl s, rfl⟩ trivial
  refine ⟨n, _, h1, h2, h3, hpost _ _ _ _ _ _ ⟨Cond.after_iff.mpr rfl, Cond.after_iff.mpr (eq_i res_at (Term.int_eval (1)) rfl), trivial⟩ ⟨hq.1, hq.2.1, (hq.2.2.sift fun y hy => Or.inr (N y hy)).mono (by decide) (by decide)⟩⟩
theorem main_1_1 : Claimed_1_1 := comes_1 fun _ _ _ _ _ _ h hF => ⟨h.1, hF⟩
theorem main_1_2 : Claimed_1_2 := comes_1 fun _ _ _ _ _ _ h hF => ⟨h.2.1, hF⟩
end Jvm.Pilot.@@N@@
namespace Jvm.Pilot.@@N@@
open Jvm Jvm.ClassFile Sem Op Lib Jvm.Free Jvm.Stand Jvm.Pilot.@@N@@.Jvm.D
/-! MADE BY PROGRAM (witnessworld.py) out of the Statement's table words and the real class files: 11 classes; the members and pool entries that the words name. The judged class is class 1, her method 2. -/
namespace start1
open Jvm.ClassFile
def u (s : String) : CpInfo := .utf8 (stringToUtf16 s)
/-- a pool by its gaps: so many unusable entries, then the entry; so many at the end -/
def gap : Nat → List CpInfo → List CpInfo
  | 0, r => r
  | n + 1, r => .unusable :: gap n r
def poolList (es : List (Nat × CpInfo)) (last : Nat) : List CpInfo := es.foldr (fun e r => gap e.1 (e.2 :: r)) (gap last [])
def pool (es : List (Nat × CpInfo)) (last : Nat) : Array CpInfo := ⟨poolList es last⟩
def fileOf (pool : Array CpInfo) (this : Nat) (attrs : Array Attribute := #[]) (ms : Array MethodInfo := #[]) (fl : Nat := 33) (sup : Nat := 0) (ifs : Array Nat := #[]) (fds : Array FieldInfo := #[]) : ClassFile where
  minorVersion := 0
  majorVersion := 65
  constantPool := pool
  accessFlags := fl
  thisClass := this
  superClass := sup
  interfaces := ifs
  fields := fds
  methods := ms
  attributes := attrs
def plain (name : String) (sup : Option ClassId) : Class where
  name := name
  kind := .ordinary
  loader := none
  accessFlags := 33
  super := sup
  interfaces := #[]
  cf := none
  fields := #[]
  methods := #[]
  instanceTypes := #[]
  staticTypes := #[]
  resolved := #[]
  callSites := []
  init := .initialized
  statics := none
  mirror := none

def pool0 : Array CpInfo := pool [(5, u "<init>"), (0, u "()V"), (1, .class_ 10), (1, u "java/lang/Object")] 113

def k0c0 : Code := { maxStack := 0, maxLocals := 1, code := object_method_1_code, exceptionTable := #[], attributes := #[] }
def k0m0 : Method := { name := "<init>", desc := "()V", sig := { parameters := [], returnType := none }, accessFlags := 1, code := some k0c0 }
/-- java/lang/Object -/
def k0 : Class := { plain "java/lang/Object" none with
  accessFlags := 33
  interfaces := #[]
  cf := some (fileOf pool0 8 #[] #[{ accessFlags := 1, nameIndex := 5, descriptorIndex := 6, attributes := #[] }] 33 0 #[] #[])
  fields := #[]
  methods := #[k0m0]
  instanceTypes := #[]
  staticTypes := #[]
  resolved := Array.replicate 124 none
  statics := none }

def pool1 : Array CpInfo := pool [(2, .class_ 4), (1, u "java/lang/Object"), (0, u "<init>"), (0, u "()V"), (0, .integer 2147483647), (0, .class_ 9), (0, u "com/example/nearfield/nearfield/job/Bits"), (0, .methodref 8 11), (0, .nameAndType 5 12), (0, u "(I)V"), (0, .methodref 8 14), (0, .nameAndType 15 12), (0, u "set"), (0, .methodref 8 17), (0, .nameAndType 18 19), (0, u "next"), (0, u "(II)I"), (0, .methodref 21 22), (0, .class_ 23), (0, .nameAndType 24 25), (0, u "com/example/nearfield/nearfield/job/BitsNextPinLaw"), (0, u "pick"), (0, u "(IZIII)I"), (3, u "law"), (0, u "(IIIIII)Z")] 2

def k1m0 : Method := { name := "<init>", desc := "()V", sig := { parameters := [], returnType := none }, accessFlags := 1, code := none }
def k1c1 : Code := { maxStack := 2, maxLocals := 5, code := method_2_code, exceptionTable := #[], attributes := #[] }
def k1m1 : Method := { name := "pick", desc := "(IZIII)I", sig := { parameters := [.int, .boolean, .int, .int, .int], returnType := some .int }, accessFlags := 10, code := some k1c1 }
def k1c2 : Code := { maxStack := 5, maxLocals := 18, code := code, exceptionTable := #[], attributes := #[] }
def k1m2 : Method := { name := "law", desc := "(IIIIII)Z", sig := { parameters := [.int, .int, .int, .int, .int, .int], returnType := some .boolean }, accessFlags := 9, code := some k1c2 }
/-- com/example/nearfield/nearfield/job/BitsNextPinLaw -/
def k1 : Class := { plain "com/example/nearfield/nearfield/job/BitsNextPinLaw" (some 0) with
  accessFlags := 49
  interfaces := #[]
  cf := some (fileOf pool1 21 #[] #[{ accessFlags := 1, nameIndex := 5, descriptorIndex := 6, attributes := #[] }, { accessFlags := 10, nameIndex := 24, descriptorIndex := 25, attributes := #[] }, { accessFlags := 9, nameIndex := 29, descriptorIndex := 30, attributes := #[] }] 49 2 #[] #[])
  fields := #[]
  methods := #[k1m0, k1m1, k1m2]
  instanceTypes := #[]
  staticTypes := #[]
  resolved := Array.replicate 33 none
  statics := none }

def pool2 : Array CpInfo := pool [(1, .methodref 2 3), (0, .class_ 4), (0, .nameAndType 5 6), (0, u "java/lang/Object"), (0, u "<init>"), (0, u "()V"), (0, .fieldref 8 9), (0, .class_ 10), (0, .nameAndType 11 12), (0, u "com/example/nearfield/nearfield/job/Bits"), (0, u "size"), (0, u "I"), (0, .fieldref 8 14), (0, .nameAndType 15 16), (0, u "words"), (0, u "[J"), (0, .long 18446744073709551615), (15, u "next"), (0, u "(II)I"), (0, .long 64), (1, .fieldref 8 38), (0, .nameAndType 39 40), (0, u "LOWEST"), (0, u "[B"), (0, .long 285870213051386505), (1, u "DE_BRUIJN"), (0, u "J"), (1, u "(I)V"), (5, u "set")] 11

def k2c0 : Code := { maxStack := 3, maxLocals := 2, code := prog_45_method_1_code, exceptionTable := #[], attributes := #[] }
def k2m0 : Method := { name := "<init>", desc := "(I)V", sig := { parameters := [.int], returnType := none }, accessFlags := 0, code := some k2c0 }
def k2c1 : Code := { maxStack := 7, maxLocals := 2, code := prog_45_method_3_code, exceptionTable := #[], attributes := #[] }
def k2m1 : Method := { name := "set", desc := "(I)V", sig := { parameters := [.int], returnType := none }, accessFlags := 0, code := some k2c1 }
def k2c2 : Code := { maxStack := 6, maxLocals := 7, code := prog_45_method_10_code, exceptionTable := #[], attributes := #[] }
def k2m2 : Method := { name := "next", desc := "(II)I", sig := { parameters := [.int, .int], returnType := some .int }, accessFlags := 0, code := some k2c2 }
/-- com/example/nearfield/nearfield/job/Bits -/
def k2 : Class := { plain "com/example/nearfield/nearfield/job/Bits" (some 0) with
  accessFlags := 48
  interfaces := #[]
  cf := some (fileOf pool2 8 #[] #[{ accessFlags := 0, nameIndex := 5, descriptorIndex := 46, attributes := #[] }, { accessFlags := 0, nameIndex := 52, descriptorIndex := 46, attributes := #[] }, { accessFlags := 0, nameIndex := 33, descriptorIndex := 34, attributes := #[] }] 48 2 #[] #[{ accessFlags := 26, nameIndex := 43, descriptorIndex := 44, attributes := #[] }, { accessFlags := 26, nameIndex := 39, descriptorIndex := 40, attributes := #[] }, { accessFlags := 18, nameIndex := 15, descriptorIndex := 16, attributes := #[] }, { accessFlags := 18, nameIndex := 11, descriptorIndex := 12, attributes := #[] }])
  fields := #[{ name := "DE_BRUIJN", type := .long, accessFlags := 26, slot := 0, constantValue := 0 }, { name := "LOWEST", type := (.array .byte), accessFlags := 26, slot := 1, constantValue := 0 }, { name := "words", type := (.array .long), accessFlags := 18, slot := 0, constantValue := 0 }, { name := "size", type := .int, accessFlags := 18, slot := 1, constantValue := 0 }]
  methods := #[k2m0, k2m1, k2m2]
  instanceTypes := #[(.array .long), .int]
  staticTypes := #[.long, (.array .byte)]
  resolved := Array.replicate 64 none
  statics := some 0 }

def pool3 : Array CpInfo := pool [(1, u "java/lang/Cloneable"), (0, .class_ 1), (0, u "java/lang/Object"), (0, .class_ 3)] 3

/-- java/lang/Cloneable -/
def k3 : Class := { plain "java/lang/Cloneable" (some 0) with
  accessFlags := 1537
  interfaces := #[]
  cf := some (fileOf pool3 2 #[] #[] 1537 4 #[] #[])
  fields := #[]
  methods := #[]
  instanceTypes := #[]
  staticTypes := #[]
  resolved := Array.replicate 8 none
  statics := none }

def pool4 : Array CpInfo := pool [(1, u "java/io/Serializable"), (0, .class_ 1), (0, u "java/lang/Object"), (0, .class_ 3)] 3

/-- java/io/Serializable -/
def k4 : Class := { plain "java/io/Serializable" (some 0) with
  accessFlags := 1537
  interfaces := #[]
  cf := some (fileOf pool4 2 #[] #[] 1537 4 #[] #[])
  fields := #[]
  methods := #[]
  instanceTypes := #[]
  staticTypes := #[]
  resolved := Array.replicate 8 none
  statics := none }

/-- the primitive byte -/
def k5 : Class := { plain "byte" none with kind := .primitive 'B', accessFlags := 0x411 }
/-- [B -/
def k6 : Class := { plain "[B" (some 0) with kind := .array 5 .byte, interfaces := #[3, 4], accessFlags := 1041 }

/-- the primitive int -/
def k7 : Class := { plain "int" none with kind := .primitive 'I', accessFlags := 0x411 }
/-- [I -/
def k8 : Class := { plain "[I" (some 0) with kind := .array 7 .int, interfaces := #[3, 4], accessFlags := 1041 }

/-- the primitive long -/
def k9 : Class := { plain "long" none with kind := .primitive 'J', accessFlags := 0x411 }
/-- [J -/
def k10 : Class := { plain "[J" (some 0) with kind := .array 9 .long, interfaces := #[3, 4], accessFlags := 1041 }

def heap : Heap := #[{ cls := 2, slots := #[.long 0, .ref 1], vm := .statics 2 },
  { cls := 6, slots := #[.int 0, .int 1, .int 48, .int 2, .int 57, .int 49, .int 28, .int 3, .int 61, .int 58, .int 50, .int 42, .int 38, .int 29, .int 17, .int 4, .int 62, .int 55, .int 59, .int 36, .int 53, .int 51, .int 43, .int 22, .int 45, .int 39, .int 33, .int 30, .int 24, .int 18, .int 12, .int 5, .int 63, .int 47, .int 56, .int 27, .int 60, .int 41, .int 37, .int 16, .int 54, .int 35, .int 52, .int 21, .int 44, .int 32, .int 23, .int 11, .int 46, .int 26, .int 40, .int 15, .int 34, .int 20, .int 31, .int 10, .int 25, .int 14, .int 19, .int 9, .int 13, .int 8, .int 7, .int 6], vm := .none }]
def classes : Array Class := #[k0, k1, k2, k3, k4, k5, k6, k7, k8, k9, k10]
def interned : List (Array UInt16 × Addr) := []
def slotsUsed : Nat := 66
def theMethod : MethodId := ⟨1, 2⟩
def args0 : Array Value := #[.int 3, .int 2, .int 1, .int 0, .int 7, .int 1]
def aboutOver (below : List Frame) : State where
  vm := { classes := classes, interned := interned.toArray }
  heap := heap
  slotsUsed := slotsUsed
  threads := #[{ frames := .invoking theMethod args0 :: below }]
def below0 : List Frame := [.native { method := ⟨0, 0⟩, args := #[] }]
def about1 : State := aboutOver below0
def p0 : Program := .bare "" "" ""
def e0 : Env := launch0.env 0 0 0
theorem w_frames : about1.frames = Frame.invoking theMethod args0 :: below0 := rfl
set_option maxRecDepth 65536 in
theorem w_args : argsFit about1.vm theMethod args0 = true := by decide +kernel
set_option maxRecDepth 65536 in
theorem w_heap : heapFits about1 = true := by decide +kernel
set_option maxRecDepth 65536 in
theorem w_runnable : about1.curStatus? = some .runnable := by decide +kernel
set_option maxRecDepth 65536 in
theorem w_alone : about1.alone = true := by decide +kernel
set_option maxRecDepth 65536 in
theorem w_named : about1.methodNamed? x = some theMethod := by decide +kernel
set_option maxRecDepth 65536 in
theorem w_hears : about1.hears theMethod below0 = true := by decide +kernel
set_option maxRecDepth 65536 in
theorem w_ripe : about1.ripe theMethod args0 below0 = true := by decide +kernel
theorem w_running : about1.status = .running := rfl
set_option maxRecDepth 65536 in
theorem w_room : about1.hasRoom e0.platform room_1 = true :=
  launch0.hasRoom_least _ room_1 (by decide +kernel) (by decide +kernel) (by decide +kernel) (by decide +kernel) (by decide +kernel) (by decide +kernel)
theorem allAtoms_all (ts : List Jvm.Cond) (a : Array Jvm.Value) (st : Jvm.State) : (allAtoms ts).before a st = ts.all (fun c => c.before a st) := by
  induction ts with
  | nil => rfl
  | cons c t ih =>
    show (Jvm.Cond.and c (allAtoms t)).before a st = _
    rw [Jvm.Cond.before_and, ih, List.all_cons]
def words1 : List Jvm.Cond := Jvm.Cond.code x code maxLocals ret :: tables_1
/-- a 'code' word, met by the world's own term for the bytes: nothing is compared byte by byte -/
theorem code_word {y : MethodName} {bytes : ByteArray} {mx : Nat} {rt : Option FieldType} {a : Array Value} {s : State} {m : MethodId} {meth : Method} {c : Code} (h1 : s.methodNamed? y = some m) (h2 : s.vm.method? m = some meth) (h3 : meth.code = some c) (h4 : c.code = bytes)
    (h5 : (c.maxLocals == mx && c.exceptionTable.isEmpty && decide (c.maxStack ≤ mostOperands) && decide (meth.sig.returnType = rt) && !meth.locks && decide (parseMethodDescriptor y.desc = some meth.sig)) = true) : (Jvm.Cond.code y bytes mx rt).before a s = true := by
  simp only [Bool.and_eq_true, beq_iff_eq, Bool.not_eq_true', decide_eq_true_eq] at h5
  obtain ⟨⟨⟨⟨⟨g1, g2⟩, g3⟩, g4⟩, g5⟩, g6⟩ := h5
  simp [Cond.before, Cond.holds, Cond.value, h1, h2, h3, h4, g1, g2, g3, g4, g5, g6]
def isCode : Jvm.Cond → Bool
  | .code _ _ _ _ => true
  | _ => false
theorem all_split {L : List Jvm.Cond} {P : Jvm.Cond → Bool} (h1 : L.all (fun c => isCode c || P c) = true) (h2 : ∀ c ∈ L.filter isCode, P c = true) : L.all P = true := by
  refine List.all_eq_true.mpr fun c hc => ?_
  have h := List.all_eq_true.mp h1 c hc
  rcases Bool.eq_false_or_eq_true (isCode c) with hi | hi
  · exact h2 c (List.mem_filter.mpr ⟨hc, hi⟩)
  · simpa [hi] using h
set_option maxRecDepth 65536 in
theorem w_c0 : (Jvm.Cond.code x code maxLocals ret).before args0 about1 = true := code_word (m := ⟨1, 2⟩) (meth := k1m2) (c := k1c2) (by decide +kernel) rfl rfl rfl (by decide +kernel)
set_option maxRecDepth 65536 in
theorem w_c1 : (Jvm.Cond.code ({ cls := "com/example/nearfield/nearfield/job/Bits", name := "<init>", desc := "(I)V" } : Jvm.MethodName) prog_45_method_1_code (2 : Nat) (Option.none : Option Jvm.ClassFile.FieldType)).before args0 about1 = true := code_word (m := ⟨2, 0⟩) (meth := k2m0) (c := k2c0) (by decide +kernel) rfl rfl rfl (by decide +kernel)
set_option maxRecDepth 65536 in
theorem w_c2 : (Jvm.Cond.code ({ cls := "java/lang/Object", name := "<init>", desc := "()V" } : Jvm.MethodName) object_method_1_code (1 : Nat) (Option.none : Option Jvm.ClassFile.FieldType)).before args0 about1 = true := code_word (m := ⟨0, 0⟩) (meth := k0m0) (c := k0c0) (by decide +kernel) rfl rfl rfl (by decide +kernel)
set_option maxRecDepth 65536 in
theorem w_c3 : (Jvm.Cond.code ({ cls := "com/example/nearfield/nearfield/job/Bits", name := "next", desc := "(II)I" } : Jvm.MethodName) prog_45_method_10_code (7 : Nat) (Option.some Jvm.ClassFile.FieldType.int)).before args0 about1 = true := code_word (m := ⟨2, 2⟩) (meth := k2m2) (c := k2c2) (by decide +kernel) rfl rfl rfl (by decide +kernel)
set_option maxRecDepth 65536 in
theorem w_c4 : (Jvm.Cond.code ({ cls := "com/example/nearfield/nearfield/job/BitsNextPinLaw", name := "pick", desc := "(IZIII)I" } : Jvm.MethodName) method_2_code (5 : Nat) (Option.some Jvm.ClassFile.FieldType.int)).before args0 about1 = true := code_word (m := ⟨1, 1⟩) (meth := k1m1) (c := k1c1) (by decide +kernel) rfl rfl rfl (by decide +kernel)
set_option maxRecDepth 65536 in
theorem w_c5 : (Jvm.Cond.code ({ cls := "com/example/nearfield/nearfield/job/Bits", name := "set", desc := "(I)V" } : Jvm.MethodName) prog_45_method_3_code (2 : Nat) (Option.none : Option Jvm.ClassFile.FieldType)).before args0 about1 = true := code_word (m := ⟨2, 1⟩) (meth := k2m1) (c := k2c1) (by decide +kernel) rfl rfl rfl (by decide +kernel)
def codes1 : List Jvm.Cond := [Jvm.Cond.code x code maxLocals ret, Jvm.Cond.code ({ cls := "com/example/nearfield/nearfield/job/Bits", name := "<init>", desc := "(I)V" } : Jvm.MethodName) prog_45_method_1_code (2 : Nat) (Option.none : Option Jvm.ClassFile.FieldType), Jvm.Cond.code ({ cls := "java/lang/Object", name := "<init>", desc := "()V" } : Jvm.MethodName) object_method_1_code (1 : Nat) (Option.none : Option Jvm.ClassFile.FieldType), Jvm.Cond.code ({ cls := "com/example/nearfield/nearfield/job/Bits", name := "next", desc := "(II)I" } : Jvm.MethodName) prog_45_method_10_code (7 : Nat) (Option.some Jvm.ClassFile.FieldType.int), Jvm.Cond.code ({ cls := "com/example/nearfield/nearfield/job/BitsNextPinLaw", name := "pick", desc := "(IZIII)I" } : Jvm.MethodName) method_2_code (5 : Nat) (Option.some Jvm.ClassFile.FieldType.int), Jvm.Cond.code ({ cls := "com/example/nearfield/nearfield/job/Bits", name := "set", desc := "(I)V" } : Jvm.MethodName) prog_45_method_3_code (2 : Nat) (Option.none : Option Jvm.ClassFile.FieldType)]
set_option maxRecDepth 65536 in
theorem codes_eq : words1.filter isCode = codes1 := rfl
theorem w_codes : ∀ c ∈ words1.filter isCode, c.before args0 about1 = true := by
  rw [codes_eq]
  intro c hc
  simp only [codes1, List.mem_cons, List.not_mem_nil, or_false] at hc
  rcases hc with rfl | rfl | rfl | rfl | rfl | rfl
  · exact w_c0
  · exact w_c1
  · exact w_c2
  · exact w_c3
  · exact w_c4
  · exact w_c5
set_option maxRecDepth 65536 in
theorem w_t1 : (words1.take 24).all (fun c => isCode c || c.before args0 about1) = true := by decide +kernel
set_option maxRecDepth 65536 in
theorem w_t2 : (words1.drop 24).all (fun c => isCode c || c.before args0 about1) = true := by decide +kernel
theorem w_tables : (allAtoms (Jvm.Cond.code x code maxLocals ret :: tables_1)).before args0 about1 = true := by
  rw [allAtoms_all]
  show words1.all (fun c => c.before args0 about1) = true
  refine all_split ?_ w_codes
  rw [← List.take_append_drop 24 words1, List.all_append, w_t1, w_t2]
  rfl
set_option maxRecDepth 65536 in
theorem w_case : (Jvm.Cond.and given_1 narrow_1).before args0 about1 = true := by decide +kernel
theorem w_applies : (headSpec (Jvm.Cond.code x code maxLocals ret :: tables_1) room_1).applies x e0.platform about1 = true :=
  (Spec.applies_iff w_frames).mpr ⟨w_running, w_runnable, w_alone, w_named, w_hears, w_ripe, w_room, w_tables⟩
theorem atStart : AtStart classFile x code maxLocals ret World_1 tables_1 room_1 Calls_1 rest_1 Pre_1 launch0 p0 e0 about1 theMethod args0 below0 :=
  ⟨lists_1, trivial, launch0.admits_env _ _ _, launch0.least_env, fairChoices_fair.cas, fairChoices_fair.clock, w_frames, w_args, w_heap, w_applies, trivial, trivial, w_case⟩
end start1
theorem witness_1 : WitnessClaimed_1 := ⟨start1.p0, start1.e0, start1.about1, start1.theMethod, start1.args0, start1.below0, start1.atStart⟩
end Jvm.Pilot.@@N@@
