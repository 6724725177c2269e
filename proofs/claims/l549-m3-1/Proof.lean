import JvmDerived
import JvmDerived.Pilot.@@N@@Statement
import JvmDerived.Pilot.@@N@@Code
set_option linter.unusedVariables false
set_option linter.unusedSimpArgs false
namespace Jvm.Pilot.@@N@@
open Jvm Jvm.ClassFile Sem Op Lib Jvm.Free Jvm.Stand Jvm.LawKit Jvm.RoadKit Bundle Jvm.Pilot.@@N@@.Jvm.D
section OwnKit
variable {p : Program} {l : Launch} {e : Env} {R : Room} {s : State} {m : MethodId} {args : Array Value} {below : List Frame} {meth : Method} {c : Code} {T : State} {locs : List Loc} {cells slots : Nat} {Z : State} {a0 : Array Value} {h : Heap}
/-- from S the body comes to its end, and P holds of it -/
def Gd (tb : Tables) (e : Env) (below : List Frame) (P : Outcome → State → Prop) (S : State) : Prop := ∃ s₂ o, Steps tb e below S s₂ ∧ s₂.status = .running ∧ Ended s₂ below o ∧ P o s₂
theorem Gd.go {tb : Tables} {e : Env} {below : List Frame} {P : Outcome → State → Prop} {S S' : State} (h : ∀ t, Steps tb e below S' t → Steps tb e below S t) (k : Gd tb e below P S') : Gd tb e below P S := by
  obtain ⟨s₂, o, h1, h2⟩ := k
  exact ⟨s₂, o, h _ h1, h2⟩
theorem Gd.via {tb : Tables} {e : Env} {below : List Frame} {P : Outcome → State → Prop} {S S' : State} (h : Gd tb e below P S' → Gd tb e below P S) (k : Gd tb e below P S') : Gd tb e below P S := h k
theorem Gd.viaA {α : Type} {A : α → Prop} {tb : Tables} {e : Env} {below : List Frame} {P : Outcome → State → Prop} {S : State} {S' : α → State} (h : (∀ z, A z → Gd tb e below P (S' z)) → Gd tb e below P S) (k : ∀ z, A z → Gd tb e below P (S' z)) : Gd tb e below P S := h k
/-- a body's contract: called with these arguments over this heap it returns, Q holds, and so many cells and slots at most are new -/
def Con (l : Launch) (Z : State) (y : MethodName) (bytes : ByteArray) (maxL : Nat) (ret : Option FieldType) (ws : List Jvm.Cond) (rm : Room) (kc ks : Nat) (as' : Array Value) (h : Heap) (Q : Option Value → Heap → List Loc → Prop) : Prop :=
  MetFree l y (head1 (Jvm.Cond.code y bytes maxL ret :: ws) rm) (fun a U => a = as' ∧ Z.Warmed39 U.vm ∧ U.heap = h) (fun _ _ _ _ _ => True) (fun _ U o U' => ∃ v L, o = .returned v ∧ Q v U'.heap L ∧ FrameEnd U o U' L kc ks)
/-- what a body's walk owes -/
abbrev Owes (s : State) (kc ks : Nat) (Q : Option Value → Heap → List Loc → Prop) : Outcome → State → Prop := fun o U' => ∃ v L, o = .returned v ∧ Q v U'.heap L ∧ FrameEnd s o U' L kc ks
theorem Con.of {y : MethodName} {bytes : ByteArray} {maxL : Nat} {ret : Option FieldType} {ws : List Jvm.Cond} {rm : Room} {kc ks : Nat} {as' : Array Value} {Q : Option Value → Heap → List Loc → Prop} (hpn : plainFor y = true)
    (body : ∀ (p : Program) (e : Env) (s : State) (m : MethodId) (below : List Frame) (meth : Method) (c : Code) (s₁ : State), p.tables.exec = Jvm.exec → c.code = bytes → c.maxLocals = maxL → s.vm.findClass y.cls = some m.cls → meth.name = y.name → meth.sig.returnType = ret → meth.locks = false → Z.Warmed39 s.vm →
      Stand p l e rm s m as' below meth c s₁ [] 0 0 → s₁.heap = h → Gd p.tables e below (Owes s kc ks Q) (s₁.setTop (entryFrame m as' maxL))) : Con l Z y bytes maxL ret ws rm kc ks as' h Q := by
  refine MetFree.of_bodySF hpn hisR ?_
  intro p e s m args below meth c s₁ Bd hml0 hP hK
  obtain ⟨rfl, hZ, hh⟩ := hP
  exact body p e s m below meth c s₁ Bd.exec Bd.bytes hml0 (findClass_of_methodNamed Bd.named) (name_of_methodNamed Bd.named Bd.method).1 Bd.returns Bd.notSynchronized hZ (Stand.of_body Bd) (by rw [← hh, Bd.state]; rfl)
theorem own_retI (X : Stand p l e R s m args below meth c T locs cells slots) (hx : p.tables.exec = Jvm.exec) {pc : Nat} {Ls : Array Slot} {z : Int32} {rest : List Value} (hret : meth.sig.returnType = some .int) (hlk : meth.locks = false) (hd : decode c.code pc = .ok (.ireturn, 1)) {Q : Option Value → Heap → List Loc → Prop} {kc ks : Nat} (hq : Q (some (.int z)) T.heap locs) (hc : cells ≤ kc) (hs : slots ≤ ks) :
    Gd p.tables e below (Owes s kc ks Q) (T.setTop (mkF m pc Ls (.int z :: rest))) := by
  obtain ⟨fs, hr, hrun, hended, hW, hsame⟩ := X.leave (v := some (.int z)) (fun h => by rw [hret] at h; cases h) hlk
  have hm' : T.vm.method? m = some meth := X.method'
  have hn : narrow .int (.int z) = .int z := rfl
  refine ⟨_, _, ?_, hrun, hended, _, _, rfl, hq, ⟨_, rfl⟩, hW, hsame.mono hc hs⟩
  show Steps p.tables e below (T.setTop { method := m, pc := pc, locals := Ls, stack := _ :: rest, locked := none }) _
  jvm_step X.here [X.here.top, hx, hd, hm', hret, hn]
  first | (intro acts; rw [hr _ acts rfl rfl rfl]) | rw [hr _ _ rfl rfl rfl]
  exact Steps.refl _
theorem own_retN (X : Stand p l e R s m args below meth c T locs cells slots) (hx : p.tables.exec = Jvm.exec) {pc : Nat} {Ls : Array Slot} {z : Int32} {rest : List Value} {t : FieldType} (hret : meth.sig.returnType = some t) (hlk : meth.locks = false) (ht : t = .boolean ∨ t = .byte ∨ t = .char ∨ t = .short) (hd : decode c.code pc = .ok (.ireturn, 1)) {Q : Option Value → Heap → List Loc → Prop} {kc ks : Nat} (hq : Q (some (.int (nar t z))) T.heap locs) (hc : cells ≤ kc) (hs : slots ≤ ks) :
    Gd p.tables e below (Owes s kc ks Q) (T.setTop (mkF m pc Ls (.int z :: rest))) := by
  obtain ⟨fs, hr, hrun, hended, hW, hsame⟩ := X.leave (v := some (.int (nar t z))) (fun h => by rw [hret] at h; cases h) hlk
  exact ⟨_, _, retN X hx hret ht hd hr, hrun, hended, _, _, rfl, hq, ⟨_, rfl⟩, hW, hsame.mono hc hs⟩
theorem own_retV (X : Stand p l e R s m args below meth c T locs cells slots) (hx : p.tables.exec = Jvm.exec) {pc : Nat} {Ls : Array Slot} (hret : meth.sig.returnType = none) (hlk : meth.locks = false) (hd : decode c.code pc = .ok (.return_, 1)) {Q : Option Value → Heap → List Loc → Prop} {kc ks : Nat} (hq : Q none T.heap locs) (hc : cells ≤ kc) (hs : slots ≤ ks) :
    Gd p.tables e below (Owes s kc ks Q) (T.setTop (mkF m pc Ls [])) := by
  obtain ⟨fs, hr, hrun, hended, hW, hsame⟩ := X.leave (v := none) (fun _ => rfl) hlk
  exact ⟨_, _, X.returnOut hx hret hd hr, hrun, hended, _, _, rfl, hq, ⟨_, rfl⟩, hW, hsame.mono hc hs⟩
theorem own_retL (X : Stand p l e R s m args below meth c T locs cells slots) (hx : p.tables.exec = Jvm.exec) {pc : Nat} {Ls : Array Slot} {z : Int64} {rest : List Value} (hret : meth.sig.returnType = some .long) (hlk : meth.locks = false) (hd : decode c.code pc = .ok (.lreturn, 1)) {Q : Option Value → Heap → List Loc → Prop} {kc ks : Nat} (hq : Q (some (.long z)) T.heap locs) (hc : cells ≤ kc) (hs : slots ≤ ks) :
    Gd p.tables e below (Owes s kc ks Q) (T.setTop (mkF m pc Ls (.long z :: rest))) := by
  obtain ⟨fs, hr, hrun, hended, hW, hsame⟩ := X.leave (v := some (.long z)) (fun h => by rw [hret] at h; cases h) hlk
  have hm' : T.vm.method? m = some meth := X.method'
  refine ⟨_, _, ?_, hrun, hended, _, _, rfl, hq, ⟨_, rfl⟩, hW, hsame.mono hc hs⟩
  show Steps p.tables e below (T.setTop { method := m, pc := pc, locals := Ls, stack := _ :: rest, locked := none }) _
  jvm_step X.here [X.here.top, hx, hd, hm', hret, narrow]
  first | (intro acts; rw [hr _ acts rfl rfl rfl]) | rw [hr _ _ rfl rfl rfl]
  exact Steps.refl _
theorem own_retA (X : Stand p l e R s m args below meth c T locs cells slots) (hx : p.tables.exec = Jvm.exec) {pc : Nat} {Ls : Array Slot} {a : Addr} {rest : List Value} {t : FieldType} (hret : meth.sig.returnType = some t) (hlk : meth.locks = false) (ht : t.isReference = true) (hd : decode c.code pc = .ok (.areturn, 1)) {Q : Option Value → Heap → List Loc → Prop} {kc ks : Nat} (hq : Q (some (.ref a)) T.heap locs) (hc : cells ≤ kc) (hs : slots ≤ ks) :
    Gd p.tables e below (Owes s kc ks Q) (T.setTop (mkF m pc Ls (.ref a :: rest))) := by
  obtain ⟨fs, hr, hrun, hended, hW, hsame⟩ := X.leave (v := some (.ref a)) (fun h => by rw [hret] at h; cases h) hlk
  have hm' : T.vm.method? m = some meth := X.method'
  refine ⟨_, _, ?_, hrun, hended, _, _, rfl, hq, ⟨_, rfl⟩, hW, hsame.mono hc hs⟩
  show Steps p.tables e below (T.setTop { method := m, pc := pc, locals := Ls, stack := _ :: rest, locked := none }) _
  jvm_step X.here [X.here.top, hx, hd, hm', hret, ht, Value.isRef]
  first | (intro acts; rw [hr _ acts rfl rfl rfl]) | rw [hr _ _ rfl rfl rfl]
  exact Steps.refl _
/-- a static call by its contract -/
theorem own_callS (X : Stand p l e R s m args below meth c T locs cells slots) (hx : p.tables.exec = Jvm.exec) (hZ : Z.Warmed39 s.vm) {own : String} {index : Nat} {y : MethodName} {bytes : ByteArray} {maxL : Nat} {ret : Option FieldType} (hown : s.vm.findClass own = some m.cls)
    (w1 : (Jvm.Cond.methodLink own index y).before a0 Z = true) (w2 : (Jvm.Cond.static y).before a0 Z = true) (w3 : (Jvm.Cond.initialized y.cls).before a0 Z = true) (w4 : (Jvm.Cond.code y bytes maxL ret).before a0 Z = true) (hy : y.cls ≠ "java/lang/invoke/MethodHandle" ∧ y.cls ≠ "java/lang/invoke/VarHandle")
    {rm : Room} {as' : Array Value} {Q : Option Value → Heap → List Loc → Prop} {W kc ks : Nat} (hM : Con l Z y bytes maxL ret [] rm kc ks as' h Q) (hkc : rm.cells = kc) (hks : rm.slots = ks) (eT : T.heap = h) (hf : rm.frames + 1 ≤ R.frames) (hl : W + (maxL + 11) + rm.locals ≤ R.locals)
    {g : JFrame} (hg : g.method = m) (hsize : g.locals.size = c.maxLocals) {argsL rest : List Value} (hlen : ∀ sig, parseMethodDescriptor y.desc = some sig → argsL.length = sig.parameters.length) (hstack : g.stack = argsL.reverse ++ rest) (hW : 2 * g.monitorRoom + (rest.map fun v => v.category).sum ≤ W)
    (hdg : decode c.code g.pc = .ok (.invokestatic index, 3)) (has : argsL.toArray = as') (hc : cells + kc ≤ R.cells) (hs : slots + ks ≤ R.slots) :
    ∃ v T' L, Stand p l e R s m args below meth c T' (locs ++ L) (cells + kc) (slots + ks) ∧ Q v T'.heap L ∧ ∀ target, Steps p.tables e below (T'.setTop { g with pc := g.pc + 3, stack := v.toList ++ rest }) target → Steps p.tables e below (T.setTop g) target := by
  subst hkc hks
  obtain ⟨v, vm₁, ⟨T', L', c', s'⟩, -, X', ⟨L, hq, l1, l2, l3⟩, st⟩ := Jvm.LawKit.callS X hx (y := y) hown (mvT hZ w1) (mvT hZ w2) (mvT hZ w3) (mvT hZ w4) hy (backOf (W := W) hM hZ w4 w3 hf hl) hg hsize (argsL := argsL) (rest := rest) hlen hstack hW hdg (fun _ _ => ⟨has, eT, hc, hs⟩)
  dsimp only [Pt.U, Pt.locs, Pt.cells, Pt.slots] at X' l1 l2 l3 st hq
  subst l1 l2 l3
  exact ⟨v, T', L, X', hq, st⟩
/-- a static call that writes and makes nothing -/
theorem own_callSP (X : Stand p l e R s m args below meth c T locs cells slots) (hx : p.tables.exec = Jvm.exec) (hZ : Z.Warmed39 s.vm) {own : String} {index : Nat} {y : MethodName} {bytes : ByteArray} {maxL : Nat} {ret : Option FieldType} (hown : s.vm.findClass own = some m.cls)
    (w1 : (Jvm.Cond.methodLink own index y).before a0 Z = true) (w2 : (Jvm.Cond.static y).before a0 Z = true) (w3 : (Jvm.Cond.initialized y.cls).before a0 Z = true) (w4 : (Jvm.Cond.code y bytes maxL ret).before a0 Z = true) (hy : y.cls ≠ "java/lang/invoke/MethodHandle" ∧ y.cls ≠ "java/lang/invoke/VarHandle")
    {rm : Room} {as' : Array Value} {v : Option Value} {W : Nat} (hM : Con l Z y bytes maxL ret [] rm 0 0 as' h (fun v' h' L => v' = v ∧ h' = h ∧ L = [])) (hkc : rm.cells = 0) (hks : rm.slots = 0) (eT : T.heap = h) (hf : rm.frames + 1 ≤ R.frames) (hl : W + (maxL + 11) + rm.locals ≤ R.locals)
    {g : JFrame} (hg : g.method = m) (hsize : g.locals.size = c.maxLocals) {argsL rest : List Value} (hlen : ∀ sig, parseMethodDescriptor y.desc = some sig → argsL.length = sig.parameters.length) (hstack : g.stack = argsL.reverse ++ rest) (hW : 2 * g.monitorRoom + (rest.map fun v => v.category).sum ≤ W)
    (hdg : decode c.code g.pc = .ok (.invokestatic index, 3)) (has : argsL.toArray = as') (hc : cells ≤ R.cells := by decide) (hs : slots ≤ R.slots := by decide) :
    ∃ T', Stand p l e R s m args below meth c T' locs cells slots ∧ T'.heap = h ∧ ∀ target, Steps p.tables e below (T'.setTop { g with pc := g.pc + 3, stack := v.toList ++ rest }) target → Steps p.tables e below (T.setTop g) target := by
  obtain ⟨v', T', L, X', ⟨e1, e2, e3⟩, st⟩ := own_callS X hx hZ hown w1 w2 w3 w4 hy hM hkc hks eT hf hl hg hsize hlen hstack hW hdg has hc hs
  subst e1 e3
  rw [List.append_nil] at X'
  exact ⟨T', X', e2, st⟩
/-- an instance method by its contract, chosen by the receiver's class -/
theorem own_callV (X : Stand p l e R s m args below meth c T locs cells slots) (hx : p.tables.exec = Jvm.exec) (hZ : Z.Warmed39 s.vm) {own C : String} {index : Nat} {y : MethodName} {bytes : ByteArray} {maxL : Nat} {ret : Option FieldType} (hown : s.vm.findClass own = some m.cls)
    (w1 : (Jvm.Cond.methodLink own index y).before a0 Z = true) (w2 : (Jvm.Cond.declares y).before a0 Z = true) (w3 : (Jvm.Cond.selects C y y).before a0 Z = true) (w4 : (Jvm.Cond.instanceMethod y).before a0 Z = true) (w5 : (Jvm.Cond.initialized y.cls).before a0 Z = true) (w6 : (Jvm.Cond.code y bytes maxL ret).before a0 Z = true) (hy : y.cls ≠ "java/lang/invoke/MethodHandle" ∧ y.cls ≠ "java/lang/invoke/VarHandle")
    {b : Addr} (E : Exa Z h b C) {rm : Room} {as' : Array Value} {Q : Option Value → Heap → List Loc → Prop} {W kc ks : Nat} (hM : Con l Z y bytes maxL ret [] rm kc ks as' h Q) (hkc : rm.cells = kc) (hks : rm.slots = ks) (eT : T.heap = h) (hf : rm.frames + 1 ≤ R.frames) (hl : W + (maxL + 11) + rm.locals ≤ R.locals)
    {g : JFrame} (hg : g.method = m) (hsize : g.locals.size = c.maxLocals) {argsL rest : List Value} (hlen : ∀ sig, parseMethodDescriptor y.desc = some sig → argsL.length = sig.parameters.length) (hstack : g.stack = argsL.reverse ++ .ref b :: rest) (hW : 2 * g.monitorRoom + (rest.map fun v => v.category).sum ≤ W)
    (hdg : decode c.code g.pc = .ok (.invokevirtual index, 3)) (has : (.ref b :: argsL).toArray = as') (hc : cells + kc ≤ R.cells) (hs : slots + ks ≤ R.slots) :
    ∃ v T' L, Stand p l e R s m args below meth c T' (locs ++ L) (cells + kc) (slots + ks) ∧ Q v T'.heap L ∧ ∀ target, Steps p.tables e below (T'.setTop { g with pc := g.pc + 3, stack := v.toList ++ rest }) target → Steps p.tables e below (T.setTop g) target := by
  subst hkc hks
  obtain ⟨cq, kq, qa, qb, qc⟩ := isOf hZ eT E
  obtain ⟨v, vm₁, ⟨T', L', c', s'⟩, -, X', ⟨L, hq, l1, l2, l3⟩, st⟩ := X.virtualBack hx (y := y) (z := y) hown (mvT hZ w1) (mvT hZ w2) (notFace_of_selects (args := #[]) (mvT hZ w3)) (mvT hZ w3) (mvT hZ w4) hy (backOf (W := W) hM hZ w6 w5 hf hl) qa qc hg hsize (Steps.refl _) (argsL := argsL) (rest := rest) hlen hstack hW hdg (fun _ _ => ⟨has, eT, hc, hs⟩)
  dsimp only [Pt.U, Pt.locs, Pt.cells, Pt.slots] at X' l1 l2 l3 st hq
  subst l1 l2 l3
  exact ⟨v, T', L, X', hq, fun _ k => st.trans k⟩
/-- an instance method that writes and makes nothing -/
theorem own_callVP (X : Stand p l e R s m args below meth c T locs cells slots) (hx : p.tables.exec = Jvm.exec) (hZ : Z.Warmed39 s.vm) {own C : String} {index : Nat} {y : MethodName} {bytes : ByteArray} {maxL : Nat} {ret : Option FieldType} (hown : s.vm.findClass own = some m.cls)
    (w1 : (Jvm.Cond.methodLink own index y).before a0 Z = true) (w2 : (Jvm.Cond.declares y).before a0 Z = true) (w3 : (Jvm.Cond.selects C y y).before a0 Z = true) (w4 : (Jvm.Cond.instanceMethod y).before a0 Z = true) (w5 : (Jvm.Cond.initialized y.cls).before a0 Z = true) (w6 : (Jvm.Cond.code y bytes maxL ret).before a0 Z = true) (hy : y.cls ≠ "java/lang/invoke/MethodHandle" ∧ y.cls ≠ "java/lang/invoke/VarHandle")
    {b : Addr} (E : Exa Z h b C) {rm : Room} {as' : Array Value} {v : Option Value} {W : Nat} (hM : Con l Z y bytes maxL ret [] rm 0 0 as' h (fun v' h' L => v' = v ∧ h' = h ∧ L = [])) (hkc : rm.cells = 0) (hks : rm.slots = 0) (eT : T.heap = h) (hf : rm.frames + 1 ≤ R.frames) (hl : W + (maxL + 11) + rm.locals ≤ R.locals)
    {g : JFrame} (hg : g.method = m) (hsize : g.locals.size = c.maxLocals) {argsL rest : List Value} (hlen : ∀ sig, parseMethodDescriptor y.desc = some sig → argsL.length = sig.parameters.length) (hstack : g.stack = argsL.reverse ++ .ref b :: rest) (hW : 2 * g.monitorRoom + (rest.map fun v => v.category).sum ≤ W)
    (hdg : decode c.code g.pc = .ok (.invokevirtual index, 3)) (has : (.ref b :: argsL).toArray = as') (hc : cells ≤ R.cells := by decide) (hs : slots ≤ R.slots := by decide) :
    ∃ T', Stand p l e R s m args below meth c T' locs cells slots ∧ T'.heap = h ∧ ∀ target, Steps p.tables e below (T'.setTop { g with pc := g.pc + 3, stack := v.toList ++ rest }) target → Steps p.tables e below (T.setTop g) target := by
  obtain ⟨v', T', L, X', ⟨e1, e2, e3⟩, st⟩ := own_callV X hx hZ hown w1 w2 w3 w4 w5 w6 hy E hM hkc hks eT hf hl hg hsize hlen hstack hW hdg has hc hs
  subst e1 e3
  rw [List.append_nil] at X'
  exact ⟨T', X', e2, st⟩
/-- a constructor by its contract -/
theorem own_callI (X : Stand p l e R s m args below meth c T locs cells slots) (hx : p.tables.exec = Jvm.exec) (hZ : Z.Warmed39 s.vm) {own : String} {index : Nat} {y : MethodName} {bytes : ByteArray} {maxL : Nat} (hy1 : y.name = "<init>") (hown : s.vm.findClass own = some m.cls)
    (w1 : (Jvm.Cond.methodLink own index y).before a0 Z = true) (w4 : (Jvm.Cond.instanceMethod y).before a0 Z = true) (w5 : (Jvm.Cond.initialized y.cls).before a0 Z = true) (w6 : (Jvm.Cond.code y bytes maxL none).before a0 Z = true) (hy : y.cls ≠ "java/lang/invoke/MethodHandle" ∧ y.cls ≠ "java/lang/invoke/VarHandle")
    {b : Addr} {rm : Room} {as' : Array Value} {Q : Option Value → Heap → List Loc → Prop} {W kc ks : Nat} (hM : Con l Z y bytes maxL none [] rm kc ks as' h Q) (hkc : rm.cells = kc) (hks : rm.slots = ks) (eT : T.heap = h) (hf : rm.frames + 1 ≤ R.frames) (hl : W + (maxL + 11) + rm.locals ≤ R.locals)
    {g : JFrame} (hg : g.method = m) (hsize : g.locals.size = c.maxLocals) {argsL rest : List Value} (hlen : ∀ sig, parseMethodDescriptor y.desc = some sig → argsL.length = sig.parameters.length) (hstack : g.stack = argsL.reverse ++ .ref b :: rest) (hW : 2 * g.monitorRoom + (rest.map fun v => v.category).sum ≤ W)
    (hdg : decode c.code g.pc = .ok (.invokespecial index, 3)) (has : (.ref b :: argsL).toArray = as') (hc : cells + kc ≤ R.cells) (hs : slots + ks ≤ R.slots) :
    ∃ v T' L, Stand p l e R s m args below meth c T' (locs ++ L) (cells + kc) (slots + ks) ∧ Q v T'.heap L ∧ ∀ target, Steps p.tables e below (T'.setTop { g with pc := g.pc + 3, stack := v.toList ++ rest }) target → Steps p.tables e below (T.setTop g) target := by
  subst hkc hks
  obtain ⟨v, vm₁, ⟨T', L', c', s'⟩, -, X', ⟨L, hq, l1, l2, l3⟩, st⟩ := X.specialBack hx (y := y) hy1 hown (mvT hZ w1) (mvT hZ w4) (mvT hZ w6) hy (backOf (W := W) hM hZ w6 w5 hf hl) hg hsize (Steps.refl _) (a := b) (argsL := argsL) (rest := rest) hlen hstack hW hdg (fun _ _ => ⟨has, eT, hc, hs⟩)
  dsimp only [Pt.U, Pt.locs, Pt.cells, Pt.slots] at X' l1 l2 l3 st hq
  subst l1 l2 l3
  exact ⟨v, T', L, X', hq, fun _ k => st.trans k⟩
/-- an array as a function of its places -/
def ArF (Z : State) (h : Heap) (a : Addr) (ty : FieldType) (n : Nat) (f : Nat → Value) : Prop := ∃ c : Cell, Arr Z h a c ty ∧ c.slots.size = n ∧ n < 2 ^ 31 ∧ ∀ i, i < n → c.slots[i]? = some (f i)
def upd (f : Nat → Value) (j : Nat) (v : Value) : Nat → Value := fun i => if i = j then v else f i
theorem upd_at (f : Nat → Value) (j : Nat) (v : Value) : upd f j v j = v := if_pos rfl
theorem upd_ne (f : Nat → Value) {i j : Nat} (v : Value) (q : ¬ i = j) : upd f j v i = f i := if_neg q
theorem ArF.lt {h : Heap} {a : Addr} {ty : FieldType} {n : Nat} {f : Nat → Value} (F : ArF Z h a ty n f) : a < h.size := by obtain ⟨c, A, -⟩ := F; exact A.lt
theorem ArF.ext {h h' : Heap} {a : Addr} {ty : FieldType} {n : Nat} {f : Nat → Value} (F : ArF Z h a ty n f) (E : Ext h h') : ArF Z h' a ty n f := by obtain ⟨c, A, r⟩ := F; exact ⟨c, A.ext E, r⟩
theorem ArF.other {h h' : Heap} {a b : Addr} {ty : FieldType} {n : Nat} {f : Nat → Value} {sl : Nat} {v : Value} (F : ArF Z h b ty n f) (W : Wr h h' a sl v) (q : b ≠ a) : ArF Z h' b ty n f := by obtain ⟨c, A, r⟩ := F; exact ⟨c, A.other W q, r⟩
theorem ArF.keep {h h' : Heap} {a : Addr} {ty : FieldType} {n : Nat} {f : Nat → Value} {ws : List Addr} (F : ArF Z h a ty n f) (K : Keep h h' ws) (q : a ∉ ws) : ArF Z h' a ty n f := by obtain ⟨c, A, r⟩ := F; exact ⟨c, ⟨K.2.1 a c A.1 q, A.2⟩, r⟩
theorem ArF.set {h h' : Heap} {a : Addr} {ty : FieldType} {n : Nat} {f : Nat → Value} {j : Nat} {v : Value} (F : ArF Z h a ty n f) (W : Wr h h' a j v) : ArF Z h' a ty n (upd f j v) := by
  obtain ⟨c, A, r1, r2, r3⟩ := F
  refine ⟨_, A.same W, by rw [sz_set]; exact r1, r2, fun i hi => ?_⟩
  show (c.slots.setIfInBounds j v)[i]? = _
  rw [Array.getElem?_setIfInBounds]
  by_cases q : j = i
  · subst q; rw [if_pos rfl, if_pos (by omega), upd_at]
  · rw [if_neg q, upd_ne _ _ (fun w => q w.symm)]; exact r3 i hi
theorem ArF.congr {h : Heap} {a : Addr} {ty : FieldType} {n : Nat} {f g : Nat → Value} (F : ArF Z h a ty n f) (q : ∀ i, i < n → f i = g i) : ArF Z h a ty n g := by
  obtain ⟨c, A, r1, r2, r3⟩ := F
  exact ⟨c, A, r1, r2, fun i hi => by rw [← q i hi]; exact r3 i hi⟩
theorem ArF.n31 {h : Heap} {a : Addr} {ty : FieldType} {n : Nat} {f : Nat → Value} (F : ArF Z h a ty n f) : n < 2 ^ 31 := by obtain ⟨c, A, r1, r2, r3⟩ := F; exact r2
theorem own_ofN {n : Nat} (h : n < 2 ^ 31) : (Int32.ofNat n).toInt = n := Int32.toInt_ofNat_small h
theorem own_ofC {n : Nat} (h : n < 2 ^ 31) : (Int32.ofNat n).toNatClampNeg = n := by show (Int32.ofNat n).toInt.toNat = n; rw [own_ofN h]; rfl
theorem own_ltN {i n : Nat} (h : i < n) (hn : n < 2 ^ 31) : Int32.ofNat i < Int32.ofNat n := by rw [Int32.lt_iff_toInt_lt, own_ofN (by omega), own_ofN hn]; omega
theorem own_geN {i n : Nat} (h : ¬ i < n) (hn : i < 2 ^ 31) : ¬ Int32.ofNat i < Int32.ofNat n := by rw [Int32.lt_iff_toInt_lt, own_ofN hn, own_ofN (by omega)]; omega
theorem own_incN (i : Nat) : Int32.ofNat i + (1 : Int32) = Int32.ofNat (i + 1) := (Int32.ofNat_add i 1).symm
theorem own_nat {j : Int32} (h : 0 ≤ j.toInt) : (j.toNatClampNeg : Int) = j.toInt := Int.toNat_of_nonneg h
theorem own_natInj {i j : Int32} (hi : 0 ≤ i.toInt) (hj : 0 ≤ j.toInt) : i.toNatClampNeg = j.toNatClampNeg ↔ i = j := by
  constructor
  · intro q; have a := own_nat hi; have b := own_nat hj; exact Int32.toInt_inj.mp (by omega)
  · rintro rfl; rfl
theorem own_in {c : Cell} {n : Nat} {j : Int32} (S : c.slots.size = n) (h1 : 0 ≤ j.toInt) (h2 : j.toInt < n) : ¬ (j < 0 ∨ c.slots.size ≤ j.toNatClampNeg) := by
  have e : (j.toNatClampNeg : Int) = j.toInt := Int.toNat_of_nonneg h1
  rw [Int32.lt_iff_toInt_lt]
  have : (0 : Int32).toInt = 0 := rfl
  omega
theorem own_new {h h' : Heap} {k : ClassId} {ty : FieldType} {z : Int32} {a : Addr} (A : Arr Z h' a (newA k ty z) ty) (q : ¬ z < 0) : ArF Z h' a ty z.toNatClampNeg (fun _ => defaultValue ty) :=
  ⟨_, A, sz_new _ _ _, (back32 q).2, fun i hi => by simp [newA, hi]⟩
theorem own_ldI (X : Stand p l e R s m args below meth c T locs cells slots) (hx : p.tables.exec = Jvm.exec) (hZ : Z.Warmed39 s.vm) (eT : T.heap = h) {a : Addr} {n : Nat} {f : Nat → Value} (A : ArF Z h a .int n f) {j : Int32} (h1 : 0 ≤ j.toInt) (h2 : j.toInt < n) {v : Value} (hv : f j.toNatClampNeg = v)
    {g : JFrame} (hg : g.method = m) {rest : List Value} (hs : g.stack = .int j :: .ref a :: rest) (hd : decode c.code g.pc = .ok (.iaload, 1)) (target : State) (k : Steps p.tables e below (T.setTop { g with pc := g.pc + 1, stack := v :: rest }) target) : Steps p.tables e below (T.setTop g) target := by
  obtain ⟨cl, Ar, S, -, H⟩ := A
  exact X.iaload hx (j := j) (v := v) (by rw [eT]; exact Ar.1) (State.isArrayOf_alike hZ.alike Ar.2.1) Ar.2.2 (own_in S h1 h2) (by have e := Int.toNat_of_nonneg h1; rw [← hv]; exact H _ (by show j.toInt.toNat < n; omega)) hg hs hd _ k
theorem own_ldJ (X : Stand p l e R s m args below meth c T locs cells slots) (hx : p.tables.exec = Jvm.exec) (hZ : Z.Warmed39 s.vm) (eT : T.heap = h) {a : Addr} {n : Nat} {f : Nat → Value} (A : ArF Z h a .long n f) {j : Int32} (h1 : 0 ≤ j.toInt) (h2 : j.toInt < n) {v : Value} (hv : f j.toNatClampNeg = v)
    {g : JFrame} (hg : g.method = m) {rest : List Value} (hs : g.stack = .int j :: .ref a :: rest) (hd : decode c.code g.pc = .ok (.laload, 1)) (target : State) (k : Steps p.tables e below (T.setTop { g with pc := g.pc + 1, stack := v :: rest }) target) : Steps p.tables e below (T.setTop g) target := by
  obtain ⟨cl, Ar, S, -, H⟩ := A
  exact X.laload hx (j := j) (v := v) (by rw [eT]; exact Ar.1) (State.isArrayOf_alike hZ.alike Ar.2.1) Ar.2.2 (own_in S h1 h2) (by have e := Int.toNat_of_nonneg h1; rw [← hv]; exact H _ (by show j.toInt.toNat < n; omega)) hg hs hd _ k
theorem own_ldB (X : Stand p l e R s m args below meth c T locs cells slots) (hx : p.tables.exec = Jvm.exec) (hZ : Z.Warmed39 s.vm) (eT : T.heap = h) {a : Addr} {n : Nat} {f : Nat → Value} (A : ArF Z h a .byte n f) {j : Int32} (h1 : 0 ≤ j.toInt) (h2 : j.toInt < n) {v : Value} (hv : f j.toNatClampNeg = v)
    {g : JFrame} (hg : g.method = m) {rest : List Value} (hs : g.stack = .int j :: .ref a :: rest) (hd : decode c.code g.pc = .ok (.baload, 1)) (target : State) (k : Steps p.tables e below (T.setTop { g with pc := g.pc + 1, stack := v :: rest }) target) : Steps p.tables e below (T.setTop g) target := by
  obtain ⟨cl, Ar, S, -, H⟩ := A
  exact X.baloadBytes hx (j := j) (v := v) (by rw [eT]; exact Ar.1) (State.isArrayOf_alike hZ.alike Ar.2.1) Ar.2.2 (own_in S h1 h2) (by have e := Int.toNat_of_nonneg h1; rw [← hv]; exact H _ (by show j.toInt.toNat < n; omega)) hg hs hd _ k
theorem own_ldC (X : Stand p l e R s m args below meth c T locs cells slots) (hx : p.tables.exec = Jvm.exec) (hZ : Z.Warmed39 s.vm) (eT : T.heap = h) {a : Addr} {n : Nat} {f : Nat → Value} (A : ArF Z h a .char n f) {j : Int32} (h1 : 0 ≤ j.toInt) (h2 : j.toInt < n) {v : Value} (hv : f j.toNatClampNeg = v)
    {g : JFrame} (hg : g.method = m) {rest : List Value} (hs : g.stack = .int j :: .ref a :: rest) (hd : decode c.code g.pc = .ok (.caload, 1)) (target : State) (k : Steps p.tables e below (T.setTop { g with pc := g.pc + 1, stack := v :: rest }) target) : Steps p.tables e below (T.setTop g) target := by
  obtain ⟨cl, Ar, S, -, H⟩ := A
  exact X.caload hx (j := j) (v := v) (by rw [eT]; exact Ar.1) (State.isArrayOf_alike hZ.alike Ar.2.1) Ar.2.2 (own_in S h1 h2) (by have e := Int.toNat_of_nonneg h1; rw [← hv]; exact H _ (by show j.toInt.toNat < n; omega)) hg hs hd _ k
theorem own_len (X : Stand p l e R s m args below meth c T locs cells slots) (hx : p.tables.exec = Jvm.exec) (hZ : Z.Warmed39 s.vm) (eT : T.heap = h) {a : Addr} {ty : FieldType} {n : Nat} {f : Nat → Value} (A : ArF Z h a ty n f) {z : Int32} (hz : Int32.ofNat n = z)
    {g : JFrame} (hg : g.method = m) {rest : List Value} (hs : g.stack = .ref a :: rest) (hd : decode c.code g.pc = .ok (.arraylength, 1)) (target : State) (k : Steps p.tables e below (T.setTop { g with pc := g.pc + 1, stack := .int z :: rest }) target) : Steps p.tables e below (T.setTop g) target := by
  obtain ⟨cl, Ar, S, -, H⟩ := A
  refine X.arraylength hx (by rw [eT]; exact Ar.1) (State.isArrayOf_alike hZ.alike Ar.2.1) hg hs hd _ ?_
  rw [S]; rw [← hz] at k; exact k
theorem own_stI (X : Stand p l e R s m args below meth c T locs cells slots) (hx : p.tables.exec = Jvm.exec) (hZ : Z.Warmed39 s.vm) (eT : T.heap = h) {a : Addr} {n : Nat} {f : Nat → Value} (A : ArF Z h a .int n f) {j x : Int32} (h1 : 0 ≤ j.toInt) (h2 : j.toInt < n)
    {g : JFrame} (hg : g.method = m) {rest : List Value} (hs : g.stack = .int x :: .int j :: .ref a :: rest) (hd : decode c.code g.pc = .ok (.iastore, 1)) :
    ∃ T' h', Stand p l e R s m args below meth c T' (locs ++ [⟨a, j.toNatClampNeg⟩]) cells slots ∧ T'.heap = h' ∧ Wr h h' a j.toNatClampNeg (.int x) ∧ ∀ target, Steps p.tables e below (T'.setTop { g with pc := g.pc + 1, stack := rest }) target → Steps p.tables e below (T.setTop g) target := by
  obtain ⟨cl, Ar, S, -, H⟩ := A
  exact stI X hx hZ eT Ar (own_in S h1 h2) hg hs hd
theorem own_stJ (X : Stand p l e R s m args below meth c T locs cells slots) (hx : p.tables.exec = Jvm.exec) (hZ : Z.Warmed39 s.vm) (eT : T.heap = h) {a : Addr} {n : Nat} {f : Nat → Value} (A : ArF Z h a .long n f) {j : Int32} {x : Int64} (h1 : 0 ≤ j.toInt) (h2 : j.toInt < n)
    {g : JFrame} (hg : g.method = m) {rest : List Value} (hs : g.stack = .long x :: .int j :: .ref a :: rest) (hd : decode c.code g.pc = .ok (.lastore, 1)) :
    ∃ T' h', Stand p l e R s m args below meth c T' (locs ++ [⟨a, j.toNatClampNeg⟩]) cells slots ∧ T'.heap = h' ∧ Wr h h' a j.toNatClampNeg (.long x) ∧ ∀ target, Steps p.tables e below (T'.setTop { g with pc := g.pc + 1, stack := rest }) target → Steps p.tables e below (T.setTop g) target := by
  obtain ⟨cl, Ar, S, -, H⟩ := A
  exact stJ X hx hZ eT Ar (own_in S h1 h2) hg hs hd
/-- a boolean as an int -/
def bI (P : Prop) [Decidable P] : Int32 := if P then 1 else 0
theorem bI_z {P : Prop} [Decidable P] (h : ¬ P) : bI P = 0 := if_neg h
theorem bI_o {P : Prop} [Decidable P] (h : P) : bI P = 1 := if_pos h
theorem bI_ne {P : Prop} [Decidable P] (h : P) : ¬ bI P = 0 := by rw [bI_o h]; decide
theorem nar_b {P : Prop} [Decidable P] : nar .boolean (bI P) = bI P := by unfold bI; split <;> rfl
end OwnKit
theorem own_z0 : (0 : Int32).toInt = 0 := rfl
theorem own_z1 : (1 : Int32).toInt = 1 := rfl
/-- what 'before' answers -/
def own_bef (a b : Int64) (c : Int32) (d e : Int64) (f : Int32) : Int32 := if a = d then (if b = e then bI (c < f) else bI (e < b)) else bI (a < d)
theorem own_tot (a b : Int64) (c : Int32) (d e : Int64) (f : Int32) : (own_bef a b c d e f = 0 ∧ own_bef d e f a b c = 0 ∧ a.toInt = d.toInt ∧ b.toInt = e.toInt ∧ c.toInt = f.toInt) ∨ (own_bef a b c d e f = 1 ∧ own_bef d e f a b c = 0 ∧ (a.toInt < d.toInt ∨ a.toInt = d.toInt ∧ e.toInt < b.toInt ∨ a.toInt = d.toInt ∧ b.toInt = e.toInt ∧ c.toInt < f.toInt)) ∨ (own_bef a b c d e f = 0 ∧ own_bef d e f a b c = 1 ∧ (d.toInt < a.toInt ∨ a.toInt = d.toInt ∧ b.toInt < e.toInt ∨ a.toInt = d.toInt ∧ b.toInt = e.toInt ∧ f.toInt < c.toInt)) := by
  unfold own_bef bI
  simp only [Int64.lt_iff_toInt_lt, Int32.lt_iff_toInt_lt, ← Int64.toInt_inj]
  by_cases p1 : a.toInt = d.toInt
  · by_cases p2 : b.toInt = e.toInt
    · by_cases p3 : c.toInt < f.toInt
      · have : ¬ f.toInt < c.toInt := by omega
        simp [p1, p2, p3, this]
      · by_cases p4 : f.toInt < c.toInt
        · simp [p1, p2, p3, p4]
        · simp [p1, p2, p3, p4]; omega
    · have p2' : ¬ e.toInt = b.toInt := fun q => p2 q.symm
      by_cases p3 : e.toInt < b.toInt
      · have : ¬ b.toInt < e.toInt := by omega
        simp [p1, p2, p2', p3, this]
      · have : b.toInt < e.toInt := by omega
        simp [p1, p2, p2', p3, this]
  · have p1' : ¬ d.toInt = a.toInt := fun q => p1 q.symm
    by_cases p3 : a.toInt < d.toInt
    · have : ¬ d.toInt < a.toInt := by omega
      simp [p1, p1', p3, this]
    · have : d.toInt < a.toInt := by omega
      simp [p1, p1', p3, this]
theorem own_nar (a b : Int64) (c : Int32) (d e : Int64) (f : Int32) : nar .boolean (own_bef a b c d e f) = own_bef a b c d e f := by unfold own_bef; split; (split <;> exact nar_b); exact nar_b
theorem own_pn0 : plainFor (⟨"com/example/nearfield/nearfield/job/ReadQueue", "before", "(JJIJJI)Z"⟩ : MethodName) = true := by first | exact plainFor_of_name (by first | (simp [plainName, overriddenIn, x]; done) | decide +kernel) | decide +kernel
theorem ef_1 (m : MethodId) (q0 : Int64) (q1 : Int64) (q2 : Int32) (q3 : Int64) (q4 : Int64) (q5 : Int32) : entryFrame m #[(.long q0), (.long q1), (.int q2), (.long q3), (.long q4), (.int q5)] 10 = mkF m 0 #[.val (.long q0), .second, .val (.long q1), .second, .val (.int q2), .val (.long q3), .second, .val (.long q4), .second, .val (.int q5)] [] := by first | (simp [entryFrame, mkF, argsToLocals, Value.category, maxLocals]; done) | rfl
theorem d1_0 : decode prog_100_method_18_code 0 = .ok (.lload_n 0, 1) := by decide +kernel
theorem d1_1 : decode prog_100_method_18_code 1 = .ok (.lload 5, 2) := by decide +kernel
theorem d1_3 : decode prog_100_method_18_code 3 = .ok (.lcmp, 1) := by decide +kernel
theorem d1_4 : decode prog_100_method_18_code 4 = .ok (.ifCond .eq 16, 3) := by decide +kernel
theorem d1_20 : decode prog_100_method_18_code 20 = .ok (.lload_n 2, 1) := by decide +kernel
theorem d1_21 : decode prog_100_method_18_code 21 = .ok (.lload 7, 2) := by decide +kernel
theorem d1_23 : decode prog_100_method_18_code 23 = .ok (.lcmp, 1) := by decide +kernel
theorem d1_24 : decode prog_100_method_18_code 24 = .ok (.ifCond .eq 18, 3) := by decide +kernel
theorem d1_42 : decode prog_100_method_18_code 42 = .ok (.iload 4, 2) := by decide +kernel
theorem d1_44 : decode prog_100_method_18_code 44 = .ok (.iload 9, 2) := by decide +kernel
theorem d1_46 : decode prog_100_method_18_code 46 = .ok (.if_icmp .ge 7, 3) := by decide +kernel
theorem d1_49 : decode prog_100_method_18_code 49 = .ok (.iconst 1, 1) := by decide +kernel
theorem d1_50 : decode prog_100_method_18_code 50 = .ok (.goto 4, 3) := by decide +kernel
theorem d1_54 : decode prog_100_method_18_code 54 = .ok (.ireturn, 1) := by decide +kernel
theorem d1_53 : decode prog_100_method_18_code 53 = .ok (.iconst 0, 1) := by decide +kernel
theorem d1_27 : decode prog_100_method_18_code 27 = .ok (.lload_n 2, 1) := by decide +kernel
theorem d1_28 : decode prog_100_method_18_code 28 = .ok (.lload 7, 2) := by decide +kernel
theorem d1_30 : decode prog_100_method_18_code 30 = .ok (.lcmp, 1) := by decide +kernel
theorem d1_31 : decode prog_100_method_18_code 31 = .ok (.ifCond .le 7, 3) := by decide +kernel
theorem d1_34 : decode prog_100_method_18_code 34 = .ok (.iconst 1, 1) := by decide +kernel
theorem d1_35 : decode prog_100_method_18_code 35 = .ok (.goto 19, 3) := by decide +kernel
theorem d1_38 : decode prog_100_method_18_code 38 = .ok (.iconst 0, 1) := by decide +kernel
theorem d1_39 : decode prog_100_method_18_code 39 = .ok (.goto 15, 3) := by decide +kernel
theorem d1_7 : decode prog_100_method_18_code 7 = .ok (.lload_n 0, 1) := by decide +kernel
theorem d1_8 : decode prog_100_method_18_code 8 = .ok (.lload 5, 2) := by decide +kernel
theorem d1_10 : decode prog_100_method_18_code 10 = .ok (.lcmp, 1) := by decide +kernel
theorem d1_11 : decode prog_100_method_18_code 11 = .ok (.ifCond .ge 7, 3) := by decide +kernel
theorem d1_14 : decode prog_100_method_18_code 14 = .ok (.iconst 1, 1) := by decide +kernel
theorem d1_15 : decode prog_100_method_18_code 15 = .ok (.goto 4, 3) := by decide +kernel
theorem d1_19 : decode prog_100_method_18_code 19 = .ok (.ireturn, 1) := by decide +kernel
theorem d1_18 : decode prog_100_method_18_code 18 = .ok (.iconst 0, 1) := by decide +kernel
set_option maxRecDepth 65536 in
set_option maxHeartbeats 40000000 in
theorem own_c1 (l : Launch) (Z : State) (a0 : Array Value) (hw : ∀ d ∈ tables_1, d.before a0 Z = true) (a b : Int64) (c : Int32) (d f : Int64) (g : Int32) (h0 : Heap) :
    Con l Z (⟨"com/example/nearfield/nearfield/job/ReadQueue", "before", "(JJIJJI)Z"⟩ : MethodName) prog_100_method_18_code 10 (some .boolean) [] ({ frames := 0, cells := 0, slots := 0, locals := 0 } : Room) 0 0 #[(.long a), (.long b), (.int c), (.long d), (.long f), (.int g)] h0 (fun v h L => v = some (.int (own_bef a b c d f g)) ∧ h = h0 ∧ L = []) := by
  refine Con.of own_pn0 ?_
  intro pg ev s_ m bl mt cd s₁ hx hby hml hown hnm hret hlk hZ X0 e0
  rw [ef_1]
  show Gd _ _ _ _ (s₁.setTop (mkF m 0 #[.val (.long a), .second, .val (.long b), .second, .val (.int c), .val (.long d), .second, .val (.long f), .second, .val (.int g)] []))
  refine Gd.go (fun _ w_k => XS.lloadN X0.here hx rfl (hb hby d1_0) rfl w_k) ?_
  show Gd _ _ _ _ (s₁.setTop (mkF m 1 #[.val (.long a), .second, .val (.long b), .second, .val (.int c), .val (.long d), .second, .val (.long f), .second, .val (.int g)] [(.long a)]))
  refine Gd.go (fun _ w_k => XS.lload X0.here hx rfl (hb hby d1_1) rfl w_k) ?_
  show Gd _ _ _ _ (s₁.setTop (mkF m 3 #[.val (.long a), .second, .val (.long b), .second, .val (.int c), .val (.long d), .second, .val (.long f), .second, .val (.int g)] [(.long d), (.long a)]))
  refine Gd.go (fun _ w_k => XS.lcmp X0.here hx rfl (hb hby d1_3) rfl w_k) ?_
  show Gd _ _ _ _ (s₁.setTop (mkF m 4 #[.val (.long a), .second, .val (.long b), .second, .val (.int c), .val (.long d), .second, .val (.long f), .second, .val (.int g)] [(.int (lcmpW a d))]))
  by_cases hc1 : a = d
  · refine Gd.go (fun _ w_k => XS.ifYes X0.here hx rfl (pc0 := 4) (pc' := 20) rfl (hb hby d1_4) rfl ((if0 _ _).trans (teq ((lw_eq _ _).mpr hc1)).1) (by decide) (by decide) w_k) ?_
    show Gd _ _ _ _ (s₁.setTop (mkF m 20 #[.val (.long a), .second, .val (.long b), .second, .val (.int c), .val (.long d), .second, .val (.long f), .second, .val (.int g)] []))
    refine Gd.go (fun _ w_k => XS.lloadN X0.here hx rfl (hb hby d1_20) rfl w_k) ?_
    show Gd _ _ _ _ (s₁.setTop (mkF m 21 #[.val (.long a), .second, .val (.long b), .second, .val (.int c), .val (.long d), .second, .val (.long f), .second, .val (.int g)] [(.long b)]))
    refine Gd.go (fun _ w_k => XS.lload X0.here hx rfl (hb hby d1_21) rfl w_k) ?_
    show Gd _ _ _ _ (s₁.setTop (mkF m 23 #[.val (.long a), .second, .val (.long b), .second, .val (.int c), .val (.long d), .second, .val (.long f), .second, .val (.int g)] [(.long f), (.long b)]))
    refine Gd.go (fun _ w_k => XS.lcmp X0.here hx rfl (hb hby d1_23) rfl w_k) ?_
    show Gd _ _ _ _ (s₁.setTop (mkF m 24 #[.val (.long a), .second, .val (.long b), .second, .val (.int c), .val (.long d), .second, .val (.long f), .second, .val (.int g)] [(.int (lcmpW b f))]))
    by_cases hc2 : b = f
    · refine Gd.go (fun _ w_k => XS.ifYes X0.here hx rfl (pc0 := 24) (pc' := 42) rfl (hb hby d1_24) rfl ((if0 _ _).trans (teq ((lw_eq _ _).mpr hc2)).1) (by decide) (by decide) w_k) ?_
      show Gd _ _ _ _ (s₁.setTop (mkF m 42 #[.val (.long a), .second, .val (.long b), .second, .val (.int c), .val (.long d), .second, .val (.long f), .second, .val (.int g)] []))
      refine Gd.go (fun _ w_k => XS.iload X0.here hx rfl (hb hby d1_42) rfl w_k) ?_
      show Gd _ _ _ _ (s₁.setTop (mkF m 44 #[.val (.long a), .second, .val (.long b), .second, .val (.int c), .val (.long d), .second, .val (.long f), .second, .val (.int g)] [(.int c)]))
      refine Gd.go (fun _ w_k => XS.iload X0.here hx rfl (hb hby d1_44) rfl w_k) ?_
      show Gd _ _ _ _ (s₁.setTop (mkF m 46 #[.val (.long a), .second, .val (.long b), .second, .val (.int c), .val (.long d), .second, .val (.long f), .second, .val (.int g)] [(.int g), (.int c)]))
      by_cases hc3 : c < g
      · refine Gd.go (fun _ w_k => XS.icmpNo X0.here hx rfl (hb hby d1_46) rfl (tlt hc3).2.1 w_k) ?_
        show Gd _ _ _ _ (s₁.setTop (mkF m 49 #[.val (.long a), .second, .val (.long b), .second, .val (.int c), .val (.long d), .second, .val (.long f), .second, .val (.int g)] []))
        refine Gd.go (fun _ w_k => XS.iconst X0.here hx rfl (hb hby d1_49) w_k) ?_
        show Gd _ _ _ _ (s₁.setTop (mkF m 50 #[.val (.long a), .second, .val (.long b), .second, .val (.int c), .val (.long d), .second, .val (.long f), .second, .val (.int g)] [(.int (1 : Int32))]))
        refine Gd.go (fun _ w_k => XS.goto X0.here hx rfl (pc0 := 50) (pc' := 54) rfl (hb hby d1_50) (by decide) (by decide) w_k) ?_
        show Gd _ _ _ _ (s₁.setTop (mkF m 54 #[.val (.long a), .second, .val (.long b), .second, .val (.int c), .val (.long d), .second, .val (.long f), .second, .val (.int g)] [(.int (1 : Int32))]))
        refine own_retN (t := .boolean) X0 hx hret hlk (by simp) (hb hby d1_54) ?_ (by decide) (by decide)
        exact ⟨by simp only [own_bef, bI, nar, hc1, hc2, hc3, if_true, if_false]; decide, e0, rfl⟩
      · refine Gd.go (fun _ w_k => XS.icmpYes X0.here hx rfl (pc0 := 46) (pc' := 53) rfl (hb hby d1_46) rfl (flt hc3).2.1 (by decide) (by decide) w_k) ?_
        show Gd _ _ _ _ (s₁.setTop (mkF m 53 #[.val (.long a), .second, .val (.long b), .second, .val (.int c), .val (.long d), .second, .val (.long f), .second, .val (.int g)] []))
        refine Gd.go (fun _ w_k => XS.iconst X0.here hx rfl (hb hby d1_53) w_k) ?_
        show Gd _ _ _ _ (s₁.setTop (mkF m 54 #[.val (.long a), .second, .val (.long b), .second, .val (.int c), .val (.long d), .second, .val (.long f), .second, .val (.int g)] [(.int (0 : Int32))]))
        refine own_retN (t := .boolean) X0 hx hret hlk (by simp) (hb hby d1_54) ?_ (by decide) (by decide)
        exact ⟨by simp only [own_bef, bI, nar, hc1, hc2, hc3, if_true, if_false]; decide, e0, rfl⟩
    · refine Gd.go (fun _ w_k => XS.ifNo X0.here hx rfl (hb hby d1_24) rfl ((if0 _ _).trans (feq (fun q => hc2 ((lw_eq _ _).mp q))).1) w_k) ?_
      show Gd _ _ _ _ (s₁.setTop (mkF m 27 #[.val (.long a), .second, .val (.long b), .second, .val (.int c), .val (.long d), .second, .val (.long f), .second, .val (.int g)] []))
      refine Gd.go (fun _ w_k => XS.lloadN X0.here hx rfl (hb hby d1_27) rfl w_k) ?_
      show Gd _ _ _ _ (s₁.setTop (mkF m 28 #[.val (.long a), .second, .val (.long b), .second, .val (.int c), .val (.long d), .second, .val (.long f), .second, .val (.int g)] [(.long b)]))
      refine Gd.go (fun _ w_k => XS.lload X0.here hx rfl (hb hby d1_28) rfl w_k) ?_
      show Gd _ _ _ _ (s₁.setTop (mkF m 30 #[.val (.long a), .second, .val (.long b), .second, .val (.int c), .val (.long d), .second, .val (.long f), .second, .val (.int g)] [(.long f), (.long b)]))
      refine Gd.go (fun _ w_k => XS.lcmp X0.here hx rfl (hb hby d1_30) rfl w_k) ?_
      show Gd _ _ _ _ (s₁.setTop (mkF m 31 #[.val (.long a), .second, .val (.long b), .second, .val (.int c), .val (.long d), .second, .val (.long f), .second, .val (.int g)] [(.int (lcmpW b f))]))
      by_cases hc4 : f < b
      · refine Gd.go (fun _ w_k => XS.ifNo X0.here hx rfl (hb hby d1_31) rfl ((if0 _ _).trans (tlt ((lw_gt _ _).mpr hc4)).2.2.2) w_k) ?_
        show Gd _ _ _ _ (s₁.setTop (mkF m 34 #[.val (.long a), .second, .val (.long b), .second, .val (.int c), .val (.long d), .second, .val (.long f), .second, .val (.int g)] []))
        refine Gd.go (fun _ w_k => XS.iconst X0.here hx rfl (hb hby d1_34) w_k) ?_
        show Gd _ _ _ _ (s₁.setTop (mkF m 35 #[.val (.long a), .second, .val (.long b), .second, .val (.int c), .val (.long d), .second, .val (.long f), .second, .val (.int g)] [(.int (1 : Int32))]))
        refine Gd.go (fun _ w_k => XS.goto X0.here hx rfl (pc0 := 35) (pc' := 54) rfl (hb hby d1_35) (by decide) (by decide) w_k) ?_
        show Gd _ _ _ _ (s₁.setTop (mkF m 54 #[.val (.long a), .second, .val (.long b), .second, .val (.int c), .val (.long d), .second, .val (.long f), .second, .val (.int g)] [(.int (1 : Int32))]))
        refine own_retN (t := .boolean) X0 hx hret hlk (by simp) (hb hby d1_54) ?_ (by decide) (by decide)
        exact ⟨by simp only [own_bef, bI, nar, hc1, hc2, hc4, if_true, if_false]; decide, e0, rfl⟩
      · refine Gd.go (fun _ w_k => XS.ifYes X0.here hx rfl (pc0 := 31) (pc' := 38) rfl (hb hby d1_31) rfl ((if0 _ _).trans (flt (fun q => hc4 ((lw_gt _ _).mp q))).2.2.2) (by decide) (by decide) w_k) ?_
        show Gd _ _ _ _ (s₁.setTop (mkF m 38 #[.val (.long a), .second, .val (.long b), .second, .val (.int c), .val (.long d), .second, .val (.long f), .second, .val (.int g)] []))
        refine Gd.go (fun _ w_k => XS.iconst X0.here hx rfl (hb hby d1_38) w_k) ?_
        show Gd _ _ _ _ (s₁.setTop (mkF m 39 #[.val (.long a), .second, .val (.long b), .second, .val (.int c), .val (.long d), .second, .val (.long f), .second, .val (.int g)] [(.int (0 : Int32))]))
        refine Gd.go (fun _ w_k => XS.goto X0.here hx rfl (pc0 := 39) (pc' := 54) rfl (hb hby d1_39) (by decide) (by decide) w_k) ?_
        show Gd _ _ _ _ (s₁.setTop (mkF m 54 #[.val (.long a), .second, .val (.long b), .second, .val (.int c), .val (.long d), .second, .val (.long f), .second, .val (.int g)] [(.int (0 : Int32))]))
        refine own_retN (t := .boolean) X0 hx hret hlk (by simp) (hb hby d1_54) ?_ (by decide) (by decide)
        exact ⟨by simp only [own_bef, bI, nar, hc1, hc2, hc4, if_true, if_false]; decide, e0, rfl⟩
  · refine Gd.go (fun _ w_k => XS.ifNo X0.here hx rfl (hb hby d1_4) rfl ((if0 _ _).trans (feq (fun q => hc1 ((lw_eq _ _).mp q))).1) w_k) ?_
    show Gd _ _ _ _ (s₁.setTop (mkF m 7 #[.val (.long a), .second, .val (.long b), .second, .val (.int c), .val (.long d), .second, .val (.long f), .second, .val (.int g)] []))
    refine Gd.go (fun _ w_k => XS.lloadN X0.here hx rfl (hb hby d1_7) rfl w_k) ?_
    show Gd _ _ _ _ (s₁.setTop (mkF m 8 #[.val (.long a), .second, .val (.long b), .second, .val (.int c), .val (.long d), .second, .val (.long f), .second, .val (.int g)] [(.long a)]))
    refine Gd.go (fun _ w_k => XS.lload X0.here hx rfl (hb hby d1_8) rfl w_k) ?_
    show Gd _ _ _ _ (s₁.setTop (mkF m 10 #[.val (.long a), .second, .val (.long b), .second, .val (.int c), .val (.long d), .second, .val (.long f), .second, .val (.int g)] [(.long d), (.long a)]))
    refine Gd.go (fun _ w_k => XS.lcmp X0.here hx rfl (hb hby d1_10) rfl w_k) ?_
    show Gd _ _ _ _ (s₁.setTop (mkF m 11 #[.val (.long a), .second, .val (.long b), .second, .val (.int c), .val (.long d), .second, .val (.long f), .second, .val (.int g)] [(.int (lcmpW a d))]))
    by_cases hc5 : a < d
    · refine Gd.go (fun _ w_k => XS.ifNo X0.here hx rfl (hb hby d1_11) rfl ((if0 _ _).trans (tlt ((lw_lt _ _).mpr hc5)).2.1) w_k) ?_
      show Gd _ _ _ _ (s₁.setTop (mkF m 14 #[.val (.long a), .second, .val (.long b), .second, .val (.int c), .val (.long d), .second, .val (.long f), .second, .val (.int g)] []))
      refine Gd.go (fun _ w_k => XS.iconst X0.here hx rfl (hb hby d1_14) w_k) ?_
      show Gd _ _ _ _ (s₁.setTop (mkF m 15 #[.val (.long a), .second, .val (.long b), .second, .val (.int c), .val (.long d), .second, .val (.long f), .second, .val (.int g)] [(.int (1 : Int32))]))
      refine Gd.go (fun _ w_k => XS.goto X0.here hx rfl (pc0 := 15) (pc' := 19) rfl (hb hby d1_15) (by decide) (by decide) w_k) ?_
      show Gd _ _ _ _ (s₁.setTop (mkF m 19 #[.val (.long a), .second, .val (.long b), .second, .val (.int c), .val (.long d), .second, .val (.long f), .second, .val (.int g)] [(.int (1 : Int32))]))
      refine own_retN (t := .boolean) X0 hx hret hlk (by simp) (hb hby d1_19) ?_ (by decide) (by decide)
      exact ⟨by simp only [own_bef, bI, nar, hc1, hc5, if_true, if_false]; decide, e0, rfl⟩
    · refine Gd.go (fun _ w_k => XS.ifYes X0.here hx rfl (pc0 := 11) (pc' := 18) rfl (hb hby d1_11) rfl ((if0 _ _).trans (flt (fun q => hc5 ((lw_lt _ _).mp q))).2.1) (by decide) (by decide) w_k) ?_
      show Gd _ _ _ _ (s₁.setTop (mkF m 18 #[.val (.long a), .second, .val (.long b), .second, .val (.int c), .val (.long d), .second, .val (.long f), .second, .val (.int g)] []))
      refine Gd.go (fun _ w_k => XS.iconst X0.here hx rfl (hb hby d1_18) w_k) ?_
      show Gd _ _ _ _ (s₁.setTop (mkF m 19 #[.val (.long a), .second, .val (.long b), .second, .val (.int c), .val (.long d), .second, .val (.long f), .second, .val (.int g)] [(.int (0 : Int32))]))
      refine own_retN (t := .boolean) X0 hx hret hlk (by simp) (hb hby d1_19) ?_ (by decide) (by decide)
      exact ⟨by simp only [own_bef, bI, nar, hc1, hc5, if_true, if_false]; decide, e0, rfl⟩
theorem own_pn1 : plainFor x = true := by first | exact plainFor_of_name (by first | (simp [plainName, overriddenIn, x]; done) | decide +kernel) | decide +kernel
theorem ef_0 (m : MethodId) (q0 : Int64) (q1 : Int64) (q2 : Int32) (q3 : Int64) (q4 : Int64) (q5 : Int32) : entryFrame m #[(.long q0), (.long q1), (.int q2), (.long q3), (.long q4), (.int q5)] maxLocals = mkF m 0 #[.val (.long q0), .second, .val (.long q1), .second, .val (.int q2), .val (.long q3), .second, .val (.long q4), .second, .val (.int q5), .unset, .unset, .unset] [] := by first | (simp [entryFrame, mkF, argsToLocals, Value.category, maxLocals]; done) | rfl
theorem own_pd0 : parseMethodDescriptor "(JJIJJI)Z" = some ⟨[.long, .long, .int, .long, .long, .int], some .boolean⟩ := by decide +kernel
set_option maxRecDepth 65536 in
set_option maxHeartbeats 40000000 in
theorem own_law (l : Launch) (Z : State) (a0 : Array Value) (hw : ∀ d ∈ tables_1, d.before a0 Z = true) (a b : Int64) (c : Int32) (d f : Int64) (g : Int32) (h0 : Heap) (n0 : Nat) :
    Con l Z x code maxLocals ret tables_1 room_1 0 0 #[(.long a), (.long b), (.int c), (.long d), (.long f), (.int g)] h0 (fun v h L => v = some (.int 1) ∧ Fr n0 L) := by
  refine Con.of own_pn1 ?_
  intro pg ev s_ m bl mt cd s₁ hx hby hml hown hnm hret hlk hZ X0 e0
  rw [ef_0]
  show Gd _ _ _ _ (s₁.setTop (mkF m 0 #[.val (.long a), .second, .val (.long b), .second, .val (.int c), .val (.long d), .second, .val (.long f), .second, .val (.int g), .unset, .unset, .unset] []))
  refine Gd.go (fun _ w_k => XS.lloadN X0.here hx rfl (hb hby at_0) rfl w_k) ?_
  show Gd _ _ _ _ (s₁.setTop (mkF m 1 #[.val (.long a), .second, .val (.long b), .second, .val (.int c), .val (.long d), .second, .val (.long f), .second, .val (.int g), .unset, .unset, .unset] [(.long a)]))
  refine Gd.go (fun _ w_k => XS.lloadN X0.here hx rfl (hb hby at_1) rfl w_k) ?_
  show Gd _ _ _ _ (s₁.setTop (mkF m 2 #[.val (.long a), .second, .val (.long b), .second, .val (.int c), .val (.long d), .second, .val (.long f), .second, .val (.int g), .unset, .unset, .unset] [(.long b), (.long a)]))
  refine Gd.go (fun _ w_k => XS.iload X0.here hx rfl (hb hby at_2) rfl w_k) ?_
  show Gd _ _ _ _ (s₁.setTop (mkF m 4 #[.val (.long a), .second, .val (.long b), .second, .val (.int c), .val (.long d), .second, .val (.long f), .second, .val (.int g), .unset, .unset, .unset] [(.int c), (.long b), (.long a)]))
  refine Gd.go (fun _ w_k => XS.lload X0.here hx rfl (hb hby at_4) rfl w_k) ?_
  show Gd _ _ _ _ (s₁.setTop (mkF m 6 #[.val (.long a), .second, .val (.long b), .second, .val (.int c), .val (.long d), .second, .val (.long f), .second, .val (.int g), .unset, .unset, .unset] [(.long d), (.int c), (.long b), (.long a)]))
  refine Gd.go (fun _ w_k => XS.lload X0.here hx rfl (hb hby at_6) rfl w_k) ?_
  show Gd _ _ _ _ (s₁.setTop (mkF m 8 #[.val (.long a), .second, .val (.long b), .second, .val (.int c), .val (.long d), .second, .val (.long f), .second, .val (.int g), .unset, .unset, .unset] [(.long f), (.long d), (.int c), (.long b), (.long a)]))
  refine Gd.go (fun _ w_k => XS.iload X0.here hx rfl (hb hby at_8) rfl w_k) ?_
  show Gd _ _ _ _ (s₁.setTop (mkF m 10 #[.val (.long a), .second, .val (.long b), .second, .val (.int c), .val (.long d), .second, .val (.long f), .second, .val (.int g), .unset, .unset, .unset] [(.int g), (.long f), (.long d), (.int c), (.long b), (.long a)]))
  obtain ⟨T1, X1, e1, st1⟩ := own_callSP X0 hx hZ (y := (⟨"com/example/nearfield/nearfield/job/ReadQueue", "before", "(JJIJJI)Z"⟩ : MethodName)) hown (hw _ (List.mem_of_getElem? (i := 0) rfl)) (hw _ (List.mem_of_getElem? (i := 1) rfl)) (hw _ (List.mem_of_getElem? (i := 2) rfl)) (hw _ (List.mem_of_getElem? (i := 3) rfl)) (by decide) (W := 0) (own_c1 l Z a0 hw a b c d f g h0) rfl rfl e0 (by decide) (by decide) (g := (mkF m 10 #[.val (.long a), .second, .val (.long b), .second, .val (.int c), .val (.long d), .second, .val (.long f), .second, .val (.int g), .unset, .unset, .unset] [(.int g), (.long f), (.long d), (.int c), (.long b), (.long a)])) rfl (by rw [hml]; rfl) (argsL := [(.long a), (.long b), (.int c), (.long d), (.long f), (.int g)]) (rest := []) (lenOf own_pd0 rfl) rfl (Nat.le_of_eq rfl) (hb hby at_10) rfl
  refine Gd.go (fun _ w_k => st1 _ w_k) ?_
  show Gd _ _ _ _ (T1.setTop (mkF m 13 #[.val (.long a), .second, .val (.long b), .second, .val (.int c), .val (.long d), .second, .val (.long f), .second, .val (.int g), .unset, .unset, .unset] [(.int (own_bef a b c d f g))]))
  refine Gd.go (fun _ w_k => XS.istore X1.here hx rfl (hb hby at_13) rfl (l' := #[.val (.long a), .second, .val (.long b), .second, .val (.int c), .val (.long d), .second, .val (.long f), .second, .val (.int g), .val (.int (own_bef a b c d f g)), .unset, .unset]) rfl w_k) ?_
  show Gd _ _ _ _ (T1.setTop (mkF m 15 #[.val (.long a), .second, .val (.long b), .second, .val (.int c), .val (.long d), .second, .val (.long f), .second, .val (.int g), .val (.int (own_bef a b c d f g)), .unset, .unset] []))
  refine Gd.go (fun _ w_k => XS.lload X1.here hx rfl (hb hby at_15) rfl w_k) ?_
  show Gd _ _ _ _ (T1.setTop (mkF m 17 #[.val (.long a), .second, .val (.long b), .second, .val (.int c), .val (.long d), .second, .val (.long f), .second, .val (.int g), .val (.int (own_bef a b c d f g)), .unset, .unset] [(.long d)]))
  refine Gd.go (fun _ w_k => XS.lload X1.here hx rfl (hb hby at_17) rfl w_k) ?_
  show Gd _ _ _ _ (T1.setTop (mkF m 19 #[.val (.long a), .second, .val (.long b), .second, .val (.int c), .val (.long d), .second, .val (.long f), .second, .val (.int g), .val (.int (own_bef a b c d f g)), .unset, .unset] [(.long f), (.long d)]))
  refine Gd.go (fun _ w_k => XS.iload X1.here hx rfl (hb hby at_19) rfl w_k) ?_
  show Gd _ _ _ _ (T1.setTop (mkF m 21 #[.val (.long a), .second, .val (.long b), .second, .val (.int c), .val (.long d), .second, .val (.long f), .second, .val (.int g), .val (.int (own_bef a b c d f g)), .unset, .unset] [(.int g), (.long f), (.long d)]))
  refine Gd.go (fun _ w_k => XS.lloadN X1.here hx rfl (hb hby at_21) rfl w_k) ?_
  show Gd _ _ _ _ (T1.setTop (mkF m 22 #[.val (.long a), .second, .val (.long b), .second, .val (.int c), .val (.long d), .second, .val (.long f), .second, .val (.int g), .val (.int (own_bef a b c d f g)), .unset, .unset] [(.long a), (.int g), (.long f), (.long d)]))
  refine Gd.go (fun _ w_k => XS.lloadN X1.here hx rfl (hb hby at_22) rfl w_k) ?_
  show Gd _ _ _ _ (T1.setTop (mkF m 23 #[.val (.long a), .second, .val (.long b), .second, .val (.int c), .val (.long d), .second, .val (.long f), .second, .val (.int g), .val (.int (own_bef a b c d f g)), .unset, .unset] [(.long b), (.long a), (.int g), (.long f), (.long d)]))
  refine Gd.go (fun _ w_k => XS.iload X1.here hx rfl (hb hby at_23) rfl w_k) ?_
  show Gd _ _ _ _ (T1.setTop (mkF m 25 #[.val (.long a), .second, .val (.long b), .second, .val (.int c), .val (.long d), .second, .val (.long f), .second, .val (.int g), .val (.int (own_bef a b c d f g)), .unset, .unset] [(.int c), (.long b), (.long a), (.int g), (.long f), (.long d)]))
  obtain ⟨T2, X2, e2, st2⟩ := own_callSP X1 hx hZ (y := (⟨"com/example/nearfield/nearfield/job/ReadQueue", "before", "(JJIJJI)Z"⟩ : MethodName)) hown (hw _ (List.mem_of_getElem? (i := 0) rfl)) (hw _ (List.mem_of_getElem? (i := 1) rfl)) (hw _ (List.mem_of_getElem? (i := 2) rfl)) (hw _ (List.mem_of_getElem? (i := 3) rfl)) (by decide) (W := 0) (own_c1 l Z a0 hw d f g a b c h0) rfl rfl e1 (by decide) (by decide) (g := (mkF m 25 #[.val (.long a), .second, .val (.long b), .second, .val (.int c), .val (.long d), .second, .val (.long f), .second, .val (.int g), .val (.int (own_bef a b c d f g)), .unset, .unset] [(.int c), (.long b), (.long a), (.int g), (.long f), (.long d)])) rfl (by rw [hml]; rfl) (argsL := [(.long d), (.long f), (.int g), (.long a), (.long b), (.int c)]) (rest := []) (lenOf own_pd0 rfl) rfl (Nat.le_of_eq rfl) (hb hby at_25) rfl
  refine Gd.go (fun _ w_k => st2 _ w_k) ?_
  show Gd _ _ _ _ (T2.setTop (mkF m 28 #[.val (.long a), .second, .val (.long b), .second, .val (.int c), .val (.long d), .second, .val (.long f), .second, .val (.int g), .val (.int (own_bef a b c d f g)), .unset, .unset] [(.int (own_bef d f g a b c))]))
  refine Gd.go (fun _ w_k => XS.istore X2.here hx rfl (hb hby at_28) rfl (l' := #[.val (.long a), .second, .val (.long b), .second, .val (.int c), .val (.long d), .second, .val (.long f), .second, .val (.int g), .val (.int (own_bef a b c d f g)), .val (.int (own_bef d f g a b c)), .unset]) rfl w_k) ?_
  show Gd _ _ _ _ (T2.setTop (mkF m 30 #[.val (.long a), .second, .val (.long b), .second, .val (.int c), .val (.long d), .second, .val (.long f), .second, .val (.int g), .val (.int (own_bef a b c d f g)), .val (.int (own_bef d f g a b c)), .unset] []))
  refine Gd.go (fun _ w_k => XS.lloadN X2.here hx rfl (hb hby at_30) rfl w_k) ?_
  show Gd _ _ _ _ (T2.setTop (mkF m 31 #[.val (.long a), .second, .val (.long b), .second, .val (.int c), .val (.long d), .second, .val (.long f), .second, .val (.int g), .val (.int (own_bef a b c d f g)), .val (.int (own_bef d f g a b c)), .unset] [(.long a)]))
  refine Gd.go (fun _ w_k => XS.lload X2.here hx rfl (hb hby at_31) rfl w_k) ?_
  show Gd _ _ _ _ (T2.setTop (mkF m 33 #[.val (.long a), .second, .val (.long b), .second, .val (.int c), .val (.long d), .second, .val (.long f), .second, .val (.int g), .val (.int (own_bef a b c d f g)), .val (.int (own_bef d f g a b c)), .unset] [(.long d), (.long a)]))
  refine Gd.go (fun _ w_k => XS.lcmp X2.here hx rfl (hb hby at_33) rfl w_k) ?_
  show Gd _ _ _ _ (T2.setTop (mkF m 34 #[.val (.long a), .second, .val (.long b), .second, .val (.int c), .val (.long d), .second, .val (.long f), .second, .val (.int g), .val (.int (own_bef a b c d f g)), .val (.int (own_bef d f g a b c)), .unset] [(.int (lcmpW a d))]))
  by_cases hc3 : a = d
  · refine Gd.go (fun _ w_k => XS.ifNo X2.here hx rfl (hb hby at_34) rfl ((if0 _ _).trans (teq ((lw_eq _ _).mpr hc3)).2) w_k) ?_
    show Gd _ _ _ _ (T2.setTop (mkF m 37 #[.val (.long a), .second, .val (.long b), .second, .val (.int c), .val (.long d), .second, .val (.long f), .second, .val (.int g), .val (.int (own_bef a b c d f g)), .val (.int (own_bef d f g a b c)), .unset] []))
    refine Gd.go (fun _ w_k => XS.lloadN X2.here hx rfl (hb hby at_37) rfl w_k) ?_
    show Gd _ _ _ _ (T2.setTop (mkF m 38 #[.val (.long a), .second, .val (.long b), .second, .val (.int c), .val (.long d), .second, .val (.long f), .second, .val (.int g), .val (.int (own_bef a b c d f g)), .val (.int (own_bef d f g a b c)), .unset] [(.long b)]))
    refine Gd.go (fun _ w_k => XS.lload X2.here hx rfl (hb hby at_38) rfl w_k) ?_
    show Gd _ _ _ _ (T2.setTop (mkF m 40 #[.val (.long a), .second, .val (.long b), .second, .val (.int c), .val (.long d), .second, .val (.long f), .second, .val (.int g), .val (.int (own_bef a b c d f g)), .val (.int (own_bef d f g a b c)), .unset] [(.long f), (.long b)]))
    refine Gd.go (fun _ w_k => XS.lcmp X2.here hx rfl (hb hby at_40) rfl w_k) ?_
    show Gd _ _ _ _ (T2.setTop (mkF m 41 #[.val (.long a), .second, .val (.long b), .second, .val (.int c), .val (.long d), .second, .val (.long f), .second, .val (.int g), .val (.int (own_bef a b c d f g)), .val (.int (own_bef d f g a b c)), .unset] [(.int (lcmpW b f))]))
    by_cases hc4 : b = f
    · refine Gd.go (fun _ w_k => XS.ifNo X2.here hx rfl (hb hby at_41) rfl ((if0 _ _).trans (teq ((lw_eq _ _).mpr hc4)).2) w_k) ?_
      show Gd _ _ _ _ (T2.setTop (mkF m 44 #[.val (.long a), .second, .val (.long b), .second, .val (.int c), .val (.long d), .second, .val (.long f), .second, .val (.int g), .val (.int (own_bef a b c d f g)), .val (.int (own_bef d f g a b c)), .unset] []))
      refine Gd.go (fun _ w_k => XS.iload X2.here hx rfl (hb hby at_44) rfl w_k) ?_
      show Gd _ _ _ _ (T2.setTop (mkF m 46 #[.val (.long a), .second, .val (.long b), .second, .val (.int c), .val (.long d), .second, .val (.long f), .second, .val (.int g), .val (.int (own_bef a b c d f g)), .val (.int (own_bef d f g a b c)), .unset] [(.int c)]))
      refine Gd.go (fun _ w_k => XS.iload X2.here hx rfl (hb hby at_46) rfl w_k) ?_
      show Gd _ _ _ _ (T2.setTop (mkF m 48 #[.val (.long a), .second, .val (.long b), .second, .val (.int c), .val (.long d), .second, .val (.long f), .second, .val (.int g), .val (.int (own_bef a b c d f g)), .val (.int (own_bef d f g a b c)), .unset] [(.int g), (.int c)]))
      by_cases hc5 : c = g
      · refine Gd.go (fun _ w_k => XS.icmpNo X2.here hx rfl (hb hby at_48) rfl (teq hc5).2 w_k) ?_
        show Gd _ _ _ _ (T2.setTop (mkF m 51 #[.val (.long a), .second, .val (.long b), .second, .val (.int c), .val (.long d), .second, .val (.long f), .second, .val (.int g), .val (.int (own_bef a b c d f g)), .val (.int (own_bef d f g a b c)), .unset] []))
        refine Gd.go (fun _ w_k => XS.iconst X2.here hx rfl (hb hby at_51) w_k) ?_
        show Gd _ _ _ _ (T2.setTop (mkF m 52 #[.val (.long a), .second, .val (.long b), .second, .val (.int c), .val (.long d), .second, .val (.long f), .second, .val (.int g), .val (.int (own_bef a b c d f g)), .val (.int (own_bef d f g a b c)), .unset] [(.int (1 : Int32))]))
        refine Gd.go (fun _ w_k => XS.goto X2.here hx rfl (pc0 := 52) (pc' := 56) rfl (hb hby at_52) (by decide) (by decide) w_k) ?_
        show Gd _ _ _ _ (T2.setTop (mkF m 56 #[.val (.long a), .second, .val (.long b), .second, .val (.int c), .val (.long d), .second, .val (.long f), .second, .val (.int g), .val (.int (own_bef a b c d f g)), .val (.int (own_bef d f g a b c)), .unset] [(.int (1 : Int32))]))
        refine Gd.go (fun _ w_k => XS.istore X2.here hx rfl (hb hby at_56) rfl (l' := #[.val (.long a), .second, .val (.long b), .second, .val (.int c), .val (.long d), .second, .val (.long f), .second, .val (.int g), .val (.int (own_bef a b c d f g)), .val (.int (own_bef d f g a b c)), .val (.int (1 : Int32))]) rfl w_k) ?_
        show Gd _ _ _ _ (T2.setTop (mkF m 58 #[.val (.long a), .second, .val (.long b), .second, .val (.int c), .val (.long d), .second, .val (.long f), .second, .val (.int g), .val (.int (own_bef a b c d f g)), .val (.int (own_bef d f g a b c)), .val (.int (1 : Int32))] []))
        refine Gd.go (fun _ w_k => XS.iload X2.here hx rfl (hb hby at_58) rfl w_k) ?_
        show Gd _ _ _ _ (T2.setTop (mkF m 60 #[.val (.long a), .second, .val (.long b), .second, .val (.int c), .val (.long d), .second, .val (.long f), .second, .val (.int g), .val (.int (own_bef a b c d f g)), .val (.int (own_bef d f g a b c)), .val (.int (1 : Int32))] [(.int (1 : Int32))]))
        refine Gd.go (fun _ w_k => XS.ifNo X2.here hx rfl (hb hby at_60) rfl ((if0 _ _).trans (feq (by decide)).1) w_k) ?_
        show Gd _ _ _ _ (T2.setTop (mkF m 63 #[.val (.long a), .second, .val (.long b), .second, .val (.int c), .val (.long d), .second, .val (.long f), .second, .val (.int g), .val (.int (own_bef a b c d f g)), .val (.int (own_bef d f g a b c)), .val (.int (1 : Int32))] []))
        refine Gd.go (fun _ w_k => XS.iload X2.here hx rfl (hb hby at_63) rfl w_k) ?_
        show Gd _ _ _ _ (T2.setTop (mkF m 65 #[.val (.long a), .second, .val (.long b), .second, .val (.int c), .val (.long d), .second, .val (.long f), .second, .val (.int g), .val (.int (own_bef a b c d f g)), .val (.int (own_bef d f g a b c)), .val (.int (1 : Int32))] [(.int (own_bef a b c d f g))]))
        by_cases hc6 : (own_bef a b c d f g) = (0 : Int32)
        · refine Gd.go (fun _ w_k => XS.ifNo X2.here hx rfl (hb hby at_65) rfl ((if0 _ _).trans (teq hc6).2) w_k) ?_
          show Gd _ _ _ _ (T2.setTop (mkF m 68 #[.val (.long a), .second, .val (.long b), .second, .val (.int c), .val (.long d), .second, .val (.long f), .second, .val (.int g), .val (.int (own_bef a b c d f g)), .val (.int (own_bef d f g a b c)), .val (.int (1 : Int32))] []))
          refine Gd.go (fun _ w_k => XS.iload X2.here hx rfl (hb hby at_68) rfl w_k) ?_
          show Gd _ _ _ _ (T2.setTop (mkF m 70 #[.val (.long a), .second, .val (.long b), .second, .val (.int c), .val (.long d), .second, .val (.long f), .second, .val (.int g), .val (.int (own_bef a b c d f g)), .val (.int (own_bef d f g a b c)), .val (.int (1 : Int32))] [(.int (own_bef d f g a b c))]))
          by_cases hc7 : (own_bef d f g a b c) = (0 : Int32)
          · refine Gd.go (fun _ w_k => XS.ifNo X2.here hx rfl (hb hby at_70) rfl ((if0 _ _).trans (teq hc7).2) w_k) ?_
            show Gd _ _ _ _ (T2.setTop (mkF m 73 #[.val (.long a), .second, .val (.long b), .second, .val (.int c), .val (.long d), .second, .val (.long f), .second, .val (.int g), .val (.int (own_bef a b c d f g)), .val (.int (own_bef d f g a b c)), .val (.int (1 : Int32))] []))
            refine Gd.go (fun _ w_k => XS.iconst X2.here hx rfl (hb hby at_73) w_k) ?_
            show Gd _ _ _ _ (T2.setTop (mkF m 74 #[.val (.long a), .second, .val (.long b), .second, .val (.int c), .val (.long d), .second, .val (.long f), .second, .val (.int g), .val (.int (own_bef a b c d f g)), .val (.int (own_bef d f g a b c)), .val (.int (1 : Int32))] [(.int (1 : Int32))]))
            refine Gd.go (fun _ w_k => XS.goto X2.here hx rfl (pc0 := 74) (pc' := 78) rfl (hb hby at_74) (by decide) (by decide) w_k) ?_
            show Gd _ _ _ _ (T2.setTop (mkF m 78 #[.val (.long a), .second, .val (.long b), .second, .val (.int c), .val (.long d), .second, .val (.long f), .second, .val (.int g), .val (.int (own_bef a b c d f g)), .val (.int (own_bef d f g a b c)), .val (.int (1 : Int32))] [(.int (1 : Int32))]))
            refine own_retN (t := .boolean) X2 hx hret hlk (by simp) (hb hby at_78) ?_ (by decide) (by decide)
            refine ⟨?_, Fr.nil n0⟩
            have tt := own_tot a b c d f g
            generalize own_bef a b c d f g = u at *
            generalize own_bef d f g a b c = v at *
            rcases tt with ⟨rfl, rfl, tt⟩ | ⟨rfl, rfl, tt⟩ | ⟨rfl, rfl, tt⟩ <;> first | rfl | (exfalso; simp only [Int64.lt_iff_toInt_lt, Int32.lt_iff_toInt_lt, ← Int64.toInt_inj, ← Int32.toInt_inj, own_z0, own_z1, not_true_eq_false] at hc3 hc4 hc5 hc6 hc7 <;> omega)
          · refine Gd.go (fun _ w_k => XS.ifYes X2.here hx rfl (pc0 := 70) (pc' := 77) rfl (hb hby at_70) rfl ((if0 _ _).trans (feq hc7).2) (by decide) (by decide) w_k) ?_
            show Gd _ _ _ _ (T2.setTop (mkF m 77 #[.val (.long a), .second, .val (.long b), .second, .val (.int c), .val (.long d), .second, .val (.long f), .second, .val (.int g), .val (.int (own_bef a b c d f g)), .val (.int (own_bef d f g a b c)), .val (.int (1 : Int32))] []))
            refine Gd.go (fun _ w_k => XS.iconst X2.here hx rfl (hb hby at_77) w_k) ?_
            show Gd _ _ _ _ (T2.setTop (mkF m 78 #[.val (.long a), .second, .val (.long b), .second, .val (.int c), .val (.long d), .second, .val (.long f), .second, .val (.int g), .val (.int (own_bef a b c d f g)), .val (.int (own_bef d f g a b c)), .val (.int (1 : Int32))] [(.int (0 : Int32))]))
            refine own_retN (t := .boolean) X2 hx hret hlk (by simp) (hb hby at_78) ?_ (by decide) (by decide)
            refine ⟨?_, Fr.nil n0⟩
            have tt := own_tot a b c d f g
            generalize own_bef a b c d f g = u at *
            generalize own_bef d f g a b c = v at *
            rcases tt with ⟨rfl, rfl, tt⟩ | ⟨rfl, rfl, tt⟩ | ⟨rfl, rfl, tt⟩ <;> first | rfl | (exfalso; simp only [Int64.lt_iff_toInt_lt, Int32.lt_iff_toInt_lt, ← Int64.toInt_inj, ← Int32.toInt_inj, own_z0, own_z1, not_true_eq_false] at hc3 hc4 hc5 hc6 hc7 <;> omega)
        · refine Gd.go (fun _ w_k => XS.ifYes X2.here hx rfl (pc0 := 65) (pc' := 77) rfl (hb hby at_65) rfl ((if0 _ _).trans (feq hc6).2) (by decide) (by decide) w_k) ?_
          show Gd _ _ _ _ (T2.setTop (mkF m 77 #[.val (.long a), .second, .val (.long b), .second, .val (.int c), .val (.long d), .second, .val (.long f), .second, .val (.int g), .val (.int (own_bef a b c d f g)), .val (.int (own_bef d f g a b c)), .val (.int (1 : Int32))] []))
          refine Gd.go (fun _ w_k => XS.iconst X2.here hx rfl (hb hby at_77) w_k) ?_
          show Gd _ _ _ _ (T2.setTop (mkF m 78 #[.val (.long a), .second, .val (.long b), .second, .val (.int c), .val (.long d), .second, .val (.long f), .second, .val (.int g), .val (.int (own_bef a b c d f g)), .val (.int (own_bef d f g a b c)), .val (.int (1 : Int32))] [(.int (0 : Int32))]))
          refine own_retN (t := .boolean) X2 hx hret hlk (by simp) (hb hby at_78) ?_ (by decide) (by decide)
          refine ⟨?_, Fr.nil n0⟩
          have tt := own_tot a b c d f g
          generalize own_bef a b c d f g = u at *
          generalize own_bef d f g a b c = v at *
          rcases tt with ⟨rfl, rfl, tt⟩ | ⟨rfl, rfl, tt⟩ | ⟨rfl, rfl, tt⟩ <;> first | rfl | (exfalso; simp only [Int64.lt_iff_toInt_lt, Int32.lt_iff_toInt_lt, ← Int64.toInt_inj, ← Int32.toInt_inj, own_z0, own_z1, not_true_eq_false] at hc3 hc4 hc5 hc6 <;> omega)
      · refine Gd.go (fun _ w_k => XS.icmpYes X2.here hx rfl (pc0 := 48) (pc' := 55) rfl (hb hby at_48) rfl (feq hc5).2 (by decide) (by decide) w_k) ?_
        show Gd _ _ _ _ (T2.setTop (mkF m 55 #[.val (.long a), .second, .val (.long b), .second, .val (.int c), .val (.long d), .second, .val (.long f), .second, .val (.int g), .val (.int (own_bef a b c d f g)), .val (.int (own_bef d f g a b c)), .unset] []))
        refine Gd.go (fun _ w_k => XS.iconst X2.here hx rfl (hb hby at_55) w_k) ?_
        show Gd _ _ _ _ (T2.setTop (mkF m 56 #[.val (.long a), .second, .val (.long b), .second, .val (.int c), .val (.long d), .second, .val (.long f), .second, .val (.int g), .val (.int (own_bef a b c d f g)), .val (.int (own_bef d f g a b c)), .unset] [(.int (0 : Int32))]))
        refine Gd.go (fun _ w_k => XS.istore X2.here hx rfl (hb hby at_56) rfl (l' := #[.val (.long a), .second, .val (.long b), .second, .val (.int c), .val (.long d), .second, .val (.long f), .second, .val (.int g), .val (.int (own_bef a b c d f g)), .val (.int (own_bef d f g a b c)), .val (.int (0 : Int32))]) rfl w_k) ?_
        show Gd _ _ _ _ (T2.setTop (mkF m 58 #[.val (.long a), .second, .val (.long b), .second, .val (.int c), .val (.long d), .second, .val (.long f), .second, .val (.int g), .val (.int (own_bef a b c d f g)), .val (.int (own_bef d f g a b c)), .val (.int (0 : Int32))] []))
        refine Gd.go (fun _ w_k => XS.iload X2.here hx rfl (hb hby at_58) rfl w_k) ?_
        show Gd _ _ _ _ (T2.setTop (mkF m 60 #[.val (.long a), .second, .val (.long b), .second, .val (.int c), .val (.long d), .second, .val (.long f), .second, .val (.int g), .val (.int (own_bef a b c d f g)), .val (.int (own_bef d f g a b c)), .val (.int (0 : Int32))] [(.int (0 : Int32))]))
        refine Gd.go (fun _ w_k => XS.ifYes X2.here hx rfl (pc0 := 60) (pc' := 79) rfl (hb hby at_60) rfl ((if0 _ _).trans (teq (by decide)).1) (by decide) (by decide) w_k) ?_
        show Gd _ _ _ _ (T2.setTop (mkF m 79 #[.val (.long a), .second, .val (.long b), .second, .val (.int c), .val (.long d), .second, .val (.long f), .second, .val (.int g), .val (.int (own_bef a b c d f g)), .val (.int (own_bef d f g a b c)), .val (.int (0 : Int32))] []))
        refine Gd.go (fun _ w_k => XS.iload X2.here hx rfl (hb hby at_79) rfl w_k) ?_
        show Gd _ _ _ _ (T2.setTop (mkF m 81 #[.val (.long a), .second, .val (.long b), .second, .val (.int c), .val (.long d), .second, .val (.long f), .second, .val (.int g), .val (.int (own_bef a b c d f g)), .val (.int (own_bef d f g a b c)), .val (.int (0 : Int32))] [(.int (own_bef a b c d f g))]))
        refine Gd.go (fun _ w_k => XS.iload X2.here hx rfl (hb hby at_81) rfl w_k) ?_
        show Gd _ _ _ _ (T2.setTop (mkF m 83 #[.val (.long a), .second, .val (.long b), .second, .val (.int c), .val (.long d), .second, .val (.long f), .second, .val (.int g), .val (.int (own_bef a b c d f g)), .val (.int (own_bef d f g a b c)), .val (.int (0 : Int32))] [(.int (own_bef d f g a b c)), (.int (own_bef a b c d f g))]))
        by_cases hc8 : (own_bef a b c d f g) = (own_bef d f g a b c)
        · refine Gd.go (fun _ w_k => XS.icmpNo X2.here hx rfl (hb hby at_83) rfl (teq hc8).2 w_k) ?_
          show Gd _ _ _ _ (T2.setTop (mkF m 86 #[.val (.long a), .second, .val (.long b), .second, .val (.int c), .val (.long d), .second, .val (.long f), .second, .val (.int g), .val (.int (own_bef a b c d f g)), .val (.int (own_bef d f g a b c)), .val (.int (0 : Int32))] []))
          refine Gd.go (fun _ w_k => XS.iconst X2.here hx rfl (hb hby at_86) w_k) ?_
          show Gd _ _ _ _ (T2.setTop (mkF m 87 #[.val (.long a), .second, .val (.long b), .second, .val (.int c), .val (.long d), .second, .val (.long f), .second, .val (.int g), .val (.int (own_bef a b c d f g)), .val (.int (own_bef d f g a b c)), .val (.int (0 : Int32))] [(.int (0 : Int32))]))
          refine own_retN (t := .boolean) X2 hx hret hlk (by simp) (hb hby at_87) ?_ (by decide) (by decide)
          refine ⟨?_, Fr.nil n0⟩
          have tt := own_tot a b c d f g
          generalize own_bef a b c d f g = u at *
          generalize own_bef d f g a b c = v at *
          rcases tt with ⟨rfl, rfl, tt⟩ | ⟨rfl, rfl, tt⟩ | ⟨rfl, rfl, tt⟩ <;> first | rfl | (exfalso; simp only [Int64.lt_iff_toInt_lt, Int32.lt_iff_toInt_lt, ← Int64.toInt_inj, ← Int32.toInt_inj, own_z0, own_z1, not_true_eq_false] at hc3 hc4 hc5 hc8 <;> omega)
        · refine Gd.go (fun _ w_k => XS.icmpYes X2.here hx rfl (pc0 := 83) (pc' := 88) rfl (hb hby at_83) rfl (feq hc8).2 (by decide) (by decide) w_k) ?_
          show Gd _ _ _ _ (T2.setTop (mkF m 88 #[.val (.long a), .second, .val (.long b), .second, .val (.int c), .val (.long d), .second, .val (.long f), .second, .val (.int g), .val (.int (own_bef a b c d f g)), .val (.int (own_bef d f g a b c)), .val (.int (0 : Int32))] []))
          refine Gd.go (fun _ w_k => XS.lloadN X2.here hx rfl (hb hby at_88) rfl w_k) ?_
          show Gd _ _ _ _ (T2.setTop (mkF m 89 #[.val (.long a), .second, .val (.long b), .second, .val (.int c), .val (.long d), .second, .val (.long f), .second, .val (.int g), .val (.int (own_bef a b c d f g)), .val (.int (own_bef d f g a b c)), .val (.int (0 : Int32))] [(.long a)]))
          refine Gd.go (fun _ w_k => XS.lload X2.here hx rfl (hb hby at_89) rfl w_k) ?_
          show Gd _ _ _ _ (T2.setTop (mkF m 91 #[.val (.long a), .second, .val (.long b), .second, .val (.int c), .val (.long d), .second, .val (.long f), .second, .val (.int g), .val (.int (own_bef a b c d f g)), .val (.int (own_bef d f g a b c)), .val (.int (0 : Int32))] [(.long d), (.long a)]))
          refine Gd.go (fun _ w_k => XS.lcmp X2.here hx rfl (hb hby at_91) rfl w_k) ?_
          show Gd _ _ _ _ (T2.setTop (mkF m 92 #[.val (.long a), .second, .val (.long b), .second, .val (.int c), .val (.long d), .second, .val (.long f), .second, .val (.int g), .val (.int (own_bef a b c d f g)), .val (.int (own_bef d f g a b c)), .val (.int (0 : Int32))] [(.int (lcmpW a d))]))
          by_cases hc9 : a < d
          · refine Gd.go (fun _ w_k => XS.ifNo X2.here hx rfl (hb hby at_92) rfl ((if0 _ _).trans (tlt ((lw_lt _ _).mpr hc9)).2.1) w_k) ?_
            show Gd _ _ _ _ (T2.setTop (mkF m 95 #[.val (.long a), .second, .val (.long b), .second, .val (.int c), .val (.long d), .second, .val (.long f), .second, .val (.int g), .val (.int (own_bef a b c d f g)), .val (.int (own_bef d f g a b c)), .val (.int (0 : Int32))] []))
            refine Gd.go (fun _ w_k => XS.iload X2.here hx rfl (hb hby at_95) rfl w_k) ?_
            show Gd _ _ _ _ (T2.setTop (mkF m 97 #[.val (.long a), .second, .val (.long b), .second, .val (.int c), .val (.long d), .second, .val (.long f), .second, .val (.int g), .val (.int (own_bef a b c d f g)), .val (.int (own_bef d f g a b c)), .val (.int (0 : Int32))] [(.int (own_bef a b c d f g))]))
            refine own_retN (t := .boolean) X2 hx hret hlk (by simp) (hb hby at_97) ?_ (by decide) (by decide)
            refine ⟨?_, Fr.nil n0⟩
            have tt := own_tot a b c d f g
            generalize own_bef a b c d f g = u at *
            generalize own_bef d f g a b c = v at *
            rcases tt with ⟨rfl, rfl, tt⟩ | ⟨rfl, rfl, tt⟩ | ⟨rfl, rfl, tt⟩ <;> first | rfl | (exfalso; simp only [Int64.lt_iff_toInt_lt, Int32.lt_iff_toInt_lt, ← Int64.toInt_inj, ← Int32.toInt_inj, own_z0, own_z1, not_true_eq_false] at hc3 hc4 hc5 hc8 hc9 <;> omega)
          · refine Gd.go (fun _ w_k => XS.ifYes X2.here hx rfl (pc0 := 92) (pc' := 98) rfl (hb hby at_92) rfl ((if0 _ _).trans (flt (fun q => hc9 ((lw_lt _ _).mp q))).2.1) (by decide) (by decide) w_k) ?_
            show Gd _ _ _ _ (T2.setTop (mkF m 98 #[.val (.long a), .second, .val (.long b), .second, .val (.int c), .val (.long d), .second, .val (.long f), .second, .val (.int g), .val (.int (own_bef a b c d f g)), .val (.int (own_bef d f g a b c)), .val (.int (0 : Int32))] []))
            refine Gd.go (fun _ w_k => XS.lloadN X2.here hx rfl (hb hby at_98) rfl w_k) ?_
            show Gd _ _ _ _ (T2.setTop (mkF m 99 #[.val (.long a), .second, .val (.long b), .second, .val (.int c), .val (.long d), .second, .val (.long f), .second, .val (.int g), .val (.int (own_bef a b c d f g)), .val (.int (own_bef d f g a b c)), .val (.int (0 : Int32))] [(.long a)]))
            refine Gd.go (fun _ w_k => XS.lload X2.here hx rfl (hb hby at_99) rfl w_k) ?_
            show Gd _ _ _ _ (T2.setTop (mkF m 101 #[.val (.long a), .second, .val (.long b), .second, .val (.int c), .val (.long d), .second, .val (.long f), .second, .val (.int g), .val (.int (own_bef a b c d f g)), .val (.int (own_bef d f g a b c)), .val (.int (0 : Int32))] [(.long d), (.long a)]))
            refine Gd.go (fun _ w_k => XS.lcmp X2.here hx rfl (hb hby at_101) rfl w_k) ?_
            show Gd _ _ _ _ (T2.setTop (mkF m 102 #[.val (.long a), .second, .val (.long b), .second, .val (.int c), .val (.long d), .second, .val (.long f), .second, .val (.int g), .val (.int (own_bef a b c d f g)), .val (.int (own_bef d f g a b c)), .val (.int (0 : Int32))] [(.int (lcmpW a d))]))
            by_cases hc10 : d < a
            · refine Gd.go (fun _ w_k => XS.ifNo X2.here hx rfl (hb hby at_102) rfl ((if0 _ _).trans (tlt ((lw_gt _ _).mpr hc10)).2.2.2) w_k) ?_
              show Gd _ _ _ _ (T2.setTop (mkF m 105 #[.val (.long a), .second, .val (.long b), .second, .val (.int c), .val (.long d), .second, .val (.long f), .second, .val (.int g), .val (.int (own_bef a b c d f g)), .val (.int (own_bef d f g a b c)), .val (.int (0 : Int32))] []))
              refine Gd.go (fun _ w_k => XS.iload X2.here hx rfl (hb hby at_105) rfl w_k) ?_
              show Gd _ _ _ _ (T2.setTop (mkF m 107 #[.val (.long a), .second, .val (.long b), .second, .val (.int c), .val (.long d), .second, .val (.long f), .second, .val (.int g), .val (.int (own_bef a b c d f g)), .val (.int (own_bef d f g a b c)), .val (.int (0 : Int32))] [(.int (own_bef d f g a b c))]))
              refine own_retN (t := .boolean) X2 hx hret hlk (by simp) (hb hby at_107) ?_ (by decide) (by decide)
              refine ⟨?_, Fr.nil n0⟩
              have tt := own_tot a b c d f g
              generalize own_bef a b c d f g = u at *
              generalize own_bef d f g a b c = v at *
              rcases tt with ⟨rfl, rfl, tt⟩ | ⟨rfl, rfl, tt⟩ | ⟨rfl, rfl, tt⟩ <;> first | rfl | (exfalso; simp only [Int64.lt_iff_toInt_lt, Int32.lt_iff_toInt_lt, ← Int64.toInt_inj, ← Int32.toInt_inj, own_z0, own_z1, not_true_eq_false] at hc3 hc4 hc5 hc8 hc9 hc10 <;> omega)
            · refine Gd.go (fun _ w_k => XS.ifYes X2.here hx rfl (pc0 := 102) (pc' := 108) rfl (hb hby at_102) rfl ((if0 _ _).trans (flt (fun q => hc10 ((lw_gt _ _).mp q))).2.2.2) (by decide) (by decide) w_k) ?_
              show Gd _ _ _ _ (T2.setTop (mkF m 108 #[.val (.long a), .second, .val (.long b), .second, .val (.int c), .val (.long d), .second, .val (.long f), .second, .val (.int g), .val (.int (own_bef a b c d f g)), .val (.int (own_bef d f g a b c)), .val (.int (0 : Int32))] []))
              refine Gd.go (fun _ w_k => XS.lloadN X2.here hx rfl (hb hby at_108) rfl w_k) ?_
              show Gd _ _ _ _ (T2.setTop (mkF m 109 #[.val (.long a), .second, .val (.long b), .second, .val (.int c), .val (.long d), .second, .val (.long f), .second, .val (.int g), .val (.int (own_bef a b c d f g)), .val (.int (own_bef d f g a b c)), .val (.int (0 : Int32))] [(.long b)]))
              refine Gd.go (fun _ w_k => XS.lload X2.here hx rfl (hb hby at_109) rfl w_k) ?_
              show Gd _ _ _ _ (T2.setTop (mkF m 111 #[.val (.long a), .second, .val (.long b), .second, .val (.int c), .val (.long d), .second, .val (.long f), .second, .val (.int g), .val (.int (own_bef a b c d f g)), .val (.int (own_bef d f g a b c)), .val (.int (0 : Int32))] [(.long f), (.long b)]))
              refine Gd.go (fun _ w_k => XS.lcmp X2.here hx rfl (hb hby at_111) rfl w_k) ?_
              show Gd _ _ _ _ (T2.setTop (mkF m 112 #[.val (.long a), .second, .val (.long b), .second, .val (.int c), .val (.long d), .second, .val (.long f), .second, .val (.int g), .val (.int (own_bef a b c d f g)), .val (.int (own_bef d f g a b c)), .val (.int (0 : Int32))] [(.int (lcmpW b f))]))
              by_cases hc11 : f < b
              · refine Gd.go (fun _ w_k => XS.ifNo X2.here hx rfl (hb hby at_112) rfl ((if0 _ _).trans (tlt ((lw_gt _ _).mpr hc11)).2.2.2) w_k) ?_
                show Gd _ _ _ _ (T2.setTop (mkF m 115 #[.val (.long a), .second, .val (.long b), .second, .val (.int c), .val (.long d), .second, .val (.long f), .second, .val (.int g), .val (.int (own_bef a b c d f g)), .val (.int (own_bef d f g a b c)), .val (.int (0 : Int32))] []))
                refine Gd.go (fun _ w_k => XS.iload X2.here hx rfl (hb hby at_115) rfl w_k) ?_
                show Gd _ _ _ _ (T2.setTop (mkF m 117 #[.val (.long a), .second, .val (.long b), .second, .val (.int c), .val (.long d), .second, .val (.long f), .second, .val (.int g), .val (.int (own_bef a b c d f g)), .val (.int (own_bef d f g a b c)), .val (.int (0 : Int32))] [(.int (own_bef a b c d f g))]))
                refine own_retN (t := .boolean) X2 hx hret hlk (by simp) (hb hby at_117) ?_ (by decide) (by decide)
                refine ⟨?_, Fr.nil n0⟩
                have tt := own_tot a b c d f g
                generalize own_bef a b c d f g = u at *
                generalize own_bef d f g a b c = v at *
                rcases tt with ⟨rfl, rfl, tt⟩ | ⟨rfl, rfl, tt⟩ | ⟨rfl, rfl, tt⟩ <;> first | rfl | (exfalso; simp only [Int64.lt_iff_toInt_lt, Int32.lt_iff_toInt_lt, ← Int64.toInt_inj, ← Int32.toInt_inj, own_z0, own_z1, not_true_eq_false] at hc3 hc4 hc5 hc8 hc9 hc10 hc11 <;> omega)
              · refine Gd.go (fun _ w_k => XS.ifYes X2.here hx rfl (pc0 := 112) (pc' := 118) rfl (hb hby at_112) rfl ((if0 _ _).trans (flt (fun q => hc11 ((lw_gt _ _).mp q))).2.2.2) (by decide) (by decide) w_k) ?_
                show Gd _ _ _ _ (T2.setTop (mkF m 118 #[.val (.long a), .second, .val (.long b), .second, .val (.int c), .val (.long d), .second, .val (.long f), .second, .val (.int g), .val (.int (own_bef a b c d f g)), .val (.int (own_bef d f g a b c)), .val (.int (0 : Int32))] []))
                refine Gd.go (fun _ w_k => XS.lloadN X2.here hx rfl (hb hby at_118) rfl w_k) ?_
                show Gd _ _ _ _ (T2.setTop (mkF m 119 #[.val (.long a), .second, .val (.long b), .second, .val (.int c), .val (.long d), .second, .val (.long f), .second, .val (.int g), .val (.int (own_bef a b c d f g)), .val (.int (own_bef d f g a b c)), .val (.int (0 : Int32))] [(.long b)]))
                refine Gd.go (fun _ w_k => XS.lload X2.here hx rfl (hb hby at_119) rfl w_k) ?_
                show Gd _ _ _ _ (T2.setTop (mkF m 121 #[.val (.long a), .second, .val (.long b), .second, .val (.int c), .val (.long d), .second, .val (.long f), .second, .val (.int g), .val (.int (own_bef a b c d f g)), .val (.int (own_bef d f g a b c)), .val (.int (0 : Int32))] [(.long f), (.long b)]))
                refine Gd.go (fun _ w_k => XS.lcmp X2.here hx rfl (hb hby at_121) rfl w_k) ?_
                show Gd _ _ _ _ (T2.setTop (mkF m 122 #[.val (.long a), .second, .val (.long b), .second, .val (.int c), .val (.long d), .second, .val (.long f), .second, .val (.int g), .val (.int (own_bef a b c d f g)), .val (.int (own_bef d f g a b c)), .val (.int (0 : Int32))] [(.int (lcmpW b f))]))
                by_cases hc12 : b < f
                · refine Gd.go (fun _ w_k => XS.ifNo X2.here hx rfl (hb hby at_122) rfl ((if0 _ _).trans (tlt ((lw_lt _ _).mpr hc12)).2.1) w_k) ?_
                  show Gd _ _ _ _ (T2.setTop (mkF m 125 #[.val (.long a), .second, .val (.long b), .second, .val (.int c), .val (.long d), .second, .val (.long f), .second, .val (.int g), .val (.int (own_bef a b c d f g)), .val (.int (own_bef d f g a b c)), .val (.int (0 : Int32))] []))
                  refine Gd.go (fun _ w_k => XS.iload X2.here hx rfl (hb hby at_125) rfl w_k) ?_
                  show Gd _ _ _ _ (T2.setTop (mkF m 127 #[.val (.long a), .second, .val (.long b), .second, .val (.int c), .val (.long d), .second, .val (.long f), .second, .val (.int g), .val (.int (own_bef a b c d f g)), .val (.int (own_bef d f g a b c)), .val (.int (0 : Int32))] [(.int (own_bef d f g a b c))]))
                  refine own_retN (t := .boolean) X2 hx hret hlk (by simp) (hb hby at_127) ?_ (by decide) (by decide)
                  refine ⟨?_, Fr.nil n0⟩
                  have tt := own_tot a b c d f g
                  generalize own_bef a b c d f g = u at *
                  generalize own_bef d f g a b c = v at *
                  rcases tt with ⟨rfl, rfl, tt⟩ | ⟨rfl, rfl, tt⟩ | ⟨rfl, rfl, tt⟩ <;> first | rfl | (exfalso; simp only [Int64.lt_iff_toInt_lt, Int32.lt_iff_toInt_lt, ← Int64.toInt_inj, ← Int32.toInt_inj, own_z0, own_z1, not_true_eq_false] at hc3 hc4 hc5 hc8 hc9 hc10 hc11 hc12 <;> omega)
                · refine Gd.go (fun _ w_k => XS.ifYes X2.here hx rfl (pc0 := 122) (pc' := 128) rfl (hb hby at_122) rfl ((if0 _ _).trans (flt (fun q => hc12 ((lw_lt _ _).mp q))).2.1) (by decide) (by decide) w_k) ?_
                  show Gd _ _ _ _ (T2.setTop (mkF m 128 #[.val (.long a), .second, .val (.long b), .second, .val (.int c), .val (.long d), .second, .val (.long f), .second, .val (.int g), .val (.int (own_bef a b c d f g)), .val (.int (own_bef d f g a b c)), .val (.int (0 : Int32))] []))
                  refine Gd.go (fun _ w_k => XS.iload X2.here hx rfl (hb hby at_128) rfl w_k) ?_
                  show Gd _ _ _ _ (T2.setTop (mkF m 130 #[.val (.long a), .second, .val (.long b), .second, .val (.int c), .val (.long d), .second, .val (.long f), .second, .val (.int g), .val (.int (own_bef a b c d f g)), .val (.int (own_bef d f g a b c)), .val (.int (0 : Int32))] [(.int c)]))
                  refine Gd.go (fun _ w_k => XS.iload X2.here hx rfl (hb hby at_130) rfl w_k) ?_
                  show Gd _ _ _ _ (T2.setTop (mkF m 132 #[.val (.long a), .second, .val (.long b), .second, .val (.int c), .val (.long d), .second, .val (.long f), .second, .val (.int g), .val (.int (own_bef a b c d f g)), .val (.int (own_bef d f g a b c)), .val (.int (0 : Int32))] [(.int g), (.int c)]))
                  by_cases hc13 : c < g
                  · refine Gd.go (fun _ w_k => XS.icmpNo X2.here hx rfl (hb hby at_132) rfl (tlt hc13).2.1 w_k) ?_
                    show Gd _ _ _ _ (T2.setTop (mkF m 135 #[.val (.long a), .second, .val (.long b), .second, .val (.int c), .val (.long d), .second, .val (.long f), .second, .val (.int g), .val (.int (own_bef a b c d f g)), .val (.int (own_bef d f g a b c)), .val (.int (0 : Int32))] []))
                    refine Gd.go (fun _ w_k => XS.iload X2.here hx rfl (hb hby at_135) rfl w_k) ?_
                    show Gd _ _ _ _ (T2.setTop (mkF m 137 #[.val (.long a), .second, .val (.long b), .second, .val (.int c), .val (.long d), .second, .val (.long f), .second, .val (.int g), .val (.int (own_bef a b c d f g)), .val (.int (own_bef d f g a b c)), .val (.int (0 : Int32))] [(.int (own_bef a b c d f g))]))
                    refine own_retN (t := .boolean) X2 hx hret hlk (by simp) (hb hby at_137) ?_ (by decide) (by decide)
                    refine ⟨?_, Fr.nil n0⟩
                    have tt := own_tot a b c d f g
                    generalize own_bef a b c d f g = u at *
                    generalize own_bef d f g a b c = v at *
                    rcases tt with ⟨rfl, rfl, tt⟩ | ⟨rfl, rfl, tt⟩ | ⟨rfl, rfl, tt⟩ <;> first | rfl | (exfalso; simp only [Int64.lt_iff_toInt_lt, Int32.lt_iff_toInt_lt, ← Int64.toInt_inj, ← Int32.toInt_inj, own_z0, own_z1, not_true_eq_false] at hc3 hc4 hc5 hc8 hc9 hc10 hc11 hc12 hc13 <;> omega)
                  · refine Gd.go (fun _ w_k => XS.icmpYes X2.here hx rfl (pc0 := 132) (pc' := 138) rfl (hb hby at_132) rfl (flt hc13).2.1 (by decide) (by decide) w_k) ?_
                    show Gd _ _ _ _ (T2.setTop (mkF m 138 #[.val (.long a), .second, .val (.long b), .second, .val (.int c), .val (.long d), .second, .val (.long f), .second, .val (.int g), .val (.int (own_bef a b c d f g)), .val (.int (own_bef d f g a b c)), .val (.int (0 : Int32))] []))
                    refine Gd.go (fun _ w_k => XS.iload X2.here hx rfl (hb hby at_138) rfl w_k) ?_
                    show Gd _ _ _ _ (T2.setTop (mkF m 140 #[.val (.long a), .second, .val (.long b), .second, .val (.int c), .val (.long d), .second, .val (.long f), .second, .val (.int g), .val (.int (own_bef a b c d f g)), .val (.int (own_bef d f g a b c)), .val (.int (0 : Int32))] [(.int (own_bef d f g a b c))]))
                    refine own_retN (t := .boolean) X2 hx hret hlk (by simp) (hb hby at_140) ?_ (by decide) (by decide)
                    refine ⟨?_, Fr.nil n0⟩
                    have tt := own_tot a b c d f g
                    generalize own_bef a b c d f g = u at *
                    generalize own_bef d f g a b c = v at *
                    rcases tt with ⟨rfl, rfl, tt⟩ | ⟨rfl, rfl, tt⟩ | ⟨rfl, rfl, tt⟩ <;> first | rfl | (exfalso; simp only [Int64.lt_iff_toInt_lt, Int32.lt_iff_toInt_lt, ← Int64.toInt_inj, ← Int32.toInt_inj, own_z0, own_z1, not_true_eq_false] at hc3 hc4 hc5 hc8 hc9 hc10 hc11 hc12 hc13 <;> omega)
    · refine Gd.go (fun _ w_k => XS.ifYes X2.here hx rfl (pc0 := 41) (pc' := 55) rfl (hb hby at_41) rfl ((if0 _ _).trans (feq (fun q => hc4 ((lw_eq _ _).mp q))).2) (by decide) (by decide) w_k) ?_
      show Gd _ _ _ _ (T2.setTop (mkF m 55 #[.val (.long a), .second, .val (.long b), .second, .val (.int c), .val (.long d), .second, .val (.long f), .second, .val (.int g), .val (.int (own_bef a b c d f g)), .val (.int (own_bef d f g a b c)), .unset] []))
      refine Gd.go (fun _ w_k => XS.iconst X2.here hx rfl (hb hby at_55) w_k) ?_
      show Gd _ _ _ _ (T2.setTop (mkF m 56 #[.val (.long a), .second, .val (.long b), .second, .val (.int c), .val (.long d), .second, .val (.long f), .second, .val (.int g), .val (.int (own_bef a b c d f g)), .val (.int (own_bef d f g a b c)), .unset] [(.int (0 : Int32))]))
      refine Gd.go (fun _ w_k => XS.istore X2.here hx rfl (hb hby at_56) rfl (l' := #[.val (.long a), .second, .val (.long b), .second, .val (.int c), .val (.long d), .second, .val (.long f), .second, .val (.int g), .val (.int (own_bef a b c d f g)), .val (.int (own_bef d f g a b c)), .val (.int (0 : Int32))]) rfl w_k) ?_
      show Gd _ _ _ _ (T2.setTop (mkF m 58 #[.val (.long a), .second, .val (.long b), .second, .val (.int c), .val (.long d), .second, .val (.long f), .second, .val (.int g), .val (.int (own_bef a b c d f g)), .val (.int (own_bef d f g a b c)), .val (.int (0 : Int32))] []))
      refine Gd.go (fun _ w_k => XS.iload X2.here hx rfl (hb hby at_58) rfl w_k) ?_
      show Gd _ _ _ _ (T2.setTop (mkF m 60 #[.val (.long a), .second, .val (.long b), .second, .val (.int c), .val (.long d), .second, .val (.long f), .second, .val (.int g), .val (.int (own_bef a b c d f g)), .val (.int (own_bef d f g a b c)), .val (.int (0 : Int32))] [(.int (0 : Int32))]))
      refine Gd.go (fun _ w_k => XS.ifYes X2.here hx rfl (pc0 := 60) (pc' := 79) rfl (hb hby at_60) rfl ((if0 _ _).trans (teq (by decide)).1) (by decide) (by decide) w_k) ?_
      show Gd _ _ _ _ (T2.setTop (mkF m 79 #[.val (.long a), .second, .val (.long b), .second, .val (.int c), .val (.long d), .second, .val (.long f), .second, .val (.int g), .val (.int (own_bef a b c d f g)), .val (.int (own_bef d f g a b c)), .val (.int (0 : Int32))] []))
      refine Gd.go (fun _ w_k => XS.iload X2.here hx rfl (hb hby at_79) rfl w_k) ?_
      show Gd _ _ _ _ (T2.setTop (mkF m 81 #[.val (.long a), .second, .val (.long b), .second, .val (.int c), .val (.long d), .second, .val (.long f), .second, .val (.int g), .val (.int (own_bef a b c d f g)), .val (.int (own_bef d f g a b c)), .val (.int (0 : Int32))] [(.int (own_bef a b c d f g))]))
      refine Gd.go (fun _ w_k => XS.iload X2.here hx rfl (hb hby at_81) rfl w_k) ?_
      show Gd _ _ _ _ (T2.setTop (mkF m 83 #[.val (.long a), .second, .val (.long b), .second, .val (.int c), .val (.long d), .second, .val (.long f), .second, .val (.int g), .val (.int (own_bef a b c d f g)), .val (.int (own_bef d f g a b c)), .val (.int (0 : Int32))] [(.int (own_bef d f g a b c)), (.int (own_bef a b c d f g))]))
      by_cases hc14 : (own_bef a b c d f g) = (own_bef d f g a b c)
      · refine Gd.go (fun _ w_k => XS.icmpNo X2.here hx rfl (hb hby at_83) rfl (teq hc14).2 w_k) ?_
        show Gd _ _ _ _ (T2.setTop (mkF m 86 #[.val (.long a), .second, .val (.long b), .second, .val (.int c), .val (.long d), .second, .val (.long f), .second, .val (.int g), .val (.int (own_bef a b c d f g)), .val (.int (own_bef d f g a b c)), .val (.int (0 : Int32))] []))
        refine Gd.go (fun _ w_k => XS.iconst X2.here hx rfl (hb hby at_86) w_k) ?_
        show Gd _ _ _ _ (T2.setTop (mkF m 87 #[.val (.long a), .second, .val (.long b), .second, .val (.int c), .val (.long d), .second, .val (.long f), .second, .val (.int g), .val (.int (own_bef a b c d f g)), .val (.int (own_bef d f g a b c)), .val (.int (0 : Int32))] [(.int (0 : Int32))]))
        refine own_retN (t := .boolean) X2 hx hret hlk (by simp) (hb hby at_87) ?_ (by decide) (by decide)
        refine ⟨?_, Fr.nil n0⟩
        have tt := own_tot a b c d f g
        generalize own_bef a b c d f g = u at *
        generalize own_bef d f g a b c = v at *
        rcases tt with ⟨rfl, rfl, tt⟩ | ⟨rfl, rfl, tt⟩ | ⟨rfl, rfl, tt⟩ <;> first | rfl | (exfalso; simp only [Int64.lt_iff_toInt_lt, Int32.lt_iff_toInt_lt, ← Int64.toInt_inj, ← Int32.toInt_inj, own_z0, own_z1, not_true_eq_false] at hc3 hc4 hc14 <;> omega)
      · refine Gd.go (fun _ w_k => XS.icmpYes X2.here hx rfl (pc0 := 83) (pc' := 88) rfl (hb hby at_83) rfl (feq hc14).2 (by decide) (by decide) w_k) ?_
        show Gd _ _ _ _ (T2.setTop (mkF m 88 #[.val (.long a), .second, .val (.long b), .second, .val (.int c), .val (.long d), .second, .val (.long f), .second, .val (.int g), .val (.int (own_bef a b c d f g)), .val (.int (own_bef d f g a b c)), .val (.int (0 : Int32))] []))
        refine Gd.go (fun _ w_k => XS.lloadN X2.here hx rfl (hb hby at_88) rfl w_k) ?_
        show Gd _ _ _ _ (T2.setTop (mkF m 89 #[.val (.long a), .second, .val (.long b), .second, .val (.int c), .val (.long d), .second, .val (.long f), .second, .val (.int g), .val (.int (own_bef a b c d f g)), .val (.int (own_bef d f g a b c)), .val (.int (0 : Int32))] [(.long a)]))
        refine Gd.go (fun _ w_k => XS.lload X2.here hx rfl (hb hby at_89) rfl w_k) ?_
        show Gd _ _ _ _ (T2.setTop (mkF m 91 #[.val (.long a), .second, .val (.long b), .second, .val (.int c), .val (.long d), .second, .val (.long f), .second, .val (.int g), .val (.int (own_bef a b c d f g)), .val (.int (own_bef d f g a b c)), .val (.int (0 : Int32))] [(.long d), (.long a)]))
        refine Gd.go (fun _ w_k => XS.lcmp X2.here hx rfl (hb hby at_91) rfl w_k) ?_
        show Gd _ _ _ _ (T2.setTop (mkF m 92 #[.val (.long a), .second, .val (.long b), .second, .val (.int c), .val (.long d), .second, .val (.long f), .second, .val (.int g), .val (.int (own_bef a b c d f g)), .val (.int (own_bef d f g a b c)), .val (.int (0 : Int32))] [(.int (lcmpW a d))]))
        by_cases hc15 : a < d
        · refine Gd.go (fun _ w_k => XS.ifNo X2.here hx rfl (hb hby at_92) rfl ((if0 _ _).trans (tlt ((lw_lt _ _).mpr hc15)).2.1) w_k) ?_
          show Gd _ _ _ _ (T2.setTop (mkF m 95 #[.val (.long a), .second, .val (.long b), .second, .val (.int c), .val (.long d), .second, .val (.long f), .second, .val (.int g), .val (.int (own_bef a b c d f g)), .val (.int (own_bef d f g a b c)), .val (.int (0 : Int32))] []))
          refine Gd.go (fun _ w_k => XS.iload X2.here hx rfl (hb hby at_95) rfl w_k) ?_
          show Gd _ _ _ _ (T2.setTop (mkF m 97 #[.val (.long a), .second, .val (.long b), .second, .val (.int c), .val (.long d), .second, .val (.long f), .second, .val (.int g), .val (.int (own_bef a b c d f g)), .val (.int (own_bef d f g a b c)), .val (.int (0 : Int32))] [(.int (own_bef a b c d f g))]))
          refine own_retN (t := .boolean) X2 hx hret hlk (by simp) (hb hby at_97) ?_ (by decide) (by decide)
          refine ⟨?_, Fr.nil n0⟩
          have tt := own_tot a b c d f g
          generalize own_bef a b c d f g = u at *
          generalize own_bef d f g a b c = v at *
          rcases tt with ⟨rfl, rfl, tt⟩ | ⟨rfl, rfl, tt⟩ | ⟨rfl, rfl, tt⟩ <;> first | rfl | (exfalso; simp only [Int64.lt_iff_toInt_lt, Int32.lt_iff_toInt_lt, ← Int64.toInt_inj, ← Int32.toInt_inj, own_z0, own_z1, not_true_eq_false] at hc3 hc4 hc14 hc15 <;> omega)
        · refine Gd.go (fun _ w_k => XS.ifYes X2.here hx rfl (pc0 := 92) (pc' := 98) rfl (hb hby at_92) rfl ((if0 _ _).trans (flt (fun q => hc15 ((lw_lt _ _).mp q))).2.1) (by decide) (by decide) w_k) ?_
          show Gd _ _ _ _ (T2.setTop (mkF m 98 #[.val (.long a), .second, .val (.long b), .second, .val (.int c), .val (.long d), .second, .val (.long f), .second, .val (.int g), .val (.int (own_bef a b c d f g)), .val (.int (own_bef d f g a b c)), .val (.int (0 : Int32))] []))
          refine Gd.go (fun _ w_k => XS.lloadN X2.here hx rfl (hb hby at_98) rfl w_k) ?_
          show Gd _ _ _ _ (T2.setTop (mkF m 99 #[.val (.long a), .second, .val (.long b), .second, .val (.int c), .val (.long d), .second, .val (.long f), .second, .val (.int g), .val (.int (own_bef a b c d f g)), .val (.int (own_bef d f g a b c)), .val (.int (0 : Int32))] [(.long a)]))
          refine Gd.go (fun _ w_k => XS.lload X2.here hx rfl (hb hby at_99) rfl w_k) ?_
          show Gd _ _ _ _ (T2.setTop (mkF m 101 #[.val (.long a), .second, .val (.long b), .second, .val (.int c), .val (.long d), .second, .val (.long f), .second, .val (.int g), .val (.int (own_bef a b c d f g)), .val (.int (own_bef d f g a b c)), .val (.int (0 : Int32))] [(.long d), (.long a)]))
          refine Gd.go (fun _ w_k => XS.lcmp X2.here hx rfl (hb hby at_101) rfl w_k) ?_
          show Gd _ _ _ _ (T2.setTop (mkF m 102 #[.val (.long a), .second, .val (.long b), .second, .val (.int c), .val (.long d), .second, .val (.long f), .second, .val (.int g), .val (.int (own_bef a b c d f g)), .val (.int (own_bef d f g a b c)), .val (.int (0 : Int32))] [(.int (lcmpW a d))]))
          by_cases hc16 : d < a
          · refine Gd.go (fun _ w_k => XS.ifNo X2.here hx rfl (hb hby at_102) rfl ((if0 _ _).trans (tlt ((lw_gt _ _).mpr hc16)).2.2.2) w_k) ?_
            show Gd _ _ _ _ (T2.setTop (mkF m 105 #[.val (.long a), .second, .val (.long b), .second, .val (.int c), .val (.long d), .second, .val (.long f), .second, .val (.int g), .val (.int (own_bef a b c d f g)), .val (.int (own_bef d f g a b c)), .val (.int (0 : Int32))] []))
            refine Gd.go (fun _ w_k => XS.iload X2.here hx rfl (hb hby at_105) rfl w_k) ?_
            show Gd _ _ _ _ (T2.setTop (mkF m 107 #[.val (.long a), .second, .val (.long b), .second, .val (.int c), .val (.long d), .second, .val (.long f), .second, .val (.int g), .val (.int (own_bef a b c d f g)), .val (.int (own_bef d f g a b c)), .val (.int (0 : Int32))] [(.int (own_bef d f g a b c))]))
            refine own_retN (t := .boolean) X2 hx hret hlk (by simp) (hb hby at_107) ?_ (by decide) (by decide)
            refine ⟨?_, Fr.nil n0⟩
            have tt := own_tot a b c d f g
            generalize own_bef a b c d f g = u at *
            generalize own_bef d f g a b c = v at *
            rcases tt with ⟨rfl, rfl, tt⟩ | ⟨rfl, rfl, tt⟩ | ⟨rfl, rfl, tt⟩ <;> first | rfl | (exfalso; simp only [Int64.lt_iff_toInt_lt, Int32.lt_iff_toInt_lt, ← Int64.toInt_inj, ← Int32.toInt_inj, own_z0, own_z1, not_true_eq_false] at hc3 hc4 hc14 hc15 hc16 <;> omega)
          · refine Gd.go (fun _ w_k => XS.ifYes X2.here hx rfl (pc0 := 102) (pc' := 108) rfl (hb hby at_102) rfl ((if0 _ _).trans (flt (fun q => hc16 ((lw_gt _ _).mp q))).2.2.2) (by decide) (by decide) w_k) ?_
            show Gd _ _ _ _ (T2.setTop (mkF m 108 #[.val (.long a), .second, .val (.long b), .second, .val (.int c), .val (.long d), .second, .val (.long f), .second, .val (.int g), .val (.int (own_bef a b c d f g)), .val (.int (own_bef d f g a b c)), .val (.int (0 : Int32))] []))
            refine Gd.go (fun _ w_k => XS.lloadN X2.here hx rfl (hb hby at_108) rfl w_k) ?_
            show Gd _ _ _ _ (T2.setTop (mkF m 109 #[.val (.long a), .second, .val (.long b), .second, .val (.int c), .val (.long d), .second, .val (.long f), .second, .val (.int g), .val (.int (own_bef a b c d f g)), .val (.int (own_bef d f g a b c)), .val (.int (0 : Int32))] [(.long b)]))
            refine Gd.go (fun _ w_k => XS.lload X2.here hx rfl (hb hby at_109) rfl w_k) ?_
            show Gd _ _ _ _ (T2.setTop (mkF m 111 #[.val (.long a), .second, .val (.long b), .second, .val (.int c), .val (.long d), .second, .val (.long f), .second, .val (.int g), .val (.int (own_bef a b c d f g)), .val (.int (own_bef d f g a b c)), .val (.int (0 : Int32))] [(.long f), (.long b)]))
            refine Gd.go (fun _ w_k => XS.lcmp X2.here hx rfl (hb hby at_111) rfl w_k) ?_
            show Gd _ _ _ _ (T2.setTop (mkF m 112 #[.val (.long a), .second, .val (.long b), .second, .val (.int c), .val (.long d), .second, .val (.long f), .second, .val (.int g), .val (.int (own_bef a b c d f g)), .val (.int (own_bef d f g a b c)), .val (.int (0 : Int32))] [(.int (lcmpW b f))]))
            by_cases hc17 : f < b
            · refine Gd.go (fun _ w_k => XS.ifNo X2.here hx rfl (hb hby at_112) rfl ((if0 _ _).trans (tlt ((lw_gt _ _).mpr hc17)).2.2.2) w_k) ?_
              show Gd _ _ _ _ (T2.setTop (mkF m 115 #[.val (.long a), .second, .val (.long b), .second, .val (.int c), .val (.long d), .second, .val (.long f), .second, .val (.int g), .val (.int (own_bef a b c d f g)), .val (.int (own_bef d f g a b c)), .val (.int (0 : Int32))] []))
              refine Gd.go (fun _ w_k => XS.iload X2.here hx rfl (hb hby at_115) rfl w_k) ?_
              show Gd _ _ _ _ (T2.setTop (mkF m 117 #[.val (.long a), .second, .val (.long b), .second, .val (.int c), .val (.long d), .second, .val (.long f), .second, .val (.int g), .val (.int (own_bef a b c d f g)), .val (.int (own_bef d f g a b c)), .val (.int (0 : Int32))] [(.int (own_bef a b c d f g))]))
              refine own_retN (t := .boolean) X2 hx hret hlk (by simp) (hb hby at_117) ?_ (by decide) (by decide)
              refine ⟨?_, Fr.nil n0⟩
              have tt := own_tot a b c d f g
              generalize own_bef a b c d f g = u at *
              generalize own_bef d f g a b c = v at *
              rcases tt with ⟨rfl, rfl, tt⟩ | ⟨rfl, rfl, tt⟩ | ⟨rfl, rfl, tt⟩ <;> first | rfl | (exfalso; simp only [Int64.lt_iff_toInt_lt, Int32.lt_iff_toInt_lt, ← Int64.toInt_inj, ← Int32.toInt_inj, own_z0, own_z1, not_true_eq_false] at hc3 hc4 hc14 hc15 hc16 hc17 <;> omega)
            · refine Gd.go (fun _ w_k => XS.ifYes X2.here hx rfl (pc0 := 112) (pc' := 118) rfl (hb hby at_112) rfl ((if0 _ _).trans (flt (fun q => hc17 ((lw_gt _ _).mp q))).2.2.2) (by decide) (by decide) w_k) ?_
              show Gd _ _ _ _ (T2.setTop (mkF m 118 #[.val (.long a), .second, .val (.long b), .second, .val (.int c), .val (.long d), .second, .val (.long f), .second, .val (.int g), .val (.int (own_bef a b c d f g)), .val (.int (own_bef d f g a b c)), .val (.int (0 : Int32))] []))
              refine Gd.go (fun _ w_k => XS.lloadN X2.here hx rfl (hb hby at_118) rfl w_k) ?_
              show Gd _ _ _ _ (T2.setTop (mkF m 119 #[.val (.long a), .second, .val (.long b), .second, .val (.int c), .val (.long d), .second, .val (.long f), .second, .val (.int g), .val (.int (own_bef a b c d f g)), .val (.int (own_bef d f g a b c)), .val (.int (0 : Int32))] [(.long b)]))
              refine Gd.go (fun _ w_k => XS.lload X2.here hx rfl (hb hby at_119) rfl w_k) ?_
              show Gd _ _ _ _ (T2.setTop (mkF m 121 #[.val (.long a), .second, .val (.long b), .second, .val (.int c), .val (.long d), .second, .val (.long f), .second, .val (.int g), .val (.int (own_bef a b c d f g)), .val (.int (own_bef d f g a b c)), .val (.int (0 : Int32))] [(.long f), (.long b)]))
              refine Gd.go (fun _ w_k => XS.lcmp X2.here hx rfl (hb hby at_121) rfl w_k) ?_
              show Gd _ _ _ _ (T2.setTop (mkF m 122 #[.val (.long a), .second, .val (.long b), .second, .val (.int c), .val (.long d), .second, .val (.long f), .second, .val (.int g), .val (.int (own_bef a b c d f g)), .val (.int (own_bef d f g a b c)), .val (.int (0 : Int32))] [(.int (lcmpW b f))]))
              by_cases hc18 : b < f
              · refine Gd.go (fun _ w_k => XS.ifNo X2.here hx rfl (hb hby at_122) rfl ((if0 _ _).trans (tlt ((lw_lt _ _).mpr hc18)).2.1) w_k) ?_
                show Gd _ _ _ _ (T2.setTop (mkF m 125 #[.val (.long a), .second, .val (.long b), .second, .val (.int c), .val (.long d), .second, .val (.long f), .second, .val (.int g), .val (.int (own_bef a b c d f g)), .val (.int (own_bef d f g a b c)), .val (.int (0 : Int32))] []))
                refine Gd.go (fun _ w_k => XS.iload X2.here hx rfl (hb hby at_125) rfl w_k) ?_
                show Gd _ _ _ _ (T2.setTop (mkF m 127 #[.val (.long a), .second, .val (.long b), .second, .val (.int c), .val (.long d), .second, .val (.long f), .second, .val (.int g), .val (.int (own_bef a b c d f g)), .val (.int (own_bef d f g a b c)), .val (.int (0 : Int32))] [(.int (own_bef d f g a b c))]))
                refine own_retN (t := .boolean) X2 hx hret hlk (by simp) (hb hby at_127) ?_ (by decide) (by decide)
                refine ⟨?_, Fr.nil n0⟩
                have tt := own_tot a b c d f g
                generalize own_bef a b c d f g = u at *
                generalize own_bef d f g a b c = v at *
                rcases tt with ⟨rfl, rfl, tt⟩ | ⟨rfl, rfl, tt⟩ | ⟨rfl, rfl, tt⟩ <;> first | rfl | (exfalso; simp only [Int64.lt_iff_toInt_lt, Int32.lt_iff_toInt_lt, ← Int64.toInt_inj, ← Int32.toInt_inj, own_z0, own_z1, not_true_eq_false] at hc3 hc4 hc14 hc15 hc16 hc17 hc18 <;> omega)
              · refine Gd.go (fun _ w_k => XS.ifYes X2.here hx rfl (pc0 := 122) (pc' := 128) rfl (hb hby at_122) rfl ((if0 _ _).trans (flt (fun q => hc18 ((lw_lt _ _).mp q))).2.1) (by decide) (by decide) w_k) ?_
                show Gd _ _ _ _ (T2.setTop (mkF m 128 #[.val (.long a), .second, .val (.long b), .second, .val (.int c), .val (.long d), .second, .val (.long f), .second, .val (.int g), .val (.int (own_bef a b c d f g)), .val (.int (own_bef d f g a b c)), .val (.int (0 : Int32))] []))
                refine Gd.go (fun _ w_k => XS.iload X2.here hx rfl (hb hby at_128) rfl w_k) ?_
                show Gd _ _ _ _ (T2.setTop (mkF m 130 #[.val (.long a), .second, .val (.long b), .second, .val (.int c), .val (.long d), .second, .val (.long f), .second, .val (.int g), .val (.int (own_bef a b c d f g)), .val (.int (own_bef d f g a b c)), .val (.int (0 : Int32))] [(.int c)]))
                refine Gd.go (fun _ w_k => XS.iload X2.here hx rfl (hb hby at_130) rfl w_k) ?_
                show Gd _ _ _ _ (T2.setTop (mkF m 132 #[.val (.long a), .second, .val (.long b), .second, .val (.int c), .val (.long d), .second, .val (.long f), .second, .val (.int g), .val (.int (own_bef a b c d f g)), .val (.int (own_bef d f g a b c)), .val (.int (0 : Int32))] [(.int g), (.int c)]))
                by_cases hc19 : c < g
                · refine Gd.go (fun _ w_k => XS.icmpNo X2.here hx rfl (hb hby at_132) rfl (tlt hc19).2.1 w_k) ?_
                  show Gd _ _ _ _ (T2.setTop (mkF m 135 #[.val (.long a), .second, .val (.long b), .second, .val (.int c), .val (.long d), .second, .val (.long f), .second, .val (.int g), .val (.int (own_bef a b c d f g)), .val (.int (own_bef d f g a b c)), .val (.int (0 : Int32))] []))
                  refine Gd.go (fun _ w_k => XS.iload X2.here hx rfl (hb hby at_135) rfl w_k) ?_
                  show Gd _ _ _ _ (T2.setTop (mkF m 137 #[.val (.long a), .second, .val (.long b), .second, .val (.int c), .val (.long d), .second, .val (.long f), .second, .val (.int g), .val (.int (own_bef a b c d f g)), .val (.int (own_bef d f g a b c)), .val (.int (0 : Int32))] [(.int (own_bef a b c d f g))]))
                  refine own_retN (t := .boolean) X2 hx hret hlk (by simp) (hb hby at_137) ?_ (by decide) (by decide)
                  refine ⟨?_, Fr.nil n0⟩
                  have tt := own_tot a b c d f g
                  generalize own_bef a b c d f g = u at *
                  generalize own_bef d f g a b c = v at *
                  rcases tt with ⟨rfl, rfl, tt⟩ | ⟨rfl, rfl, tt⟩ | ⟨rfl, rfl, tt⟩ <;> first | rfl | (exfalso; simp only [Int64.lt_iff_toInt_lt, Int32.lt_iff_toInt_lt, ← Int64.toInt_inj, ← Int32.toInt_inj, own_z0, own_z1, not_true_eq_false] at hc3 hc4 hc14 hc15 hc16 hc17 hc18 hc19 <;> omega)
                · refine Gd.go (fun _ w_k => XS.icmpYes X2.here hx rfl (pc0 := 132) (pc' := 138) rfl (hb hby at_132) rfl (flt hc19).2.1 (by decide) (by decide) w_k) ?_
                  show Gd _ _ _ _ (T2.setTop (mkF m 138 #[.val (.long a), .second, .val (.long b), .second, .val (.int c), .val (.long d), .second, .val (.long f), .second, .val (.int g), .val (.int (own_bef a b c d f g)), .val (.int (own_bef d f g a b c)), .val (.int (0 : Int32))] []))
                  refine Gd.go (fun _ w_k => XS.iload X2.here hx rfl (hb hby at_138) rfl w_k) ?_
                  show Gd _ _ _ _ (T2.setTop (mkF m 140 #[.val (.long a), .second, .val (.long b), .second, .val (.int c), .val (.long d), .second, .val (.long f), .second, .val (.int g), .val (.int (own_bef a b c d f g)), .val (.int (own_bef d f g a b c)), .val (.int (0 : Int32))] [(.int (own_bef d f g a b c))]))
                  refine own_retN (t := .boolean) X2 hx hret hlk (by simp) (hb hby at_140) ?_ (by decide) (by decide)
                  refine ⟨?_, Fr.nil n0⟩
                  have tt := own_tot a b c d f g
                  generalize own_bef a b c d f g = u at *
                  generalize own_bef d f g a b c = v at *
                  rcases tt with ⟨rfl, rfl, tt⟩ | ⟨rfl, rfl, tt⟩ | ⟨rfl, rfl, tt⟩ <;> first | rfl | (exfalso; simp only [Int64.lt_iff_toInt_lt, Int32.lt_iff_toInt_lt, ← Int64.toInt_inj, ← Int32.toInt_inj, own_z0, own_z1, not_true_eq_false] at hc3 hc4 hc14 hc15 hc16 hc17 hc18 hc19 <;> omega)
  · refine Gd.go (fun _ w_k => XS.ifYes X2.here hx rfl (pc0 := 34) (pc' := 55) rfl (hb hby at_34) rfl ((if0 _ _).trans (feq (fun q => hc3 ((lw_eq _ _).mp q))).2) (by decide) (by decide) w_k) ?_
    show Gd _ _ _ _ (T2.setTop (mkF m 55 #[.val (.long a), .second, .val (.long b), .second, .val (.int c), .val (.long d), .second, .val (.long f), .second, .val (.int g), .val (.int (own_bef a b c d f g)), .val (.int (own_bef d f g a b c)), .unset] []))
    refine Gd.go (fun _ w_k => XS.iconst X2.here hx rfl (hb hby at_55) w_k) ?_
    show Gd _ _ _ _ (T2.setTop (mkF m 56 #[.val (.long a), .second, .val (.long b), .second, .val (.int c), .val (.long d), .second, .val (.long f), .second, .val (.int g), .val (.int (own_bef a b c d f g)), .val (.int (own_bef d f g a b c)), .unset] [(.int (0 : Int32))]))
    refine Gd.go (fun _ w_k => XS.istore X2.here hx rfl (hb hby at_56) rfl (l' := #[.val (.long a), .second, .val (.long b), .second, .val (.int c), .val (.long d), .second, .val (.long f), .second, .val (.int g), .val (.int (own_bef a b c d f g)), .val (.int (own_bef d f g a b c)), .val (.int (0 : Int32))]) rfl w_k) ?_
    show Gd _ _ _ _ (T2.setTop (mkF m 58 #[.val (.long a), .second, .val (.long b), .second, .val (.int c), .val (.long d), .second, .val (.long f), .second, .val (.int g), .val (.int (own_bef a b c d f g)), .val (.int (own_bef d f g a b c)), .val (.int (0 : Int32))] []))
    refine Gd.go (fun _ w_k => XS.iload X2.here hx rfl (hb hby at_58) rfl w_k) ?_
    show Gd _ _ _ _ (T2.setTop (mkF m 60 #[.val (.long a), .second, .val (.long b), .second, .val (.int c), .val (.long d), .second, .val (.long f), .second, .val (.int g), .val (.int (own_bef a b c d f g)), .val (.int (own_bef d f g a b c)), .val (.int (0 : Int32))] [(.int (0 : Int32))]))
    refine Gd.go (fun _ w_k => XS.ifYes X2.here hx rfl (pc0 := 60) (pc' := 79) rfl (hb hby at_60) rfl ((if0 _ _).trans (teq (by decide)).1) (by decide) (by decide) w_k) ?_
    show Gd _ _ _ _ (T2.setTop (mkF m 79 #[.val (.long a), .second, .val (.long b), .second, .val (.int c), .val (.long d), .second, .val (.long f), .second, .val (.int g), .val (.int (own_bef a b c d f g)), .val (.int (own_bef d f g a b c)), .val (.int (0 : Int32))] []))
    refine Gd.go (fun _ w_k => XS.iload X2.here hx rfl (hb hby at_79) rfl w_k) ?_
    show Gd _ _ _ _ (T2.setTop (mkF m 81 #[.val (.long a), .second, .val (.long b), .second, .val (.int c), .val (.long d), .second, .val (.long f), .second, .val (.int g), .val (.int (own_bef a b c d f g)), .val (.int (own_bef d f g a b c)), .val (.int (0 : Int32))] [(.int (own_bef a b c d f g))]))
    refine Gd.go (fun _ w_k => XS.iload X2.here hx rfl (hb hby at_81) rfl w_k) ?_
    show Gd _ _ _ _ (T2.setTop (mkF m 83 #[.val (.long a), .second, .val (.long b), .second, .val (.int c), .val (.long d), .second, .val (.long f), .second, .val (.int g), .val (.int (own_bef a b c d f g)), .val (.int (own_bef d f g a b c)), .val (.int (0 : Int32))] [(.int (own_bef d f g a b c)), (.int (own_bef a b c d f g))]))
    by_cases hc20 : (own_bef a b c d f g) = (own_bef d f g a b c)
    · refine Gd.go (fun _ w_k => XS.icmpNo X2.here hx rfl (hb hby at_83) rfl (teq hc20).2 w_k) ?_
      show Gd _ _ _ _ (T2.setTop (mkF m 86 #[.val (.long a), .second, .val (.long b), .second, .val (.int c), .val (.long d), .second, .val (.long f), .second, .val (.int g), .val (.int (own_bef a b c d f g)), .val (.int (own_bef d f g a b c)), .val (.int (0 : Int32))] []))
      refine Gd.go (fun _ w_k => XS.iconst X2.here hx rfl (hb hby at_86) w_k) ?_
      show Gd _ _ _ _ (T2.setTop (mkF m 87 #[.val (.long a), .second, .val (.long b), .second, .val (.int c), .val (.long d), .second, .val (.long f), .second, .val (.int g), .val (.int (own_bef a b c d f g)), .val (.int (own_bef d f g a b c)), .val (.int (0 : Int32))] [(.int (0 : Int32))]))
      refine own_retN (t := .boolean) X2 hx hret hlk (by simp) (hb hby at_87) ?_ (by decide) (by decide)
      refine ⟨?_, Fr.nil n0⟩
      have tt := own_tot a b c d f g
      generalize own_bef a b c d f g = u at *
      generalize own_bef d f g a b c = v at *
      rcases tt with ⟨rfl, rfl, tt⟩ | ⟨rfl, rfl, tt⟩ | ⟨rfl, rfl, tt⟩ <;> first | rfl | (exfalso; simp only [Int64.lt_iff_toInt_lt, Int32.lt_iff_toInt_lt, ← Int64.toInt_inj, ← Int32.toInt_inj, own_z0, own_z1, not_true_eq_false] at hc3 hc20 <;> omega)
    · refine Gd.go (fun _ w_k => XS.icmpYes X2.here hx rfl (pc0 := 83) (pc' := 88) rfl (hb hby at_83) rfl (feq hc20).2 (by decide) (by decide) w_k) ?_
      show Gd _ _ _ _ (T2.setTop (mkF m 88 #[.val (.long a), .second, .val (.long b), .second, .val (.int c), .val (.long d), .second, .val (.long f), .second, .val (.int g), .val (.int (own_bef a b c d f g)), .val (.int (own_bef d f g a b c)), .val (.int (0 : Int32))] []))
      refine Gd.go (fun _ w_k => XS.lloadN X2.here hx rfl (hb hby at_88) rfl w_k) ?_
      show Gd _ _ _ _ (T2.setTop (mkF m 89 #[.val (.long a), .second, .val (.long b), .second, .val (.int c), .val (.long d), .second, .val (.long f), .second, .val (.int g), .val (.int (own_bef a b c d f g)), .val (.int (own_bef d f g a b c)), .val (.int (0 : Int32))] [(.long a)]))
      refine Gd.go (fun _ w_k => XS.lload X2.here hx rfl (hb hby at_89) rfl w_k) ?_
      show Gd _ _ _ _ (T2.setTop (mkF m 91 #[.val (.long a), .second, .val (.long b), .second, .val (.int c), .val (.long d), .second, .val (.long f), .second, .val (.int g), .val (.int (own_bef a b c d f g)), .val (.int (own_bef d f g a b c)), .val (.int (0 : Int32))] [(.long d), (.long a)]))
      refine Gd.go (fun _ w_k => XS.lcmp X2.here hx rfl (hb hby at_91) rfl w_k) ?_
      show Gd _ _ _ _ (T2.setTop (mkF m 92 #[.val (.long a), .second, .val (.long b), .second, .val (.int c), .val (.long d), .second, .val (.long f), .second, .val (.int g), .val (.int (own_bef a b c d f g)), .val (.int (own_bef d f g a b c)), .val (.int (0 : Int32))] [(.int (lcmpW a d))]))
      by_cases hc21 : a < d
      · refine Gd.go (fun _ w_k => XS.ifNo X2.here hx rfl (hb hby at_92) rfl ((if0 _ _).trans (tlt ((lw_lt _ _).mpr hc21)).2.1) w_k) ?_
        show Gd _ _ _ _ (T2.setTop (mkF m 95 #[.val (.long a), .second, .val (.long b), .second, .val (.int c), .val (.long d), .second, .val (.long f), .second, .val (.int g), .val (.int (own_bef a b c d f g)), .val (.int (own_bef d f g a b c)), .val (.int (0 : Int32))] []))
        refine Gd.go (fun _ w_k => XS.iload X2.here hx rfl (hb hby at_95) rfl w_k) ?_
        show Gd _ _ _ _ (T2.setTop (mkF m 97 #[.val (.long a), .second, .val (.long b), .second, .val (.int c), .val (.long d), .second, .val (.long f), .second, .val (.int g), .val (.int (own_bef a b c d f g)), .val (.int (own_bef d f g a b c)), .val (.int (0 : Int32))] [(.int (own_bef a b c d f g))]))
        refine own_retN (t := .boolean) X2 hx hret hlk (by simp) (hb hby at_97) ?_ (by decide) (by decide)
        refine ⟨?_, Fr.nil n0⟩
        have tt := own_tot a b c d f g
        generalize own_bef a b c d f g = u at *
        generalize own_bef d f g a b c = v at *
        rcases tt with ⟨rfl, rfl, tt⟩ | ⟨rfl, rfl, tt⟩ | ⟨rfl, rfl, tt⟩ <;> first | rfl | (exfalso; simp only [Int64.lt_iff_toInt_lt, Int32.lt_iff_toInt_lt, ← Int64.toInt_inj, ← Int32.toInt_inj, own_z0, own_z1, not_true_eq_false] at hc3 hc20 hc21 <;> omega)
      · refine Gd.go (fun _ w_k => XS.ifYes X2.here hx rfl (pc0 := 92) (pc' := 98) rfl (hb hby at_92) rfl ((if0 _ _).trans (flt (fun q => hc21 ((lw_lt _ _).mp q))).2.1) (by decide) (by decide) w_k) ?_
        show Gd _ _ _ _ (T2.setTop (mkF m 98 #[.val (.long a), .second, .val (.long b), .second, .val (.int c), .val (.long d), .second, .val (.long f), .second, .val (.int g), .val (.int (own_bef a b c d f g)), .val (.int (own_bef d f g a b c)), .val (.int (0 : Int32))] []))
        refine Gd.go (fun _ w_k => XS.lloadN X2.here hx rfl (hb hby at_98) rfl w_k) ?_
        show Gd _ _ _ _ (T2.setTop (mkF m 99 #[.val (.long a), .second, .val (.long b), .second, .val (.int c), .val (.long d), .second, .val (.long f), .second, .val (.int g), .val (.int (own_bef a b c d f g)), .val (.int (own_bef d f g a b c)), .val (.int (0 : Int32))] [(.long a)]))
        refine Gd.go (fun _ w_k => XS.lload X2.here hx rfl (hb hby at_99) rfl w_k) ?_
        show Gd _ _ _ _ (T2.setTop (mkF m 101 #[.val (.long a), .second, .val (.long b), .second, .val (.int c), .val (.long d), .second, .val (.long f), .second, .val (.int g), .val (.int (own_bef a b c d f g)), .val (.int (own_bef d f g a b c)), .val (.int (0 : Int32))] [(.long d), (.long a)]))
        refine Gd.go (fun _ w_k => XS.lcmp X2.here hx rfl (hb hby at_101) rfl w_k) ?_
        show Gd _ _ _ _ (T2.setTop (mkF m 102 #[.val (.long a), .second, .val (.long b), .second, .val (.int c), .val (.long d), .second, .val (.long f), .second, .val (.int g), .val (.int (own_bef a b c d f g)), .val (.int (own_bef d f g a b c)), .val (.int (0 : Int32))] [(.int (lcmpW a d))]))
        by_cases hc22 : d < a
        · refine Gd.go (fun _ w_k => XS.ifNo X2.here hx rfl (hb hby at_102) rfl ((if0 _ _).trans (tlt ((lw_gt _ _).mpr hc22)).2.2.2) w_k) ?_
          show Gd _ _ _ _ (T2.setTop (mkF m 105 #[.val (.long a), .second, .val (.long b), .second, .val (.int c), .val (.long d), .second, .val (.long f), .second, .val (.int g), .val (.int (own_bef a b c d f g)), .val (.int (own_bef d f g a b c)), .val (.int (0 : Int32))] []))
          refine Gd.go (fun _ w_k => XS.iload X2.here hx rfl (hb hby at_105) rfl w_k) ?_
          show Gd _ _ _ _ (T2.setTop (mkF m 107 #[.val (.long a), .second, .val (.long b), .second, .val (.int c), .val (.long d), .second, .val (.long f), .second, .val (.int g), .val (.int (own_bef a b c d f g)), .val (.int (own_bef d f g a b c)), .val (.int (0 : Int32))] [(.int (own_bef d f g a b c))]))
          refine own_retN (t := .boolean) X2 hx hret hlk (by simp) (hb hby at_107) ?_ (by decide) (by decide)
          refine ⟨?_, Fr.nil n0⟩
          have tt := own_tot a b c d f g
          generalize own_bef a b c d f g = u at *
          generalize own_bef d f g a b c = v at *
          rcases tt with ⟨rfl, rfl, tt⟩ | ⟨rfl, rfl, tt⟩ | ⟨rfl, rfl, tt⟩ <;> first | rfl | (exfalso; simp only [Int64.lt_iff_toInt_lt, Int32.lt_iff_toInt_lt, ← Int64.toInt_inj, ← Int32.toInt_inj, own_z0, own_z1, not_true_eq_false] at hc3 hc20 hc21 hc22 <;> omega)
        · refine Gd.go (fun _ w_k => XS.ifYes X2.here hx rfl (pc0 := 102) (pc' := 108) rfl (hb hby at_102) rfl ((if0 _ _).trans (flt (fun q => hc22 ((lw_gt _ _).mp q))).2.2.2) (by decide) (by decide) w_k) ?_
          show Gd _ _ _ _ (T2.setTop (mkF m 108 #[.val (.long a), .second, .val (.long b), .second, .val (.int c), .val (.long d), .second, .val (.long f), .second, .val (.int g), .val (.int (own_bef a b c d f g)), .val (.int (own_bef d f g a b c)), .val (.int (0 : Int32))] []))
          refine Gd.go (fun _ w_k => XS.lloadN X2.here hx rfl (hb hby at_108) rfl w_k) ?_
          show Gd _ _ _ _ (T2.setTop (mkF m 109 #[.val (.long a), .second, .val (.long b), .second, .val (.int c), .val (.long d), .second, .val (.long f), .second, .val (.int g), .val (.int (own_bef a b c d f g)), .val (.int (own_bef d f g a b c)), .val (.int (0 : Int32))] [(.long b)]))
          refine Gd.go (fun _ w_k => XS.lload X2.here hx rfl (hb hby at_109) rfl w_k) ?_
          show Gd _ _ _ _ (T2.setTop (mkF m 111 #[.val (.long a), .second, .val (.long b), .second, .val (.int c), .val (.long d), .second, .val (.long f), .second, .val (.int g), .val (.int (own_bef a b c d f g)), .val (.int (own_bef d f g a b c)), .val (.int (0 : Int32))] [(.long f), (.long b)]))
          refine Gd.go (fun _ w_k => XS.lcmp X2.here hx rfl (hb hby at_111) rfl w_k) ?_
          show Gd _ _ _ _ (T2.setTop (mkF m 112 #[.val (.long a), .second, .val (.long b), .second, .val (.int c), .val (.long d), .second, .val (.long f), .second, .val (.int g), .val (.int (own_bef a b c d f g)), .val (.int (own_bef d f g a b c)), .val (.int (0 : Int32))] [(.int (lcmpW b f))]))
          by_cases hc23 : f < b
          · refine Gd.go (fun _ w_k => XS.ifNo X2.here hx rfl (hb hby at_112) rfl ((if0 _ _).trans (tlt ((lw_gt _ _).mpr hc23)).2.2.2) w_k) ?_
            show Gd _ _ _ _ (T2.setTop (mkF m 115 #[.val (.long a), .second, .val (.long b), .second, .val (.int c), .val (.long d), .second, .val (.long f), .second, .val (.int g), .val (.int (own_bef a b c d f g)), .val (.int (own_bef d f g a b c)), .val (.int (0 : Int32))] []))
            refine Gd.go (fun _ w_k => XS.iload X2.here hx rfl (hb hby at_115) rfl w_k) ?_
            show Gd _ _ _ _ (T2.setTop (mkF m 117 #[.val (.long a), .second, .val (.long b), .second, .val (.int c), .val (.long d), .second, .val (.long f), .second, .val (.int g), .val (.int (own_bef a b c d f g)), .val (.int (own_bef d f g a b c)), .val (.int (0 : Int32))] [(.int (own_bef a b c d f g))]))
            refine own_retN (t := .boolean) X2 hx hret hlk (by simp) (hb hby at_117) ?_ (by decide) (by decide)
            refine ⟨?_, Fr.nil n0⟩
            have tt := own_tot a b c d f g
            generalize own_bef a b c d f g = u at *
            generalize own_bef d f g a b c = v at *
            rcases tt with ⟨rfl, rfl, tt⟩ | ⟨rfl, rfl, tt⟩ | ⟨rfl, rfl, tt⟩ <;> first | rfl | (exfalso; simp only [Int64.lt_iff_toInt_lt, Int32.lt_iff_toInt_lt, ← Int64.toInt_inj, ← Int32.toInt_inj, own_z0, own_z1, not_true_eq_false] at hc3 hc20 hc21 hc22 hc23 <;> omega)
          · refine Gd.go (fun _ w_k => XS.ifYes X2.here hx rfl (pc0 := 112) (pc' := 118) rfl (hb hby at_112) rfl ((if0 _ _).trans (flt (fun q => hc23 ((lw_gt _ _).mp q))).2.2.2) (by decide) (by decide) w_k) ?_
            show Gd _ _ _ _ (T2.setTop (mkF m 118 #[.val (.long a), .second, .val (.long b), .second, .val (.int c), .val (.long d), .second, .val (.long f), .second, .val (.int g), .val (.int (own_bef a b c d f g)), .val (.int (own_bef d f g a b c)), .val (.int (0 : Int32))] []))
            refine Gd.go (fun _ w_k => XS.lloadN X2.here hx rfl (hb hby at_118) rfl w_k) ?_
            show Gd _ _ _ _ (T2.setTop (mkF m 119 #[.val (.long a), .second, .val (.long b), .second, .val (.int c), .val (.long d), .second, .val (.long f), .second, .val (.int g), .val (.int (own_bef a b c d f g)), .val (.int (own_bef d f g a b c)), .val (.int (0 : Int32))] [(.long b)]))
            refine Gd.go (fun _ w_k => XS.lload X2.here hx rfl (hb hby at_119) rfl w_k) ?_
            show Gd _ _ _ _ (T2.setTop (mkF m 121 #[.val (.long a), .second, .val (.long b), .second, .val (.int c), .val (.long d), .second, .val (.long f), .second, .val (.int g), .val (.int (own_bef a b c d f g)), .val (.int (own_bef d f g a b c)), .val (.int (0 : Int32))] [(.long f), (.long b)]))
            refine Gd.go (fun _ w_k => XS.lcmp X2.here hx rfl (hb hby at_121) rfl w_k) ?_
            show Gd _ _ _ _ (T2.setTop (mkF m 122 #[.val (.long a), .second, .val (.long b), .second, .val (.int c), .val (.long d), .second, .val (.long f), .second, .val (.int g), .val (.int (own_bef a b c d f g)), .val (.int (own_bef d f g a b c)), .val (.int (0 : Int32))] [(.int (lcmpW b f))]))
            by_cases hc24 : b < f
            · refine Gd.go (fun _ w_k => XS.ifNo X2.here hx rfl (hb hby at_122) rfl ((if0 _ _).trans (tlt ((lw_lt _ _).mpr hc24)).2.1) w_k) ?_
              show Gd _ _ _ _ (T2.setTop (mkF m 125 #[.val (.long a), .second, .val (.long b), .second, .val (.int c), .val (.long d), .second, .val (.long f), .second, .val (.int g), .val (.int (own_bef a b c d f g)), .val (.int (own_bef d f g a b c)), .val (.int (0 : Int32))] []))
              refine Gd.go (fun _ w_k => XS.iload X2.here hx rfl (hb hby at_125) rfl w_k) ?_
              show Gd _ _ _ _ (T2.setTop (mkF m 127 #[.val (.long a), .second, .val (.long b), .second, .val (.int c), .val (.long d), .second, .val (.long f), .second, .val (.int g), .val (.int (own_bef a b c d f g)), .val (.int (own_bef d f g a b c)), .val (.int (0 : Int32))] [(.int (own_bef d f g a b c))]))
              refine own_retN (t := .boolean) X2 hx hret hlk (by simp) (hb hby at_127) ?_ (by decide) (by decide)
              refine ⟨?_, Fr.nil n0⟩
              have tt := own_tot a b c d f g
              generalize own_bef a b c d f g = u at *
              generalize own_bef d f g a b c = v at *
              rcases tt with ⟨rfl, rfl, tt⟩ | ⟨rfl, rfl, tt⟩ | ⟨rfl, rfl, tt⟩ <;> first | rfl | (exfalso; simp only [Int64.lt_iff_toInt_lt, Int32.lt_iff_toInt_lt, ← Int64.toInt_inj, ← Int32.toInt_inj, own_z0, own_z1, not_true_eq_false] at hc3 hc20 hc21 hc22 hc23 hc24 <;> omega)
            · refine Gd.go (fun _ w_k => XS.ifYes X2.here hx rfl (pc0 := 122) (pc' := 128) rfl (hb hby at_122) rfl ((if0 _ _).trans (flt (fun q => hc24 ((lw_lt _ _).mp q))).2.1) (by decide) (by decide) w_k) ?_
              show Gd _ _ _ _ (T2.setTop (mkF m 128 #[.val (.long a), .second, .val (.long b), .second, .val (.int c), .val (.long d), .second, .val (.long f), .second, .val (.int g), .val (.int (own_bef a b c d f g)), .val (.int (own_bef d f g a b c)), .val (.int (0 : Int32))] []))
              refine Gd.go (fun _ w_k => XS.iload X2.here hx rfl (hb hby at_128) rfl w_k) ?_
              show Gd _ _ _ _ (T2.setTop (mkF m 130 #[.val (.long a), .second, .val (.long b), .second, .val (.int c), .val (.long d), .second, .val (.long f), .second, .val (.int g), .val (.int (own_bef a b c d f g)), .val (.int (own_bef d f g a b c)), .val (.int (0 : Int32))] [(.int c)]))
              refine Gd.go (fun _ w_k => XS.iload X2.here hx rfl (hb hby at_130) rfl w_k) ?_
              show Gd _ _ _ _ (T2.setTop (mkF m 132 #[.val (.long a), .second, .val (.long b), .second, .val (.int c), .val (.long d), .second, .val (.long f), .second, .val (.int g), .val (.int (own_bef a b c d f g)), .val (.int (own_bef d f g a b c)), .val (.int (0 : Int32))] [(.int g), (.int c)]))
              by_cases hc25 : c < g
              · refine Gd.go (fun _ w_k => XS.icmpNo X2.here hx rfl (hb hby at_132) rfl (tlt hc25).2.1 w_k) ?_
                show Gd _ _ _ _ (T2.setTop (mkF m 135 #[.val (.long a), .second, .val (.long b), .second, .val (.int c), .val (.long d), .second, .val (.long f), .second, .val (.int g), .val (.int (own_bef a b c d f g)), .val (.int (own_bef d f g a b c)), .val (.int (0 : Int32))] []))
                refine Gd.go (fun _ w_k => XS.iload X2.here hx rfl (hb hby at_135) rfl w_k) ?_
                show Gd _ _ _ _ (T2.setTop (mkF m 137 #[.val (.long a), .second, .val (.long b), .second, .val (.int c), .val (.long d), .second, .val (.long f), .second, .val (.int g), .val (.int (own_bef a b c d f g)), .val (.int (own_bef d f g a b c)), .val (.int (0 : Int32))] [(.int (own_bef a b c d f g))]))
                refine own_retN (t := .boolean) X2 hx hret hlk (by simp) (hb hby at_137) ?_ (by decide) (by decide)
                refine ⟨?_, Fr.nil n0⟩
                have tt := own_tot a b c d f g
                generalize own_bef a b c d f g = u at *
                generalize own_bef d f g a b c = v at *
                rcases tt with ⟨rfl, rfl, tt⟩ | ⟨rfl, rfl, tt⟩ | ⟨rfl, rfl, tt⟩ <;> first | rfl | (exfalso; simp only [Int64.lt_iff_toInt_lt, Int32.lt_iff_toInt_lt, ← Int64.toInt_inj, ← Int32.toInt_inj, own_z0, own_z1, not_true_eq_false] at hc3 hc20 hc21 hc22 hc23 hc24 hc25 <;> omega)
              · refine Gd.go (fun _ w_k => XS.icmpYes X2.here hx rfl (pc0 := 132) (pc' := 138) rfl (hb hby at_132) rfl (flt hc25).2.1 (by decide) (by decide) w_k) ?_
                show Gd _ _ _ _ (T2.setTop (mkF m 138 #[.val (.long a), .second, .val (.long b), .second, .val (.int c), .val (.long d), .second, .val (.long f), .second, .val (.int g), .val (.int (own_bef a b c d f g)), .val (.int (own_bef d f g a b c)), .val (.int (0 : Int32))] []))
                refine Gd.go (fun _ w_k => XS.iload X2.here hx rfl (hb hby at_138) rfl w_k) ?_
                show Gd _ _ _ _ (T2.setTop (mkF m 140 #[.val (.long a), .second, .val (.long b), .second, .val (.int c), .val (.long d), .second, .val (.long f), .second, .val (.int g), .val (.int (own_bef a b c d f g)), .val (.int (own_bef d f g a b c)), .val (.int (0 : Int32))] [(.int (own_bef d f g a b c))]))
                refine own_retN (t := .boolean) X2 hx hret hlk (by simp) (hb hby at_140) ?_ (by decide) (by decide)
                refine ⟨?_, Fr.nil n0⟩
                have tt := own_tot a b c d f g
                generalize own_bef a b c d f g = u at *
                generalize own_bef d f g a b c = v at *
                rcases tt with ⟨rfl, rfl, tt⟩ | ⟨rfl, rfl, tt⟩ | ⟨rfl, rfl, tt⟩ <;> first | rfl | (exfalso; simp only [Int64.lt_iff_toInt_lt, Int32.lt_iff_toInt_lt, ← Int64.toInt_inj, ← Int32.toInt_inj, own_z0, own_z1, not_true_eq_false] at hc3 hc20 hc21 hc22 hc23 hc24 hc25 <;> omega)
set_option maxRecDepth 65536 in
set_option maxHeartbeats 40000000 in
theorem comes_1 {Post : Tables → Env → Array Value → State → Outcome → State → Prop} (hpost : ∀ tb e args s v u, (limb_1_1.after args s (.returned v) u = true ∧ limb_1_2.after args s (.returned v) u = true ∧ True) → FrameEnd s (.returned v) u (Jvm.fieldLocs frame_1_writes args s ++ Jvm.arrayLocs frame_1_arrays args s ++ Jvm.staticLocs frame_1_statics s) 0 0 → Post tb e args s (.returned v) u) :
    ArmFor flags0 classFile x code maxLocals ret World_1 tables_1 room_1 Calls_1 rest_1 Pre_1 Post := by
  intro l hfl _ _ p e ha hc hk s m args below hf hA hF happ hP
  obtain ⟨hcalls, hrest, hpre⟩ := hP
  obtain ⟨-, -, -, hnamed, -, -, -, hat⟩ := (Spec.applies_iff hf).mp happ
  obtain ⟨hg, hn⟩ := and_e (Cond.before_iff.mp (show (Jvm.Cond.and given_1 narrow_1).before args s = true from hpre))
  obtain ⟨h1, g0⟩ := and_e hg
  obtain ⟨k0, g1⟩ := and_e g0
  obtain ⟨k1, g2⟩ := and_e g1
  obtain ⟨k2, g3⟩ := and_e g2
  obtain ⟨k3, g4⟩ := and_e g3
  obtain ⟨k4, g5⟩ := and_e g4
  obtain ⟨w0, w1, w2, w3, w4, w5, rfl⟩ : ∃ w0 w1 w2 w3 w4 w5 : Value, args = #[w0, w1, w2, w3, w4, w5] := by
    have hs : args.size = 6 := by simpa [Cond.value, given_1] using h1
    obtain ⟨L⟩ := args
    match L, hs with
    | [w0, w1, w2, w3, w4, w5], _ => exact ⟨w0, w1, w2, w3, w4, w5, rfl⟩
  have hw := fun d (hd : d ∈ tables_1) => atoms_spec (ws := Jvm.Cond.code x code maxLocals ret :: tables_1) hat d (List.mem_cons_of_mem _ hd)
  have hfit : Fit s := fun {y c} hc i hi => by
    obtain ⟨ha, rfl⟩ := Array.getElem?_eq_some_iff.mp hc
    have q := List.all_eq_true.mp ((Array.all_eq_true_iff_forall_mem.mp hF) _ (Array.getElem_mem ha)) i (List.mem_range.mpr hi)
    simpa [Array.getElem?_eq_getElem hi] using q
  obtain ⟨i0, e0⟩ := isL_v k0
  obtain rfl : w0 = (.long i0) := Option.some.inj e0
  obtain ⟨i1, e1⟩ := isL_v k1
  obtain rfl : w1 = (.long i1) := Option.some.inj e1
  obtain ⟨i2, e2⟩ := is_v k2
  obtain rfl : w2 = (.int i2) := Option.some.inj e2
  obtain ⟨i3, e3⟩ := isL_v k3
  obtain rfl : w3 = (.long i3) := Option.some.inj e3
  obtain ⟨i4, e4⟩ := isL_v k4
  obtain rfl : w4 = (.long i4) := Option.some.inj e4
  obtain ⟨i5, e5⟩ := is_v g5
  obtain rfl : w5 = (.int i5) := Option.some.inj e5
  obtain ⟨n, o, h1, h2, h3, _, L, rfl, ⟨rfl, N⟩, hq⟩ := own_law l s _ hw i0 i1 i2 i3 i4 i5 s.heap s.heap.size p e ha hc hk s m _ below hf ((Spec.applies_iff_loose hf).mp happ).1 ⟨rfl, State.Warmed39.refl s, rfl⟩ trivial
  refine ⟨n, _, h1, h2, h3, hpost _ _ _ _ _ _ ⟨Cond.after_iff.mpr rfl, Cond.after_iff.mpr (eq_i res_at (Term.int_eval (1)) rfl), trivial⟩ ⟨hq.1, hq.2.1, (hq.2.2.sift fun y hy => Or.inr (N y hy)).mono (by decide) (by decide)⟩⟩
theorem main_1_1 : Claimed_1_1 := comes_1 fun _ _ _ _ _ _ h hF => ⟨h.1, hF⟩
theorem main_1_2 : Claimed_1_2 := comes_1 fun _ _ _ _ _ _ h hF => ⟨h.2.1, hF⟩
end Jvm.Pilot.@@N@@
namespace Jvm.Pilot.@@N@@
open Jvm Jvm.ClassFile Sem Op Lib Jvm.Free Jvm.Stand Jvm.Pilot.@@N@@.Jvm.D
/-! MADE BY PROGRAM (witnessworld.py) out of the Statement's table words and the real class files: 9 classes; the members and pool entries that the words name. The judged class is class 1, her method 1. -/
namespace start1
open Jvm.ClassFile
def u (s : String) : CpInfo := .utf8 (stringToUtf16 s)
/-- a pool by its gaps: so many unusable entries, then the entry; so many at the end -/
def gap : Nat → List CpInfo → List CpInfo
  | 0, r => r
  | n + 1, r => .unusable :: gap n r
def poolList (es : List (Nat × CpInfo)) (last : Nat) : List CpInfo := es.foldr (fun e r => gap e.1 (e.2 :: r)) (gap last [])
def pool (es : List (Nat × CpInfo)) (last : Nat) : Array CpInfo := ⟨poolList es last⟩
def fileOf (pool : Array CpInfo) (this : Nat) (attrs : Array Attribute := #[]) (ms : Array MethodInfo := #[]) (fl : Nat := 33) (sup : Nat := 0) (ifs : Array Nat := #[]) (fds : Array FieldInfo := #[]) : ClassFile where
  minorVersion := 0
  majorVersion := 65
  constantPool := pool
  accessFlags := fl
  thisClass := this
  superClass := sup
  interfaces := ifs
  fields := fds
  methods := ms
  attributes := attrs
def plain (name : String) (sup : Option ClassId) : Class where
  name := name
  kind := .ordinary
  loader := none
  accessFlags := 33
  super := sup
  interfaces := #[]
  cf := none
  fields := #[]
  methods := #[]
  instanceTypes := #[]
  staticTypes := #[]
  resolved := #[]
  callSites := []
  init := .initialized
  statics := none
  mirror := none

def pool0 : Array CpInfo := pool [(5, u "<init>"), (0, u "()V"), (1, .class_ 10), (1, u "java/lang/Object")] 113

def k0m0 : Method := { name := "<init>", desc := "()V", sig := { parameters := [], returnType := none }, accessFlags := 1, code := none }
/-- java/lang/Object -/
def k0 : Class := { plain "java/lang/Object" none with
  accessFlags := 33
  interfaces := #[]
  cf := some (fileOf pool0 8 #[] #[{ accessFlags := 1, nameIndex := 5, descriptorIndex := 6, attributes := #[] }] 33 0 #[] #[])
  fields := #[]
  methods := #[k0m0]
  instanceTypes := #[]
  staticTypes := #[]
  resolved := Array.replicate 124 none
  statics := none }

def pool1 : Array CpInfo := pool [(2, .class_ 4), (1, u "java/lang/Object"), (0, u "<init>"), (0, u "()V"), (0, .methodref 8 9), (0, .class_ 10), (0, .nameAndType 11 12), (0, u "com/example/nearfield/nearfield/job/ReadQueue"), (0, u "before"), (0, u "(JJIJJI)Z"), (0, .class_ 14), (0, u "com/example/nearfield/nearfield/job/ReadQueueBeforePinLaw"), (2, u "law")] 3

def k1m0 : Method := { name := "<init>", desc := "()V", sig := { parameters := [], returnType := none }, accessFlags := 1, code := none }
def k1c1 : Code := { maxStack := 10, maxLocals := 13, code := code, exceptionTable := #[], attributes := #[] }
def k1m1 : Method := { name := "law", desc := "(JJIJJI)Z", sig := { parameters := [.long, .long, .int, .long, .long, .int], returnType := some .boolean }, accessFlags := 9, code := some k1c1 }
/-- com/example/nearfield/nearfield/job/ReadQueueBeforePinLaw -/
def k1 : Class := { plain "com/example/nearfield/nearfield/job/ReadQueueBeforePinLaw" (some 0) with
  accessFlags := 49
  interfaces := #[]
  cf := some (fileOf pool1 13 #[] #[{ accessFlags := 1, nameIndex := 5, descriptorIndex := 6, attributes := #[] }, { accessFlags := 9, nameIndex := 17, descriptorIndex := 12, attributes := #[] }] 49 2 #[] #[])
  fields := #[]
  methods := #[k1m0, k1m1]
  instanceTypes := #[]
  staticTypes := #[]
  resolved := Array.replicate 21 none
  statics := none }

def pool2 : Array CpInfo := pool [(2, .class_ 4), (1, u "java/lang/Object"), (9, .class_ 16), (1, u "com/example/nearfield/nearfield/job/ReadQueue"), (0, u "spend"), (0, u "[J"), (2, u "free"), (2, u "server"), (0, u "[I"), (2, u "size"), (0, u "I"), (6, u "before"), (27, u "polledSpend"), (0, u "J"), (2, u "polledFree"), (2, u "polledServer"), (2, u "(JJIJJI)Z"), (0, u "ORDERED_AT_ONCE")] 18

def k2c0 : Code := { maxStack := 4, maxLocals := 10, code := prog_100_method_18_code, exceptionTable := #[], attributes := #[] }
def k2m0 : Method := { name := "before", desc := "(JJIJJI)Z", sig := { parameters := [.long, .long, .int, .long, .long, .int], returnType := some .boolean }, accessFlags := 8, code := some k2c0 }
/-- com/example/nearfield/nearfield/job/ReadQueue -/
def k2 : Class := { plain "com/example/nearfield/nearfield/job/ReadQueue" (some 0) with
  accessFlags := 48
  interfaces := #[]
  cf := some (fileOf pool2 14 #[] #[{ accessFlags := 8, nameIndex := 36, descriptorIndex := 74, attributes := #[] }] 48 2 #[] #[{ accessFlags := 26, nameIndex := 75, descriptorIndex := 29, attributes := #[] }, { accessFlags := 2, nameIndex := 17, descriptorIndex := 18, attributes := #[] }, { accessFlags := 2, nameIndex := 21, descriptorIndex := 18, attributes := #[] }, { accessFlags := 2, nameIndex := 24, descriptorIndex := 25, attributes := #[] }, { accessFlags := 2, nameIndex := 28, descriptorIndex := 29, attributes := #[] }, { accessFlags := 2, nameIndex := 64, descriptorIndex := 65, attributes := #[] }, { accessFlags := 2, nameIndex := 68, descriptorIndex := 65, attributes := #[] }, { accessFlags := 2, nameIndex := 71, descriptorIndex := 29, attributes := #[] }])
  fields := #[{ name := "ORDERED_AT_ONCE", type := .int, accessFlags := 26, slot := 0, constantValue := 0 }, { name := "spend", type := (.array .long), accessFlags := 2, slot := 0, constantValue := 0 }, { name := "free", type := (.array .long), accessFlags := 2, slot := 1, constantValue := 0 }, { name := "server", type := (.array .int), accessFlags := 2, slot := 2, constantValue := 0 }, { name := "size", type := .int, accessFlags := 2, slot := 3, constantValue := 0 }, { name := "polledSpend", type := .long, accessFlags := 2, slot := 4, constantValue := 0 }, { name := "polledFree", type := .long, accessFlags := 2, slot := 5, constantValue := 0 }, { name := "polledServer", type := .int, accessFlags := 2, slot := 6, constantValue := 0 }]
  methods := #[k2m0]
  instanceTypes := #[(.array .long), (.array .long), (.array .int), .int, .long, .long, .int]
  staticTypes := #[.int]
  resolved := Array.replicate 94 none
  statics := none }

def pool3 : Array CpInfo := pool [(1, u "java/lang/Cloneable"), (0, .class_ 1), (0, u "java/lang/Object"), (0, .class_ 3)] 3

/-- java/lang/Cloneable -/
def k3 : Class := { plain "java/lang/Cloneable" (some 0) with
  accessFlags := 1537
  interfaces := #[]
  cf := some (fileOf pool3 2 #[] #[] 1537 4 #[] #[])
  fields := #[]
  methods := #[]
  instanceTypes := #[]
  staticTypes := #[]
  resolved := Array.replicate 8 none
  statics := none }

def pool4 : Array CpInfo := pool [(1, u "java/io/Serializable"), (0, .class_ 1), (0, u "java/lang/Object"), (0, .class_ 3)] 3

/-- java/io/Serializable -/
def k4 : Class := { plain "java/io/Serializable" (some 0) with
  accessFlags := 1537
  interfaces := #[]
  cf := some (fileOf pool4 2 #[] #[] 1537 4 #[] #[])
  fields := #[]
  methods := #[]
  instanceTypes := #[]
  staticTypes := #[]
  resolved := Array.replicate 8 none
  statics := none }

/-- the primitive byte -/
def k5 : Class := { plain "byte" none with kind := .primitive 'B', accessFlags := 0x411 }
/-- [B -/
def k6 : Class := { plain "[B" (some 0) with kind := .array 5 .byte, interfaces := #[3, 4], accessFlags := 1041 }

/-- the primitive int -/
def k7 : Class := { plain "int" none with kind := .primitive 'I', accessFlags := 0x411 }
/-- [I -/
def k8 : Class := { plain "[I" (some 0) with kind := .array 7 .int, interfaces := #[3, 4], accessFlags := 1041 }

def heap : Heap := #[]
def classes : Array Class := #[k0, k1, k2, k3, k4, k5, k6, k7, k8]
def interned : List (Array UInt16 × Addr) := []
def slotsUsed : Nat := 0
def theMethod : MethodId := ⟨1, 1⟩
def args0 : Array Value := #[.long 3, .long 1, .int 0, .long 0, .long 3, .int 3]
def aboutOver (below : List Frame) : State where
  vm := { classes := classes, interned := interned.toArray }
  heap := heap
  slotsUsed := slotsUsed
  threads := #[{ frames := .invoking theMethod args0 :: below }]
def below0 : List Frame := [.native { method := ⟨0, 0⟩, args := #[] }]
def about1 : State := aboutOver below0
def p0 : Program := .bare "" "" ""
def e0 : Env := launch0.env 0 0 0
theorem w_frames : about1.frames = Frame.invoking theMethod args0 :: below0 := rfl
set_option maxRecDepth 65536 in
theorem w_args : argsFit about1.vm theMethod args0 = true := by decide +kernel
set_option maxRecDepth 65536 in
theorem w_heap : heapFits about1 = true := by decide +kernel
set_option maxRecDepth 65536 in
theorem w_runnable : about1.curStatus? = some .runnable := by decide +kernel
set_option maxRecDepth 65536 in
theorem w_alone : about1.alone = true := by decide +kernel
set_option maxRecDepth 65536 in
theorem w_named : about1.methodNamed? x = some theMethod := by decide +kernel
set_option maxRecDepth 65536 in
theorem w_hears : about1.hears theMethod below0 = true := by decide +kernel
set_option maxRecDepth 65536 in
theorem w_ripe : about1.ripe theMethod args0 below0 = true := by decide +kernel
theorem w_running : about1.status = .running := rfl
set_option maxRecDepth 65536 in
theorem w_room : about1.hasRoom e0.platform room_1 = true :=
  launch0.hasRoom_least _ room_1 (by decide +kernel) (by decide +kernel) (by decide +kernel) (by decide +kernel) (by decide +kernel) (by decide +kernel)
theorem allAtoms_all (ts : List Jvm.Cond) (a : Array Jvm.Value) (st : Jvm.State) : (allAtoms ts).before a st = ts.all (fun c => c.before a st) := by
  induction ts with
  | nil => rfl
  | cons c t ih =>
    show (Jvm.Cond.and c (allAtoms t)).before a st = _
    rw [Jvm.Cond.before_and, ih, List.all_cons]
def words1 : List Jvm.Cond := Jvm.Cond.code x code maxLocals ret :: tables_1
/-- a 'code' word, met by the world's own term for the bytes: nothing is compared byte by byte -/
theorem code_word {y : MethodName} {bytes : ByteArray} {mx : Nat} {rt : Option FieldType} {a : Array Value} {s : State} {m : MethodId} {meth : Method} {c : Code} (h1 : s.methodNamed? y = some m) (h2 : s.vm.method? m = some meth) (h3 : meth.code = some c) (h4 : c.code = bytes)
    (h5 : (c.maxLocals == mx && c.exceptionTable.isEmpty && decide (c.maxStack ≤ mostOperands) && decide (meth.sig.returnType = rt) && !meth.locks && decide (parseMethodDescriptor y.desc = some meth.sig)) = true) : (Jvm.Cond.code y bytes mx rt).before a s = true := by
  simp only [Bool.and_eq_true, beq_iff_eq, Bool.not_eq_true', decide_eq_true_eq] at h5
  obtain ⟨⟨⟨⟨⟨g1, g2⟩, g3⟩, g4⟩, g5⟩, g6⟩ := h5
  simp [Cond.before, Cond.holds, Cond.value, h1, h2, h3, h4, g1, g2, g3, g4, g5, g6]
def isCode : Jvm.Cond → Bool
  | .code _ _ _ _ => true
  | _ => false
theorem all_split {L : List Jvm.Cond} {P : Jvm.Cond → Bool} (h1 : L.all (fun c => isCode c || P c) = true) (h2 : ∀ c ∈ L.filter isCode, P c = true) : L.all P = true := by
  refine List.all_eq_true.mpr fun c hc => ?_
  have h := List.all_eq_true.mp h1 c hc
  rcases Bool.eq_false_or_eq_true (isCode c) with hi | hi
  · exact h2 c (List.mem_filter.mpr ⟨hc, hi⟩)
  · simpa [hi] using h
set_option maxRecDepth 65536 in
theorem w_c0 : (Jvm.Cond.code x code maxLocals ret).before args0 about1 = true := code_word (m := ⟨1, 1⟩) (meth := k1m1) (c := k1c1) (by decide +kernel) rfl rfl rfl (by decide +kernel)
set_option maxRecDepth 65536 in
theorem w_c1 : (Jvm.Cond.code ({ cls := "com/example/nearfield/nearfield/job/ReadQueue", name := "before", desc := "(JJIJJI)Z" } : Jvm.MethodName) prog_100_method_18_code (10 : Nat) (Option.some Jvm.ClassFile.FieldType.boolean)).before args0 about1 = true := code_word (m := ⟨2, 0⟩) (meth := k2m0) (c := k2c0) (by decide +kernel) rfl rfl rfl (by decide +kernel)
def codes1 : List Jvm.Cond := [Jvm.Cond.code x code maxLocals ret, Jvm.Cond.code ({ cls := "com/example/nearfield/nearfield/job/ReadQueue", name := "before", desc := "(JJIJJI)Z" } : Jvm.MethodName) prog_100_method_18_code (10 : Nat) (Option.some Jvm.ClassFile.FieldType.boolean)]
set_option maxRecDepth 65536 in
theorem codes_eq : words1.filter isCode = codes1 := rfl
theorem w_codes : ∀ c ∈ words1.filter isCode, c.before args0 about1 = true := by
  rw [codes_eq]
  intro c hc
  simp only [codes1, List.mem_cons, List.not_mem_nil, or_false] at hc
  rcases hc with rfl | rfl
  · exact w_c0
  · exact w_c1
set_option maxRecDepth 65536 in
theorem w_t1 : words1.all (fun c => isCode c || c.before args0 about1) = true := by decide +kernel
theorem w_tables : (allAtoms (Jvm.Cond.code x code maxLocals ret :: tables_1)).before args0 about1 = true := by
  rw [allAtoms_all]
  show words1.all (fun c => c.before args0 about1) = true
  refine all_split ?_ w_codes
  rw [w_t1]
set_option maxRecDepth 65536 in
theorem w_case : (Jvm.Cond.and given_1 narrow_1).before args0 about1 = true := by decide +kernel
theorem w_applies : (headSpec (Jvm.Cond.code x code maxLocals ret :: tables_1) room_1).applies x e0.platform about1 = true :=
  (Spec.applies_iff w_frames).mpr ⟨w_running, w_runnable, w_alone, w_named, w_hears, w_ripe, w_room, w_tables⟩
theorem atStart : AtStart classFile x code maxLocals ret World_1 tables_1 room_1 Calls_1 rest_1 Pre_1 launch0 p0 e0 about1 theMethod args0 below0 :=
  ⟨lists_1, trivial, launch0.admits_env _ _ _, launch0.least_env, fairChoices_fair.cas, fairChoices_fair.clock, w_frames, w_args, w_heap, w_applies, trivial, trivial, w_case⟩
end start1
theorem witness_1 : WitnessClaimed_1 := ⟨start1.p0, start1.e0, start1.about1, start1.theMethod, start1.args0, start1.below0, start1.atStart⟩
end Jvm.Pilot.@@N@@
