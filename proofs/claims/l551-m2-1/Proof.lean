import JvmDerived
import JvmDerived.Pilot.@@N@@Statement
import JvmDerived.Pilot.@@N@@Code
set_option linter.unusedVariables false
set_option linter.unusedSimpArgs false
namespace Jvm.Pilot.@@N@@
open Jvm Jvm.ClassFile Sem Op Lib Jvm.Free Jvm.Stand Jvm.LawKit Jvm.RoadKit Bundle Jvm.Pilot.@@N@@.Jvm.D
section OwnKit
variable {p : Program} {l : Launch} {e : Env} {R : Room} {s : State} {m : MethodId} {args : Array Value} {below : List Frame} {meth : Method} {c : Code} {T : State} {locs : List Loc} {cells slots : Nat} {Z : State} {a0 : Array Value} {h : Heap}
/-- from S the body comes to its end, and P holds of it -/
def Gd (tb : Tables) (e : Env) (below : List Frame) (P : Outcome → State → Prop) (S : State) : Prop := ∃ s₂ o, Steps tb e below S s₂ ∧ s₂.status = .running ∧ Ended s₂ below o ∧ P o s₂
theorem Gd.go {tb : Tables} {e : Env} {below : List Frame} {P : Outcome → State → Prop} {S S' : State} (h : ∀ t, Steps tb e below S' t → Steps tb e below S t) (k : Gd tb e below P S') : Gd tb e below P S := by
  obtain ⟨s₂, o, h1, h2⟩ := k
  exact ⟨s₂, o, h _ h1, h2⟩
theorem Gd.via {tb : Tables} {e : Env} {below : List Frame} {P : Outcome → State → Prop} {S S' : State} (h : Gd tb e below P S' → Gd tb e below P S) (k : Gd tb e below P S') : Gd tb e below P S := h k
theorem Gd.viaA {α : Type} {A : α → Prop} {tb : Tables} {e : Env} {below : List Frame} {P : Outcome → State → Prop} {S : State} {S' : α → State} (h : (∀ z, A z → Gd tb e below P (S' z)) → Gd tb e below P S) (k : ∀ z, A z → Gd tb e below P (S' z)) : Gd tb e below P S := h k
/-- a body's contract: called with these arguments over this heap it returns, Q holds, and so many cells and slots at most are new -/
def Con (l : Launch) (Z : State) (y : MethodName) (bytes : ByteArray) (maxL : Nat) (ret : Option FieldType) (ws : List Jvm.Cond) (rm : Room) (kc ks : Nat) (as' : Array Value) (h : Heap) (Q : Option Value → Heap → List Loc → Prop) : Prop :=
  MetFree l y (head1 (Jvm.Cond.code y bytes maxL ret :: ws) rm) (fun a U => a = as' ∧ Z.Warmed39 U.vm ∧ U.heap = h) (fun _ _ _ _ _ => True) (fun _ U o U' => ∃ v L, o = .returned v ∧ Q v U'.heap L ∧ FrameEnd U o U' L kc ks)
/-- what a body's walk owes -/
abbrev Owes (s : State) (kc ks : Nat) (Q : Option Value → Heap → List Loc → Prop) : Outcome → State → Prop := fun o U' => ∃ v L, o = .returned v ∧ Q v U'.heap L ∧ FrameEnd s o U' L kc ks
theorem Con.of {y : MethodName} {bytes : ByteArray} {maxL : Nat} {ret : Option FieldType} {ws : List Jvm.Cond} {rm : Room} {kc ks : Nat} {as' : Array Value} {Q : Option Value → Heap → List Loc → Prop} (hpn : plainFor y = true)
    (body : ∀ (p : Program) (e : Env) (s : State) (m : MethodId) (below : List Frame) (meth : Method) (c : Code) (s₁ : State), p.tables.exec = Jvm.exec → c.code = bytes → c.maxLocals = maxL → s.vm.findClass y.cls = some m.cls → meth.name = y.name → meth.sig.returnType = ret → meth.locks = false → Z.Warmed39 s.vm →
      Stand p l e rm s m as' below meth c s₁ [] 0 0 → s₁.heap = h → Gd p.tables e below (Owes s kc ks Q) (s₁.setTop (entryFrame m as' maxL))) : Con l Z y bytes maxL ret ws rm kc ks as' h Q := by
  refine MetFree.of_bodySF hpn hisR ?_
  intro p e s m args below meth c s₁ Bd hml0 hP hK
  obtain ⟨rfl, hZ, hh⟩ := hP
  exact body p e s m below meth c s₁ Bd.exec Bd.bytes hml0 (findClass_of_methodNamed Bd.named) (name_of_methodNamed Bd.named Bd.method).1 Bd.returns Bd.notSynchronized hZ (Stand.of_body Bd) (by rw [← hh, Bd.state]; rfl)
theorem own_retI (X : Stand p l e R s m args below meth c T locs cells slots) (hx : p.tables.exec = Jvm.exec) {pc : Nat} {Ls : Array Slot} {z : Int32} {rest : List Value} (hret : meth.sig.returnType = some .int) (hlk : meth.locks = false) (hd : decode c.code pc = .ok (.ireturn, 1)) {Q : Option Value → Heap → List Loc → Prop} {kc ks : Nat} (hq : Q (some (.int z)) T.heap locs) (hc : cells ≤ kc) (hs : slots ≤ ks) :
    Gd p.tables e below (Owes s kc ks Q) (T.setTop (mkF m pc Ls (.int z :: rest))) := by
  obtain ⟨fs, hr, hrun, hended, hW, hsame⟩ := X.leave (v := some (.int z)) (fun h => by rw [hret] at h; cases h) hlk
  have hm' : T.vm.method? m = some meth := X.method'
  have hn : narrow .int (.int z) = .int z := rfl
  refine ⟨_, _, ?_, hrun, hended, _, _, rfl, hq, ⟨_, rfl⟩, hW, hsame.mono hc hs⟩
  show Steps p.tables e below (T.setTop { method := m, pc := pc, locals := Ls, stack := _ :: rest, locked := none }) _
  jvm_step X.here [X.here.top, hx, hd, hm', hret, hn]
  first | (intro acts; rw [hr _ acts rfl rfl rfl]) | rw [hr _ _ rfl rfl rfl]
  exact Steps.refl _
theorem own_retN (X : Stand p l e R s m args below meth c T locs cells slots) (hx : p.tables.exec = Jvm.exec) {pc : Nat} {Ls : Array Slot} {z : Int32} {rest : List Value} {t : FieldType} (hret : meth.sig.returnType = some t) (hlk : meth.locks = false) (ht : t = .boolean ∨ t = .byte ∨ t = .char ∨ t = .short) (hd : decode c.code pc = .ok (.ireturn, 1)) {Q : Option Value → Heap → List Loc → Prop} {kc ks : Nat} (hq : Q (some (.int (nar t z))) T.heap locs) (hc : cells ≤ kc) (hs : slots ≤ ks) :
    Gd p.tables e below (Owes s kc ks Q) (T.setTop (mkF m pc Ls (.int z :: rest))) := by
  obtain ⟨fs, hr, hrun, hended, hW, hsame⟩ := X.leave (v := some (.int (nar t z))) (fun h => by rw [hret] at h; cases h) hlk
  exact ⟨_, _, retN X hx hret ht hd hr, hrun, hended, _, _, rfl, hq, ⟨_, rfl⟩, hW, hsame.mono hc hs⟩
theorem own_retV (X : Stand p l e R s m args below meth c T locs cells slots) (hx : p.tables.exec = Jvm.exec) {pc : Nat} {Ls : Array Slot} (hret : meth.sig.returnType = none) (hlk : meth.locks = false) (hd : decode c.code pc = .ok (.return_, 1)) {Q : Option Value → Heap → List Loc → Prop} {kc ks : Nat} (hq : Q none T.heap locs) (hc : cells ≤ kc) (hs : slots ≤ ks) :
    Gd p.tables e below (Owes s kc ks Q) (T.setTop (mkF m pc Ls [])) := by
  obtain ⟨fs, hr, hrun, hended, hW, hsame⟩ := X.leave (v := none) (fun _ => rfl) hlk
  exact ⟨_, _, X.returnOut hx hret hd hr, hrun, hended, _, _, rfl, hq, ⟨_, rfl⟩, hW, hsame.mono hc hs⟩
theorem own_retL (X : Stand p l e R s m args below meth c T locs cells slots) (hx : p.tables.exec = Jvm.exec) {pc : Nat} {Ls : Array Slot} {z : Int64} {rest : List Value} (hret : meth.sig.returnType = some .long) (hlk : meth.locks = false) (hd : decode c.code pc = .ok (.lreturn, 1)) {Q : Option Value → Heap → List Loc → Prop} {kc ks : Nat} (hq : Q (some (.long z)) T.heap locs) (hc : cells ≤ kc) (hs : slots ≤ ks) :
    Gd p.tables e below (Owes s kc ks Q) (T.setTop (mkF m pc Ls (.long z :: rest))) := by
  obtain ⟨fs, hr, hrun, hended, hW, hsame⟩ := X.leave (v := some (.long z)) (fun h => by rw [hret] at h; cases h) hlk
  have hm' : T.vm.method? m = some meth := X.method'
  refine ⟨_, _, ?_, hrun, hended, _, _, rfl, hq, ⟨_, rfl⟩, hW, hsame.mono hc hs⟩
  show Steps p.tables e below (T.setTop { method := m, pc := pc, locals := Ls, stack := _ :: rest, locked := none }) _
  jvm_step X.here [X.here.top, hx, hd, hm', hret, narrow]
  first | (intro acts; rw [hr _ acts rfl rfl rfl]) | rw [hr _ _ rfl rfl rfl]
  exact Steps.refl _
theorem own_retA (X : Stand p l e R s m args below meth c T locs cells slots) (hx : p.tables.exec = Jvm.exec) {pc : Nat} {Ls : Array Slot} {a : Addr} {rest : List Value} {t : FieldType} (hret : meth.sig.returnType = some t) (hlk : meth.locks = false) (ht : t.isReference = true) (hd : decode c.code pc = .ok (.areturn, 1)) {Q : Option Value → Heap → List Loc → Prop} {kc ks : Nat} (hq : Q (some (.ref a)) T.heap locs) (hc : cells ≤ kc) (hs : slots ≤ ks) :
    Gd p.tables e below (Owes s kc ks Q) (T.setTop (mkF m pc Ls (.ref a :: rest))) := by
  obtain ⟨fs, hr, hrun, hended, hW, hsame⟩ := X.leave (v := some (.ref a)) (fun h => by rw [hret] at h; cases h) hlk
  have hm' : T.vm.method? m = some meth := X.method'
  refine ⟨_, _, ?_, hrun, hended, _, _, rfl, hq, ⟨_, rfl⟩, hW, hsame.mono hc hs⟩
  show Steps p.tables e below (T.setTop { method := m, pc := pc, locals := Ls, stack := _ :: rest, locked := none }) _
  jvm_step X.here [X.here.top, hx, hd, hm', hret, ht, Value.isRef]
  first | (intro acts; rw [hr _ acts rfl rfl rfl]) | rw [hr _ _ rfl rfl rfl]
  exact Steps.refl _
/-- a static call by its contract -/
theorem own_callS (X : Stand p l e R s m args below meth c T locs cells slots) (hx : p.tables.exec = Jvm.exec) (hZ : Z.Warmed39 s.vm) {own : String} {index : Nat} {y : MethodName} {bytes : ByteArray} {maxL : Nat} {ret : Option FieldType} (hown : s.vm.findClass own = some m.cls)
    (w1 : (Jvm.Cond.methodLink own index y).before a0 Z = true) (w2 : (Jvm.Cond.static y).before a0 Z = true) (w3 : (Jvm.Cond.initialized y.cls).before a0 Z = true) (w4 : (Jvm.Cond.code y bytes maxL ret).before a0 Z = true) (hy : y.cls ≠ "java/lang/invoke/MethodHandle" ∧ y.cls ≠ "java/lang/invoke/VarHandle")
    {rm : Room} {as' : Array Value} {Q : Option Value → Heap → List Loc → Prop} {W kc ks : Nat} (hM : Con l Z y bytes maxL ret [] rm kc ks as' h Q) (hkc : rm.cells = kc) (hks : rm.slots = ks) (eT : T.heap = h) (hf : rm.frames + 1 ≤ R.frames) (hl : W + (maxL + 11) + rm.locals ≤ R.locals)
    {g : JFrame} (hg : g.method = m) (hsize : g.locals.size = c.maxLocals) {argsL rest : List Value} (hlen : ∀ sig, parseMethodDescriptor y.desc = some sig → argsL.length = sig.parameters.length) (hstack : g.stack = argsL.reverse ++ rest) (hW : 2 * g.monitorRoom + (rest.map fun v => v.category).sum ≤ W)
    (hdg : decode c.code g.pc = .ok (.invokestatic index, 3)) (has : argsL.toArray = as') (hc : cells + kc ≤ R.cells) (hs : slots + ks ≤ R.slots) :
    ∃ v T' L, Stand p l e R s m args below meth c T' (locs ++ L) (cells + kc) (slots + ks) ∧ Q v T'.heap L ∧ ∀ target, Steps p.tables e below (T'.setTop { g with pc := g.pc + 3, stack := v.toList ++ rest }) target → Steps p.tables e below (T.setTop g) target := by
  subst hkc hks
  obtain ⟨v, vm₁, ⟨T', L', c', s'⟩, -, X', ⟨L, hq, l1, l2, l3⟩, st⟩ := Jvm.LawKit.callS X hx (y := y) hown (mvT hZ w1) (mvT hZ w2) (mvT hZ w3) (mvT hZ w4) hy (backOf (W := W) hM hZ w4 w3 hf hl) hg hsize (argsL := argsL) (rest := rest) hlen hstack hW hdg (fun _ _ => ⟨has, eT, hc, hs⟩)
  dsimp only [Pt.U, Pt.locs, Pt.cells, Pt.slots] at X' l1 l2 l3 st hq
  subst l1 l2 l3
  exact ⟨v, T', L, X', hq, st⟩
/-- a static call that writes and makes nothing -/
theorem own_callSP (X : Stand p l e R s m args below meth c T locs cells slots) (hx : p.tables.exec = Jvm.exec) (hZ : Z.Warmed39 s.vm) {own : String} {index : Nat} {y : MethodName} {bytes : ByteArray} {maxL : Nat} {ret : Option FieldType} (hown : s.vm.findClass own = some m.cls)
    (w1 : (Jvm.Cond.methodLink own index y).before a0 Z = true) (w2 : (Jvm.Cond.static y).before a0 Z = true) (w3 : (Jvm.Cond.initialized y.cls).before a0 Z = true) (w4 : (Jvm.Cond.code y bytes maxL ret).before a0 Z = true) (hy : y.cls ≠ "java/lang/invoke/MethodHandle" ∧ y.cls ≠ "java/lang/invoke/VarHandle")
    {rm : Room} {as' : Array Value} {v : Option Value} {W : Nat} (hM : Con l Z y bytes maxL ret [] rm 0 0 as' h (fun v' h' L => v' = v ∧ h' = h ∧ L = [])) (hkc : rm.cells = 0) (hks : rm.slots = 0) (eT : T.heap = h) (hf : rm.frames + 1 ≤ R.frames) (hl : W + (maxL + 11) + rm.locals ≤ R.locals)
    {g : JFrame} (hg : g.method = m) (hsize : g.locals.size = c.maxLocals) {argsL rest : List Value} (hlen : ∀ sig, parseMethodDescriptor y.desc = some sig → argsL.length = sig.parameters.length) (hstack : g.stack = argsL.reverse ++ rest) (hW : 2 * g.monitorRoom + (rest.map fun v => v.category).sum ≤ W)
    (hdg : decode c.code g.pc = .ok (.invokestatic index, 3)) (has : argsL.toArray = as') (hc : cells ≤ R.cells := by decide) (hs : slots ≤ R.slots := by decide) :
    ∃ T', Stand p l e R s m args below meth c T' locs cells slots ∧ T'.heap = h ∧ ∀ target, Steps p.tables e below (T'.setTop { g with pc := g.pc + 3, stack := v.toList ++ rest }) target → Steps p.tables e below (T.setTop g) target := by
  obtain ⟨v', T', L, X', ⟨e1, e2, e3⟩, st⟩ := own_callS X hx hZ hown w1 w2 w3 w4 hy hM hkc hks eT hf hl hg hsize hlen hstack hW hdg has hc hs
  subst e1 e3
  rw [List.append_nil] at X'
  exact ⟨T', X', e2, st⟩
/-- an instance method by its contract, chosen by the receiver's class -/
theorem own_callV (X : Stand p l e R s m args below meth c T locs cells slots) (hx : p.tables.exec = Jvm.exec) (hZ : Z.Warmed39 s.vm) {own C : String} {index : Nat} {y : MethodName} {bytes : ByteArray} {maxL : Nat} {ret : Option FieldType} (hown : s.vm.findClass own = some m.cls)
    (w1 : (Jvm.Cond.methodLink own index y).before a0 Z = true) (w2 : (Jvm.Cond.declares y).before a0 Z = true) (w3 : (Jvm.Cond.selects C y y).before a0 Z = true) (w4 : (Jvm.Cond.instanceMethod y).before a0 Z = true) (w5 : (Jvm.Cond.initialized y.cls).before a0 Z = true) (w6 : (Jvm.Cond.code y bytes maxL ret).before a0 Z = true) (hy : y.cls ≠ "java/lang/invoke/MethodHandle" ∧ y.cls ≠ "java/lang/invoke/VarHandle")
    {b : Addr} (E : Exa Z h b C) {rm : Room} {as' : Array Value} {Q : Option Value → Heap → List Loc → Prop} {W kc ks : Nat} (hM : Con l Z y bytes maxL ret [] rm kc ks as' h Q) (hkc : rm.cells = kc) (hks : rm.slots = ks) (eT : T.heap = h) (hf : rm.frames + 1 ≤ R.frames) (hl : W + (maxL + 11) + rm.locals ≤ R.locals)
    {g : JFrame} (hg : g.method = m) (hsize : g.locals.size = c.maxLocals) {argsL rest : List Value} (hlen : ∀ sig, parseMethodDescriptor y.desc = some sig → argsL.length = sig.parameters.length) (hstack : g.stack = argsL.reverse ++ .ref b :: rest) (hW : 2 * g.monitorRoom + (rest.map fun v => v.category).sum ≤ W)
    (hdg : decode c.code g.pc = .ok (.invokevirtual index, 3)) (has : (.ref b :: argsL).toArray = as') (hc : cells + kc ≤ R.cells) (hs : slots + ks ≤ R.slots) :
    ∃ v T' L, Stand p l e R s m args below meth c T' (locs ++ L) (cells + kc) (slots + ks) ∧ Q v T'.heap L ∧ ∀ target, Steps p.tables e below (T'.setTop { g with pc := g.pc + 3, stack := v.toList ++ rest }) target → Steps p.tables e below (T.setTop g) target := by
  subst hkc hks
  obtain ⟨cq, kq, qa, qb, qc⟩ := isOf hZ eT E
  obtain ⟨v, vm₁, ⟨T', L', c', s'⟩, -, X', ⟨L, hq, l1, l2, l3⟩, st⟩ := X.virtualBack hx (y := y) (z := y) hown (mvT hZ w1) (mvT hZ w2) (notFace_of_selects (args := #[]) (mvT hZ w3)) (mvT hZ w3) (mvT hZ w4) hy (backOf (W := W) hM hZ w6 w5 hf hl) qa qc hg hsize (Steps.refl _) (argsL := argsL) (rest := rest) hlen hstack hW hdg (fun _ _ => ⟨has, eT, hc, hs⟩)
  dsimp only [Pt.U, Pt.locs, Pt.cells, Pt.slots] at X' l1 l2 l3 st hq
  subst l1 l2 l3
  exact ⟨v, T', L, X', hq, fun _ k => st.trans k⟩
/-- an instance method that writes and makes nothing -/
theorem own_callVP (X : Stand p l e R s m args below meth c T locs cells slots) (hx : p.tables.exec = Jvm.exec) (hZ : Z.Warmed39 s.vm) {own C : String} {index : Nat} {y : MethodName} {bytes : ByteArray} {maxL : Nat} {ret : Option FieldType} (hown : s.vm.findClass own = some m.cls)
    (w1 : (Jvm.Cond.methodLink own index y).before a0 Z = true) (w2 : (Jvm.Cond.declares y).before a0 Z = true) (w3 : (Jvm.Cond.selects C y y).before a0 Z = true) (w4 : (Jvm.Cond.instanceMethod y).before a0 Z = true) (w5 : (Jvm.Cond.initialized y.cls).before a0 Z = true) (w6 : (Jvm.Cond.code y bytes maxL ret).before a0 Z = true) (hy : y.cls ≠ "java/lang/invoke/MethodHandle" ∧ y.cls ≠ "java/lang/invoke/VarHandle")
    {b : Addr} (E : Exa Z h b C) {rm : Room} {as' : Array Value} {v : Option Value} {W : Nat} (hM : Con l Z y bytes maxL ret [] rm 0 0 as' h (fun v' h' L => v' = v ∧ h' = h ∧ L = [])) (hkc : rm.cells = 0) (hks : rm.slots = 0) (eT : T.heap = h) (hf : rm.frames + 1 ≤ R.frames) (hl : W + (maxL + 11) + rm.locals ≤ R.locals)
    {g : JFrame} (hg : g.method = m) (hsize : g.locals.size = c.maxLocals) {argsL rest : List Value} (hlen : ∀ sig, parseMethodDescriptor y.desc = some sig → argsL.length = sig.parameters.length) (hstack : g.stack = argsL.reverse ++ .ref b :: rest) (hW : 2 * g.monitorRoom + (rest.map fun v => v.category).sum ≤ W)
    (hdg : decode c.code g.pc = .ok (.invokevirtual index, 3)) (has : (.ref b :: argsL).toArray = as') (hc : cells ≤ R.cells := by decide) (hs : slots ≤ R.slots := by decide) :
    ∃ T', Stand p l e R s m args below meth c T' locs cells slots ∧ T'.heap = h ∧ ∀ target, Steps p.tables e below (T'.setTop { g with pc := g.pc + 3, stack := v.toList ++ rest }) target → Steps p.tables e below (T.setTop g) target := by
  obtain ⟨v', T', L, X', ⟨e1, e2, e3⟩, st⟩ := own_callV X hx hZ hown w1 w2 w3 w4 w5 w6 hy E hM hkc hks eT hf hl hg hsize hlen hstack hW hdg has hc hs
  subst e1 e3
  rw [List.append_nil] at X'
  exact ⟨T', X', e2, st⟩
/-- a constructor by its contract -/
theorem own_callI (X : Stand p l e R s m args below meth c T locs cells slots) (hx : p.tables.exec = Jvm.exec) (hZ : Z.Warmed39 s.vm) {own : String} {index : Nat} {y : MethodName} {bytes : ByteArray} {maxL : Nat} (hy1 : y.name = "<init>") (hown : s.vm.findClass own = some m.cls)
    (w1 : (Jvm.Cond.methodLink own index y).before a0 Z = true) (w4 : (Jvm.Cond.instanceMethod y).before a0 Z = true) (w5 : (Jvm.Cond.initialized y.cls).before a0 Z = true) (w6 : (Jvm.Cond.code y bytes maxL none).before a0 Z = true) (hy : y.cls ≠ "java/lang/invoke/MethodHandle" ∧ y.cls ≠ "java/lang/invoke/VarHandle")
    {b : Addr} {rm : Room} {as' : Array Value} {Q : Option Value → Heap → List Loc → Prop} {W kc ks : Nat} (hM : Con l Z y bytes maxL none [] rm kc ks as' h Q) (hkc : rm.cells = kc) (hks : rm.slots = ks) (eT : T.heap = h) (hf : rm.frames + 1 ≤ R.frames) (hl : W + (maxL + 11) + rm.locals ≤ R.locals)
    {g : JFrame} (hg : g.method = m) (hsize : g.locals.size = c.maxLocals) {argsL rest : List Value} (hlen : ∀ sig, parseMethodDescriptor y.desc = some sig → argsL.length = sig.parameters.length) (hstack : g.stack = argsL.reverse ++ .ref b :: rest) (hW : 2 * g.monitorRoom + (rest.map fun v => v.category).sum ≤ W)
    (hdg : decode c.code g.pc = .ok (.invokespecial index, 3)) (has : (.ref b :: argsL).toArray = as') (hc : cells + kc ≤ R.cells) (hs : slots + ks ≤ R.slots) :
    ∃ v T' L, Stand p l e R s m args below meth c T' (locs ++ L) (cells + kc) (slots + ks) ∧ Q v T'.heap L ∧ ∀ target, Steps p.tables e below (T'.setTop { g with pc := g.pc + 3, stack := v.toList ++ rest }) target → Steps p.tables e below (T.setTop g) target := by
  subst hkc hks
  obtain ⟨v, vm₁, ⟨T', L', c', s'⟩, -, X', ⟨L, hq, l1, l2, l3⟩, st⟩ := X.specialBack hx (y := y) hy1 hown (mvT hZ w1) (mvT hZ w4) (mvT hZ w6) hy (backOf (W := W) hM hZ w6 w5 hf hl) hg hsize (Steps.refl _) (a := b) (argsL := argsL) (rest := rest) hlen hstack hW hdg (fun _ _ => ⟨has, eT, hc, hs⟩)
  dsimp only [Pt.U, Pt.locs, Pt.cells, Pt.slots] at X' l1 l2 l3 st hq
  subst l1 l2 l3
  exact ⟨v, T', L, X', hq, fun _ k => st.trans k⟩
/-- an array as a function of its places -/
def ArF (Z : State) (h : Heap) (a : Addr) (ty : FieldType) (n : Nat) (f : Nat → Value) : Prop := ∃ c : Cell, Arr Z h a c ty ∧ c.slots.size = n ∧ n < 2 ^ 31 ∧ ∀ i, i < n → c.slots[i]? = some (f i)
def upd (f : Nat → Value) (j : Nat) (v : Value) : Nat → Value := fun i => if i = j then v else f i
theorem upd_at (f : Nat → Value) (j : Nat) (v : Value) : upd f j v j = v := if_pos rfl
theorem upd_ne (f : Nat → Value) {i j : Nat} (v : Value) (q : ¬ i = j) : upd f j v i = f i := if_neg q
theorem ArF.lt {h : Heap} {a : Addr} {ty : FieldType} {n : Nat} {f : Nat → Value} (F : ArF Z h a ty n f) : a < h.size := by obtain ⟨c, A, -⟩ := F; exact A.lt
theorem ArF.ext {h h' : Heap} {a : Addr} {ty : FieldType} {n : Nat} {f : Nat → Value} (F : ArF Z h a ty n f) (E : Ext h h') : ArF Z h' a ty n f := by obtain ⟨c, A, r⟩ := F; exact ⟨c, A.ext E, r⟩
theorem ArF.other {h h' : Heap} {a b : Addr} {ty : FieldType} {n : Nat} {f : Nat → Value} {sl : Nat} {v : Value} (F : ArF Z h b ty n f) (W : Wr h h' a sl v) (q : b ≠ a) : ArF Z h' b ty n f := by obtain ⟨c, A, r⟩ := F; exact ⟨c, A.other W q, r⟩
theorem ArF.keep {h h' : Heap} {a : Addr} {ty : FieldType} {n : Nat} {f : Nat → Value} {ws : List Addr} (F : ArF Z h a ty n f) (K : Keep h h' ws) (q : a ∉ ws) : ArF Z h' a ty n f := by obtain ⟨c, A, r⟩ := F; exact ⟨c, ⟨K.2.1 a c A.1 q, A.2⟩, r⟩
theorem ArF.set {h h' : Heap} {a : Addr} {ty : FieldType} {n : Nat} {f : Nat → Value} {j : Nat} {v : Value} (F : ArF Z h a ty n f) (W : Wr h h' a j v) : ArF Z h' a ty n (upd f j v) := by
  obtain ⟨c, A, r1, r2, r3⟩ := F
  refine ⟨_, A.same W, by rw [sz_set]; exact r1, r2, fun i hi => ?_⟩
  show (c.slots.setIfInBounds j v)[i]? = _
  rw [Array.getElem?_setIfInBounds]
  by_cases q : j = i
  · subst q; rw [if_pos rfl, if_pos (by omega), upd_at]
  · rw [if_neg q, upd_ne _ _ (fun w => q w.symm)]; exact r3 i hi
theorem ArF.congr {h : Heap} {a : Addr} {ty : FieldType} {n : Nat} {f g : Nat → Value} (F : ArF Z h a ty n f) (q : ∀ i, i < n → f i = g i) : ArF Z h a ty n g := by
  obtain ⟨c, A, r1, r2, r3⟩ := F
  exact ⟨c, A, r1, r2, fun i hi => by rw [← q i hi]; exact r3 i hi⟩
theorem ArF.n31 {h : Heap} {a : Addr} {ty : FieldType} {n : Nat} {f : Nat → Value} (F : ArF Z h a ty n f) : n < 2 ^ 31 := by obtain ⟨c, A, r1, r2, r3⟩ := F; exact r2
theorem own_ofN {n : Nat} (h : n < 2 ^ 31) : (Int32.ofNat n).toInt = n := Int32.toInt_ofNat_small h
theorem own_ofC {n : Nat} (h : n < 2 ^ 31) : (Int32.ofNat n).toNatClampNeg = n := by show (Int32.ofNat n).toInt.toNat = n; rw [own_ofN h]; rfl
theorem own_ltN {i n : Nat} (h : i < n) (hn : n < 2 ^ 31) : Int32.ofNat i < Int32.ofNat n := by rw [Int32.lt_iff_toInt_lt, own_ofN (by omega), own_ofN hn]; omega
theorem own_geN {i n : Nat} (h : ¬ i < n) (hn : i < 2 ^ 31) : ¬ Int32.ofNat i < Int32.ofNat n := by rw [Int32.lt_iff_toInt_lt, own_ofN hn, own_ofN (by omega)]; omega
theorem own_incN (i : Nat) : Int32.ofNat i + (1 : Int32) = Int32.ofNat (i + 1) := (Int32.ofNat_add i 1).symm
theorem own_nat {j : Int32} (h : 0 ≤ j.toInt) : (j.toNatClampNeg : Int) = j.toInt := Int.toNat_of_nonneg h
theorem own_natInj {i j : Int32} (hi : 0 ≤ i.toInt) (hj : 0 ≤ j.toInt) : i.toNatClampNeg = j.toNatClampNeg ↔ i = j := by
  constructor
  · intro q; have a := own_nat hi; have b := own_nat hj; exact Int32.toInt_inj.mp (by omega)
  · rintro rfl; rfl
theorem own_in {c : Cell} {n : Nat} {j : Int32} (S : c.slots.size = n) (h1 : 0 ≤ j.toInt) (h2 : j.toInt < n) : ¬ (j < 0 ∨ c.slots.size ≤ j.toNatClampNeg) := by
  have e : (j.toNatClampNeg : Int) = j.toInt := Int.toNat_of_nonneg h1
  rw [Int32.lt_iff_toInt_lt]
  have : (0 : Int32).toInt = 0 := rfl
  omega
theorem own_new {h h' : Heap} {k : ClassId} {ty : FieldType} {z : Int32} {a : Addr} (A : Arr Z h' a (newA k ty z) ty) (q : ¬ z < 0) : ArF Z h' a ty z.toNatClampNeg (fun _ => defaultValue ty) :=
  ⟨_, A, sz_new _ _ _, (back32 q).2, fun i hi => by simp [newA, hi]⟩
theorem own_ldI (X : Stand p l e R s m args below meth c T locs cells slots) (hx : p.tables.exec = Jvm.exec) (hZ : Z.Warmed39 s.vm) (eT : T.heap = h) {a : Addr} {n : Nat} {f : Nat → Value} (A : ArF Z h a .int n f) {j : Int32} (h1 : 0 ≤ j.toInt) (h2 : j.toInt < n) {v : Value} (hv : f j.toNatClampNeg = v)
    {g : JFrame} (hg : g.method = m) {rest : List Value} (hs : g.stack = .int j :: .ref a :: rest) (hd : decode c.code g.pc = .ok (.iaload, 1)) (target : State) (k : Steps p.tables e below (T.setTop { g with pc := g.pc + 1, stack := v :: rest }) target) : Steps p.tables e below (T.setTop g) target := by
  obtain ⟨cl, Ar, S, -, H⟩ := A
  exact X.iaload hx (j := j) (v := v) (by rw [eT]; exact Ar.1) (State.isArrayOf_alike hZ.alike Ar.2.1) Ar.2.2 (own_in S h1 h2) (by have e := Int.toNat_of_nonneg h1; rw [← hv]; exact H _ (by show j.toInt.toNat < n; omega)) hg hs hd _ k
theorem own_ldJ (X : Stand p l e R s m args below meth c T locs cells slots) (hx : p.tables.exec = Jvm.exec) (hZ : Z.Warmed39 s.vm) (eT : T.heap = h) {a : Addr} {n : Nat} {f : Nat → Value} (A : ArF Z h a .long n f) {j : Int32} (h1 : 0 ≤ j.toInt) (h2 : j.toInt < n) {v : Value} (hv : f j.toNatClampNeg = v)
    {g : JFrame} (hg : g.method = m) {rest : List Value} (hs : g.stack = .int j :: .ref a :: rest) (hd : decode c.code g.pc = .ok (.laload, 1)) (target : State) (k : Steps p.tables e below (T.setTop { g with pc := g.pc + 1, stack := v :: rest }) target) : Steps p.tables e below (T.setTop g) target := by
  obtain ⟨cl, Ar, S, -, H⟩ := A
  exact X.laload hx (j := j) (v := v) (by rw [eT]; exact Ar.1) (State.isArrayOf_alike hZ.alike Ar.2.1) Ar.2.2 (own_in S h1 h2) (by have e := Int.toNat_of_nonneg h1; rw [← hv]; exact H _ (by show j.toInt.toNat < n; omega)) hg hs hd _ k
theorem own_ldB (X : Stand p l e R s m args below meth c T locs cells slots) (hx : p.tables.exec = Jvm.exec) (hZ : Z.Warmed39 s.vm) (eT : T.heap = h) {a : Addr} {n : Nat} {f : Nat → Value} (A : ArF Z h a .byte n f) {j : Int32} (h1 : 0 ≤ j.toInt) (h2 : j.toInt < n) {v : Value} (hv : f j.toNatClampNeg = v)
    {g : JFrame} (hg : g.method = m) {rest : List Value} (hs : g.stack = .int j :: .ref a :: rest) (hd : decode c.code g.pc = .ok (.baload, 1)) (target : State) (k : Steps p.tables e below (T.setTop { g with pc := g.pc + 1, stack := v :: rest }) target) : Steps p.tables e below (T.setTop g) target := by
  obtain ⟨cl, Ar, S, -, H⟩ := A
  exact X.baloadBytes hx (j := j) (v := v) (by rw [eT]; exact Ar.1) (State.isArrayOf_alike hZ.alike Ar.2.1) Ar.2.2 (own_in S h1 h2) (by have e := Int.toNat_of_nonneg h1; rw [← hv]; exact H _ (by show j.toInt.toNat < n; omega)) hg hs hd _ k
theorem own_ldC (X : Stand p l e R s m args below meth c T locs cells slots) (hx : p.tables.exec = Jvm.exec) (hZ : Z.Warmed39 s.vm) (eT : T.heap = h) {a : Addr} {n : Nat} {f : Nat → Value} (A : ArF Z h a .char n f) {j : Int32} (h1 : 0 ≤ j.toInt) (h2 : j.toInt < n) {v : Value} (hv : f j.toNatClampNeg = v)
    {g : JFrame} (hg : g.method = m) {rest : List Value} (hs : g.stack = .int j :: .ref a :: rest) (hd : decode c.code g.pc = .ok (.caload, 1)) (target : State) (k : Steps p.tables e below (T.setTop { g with pc := g.pc + 1, stack := v :: rest }) target) : Steps p.tables e below (T.setTop g) target := by
  obtain ⟨cl, Ar, S, -, H⟩ := A
  exact X.caload hx (j := j) (v := v) (by rw [eT]; exact Ar.1) (State.isArrayOf_alike hZ.alike Ar.2.1) Ar.2.2 (own_in S h1 h2) (by have e := Int.toNat_of_nonneg h1; rw [← hv]; exact H _ (by show j.toInt.toNat < n; omega)) hg hs hd _ k
theorem own_len (X : Stand p l e R s m args below meth c T locs cells slots) (hx : p.tables.exec = Jvm.exec) (hZ : Z.Warmed39 s.vm) (eT : T.heap = h) {a : Addr} {ty : FieldType} {n : Nat} {f : Nat → Value} (A : ArF Z h a ty n f) {z : Int32} (hz : Int32.ofNat n = z)
    {g : JFrame} (hg : g.method = m) {rest : List Value} (hs : g.stack = .ref a :: rest) (hd : decode c.code g.pc = .ok (.arraylength, 1)) (target : State) (k : Steps p.tables e below (T.setTop { g with pc := g.pc + 1, stack := .int z :: rest }) target) : Steps p.tables e below (T.setTop g) target := by
  obtain ⟨cl, Ar, S, -, H⟩ := A
  refine X.arraylength hx (by rw [eT]; exact Ar.1) (State.isArrayOf_alike hZ.alike Ar.2.1) hg hs hd _ ?_
  rw [S]; rw [← hz] at k; exact k
theorem own_stI (X : Stand p l e R s m args below meth c T locs cells slots) (hx : p.tables.exec = Jvm.exec) (hZ : Z.Warmed39 s.vm) (eT : T.heap = h) {a : Addr} {n : Nat} {f : Nat → Value} (A : ArF Z h a .int n f) {j x : Int32} (h1 : 0 ≤ j.toInt) (h2 : j.toInt < n)
    {g : JFrame} (hg : g.method = m) {rest : List Value} (hs : g.stack = .int x :: .int j :: .ref a :: rest) (hd : decode c.code g.pc = .ok (.iastore, 1)) :
    ∃ T' h', Stand p l e R s m args below meth c T' (locs ++ [⟨a, j.toNatClampNeg⟩]) cells slots ∧ T'.heap = h' ∧ Wr h h' a j.toNatClampNeg (.int x) ∧ ∀ target, Steps p.tables e below (T'.setTop { g with pc := g.pc + 1, stack := rest }) target → Steps p.tables e below (T.setTop g) target := by
  obtain ⟨cl, Ar, S, -, H⟩ := A
  exact stI X hx hZ eT Ar (own_in S h1 h2) hg hs hd
theorem own_stJ (X : Stand p l e R s m args below meth c T locs cells slots) (hx : p.tables.exec = Jvm.exec) (hZ : Z.Warmed39 s.vm) (eT : T.heap = h) {a : Addr} {n : Nat} {f : Nat → Value} (A : ArF Z h a .long n f) {j : Int32} {x : Int64} (h1 : 0 ≤ j.toInt) (h2 : j.toInt < n)
    {g : JFrame} (hg : g.method = m) {rest : List Value} (hs : g.stack = .long x :: .int j :: .ref a :: rest) (hd : decode c.code g.pc = .ok (.lastore, 1)) :
    ∃ T' h', Stand p l e R s m args below meth c T' (locs ++ [⟨a, j.toNatClampNeg⟩]) cells slots ∧ T'.heap = h' ∧ Wr h h' a j.toNatClampNeg (.long x) ∧ ∀ target, Steps p.tables e below (T'.setTop { g with pc := g.pc + 1, stack := rest }) target → Steps p.tables e below (T.setTop g) target := by
  obtain ⟨cl, Ar, S, -, H⟩ := A
  exact stJ X hx hZ eT Ar (own_in S h1 h2) hg hs hd
/-- a boolean as an int -/
def bI (P : Prop) [Decidable P] : Int32 := if P then 1 else 0
theorem bI_z {P : Prop} [Decidable P] (h : ¬ P) : bI P = 0 := if_neg h
theorem bI_o {P : Prop} [Decidable P] (h : P) : bI P = 1 := if_pos h
theorem bI_ne {P : Prop} [Decidable P] (h : P) : ¬ bI P = 0 := by rw [bI_o h]; decide
theorem nar_b {P : Prop} [Decidable P] : nar .boolean (bI P) = bI P := by unfold bI; split <;> rfl
end OwnKit
/-- the object at o counts over n codes: place F i of the code i, k of them listed -/
def own_AC (Z : State) (h : Heap) (o : Addr) (n0 n : Nat) (F : Nat → Int32) (k : Int32) : Prop :=
  ∃ (P C J : Addr) (gC : Nat → Value) (gJ : Nat → Int64), Exa Z h o "org/eventropy/core/ActivityCounts" ∧ Fld Z h o "org/eventropy/core/ActivityCounts" "places" "[I" (.ref P) ∧ Fld Z h o "org/eventropy/core/ActivityCounts" "codes" "[I" (.ref C) ∧ Fld Z h o "org/eventropy/core/ActivityCounts" "counts" "[J" (.ref J) ∧ Fld Z h o "org/eventropy/core/ActivityCounts" "size" "I" (.int k) ∧ ArF Z h P .int n (fun i => .int (F i)) ∧ ArF Z h C .int 16 gC ∧ ArF Z h J .long 16 (fun i => .long (gJ i)) ∧
    (n0 ≤ o ∧ n0 ≤ P ∧ n0 ≤ C ∧ n0 ≤ J) ∧ o ≠ P ∧ o ≠ C ∧ o ≠ J ∧ P ≠ C ∧ P ≠ J ∧ C ≠ J
def own_F (F : Nat → Int32) (k : Int32) (j : Nat) : Nat → Int32 := if F j = -1 then (fun i => if i = j then k else F i) else F
def own_k (F : Nat → Int32) (k : Int32) (j : Nat) : Int32 := if F j = -1 then k + 1 else k
theorem own_updI (F : Nat → Int32) (j : Nat) (v : Int32) : upd (fun i => .int (F i)) j (.int v) = fun i => .int (if i = j then v else F i) := by
  funext i; unfold upd; split <;> rfl
theorem own_updJ (F : Nat → Int64) (j : Nat) (v : Int64) : upd (fun i => .long (F i)) j (.long v) = fun i => .long (if i = j then v else F i) := by
  funext i; unfold upd; split <;> rfl
def own_ok (F : Nat → Int32) (k : Int32) (b : Int) : Prop := (0 ≤ k.toInt ∧ k.toInt ≤ b) ∧ ∀ i, F i = -1 ∨ (0 ≤ (F i).toInt ∧ (F i).toInt ≤ b)
theorem own_ok_next {F : Nat → Int32} {k : Int32} {b : Int} (hb : b ≤ 8) (H : own_ok F k b) (j : Nat) : own_ok (own_F F k j) (own_k F k j) (b + 1) := by
  have e1 : (1 : Int32).toInt = 1 := rfl
  have hk : (k + 1).toInt = k.toInt + 1 := by
    have := c_iadd k 1; have := rng32 (k + 1); have := H.1; omega
  unfold own_F own_k
  split
  · refine ⟨by have := H.1; omega, fun i => ?_⟩
    show (if i = j then k else F i) = -1 ∨ (0 ≤ (if i = j then k else F i).toInt ∧ (if i = j then k else F i).toInt ≤ b + 1)
    split
    · exact Or.inr (by have := H.1; omega)
    · rcases H.2 i with q | q
      · exact Or.inl q
      · exact Or.inr (by omega)
  · refine ⟨by have := H.1; omega, fun i => ?_⟩
    rcases H.2 i with q | q
    · exact Or.inl q
    · exact Or.inr (by omega)
theorem own_ok_start : own_ok (fun _ => -1) 0 0 := ⟨by decide, fun _ => Or.inl rfl⟩
theorem own_m1 : ((-1 : Int32)).toInt = -1 := rfl
theorem own_pn0 : plainFor (⟨"java/util/Arrays", "fill", "([II)V"⟩ : MethodName) = true := by first | exact plainFor_of_name (by first | (simp [plainName, overriddenIn, x]; done) | decide +kernel) | decide +kernel
theorem ef_3 (m : MethodId) (q0 : Addr) (q1 : Int32) : entryFrame m #[(.ref q0), (.int q1)] 4 = mkF m 0 #[.val (.ref q0), .val (.int q1), .unset, .unset] [] := by first | (simp [entryFrame, mkF, argsToLocals, Value.category, maxLocals]; done) | rfl
theorem d3_5 : decode jdk_65_method_103_code 5 = .ok (.iload_n 2, 1) := by decide +kernel
theorem d3_6 : decode jdk_65_method_103_code 6 = .ok (.iload_n 3, 1) := by decide +kernel
theorem d3_7 : decode jdk_65_method_103_code 7 = .ok (.if_icmp .ge 13, 3) := by decide +kernel
theorem d3_20 : decode jdk_65_method_103_code 20 = .ok (.return_, 1) := by decide +kernel
theorem d3_10 : decode jdk_65_method_103_code 10 = .ok (.aload_n 0, 1) := by decide +kernel
theorem d3_11 : decode jdk_65_method_103_code 11 = .ok (.iload_n 2, 1) := by decide +kernel
theorem d3_12 : decode jdk_65_method_103_code 12 = .ok (.iload_n 1, 1) := by decide +kernel
theorem d3_13 : decode jdk_65_method_103_code 13 = .ok (.iastore, 1) := by decide +kernel
theorem d3_14 : decode jdk_65_method_103_code 14 = .ok (.iinc 2 1, 3) := by decide +kernel
theorem d3_17 : decode jdk_65_method_103_code 17 = .ok (.goto (-12), 3) := by decide +kernel
theorem d3_0 : decode jdk_65_method_103_code 0 = .ok (.iconst 0, 1) := by decide +kernel
theorem d3_1 : decode jdk_65_method_103_code 1 = .ok (.istore_n 2, 1) := by decide +kernel
theorem d3_2 : decode jdk_65_method_103_code 2 = .ok (.aload_n 0, 1) := by decide +kernel
theorem d3_3 : decode jdk_65_method_103_code 3 = .ok (.arraylength, 1) := by decide +kernel
theorem d3_4 : decode jdk_65_method_103_code 4 = .ok (.istore_n 3, 1) := by decide +kernel
set_option maxRecDepth 65536 in
set_option maxHeartbeats 40000000 in
theorem own_c3 (l : Launch) (Z : State) (a0 : Array Value) (hw : ∀ d ∈ tables_1, d.before a0 Z = true) (a : Addr) (v : Int32) (n : Nat) (f : Nat → Value) (h0 : Heap) (n0 : Nat) (A0 : ArF Z h0 a .int n f) (ga : n0 ≤ a) :
    Con l Z (⟨"java/util/Arrays", "fill", "([II)V"⟩ : MethodName) jdk_65_method_103_code 4 none [] ({ frames := 0, cells := 0, slots := 0, locals := 0 } : Room) 0 0 #[(.ref a), (.int v)] h0 (fun r h L => r = none ∧ Keep h0 h [a] ∧ ArF Z h a .int n (fun _ => .int v) ∧ Fr n0 L) := by
  refine Con.of own_pn0 ?_
  intro pg ev s_ m bl mt cd s₁ hx hby hml hown hnm hret hlk hZ X0 e0
  rw [ef_3]
  show Gd _ _ _ _ (s₁.setTop (mkF m 0 #[.val (.ref a), .val (.int v), .unset, .unset] []))
  have hn := A0.n31
  have loop : ∀ (k i : Nat) (T : State) (locs : List Loc) (h : Heap), i + k = n → Stand pg l ev ({ frames := 0, cells := 0, slots := 0, locals := 0 } : Room) s_ m #[(.ref a), (.int v)] bl mt cd T locs 0 0 → T.heap = h → ArF Z h a .int n (fun j => if j < i then .int v else f j) → Keep h0 h [a] → Fr n0 locs → Gd pg.tables ev bl (Owes s_ 0 0 (fun r h L => r = none ∧ Keep h0 h [a] ∧ ArF Z h a .int n (fun _ => .int v) ∧ Fr n0 L)) (T.setTop (mkF m 5 #[.val (.ref a), .val (.int v), .val (.int (Int32.ofNat i)), .val (.int (Int32.ofNat n))] [])) := by
    intro k
    induction k with
    | zero =>
      intro i T locs h hi X eT A K N
      refine Gd.go (fun _ w_k => XS.iloadN X.here hx rfl (hb hby d3_5) rfl w_k) ?_
      show Gd _ _ _ _ (T.setTop (mkF m 6 #[.val (.ref a), .val (.int v), .val (.int (Int32.ofNat i)), .val (.int (Int32.ofNat n))] [(.int (Int32.ofNat i))]))
      refine Gd.go (fun _ w_k => XS.iloadN X.here hx rfl (hb hby d3_6) rfl w_k) ?_
      show Gd _ _ _ _ (T.setTop (mkF m 7 #[.val (.ref a), .val (.int v), .val (.int (Int32.ofNat i)), .val (.int (Int32.ofNat n))] [(.int (Int32.ofNat n)), (.int (Int32.ofNat i))]))
      refine Gd.go (fun _ w_k => XS.icmpYes X.here hx rfl (pc0 := 7) (pc' := 20) rfl (hb hby d3_7) rfl (flt (own_geN (by omega) (by omega))).2.1 (by decide) (by decide) w_k) ?_
      show Gd _ _ _ _ (T.setTop (mkF m 20 #[.val (.ref a), .val (.int v), .val (.int (Int32.ofNat i)), .val (.int (Int32.ofNat n))] []))
      refine own_retV X hx hret hlk (hb hby d3_20) ?_ (by decide) (by decide)
      rw [eT]
      exact ⟨rfl, K, A.congr (fun j hj => if_pos (by omega)), N⟩
    | succ k ih =>
      intro i T locs h hi X eT A K N
      have b1 : 0 ≤ (Int32.ofNat i).toInt := by rw [own_ofN (by omega)]; omega
      have b2 : (Int32.ofNat i).toInt < n := by rw [own_ofN (by omega)]; omega
      refine Gd.go (fun _ w_k => XS.iloadN X.here hx rfl (hb hby d3_5) rfl w_k) ?_
      show Gd _ _ _ _ (T.setTop (mkF m 6 #[.val (.ref a), .val (.int v), .val (.int (Int32.ofNat i)), .val (.int (Int32.ofNat n))] [(.int (Int32.ofNat i))]))
      refine Gd.go (fun _ w_k => XS.iloadN X.here hx rfl (hb hby d3_6) rfl w_k) ?_
      show Gd _ _ _ _ (T.setTop (mkF m 7 #[.val (.ref a), .val (.int v), .val (.int (Int32.ofNat i)), .val (.int (Int32.ofNat n))] [(.int (Int32.ofNat n)), (.int (Int32.ofNat i))]))
      refine Gd.go (fun _ w_k => XS.icmpNo X.here hx rfl (hb hby d3_7) rfl (tlt (own_ltN (by omega) (by omega))).2.1 w_k) ?_
      show Gd _ _ _ _ (T.setTop (mkF m 10 #[.val (.ref a), .val (.int v), .val (.int (Int32.ofNat i)), .val (.int (Int32.ofNat n))] []))
      refine Gd.go (fun _ w_k => XS.aloadN X.here hx rfl (hb hby d3_10) rfl rfl w_k) ?_
      show Gd _ _ _ _ (T.setTop (mkF m 11 #[.val (.ref a), .val (.int v), .val (.int (Int32.ofNat i)), .val (.int (Int32.ofNat n))] [(.ref a)]))
      refine Gd.go (fun _ w_k => XS.iloadN X.here hx rfl (hb hby d3_11) rfl w_k) ?_
      show Gd _ _ _ _ (T.setTop (mkF m 12 #[.val (.ref a), .val (.int v), .val (.int (Int32.ofNat i)), .val (.int (Int32.ofNat n))] [(.int (Int32.ofNat i)), (.ref a)]))
      refine Gd.go (fun _ w_k => XS.iloadN X.here hx rfl (hb hby d3_12) rfl w_k) ?_
      show Gd _ _ _ _ (T.setTop (mkF m 13 #[.val (.ref a), .val (.int v), .val (.int (Int32.ofNat i)), .val (.int (Int32.ofNat n))] [(.int v), (.int (Int32.ofNat i)), (.ref a)]))
      obtain ⟨T1, h1, X1, e1, W1, st1⟩ := own_stI X hx hZ eT A (j := (Int32.ofNat i)) b1 b2 (g := (mkF m 13 #[.val (.ref a), .val (.int v), .val (.int (Int32.ofNat i)), .val (.int (Int32.ofNat n))] [(.int v), (.int (Int32.ofNat i)), (.ref a)])) rfl rfl (hb hby d3_13)
      refine Gd.go (fun _ w_k => st1 _ w_k) ?_
      have xF2 := A.set W1
      have xN3 := Fr.snoc X1 N ga
      have xK4 := Keep.wr K W1 (Or.inl (List.mem_singleton.mpr rfl))
      show Gd _ _ _ _ (T1.setTop (mkF m 14 #[.val (.ref a), .val (.int v), .val (.int (Int32.ofNat i)), .val (.int (Int32.ofNat n))] []))
      refine Gd.go (fun _ w_k => XS.iinc X1.here hx rfl (hb hby d3_14) rfl (l' := #[.val (.ref a), .val (.int v), .val (.int ((Int32.ofNat i) + (1 : Int32))), .val (.int (Int32.ofNat n))]) rfl w_k) ?_
      show Gd _ _ _ _ (T1.setTop (mkF m 17 #[.val (.ref a), .val (.int v), .val (.int ((Int32.ofNat i) + (1 : Int32))), .val (.int (Int32.ofNat n))] []))
      rw [own_incN]
      show Gd _ _ _ _ (T1.setTop (mkF m 17 #[.val (.ref a), .val (.int v), .val (.int (Int32.ofNat (i + 1))), .val (.int (Int32.ofNat n))] []))
      refine Gd.go (fun _ w_k => XS.goto X1.here hx rfl (pc0 := 17) (pc' := 5) rfl (hb hby d3_17) (by decide) (by decide) w_k) ?_
      show Gd _ _ _ _ (T1.setTop (mkF m 5 #[.val (.ref a), .val (.int v), .val (.int (Int32.ofNat (i + 1))), .val (.int (Int32.ofNat n))] []))
      refine ih (i + 1) T1 _ _ (by omega) X1 e1 (xF2.congr fun j hj => ?_) xK4 xN3
      rw [own_ofC (by omega)]
      unfold upd
      dsimp only
      by_cases q : j = i
      · subst q; rw [if_pos rfl, if_pos (by omega)]
      · rw [if_neg q]; by_cases r : j < i
        · rw [if_pos r, if_pos (by omega)]
        · rw [if_neg r, if_neg (by omega)]
  refine Gd.go (fun _ w_k => XS.iconst X0.here hx rfl (hb hby d3_0) w_k) ?_
  show Gd _ _ _ _ (s₁.setTop (mkF m 1 #[.val (.ref a), .val (.int v), .unset, .unset] [(.int (0 : Int32))]))
  refine Gd.go (fun _ w_k => XS.istoreN X0.here hx rfl (hb hby d3_1) rfl (l' := #[.val (.ref a), .val (.int v), .val (.int (0 : Int32)), .unset]) rfl w_k) ?_
  show Gd _ _ _ _ (s₁.setTop (mkF m 2 #[.val (.ref a), .val (.int v), .val (.int (0 : Int32)), .unset] []))
  refine Gd.go (fun _ w_k => XS.aloadN X0.here hx rfl (hb hby d3_2) rfl rfl w_k) ?_
  show Gd _ _ _ _ (s₁.setTop (mkF m 3 #[.val (.ref a), .val (.int v), .val (.int (0 : Int32)), .unset] [(.ref a)]))
  refine Gd.go (fun _ w_k => own_len X0 hx hZ e0 A0 (z := (Int32.ofNat n)) rfl (g := (mkF m 3 #[.val (.ref a), .val (.int v), .val (.int (0 : Int32)), .unset] [(.ref a)])) rfl rfl (hb hby d3_3) _ w_k) ?_
  show Gd _ _ _ _ (s₁.setTop (mkF m 4 #[.val (.ref a), .val (.int v), .val (.int (0 : Int32)), .unset] [(.int (Int32.ofNat n))]))
  refine Gd.go (fun _ w_k => XS.istoreN X0.here hx rfl (hb hby d3_4) rfl (l' := #[.val (.ref a), .val (.int v), .val (.int (0 : Int32)), .val (.int (Int32.ofNat n))]) rfl w_k) ?_
  show Gd _ _ _ _ (s₁.setTop (mkF m 5 #[.val (.ref a), .val (.int v), .val (.int (0 : Int32)), .val (.int (Int32.ofNat n))] []))
  exact loop n 0 s₁ [] h0 (by omega) X0 e0 (A0.congr fun j hj => (if_neg (by omega)).symm) (Keep.refl _ _) (Fr.nil _)
theorem own_pn1 : plainFor (⟨"org/eventropy/core/ActivityCounts", "<init>", "(I)V"⟩ : MethodName) = true := by first | exact plainFor_of_name (by first | (simp [plainName, overriddenIn, x]; done) | decide +kernel) | decide +kernel
theorem ef_1 (m : MethodId) (q0 : Addr) (q1 : Int32) : entryFrame m #[(.ref q0), (.int q1)] 2 = mkF m 0 #[.val (.ref q0), .val (.int q1)] [] := by first | (simp [entryFrame, mkF, argsToLocals, Value.category, maxLocals]; done) | rfl
theorem d1_0 : decode prog_13_method_1_code 0 = .ok (.aload_n 0, 1) := by decide +kernel
theorem d1_1 : decode prog_13_method_1_code 1 = .ok (.invokespecial 1, 3) := by decide +kernel
theorem d1_4 : decode prog_13_method_1_code 4 = .ok (.aload_n 0, 1) := by decide +kernel
theorem d1_5 : decode prog_13_method_1_code 5 = .ok (.bipush 16, 2) := by decide +kernel
theorem d1_7 : decode prog_13_method_1_code 7 = .ok (.newarray .int, 2) := by decide +kernel
theorem d1_9 : decode prog_13_method_1_code 9 = .ok (.putfield 9, 3) := by decide +kernel
theorem d1_12 : decode prog_13_method_1_code 12 = .ok (.aload_n 0, 1) := by decide +kernel
theorem d1_13 : decode prog_13_method_1_code 13 = .ok (.bipush 16, 2) := by decide +kernel
theorem d1_15 : decode prog_13_method_1_code 15 = .ok (.newarray .long, 2) := by decide +kernel
theorem d1_17 : decode prog_13_method_1_code 17 = .ok (.putfield 13, 3) := by decide +kernel
theorem d1_20 : decode prog_13_method_1_code 20 = .ok (.aload_n 0, 1) := by decide +kernel
theorem d1_21 : decode prog_13_method_1_code 21 = .ok (.iload_n 1, 1) := by decide +kernel
theorem d1_22 : decode prog_13_method_1_code 22 = .ok (.newarray .int, 2) := by decide +kernel
theorem d1_24 : decode prog_13_method_1_code 24 = .ok (.putfield 17, 3) := by decide +kernel
theorem d1_27 : decode prog_13_method_1_code 27 = .ok (.aload_n 0, 1) := by decide +kernel
theorem d1_28 : decode prog_13_method_1_code 28 = .ok (.getfield 17, 3) := by decide +kernel
theorem d1_31 : decode prog_13_method_1_code 31 = .ok (.iconst (-1), 1) := by decide +kernel
theorem own_pd0 : parseMethodDescriptor "([II)V" = some ⟨[(.array .int), .int], none⟩ := by decide +kernel
theorem d1_32 : decode prog_13_method_1_code 32 = .ok (.invokestatic 22, 3) := by decide +kernel
theorem d1_35 : decode prog_13_method_1_code 35 = .ok (.return_, 1) := by decide +kernel
set_option maxRecDepth 65536 in
set_option maxHeartbeats 40000000 in
theorem own_c1 (l : Launch) (Z : State) (a0 : Array Value) (hw : ∀ d ∈ tables_1, d.before a0 Z = true) (b : Addr) (z : Int32) (hz : 1 ≤ z.toInt ∧ z.toInt ≤ 8) (h0 : Heap) (n0 : Nat) (Z0 : n0 ≤ h0.size) (gb : n0 ≤ b) (E0 : Exa Z h0 b "org/eventropy/core/ActivityCounts") (F1 : Fld Z h0 b "org/eventropy/core/ActivityCounts" "places" "[I" .null) (F2 : Fld Z h0 b "org/eventropy/core/ActivityCounts" "codes" "[I" .null) (F3 : Fld Z h0 b "org/eventropy/core/ActivityCounts" "counts" "[J" .null) (F4 : Fld Z h0 b "org/eventropy/core/ActivityCounts" "size" "I" (.int (0 : Int32))) :
    Con l Z (⟨"org/eventropy/core/ActivityCounts", "<init>", "(I)V"⟩ : MethodName) prog_13_method_1_code 2 none [] ({ frames := 1, cells := 3, slots := 40, locals := 15 } : Room) 3 40 #[(.ref b), (.int z)] h0 (fun r h L => r = none ∧ own_AC Z h b n0 z.toNatClampNeg (fun _ => -1) 0 ∧ n0 ≤ h.size ∧ Fr n0 L) := by
  refine Con.of own_pn1 ?_
  intro pg ev s_ m bl mt cd s₁ hx hby hml hown hnm hret hlk hZ X0 e0
  rw [ef_1]
  show Gd _ _ _ _ (s₁.setTop (mkF m 0 #[.val (.ref b), .val (.int z)] []))
  have N0 := Fr.nil n0
  have zn : ¬ z < 0 := by rw [Int32.lt_iff_toInt_lt]; have : (0 : Int32).toInt = 0 := rfl; omega
  have zc : z.toNatClampNeg ≤ 8 := by have := own_nat (j := z) (by omega); omega
  refine Gd.go (fun _ w_k => XS.aloadN X0.here hx rfl (hb hby d1_0) rfl rfl w_k) ?_
  show Gd _ _ _ _ (s₁.setTop (mkF m 1 #[.val (.ref b), .val (.int z)] [(.ref b)]))
  obtain ⟨T1, X1, e1, st1⟩ := initO X0 hx hZ hown (hw _ (List.mem_of_getElem? (i := 7) rfl)) (hw _ (List.mem_of_getElem? (i := 8) rfl)) (hw _ (List.mem_of_getElem? (i := 9) rfl)) e0 (g := (mkF m 1 #[.val (.ref b), .val (.int z)] [(.ref b)])) rfl (by rw [hml]; rfl) rfl (hb hby d1_1) (by decide) (W := 0) (Nat.le_of_eq rfl) (by decide)
  refine Gd.go (fun _ w_k => st1 _ w_k) ?_
  show Gd _ _ _ _ (T1.setTop (mkF m 4 #[.val (.ref b), .val (.int z)] []))
  refine Gd.go (fun _ w_k => XS.aloadN X1.here hx rfl (hb hby d1_4) rfl rfl w_k) ?_
  show Gd _ _ _ _ (T1.setTop (mkF m 5 #[.val (.ref b), .val (.int z)] [(.ref b)]))
  refine Gd.go (fun _ w_k => XS.bipush X1.here hx rfl (hb hby d1_5) w_k) ?_
  show Gd _ _ _ _ (T1.setTop (mkF m 7 #[.val (.ref b), .val (.int z)] [(.int (16 : Int32)), (.ref b)]))
  obtain ⟨T2, h2, k2, X2, e2, E2, A2, st2⟩ := newP X1 hx hZ (hw _ (List.mem_of_getElem? (i := 10) rfl)) e1 (g := (mkF m 7 #[.val (.ref b), .val (.int z)] [(.int (16 : Int32)), (.ref b)])) rfl (hb hby d1_7) rfl (by decide) (cap := 16) (by decide) (by decide) (by decide) (by decide)
  obtain ⟨b2, g2⟩ : ∃ z, z = h0.size := ⟨_, rfl⟩
  rw [← g2] at A2 st2
  have ne_b_b2 : b ≠ b2 := fun q => Nat.lt_irrefl _ (Nat.lt_of_lt_of_le E0.lt (Nat.le_of_eq (q.trans g2).symm))
  have n0_b2 : n0 ≤ b2 := Nat.le_trans Z0 (Nat.le_of_eq g2.symm)
  have xF3 := E0.ext E2
  have xF4 := F1.ext E2
  have xF5 := F2.ext E2
  have xF6 := F3.ext E2
  have xF7 := F4.ext E2
  have xZs8 := Nat.le_trans Z0 E2.1
  have xF9 : ArF Z h2 b2 .int 16 (fun _ => (.int (0 : Int32))) := own_new (h := h0) A2 (by decide)
  refine Gd.go (fun _ w_k => st2 _ w_k) ?_
  show Gd _ _ _ _ (T2.setTop (mkF m 9 #[.val (.ref b), .val (.int z)] [(.ref b2), (.ref b)]))
  obtain ⟨T10, h10, X10, e10, W10, st10⟩ := putF X2 hx hZ hown (host := "") (Or.inl (hw _ (List.mem_of_getElem? (i := 11) rfl))) Via.refl e2 xF5 xF3 (Or.inl (hw _ (List.mem_of_getElem? (i := 12) rfl))) (hw _ (List.mem_of_getElem? (i := 2) rfl)) (ty := (.array .int)) (by decide) rfl rfl (g := (mkF m 9 #[.val (.ref b), .val (.int z)] [(.ref b2), (.ref b)])) rfl rfl (hb hby d1_9)
  refine Gd.go (fun _ w_k => st10 _ w_k) ?_
  have xF11 := xF3.wr W10
  have xF12 := xF4.other W10 (Or.inr (slot_ne (Or.inr (hw _ (List.mem_of_getElem? (i := 17) rfl))) (Or.inl (hw _ (List.mem_of_getElem? (i := 12) rfl))) (by decide) (t := (.array .int)) (t' := (.array .int)) (by decide) (by decide)))
  have xF13 := xF5.same W10
  have xF14 := xF6.other W10 (Or.inr (slot_ne (Or.inl (hw _ (List.mem_of_getElem? (i := 15) rfl))) (Or.inl (hw _ (List.mem_of_getElem? (i := 12) rfl))) (by decide) (t := (.array .long)) (t' := (.array .int)) (by decide) (by decide)))
  have xF15 := xF7.other W10 (Or.inr (slot_ne (Or.inl (hw _ (List.mem_of_getElem? (i := 33) rfl))) (Or.inl (hw _ (List.mem_of_getElem? (i := 12) rfl))) (by decide) (t := .int) (t' := (.array .int)) (by decide) (by decide)))
  have xF16 := xF9.other W10 (Ne.symm ne_b_b2)
  have xN17 := Fr.snoc X10 N0 gb
  have xZs18 := Nat.le_trans xZs8 (Keep.of_wr W10).1
  show Gd _ _ _ _ (T10.setTop (mkF m 12 #[.val (.ref b), .val (.int z)] []))
  refine Gd.go (fun _ w_k => XS.aloadN X10.here hx rfl (hb hby d1_12) rfl rfl w_k) ?_
  show Gd _ _ _ _ (T10.setTop (mkF m 13 #[.val (.ref b), .val (.int z)] [(.ref b)]))
  refine Gd.go (fun _ w_k => XS.bipush X10.here hx rfl (hb hby d1_13) w_k) ?_
  show Gd _ _ _ _ (T10.setTop (mkF m 15 #[.val (.ref b), .val (.int z)] [(.int (16 : Int32)), (.ref b)]))
  obtain ⟨T19, h19, k19, X19, e19, E19, A19, st19⟩ := newP X10 hx hZ (hw _ (List.mem_of_getElem? (i := 13) rfl)) e10 (g := (mkF m 15 #[.val (.ref b), .val (.int z)] [(.int (16 : Int32)), (.ref b)])) rfl (hb hby d1_15) rfl (by decide) (cap := 16) (by decide) (by decide) (by decide) (by decide)
  obtain ⟨b19, g19⟩ : ∃ z, z = h10.size := ⟨_, rfl⟩
  rw [← g19] at A19 st19
  have ne_b_b19 : b ≠ b19 := fun q => Nat.lt_irrefl _ (Nat.lt_of_lt_of_le xF11.lt (Nat.le_of_eq (q.trans g19).symm))
  have ne_b2_b19 : b2 ≠ b19 := fun q => Nat.lt_irrefl _ (Nat.lt_of_lt_of_le xF16.lt (Nat.le_of_eq (q.trans g19).symm))
  have n0_b19 : n0 ≤ b19 := Nat.le_trans xZs18 (Nat.le_of_eq g19.symm)
  have xF20 := xF11.ext E19
  have xF21 := xF12.ext E19
  have xF22 := xF13.ext E19
  have xF23 := xF14.ext E19
  have xF24 := xF15.ext E19
  have xF25 := xF16.ext E19
  have xZs26 := Nat.le_trans xZs18 E19.1
  have xF27 : ArF Z h19 b19 .long 16 (fun _ => (.long (0 : Int64))) := own_new (h := h10) A19 (by decide)
  refine Gd.go (fun _ w_k => st19 _ w_k) ?_
  show Gd _ _ _ _ (T19.setTop (mkF m 17 #[.val (.ref b), .val (.int z)] [(.ref b19), (.ref b)]))
  obtain ⟨T28, h28, X28, e28, W28, st28⟩ := putF X19 hx hZ hown (host := "") (Or.inl (hw _ (List.mem_of_getElem? (i := 14) rfl))) Via.refl e19 xF23 xF20 (Or.inl (hw _ (List.mem_of_getElem? (i := 15) rfl))) (hw _ (List.mem_of_getElem? (i := 2) rfl)) (ty := (.array .long)) (by decide) rfl rfl (g := (mkF m 17 #[.val (.ref b), .val (.int z)] [(.ref b19), (.ref b)])) rfl rfl (hb hby d1_17)
  refine Gd.go (fun _ w_k => st28 _ w_k) ?_
  have xF29 := xF20.wr W28
  have xF30 := xF21.other W28 (Or.inr (slot_ne (Or.inr (hw _ (List.mem_of_getElem? (i := 17) rfl))) (Or.inl (hw _ (List.mem_of_getElem? (i := 15) rfl))) (by decide) (t := (.array .int)) (t' := (.array .long)) (by decide) (by decide)))
  have xF31 := xF22.other W28 (Or.inr (slot_ne (Or.inl (hw _ (List.mem_of_getElem? (i := 12) rfl))) (Or.inl (hw _ (List.mem_of_getElem? (i := 15) rfl))) (by decide) (t := (.array .int)) (t' := (.array .long)) (by decide) (by decide)))
  have xF32 := xF23.same W28
  have xF33 := xF24.other W28 (Or.inr (slot_ne (Or.inl (hw _ (List.mem_of_getElem? (i := 33) rfl))) (Or.inl (hw _ (List.mem_of_getElem? (i := 15) rfl))) (by decide) (t := .int) (t' := (.array .long)) (by decide) (by decide)))
  have xF34 := xF25.other W28 (Ne.symm ne_b_b2)
  have xF35 := xF27.other W28 (Ne.symm ne_b_b19)
  have xN36 := Fr.snoc X28 xN17 gb
  have xZs37 := Nat.le_trans xZs26 (Keep.of_wr W28).1
  show Gd _ _ _ _ (T28.setTop (mkF m 20 #[.val (.ref b), .val (.int z)] []))
  refine Gd.go (fun _ w_k => XS.aloadN X28.here hx rfl (hb hby d1_20) rfl rfl w_k) ?_
  show Gd _ _ _ _ (T28.setTop (mkF m 21 #[.val (.ref b), .val (.int z)] [(.ref b)]))
  refine Gd.go (fun _ w_k => XS.iloadN X28.here hx rfl (hb hby d1_21) rfl w_k) ?_
  show Gd _ _ _ _ (T28.setTop (mkF m 22 #[.val (.ref b), .val (.int z)] [(.int z), (.ref b)]))
  obtain ⟨T38, h38, k38, X38, e38, E38, A38, st38⟩ := newP X28 hx hZ (hw _ (List.mem_of_getElem? (i := 10) rfl)) e28 (g := (mkF m 22 #[.val (.ref b), .val (.int z)] [(.int z), (.ref b)])) rfl (hb hby d1_22) rfl zn (cap := 8) zc (by decide) (by decide) (by decide)
  obtain ⟨b38, g38⟩ : ∃ z, z = h28.size := ⟨_, rfl⟩
  rw [← g38] at A38 st38
  have ne_b_b38 : b ≠ b38 := fun q => Nat.lt_irrefl _ (Nat.lt_of_lt_of_le xF29.lt (Nat.le_of_eq (q.trans g38).symm))
  have ne_b2_b38 : b2 ≠ b38 := fun q => Nat.lt_irrefl _ (Nat.lt_of_lt_of_le xF34.lt (Nat.le_of_eq (q.trans g38).symm))
  have ne_b19_b38 : b19 ≠ b38 := fun q => Nat.lt_irrefl _ (Nat.lt_of_lt_of_le xF35.lt (Nat.le_of_eq (q.trans g38).symm))
  have n0_b38 : n0 ≤ b38 := Nat.le_trans xZs37 (Nat.le_of_eq g38.symm)
  have xF39 := xF29.ext E38
  have xF40 := xF30.ext E38
  have xF41 := xF31.ext E38
  have xF42 := xF32.ext E38
  have xF43 := xF33.ext E38
  have xF44 := xF34.ext E38
  have xF45 := xF35.ext E38
  have xZs46 := Nat.le_trans xZs37 E38.1
  have xF47 : ArF Z h38 b38 .int (z).toNatClampNeg (fun _ => (.int (0 : Int32))) := own_new (h := h28) A38 zn
  refine Gd.go (fun _ w_k => st38 _ w_k) ?_
  show Gd _ _ _ _ (T38.setTop (mkF m 24 #[.val (.ref b), .val (.int z)] [(.ref b38), (.ref b)]))
  obtain ⟨T48, h48, X48, e48, W48, st48⟩ := putF X38 hx hZ hown (host := "") (Or.inl (hw _ (List.mem_of_getElem? (i := 16) rfl))) Via.refl e38 xF40 xF39 (Or.inr ⟨(hw _ (List.mem_of_getElem? (i := 17) rfl)), rfl, hnm⟩) (hw _ (List.mem_of_getElem? (i := 2) rfl)) (ty := (.array .int)) (by decide) rfl rfl (g := (mkF m 24 #[.val (.ref b), .val (.int z)] [(.ref b38), (.ref b)])) rfl rfl (hb hby d1_24)
  refine Gd.go (fun _ w_k => st48 _ w_k) ?_
  have xF49 := xF39.wr W48
  have xF50 := xF40.same W48
  have xF51 := xF41.other W48 (Or.inr (slot_ne (Or.inl (hw _ (List.mem_of_getElem? (i := 12) rfl))) (Or.inr (hw _ (List.mem_of_getElem? (i := 17) rfl))) (by decide) (t := (.array .int)) (t' := (.array .int)) (by decide) (by decide)))
  have xF52 := xF42.other W48 (Or.inr (slot_ne (Or.inl (hw _ (List.mem_of_getElem? (i := 15) rfl))) (Or.inr (hw _ (List.mem_of_getElem? (i := 17) rfl))) (by decide) (t := (.array .long)) (t' := (.array .int)) (by decide) (by decide)))
  have xF53 := xF43.other W48 (Or.inr (slot_ne (Or.inl (hw _ (List.mem_of_getElem? (i := 33) rfl))) (Or.inr (hw _ (List.mem_of_getElem? (i := 17) rfl))) (by decide) (t := .int) (t' := (.array .int)) (by decide) (by decide)))
  have xF54 := xF44.other W48 (Ne.symm ne_b_b2)
  have xF55 := xF45.other W48 (Ne.symm ne_b_b19)
  have xF56 := xF47.other W48 (Ne.symm ne_b_b38)
  have xN57 := Fr.snoc X48 xN36 gb
  have xZs58 := Nat.le_trans xZs46 (Keep.of_wr W48).1
  show Gd _ _ _ _ (T48.setTop (mkF m 27 #[.val (.ref b), .val (.int z)] []))
  refine Gd.go (fun _ w_k => XS.aloadN X48.here hx rfl (hb hby d1_27) rfl rfl w_k) ?_
  show Gd _ _ _ _ (T48.setTop (mkF m 28 #[.val (.ref b), .val (.int z)] [(.ref b)]))
  obtain ⟨T59, X59, e59, st59⟩ := getF X48 hx hZ hown (host := "") (Or.inl (hw _ (List.mem_of_getElem? (i := 16) rfl))) Via.refl e48 xF50 (g := (mkF m 28 #[.val (.ref b), .val (.int z)] [(.ref b)])) rfl rfl (hb hby d1_28)
  refine Gd.go (fun _ w_k => st59 _ w_k) ?_
  show Gd _ _ _ _ (T59.setTop (mkF m 31 #[.val (.ref b), .val (.int z)] [(.ref b38)]))
  refine Gd.go (fun _ w_k => XS.iconst X59.here hx rfl (hb hby d1_31) w_k) ?_
  show Gd _ _ _ _ (T59.setTop (mkF m 32 #[.val (.ref b), .val (.int z)] [(.int (-1 : Int32)), (.ref b38)]))
  obtain ⟨v60, T60, L60, X60, hQ60, st60⟩ := own_callS X59 hx hZ (y := (⟨"java/util/Arrays", "fill", "([II)V"⟩ : MethodName)) hown (hw _ (List.mem_of_getElem? (i := 18) rfl)) (hw _ (List.mem_of_getElem? (i := 19) rfl)) (hw _ (List.mem_of_getElem? (i := 20) rfl)) (hw _ (List.mem_of_getElem? (i := 21) rfl)) (by decide) (W := 0) (own_c3 l Z a0 hw b38 (-1 : Int32) z.toNatClampNeg _ h48 n0 xF56 n0_b38) rfl rfl e59 (by decide) (by decide) (g := (mkF m 32 #[.val (.ref b), .val (.int z)] [(.int (-1 : Int32)), (.ref b38)])) rfl (by rw [hml]; rfl) (argsL := [(.ref b38), (.int (-1 : Int32))]) (rest := []) (lenOf own_pd0 rfl) rfl (Nat.le_of_eq rfl) (hb hby d1_32) rfl (by decide) (by decide)
  obtain ⟨rfl, K9, A9, N9⟩ := hQ60
  refine Gd.go (fun _ w_k => st60 _ w_k) ?_
  show Gd _ _ _ _ (T60.setTop (mkF m 35 #[.val (.ref b), .val (.int z)] []))
  have xF61 := xF49.keep K9
  have xF62 := xF50.keep K9 (ninS ne_b_b38 nin0)
  have xF63 := xF51.keep K9 (ninS ne_b_b38 nin0)
  have xF64 := xF52.keep K9 (ninS ne_b_b38 nin0)
  have xF65 := xF53.keep K9 (ninS ne_b_b38 nin0)
  have xF66 := xF54.keep K9 (ninS ne_b2_b38 nin0)
  have xF67 := xF55.keep K9 (ninS ne_b19_b38 nin0)
  have xZs68 := Nat.le_trans xZs58 K9.1
  have xN69 := Fr.app xN57 N9
  refine own_retV X60 hx hret hlk (hb hby d1_35) ?_ (by decide) (by decide)
  exact ⟨rfl, ⟨b38, b2, b19, _, _, xF61, xF62, xF63, xF64, xF65, A9, xF66, xF67, ⟨gb, n0_b38, n0_b2, n0_b19⟩, ne_b_b38, ne_b_b2, ne_b_b19, (Ne.symm ne_b2_b38), (Ne.symm ne_b19_b38), ne_b2_b19⟩, xZs68, xN69⟩
theorem own_pn2 : plainFor (⟨"org/eventropy/core/ActivityCounts", "place", "(I)I"⟩ : MethodName) = true := by first | exact plainFor_of_name (by first | (simp [plainName, overriddenIn, x]; done) | decide +kernel) | decide +kernel
theorem ef_4 (m : MethodId) (q0 : Addr) (q1 : Int32) : entryFrame m #[(.ref q0), (.int q1)] 2 = mkF m 0 #[.val (.ref q0), .val (.int q1)] [] := by first | (simp [entryFrame, mkF, argsToLocals, Value.category, maxLocals]; done) | rfl
theorem own_nn {q : Int32} (h : ¬ q < 0) : 0 ≤ q.toInt := by rw [Int32.lt_iff_toInt_lt] at h; have : (0 : Int32).toInt = 0 := rfl; omega
theorem own_ub {q : Int32} {n : Nat} (hn : n < 2 ^ 31) (h : q < Int32.ofNat n) : q.toInt < n := by rw [Int32.lt_iff_toInt_lt, own_ofN hn] at h; exact h
theorem d4_0 : decode prog_13_method_6_code 0 = .ok (.iload_n 1, 1) := by decide +kernel
theorem d4_1 : decode prog_13_method_6_code 1 = .ok (.ifCond .lt 21, 3) := by decide +kernel
theorem d4_22 : decode prog_13_method_6_code 22 = .ok (.iconst (-1), 1) := by decide +kernel
theorem d4_23 : decode prog_13_method_6_code 23 = .ok (.ireturn, 1) := by decide +kernel
theorem d4_4 : decode prog_13_method_6_code 4 = .ok (.iload_n 1, 1) := by decide +kernel
theorem d4_5 : decode prog_13_method_6_code 5 = .ok (.aload_n 0, 1) := by decide +kernel
theorem d4_6 : decode prog_13_method_6_code 6 = .ok (.getfield 17, 3) := by decide +kernel
theorem d4_9 : decode prog_13_method_6_code 9 = .ok (.arraylength, 1) := by decide +kernel
theorem d4_10 : decode prog_13_method_6_code 10 = .ok (.if_icmp .ge 12, 3) := by decide +kernel
theorem d4_13 : decode prog_13_method_6_code 13 = .ok (.aload_n 0, 1) := by decide +kernel
theorem d4_14 : decode prog_13_method_6_code 14 = .ok (.getfield 17, 3) := by decide +kernel
theorem d4_17 : decode prog_13_method_6_code 17 = .ok (.iload_n 1, 1) := by decide +kernel
theorem d4_18 : decode prog_13_method_6_code 18 = .ok (.iaload, 1) := by decide +kernel
theorem d4_19 : decode prog_13_method_6_code 19 = .ok (.goto 4, 3) := by decide +kernel
set_option maxRecDepth 65536 in
set_option maxHeartbeats 40000000 in
theorem own_c4 (l : Launch) (Z : State) (a0 : Array Value) (hw : ∀ d ∈ tables_1, d.before a0 Z = true) (o : Addr) (q : Int32) (n : Nat) (F : Nat → Int32) (k : Int32) (h0 : Heap) (n0 : Nat) (H : own_AC Z h0 o n0 n F k) :
    Con l Z (⟨"org/eventropy/core/ActivityCounts", "place", "(I)I"⟩ : MethodName) prog_13_method_6_code 2 (some .int) [] ({ frames := 0, cells := 0, slots := 0, locals := 0 } : Room) 0 0 #[(.ref o), (.int q)] h0 (fun r h L => r = some (.int (if q < 0 then -1 else if q < Int32.ofNat n then F q.toNatClampNeg else -1)) ∧ h = h0 ∧ L = []) := by
  refine Con.of own_pn2 ?_
  intro pg ev s_ m bl mt cd s₁ hx hby hml hown hnm hret hlk hZ X0 e0
  rw [ef_4]
  show Gd _ _ _ _ (s₁.setTop (mkF m 0 #[.val (.ref o), .val (.int q)] []))
  obtain ⟨P, C, J, gC, gJ, E, F1, F2, F3, F4, A1, A2, A3, -⟩ := H
  have hn := A1.n31
  refine Gd.go (fun _ w_k => XS.iloadN X0.here hx rfl (hb hby d4_0) rfl w_k) ?_
  show Gd _ _ _ _ (s₁.setTop (mkF m 1 #[.val (.ref o), .val (.int q)] [(.int q)]))
  by_cases hc1 : q < (0 : Int32)
  · refine Gd.go (fun _ w_k => XS.ifYes X0.here hx rfl (pc0 := 1) (pc' := 22) rfl (hb hby d4_1) rfl ((if0 _ _).trans (tlt hc1).1) (by decide) (by decide) w_k) ?_
    show Gd _ _ _ _ (s₁.setTop (mkF m 22 #[.val (.ref o), .val (.int q)] []))
    refine Gd.go (fun _ w_k => XS.iconst X0.here hx rfl (hb hby d4_22) w_k) ?_
    show Gd _ _ _ _ (s₁.setTop (mkF m 23 #[.val (.ref o), .val (.int q)] [(.int (-1 : Int32))]))
    refine own_retI X0 hx hret hlk (hb hby d4_23) ?_ (by decide) (by decide)
    exact ⟨by rw [show (if q < 0 then -1 else if q < Int32.ofNat n then F q.toNatClampNeg else -1) = _ from if_pos hc1], e0, rfl⟩
  · refine Gd.go (fun _ w_k => XS.ifNo X0.here hx rfl (hb hby d4_1) rfl ((if0 _ _).trans (flt hc1).1) w_k) ?_
    show Gd _ _ _ _ (s₁.setTop (mkF m 4 #[.val (.ref o), .val (.int q)] []))
    refine Gd.go (fun _ w_k => XS.iloadN X0.here hx rfl (hb hby d4_4) rfl w_k) ?_
    show Gd _ _ _ _ (s₁.setTop (mkF m 5 #[.val (.ref o), .val (.int q)] [(.int q)]))
    refine Gd.go (fun _ w_k => XS.aloadN X0.here hx rfl (hb hby d4_5) rfl rfl w_k) ?_
    show Gd _ _ _ _ (s₁.setTop (mkF m 6 #[.val (.ref o), .val (.int q)] [(.ref o), (.int q)]))
    obtain ⟨T2, X2, e2, st2⟩ := getF X0 hx hZ hown (host := "") (Or.inl (hw _ (List.mem_of_getElem? (i := 16) rfl))) Via.refl e0 F1 (g := (mkF m 6 #[.val (.ref o), .val (.int q)] [(.ref o), (.int q)])) rfl rfl (hb hby d4_6)
    refine Gd.go (fun _ w_k => st2 _ w_k) ?_
    show Gd _ _ _ _ (T2.setTop (mkF m 9 #[.val (.ref o), .val (.int q)] [(.ref P), (.int q)]))
    refine Gd.go (fun _ w_k => own_len X2 hx hZ e2 A1 (z := (Int32.ofNat n)) rfl (g := (mkF m 9 #[.val (.ref o), .val (.int q)] [(.ref P), (.int q)])) rfl rfl (hb hby d4_9) _ w_k) ?_
    show Gd _ _ _ _ (T2.setTop (mkF m 10 #[.val (.ref o), .val (.int q)] [(.int (Int32.ofNat n)), (.int q)]))
    by_cases hc3 : q < (Int32.ofNat n)
    · refine Gd.go (fun _ w_k => XS.icmpNo X2.here hx rfl (hb hby d4_10) rfl (tlt hc3).2.1 w_k) ?_
      show Gd _ _ _ _ (T2.setTop (mkF m 13 #[.val (.ref o), .val (.int q)] []))
      refine Gd.go (fun _ w_k => XS.aloadN X2.here hx rfl (hb hby d4_13) rfl rfl w_k) ?_
      show Gd _ _ _ _ (T2.setTop (mkF m 14 #[.val (.ref o), .val (.int q)] [(.ref o)]))
      obtain ⟨T4, X4, e4, st4⟩ := getF X2 hx hZ hown (host := "") (Or.inl (hw _ (List.mem_of_getElem? (i := 16) rfl))) Via.refl e2 F1 (g := (mkF m 14 #[.val (.ref o), .val (.int q)] [(.ref o)])) rfl rfl (hb hby d4_14)
      refine Gd.go (fun _ w_k => st4 _ w_k) ?_
      show Gd _ _ _ _ (T4.setTop (mkF m 17 #[.val (.ref o), .val (.int q)] [(.ref P)]))
      refine Gd.go (fun _ w_k => XS.iloadN X4.here hx rfl (hb hby d4_17) rfl w_k) ?_
      show Gd _ _ _ _ (T4.setTop (mkF m 18 #[.val (.ref o), .val (.int q)] [(.int q), (.ref P)]))
      refine Gd.go (fun _ w_k => own_ldI X4 hx hZ e4 A1 (j := q) (own_nn hc1) (own_ub hn hc3) (v := (.int (F q.toNatClampNeg))) rfl (g := (mkF m 18 #[.val (.ref o), .val (.int q)] [(.int q), (.ref P)])) rfl rfl (hb hby d4_18) _ w_k) ?_
      show Gd _ _ _ _ (T4.setTop (mkF m 19 #[.val (.ref o), .val (.int q)] [(.int (F q.toNatClampNeg))]))
      refine Gd.go (fun _ w_k => XS.goto X4.here hx rfl (pc0 := 19) (pc' := 23) rfl (hb hby d4_19) (by decide) (by decide) w_k) ?_
      show Gd _ _ _ _ (T4.setTop (mkF m 23 #[.val (.ref o), .val (.int q)] [(.int (F q.toNatClampNeg))]))
      refine own_retI X4 hx hret hlk (hb hby d4_23) ?_ (by decide) (by decide)
      exact ⟨by rw [show (if q < 0 then -1 else if q < Int32.ofNat n then F q.toNatClampNeg else -1) = _ from (if_neg hc1).trans (if_pos hc3)], e4, rfl⟩
    · refine Gd.go (fun _ w_k => XS.icmpYes X2.here hx rfl (pc0 := 10) (pc' := 22) rfl (hb hby d4_10) rfl (flt hc3).2.1 (by decide) (by decide) w_k) ?_
      show Gd _ _ _ _ (T2.setTop (mkF m 22 #[.val (.ref o), .val (.int q)] []))
      refine Gd.go (fun _ w_k => XS.iconst X2.here hx rfl (hb hby d4_22) w_k) ?_
      show Gd _ _ _ _ (T2.setTop (mkF m 23 #[.val (.ref o), .val (.int q)] [(.int (-1 : Int32))]))
      refine own_retI X2 hx hret hlk (hb hby d4_23) ?_ (by decide) (by decide)
      exact ⟨by rw [show (if q < 0 then -1 else if q < Int32.ofNat n then F q.toNatClampNeg else -1) = _ from (if_neg hc1).trans (if_neg hc3)], e2, rfl⟩
theorem own_pn3 : plainFor (⟨"org/eventropy/core/ActivityCounts", "add", "(IJ)V"⟩ : MethodName) = true := by first | exact plainFor_of_name (by first | (simp [plainName, overriddenIn, x]; done) | decide +kernel) | decide +kernel
theorem ef_5 (m : MethodId) (q0 : Addr) (q1 : Int32) (q2 : Int64) : entryFrame m #[(.ref q0), (.int q1), (.long q2)] 5 = mkF m 0 #[.val (.ref q0), .val (.int q1), .val (.long q2), .second, .unset] [] := by first | (simp [entryFrame, mkF, argsToLocals, Value.category, maxLocals]; done) | rfl
theorem own_b1 {k : Int32} {b : Int} (h : 0 ≤ k.toInt ∧ k.toInt ≤ b) : 0 ≤ k.toInt := h.1
theorem own_b2 {k : Int32} {b : Int} (hb : b ≤ 8) (h : 0 ≤ k.toInt ∧ k.toInt ≤ b) : k.toInt < ((16 : Nat) : Int) := by omega
theorem own_b3 {k : Int32} {b : Int} (h : k = -1 ∨ (0 ≤ k.toInt ∧ k.toInt ≤ b)) (q : ¬ k = -1) : 0 ≤ k.toInt := by rcases h with h | h; exact absurd h q; exact h.1
theorem own_b4 {k : Int32} {b : Int} (hb : b ≤ 8) (h : k = -1 ∨ (0 ≤ k.toInt ∧ k.toInt ≤ b)) (q : ¬ k = -1) : k.toInt < ((16 : Nat) : Int) := by rcases h with h | h; exact absurd h q; omega
theorem own_b5 {k : Int32} {b : Int} (hb : b ≤ 8) (h : 0 ≤ k.toInt ∧ k.toInt ≤ b) : ¬ k = 16 := fun q => by subst q; have : (16 : Int32).toInt = 16 := rfl; omega
theorem d5_0 : decode prog_13_method_2_code 0 = .ok (.aload_n 0, 1) := by decide +kernel
theorem d5_1 : decode prog_13_method_2_code 1 = .ok (.getfield 17, 3) := by decide +kernel
theorem d5_4 : decode prog_13_method_2_code 4 = .ok (.iload_n 1, 1) := by decide +kernel
theorem d5_5 : decode prog_13_method_2_code 5 = .ok (.iaload, 1) := by decide +kernel
theorem d5_6 : decode prog_13_method_2_code 6 = .ok (.istore 4, 2) := by decide +kernel
theorem d5_8 : decode prog_13_method_2_code 8 = .ok (.iload 4, 2) := by decide +kernel
theorem d5_10 : decode prog_13_method_2_code 10 = .ok (.iconst (-1), 1) := by decide +kernel
theorem d5_11 : decode prog_13_method_2_code 11 = .ok (.if_icmp .ne 78, 3) := by decide +kernel
theorem d5_14 : decode prog_13_method_2_code 14 = .ok (.aload_n 0, 1) := by decide +kernel
theorem d5_15 : decode prog_13_method_2_code 15 = .ok (.getfield 28, 3) := by decide +kernel
theorem d5_18 : decode prog_13_method_2_code 18 = .ok (.aload_n 0, 1) := by decide +kernel
theorem d5_19 : decode prog_13_method_2_code 19 = .ok (.getfield 9, 3) := by decide +kernel
theorem d5_22 : decode prog_13_method_2_code 22 = .ok (.arraylength, 1) := by decide +kernel
theorem d5_23 : decode prog_13_method_2_code 23 = .ok (.if_icmp .ne 37, 3) := by decide +kernel
theorem d5_60 : decode prog_13_method_2_code 60 = .ok (.aload_n 0, 1) := by decide +kernel
theorem d5_61 : decode prog_13_method_2_code 61 = .ok (.dup, 1) := by decide +kernel
theorem d5_62 : decode prog_13_method_2_code 62 = .ok (.getfield 28, 3) := by decide +kernel
theorem d5_65 : decode prog_13_method_2_code 65 = .ok (.dup_x1, 1) := by decide +kernel
theorem d5_66 : decode prog_13_method_2_code 66 = .ok (.iconst 1, 1) := by decide +kernel
theorem d5_67 : decode prog_13_method_2_code 67 = .ok (.iadd, 1) := by decide +kernel
theorem d5_68 : decode prog_13_method_2_code 68 = .ok (.putfield 28, 3) := by decide +kernel
theorem d5_71 : decode prog_13_method_2_code 71 = .ok (.istore 4, 2) := by decide +kernel
theorem d5_73 : decode prog_13_method_2_code 73 = .ok (.aload_n 0, 1) := by decide +kernel
theorem d5_74 : decode prog_13_method_2_code 74 = .ok (.getfield 17, 3) := by decide +kernel
theorem d5_77 : decode prog_13_method_2_code 77 = .ok (.iload_n 1, 1) := by decide +kernel
theorem d5_78 : decode prog_13_method_2_code 78 = .ok (.iload 4, 2) := by decide +kernel
theorem d5_80 : decode prog_13_method_2_code 80 = .ok (.iastore, 1) := by decide +kernel
theorem d5_81 : decode prog_13_method_2_code 81 = .ok (.aload_n 0, 1) := by decide +kernel
theorem d5_82 : decode prog_13_method_2_code 82 = .ok (.getfield 9, 3) := by decide +kernel
theorem d5_85 : decode prog_13_method_2_code 85 = .ok (.iload 4, 2) := by decide +kernel
theorem d5_87 : decode prog_13_method_2_code 87 = .ok (.iload_n 1, 1) := by decide +kernel
theorem d5_88 : decode prog_13_method_2_code 88 = .ok (.iastore, 1) := by decide +kernel
theorem d5_89 : decode prog_13_method_2_code 89 = .ok (.aload_n 0, 1) := by decide +kernel
theorem d5_90 : decode prog_13_method_2_code 90 = .ok (.getfield 13, 3) := by decide +kernel
theorem d5_93 : decode prog_13_method_2_code 93 = .ok (.iload 4, 2) := by decide +kernel
theorem d5_95 : decode prog_13_method_2_code 95 = .ok (.dup2, 1) := by decide +kernel
theorem d5_96 : decode prog_13_method_2_code 96 = .ok (.laload, 1) := by decide +kernel
theorem d5_97 : decode prog_13_method_2_code 97 = .ok (.lload_n 2, 1) := by decide +kernel
theorem d5_98 : decode prog_13_method_2_code 98 = .ok (.ladd, 1) := by decide +kernel
theorem d5_99 : decode prog_13_method_2_code 99 = .ok (.lastore, 1) := by decide +kernel
theorem d5_100 : decode prog_13_method_2_code 100 = .ok (.return_, 1) := by decide +kernel
set_option maxRecDepth 65536 in
set_option maxHeartbeats 40000000 in
theorem own_c5 (l : Launch) (Z : State) (a0 : Array Value) (hw : ∀ d ∈ tables_1, d.before a0 Z = true) (o : Addr) (q : Int32) (w : Int64) (n : Nat) (F : Nat → Int32) (k : Int32) (b : Int) (hb8 : b ≤ 8) (h0 : Heap) (n0 : Nat) (H : own_AC Z h0 o n0 n F k) (hok : own_ok F k b) (hq : 0 ≤ q.toInt ∧ q.toInt < n) :
    Con l Z (⟨"org/eventropy/core/ActivityCounts", "add", "(IJ)V"⟩ : MethodName) prog_13_method_2_code 5 none [] ({ frames := 0, cells := 0, slots := 0, locals := 0 } : Room) 0 0 #[(.ref o), (.int q), (.long w)] h0 (fun r h L => r = none ∧ own_AC Z h o n0 n (own_F F k q.toNatClampNeg) (own_k F k q.toNatClampNeg) ∧ Fr n0 L) := by
  refine Con.of own_pn3 ?_
  intro pg ev s_ m bl mt cd s₁ hx hby hml hown hnm hret hlk hZ X0 e0
  rw [ef_5]
  show Gd _ _ _ _ (s₁.setTop (mkF m 0 #[.val (.ref o), .val (.int q), .val (.long w), .second, .unset] []))
  obtain ⟨P, C, J, gC, gJ, E, F1, F2, F3, F4, A1, A2, A3, ⟨go, gP, gC', gJ'⟩, ne1, ne2, ne3, ne4, ne5, ne6⟩ := H
  have N0 := Fr.nil n0
  have hk := hok.1
  have hF := hok.2 q.toNatClampNeg
  refine Gd.go (fun _ w_k => XS.aloadN X0.here hx rfl (hb hby d5_0) rfl rfl w_k) ?_
  show Gd _ _ _ _ (s₁.setTop (mkF m 1 #[.val (.ref o), .val (.int q), .val (.long w), .second, .unset] [(.ref o)]))
  obtain ⟨T1, X1, e1, st1⟩ := getF X0 hx hZ hown (host := "") (Or.inl (hw _ (List.mem_of_getElem? (i := 16) rfl))) Via.refl e0 F1 (g := (mkF m 1 #[.val (.ref o), .val (.int q), .val (.long w), .second, .unset] [(.ref o)])) rfl rfl (hb hby d5_1)
  refine Gd.go (fun _ w_k => st1 _ w_k) ?_
  show Gd _ _ _ _ (T1.setTop (mkF m 4 #[.val (.ref o), .val (.int q), .val (.long w), .second, .unset] [(.ref P)]))
  refine Gd.go (fun _ w_k => XS.iloadN X1.here hx rfl (hb hby d5_4) rfl w_k) ?_
  show Gd _ _ _ _ (T1.setTop (mkF m 5 #[.val (.ref o), .val (.int q), .val (.long w), .second, .unset] [(.int q), (.ref P)]))
  refine Gd.go (fun _ w_k => own_ldI X1 hx hZ e1 A1 (j := q) hq.1 hq.2 (v := (.int (F q.toNatClampNeg))) rfl (g := (mkF m 5 #[.val (.ref o), .val (.int q), .val (.long w), .second, .unset] [(.int q), (.ref P)])) rfl rfl (hb hby d5_5) _ w_k) ?_
  show Gd _ _ _ _ (T1.setTop (mkF m 6 #[.val (.ref o), .val (.int q), .val (.long w), .second, .unset] [(.int (F q.toNatClampNeg))]))
  refine Gd.go (fun _ w_k => XS.istore X1.here hx rfl (hb hby d5_6) rfl (l' := #[.val (.ref o), .val (.int q), .val (.long w), .second, .val (.int (F q.toNatClampNeg))]) rfl w_k) ?_
  show Gd _ _ _ _ (T1.setTop (mkF m 8 #[.val (.ref o), .val (.int q), .val (.long w), .second, .val (.int (F q.toNatClampNeg))] []))
  refine Gd.go (fun _ w_k => XS.iload X1.here hx rfl (hb hby d5_8) rfl w_k) ?_
  show Gd _ _ _ _ (T1.setTop (mkF m 10 #[.val (.ref o), .val (.int q), .val (.long w), .second, .val (.int (F q.toNatClampNeg))] [(.int (F q.toNatClampNeg))]))
  refine Gd.go (fun _ w_k => XS.iconst X1.here hx rfl (hb hby d5_10) w_k) ?_
  show Gd _ _ _ _ (T1.setTop (mkF m 11 #[.val (.ref o), .val (.int q), .val (.long w), .second, .val (.int (F q.toNatClampNeg))] [(.int (-1 : Int32)), (.int (F q.toNatClampNeg))]))
  by_cases hc2 : (F q.toNatClampNeg) = (-1 : Int32)
  · refine Gd.go (fun _ w_k => XS.icmpNo X1.here hx rfl (hb hby d5_11) rfl (teq hc2).2 w_k) ?_
    show Gd _ _ _ _ (T1.setTop (mkF m 14 #[.val (.ref o), .val (.int q), .val (.long w), .second, .val (.int (F q.toNatClampNeg))] []))
    refine Gd.go (fun _ w_k => XS.aloadN X1.here hx rfl (hb hby d5_14) rfl rfl w_k) ?_
    show Gd _ _ _ _ (T1.setTop (mkF m 15 #[.val (.ref o), .val (.int q), .val (.long w), .second, .val (.int (F q.toNatClampNeg))] [(.ref o)]))
    obtain ⟨T3, X3, e3, st3⟩ := getF X1 hx hZ hown (host := "") (Or.inl (hw _ (List.mem_of_getElem? (i := 32) rfl))) Via.refl e1 F4 (g := (mkF m 15 #[.val (.ref o), .val (.int q), .val (.long w), .second, .val (.int (F q.toNatClampNeg))] [(.ref o)])) rfl rfl (hb hby d5_15)
    refine Gd.go (fun _ w_k => st3 _ w_k) ?_
    show Gd _ _ _ _ (T3.setTop (mkF m 18 #[.val (.ref o), .val (.int q), .val (.long w), .second, .val (.int (F q.toNatClampNeg))] [(.int k)]))
    refine Gd.go (fun _ w_k => XS.aloadN X3.here hx rfl (hb hby d5_18) rfl rfl w_k) ?_
    show Gd _ _ _ _ (T3.setTop (mkF m 19 #[.val (.ref o), .val (.int q), .val (.long w), .second, .val (.int (F q.toNatClampNeg))] [(.ref o), (.int k)]))
    obtain ⟨T4, X4, e4, st4⟩ := getF X3 hx hZ hown (host := "") (Or.inl (hw _ (List.mem_of_getElem? (i := 11) rfl))) Via.refl e3 F2 (g := (mkF m 19 #[.val (.ref o), .val (.int q), .val (.long w), .second, .val (.int (F q.toNatClampNeg))] [(.ref o), (.int k)])) rfl rfl (hb hby d5_19)
    refine Gd.go (fun _ w_k => st4 _ w_k) ?_
    show Gd _ _ _ _ (T4.setTop (mkF m 22 #[.val (.ref o), .val (.int q), .val (.long w), .second, .val (.int (F q.toNatClampNeg))] [(.ref C), (.int k)]))
    refine Gd.go (fun _ w_k => own_len X4 hx hZ e4 A2 (z := (16 : Int32)) rfl (g := (mkF m 22 #[.val (.ref o), .val (.int q), .val (.long w), .second, .val (.int (F q.toNatClampNeg))] [(.ref C), (.int k)])) rfl rfl (hb hby d5_22) _ w_k) ?_
    show Gd _ _ _ _ (T4.setTop (mkF m 23 #[.val (.ref o), .val (.int q), .val (.long w), .second, .val (.int (F q.toNatClampNeg))] [(.int (16 : Int32)), (.int k)]))
    refine Gd.go (fun _ w_k => XS.icmpYes X4.here hx rfl (pc0 := 23) (pc' := 60) rfl (hb hby d5_23) rfl (feq (own_b5 hb8 hk)).2 (by decide) (by decide) w_k) ?_
    show Gd _ _ _ _ (T4.setTop (mkF m 60 #[.val (.ref o), .val (.int q), .val (.long w), .second, .val (.int (F q.toNatClampNeg))] []))
    refine Gd.go (fun _ w_k => XS.aloadN X4.here hx rfl (hb hby d5_60) rfl rfl w_k) ?_
    show Gd _ _ _ _ (T4.setTop (mkF m 61 #[.val (.ref o), .val (.int q), .val (.long w), .second, .val (.int (F q.toNatClampNeg))] [(.ref o)]))
    refine Gd.go (fun _ w_k => XS.dup X4.here hx rfl (hb hby d5_61) rfl rfl w_k) ?_
    show Gd _ _ _ _ (T4.setTop (mkF m 62 #[.val (.ref o), .val (.int q), .val (.long w), .second, .val (.int (F q.toNatClampNeg))] [(.ref o), (.ref o)]))
    obtain ⟨T5, X5, e5, st5⟩ := getF X4 hx hZ hown (host := "") (Or.inl (hw _ (List.mem_of_getElem? (i := 32) rfl))) Via.refl e4 F4 (g := (mkF m 62 #[.val (.ref o), .val (.int q), .val (.long w), .second, .val (.int (F q.toNatClampNeg))] [(.ref o), (.ref o)])) rfl rfl (hb hby d5_62)
    refine Gd.go (fun _ w_k => st5 _ w_k) ?_
    show Gd _ _ _ _ (T5.setTop (mkF m 65 #[.val (.ref o), .val (.int q), .val (.long w), .second, .val (.int (F q.toNatClampNeg))] [(.int k), (.ref o)]))
    refine Gd.go (fun _ w_k => XS.dupX1 X5.here hx rfl (hb hby d5_65) rfl rfl rfl w_k) ?_
    show Gd _ _ _ _ (T5.setTop (mkF m 66 #[.val (.ref o), .val (.int q), .val (.long w), .second, .val (.int (F q.toNatClampNeg))] [(.int k), (.ref o), (.int k)]))
    refine Gd.go (fun _ w_k => XS.iconst X5.here hx rfl (hb hby d5_66) w_k) ?_
    show Gd _ _ _ _ (T5.setTop (mkF m 67 #[.val (.ref o), .val (.int q), .val (.long w), .second, .val (.int (F q.toNatClampNeg))] [(.int (1 : Int32)), (.int k), (.ref o), (.int k)]))
    refine Gd.go (fun _ w_k => XS.iadd X5.here hx rfl (hb hby d5_67) rfl w_k) ?_
    show Gd _ _ _ _ (T5.setTop (mkF m 68 #[.val (.ref o), .val (.int q), .val (.long w), .second, .val (.int (F q.toNatClampNeg))] [(.int (k + (1 : Int32))), (.ref o), (.int k)]))
    obtain ⟨T6, h6, X6, e6, W6, st6⟩ := putF X5 hx hZ hown (host := "") (Or.inl (hw _ (List.mem_of_getElem? (i := 32) rfl))) Via.refl e5 F4 E (Or.inl (hw _ (List.mem_of_getElem? (i := 33) rfl))) (hw _ (List.mem_of_getElem? (i := 2) rfl)) (ty := .int) (by decide) rfl rfl (g := (mkF m 68 #[.val (.ref o), .val (.int q), .val (.long w), .second, .val (.int (F q.toNatClampNeg))] [(.int (k + (1 : Int32))), (.ref o), (.int k)])) rfl rfl (hb hby d5_68)
    refine Gd.go (fun _ w_k => st6 _ w_k) ?_
    have xF7 := E.wr W6
    have xF8 := F1.other W6 (Or.inr (slot_ne (Or.inr (hw _ (List.mem_of_getElem? (i := 17) rfl))) (Or.inl (hw _ (List.mem_of_getElem? (i := 33) rfl))) (by decide) (t := (.array .int)) (t' := .int) (by decide) (by decide)))
    have xF9 := F2.other W6 (Or.inr (slot_ne (Or.inl (hw _ (List.mem_of_getElem? (i := 12) rfl))) (Or.inl (hw _ (List.mem_of_getElem? (i := 33) rfl))) (by decide) (t := (.array .int)) (t' := .int) (by decide) (by decide)))
    have xF10 := F3.other W6 (Or.inr (slot_ne (Or.inl (hw _ (List.mem_of_getElem? (i := 15) rfl))) (Or.inl (hw _ (List.mem_of_getElem? (i := 33) rfl))) (by decide) (t := (.array .long)) (t' := .int) (by decide) (by decide)))
    have xF11 := F4.same W6
    have xF12 := A1.other W6 (Ne.symm ne1)
    have xF13 := A2.other W6 (Ne.symm ne2)
    have xF14 := A3.other W6 (Ne.symm ne3)
    have xN15 := Fr.snoc X6 N0 go
    show Gd _ _ _ _ (T6.setTop (mkF m 71 #[.val (.ref o), .val (.int q), .val (.long w), .second, .val (.int (F q.toNatClampNeg))] [(.int k)]))
    refine Gd.go (fun _ w_k => XS.istore X6.here hx rfl (hb hby d5_71) rfl (l' := #[.val (.ref o), .val (.int q), .val (.long w), .second, .val (.int k)]) rfl w_k) ?_
    show Gd _ _ _ _ (T6.setTop (mkF m 73 #[.val (.ref o), .val (.int q), .val (.long w), .second, .val (.int k)] []))
    refine Gd.go (fun _ w_k => XS.aloadN X6.here hx rfl (hb hby d5_73) rfl rfl w_k) ?_
    show Gd _ _ _ _ (T6.setTop (mkF m 74 #[.val (.ref o), .val (.int q), .val (.long w), .second, .val (.int k)] [(.ref o)]))
    obtain ⟨T16, X16, e16, st16⟩ := getF X6 hx hZ hown (host := "") (Or.inl (hw _ (List.mem_of_getElem? (i := 16) rfl))) Via.refl e6 xF8 (g := (mkF m 74 #[.val (.ref o), .val (.int q), .val (.long w), .second, .val (.int k)] [(.ref o)])) rfl rfl (hb hby d5_74)
    refine Gd.go (fun _ w_k => st16 _ w_k) ?_
    show Gd _ _ _ _ (T16.setTop (mkF m 77 #[.val (.ref o), .val (.int q), .val (.long w), .second, .val (.int k)] [(.ref P)]))
    refine Gd.go (fun _ w_k => XS.iloadN X16.here hx rfl (hb hby d5_77) rfl w_k) ?_
    show Gd _ _ _ _ (T16.setTop (mkF m 78 #[.val (.ref o), .val (.int q), .val (.long w), .second, .val (.int k)] [(.int q), (.ref P)]))
    refine Gd.go (fun _ w_k => XS.iload X16.here hx rfl (hb hby d5_78) rfl w_k) ?_
    show Gd _ _ _ _ (T16.setTop (mkF m 80 #[.val (.ref o), .val (.int q), .val (.long w), .second, .val (.int k)] [(.int k), (.int q), (.ref P)]))
    obtain ⟨T17, h17, X17, e17, W17, st17⟩ := own_stI X16 hx hZ e16 xF12 (j := q) hq.1 hq.2 (g := (mkF m 80 #[.val (.ref o), .val (.int q), .val (.long w), .second, .val (.int k)] [(.int k), (.int q), (.ref P)])) rfl rfl (hb hby d5_80)
    refine Gd.go (fun _ w_k => st17 _ w_k) ?_
    have xF18 := xF7.wr W17
    have xF19 := xF8.other W17 (Or.inl ne1)
    have xF20 := xF9.other W17 (Or.inl ne1)
    have xF21 := xF10.other W17 (Or.inl ne1)
    have xF22 := xF11.other W17 (Or.inl ne1)
    have xF23 := xF12.set W17
    have xF24 := xF13.other W17 (Ne.symm ne4)
    have xF25 := xF14.other W17 (Ne.symm ne5)
    have xN26 := Fr.snoc X17 xN15 gP
    show Gd _ _ _ _ (T17.setTop (mkF m 81 #[.val (.ref o), .val (.int q), .val (.long w), .second, .val (.int k)] []))
    refine Gd.go (fun _ w_k => XS.aloadN X17.here hx rfl (hb hby d5_81) rfl rfl w_k) ?_
    show Gd _ _ _ _ (T17.setTop (mkF m 82 #[.val (.ref o), .val (.int q), .val (.long w), .second, .val (.int k)] [(.ref o)]))
    obtain ⟨T27, X27, e27, st27⟩ := getF X17 hx hZ hown (host := "") (Or.inl (hw _ (List.mem_of_getElem? (i := 11) rfl))) Via.refl e17 xF20 (g := (mkF m 82 #[.val (.ref o), .val (.int q), .val (.long w), .second, .val (.int k)] [(.ref o)])) rfl rfl (hb hby d5_82)
    refine Gd.go (fun _ w_k => st27 _ w_k) ?_
    show Gd _ _ _ _ (T27.setTop (mkF m 85 #[.val (.ref o), .val (.int q), .val (.long w), .second, .val (.int k)] [(.ref C)]))
    refine Gd.go (fun _ w_k => XS.iload X27.here hx rfl (hb hby d5_85) rfl w_k) ?_
    show Gd _ _ _ _ (T27.setTop (mkF m 87 #[.val (.ref o), .val (.int q), .val (.long w), .second, .val (.int k)] [(.int k), (.ref C)]))
    refine Gd.go (fun _ w_k => XS.iloadN X27.here hx rfl (hb hby d5_87) rfl w_k) ?_
    show Gd _ _ _ _ (T27.setTop (mkF m 88 #[.val (.ref o), .val (.int q), .val (.long w), .second, .val (.int k)] [(.int q), (.int k), (.ref C)]))
    obtain ⟨T28, h28, X28, e28, W28, st28⟩ := own_stI X27 hx hZ e27 xF24 (j := k) (own_b1 hk) (own_b2 hb8 hk) (g := (mkF m 88 #[.val (.ref o), .val (.int q), .val (.long w), .second, .val (.int k)] [(.int q), (.int k), (.ref C)])) rfl rfl (hb hby d5_88)
    refine Gd.go (fun _ w_k => st28 _ w_k) ?_
    have xF29 := xF18.wr W28
    have xF30 := xF19.other W28 (Or.inl ne2)
    have xF31 := xF20.other W28 (Or.inl ne2)
    have xF32 := xF21.other W28 (Or.inl ne2)
    have xF33 := xF22.other W28 (Or.inl ne2)
    have xF34 := xF23.other W28 ne4
    have xF35 := xF24.set W28
    have xF36 := xF25.other W28 (Ne.symm ne6)
    have xN37 := Fr.snoc X28 xN26 gC'
    show Gd _ _ _ _ (T28.setTop (mkF m 89 #[.val (.ref o), .val (.int q), .val (.long w), .second, .val (.int k)] []))
    refine Gd.go (fun _ w_k => XS.aloadN X28.here hx rfl (hb hby d5_89) rfl rfl w_k) ?_
    show Gd _ _ _ _ (T28.setTop (mkF m 90 #[.val (.ref o), .val (.int q), .val (.long w), .second, .val (.int k)] [(.ref o)]))
    obtain ⟨T38, X38, e38, st38⟩ := getF X28 hx hZ hown (host := "") (Or.inl (hw _ (List.mem_of_getElem? (i := 14) rfl))) Via.refl e28 xF32 (g := (mkF m 90 #[.val (.ref o), .val (.int q), .val (.long w), .second, .val (.int k)] [(.ref o)])) rfl rfl (hb hby d5_90)
    refine Gd.go (fun _ w_k => st38 _ w_k) ?_
    show Gd _ _ _ _ (T38.setTop (mkF m 93 #[.val (.ref o), .val (.int q), .val (.long w), .second, .val (.int k)] [(.ref J)]))
    refine Gd.go (fun _ w_k => XS.iload X38.here hx rfl (hb hby d5_93) rfl w_k) ?_
    show Gd _ _ _ _ (T38.setTop (mkF m 95 #[.val (.ref o), .val (.int q), .val (.long w), .second, .val (.int k)] [(.int k), (.ref J)]))
    refine Gd.go (fun _ w_k => XT.dup2 X38.here hx rfl (hb hby d5_95) rfl rfl rfl w_k) ?_
    show Gd _ _ _ _ (T38.setTop (mkF m 96 #[.val (.ref o), .val (.int q), .val (.long w), .second, .val (.int k)] [(.int k), (.ref J), (.int k), (.ref J)]))
    refine Gd.go (fun _ w_k => own_ldJ X38 hx hZ e38 xF36 (j := k) (own_b1 hk) (own_b2 hb8 hk) (v := (.long (gJ k.toNatClampNeg))) rfl (g := (mkF m 96 #[.val (.ref o), .val (.int q), .val (.long w), .second, .val (.int k)] [(.int k), (.ref J), (.int k), (.ref J)])) rfl rfl (hb hby d5_96) _ w_k) ?_
    show Gd _ _ _ _ (T38.setTop (mkF m 97 #[.val (.ref o), .val (.int q), .val (.long w), .second, .val (.int k)] [(.long (gJ k.toNatClampNeg)), (.int k), (.ref J)]))
    refine Gd.go (fun _ w_k => XS.lloadN X38.here hx rfl (hb hby d5_97) rfl w_k) ?_
    show Gd _ _ _ _ (T38.setTop (mkF m 98 #[.val (.ref o), .val (.int q), .val (.long w), .second, .val (.int k)] [(.long w), (.long (gJ k.toNatClampNeg)), (.int k), (.ref J)]))
    refine Gd.go (fun _ w_k => XS.ladd X38.here hx rfl (hb hby d5_98) rfl w_k) ?_
    show Gd _ _ _ _ (T38.setTop (mkF m 99 #[.val (.ref o), .val (.int q), .val (.long w), .second, .val (.int k)] [(.long ((gJ k.toNatClampNeg) + w)), (.int k), (.ref J)]))
    obtain ⟨T39, h39, X39, e39, W39, st39⟩ := own_stJ X38 hx hZ e38 xF36 (j := k) (own_b1 hk) (own_b2 hb8 hk) (g := (mkF m 99 #[.val (.ref o), .val (.int q), .val (.long w), .second, .val (.int k)] [(.long ((gJ k.toNatClampNeg) + w)), (.int k), (.ref J)])) rfl rfl (hb hby d5_99)
    refine Gd.go (fun _ w_k => st39 _ w_k) ?_
    have xF40 := xF29.wr W39
    have xF41 := xF30.other W39 (Or.inl ne3)
    have xF42 := xF31.other W39 (Or.inl ne3)
    have xF43 := xF32.other W39 (Or.inl ne3)
    have xF44 := xF33.other W39 (Or.inl ne3)
    have xF45 := xF34.other W39 ne5
    have xF46 := xF35.other W39 ne6
    have xF47 := xF36.set W39
    have xN48 := Fr.snoc X39 xN37 gJ'
    show Gd _ _ _ _ (T39.setTop (mkF m 100 #[.val (.ref o), .val (.int q), .val (.long w), .second, .val (.int k)] []))
    refine own_retV X39 hx hret hlk (hb hby d5_100) ?_ (by decide) (by decide)
    rw [e39]
    have AJ := xF47
    rw [own_updJ] at AJ
    have AP := xF45
    rw [own_updI] at AP
    have eF : own_F F k q.toNatClampNeg = (fun i => if i = q.toNatClampNeg then k else F i) := if_pos hc2
    have ek : own_k F k q.toNatClampNeg = k + 1 := if_pos hc2
    rw [eF, ek]
    exact ⟨rfl, ⟨P, C, J, _, _, xF40, xF41, xF42, xF43, xF44, AP, xF46, AJ, ⟨go, gP, gC', gJ'⟩, ne1, ne2, ne3, ne4, ne5, ne6⟩, xN48⟩
  · refine Gd.go (fun _ w_k => XS.icmpYes X1.here hx rfl (pc0 := 11) (pc' := 89) rfl (hb hby d5_11) rfl (feq hc2).2 (by decide) (by decide) w_k) ?_
    show Gd _ _ _ _ (T1.setTop (mkF m 89 #[.val (.ref o), .val (.int q), .val (.long w), .second, .val (.int (F q.toNatClampNeg))] []))
    refine Gd.go (fun _ w_k => XS.aloadN X1.here hx rfl (hb hby d5_89) rfl rfl w_k) ?_
    show Gd _ _ _ _ (T1.setTop (mkF m 90 #[.val (.ref o), .val (.int q), .val (.long w), .second, .val (.int (F q.toNatClampNeg))] [(.ref o)]))
    obtain ⟨T49, X49, e49, st49⟩ := getF X1 hx hZ hown (host := "") (Or.inl (hw _ (List.mem_of_getElem? (i := 14) rfl))) Via.refl e1 F3 (g := (mkF m 90 #[.val (.ref o), .val (.int q), .val (.long w), .second, .val (.int (F q.toNatClampNeg))] [(.ref o)])) rfl rfl (hb hby d5_90)
    refine Gd.go (fun _ w_k => st49 _ w_k) ?_
    show Gd _ _ _ _ (T49.setTop (mkF m 93 #[.val (.ref o), .val (.int q), .val (.long w), .second, .val (.int (F q.toNatClampNeg))] [(.ref J)]))
    refine Gd.go (fun _ w_k => XS.iload X49.here hx rfl (hb hby d5_93) rfl w_k) ?_
    show Gd _ _ _ _ (T49.setTop (mkF m 95 #[.val (.ref o), .val (.int q), .val (.long w), .second, .val (.int (F q.toNatClampNeg))] [(.int (F q.toNatClampNeg)), (.ref J)]))
    refine Gd.go (fun _ w_k => XT.dup2 X49.here hx rfl (hb hby d5_95) rfl rfl rfl w_k) ?_
    show Gd _ _ _ _ (T49.setTop (mkF m 96 #[.val (.ref o), .val (.int q), .val (.long w), .second, .val (.int (F q.toNatClampNeg))] [(.int (F q.toNatClampNeg)), (.ref J), (.int (F q.toNatClampNeg)), (.ref J)]))
    refine Gd.go (fun _ w_k => own_ldJ X49 hx hZ e49 A3 (j := (F q.toNatClampNeg)) (own_b3 hF hc2) (own_b4 hb8 hF hc2) (v := (.long (gJ (F q.toNatClampNeg).toNatClampNeg))) rfl (g := (mkF m 96 #[.val (.ref o), .val (.int q), .val (.long w), .second, .val (.int (F q.toNatClampNeg))] [(.int (F q.toNatClampNeg)), (.ref J), (.int (F q.toNatClampNeg)), (.ref J)])) rfl rfl (hb hby d5_96) _ w_k) ?_
    show Gd _ _ _ _ (T49.setTop (mkF m 97 #[.val (.ref o), .val (.int q), .val (.long w), .second, .val (.int (F q.toNatClampNeg))] [(.long (gJ (F q.toNatClampNeg).toNatClampNeg)), (.int (F q.toNatClampNeg)), (.ref J)]))
    refine Gd.go (fun _ w_k => XS.lloadN X49.here hx rfl (hb hby d5_97) rfl w_k) ?_
    show Gd _ _ _ _ (T49.setTop (mkF m 98 #[.val (.ref o), .val (.int q), .val (.long w), .second, .val (.int (F q.toNatClampNeg))] [(.long w), (.long (gJ (F q.toNatClampNeg).toNatClampNeg)), (.int (F q.toNatClampNeg)), (.ref J)]))
    refine Gd.go (fun _ w_k => XS.ladd X49.here hx rfl (hb hby d5_98) rfl w_k) ?_
    show Gd _ _ _ _ (T49.setTop (mkF m 99 #[.val (.ref o), .val (.int q), .val (.long w), .second, .val (.int (F q.toNatClampNeg))] [(.long ((gJ (F q.toNatClampNeg).toNatClampNeg) + w)), (.int (F q.toNatClampNeg)), (.ref J)]))
    obtain ⟨T50, h50, X50, e50, W50, st50⟩ := own_stJ X49 hx hZ e49 A3 (j := (F q.toNatClampNeg)) (own_b3 hF hc2) (own_b4 hb8 hF hc2) (g := (mkF m 99 #[.val (.ref o), .val (.int q), .val (.long w), .second, .val (.int (F q.toNatClampNeg))] [(.long ((gJ (F q.toNatClampNeg).toNatClampNeg) + w)), (.int (F q.toNatClampNeg)), (.ref J)])) rfl rfl (hb hby d5_99)
    refine Gd.go (fun _ w_k => st50 _ w_k) ?_
    have xF51 := E.wr W50
    have xF52 := F1.other W50 (Or.inl ne3)
    have xF53 := F2.other W50 (Or.inl ne3)
    have xF54 := F3.other W50 (Or.inl ne3)
    have xF55 := F4.other W50 (Or.inl ne3)
    have xF56 := A1.other W50 ne5
    have xF57 := A2.other W50 ne6
    have xF58 := A3.set W50
    have xN59 := Fr.snoc X50 N0 gJ'
    show Gd _ _ _ _ (T50.setTop (mkF m 100 #[.val (.ref o), .val (.int q), .val (.long w), .second, .val (.int (F q.toNatClampNeg))] []))
    refine own_retV X50 hx hret hlk (hb hby d5_100) ?_ (by decide) (by decide)
    rw [e50]
    have AJ := xF58
    rw [own_updJ] at AJ
    have AP := xF56
    have eF : own_F F k q.toNatClampNeg = F := if_neg hc2
    have ek : own_k F k q.toNatClampNeg = k := if_neg hc2
    rw [eF, ek]
    exact ⟨rfl, ⟨P, C, J, _, _, xF51, xF52, xF53, xF54, xF55, AP, xF57, AJ, ⟨go, gP, gC', gJ'⟩, ne1, ne2, ne3, ne4, ne5, ne6⟩, xN59⟩
def own_spec (adds a b c q : Int32) : Int32 := if ¬ adds < 1 ∧ q = a then 0 else if ¬ adds < 2 ∧ q = b then (if b = a then 0 else 1) else if ¬ adds < 3 ∧ q = c then (if c = a then 0 else if c = b then (if b = a then 0 else 1) else (if b = a then 1 else 2)) else -1
theorem own_size (x : Int32) : 1 ≤ ((x &&& 7) + 1).toInt ∧ ((x &&& 7) + 1).toInt ≤ 8 := by
  have := c_mask x 7 3 (by decide) (by decide +kernel)
  have := c_iadd (x &&& 7) 1; have e1 : (1 : Int32).toInt = 1 := rfl
  have := rng32 ((x &&& 7) + 1); omega
theorem own_rem (x z : Int32) (hz : 1 ≤ z.toInt ∧ z.toInt ≤ 8) : 0 ≤ ((x &&& 2147483647) % z).toInt ∧ ((x &&& 2147483647) % z).toInt < z.toInt := by
  have h := c_mask x 2147483647 31 (by decide) (by decide +kernel)
  have := (c_iremV (x &&& 2147483647) z).1 (by omega) (by omega); omega
theorem own_nz {z : Int32} (hz : 1 ≤ z.toInt ∧ z.toInt ≤ 8) : z ≠ 0 := fun q => by subst q; have : (0 : Int32).toInt = 0 := rfl; omega
theorem own_lt12 {x : Int32} (h : x < 1) : x < 2 := by rw [Int32.lt_iff_toInt_lt] at *; have : (1 : Int32).toInt = 1 := rfl; have : (2 : Int32).toInt = 2 := rfl; omega
theorem own_lt23 {x : Int32} (h : x < 2) : x < 3 := by rw [Int32.lt_iff_toInt_lt] at *; have : (3 : Int32).toInt = 3 := rfl; have : (2 : Int32).toInt = 2 := rfl; omega
theorem own_sp0 {adds a b c : Int32} (h : adds < 1) (q : Int32) : (-1 : Int32) = own_spec adds a b c q := by
  simp [own_spec, h, own_lt12 h, own_lt23 (own_lt12 h)]
theorem own_sp1' {adds a b c q : Int32} {A Q : Nat} (qa : Q = A ↔ q = a) (h : ¬ adds < 1) (h2 : adds < 2) : own_F (fun _ => -1) 0 A Q = own_spec adds a b c q := by
  have e : own_F (fun _ => -1) 0 A = fun i => if i = A then 0 else -1 := if_pos rfl
  rw [e]
  simp only [own_spec, qa, eq_false h, eq_true h2, eq_true (own_lt23 h2), not_true_eq_false, not_false_eq_true, true_and, false_and, if_false]
theorem own_sp2' {adds a b c q : Int32} {A B Q : Nat} (qa : Q = A ↔ q = a) (qb : Q = B ↔ q = b) (ba : B = A ↔ b = a) (h : ¬ adds < 1) (h2 : ¬ adds < 2) (h3 : adds < 3) : own_F (own_F (fun _ => -1) 0 A) (own_k (fun _ => -1) 0 A) B Q = own_spec adds a b c q := by
  have e : own_F (fun _ => -1) 0 A = fun i => if i = A then 0 else -1 := if_pos rfl
  have ek : own_k (fun _ => -1) 0 A = 1 := if_pos rfl
  rw [e, ek]
  simp only [own_spec, eq_false h, eq_false h2, eq_true h3, not_true_eq_false, not_false_eq_true, true_and, false_and, if_false]
  by_cases p1 : b = a
  · subst p1; have := ba.mpr rfl; subst this
    simp only [own_F, if_true]
    by_cases p2 : q = b
    · simp [p2, qa.mpr p2]
    · simp [p2, mt qa.mp p2]
  · have nb := mt ba.mp p1
    simp only [own_F, eq_false nb, eq_false p1, if_true, if_false]
    by_cases p2 : q = b
    · have := qb.mpr p2; subst p2 this; simp [p1]
    · by_cases p3 : q = a
      · have := qa.mpr p3; subst p3 this; simp [p2, mt qb.mp p2]
      · simp [p2, p3, mt qb.mp p2, mt qa.mp p3]
theorem own_sp3' {adds a b c q : Int32} {A B C Q : Nat} (qa : Q = A ↔ q = a) (qb : Q = B ↔ q = b) (qc : Q = C ↔ q = c) (ba : B = A ↔ b = a) (ca : C = A ↔ c = a) (cb : C = B ↔ c = b) (h : ¬ adds < 1) (h2 : ¬ adds < 2) (h3 : ¬ adds < 3) :
    own_F (own_F (own_F (fun _ => -1) 0 A) (own_k (fun _ => -1) 0 A) B) (own_k (own_F (fun _ => -1) 0 A) (own_k (fun _ => -1) 0 A) B) C Q = own_spec adds a b c q := by
  have e : own_F (fun _ => -1) 0 A = fun i => if i = A then 0 else -1 := if_pos rfl
  have ek : own_k (fun _ => -1) 0 A = 1 := if_pos rfl
  rw [e, ek]
  simp only [own_spec, eq_false h, eq_false h2, eq_false h3, not_true_eq_false, not_false_eq_true, true_and, false_and, if_false]
  by_cases p1 : b = a
  · subst p1; have := ba.mpr rfl; subst this
    have e2 : own_F (fun i => if i = B then (0 : Int32) else -1) 1 B = fun i => if i = B then 0 else -1 := by simp [own_F]
    have ek2 : own_k (fun i => if i = B then (0 : Int32) else -1) 1 B = 1 := by simp [own_k]
    rw [e2, ek2]
    by_cases p4 : c = b
    · have := cb.mpr p4; subst p4 this
      simp only [own_F, if_true]
      by_cases p2 : q = c
      · simp [p2, qc.mpr p2]
      · simp [p2, mt qc.mp p2]
    · have nc := mt cb.mp p4
      simp only [own_F, eq_false nc, eq_false p4, if_true, if_false]
      by_cases p2 : q = b
      · have := qb.mpr p2; subst p2 this; have : ¬ q = c := fun z => p4 z.symm; simp [this, mt qc.mp this]
      · by_cases p3 : q = c
        · have := qc.mpr p3; subst p3 this; simp [p2]
        · simp [p2, p3, mt qb.mp p2, mt qc.mp p3]
  · have nb := mt ba.mp p1
    have e2 : own_F (fun i => if i = A then (0 : Int32) else -1) 1 B = fun i => if i = B then 1 else if i = A then 0 else -1 := by simp [own_F, nb]
    have ek2 : own_k (fun i => if i = A then (0 : Int32) else -1) 1 B = 2 := by simp only [own_k, eq_false nb, if_false, if_true]; rfl
    rw [e2, ek2]
    simp only [eq_false p1, if_false]
    by_cases p4 : c = b
    · have := cb.mpr p4; subst p4 this
      have nca : ¬ c = a := p1
      simp only [own_F, if_true, eq_false nca, if_false]
      by_cases p2 : q = c
      · have := qc.mpr p2; subst p2 this; simp [p1]
      · by_cases p3 : q = a
        · have := qa.mpr p3; subst p3 this; simp [p2, mt qc.mp p2]
        · simp [p2, p3, mt qc.mp p2, mt qa.mp p3]
    · have nc := mt cb.mp p4
      by_cases p5 : c = a
      · have := ca.mpr p5; subst p5 this
        simp only [own_F, eq_false nc, if_true, if_false]
        by_cases p2 : q = c
        · have := qc.mpr p2; subst p2 this; simp [p4, nc]
        · by_cases p3 : q = b
          · have := qb.mpr p3; subst p3 this; simp [p2]
          · simp [p2, p3, mt qc.mp p2, mt qb.mp p3]
      · have nca := mt ca.mp p5
        simp only [own_F, eq_false nc, eq_false nca, eq_false p4, eq_false p5, if_true, if_false]
        by_cases p2 : q = c
        · have := qc.mpr p2; subst p2 this; simp [p4, p5]
        · by_cases p3 : q = b
          · have := qb.mpr p3; subst p3 this; simp [p1, p2, mt qc.mp p2]
          · by_cases p6 : q = a
            · have := qa.mpr p6; subst p6 this; simp [p2, p3, mt qc.mp p2, mt qb.mp p3]
            · simp [p2, p3, p6, mt qc.mp p2, mt qb.mp p3, mt qa.mp p6]
theorem own_sp1 {adds a b c : Int32} (ha : 0 ≤ a.toInt) (h : ¬ adds < 1) (h2 : adds < 2) (q : Int32) (hq : 0 ≤ q.toInt) : own_F (fun _ => -1) 0 a.toNatClampNeg q.toNatClampNeg = own_spec adds a b c q := own_sp1' (own_natInj hq ha) h h2
theorem own_sp2 {adds a b c : Int32} (ha : 0 ≤ a.toInt) (hb : 0 ≤ b.toInt) (h : ¬ adds < 1) (h2 : ¬ adds < 2) (h3 : adds < 3) (q : Int32) (hq : 0 ≤ q.toInt) :
    own_F (own_F (fun _ => -1) 0 a.toNatClampNeg) (own_k (fun _ => -1) 0 a.toNatClampNeg) b.toNatClampNeg q.toNatClampNeg = own_spec adds a b c q := own_sp2' (own_natInj hq ha) (own_natInj hq hb) (own_natInj hb ha) h h2 h3
theorem own_sp3 {adds a b c : Int32} (ha : 0 ≤ a.toInt) (hb : 0 ≤ b.toInt) (hc : 0 ≤ c.toInt) (h : ¬ adds < 1) (h2 : ¬ adds < 2) (h3 : ¬ adds < 3) (q : Int32) (hq : 0 ≤ q.toInt) :
    own_F (own_F (own_F (fun _ => -1) 0 a.toNatClampNeg) (own_k (fun _ => -1) 0 a.toNatClampNeg) b.toNatClampNeg) (own_k (own_F (fun _ => -1) 0 a.toNatClampNeg) (own_k (fun _ => -1) 0 a.toNatClampNeg) b.toNatClampNeg) c.toNatClampNeg q.toNatClampNeg = own_spec adds a b c q := own_sp3' (own_natInj hq ha) (own_natInj hq hb) (own_natInj hq hc) (own_natInj hb ha) (own_natInj hc ha) (own_natInj hc hb) h h2 h3
theorem own_ofz {z : Int32} (hz : 1 ≤ z.toInt ∧ z.toInt ≤ 8) : Int32.ofNat z.toNatClampNeg = z := Int32.toInt_inj.mp (by have := own_nat (j := z) (by omega); rw [own_ofN (by omega)]; omega)
theorem own_pn4 : plainFor x = true := by first | exact plainFor_of_name (by first | (simp [plainName, overriddenIn, x]; done) | decide +kernel) | decide +kernel
theorem ef_0 (m : MethodId) (q0 : Int32) (q1 : Int32) (q2 : Int32) (q3 : Int32) (q4 : Int32) (q5 : Int32) : entryFrame m #[(.int q0), (.int q1), (.int q2), (.int q3), (.int q4), (.int q5)] maxLocals = mkF m 0 #[.val (.int q0), .val (.int q1), .val (.int q2), .val (.int q3), .val (.int q4), .val (.int q5), .unset, .unset, .unset, .unset, .unset, .unset, .unset, .unset, .unset, .unset, .unset] [] := by first | (simp [entryFrame, mkF, argsToLocals, Value.category, maxLocals]; done) | rfl
theorem own_AC.exa {Z : State} {h : Heap} {o : Addr} {n0 n : Nat} {F : Nat → Int32} {k : Int32} (H : own_AC Z h o n0 n F k) : Exa Z h o "org/eventropy/core/ActivityCounts" := by obtain ⟨_, _, _, _, _, E, -⟩ := H; exact E
theorem own_q {z a : Int32} (hz : 1 ≤ z.toInt ∧ z.toInt ≤ 8) (ha : 0 ≤ a.toInt ∧ a.toInt < z.toInt) : 0 ≤ a.toInt ∧ a.toInt < z.toNatClampNeg := by have := own_nat (j := z) (by omega); omega
theorem own_pd1 : parseMethodDescriptor "(I)V" = some ⟨[.int], none⟩ := by decide +kernel
theorem own_pd2 : parseMethodDescriptor "(IJ)V" = some ⟨[.int, .long], none⟩ := by decide +kernel
theorem own_pd3 : parseMethodDescriptor "(I)I" = some ⟨[.int], some .int⟩ := by decide +kernel
set_option maxRecDepth 65536 in
set_option maxHeartbeats 40000000 in
theorem own_law (l : Launch) (Z : State) (a0 : Array Value) (hw : ∀ d ∈ tables_1, d.before a0 Z = true) (r1 r2 r3 r4 md qy : Int32) (h0 : Heap) (n0 : Nat) (Z0 : n0 ≤ h0.size) :
    Con l Z x code maxLocals ret tables_1 room_1 16 192 #[(.int r1), (.int r2), (.int r3), (.int r4), (.int md), (.int qy)] h0 (fun v h L => v = some (.int 1) ∧ Fr n0 L) := by
  refine Con.of own_pn4 ?_
  intro pg ev s_ m bl mt cd s₁ hx hby hml hown hnm hret hlk hZ X0 e0
  rw [ef_0]
  show Gd _ _ _ _ (s₁.setTop (mkF m 0 #[.val (.int r1), .val (.int r2), .val (.int r3), .val (.int r4), .val (.int md), .val (.int qy), .unset, .unset, .unset, .unset, .unset, .unset, .unset, .unset, .unset, .unset, .unset] []))
  have N0 := Fr.nil n0
  refine Gd.go (fun _ w_k => XS.iloadN X0.here hx rfl (hb hby at_0) rfl w_k) ?_
  show Gd _ _ _ _ (s₁.setTop (mkF m 1 #[.val (.int r1), .val (.int r2), .val (.int r3), .val (.int r4), .val (.int md), .val (.int qy), .unset, .unset, .unset, .unset, .unset, .unset, .unset, .unset, .unset, .unset, .unset] [(.int r1)]))
  refine Gd.go (fun _ w_k => XS.bipush X0.here hx rfl (hb hby at_1) w_k) ?_
  show Gd _ _ _ _ (s₁.setTop (mkF m 3 #[.val (.int r1), .val (.int r2), .val (.int r3), .val (.int r4), .val (.int md), .val (.int qy), .unset, .unset, .unset, .unset, .unset, .unset, .unset, .unset, .unset, .unset, .unset] [(.int (7 : Int32)), (.int r1)]))
  refine Gd.go (fun _ w_k => XS.iand X0.here hx rfl (hb hby at_3) rfl w_k) ?_
  show Gd _ _ _ _ (s₁.setTop (mkF m 4 #[.val (.int r1), .val (.int r2), .val (.int r3), .val (.int r4), .val (.int md), .val (.int qy), .unset, .unset, .unset, .unset, .unset, .unset, .unset, .unset, .unset, .unset, .unset] [(.int (r1 &&& (7 : Int32)))]))
  refine Gd.go (fun _ w_k => XS.iconst X0.here hx rfl (hb hby at_4) w_k) ?_
  show Gd _ _ _ _ (s₁.setTop (mkF m 5 #[.val (.int r1), .val (.int r2), .val (.int r3), .val (.int r4), .val (.int md), .val (.int qy), .unset, .unset, .unset, .unset, .unset, .unset, .unset, .unset, .unset, .unset, .unset] [(.int (1 : Int32)), (.int (r1 &&& (7 : Int32)))]))
  refine Gd.go (fun _ w_k => XS.iadd X0.here hx rfl (hb hby at_5) rfl w_k) ?_
  show Gd _ _ _ _ (s₁.setTop (mkF m 6 #[.val (.int r1), .val (.int r2), .val (.int r3), .val (.int r4), .val (.int md), .val (.int qy), .unset, .unset, .unset, .unset, .unset, .unset, .unset, .unset, .unset, .unset, .unset] [(.int ((r1 &&& (7 : Int32)) + (1 : Int32)))]))
  have g_z := own_size r1
  generalize ((r1 &&& (7 : Int32)) + (1 : Int32)) = z at g_z ⊢
  show Gd _ _ _ _ (s₁.setTop (mkF m 6 #[.val (.int r1), .val (.int r2), .val (.int r3), .val (.int r4), .val (.int md), .val (.int qy), .unset, .unset, .unset, .unset, .unset, .unset, .unset, .unset, .unset, .unset, .unset] [(.int z)]))
  refine Gd.go (fun _ w_k => XS.istore X0.here hx rfl (hb hby at_6) rfl (l' := #[.val (.int r1), .val (.int r2), .val (.int r3), .val (.int r4), .val (.int md), .val (.int qy), .val (.int z), .unset, .unset, .unset, .unset, .unset, .unset, .unset, .unset, .unset, .unset]) rfl w_k) ?_
  show Gd _ _ _ _ (s₁.setTop (mkF m 8 #[.val (.int r1), .val (.int r2), .val (.int r3), .val (.int r4), .val (.int md), .val (.int qy), .val (.int z), .unset, .unset, .unset, .unset, .unset, .unset, .unset, .unset, .unset, .unset] []))
  refine Gd.go (fun _ w_k => XS.iloadN X0.here hx rfl (hb hby at_8) rfl w_k) ?_
  show Gd _ _ _ _ (s₁.setTop (mkF m 9 #[.val (.int r1), .val (.int r2), .val (.int r3), .val (.int r4), .val (.int md), .val (.int qy), .val (.int z), .unset, .unset, .unset, .unset, .unset, .unset, .unset, .unset, .unset, .unset] [(.int r2)]))
  refine Gd.go (fun _ w_k => X0.ldcInt hx hown (mvT hZ (hw _ (List.mem_of_getElem? (i := 0) rfl))) (g := (mkF m 9 #[.val (.int r1), .val (.int r2), .val (.int r3), .val (.int r4), .val (.int md), .val (.int qy), .val (.int z), .unset, .unset, .unset, .unset, .unset, .unset, .unset, .unset, .unset, .unset] [(.int r2)])) rfl (hb hby at_9) _ w_k) ?_
  show Gd _ _ _ _ (s₁.setTop (mkF m 11 #[.val (.int r1), .val (.int r2), .val (.int r3), .val (.int r4), .val (.int md), .val (.int qy), .val (.int z), .unset, .unset, .unset, .unset, .unset, .unset, .unset, .unset, .unset, .unset] [(.int (2147483647 : Int32)), (.int r2)]))
  refine Gd.go (fun _ w_k => XS.iand X0.here hx rfl (hb hby at_11) rfl w_k) ?_
  show Gd _ _ _ _ (s₁.setTop (mkF m 12 #[.val (.int r1), .val (.int r2), .val (.int r3), .val (.int r4), .val (.int md), .val (.int qy), .val (.int z), .unset, .unset, .unset, .unset, .unset, .unset, .unset, .unset, .unset, .unset] [(.int (r2 &&& (2147483647 : Int32)))]))
  refine Gd.go (fun _ w_k => XS.iload X0.here hx rfl (hb hby at_12) rfl w_k) ?_
  show Gd _ _ _ _ (s₁.setTop (mkF m 14 #[.val (.int r1), .val (.int r2), .val (.int r3), .val (.int r4), .val (.int md), .val (.int qy), .val (.int z), .unset, .unset, .unset, .unset, .unset, .unset, .unset, .unset, .unset, .unset] [(.int z), (.int (r2 &&& (2147483647 : Int32)))]))
  refine Gd.go (fun _ w_k => iremM (g := (mkF m 14 #[.val (.int r1), .val (.int r2), .val (.int r3), .val (.int r4), .val (.int md), .val (.int qy), .val (.int z), .unset, .unset, .unset, .unset, .unset, .unset, .unset, .unset, .unset, .unset] [(.int z), (.int (r2 &&& (2147483647 : Int32)))])) X0 hx rfl (hb hby at_14) rfl (own_nz g_z) w_k) ?_
  show Gd _ _ _ _ (s₁.setTop (mkF m 15 #[.val (.int r1), .val (.int r2), .val (.int r3), .val (.int r4), .val (.int md), .val (.int qy), .val (.int z), .unset, .unset, .unset, .unset, .unset, .unset, .unset, .unset, .unset, .unset] [(.int ((r2 &&& (2147483647 : Int32)) % z))]))
  have g_a := own_rem r2 z g_z
  generalize ((r2 &&& (2147483647 : Int32)) % z) = a at g_a ⊢
  show Gd _ _ _ _ (s₁.setTop (mkF m 15 #[.val (.int r1), .val (.int r2), .val (.int r3), .val (.int r4), .val (.int md), .val (.int qy), .val (.int z), .unset, .unset, .unset, .unset, .unset, .unset, .unset, .unset, .unset, .unset] [(.int a)]))
  refine Gd.go (fun _ w_k => XS.istore X0.here hx rfl (hb hby at_15) rfl (l' := #[.val (.int r1), .val (.int r2), .val (.int r3), .val (.int r4), .val (.int md), .val (.int qy), .val (.int z), .val (.int a), .unset, .unset, .unset, .unset, .unset, .unset, .unset, .unset, .unset]) rfl w_k) ?_
  show Gd _ _ _ _ (s₁.setTop (mkF m 17 #[.val (.int r1), .val (.int r2), .val (.int r3), .val (.int r4), .val (.int md), .val (.int qy), .val (.int z), .val (.int a), .unset, .unset, .unset, .unset, .unset, .unset, .unset, .unset, .unset] []))
  refine Gd.go (fun _ w_k => XS.iloadN X0.here hx rfl (hb hby at_17) rfl w_k) ?_
  show Gd _ _ _ _ (s₁.setTop (mkF m 18 #[.val (.int r1), .val (.int r2), .val (.int r3), .val (.int r4), .val (.int md), .val (.int qy), .val (.int z), .val (.int a), .unset, .unset, .unset, .unset, .unset, .unset, .unset, .unset, .unset] [(.int r3)]))
  refine Gd.go (fun _ w_k => X0.ldcInt hx hown (mvT hZ (hw _ (List.mem_of_getElem? (i := 0) rfl))) (g := (mkF m 18 #[.val (.int r1), .val (.int r2), .val (.int r3), .val (.int r4), .val (.int md), .val (.int qy), .val (.int z), .val (.int a), .unset, .unset, .unset, .unset, .unset, .unset, .unset, .unset, .unset] [(.int r3)])) rfl (hb hby at_18) _ w_k) ?_
  show Gd _ _ _ _ (s₁.setTop (mkF m 20 #[.val (.int r1), .val (.int r2), .val (.int r3), .val (.int r4), .val (.int md), .val (.int qy), .val (.int z), .val (.int a), .unset, .unset, .unset, .unset, .unset, .unset, .unset, .unset, .unset] [(.int (2147483647 : Int32)), (.int r3)]))
  refine Gd.go (fun _ w_k => XS.iand X0.here hx rfl (hb hby at_20) rfl w_k) ?_
  show Gd _ _ _ _ (s₁.setTop (mkF m 21 #[.val (.int r1), .val (.int r2), .val (.int r3), .val (.int r4), .val (.int md), .val (.int qy), .val (.int z), .val (.int a), .unset, .unset, .unset, .unset, .unset, .unset, .unset, .unset, .unset] [(.int (r3 &&& (2147483647 : Int32)))]))
  refine Gd.go (fun _ w_k => XS.iload X0.here hx rfl (hb hby at_21) rfl w_k) ?_
  show Gd _ _ _ _ (s₁.setTop (mkF m 23 #[.val (.int r1), .val (.int r2), .val (.int r3), .val (.int r4), .val (.int md), .val (.int qy), .val (.int z), .val (.int a), .unset, .unset, .unset, .unset, .unset, .unset, .unset, .unset, .unset] [(.int z), (.int (r3 &&& (2147483647 : Int32)))]))
  refine Gd.go (fun _ w_k => iremM (g := (mkF m 23 #[.val (.int r1), .val (.int r2), .val (.int r3), .val (.int r4), .val (.int md), .val (.int qy), .val (.int z), .val (.int a), .unset, .unset, .unset, .unset, .unset, .unset, .unset, .unset, .unset] [(.int z), (.int (r3 &&& (2147483647 : Int32)))])) X0 hx rfl (hb hby at_23) rfl (own_nz g_z) w_k) ?_
  show Gd _ _ _ _ (s₁.setTop (mkF m 24 #[.val (.int r1), .val (.int r2), .val (.int r3), .val (.int r4), .val (.int md), .val (.int qy), .val (.int z), .val (.int a), .unset, .unset, .unset, .unset, .unset, .unset, .unset, .unset, .unset] [(.int ((r3 &&& (2147483647 : Int32)) % z))]))
  have g_b := own_rem r3 z g_z
  generalize ((r3 &&& (2147483647 : Int32)) % z) = b at g_b ⊢
  show Gd _ _ _ _ (s₁.setTop (mkF m 24 #[.val (.int r1), .val (.int r2), .val (.int r3), .val (.int r4), .val (.int md), .val (.int qy), .val (.int z), .val (.int a), .unset, .unset, .unset, .unset, .unset, .unset, .unset, .unset, .unset] [(.int b)]))
  refine Gd.go (fun _ w_k => XS.istore X0.here hx rfl (hb hby at_24) rfl (l' := #[.val (.int r1), .val (.int r2), .val (.int r3), .val (.int r4), .val (.int md), .val (.int qy), .val (.int z), .val (.int a), .val (.int b), .unset, .unset, .unset, .unset, .unset, .unset, .unset, .unset]) rfl w_k) ?_
  show Gd _ _ _ _ (s₁.setTop (mkF m 26 #[.val (.int r1), .val (.int r2), .val (.int r3), .val (.int r4), .val (.int md), .val (.int qy), .val (.int z), .val (.int a), .val (.int b), .unset, .unset, .unset, .unset, .unset, .unset, .unset, .unset] []))
  refine Gd.go (fun _ w_k => XS.iloadN X0.here hx rfl (hb hby at_26) rfl w_k) ?_
  show Gd _ _ _ _ (s₁.setTop (mkF m 27 #[.val (.int r1), .val (.int r2), .val (.int r3), .val (.int r4), .val (.int md), .val (.int qy), .val (.int z), .val (.int a), .val (.int b), .unset, .unset, .unset, .unset, .unset, .unset, .unset, .unset] [(.int r4)]))
  refine Gd.go (fun _ w_k => X0.ldcInt hx hown (mvT hZ (hw _ (List.mem_of_getElem? (i := 0) rfl))) (g := (mkF m 27 #[.val (.int r1), .val (.int r2), .val (.int r3), .val (.int r4), .val (.int md), .val (.int qy), .val (.int z), .val (.int a), .val (.int b), .unset, .unset, .unset, .unset, .unset, .unset, .unset, .unset] [(.int r4)])) rfl (hb hby at_27) _ w_k) ?_
  show Gd _ _ _ _ (s₁.setTop (mkF m 29 #[.val (.int r1), .val (.int r2), .val (.int r3), .val (.int r4), .val (.int md), .val (.int qy), .val (.int z), .val (.int a), .val (.int b), .unset, .unset, .unset, .unset, .unset, .unset, .unset, .unset] [(.int (2147483647 : Int32)), (.int r4)]))
  refine Gd.go (fun _ w_k => XS.iand X0.here hx rfl (hb hby at_29) rfl w_k) ?_
  show Gd _ _ _ _ (s₁.setTop (mkF m 30 #[.val (.int r1), .val (.int r2), .val (.int r3), .val (.int r4), .val (.int md), .val (.int qy), .val (.int z), .val (.int a), .val (.int b), .unset, .unset, .unset, .unset, .unset, .unset, .unset, .unset] [(.int (r4 &&& (2147483647 : Int32)))]))
  refine Gd.go (fun _ w_k => XS.iload X0.here hx rfl (hb hby at_30) rfl w_k) ?_
  show Gd _ _ _ _ (s₁.setTop (mkF m 32 #[.val (.int r1), .val (.int r2), .val (.int r3), .val (.int r4), .val (.int md), .val (.int qy), .val (.int z), .val (.int a), .val (.int b), .unset, .unset, .unset, .unset, .unset, .unset, .unset, .unset] [(.int z), (.int (r4 &&& (2147483647 : Int32)))]))
  refine Gd.go (fun _ w_k => iremM (g := (mkF m 32 #[.val (.int r1), .val (.int r2), .val (.int r3), .val (.int r4), .val (.int md), .val (.int qy), .val (.int z), .val (.int a), .val (.int b), .unset, .unset, .unset, .unset, .unset, .unset, .unset, .unset] [(.int z), (.int (r4 &&& (2147483647 : Int32)))])) X0 hx rfl (hb hby at_32) rfl (own_nz g_z) w_k) ?_
  show Gd _ _ _ _ (s₁.setTop (mkF m 33 #[.val (.int r1), .val (.int r2), .val (.int r3), .val (.int r4), .val (.int md), .val (.int qy), .val (.int z), .val (.int a), .val (.int b), .unset, .unset, .unset, .unset, .unset, .unset, .unset, .unset] [(.int ((r4 &&& (2147483647 : Int32)) % z))]))
  have g_c := own_rem r4 z g_z
  generalize ((r4 &&& (2147483647 : Int32)) % z) = c at g_c ⊢
  show Gd _ _ _ _ (s₁.setTop (mkF m 33 #[.val (.int r1), .val (.int r2), .val (.int r3), .val (.int r4), .val (.int md), .val (.int qy), .val (.int z), .val (.int a), .val (.int b), .unset, .unset, .unset, .unset, .unset, .unset, .unset, .unset] [(.int c)]))
  refine Gd.go (fun _ w_k => XS.istore X0.here hx rfl (hb hby at_33) rfl (l' := #[.val (.int r1), .val (.int r2), .val (.int r3), .val (.int r4), .val (.int md), .val (.int qy), .val (.int z), .val (.int a), .val (.int b), .val (.int c), .unset, .unset, .unset, .unset, .unset, .unset, .unset]) rfl w_k) ?_
  show Gd _ _ _ _ (s₁.setTop (mkF m 35 #[.val (.int r1), .val (.int r2), .val (.int r3), .val (.int r4), .val (.int md), .val (.int qy), .val (.int z), .val (.int a), .val (.int b), .val (.int c), .unset, .unset, .unset, .unset, .unset, .unset, .unset] []))
  refine Gd.go (fun _ w_k => XS.iload X0.here hx rfl (hb hby at_35) rfl w_k) ?_
  show Gd _ _ _ _ (s₁.setTop (mkF m 37 #[.val (.int r1), .val (.int r2), .val (.int r3), .val (.int r4), .val (.int md), .val (.int qy), .val (.int z), .val (.int a), .val (.int b), .val (.int c), .unset, .unset, .unset, .unset, .unset, .unset, .unset] [(.int md)]))
  refine Gd.go (fun _ w_k => XS.iconst X0.here hx rfl (hb hby at_37) w_k) ?_
  show Gd _ _ _ _ (s₁.setTop (mkF m 38 #[.val (.int r1), .val (.int r2), .val (.int r3), .val (.int r4), .val (.int md), .val (.int qy), .val (.int z), .val (.int a), .val (.int b), .val (.int c), .unset, .unset, .unset, .unset, .unset, .unset, .unset] [(.int (3 : Int32)), (.int md)]))
  refine Gd.go (fun _ w_k => XS.iand X0.here hx rfl (hb hby at_38) rfl w_k) ?_
  show Gd _ _ _ _ (s₁.setTop (mkF m 39 #[.val (.int r1), .val (.int r2), .val (.int r3), .val (.int r4), .val (.int md), .val (.int qy), .val (.int z), .val (.int a), .val (.int b), .val (.int c), .unset, .unset, .unset, .unset, .unset, .unset, .unset] [(.int (md &&& (3 : Int32)))]))
  generalize (md &&& (3 : Int32)) = adds
  show Gd _ _ _ _ (s₁.setTop (mkF m 39 #[.val (.int r1), .val (.int r2), .val (.int r3), .val (.int r4), .val (.int md), .val (.int qy), .val (.int z), .val (.int a), .val (.int b), .val (.int c), .unset, .unset, .unset, .unset, .unset, .unset, .unset] [(.int adds)]))
  refine Gd.go (fun _ w_k => XS.istore X0.here hx rfl (hb hby at_39) rfl (l' := #[.val (.int r1), .val (.int r2), .val (.int r3), .val (.int r4), .val (.int md), .val (.int qy), .val (.int z), .val (.int a), .val (.int b), .val (.int c), .val (.int adds), .unset, .unset, .unset, .unset, .unset, .unset]) rfl w_k) ?_
  show Gd _ _ _ _ (s₁.setTop (mkF m 41 #[.val (.int r1), .val (.int r2), .val (.int r3), .val (.int r4), .val (.int md), .val (.int qy), .val (.int z), .val (.int a), .val (.int b), .val (.int c), .val (.int adds), .unset, .unset, .unset, .unset, .unset, .unset] []))
  refine Gd.go (fun _ w_k => XS.iload X0.here hx rfl (hb hby at_41) rfl w_k) ?_
  show Gd _ _ _ _ (s₁.setTop (mkF m 43 #[.val (.int r1), .val (.int r2), .val (.int r3), .val (.int r4), .val (.int md), .val (.int qy), .val (.int z), .val (.int a), .val (.int b), .val (.int c), .val (.int adds), .unset, .unset, .unset, .unset, .unset, .unset] [(.int md)]))
  refine Gd.go (fun _ w_k => XS.iconst X0.here hx rfl (hb hby at_43) w_k) ?_
  show Gd _ _ _ _ (s₁.setTop (mkF m 44 #[.val (.int r1), .val (.int r2), .val (.int r3), .val (.int r4), .val (.int md), .val (.int qy), .val (.int z), .val (.int a), .val (.int b), .val (.int c), .val (.int adds), .unset, .unset, .unset, .unset, .unset, .unset] [(.int (4 : Int32)), (.int md)]))
  refine Gd.go (fun _ w_k => XS.iand X0.here hx rfl (hb hby at_44) rfl w_k) ?_
  show Gd _ _ _ _ (s₁.setTop (mkF m 45 #[.val (.int r1), .val (.int r2), .val (.int r3), .val (.int r4), .val (.int md), .val (.int qy), .val (.int z), .val (.int a), .val (.int b), .val (.int c), .val (.int adds), .unset, .unset, .unset, .unset, .unset, .unset] [(.int (md &&& (4 : Int32)))]))
  refine Gd.viaA (A := fun _ : Int32 => True) (S' := fun q => s₁.setTop (mkF m 61 #[.val (.int r1), .val (.int r2), .val (.int r3), .val (.int r4), .val (.int md), .val (.int qy), .val (.int z), .val (.int a), .val (.int b), .val (.int c), .val (.int adds), .unset, .unset, .unset, .unset, .unset, .unset] [(.int q)])) (fun J => ?_) (fun q _ => ?_)
  · by_cases hc1 : (md &&& (4 : Int32)) = (0 : Int32)
    · refine Gd.go (fun _ w_k => XS.ifYes X0.here hx rfl (pc0 := 45) (pc' := 59) rfl (hb hby at_45) rfl ((if0 _ _).trans (teq hc1).1) (by decide) (by decide) w_k) ?_
      show Gd _ _ _ _ (s₁.setTop (mkF m 59 #[.val (.int r1), .val (.int r2), .val (.int r3), .val (.int r4), .val (.int md), .val (.int qy), .val (.int z), .val (.int a), .val (.int b), .val (.int c), .val (.int adds), .unset, .unset, .unset, .unset, .unset, .unset] []))
      refine Gd.go (fun _ w_k => XS.iload X0.here hx rfl (hb hby at_59) rfl w_k) ?_
      show Gd _ _ _ _ (s₁.setTop (mkF m 61 #[.val (.int r1), .val (.int r2), .val (.int r3), .val (.int r4), .val (.int md), .val (.int qy), .val (.int z), .val (.int a), .val (.int b), .val (.int c), .val (.int adds), .unset, .unset, .unset, .unset, .unset, .unset] [(.int qy)]))
      exact J _ trivial
    · refine Gd.go (fun _ w_k => XS.ifNo X0.here hx rfl (hb hby at_45) rfl ((if0 _ _).trans (feq hc1).1) w_k) ?_
      show Gd _ _ _ _ (s₁.setTop (mkF m 48 #[.val (.int r1), .val (.int r2), .val (.int r3), .val (.int r4), .val (.int md), .val (.int qy), .val (.int z), .val (.int a), .val (.int b), .val (.int c), .val (.int adds), .unset, .unset, .unset, .unset, .unset, .unset] []))
      refine Gd.go (fun _ w_k => XS.iload X0.here hx rfl (hb hby at_48) rfl w_k) ?_
      show Gd _ _ _ _ (s₁.setTop (mkF m 50 #[.val (.int r1), .val (.int r2), .val (.int r3), .val (.int r4), .val (.int md), .val (.int qy), .val (.int z), .val (.int a), .val (.int b), .val (.int c), .val (.int adds), .unset, .unset, .unset, .unset, .unset, .unset] [(.int qy)]))
      refine Gd.go (fun _ w_k => X0.ldcInt hx hown (mvT hZ (hw _ (List.mem_of_getElem? (i := 0) rfl))) (g := (mkF m 50 #[.val (.int r1), .val (.int r2), .val (.int r3), .val (.int r4), .val (.int md), .val (.int qy), .val (.int z), .val (.int a), .val (.int b), .val (.int c), .val (.int adds), .unset, .unset, .unset, .unset, .unset, .unset] [(.int qy)])) rfl (hb hby at_50) _ w_k) ?_
      show Gd _ _ _ _ (s₁.setTop (mkF m 52 #[.val (.int r1), .val (.int r2), .val (.int r3), .val (.int r4), .val (.int md), .val (.int qy), .val (.int z), .val (.int a), .val (.int b), .val (.int c), .val (.int adds), .unset, .unset, .unset, .unset, .unset, .unset] [(.int (2147483647 : Int32)), (.int qy)]))
      refine Gd.go (fun _ w_k => XS.iand X0.here hx rfl (hb hby at_52) rfl w_k) ?_
      show Gd _ _ _ _ (s₁.setTop (mkF m 53 #[.val (.int r1), .val (.int r2), .val (.int r3), .val (.int r4), .val (.int md), .val (.int qy), .val (.int z), .val (.int a), .val (.int b), .val (.int c), .val (.int adds), .unset, .unset, .unset, .unset, .unset, .unset] [(.int (qy &&& (2147483647 : Int32)))]))
      refine Gd.go (fun _ w_k => XS.iload X0.here hx rfl (hb hby at_53) rfl w_k) ?_
      show Gd _ _ _ _ (s₁.setTop (mkF m 55 #[.val (.int r1), .val (.int r2), .val (.int r3), .val (.int r4), .val (.int md), .val (.int qy), .val (.int z), .val (.int a), .val (.int b), .val (.int c), .val (.int adds), .unset, .unset, .unset, .unset, .unset, .unset] [(.int z), (.int (qy &&& (2147483647 : Int32)))]))
      refine Gd.go (fun _ w_k => iremM (g := (mkF m 55 #[.val (.int r1), .val (.int r2), .val (.int r3), .val (.int r4), .val (.int md), .val (.int qy), .val (.int z), .val (.int a), .val (.int b), .val (.int c), .val (.int adds), .unset, .unset, .unset, .unset, .unset, .unset] [(.int z), (.int (qy &&& (2147483647 : Int32)))])) X0 hx rfl (hb hby at_55) rfl (own_nz g_z) w_k) ?_
      show Gd _ _ _ _ (s₁.setTop (mkF m 56 #[.val (.int r1), .val (.int r2), .val (.int r3), .val (.int r4), .val (.int md), .val (.int qy), .val (.int z), .val (.int a), .val (.int b), .val (.int c), .val (.int adds), .unset, .unset, .unset, .unset, .unset, .unset] [(.int ((qy &&& (2147483647 : Int32)) % z))]))
      refine Gd.go (fun _ w_k => XS.goto X0.here hx rfl (pc0 := 56) (pc' := 61) rfl (hb hby at_56) (by decide) (by decide) w_k) ?_
      show Gd _ _ _ _ (s₁.setTop (mkF m 61 #[.val (.int r1), .val (.int r2), .val (.int r3), .val (.int r4), .val (.int md), .val (.int qy), .val (.int z), .val (.int a), .val (.int b), .val (.int c), .val (.int adds), .unset, .unset, .unset, .unset, .unset, .unset] [(.int ((qy &&& (2147483647 : Int32)) % z))]))
      exact J _ trivial
  show Gd _ _ _ _ (s₁.setTop (mkF m 61 #[.val (.int r1), .val (.int r2), .val (.int r3), .val (.int r4), .val (.int md), .val (.int qy), .val (.int z), .val (.int a), .val (.int b), .val (.int c), .val (.int adds), .unset, .unset, .unset, .unset, .unset, .unset] [(.int q)]))
  refine Gd.go (fun _ w_k => XS.istore X0.here hx rfl (hb hby at_61) rfl (l' := #[.val (.int r1), .val (.int r2), .val (.int r3), .val (.int r4), .val (.int md), .val (.int qy), .val (.int z), .val (.int a), .val (.int b), .val (.int c), .val (.int adds), .val (.int q), .unset, .unset, .unset, .unset, .unset]) rfl w_k) ?_
  show Gd _ _ _ _ (s₁.setTop (mkF m 63 #[.val (.int r1), .val (.int r2), .val (.int r3), .val (.int r4), .val (.int md), .val (.int qy), .val (.int z), .val (.int a), .val (.int b), .val (.int c), .val (.int adds), .val (.int q), .unset, .unset, .unset, .unset, .unset] []))
  obtain ⟨T2, h2, X2, e2, E2, A2, D2, -, st2⟩ := newO X0 hx hZ hown (hw _ (List.mem_of_getElem? (i := 1) rfl)) (hw _ (List.mem_of_getElem? (i := 2) rfl)) (hw _ (List.mem_of_getElem? (i := 3) rfl)) e0 (g := (mkF m 63 #[.val (.int r1), .val (.int r2), .val (.int r3), .val (.int r4), .val (.int md), .val (.int qy), .val (.int z), .val (.int a), .val (.int b), .val (.int c), .val (.int adds), .val (.int q), .unset, .unset, .unset, .unset, .unset] [])) rfl (hb hby at_63) (by decide) (by decide)
  obtain ⟨b2, g2⟩ : ∃ z, z = h0.size := ⟨_, rfl⟩
  rw [← g2] at A2 D2 st2
  have n0_b2 : n0 ≤ b2 := Nat.le_trans Z0 (Nat.le_of_eq g2.symm)
  have xZs3 := Nat.le_trans Z0 E2.1
  have xF4 : Fld Z h2 b2 "org/eventropy/core/ActivityCounts" "codes" "[I" .null := D2 (Or.inl (hw _ (List.mem_of_getElem? (i := 12) rfl))) (ty := (.array .int)) (by decide)
  have xF5 : Fld Z h2 b2 "org/eventropy/core/ActivityCounts" "counts" "[J" .null := D2 (Or.inl (hw _ (List.mem_of_getElem? (i := 15) rfl))) (ty := (.array .long)) (by decide)
  have xF6 : Fld Z h2 b2 "org/eventropy/core/ActivityCounts" "places" "[I" .null := D2 (Or.inr (hw _ (List.mem_of_getElem? (i := 17) rfl))) (ty := (.array .int)) (by decide)
  have xF7 : Fld Z h2 b2 "org/eventropy/core/ActivityCounts" "size" "I" (.int (0 : Int32)) := D2 (Or.inl (hw _ (List.mem_of_getElem? (i := 33) rfl))) (ty := .int) (by decide)
  refine Gd.go (fun _ w_k => st2 _ w_k) ?_
  show Gd _ _ _ _ (T2.setTop (mkF m 66 #[.val (.int r1), .val (.int r2), .val (.int r3), .val (.int r4), .val (.int md), .val (.int qy), .val (.int z), .val (.int a), .val (.int b), .val (.int c), .val (.int adds), .val (.int q), .unset, .unset, .unset, .unset, .unset] [(.ref b2)]))
  refine Gd.go (fun _ w_k => XS.dup X2.here hx rfl (hb hby at_66) rfl rfl w_k) ?_
  show Gd _ _ _ _ (T2.setTop (mkF m 67 #[.val (.int r1), .val (.int r2), .val (.int r3), .val (.int r4), .val (.int md), .val (.int qy), .val (.int z), .val (.int a), .val (.int b), .val (.int c), .val (.int adds), .val (.int q), .unset, .unset, .unset, .unset, .unset] [(.ref b2), (.ref b2)]))
  refine Gd.go (fun _ w_k => XS.iload X2.here hx rfl (hb hby at_67) rfl w_k) ?_
  show Gd _ _ _ _ (T2.setTop (mkF m 69 #[.val (.int r1), .val (.int r2), .val (.int r3), .val (.int r4), .val (.int md), .val (.int qy), .val (.int z), .val (.int a), .val (.int b), .val (.int c), .val (.int adds), .val (.int q), .unset, .unset, .unset, .unset, .unset] [(.int z), (.ref b2), (.ref b2)]))
  obtain ⟨v8, T8, L8, X8, hQ8, st8⟩ := own_callI X2 hx hZ (y := (⟨"org/eventropy/core/ActivityCounts", "<init>", "(I)V"⟩ : MethodName)) rfl hown (hw _ (List.mem_of_getElem? (i := 4) rfl)) (hw _ (List.mem_of_getElem? (i := 5) rfl)) (hw _ (List.mem_of_getElem? (i := 3) rfl)) (hw _ (List.mem_of_getElem? (i := 6) rfl)) (by decide) (b := b2) (W := 1) (own_c1 l Z a0 hw b2 z g_z h2 n0 xZs3 n0_b2 A2 xF6 xF4 xF5 xF7) rfl rfl e2 (by decide) (by decide) (g := (mkF m 69 #[.val (.int r1), .val (.int r2), .val (.int r3), .val (.int r4), .val (.int md), .val (.int qy), .val (.int z), .val (.int a), .val (.int b), .val (.int c), .val (.int adds), .val (.int q), .unset, .unset, .unset, .unset, .unset] [(.int z), (.ref b2), (.ref b2)])) rfl (by rw [hml]; rfl) (argsL := [(.int z)]) (rest := [(.ref b2)]) (lenOf own_pd1 rfl) rfl (Nat.le_of_eq rfl) (hb hby at_69) rfl (by decide) (by decide)
  obtain ⟨rfl, H0, Z9, N9⟩ := hQ8
  refine Gd.go (fun _ w_k => st8 _ w_k) ?_
  show Gd _ _ _ _ (T8.setTop (mkF m 72 #[.val (.int r1), .val (.int r2), .val (.int r3), .val (.int r4), .val (.int md), .val (.int qy), .val (.int z), .val (.int a), .val (.int b), .val (.int c), .val (.int adds), .val (.int q), .unset, .unset, .unset, .unset, .unset] [(.ref b2)]))
  have NN0 := Fr.app N0 N9
  refine Gd.go (fun _ w_k => XS.astore X8.here hx rfl (hb hby at_72) rfl rfl (l' := #[.val (.int r1), .val (.int r2), .val (.int r3), .val (.int r4), .val (.int md), .val (.int qy), .val (.int z), .val (.int a), .val (.int b), .val (.int c), .val (.int adds), .val (.int q), .val (.ref b2), .unset, .unset, .unset, .unset]) rfl w_k) ?_
  show Gd _ _ _ _ (T8.setTop (mkF m 74 #[.val (.int r1), .val (.int r2), .val (.int r3), .val (.int r4), .val (.int md), .val (.int qy), .val (.int z), .val (.int a), .val (.int b), .val (.int c), .val (.int adds), .val (.int q), .val (.ref b2), .unset, .unset, .unset, .unset] []))
  refine Gd.viaA (A := fun y : State × List Loc × (Nat → Int32) × Int32 => Stand pg l ev room_1 s_ m #[(.int r1), (.int r2), (.int r3), (.int r4), (.int md), (.int qy)] bl mt cd y.1 y.2.1 4 44 ∧ own_AC Z y.1.heap b2 n0 z.toNatClampNeg y.2.2.1 y.2.2.2 ∧ Fr n0 y.2.1 ∧ ∀ q : Int32, 0 ≤ q.toInt → y.2.2.1 q.toNatClampNeg = own_spec adds a b c q) (S' := fun y => y.1.setTop (mkF m 116 #[.val (.int r1), .val (.int r2), .val (.int r3), .val (.int r4), .val (.int md), .val (.int qy), .val (.int z), .val (.int a), .val (.int b), .val (.int c), .val (.int adds), .val (.int q), .val (.ref b2), .unset, .unset, .unset, .unset] [])) (fun J => ?_) (fun y hy => ?_)
  · refine Gd.go (fun _ w_k => XS.iload X8.here hx rfl (hb hby at_74) rfl w_k) ?_
    show Gd _ _ _ _ (T8.setTop (mkF m 76 #[.val (.int r1), .val (.int r2), .val (.int r3), .val (.int r4), .val (.int md), .val (.int qy), .val (.int z), .val (.int a), .val (.int b), .val (.int c), .val (.int adds), .val (.int q), .val (.ref b2), .unset, .unset, .unset, .unset] [(.int adds)]))
    refine Gd.go (fun _ w_k => XS.iconst X8.here hx rfl (hb hby at_76) w_k) ?_
    show Gd _ _ _ _ (T8.setTop (mkF m 77 #[.val (.int r1), .val (.int r2), .val (.int r3), .val (.int r4), .val (.int md), .val (.int qy), .val (.int z), .val (.int a), .val (.int b), .val (.int c), .val (.int adds), .val (.int q), .val (.ref b2), .unset, .unset, .unset, .unset] [(.int (1 : Int32)), (.int adds)]))
    by_cases hc9 : adds < (1 : Int32)
    · refine Gd.go (fun _ w_k => XS.icmpYes X8.here hx rfl (pc0 := 77) (pc' := 88) rfl (hb hby at_77) rfl (tlt hc9).1 (by decide) (by decide) w_k) ?_
      show Gd _ _ _ _ (T8.setTop (mkF m 88 #[.val (.int r1), .val (.int r2), .val (.int r3), .val (.int r4), .val (.int md), .val (.int qy), .val (.int z), .val (.int a), .val (.int b), .val (.int c), .val (.int adds), .val (.int q), .val (.ref b2), .unset, .unset, .unset, .unset] []))
      refine Gd.go (fun _ w_k => XS.iload X8.here hx rfl (hb hby at_88) rfl w_k) ?_
      show Gd _ _ _ _ (T8.setTop (mkF m 90 #[.val (.int r1), .val (.int r2), .val (.int r3), .val (.int r4), .val (.int md), .val (.int qy), .val (.int z), .val (.int a), .val (.int b), .val (.int c), .val (.int adds), .val (.int q), .val (.ref b2), .unset, .unset, .unset, .unset] [(.int adds)]))
      refine Gd.go (fun _ w_k => XS.iconst X8.here hx rfl (hb hby at_90) w_k) ?_
      show Gd _ _ _ _ (T8.setTop (mkF m 91 #[.val (.int r1), .val (.int r2), .val (.int r3), .val (.int r4), .val (.int md), .val (.int qy), .val (.int z), .val (.int a), .val (.int b), .val (.int c), .val (.int adds), .val (.int q), .val (.ref b2), .unset, .unset, .unset, .unset] [(.int (2 : Int32)), (.int adds)]))
      refine Gd.go (fun _ w_k => XS.icmpYes X8.here hx rfl (pc0 := 91) (pc' := 102) rfl (hb hby at_91) rfl (tlt (own_lt12 hc9)).1 (by decide) (by decide) w_k) ?_
      show Gd _ _ _ _ (T8.setTop (mkF m 102 #[.val (.int r1), .val (.int r2), .val (.int r3), .val (.int r4), .val (.int md), .val (.int qy), .val (.int z), .val (.int a), .val (.int b), .val (.int c), .val (.int adds), .val (.int q), .val (.ref b2), .unset, .unset, .unset, .unset] []))
      refine Gd.go (fun _ w_k => XS.iload X8.here hx rfl (hb hby at_102) rfl w_k) ?_
      show Gd _ _ _ _ (T8.setTop (mkF m 104 #[.val (.int r1), .val (.int r2), .val (.int r3), .val (.int r4), .val (.int md), .val (.int qy), .val (.int z), .val (.int a), .val (.int b), .val (.int c), .val (.int adds), .val (.int q), .val (.ref b2), .unset, .unset, .unset, .unset] [(.int adds)]))
      refine Gd.go (fun _ w_k => XS.iconst X8.here hx rfl (hb hby at_104) w_k) ?_
      show Gd _ _ _ _ (T8.setTop (mkF m 105 #[.val (.int r1), .val (.int r2), .val (.int r3), .val (.int r4), .val (.int md), .val (.int qy), .val (.int z), .val (.int a), .val (.int b), .val (.int c), .val (.int adds), .val (.int q), .val (.ref b2), .unset, .unset, .unset, .unset] [(.int (3 : Int32)), (.int adds)]))
      refine Gd.go (fun _ w_k => XS.icmpYes X8.here hx rfl (pc0 := 105) (pc' := 116) rfl (hb hby at_105) rfl (tlt (own_lt23 (own_lt12 hc9))).1 (by decide) (by decide) w_k) ?_
      show Gd _ _ _ _ (T8.setTop (mkF m 116 #[.val (.int r1), .val (.int r2), .val (.int r3), .val (.int r4), .val (.int md), .val (.int qy), .val (.int z), .val (.int a), .val (.int b), .val (.int c), .val (.int adds), .val (.int q), .val (.ref b2), .unset, .unset, .unset, .unset] []))
      exact J ⟨T8, _, (fun _ => -1), 0⟩ ⟨X8, H0, NN0, fun q _ => own_sp0 hc9 q⟩
    · refine Gd.go (fun _ w_k => XS.icmpNo X8.here hx rfl (hb hby at_77) rfl (flt hc9).1 w_k) ?_
      show Gd _ _ _ _ (T8.setTop (mkF m 80 #[.val (.int r1), .val (.int r2), .val (.int r3), .val (.int r4), .val (.int md), .val (.int qy), .val (.int z), .val (.int a), .val (.int b), .val (.int c), .val (.int adds), .val (.int q), .val (.ref b2), .unset, .unset, .unset, .unset] []))
      refine Gd.go (fun _ w_k => XS.aload X8.here hx rfl (hb hby at_80) rfl rfl w_k) ?_
      show Gd _ _ _ _ (T8.setTop (mkF m 82 #[.val (.int r1), .val (.int r2), .val (.int r3), .val (.int r4), .val (.int md), .val (.int qy), .val (.int z), .val (.int a), .val (.int b), .val (.int c), .val (.int adds), .val (.int q), .val (.ref b2), .unset, .unset, .unset, .unset] [(.ref b2)]))
      refine Gd.go (fun _ w_k => XS.iload X8.here hx rfl (hb hby at_82) rfl w_k) ?_
      show Gd _ _ _ _ (T8.setTop (mkF m 84 #[.val (.int r1), .val (.int r2), .val (.int r3), .val (.int r4), .val (.int md), .val (.int qy), .val (.int z), .val (.int a), .val (.int b), .val (.int c), .val (.int adds), .val (.int q), .val (.ref b2), .unset, .unset, .unset, .unset] [(.int a), (.ref b2)]))
      refine Gd.go (fun _ w_k => XS.lconst X8.here hx rfl (hb hby at_84) w_k) ?_
      show Gd _ _ _ _ (T8.setTop (mkF m 85 #[.val (.int r1), .val (.int r2), .val (.int r3), .val (.int r4), .val (.int md), .val (.int qy), .val (.int z), .val (.int a), .val (.int b), .val (.int c), .val (.int adds), .val (.int q), .val (.ref b2), .unset, .unset, .unset, .unset] [(.long (1 : Int64)), (.int a), (.ref b2)]))
      obtain ⟨v11, T11, L11, X11, hQ11, st11⟩ := own_callV X8 hx hZ (C := "org/eventropy/core/ActivityCounts") (y := (⟨"org/eventropy/core/ActivityCounts", "add", "(IJ)V"⟩ : MethodName)) hown (hw _ (List.mem_of_getElem? (i := 27) rfl)) (hw _ (List.mem_of_getElem? (i := 28) rfl)) (hw _ (List.mem_of_getElem? (i := 30) rfl)) (hw _ (List.mem_of_getElem? (i := 29) rfl)) (hw _ (List.mem_of_getElem? (i := 3) rfl)) (hw _ (List.mem_of_getElem? (i := 31) rfl)) (by decide) H0.exa (W := 0) (own_c5 l Z a0 hw b2 a (1 : Int64) z.toNatClampNeg (fun _ => -1) 0 0 (by decide) T8.heap n0 H0 own_ok_start (own_q g_z g_a)) rfl rfl rfl (by decide) (by decide) (g := (mkF m 85 #[.val (.int r1), .val (.int r2), .val (.int r3), .val (.int r4), .val (.int md), .val (.int qy), .val (.int z), .val (.int a), .val (.int b), .val (.int c), .val (.int adds), .val (.int q), .val (.ref b2), .unset, .unset, .unset, .unset] [(.long (1 : Int64)), (.int a), (.ref b2)])) rfl (by rw [hml]; rfl) (argsL := [(.int a), (.long (1 : Int64))]) (rest := []) (lenOf own_pd2 rfl) rfl (Nat.le_of_eq rfl) (hb hby at_85) rfl (by decide) (by decide)
      obtain ⟨rfl, Hd10, Nd10⟩ := hQ11
      refine Gd.go (fun _ w_k => st11 _ w_k) ?_
      show Gd _ _ _ _ (T11.setTop (mkF m 88 #[.val (.int r1), .val (.int r2), .val (.int r3), .val (.int r4), .val (.int md), .val (.int qy), .val (.int z), .val (.int a), .val (.int b), .val (.int c), .val (.int adds), .val (.int q), .val (.ref b2), .unset, .unset, .unset, .unset] []))
      have NNd10 := Fr.app NN0 Nd10
      refine Gd.go (fun _ w_k => XS.iload X11.here hx rfl (hb hby at_88) rfl w_k) ?_
      show Gd _ _ _ _ (T11.setTop (mkF m 90 #[.val (.int r1), .val (.int r2), .val (.int r3), .val (.int r4), .val (.int md), .val (.int qy), .val (.int z), .val (.int a), .val (.int b), .val (.int c), .val (.int adds), .val (.int q), .val (.ref b2), .unset, .unset, .unset, .unset] [(.int adds)]))
      refine Gd.go (fun _ w_k => XS.iconst X11.here hx rfl (hb hby at_90) w_k) ?_
      show Gd _ _ _ _ (T11.setTop (mkF m 91 #[.val (.int r1), .val (.int r2), .val (.int r3), .val (.int r4), .val (.int md), .val (.int qy), .val (.int z), .val (.int a), .val (.int b), .val (.int c), .val (.int adds), .val (.int q), .val (.ref b2), .unset, .unset, .unset, .unset] [(.int (2 : Int32)), (.int adds)]))
      by_cases hc12 : adds < (2 : Int32)
      · refine Gd.go (fun _ w_k => XS.icmpYes X11.here hx rfl (pc0 := 91) (pc' := 102) rfl (hb hby at_91) rfl (tlt hc12).1 (by decide) (by decide) w_k) ?_
        show Gd _ _ _ _ (T11.setTop (mkF m 102 #[.val (.int r1), .val (.int r2), .val (.int r3), .val (.int r4), .val (.int md), .val (.int qy), .val (.int z), .val (.int a), .val (.int b), .val (.int c), .val (.int adds), .val (.int q), .val (.ref b2), .unset, .unset, .unset, .unset] []))
        refine Gd.go (fun _ w_k => XS.iload X11.here hx rfl (hb hby at_102) rfl w_k) ?_
        show Gd _ _ _ _ (T11.setTop (mkF m 104 #[.val (.int r1), .val (.int r2), .val (.int r3), .val (.int r4), .val (.int md), .val (.int qy), .val (.int z), .val (.int a), .val (.int b), .val (.int c), .val (.int adds), .val (.int q), .val (.ref b2), .unset, .unset, .unset, .unset] [(.int adds)]))
        refine Gd.go (fun _ w_k => XS.iconst X11.here hx rfl (hb hby at_104) w_k) ?_
        show Gd _ _ _ _ (T11.setTop (mkF m 105 #[.val (.int r1), .val (.int r2), .val (.int r3), .val (.int r4), .val (.int md), .val (.int qy), .val (.int z), .val (.int a), .val (.int b), .val (.int c), .val (.int adds), .val (.int q), .val (.ref b2), .unset, .unset, .unset, .unset] [(.int (3 : Int32)), (.int adds)]))
        refine Gd.go (fun _ w_k => XS.icmpYes X11.here hx rfl (pc0 := 105) (pc' := 116) rfl (hb hby at_105) rfl (tlt (own_lt23 hc12)).1 (by decide) (by decide) w_k) ?_
        show Gd _ _ _ _ (T11.setTop (mkF m 116 #[.val (.int r1), .val (.int r2), .val (.int r3), .val (.int r4), .val (.int md), .val (.int qy), .val (.int z), .val (.int a), .val (.int b), .val (.int c), .val (.int adds), .val (.int q), .val (.ref b2), .unset, .unset, .unset, .unset] []))
        exact J ⟨T11, _, (own_F (fun _ => -1) 0 a.toNatClampNeg), (own_k (fun _ => -1) 0 a.toNatClampNeg)⟩ ⟨X11, Hd10, NNd10, own_sp1 g_a.1 hc9 hc12⟩
      · refine Gd.go (fun _ w_k => XS.icmpNo X11.here hx rfl (hb hby at_91) rfl (flt hc12).1 w_k) ?_
        show Gd _ _ _ _ (T11.setTop (mkF m 94 #[.val (.int r1), .val (.int r2), .val (.int r3), .val (.int r4), .val (.int md), .val (.int qy), .val (.int z), .val (.int a), .val (.int b), .val (.int c), .val (.int adds), .val (.int q), .val (.ref b2), .unset, .unset, .unset, .unset] []))
        refine Gd.go (fun _ w_k => XS.aload X11.here hx rfl (hb hby at_94) rfl rfl w_k) ?_
        show Gd _ _ _ _ (T11.setTop (mkF m 96 #[.val (.int r1), .val (.int r2), .val (.int r3), .val (.int r4), .val (.int md), .val (.int qy), .val (.int z), .val (.int a), .val (.int b), .val (.int c), .val (.int adds), .val (.int q), .val (.ref b2), .unset, .unset, .unset, .unset] [(.ref b2)]))
        refine Gd.go (fun _ w_k => XS.iload X11.here hx rfl (hb hby at_96) rfl w_k) ?_
        show Gd _ _ _ _ (T11.setTop (mkF m 98 #[.val (.int r1), .val (.int r2), .val (.int r3), .val (.int r4), .val (.int md), .val (.int qy), .val (.int z), .val (.int a), .val (.int b), .val (.int c), .val (.int adds), .val (.int q), .val (.ref b2), .unset, .unset, .unset, .unset] [(.int b), (.ref b2)]))
        refine Gd.go (fun _ w_k => XS.lconst X11.here hx rfl (hb hby at_98) w_k) ?_
        show Gd _ _ _ _ (T11.setTop (mkF m 99 #[.val (.int r1), .val (.int r2), .val (.int r3), .val (.int r4), .val (.int md), .val (.int qy), .val (.int z), .val (.int a), .val (.int b), .val (.int c), .val (.int adds), .val (.int q), .val (.ref b2), .unset, .unset, .unset, .unset] [(.long (1 : Int64)), (.int b), (.ref b2)]))
        obtain ⟨v14, T14, L14, X14, hQ14, st14⟩ := own_callV X11 hx hZ (C := "org/eventropy/core/ActivityCounts") (y := (⟨"org/eventropy/core/ActivityCounts", "add", "(IJ)V"⟩ : MethodName)) hown (hw _ (List.mem_of_getElem? (i := 27) rfl)) (hw _ (List.mem_of_getElem? (i := 28) rfl)) (hw _ (List.mem_of_getElem? (i := 30) rfl)) (hw _ (List.mem_of_getElem? (i := 29) rfl)) (hw _ (List.mem_of_getElem? (i := 3) rfl)) (hw _ (List.mem_of_getElem? (i := 31) rfl)) (by decide) Hd10.exa (W := 0) (own_c5 l Z a0 hw b2 b (1 : Int64) z.toNatClampNeg (own_F (fun _ => -1) 0 a.toNatClampNeg) (own_k (fun _ => -1) 0 a.toNatClampNeg) 1 (by decide) T11.heap n0 Hd10 (own_ok_next (by decide) own_ok_start a.toNatClampNeg) (own_q g_z g_b)) rfl rfl rfl (by decide) (by decide) (g := (mkF m 99 #[.val (.int r1), .val (.int r2), .val (.int r3), .val (.int r4), .val (.int md), .val (.int qy), .val (.int z), .val (.int a), .val (.int b), .val (.int c), .val (.int adds), .val (.int q), .val (.ref b2), .unset, .unset, .unset, .unset] [(.long (1 : Int64)), (.int b), (.ref b2)])) rfl (by rw [hml]; rfl) (argsL := [(.int b), (.long (1 : Int64))]) (rest := []) (lenOf own_pd2 rfl) rfl (Nat.le_of_eq rfl) (hb hby at_99) rfl (by decide) (by decide)
        obtain ⟨rfl, Hd13, Nd13⟩ := hQ14
        refine Gd.go (fun _ w_k => st14 _ w_k) ?_
        show Gd _ _ _ _ (T14.setTop (mkF m 102 #[.val (.int r1), .val (.int r2), .val (.int r3), .val (.int r4), .val (.int md), .val (.int qy), .val (.int z), .val (.int a), .val (.int b), .val (.int c), .val (.int adds), .val (.int q), .val (.ref b2), .unset, .unset, .unset, .unset] []))
        have NNd13 := Fr.app NNd10 Nd13
        refine Gd.go (fun _ w_k => XS.iload X14.here hx rfl (hb hby at_102) rfl w_k) ?_
        show Gd _ _ _ _ (T14.setTop (mkF m 104 #[.val (.int r1), .val (.int r2), .val (.int r3), .val (.int r4), .val (.int md), .val (.int qy), .val (.int z), .val (.int a), .val (.int b), .val (.int c), .val (.int adds), .val (.int q), .val (.ref b2), .unset, .unset, .unset, .unset] [(.int adds)]))
        refine Gd.go (fun _ w_k => XS.iconst X14.here hx rfl (hb hby at_104) w_k) ?_
        show Gd _ _ _ _ (T14.setTop (mkF m 105 #[.val (.int r1), .val (.int r2), .val (.int r3), .val (.int r4), .val (.int md), .val (.int qy), .val (.int z), .val (.int a), .val (.int b), .val (.int c), .val (.int adds), .val (.int q), .val (.ref b2), .unset, .unset, .unset, .unset] [(.int (3 : Int32)), (.int adds)]))
        by_cases hc15 : adds < (3 : Int32)
        · refine Gd.go (fun _ w_k => XS.icmpYes X14.here hx rfl (pc0 := 105) (pc' := 116) rfl (hb hby at_105) rfl (tlt hc15).1 (by decide) (by decide) w_k) ?_
          show Gd _ _ _ _ (T14.setTop (mkF m 116 #[.val (.int r1), .val (.int r2), .val (.int r3), .val (.int r4), .val (.int md), .val (.int qy), .val (.int z), .val (.int a), .val (.int b), .val (.int c), .val (.int adds), .val (.int q), .val (.ref b2), .unset, .unset, .unset, .unset] []))
          exact J ⟨T14, _, (own_F (own_F (fun _ => -1) 0 a.toNatClampNeg) (own_k (fun _ => -1) 0 a.toNatClampNeg) b.toNatClampNeg), (own_k (own_F (fun _ => -1) 0 a.toNatClampNeg) (own_k (fun _ => -1) 0 a.toNatClampNeg) b.toNatClampNeg)⟩ ⟨X14, Hd13, NNd13, own_sp2 g_a.1 g_b.1 hc9 hc12 hc15⟩
        · refine Gd.go (fun _ w_k => XS.icmpNo X14.here hx rfl (hb hby at_105) rfl (flt hc15).1 w_k) ?_
          show Gd _ _ _ _ (T14.setTop (mkF m 108 #[.val (.int r1), .val (.int r2), .val (.int r3), .val (.int r4), .val (.int md), .val (.int qy), .val (.int z), .val (.int a), .val (.int b), .val (.int c), .val (.int adds), .val (.int q), .val (.ref b2), .unset, .unset, .unset, .unset] []))
          refine Gd.go (fun _ w_k => XS.aload X14.here hx rfl (hb hby at_108) rfl rfl w_k) ?_
          show Gd _ _ _ _ (T14.setTop (mkF m 110 #[.val (.int r1), .val (.int r2), .val (.int r3), .val (.int r4), .val (.int md), .val (.int qy), .val (.int z), .val (.int a), .val (.int b), .val (.int c), .val (.int adds), .val (.int q), .val (.ref b2), .unset, .unset, .unset, .unset] [(.ref b2)]))
          refine Gd.go (fun _ w_k => XS.iload X14.here hx rfl (hb hby at_110) rfl w_k) ?_
          show Gd _ _ _ _ (T14.setTop (mkF m 112 #[.val (.int r1), .val (.int r2), .val (.int r3), .val (.int r4), .val (.int md), .val (.int qy), .val (.int z), .val (.int a), .val (.int b), .val (.int c), .val (.int adds), .val (.int q), .val (.ref b2), .unset, .unset, .unset, .unset] [(.int c), (.ref b2)]))
          refine Gd.go (fun _ w_k => XS.lconst X14.here hx rfl (hb hby at_112) w_k) ?_
          show Gd _ _ _ _ (T14.setTop (mkF m 113 #[.val (.int r1), .val (.int r2), .val (.int r3), .val (.int r4), .val (.int md), .val (.int qy), .val (.int z), .val (.int a), .val (.int b), .val (.int c), .val (.int adds), .val (.int q), .val (.ref b2), .unset, .unset, .unset, .unset] [(.long (1 : Int64)), (.int c), (.ref b2)]))
          obtain ⟨v17, T17, L17, X17, hQ17, st17⟩ := own_callV X14 hx hZ (C := "org/eventropy/core/ActivityCounts") (y := (⟨"org/eventropy/core/ActivityCounts", "add", "(IJ)V"⟩ : MethodName)) hown (hw _ (List.mem_of_getElem? (i := 27) rfl)) (hw _ (List.mem_of_getElem? (i := 28) rfl)) (hw _ (List.mem_of_getElem? (i := 30) rfl)) (hw _ (List.mem_of_getElem? (i := 29) rfl)) (hw _ (List.mem_of_getElem? (i := 3) rfl)) (hw _ (List.mem_of_getElem? (i := 31) rfl)) (by decide) Hd13.exa (W := 0) (own_c5 l Z a0 hw b2 c (1 : Int64) z.toNatClampNeg (own_F (own_F (fun _ => -1) 0 a.toNatClampNeg) (own_k (fun _ => -1) 0 a.toNatClampNeg) b.toNatClampNeg) (own_k (own_F (fun _ => -1) 0 a.toNatClampNeg) (own_k (fun _ => -1) 0 a.toNatClampNeg) b.toNatClampNeg) 2 (by decide) T14.heap n0 Hd13 (own_ok_next (by decide) (own_ok_next (by decide) own_ok_start a.toNatClampNeg) b.toNatClampNeg) (own_q g_z g_c)) rfl rfl rfl (by decide) (by decide) (g := (mkF m 113 #[.val (.int r1), .val (.int r2), .val (.int r3), .val (.int r4), .val (.int md), .val (.int qy), .val (.int z), .val (.int a), .val (.int b), .val (.int c), .val (.int adds), .val (.int q), .val (.ref b2), .unset, .unset, .unset, .unset] [(.long (1 : Int64)), (.int c), (.ref b2)])) rfl (by rw [hml]; rfl) (argsL := [(.int c), (.long (1 : Int64))]) (rest := []) (lenOf own_pd2 rfl) rfl (Nat.le_of_eq rfl) (hb hby at_113) rfl (by decide) (by decide)
          obtain ⟨rfl, Hd16, Nd16⟩ := hQ17
          refine Gd.go (fun _ w_k => st17 _ w_k) ?_
          show Gd _ _ _ _ (T17.setTop (mkF m 116 #[.val (.int r1), .val (.int r2), .val (.int r3), .val (.int r4), .val (.int md), .val (.int qy), .val (.int z), .val (.int a), .val (.int b), .val (.int c), .val (.int adds), .val (.int q), .val (.ref b2), .unset, .unset, .unset, .unset] []))
          have NNd16 := Fr.app NNd13 Nd16
          exact J ⟨T17, _, (own_F (own_F (own_F (fun _ => -1) 0 a.toNatClampNeg) (own_k (fun _ => -1) 0 a.toNatClampNeg) b.toNatClampNeg) (own_k (own_F (fun _ => -1) 0 a.toNatClampNeg) (own_k (fun _ => -1) 0 a.toNatClampNeg) b.toNatClampNeg) c.toNatClampNeg), (own_k (own_F (own_F (fun _ => -1) 0 a.toNatClampNeg) (own_k (fun _ => -1) 0 a.toNatClampNeg) b.toNatClampNeg) (own_k (own_F (fun _ => -1) 0 a.toNatClampNeg) (own_k (fun _ => -1) 0 a.toNatClampNeg) b.toNatClampNeg) c.toNatClampNeg)⟩ ⟨X17, Hd16, NNd16, own_sp3 g_a.1 g_b.1 g_c.1 hc9 hc12 hc15⟩
  obtain ⟨T9, L9, F9, k9⟩ := y
  obtain ⟨X9, H9, N9', sp9⟩ := hy
  dsimp only at X9 H9 N9' sp9
  show Gd _ _ _ _ (T9.setTop (mkF m 116 #[.val (.int r1), .val (.int r2), .val (.int r3), .val (.int r4), .val (.int md), .val (.int qy), .val (.int z), .val (.int a), .val (.int b), .val (.int c), .val (.int adds), .val (.int q), .val (.ref b2), .unset, .unset, .unset, .unset] []))
  refine Gd.via (S' := T9.setTop (mkF m 128 #[.val (.int r1), .val (.int r2), .val (.int r3), .val (.int r4), .val (.int md), .val (.int qy), .val (.int z), .val (.int a), .val (.int b), .val (.int c), .val (.int adds), .val (.int q), .val (.ref b2), .unset, .unset, .unset, .unset] [(.int (if b = a then (0 : Int32) else 1))])) (fun J18 => ?_) ?_
  · refine Gd.go (fun _ w_k => XS.iload X9.here hx rfl (hb hby at_116) rfl w_k) ?_
    show Gd _ _ _ _ (T9.setTop (mkF m 118 #[.val (.int r1), .val (.int r2), .val (.int r3), .val (.int r4), .val (.int md), .val (.int qy), .val (.int z), .val (.int a), .val (.int b), .val (.int c), .val (.int adds), .val (.int q), .val (.ref b2), .unset, .unset, .unset, .unset] [(.int b)]))
    refine Gd.go (fun _ w_k => XS.iload X9.here hx rfl (hb hby at_118) rfl w_k) ?_
    show Gd _ _ _ _ (T9.setTop (mkF m 120 #[.val (.int r1), .val (.int r2), .val (.int r3), .val (.int r4), .val (.int md), .val (.int qy), .val (.int z), .val (.int a), .val (.int b), .val (.int c), .val (.int adds), .val (.int q), .val (.ref b2), .unset, .unset, .unset, .unset] [(.int a), (.int b)]))
    by_cases hc19 : b = a
    · refine Gd.go (fun _ w_k => XS.icmpNo X9.here hx rfl (hb hby at_120) rfl (teq hc19).2 w_k) ?_
      show Gd _ _ _ _ (T9.setTop (mkF m 123 #[.val (.int r1), .val (.int r2), .val (.int r3), .val (.int r4), .val (.int md), .val (.int qy), .val (.int z), .val (.int a), .val (.int b), .val (.int c), .val (.int adds), .val (.int q), .val (.ref b2), .unset, .unset, .unset, .unset] []))
      refine Gd.go (fun _ w_k => XS.iconst X9.here hx rfl (hb hby at_123) w_k) ?_
      show Gd _ _ _ _ (T9.setTop (mkF m 124 #[.val (.int r1), .val (.int r2), .val (.int r3), .val (.int r4), .val (.int md), .val (.int qy), .val (.int z), .val (.int a), .val (.int b), .val (.int c), .val (.int adds), .val (.int q), .val (.ref b2), .unset, .unset, .unset, .unset] [(.int (0 : Int32))]))
      refine Gd.go (fun _ w_k => XS.goto X9.here hx rfl (pc0 := 124) (pc' := 128) rfl (hb hby at_124) (by decide) (by decide) w_k) ?_
      show Gd _ _ _ _ (T9.setTop (mkF m 128 #[.val (.int r1), .val (.int r2), .val (.int r3), .val (.int r4), .val (.int md), .val (.int qy), .val (.int z), .val (.int a), .val (.int b), .val (.int c), .val (.int adds), .val (.int q), .val (.ref b2), .unset, .unset, .unset, .unset] [(.int (0 : Int32))]))
      have q20 : (if b = a then (0 : Int32) else 1) = (0 : Int32) := by simp only [eq_true hc19, if_true, if_false]
      rw [q20] at J18
      exact J18
    · refine Gd.go (fun _ w_k => XS.icmpYes X9.here hx rfl (pc0 := 120) (pc' := 127) rfl (hb hby at_120) rfl (feq hc19).2 (by decide) (by decide) w_k) ?_
      show Gd _ _ _ _ (T9.setTop (mkF m 127 #[.val (.int r1), .val (.int r2), .val (.int r3), .val (.int r4), .val (.int md), .val (.int qy), .val (.int z), .val (.int a), .val (.int b), .val (.int c), .val (.int adds), .val (.int q), .val (.ref b2), .unset, .unset, .unset, .unset] []))
      refine Gd.go (fun _ w_k => XS.iconst X9.here hx rfl (hb hby at_127) w_k) ?_
      show Gd _ _ _ _ (T9.setTop (mkF m 128 #[.val (.int r1), .val (.int r2), .val (.int r3), .val (.int r4), .val (.int md), .val (.int qy), .val (.int z), .val (.int a), .val (.int b), .val (.int c), .val (.int adds), .val (.int q), .val (.ref b2), .unset, .unset, .unset, .unset] [(.int (1 : Int32))]))
      have q21 : (if b = a then (0 : Int32) else 1) = (1 : Int32) := by simp only [eq_false hc19, if_true, if_false]
      rw [q21] at J18
      exact J18
  show Gd _ _ _ _ (T9.setTop (mkF m 128 #[.val (.int r1), .val (.int r2), .val (.int r3), .val (.int r4), .val (.int md), .val (.int qy), .val (.int z), .val (.int a), .val (.int b), .val (.int c), .val (.int adds), .val (.int q), .val (.ref b2), .unset, .unset, .unset, .unset] [(.int (if b = a then (0 : Int32) else 1))]))
  refine Gd.go (fun _ w_k => XS.istore X9.here hx rfl (hb hby at_128) rfl (l' := #[.val (.int r1), .val (.int r2), .val (.int r3), .val (.int r4), .val (.int md), .val (.int qy), .val (.int z), .val (.int a), .val (.int b), .val (.int c), .val (.int adds), .val (.int q), .val (.ref b2), .val (.int (if b = a then (0 : Int32) else 1)), .unset, .unset, .unset]) rfl w_k) ?_
  show Gd _ _ _ _ (T9.setTop (mkF m 130 #[.val (.int r1), .val (.int r2), .val (.int r3), .val (.int r4), .val (.int md), .val (.int qy), .val (.int z), .val (.int a), .val (.int b), .val (.int c), .val (.int adds), .val (.int q), .val (.ref b2), .val (.int (if b = a then (0 : Int32) else 1)), .unset, .unset, .unset] []))
  refine Gd.via (S' := T9.setTop (mkF m 142 #[.val (.int r1), .val (.int r2), .val (.int r3), .val (.int r4), .val (.int md), .val (.int qy), .val (.int z), .val (.int a), .val (.int b), .val (.int c), .val (.int adds), .val (.int q), .val (.ref b2), .val (.int (if b = a then (0 : Int32) else 1)), .unset, .unset, .unset] [(.int (if b = a then (1 : Int32) else 2))])) (fun J22 => ?_) ?_
  · refine Gd.go (fun _ w_k => XS.iload X9.here hx rfl (hb hby at_130) rfl w_k) ?_
    show Gd _ _ _ _ (T9.setTop (mkF m 132 #[.val (.int r1), .val (.int r2), .val (.int r3), .val (.int r4), .val (.int md), .val (.int qy), .val (.int z), .val (.int a), .val (.int b), .val (.int c), .val (.int adds), .val (.int q), .val (.ref b2), .val (.int (if b = a then (0 : Int32) else 1)), .unset, .unset, .unset] [(.int b)]))
    refine Gd.go (fun _ w_k => XS.iload X9.here hx rfl (hb hby at_132) rfl w_k) ?_
    show Gd _ _ _ _ (T9.setTop (mkF m 134 #[.val (.int r1), .val (.int r2), .val (.int r3), .val (.int r4), .val (.int md), .val (.int qy), .val (.int z), .val (.int a), .val (.int b), .val (.int c), .val (.int adds), .val (.int q), .val (.ref b2), .val (.int (if b = a then (0 : Int32) else 1)), .unset, .unset, .unset] [(.int a), (.int b)]))
    by_cases hc23 : b = a
    · refine Gd.go (fun _ w_k => XS.icmpNo X9.here hx rfl (hb hby at_134) rfl (teq hc23).2 w_k) ?_
      show Gd _ _ _ _ (T9.setTop (mkF m 137 #[.val (.int r1), .val (.int r2), .val (.int r3), .val (.int r4), .val (.int md), .val (.int qy), .val (.int z), .val (.int a), .val (.int b), .val (.int c), .val (.int adds), .val (.int q), .val (.ref b2), .val (.int (if b = a then (0 : Int32) else 1)), .unset, .unset, .unset] []))
      refine Gd.go (fun _ w_k => XS.iconst X9.here hx rfl (hb hby at_137) w_k) ?_
      show Gd _ _ _ _ (T9.setTop (mkF m 138 #[.val (.int r1), .val (.int r2), .val (.int r3), .val (.int r4), .val (.int md), .val (.int qy), .val (.int z), .val (.int a), .val (.int b), .val (.int c), .val (.int adds), .val (.int q), .val (.ref b2), .val (.int (if b = a then (0 : Int32) else 1)), .unset, .unset, .unset] [(.int (1 : Int32))]))
      refine Gd.go (fun _ w_k => XS.goto X9.here hx rfl (pc0 := 138) (pc' := 142) rfl (hb hby at_138) (by decide) (by decide) w_k) ?_
      show Gd _ _ _ _ (T9.setTop (mkF m 142 #[.val (.int r1), .val (.int r2), .val (.int r3), .val (.int r4), .val (.int md), .val (.int qy), .val (.int z), .val (.int a), .val (.int b), .val (.int c), .val (.int adds), .val (.int q), .val (.ref b2), .val (.int (if b = a then (0 : Int32) else 1)), .unset, .unset, .unset] [(.int (1 : Int32))]))
      have q24 : (if b = a then (1 : Int32) else 2) = (1 : Int32) := by simp only [eq_true hc23, if_true, if_false]
      rw [q24] at J22
      exact J22
    · refine Gd.go (fun _ w_k => XS.icmpYes X9.here hx rfl (pc0 := 134) (pc' := 141) rfl (hb hby at_134) rfl (feq hc23).2 (by decide) (by decide) w_k) ?_
      show Gd _ _ _ _ (T9.setTop (mkF m 141 #[.val (.int r1), .val (.int r2), .val (.int r3), .val (.int r4), .val (.int md), .val (.int qy), .val (.int z), .val (.int a), .val (.int b), .val (.int c), .val (.int adds), .val (.int q), .val (.ref b2), .val (.int (if b = a then (0 : Int32) else 1)), .unset, .unset, .unset] []))
      refine Gd.go (fun _ w_k => XS.iconst X9.here hx rfl (hb hby at_141) w_k) ?_
      show Gd _ _ _ _ (T9.setTop (mkF m 142 #[.val (.int r1), .val (.int r2), .val (.int r3), .val (.int r4), .val (.int md), .val (.int qy), .val (.int z), .val (.int a), .val (.int b), .val (.int c), .val (.int adds), .val (.int q), .val (.ref b2), .val (.int (if b = a then (0 : Int32) else 1)), .unset, .unset, .unset] [(.int (2 : Int32))]))
      have q25 : (if b = a then (1 : Int32) else 2) = (2 : Int32) := by simp only [eq_false hc23, if_true, if_false]
      rw [q25] at J22
      exact J22
  show Gd _ _ _ _ (T9.setTop (mkF m 142 #[.val (.int r1), .val (.int r2), .val (.int r3), .val (.int r4), .val (.int md), .val (.int qy), .val (.int z), .val (.int a), .val (.int b), .val (.int c), .val (.int adds), .val (.int q), .val (.ref b2), .val (.int (if b = a then (0 : Int32) else 1)), .unset, .unset, .unset] [(.int (if b = a then (1 : Int32) else 2))]))
  refine Gd.go (fun _ w_k => XS.istore X9.here hx rfl (hb hby at_142) rfl (l' := #[.val (.int r1), .val (.int r2), .val (.int r3), .val (.int r4), .val (.int md), .val (.int qy), .val (.int z), .val (.int a), .val (.int b), .val (.int c), .val (.int adds), .val (.int q), .val (.ref b2), .val (.int (if b = a then (0 : Int32) else 1)), .val (.int (if b = a then (1 : Int32) else 2)), .unset, .unset]) rfl w_k) ?_
  show Gd _ _ _ _ (T9.setTop (mkF m 144 #[.val (.int r1), .val (.int r2), .val (.int r3), .val (.int r4), .val (.int md), .val (.int qy), .val (.int z), .val (.int a), .val (.int b), .val (.int c), .val (.int adds), .val (.int q), .val (.ref b2), .val (.int (if b = a then (0 : Int32) else 1)), .val (.int (if b = a then (1 : Int32) else 2)), .unset, .unset] []))
  refine Gd.via (S' := T9.setTop (mkF m 169 #[.val (.int r1), .val (.int r2), .val (.int r3), .val (.int r4), .val (.int md), .val (.int qy), .val (.int z), .val (.int a), .val (.int b), .val (.int c), .val (.int adds), .val (.int q), .val (.ref b2), .val (.int (if b = a then (0 : Int32) else 1)), .val (.int (if b = a then (1 : Int32) else 2)), .unset, .unset] [(.int (if c = a then (0 : Int32) else if c = b then (if b = a then (0 : Int32) else 1) else (if b = a then (1 : Int32) else 2)))])) (fun J26 => ?_) ?_
  · refine Gd.go (fun _ w_k => XS.iload X9.here hx rfl (hb hby at_144) rfl w_k) ?_
    show Gd _ _ _ _ (T9.setTop (mkF m 146 #[.val (.int r1), .val (.int r2), .val (.int r3), .val (.int r4), .val (.int md), .val (.int qy), .val (.int z), .val (.int a), .val (.int b), .val (.int c), .val (.int adds), .val (.int q), .val (.ref b2), .val (.int (if b = a then (0 : Int32) else 1)), .val (.int (if b = a then (1 : Int32) else 2)), .unset, .unset] [(.int c)]))
    refine Gd.go (fun _ w_k => XS.iload X9.here hx rfl (hb hby at_146) rfl w_k) ?_
    show Gd _ _ _ _ (T9.setTop (mkF m 148 #[.val (.int r1), .val (.int r2), .val (.int r3), .val (.int r4), .val (.int md), .val (.int qy), .val (.int z), .val (.int a), .val (.int b), .val (.int c), .val (.int adds), .val (.int q), .val (.ref b2), .val (.int (if b = a then (0 : Int32) else 1)), .val (.int (if b = a then (1 : Int32) else 2)), .unset, .unset] [(.int a), (.int c)]))
    by_cases hc27 : c = a
    · refine Gd.go (fun _ w_k => XS.icmpNo X9.here hx rfl (hb hby at_148) rfl (teq hc27).2 w_k) ?_
      show Gd _ _ _ _ (T9.setTop (mkF m 151 #[.val (.int r1), .val (.int r2), .val (.int r3), .val (.int r4), .val (.int md), .val (.int qy), .val (.int z), .val (.int a), .val (.int b), .val (.int c), .val (.int adds), .val (.int q), .val (.ref b2), .val (.int (if b = a then (0 : Int32) else 1)), .val (.int (if b = a then (1 : Int32) else 2)), .unset, .unset] []))
      refine Gd.go (fun _ w_k => XS.iconst X9.here hx rfl (hb hby at_151) w_k) ?_
      show Gd _ _ _ _ (T9.setTop (mkF m 152 #[.val (.int r1), .val (.int r2), .val (.int r3), .val (.int r4), .val (.int md), .val (.int qy), .val (.int z), .val (.int a), .val (.int b), .val (.int c), .val (.int adds), .val (.int q), .val (.ref b2), .val (.int (if b = a then (0 : Int32) else 1)), .val (.int (if b = a then (1 : Int32) else 2)), .unset, .unset] [(.int (0 : Int32))]))
      refine Gd.go (fun _ w_k => XS.goto X9.here hx rfl (pc0 := 152) (pc' := 169) rfl (hb hby at_152) (by decide) (by decide) w_k) ?_
      show Gd _ _ _ _ (T9.setTop (mkF m 169 #[.val (.int r1), .val (.int r2), .val (.int r3), .val (.int r4), .val (.int md), .val (.int qy), .val (.int z), .val (.int a), .val (.int b), .val (.int c), .val (.int adds), .val (.int q), .val (.ref b2), .val (.int (if b = a then (0 : Int32) else 1)), .val (.int (if b = a then (1 : Int32) else 2)), .unset, .unset] [(.int (0 : Int32))]))
      have q28 : (if c = a then (0 : Int32) else if c = b then (if b = a then (0 : Int32) else 1) else (if b = a then (1 : Int32) else 2)) = (0 : Int32) := by simp only [eq_true hc27, if_true, if_false]
      rw [q28] at J26
      exact J26
    · refine Gd.go (fun _ w_k => XS.icmpYes X9.here hx rfl (pc0 := 148) (pc' := 155) rfl (hb hby at_148) rfl (feq hc27).2 (by decide) (by decide) w_k) ?_
      show Gd _ _ _ _ (T9.setTop (mkF m 155 #[.val (.int r1), .val (.int r2), .val (.int r3), .val (.int r4), .val (.int md), .val (.int qy), .val (.int z), .val (.int a), .val (.int b), .val (.int c), .val (.int adds), .val (.int q), .val (.ref b2), .val (.int (if b = a then (0 : Int32) else 1)), .val (.int (if b = a then (1 : Int32) else 2)), .unset, .unset] []))
      refine Gd.go (fun _ w_k => XS.iload X9.here hx rfl (hb hby at_155) rfl w_k) ?_
      show Gd _ _ _ _ (T9.setTop (mkF m 157 #[.val (.int r1), .val (.int r2), .val (.int r3), .val (.int r4), .val (.int md), .val (.int qy), .val (.int z), .val (.int a), .val (.int b), .val (.int c), .val (.int adds), .val (.int q), .val (.ref b2), .val (.int (if b = a then (0 : Int32) else 1)), .val (.int (if b = a then (1 : Int32) else 2)), .unset, .unset] [(.int c)]))
      refine Gd.go (fun _ w_k => XS.iload X9.here hx rfl (hb hby at_157) rfl w_k) ?_
      show Gd _ _ _ _ (T9.setTop (mkF m 159 #[.val (.int r1), .val (.int r2), .val (.int r3), .val (.int r4), .val (.int md), .val (.int qy), .val (.int z), .val (.int a), .val (.int b), .val (.int c), .val (.int adds), .val (.int q), .val (.ref b2), .val (.int (if b = a then (0 : Int32) else 1)), .val (.int (if b = a then (1 : Int32) else 2)), .unset, .unset] [(.int b), (.int c)]))
      by_cases hc29 : c = b
      · refine Gd.go (fun _ w_k => XS.icmpNo X9.here hx rfl (hb hby at_159) rfl (teq hc29).2 w_k) ?_
        show Gd _ _ _ _ (T9.setTop (mkF m 162 #[.val (.int r1), .val (.int r2), .val (.int r3), .val (.int r4), .val (.int md), .val (.int qy), .val (.int z), .val (.int a), .val (.int b), .val (.int c), .val (.int adds), .val (.int q), .val (.ref b2), .val (.int (if b = a then (0 : Int32) else 1)), .val (.int (if b = a then (1 : Int32) else 2)), .unset, .unset] []))
        refine Gd.go (fun _ w_k => XS.iload X9.here hx rfl (hb hby at_162) rfl w_k) ?_
        show Gd _ _ _ _ (T9.setTop (mkF m 164 #[.val (.int r1), .val (.int r2), .val (.int r3), .val (.int r4), .val (.int md), .val (.int qy), .val (.int z), .val (.int a), .val (.int b), .val (.int c), .val (.int adds), .val (.int q), .val (.ref b2), .val (.int (if b = a then (0 : Int32) else 1)), .val (.int (if b = a then (1 : Int32) else 2)), .unset, .unset] [(.int (if b = a then (0 : Int32) else 1))]))
        refine Gd.go (fun _ w_k => XS.goto X9.here hx rfl (pc0 := 164) (pc' := 169) rfl (hb hby at_164) (by decide) (by decide) w_k) ?_
        show Gd _ _ _ _ (T9.setTop (mkF m 169 #[.val (.int r1), .val (.int r2), .val (.int r3), .val (.int r4), .val (.int md), .val (.int qy), .val (.int z), .val (.int a), .val (.int b), .val (.int c), .val (.int adds), .val (.int q), .val (.ref b2), .val (.int (if b = a then (0 : Int32) else 1)), .val (.int (if b = a then (1 : Int32) else 2)), .unset, .unset] [(.int (if b = a then (0 : Int32) else 1))]))
        have q30 : (if c = a then (0 : Int32) else if c = b then (if b = a then (0 : Int32) else 1) else (if b = a then (1 : Int32) else 2)) = (if b = a then (0 : Int32) else 1) := by simp only [eq_false hc27, eq_true hc29, if_true, if_false]
        rw [q30] at J26
        exact J26
      · refine Gd.go (fun _ w_k => XS.icmpYes X9.here hx rfl (pc0 := 159) (pc' := 167) rfl (hb hby at_159) rfl (feq hc29).2 (by decide) (by decide) w_k) ?_
        show Gd _ _ _ _ (T9.setTop (mkF m 167 #[.val (.int r1), .val (.int r2), .val (.int r3), .val (.int r4), .val (.int md), .val (.int qy), .val (.int z), .val (.int a), .val (.int b), .val (.int c), .val (.int adds), .val (.int q), .val (.ref b2), .val (.int (if b = a then (0 : Int32) else 1)), .val (.int (if b = a then (1 : Int32) else 2)), .unset, .unset] []))
        refine Gd.go (fun _ w_k => XS.iload X9.here hx rfl (hb hby at_167) rfl w_k) ?_
        show Gd _ _ _ _ (T9.setTop (mkF m 169 #[.val (.int r1), .val (.int r2), .val (.int r3), .val (.int r4), .val (.int md), .val (.int qy), .val (.int z), .val (.int a), .val (.int b), .val (.int c), .val (.int adds), .val (.int q), .val (.ref b2), .val (.int (if b = a then (0 : Int32) else 1)), .val (.int (if b = a then (1 : Int32) else 2)), .unset, .unset] [(.int (if b = a then (1 : Int32) else 2))]))
        have q31 : (if c = a then (0 : Int32) else if c = b then (if b = a then (0 : Int32) else 1) else (if b = a then (1 : Int32) else 2)) = (if b = a then (1 : Int32) else 2) := by simp only [eq_false hc27, eq_false hc29, if_true, if_false]
        rw [q31] at J26
        exact J26
  show Gd _ _ _ _ (T9.setTop (mkF m 169 #[.val (.int r1), .val (.int r2), .val (.int r3), .val (.int r4), .val (.int md), .val (.int qy), .val (.int z), .val (.int a), .val (.int b), .val (.int c), .val (.int adds), .val (.int q), .val (.ref b2), .val (.int (if b = a then (0 : Int32) else 1)), .val (.int (if b = a then (1 : Int32) else 2)), .unset, .unset] [(.int (if c = a then (0 : Int32) else if c = b then (if b = a then (0 : Int32) else 1) else (if b = a then (1 : Int32) else 2)))]))
  refine Gd.go (fun _ w_k => XS.istore X9.here hx rfl (hb hby at_169) rfl (l' := #[.val (.int r1), .val (.int r2), .val (.int r3), .val (.int r4), .val (.int md), .val (.int qy), .val (.int z), .val (.int a), .val (.int b), .val (.int c), .val (.int adds), .val (.int q), .val (.ref b2), .val (.int (if b = a then (0 : Int32) else 1)), .val (.int (if b = a then (1 : Int32) else 2)), .val (.int (if c = a then (0 : Int32) else if c = b then (if b = a then (0 : Int32) else 1) else (if b = a then (1 : Int32) else 2))), .unset]) rfl w_k) ?_
  show Gd _ _ _ _ (T9.setTop (mkF m 171 #[.val (.int r1), .val (.int r2), .val (.int r3), .val (.int r4), .val (.int md), .val (.int qy), .val (.int z), .val (.int a), .val (.int b), .val (.int c), .val (.int adds), .val (.int q), .val (.ref b2), .val (.int (if b = a then (0 : Int32) else 1)), .val (.int (if b = a then (1 : Int32) else 2)), .val (.int (if c = a then (0 : Int32) else if c = b then (if b = a then (0 : Int32) else 1) else (if b = a then (1 : Int32) else 2))), .unset] []))
  refine Gd.go (fun _ w_k => XS.iconst X9.here hx rfl (hb hby at_171) w_k) ?_
  show Gd _ _ _ _ (T9.setTop (mkF m 172 #[.val (.int r1), .val (.int r2), .val (.int r3), .val (.int r4), .val (.int md), .val (.int qy), .val (.int z), .val (.int a), .val (.int b), .val (.int c), .val (.int adds), .val (.int q), .val (.ref b2), .val (.int (if b = a then (0 : Int32) else 1)), .val (.int (if b = a then (1 : Int32) else 2)), .val (.int (if c = a then (0 : Int32) else if c = b then (if b = a then (0 : Int32) else 1) else (if b = a then (1 : Int32) else 2))), .unset] [(.int (-1 : Int32))]))
  refine Gd.go (fun _ w_k => XS.istore X9.here hx rfl (hb hby at_172) rfl (l' := #[.val (.int r1), .val (.int r2), .val (.int r3), .val (.int r4), .val (.int md), .val (.int qy), .val (.int z), .val (.int a), .val (.int b), .val (.int c), .val (.int adds), .val (.int q), .val (.ref b2), .val (.int (if b = a then (0 : Int32) else 1)), .val (.int (if b = a then (1 : Int32) else 2)), .val (.int (if c = a then (0 : Int32) else if c = b then (if b = a then (0 : Int32) else 1) else (if b = a then (1 : Int32) else 2))), .val (.int (-1 : Int32))]) rfl w_k) ?_
  show Gd _ _ _ _ (T9.setTop (mkF m 174 #[.val (.int r1), .val (.int r2), .val (.int r3), .val (.int r4), .val (.int md), .val (.int qy), .val (.int z), .val (.int a), .val (.int b), .val (.int c), .val (.int adds), .val (.int q), .val (.ref b2), .val (.int (if b = a then (0 : Int32) else 1)), .val (.int (if b = a then (1 : Int32) else 2)), .val (.int (if c = a then (0 : Int32) else if c = b then (if b = a then (0 : Int32) else 1) else (if b = a then (1 : Int32) else 2))), .val (.int (-1 : Int32))] []))
  refine Gd.via (S' := T9.setTop (mkF m 242 #[.val (.int r1), .val (.int r2), .val (.int r3), .val (.int r4), .val (.int md), .val (.int qy), .val (.int z), .val (.int a), .val (.int b), .val (.int c), .val (.int adds), .val (.int q), .val (.ref b2), .val (.int (if b = a then (0 : Int32) else 1)), .val (.int (if b = a then (1 : Int32) else 2)), .val (.int (if c = a then (0 : Int32) else if c = b then (if b = a then (0 : Int32) else 1) else (if b = a then (1 : Int32) else 2))), .val (.int (if q < 0 then (-1 : Int32) else if q < z then own_spec adds a b c q else -1))] [])) (fun J32 => ?_) ?_
  · refine Gd.go (fun _ w_k => XS.iload X9.here hx rfl (hb hby at_174) rfl w_k) ?_
    show Gd _ _ _ _ (T9.setTop (mkF m 176 #[.val (.int r1), .val (.int r2), .val (.int r3), .val (.int r4), .val (.int md), .val (.int qy), .val (.int z), .val (.int a), .val (.int b), .val (.int c), .val (.int adds), .val (.int q), .val (.ref b2), .val (.int (if b = a then (0 : Int32) else 1)), .val (.int (if b = a then (1 : Int32) else 2)), .val (.int (if c = a then (0 : Int32) else if c = b then (if b = a then (0 : Int32) else 1) else (if b = a then (1 : Int32) else 2))), .val (.int (-1 : Int32))] [(.int q)]))
    by_cases hc33 : q < (0 : Int32)
    · refine Gd.go (fun _ w_k => XS.ifYes X9.here hx rfl (pc0 := 176) (pc' := 242) rfl (hb hby at_176) rfl ((if0 _ _).trans (tlt hc33).1) (by decide) (by decide) w_k) ?_
      show Gd _ _ _ _ (T9.setTop (mkF m 242 #[.val (.int r1), .val (.int r2), .val (.int r3), .val (.int r4), .val (.int md), .val (.int qy), .val (.int z), .val (.int a), .val (.int b), .val (.int c), .val (.int adds), .val (.int q), .val (.ref b2), .val (.int (if b = a then (0 : Int32) else 1)), .val (.int (if b = a then (1 : Int32) else 2)), .val (.int (if c = a then (0 : Int32) else if c = b then (if b = a then (0 : Int32) else 1) else (if b = a then (1 : Int32) else 2))), .val (.int (-1 : Int32))] []))
      have q34 : (if q < 0 then (-1 : Int32) else if q < z then own_spec adds a b c q else -1) = (-1 : Int32) := by simp only [own_spec, eq_true hc33, not_true_eq_false, not_false_eq_true, true_and, and_true, and_false, false_and, if_true, if_false]
      rw [q34] at J32
      exact J32
    · refine Gd.go (fun _ w_k => XS.ifNo X9.here hx rfl (hb hby at_176) rfl ((if0 _ _).trans (flt hc33).1) w_k) ?_
      show Gd _ _ _ _ (T9.setTop (mkF m 179 #[.val (.int r1), .val (.int r2), .val (.int r3), .val (.int r4), .val (.int md), .val (.int qy), .val (.int z), .val (.int a), .val (.int b), .val (.int c), .val (.int adds), .val (.int q), .val (.ref b2), .val (.int (if b = a then (0 : Int32) else 1)), .val (.int (if b = a then (1 : Int32) else 2)), .val (.int (if c = a then (0 : Int32) else if c = b then (if b = a then (0 : Int32) else 1) else (if b = a then (1 : Int32) else 2))), .val (.int (-1 : Int32))] []))
      refine Gd.go (fun _ w_k => XS.iload X9.here hx rfl (hb hby at_179) rfl w_k) ?_
      show Gd _ _ _ _ (T9.setTop (mkF m 181 #[.val (.int r1), .val (.int r2), .val (.int r3), .val (.int r4), .val (.int md), .val (.int qy), .val (.int z), .val (.int a), .val (.int b), .val (.int c), .val (.int adds), .val (.int q), .val (.ref b2), .val (.int (if b = a then (0 : Int32) else 1)), .val (.int (if b = a then (1 : Int32) else 2)), .val (.int (if c = a then (0 : Int32) else if c = b then (if b = a then (0 : Int32) else 1) else (if b = a then (1 : Int32) else 2))), .val (.int (-1 : Int32))] [(.int q)]))
      refine Gd.go (fun _ w_k => XS.iload X9.here hx rfl (hb hby at_181) rfl w_k) ?_
      show Gd _ _ _ _ (T9.setTop (mkF m 183 #[.val (.int r1), .val (.int r2), .val (.int r3), .val (.int r4), .val (.int md), .val (.int qy), .val (.int z), .val (.int a), .val (.int b), .val (.int c), .val (.int adds), .val (.int q), .val (.ref b2), .val (.int (if b = a then (0 : Int32) else 1)), .val (.int (if b = a then (1 : Int32) else 2)), .val (.int (if c = a then (0 : Int32) else if c = b then (if b = a then (0 : Int32) else 1) else (if b = a then (1 : Int32) else 2))), .val (.int (-1 : Int32))] [(.int z), (.int q)]))
      by_cases hc35 : q < z
      · refine Gd.go (fun _ w_k => XS.icmpNo X9.here hx rfl (hb hby at_183) rfl (tlt hc35).2.1 w_k) ?_
        show Gd _ _ _ _ (T9.setTop (mkF m 186 #[.val (.int r1), .val (.int r2), .val (.int r3), .val (.int r4), .val (.int md), .val (.int qy), .val (.int z), .val (.int a), .val (.int b), .val (.int c), .val (.int adds), .val (.int q), .val (.ref b2), .val (.int (if b = a then (0 : Int32) else 1)), .val (.int (if b = a then (1 : Int32) else 2)), .val (.int (if c = a then (0 : Int32) else if c = b then (if b = a then (0 : Int32) else 1) else (if b = a then (1 : Int32) else 2))), .val (.int (-1 : Int32))] []))
        refine Gd.go (fun _ w_k => XS.iload X9.here hx rfl (hb hby at_186) rfl w_k) ?_
        show Gd _ _ _ _ (T9.setTop (mkF m 188 #[.val (.int r1), .val (.int r2), .val (.int r3), .val (.int r4), .val (.int md), .val (.int qy), .val (.int z), .val (.int a), .val (.int b), .val (.int c), .val (.int adds), .val (.int q), .val (.ref b2), .val (.int (if b = a then (0 : Int32) else 1)), .val (.int (if b = a then (1 : Int32) else 2)), .val (.int (if c = a then (0 : Int32) else if c = b then (if b = a then (0 : Int32) else 1) else (if b = a then (1 : Int32) else 2))), .val (.int (-1 : Int32))] [(.int adds)]))
        refine Gd.go (fun _ w_k => XS.iconst X9.here hx rfl (hb hby at_188) w_k) ?_
        show Gd _ _ _ _ (T9.setTop (mkF m 189 #[.val (.int r1), .val (.int r2), .val (.int r3), .val (.int r4), .val (.int md), .val (.int qy), .val (.int z), .val (.int a), .val (.int b), .val (.int c), .val (.int adds), .val (.int q), .val (.ref b2), .val (.int (if b = a then (0 : Int32) else 1)), .val (.int (if b = a then (1 : Int32) else 2)), .val (.int (if c = a then (0 : Int32) else if c = b then (if b = a then (0 : Int32) else 1) else (if b = a then (1 : Int32) else 2))), .val (.int (-1 : Int32))] [(.int (1 : Int32)), (.int adds)]))
        by_cases hc36 : adds < (1 : Int32)
        · refine Gd.go (fun _ w_k => XS.icmpYes X9.here hx rfl (pc0 := 189) (pc' := 205) rfl (hb hby at_189) rfl (tlt hc36).1 (by decide) (by decide) w_k) ?_
          show Gd _ _ _ _ (T9.setTop (mkF m 205 #[.val (.int r1), .val (.int r2), .val (.int r3), .val (.int r4), .val (.int md), .val (.int qy), .val (.int z), .val (.int a), .val (.int b), .val (.int c), .val (.int adds), .val (.int q), .val (.ref b2), .val (.int (if b = a then (0 : Int32) else 1)), .val (.int (if b = a then (1 : Int32) else 2)), .val (.int (if c = a then (0 : Int32) else if c = b then (if b = a then (0 : Int32) else 1) else (if b = a then (1 : Int32) else 2))), .val (.int (-1 : Int32))] []))
          refine Gd.go (fun _ w_k => XS.iload X9.here hx rfl (hb hby at_205) rfl w_k) ?_
          show Gd _ _ _ _ (T9.setTop (mkF m 207 #[.val (.int r1), .val (.int r2), .val (.int r3), .val (.int r4), .val (.int md), .val (.int qy), .val (.int z), .val (.int a), .val (.int b), .val (.int c), .val (.int adds), .val (.int q), .val (.ref b2), .val (.int (if b = a then (0 : Int32) else 1)), .val (.int (if b = a then (1 : Int32) else 2)), .val (.int (if c = a then (0 : Int32) else if c = b then (if b = a then (0 : Int32) else 1) else (if b = a then (1 : Int32) else 2))), .val (.int (-1 : Int32))] [(.int adds)]))
          refine Gd.go (fun _ w_k => XS.iconst X9.here hx rfl (hb hby at_207) w_k) ?_
          show Gd _ _ _ _ (T9.setTop (mkF m 208 #[.val (.int r1), .val (.int r2), .val (.int r3), .val (.int r4), .val (.int md), .val (.int qy), .val (.int z), .val (.int a), .val (.int b), .val (.int c), .val (.int adds), .val (.int q), .val (.ref b2), .val (.int (if b = a then (0 : Int32) else 1)), .val (.int (if b = a then (1 : Int32) else 2)), .val (.int (if c = a then (0 : Int32) else if c = b then (if b = a then (0 : Int32) else 1) else (if b = a then (1 : Int32) else 2))), .val (.int (-1 : Int32))] [(.int (2 : Int32)), (.int adds)]))
          by_cases hc37 : adds < (2 : Int32)
          · refine Gd.go (fun _ w_k => XS.icmpYes X9.here hx rfl (pc0 := 208) (pc' := 225) rfl (hb hby at_208) rfl (tlt hc37).1 (by decide) (by decide) w_k) ?_
            show Gd _ _ _ _ (T9.setTop (mkF m 225 #[.val (.int r1), .val (.int r2), .val (.int r3), .val (.int r4), .val (.int md), .val (.int qy), .val (.int z), .val (.int a), .val (.int b), .val (.int c), .val (.int adds), .val (.int q), .val (.ref b2), .val (.int (if b = a then (0 : Int32) else 1)), .val (.int (if b = a then (1 : Int32) else 2)), .val (.int (if c = a then (0 : Int32) else if c = b then (if b = a then (0 : Int32) else 1) else (if b = a then (1 : Int32) else 2))), .val (.int (-1 : Int32))] []))
            refine Gd.go (fun _ w_k => XS.iload X9.here hx rfl (hb hby at_225) rfl w_k) ?_
            show Gd _ _ _ _ (T9.setTop (mkF m 227 #[.val (.int r1), .val (.int r2), .val (.int r3), .val (.int r4), .val (.int md), .val (.int qy), .val (.int z), .val (.int a), .val (.int b), .val (.int c), .val (.int adds), .val (.int q), .val (.ref b2), .val (.int (if b = a then (0 : Int32) else 1)), .val (.int (if b = a then (1 : Int32) else 2)), .val (.int (if c = a then (0 : Int32) else if c = b then (if b = a then (0 : Int32) else 1) else (if b = a then (1 : Int32) else 2))), .val (.int (-1 : Int32))] [(.int adds)]))
            refine Gd.go (fun _ w_k => XS.iconst X9.here hx rfl (hb hby at_227) w_k) ?_
            show Gd _ _ _ _ (T9.setTop (mkF m 228 #[.val (.int r1), .val (.int r2), .val (.int r3), .val (.int r4), .val (.int md), .val (.int qy), .val (.int z), .val (.int a), .val (.int b), .val (.int c), .val (.int adds), .val (.int q), .val (.ref b2), .val (.int (if b = a then (0 : Int32) else 1)), .val (.int (if b = a then (1 : Int32) else 2)), .val (.int (if c = a then (0 : Int32) else if c = b then (if b = a then (0 : Int32) else 1) else (if b = a then (1 : Int32) else 2))), .val (.int (-1 : Int32))] [(.int (3 : Int32)), (.int adds)]))
            by_cases hc38 : adds < (3 : Int32)
            · refine Gd.go (fun _ w_k => XS.icmpYes X9.here hx rfl (pc0 := 228) (pc' := 242) rfl (hb hby at_228) rfl (tlt hc38).1 (by decide) (by decide) w_k) ?_
              show Gd _ _ _ _ (T9.setTop (mkF m 242 #[.val (.int r1), .val (.int r2), .val (.int r3), .val (.int r4), .val (.int md), .val (.int qy), .val (.int z), .val (.int a), .val (.int b), .val (.int c), .val (.int adds), .val (.int q), .val (.ref b2), .val (.int (if b = a then (0 : Int32) else 1)), .val (.int (if b = a then (1 : Int32) else 2)), .val (.int (if c = a then (0 : Int32) else if c = b then (if b = a then (0 : Int32) else 1) else (if b = a then (1 : Int32) else 2))), .val (.int (-1 : Int32))] []))
              have q39 : (if q < 0 then (-1 : Int32) else if q < z then own_spec adds a b c q else -1) = (-1 : Int32) := by simp only [own_spec, eq_false hc33, eq_true hc35, eq_true hc36, eq_true hc37, eq_true hc38, not_true_eq_false, not_false_eq_true, true_and, and_true, and_false, false_and, if_true, if_false]
              rw [q39] at J32
              exact J32
            · refine Gd.go (fun _ w_k => XS.icmpNo X9.here hx rfl (hb hby at_228) rfl (flt hc38).1 w_k) ?_
              show Gd _ _ _ _ (T9.setTop (mkF m 231 #[.val (.int r1), .val (.int r2), .val (.int r3), .val (.int r4), .val (.int md), .val (.int qy), .val (.int z), .val (.int a), .val (.int b), .val (.int c), .val (.int adds), .val (.int q), .val (.ref b2), .val (.int (if b = a then (0 : Int32) else 1)), .val (.int (if b = a then (1 : Int32) else 2)), .val (.int (if c = a then (0 : Int32) else if c = b then (if b = a then (0 : Int32) else 1) else (if b = a then (1 : Int32) else 2))), .val (.int (-1 : Int32))] []))
              refine Gd.go (fun _ w_k => XS.iload X9.here hx rfl (hb hby at_231) rfl w_k) ?_
              show Gd _ _ _ _ (T9.setTop (mkF m 233 #[.val (.int r1), .val (.int r2), .val (.int r3), .val (.int r4), .val (.int md), .val (.int qy), .val (.int z), .val (.int a), .val (.int b), .val (.int c), .val (.int adds), .val (.int q), .val (.ref b2), .val (.int (if b = a then (0 : Int32) else 1)), .val (.int (if b = a then (1 : Int32) else 2)), .val (.int (if c = a then (0 : Int32) else if c = b then (if b = a then (0 : Int32) else 1) else (if b = a then (1 : Int32) else 2))), .val (.int (-1 : Int32))] [(.int q)]))
              refine Gd.go (fun _ w_k => XS.iload X9.here hx rfl (hb hby at_233) rfl w_k) ?_
              show Gd _ _ _ _ (T9.setTop (mkF m 235 #[.val (.int r1), .val (.int r2), .val (.int r3), .val (.int r4), .val (.int md), .val (.int qy), .val (.int z), .val (.int a), .val (.int b), .val (.int c), .val (.int adds), .val (.int q), .val (.ref b2), .val (.int (if b = a then (0 : Int32) else 1)), .val (.int (if b = a then (1 : Int32) else 2)), .val (.int (if c = a then (0 : Int32) else if c = b then (if b = a then (0 : Int32) else 1) else (if b = a then (1 : Int32) else 2))), .val (.int (-1 : Int32))] [(.int c), (.int q)]))
              by_cases hc40 : q = c
              · refine Gd.go (fun _ w_k => XS.icmpNo X9.here hx rfl (hb hby at_235) rfl (teq hc40).2 w_k) ?_
                show Gd _ _ _ _ (T9.setTop (mkF m 238 #[.val (.int r1), .val (.int r2), .val (.int r3), .val (.int r4), .val (.int md), .val (.int qy), .val (.int z), .val (.int a), .val (.int b), .val (.int c), .val (.int adds), .val (.int q), .val (.ref b2), .val (.int (if b = a then (0 : Int32) else 1)), .val (.int (if b = a then (1 : Int32) else 2)), .val (.int (if c = a then (0 : Int32) else if c = b then (if b = a then (0 : Int32) else 1) else (if b = a then (1 : Int32) else 2))), .val (.int (-1 : Int32))] []))
                refine Gd.go (fun _ w_k => XS.iload X9.here hx rfl (hb hby at_238) rfl w_k) ?_
                show Gd _ _ _ _ (T9.setTop (mkF m 240 #[.val (.int r1), .val (.int r2), .val (.int r3), .val (.int r4), .val (.int md), .val (.int qy), .val (.int z), .val (.int a), .val (.int b), .val (.int c), .val (.int adds), .val (.int q), .val (.ref b2), .val (.int (if b = a then (0 : Int32) else 1)), .val (.int (if b = a then (1 : Int32) else 2)), .val (.int (if c = a then (0 : Int32) else if c = b then (if b = a then (0 : Int32) else 1) else (if b = a then (1 : Int32) else 2))), .val (.int (-1 : Int32))] [(.int (if c = a then (0 : Int32) else if c = b then (if b = a then (0 : Int32) else 1) else (if b = a then (1 : Int32) else 2)))]))
                refine Gd.go (fun _ w_k => XS.istore X9.here hx rfl (hb hby at_240) rfl (l' := #[.val (.int r1), .val (.int r2), .val (.int r3), .val (.int r4), .val (.int md), .val (.int qy), .val (.int z), .val (.int a), .val (.int b), .val (.int c), .val (.int adds), .val (.int q), .val (.ref b2), .val (.int (if b = a then (0 : Int32) else 1)), .val (.int (if b = a then (1 : Int32) else 2)), .val (.int (if c = a then (0 : Int32) else if c = b then (if b = a then (0 : Int32) else 1) else (if b = a then (1 : Int32) else 2))), .val (.int (if c = a then (0 : Int32) else if c = b then (if b = a then (0 : Int32) else 1) else (if b = a then (1 : Int32) else 2)))]) rfl w_k) ?_
                show Gd _ _ _ _ (T9.setTop (mkF m 242 #[.val (.int r1), .val (.int r2), .val (.int r3), .val (.int r4), .val (.int md), .val (.int qy), .val (.int z), .val (.int a), .val (.int b), .val (.int c), .val (.int adds), .val (.int q), .val (.ref b2), .val (.int (if b = a then (0 : Int32) else 1)), .val (.int (if b = a then (1 : Int32) else 2)), .val (.int (if c = a then (0 : Int32) else if c = b then (if b = a then (0 : Int32) else 1) else (if b = a then (1 : Int32) else 2))), .val (.int (if c = a then (0 : Int32) else if c = b then (if b = a then (0 : Int32) else 1) else (if b = a then (1 : Int32) else 2)))] []))
                have q41 : (if q < 0 then (-1 : Int32) else if q < z then own_spec adds a b c q else -1) = (if c = a then (0 : Int32) else if c = b then (if b = a then (0 : Int32) else 1) else (if b = a then (1 : Int32) else 2)) := by simp only [own_spec, eq_false hc33, eq_true hc35, eq_true hc36, eq_true hc37, eq_false hc38, eq_true hc40, not_true_eq_false, not_false_eq_true, true_and, and_true, and_false, false_and, if_true, if_false]
                rw [q41] at J32
                exact J32
              · refine Gd.go (fun _ w_k => XS.icmpYes X9.here hx rfl (pc0 := 235) (pc' := 242) rfl (hb hby at_235) rfl (feq hc40).2 (by decide) (by decide) w_k) ?_
                show Gd _ _ _ _ (T9.setTop (mkF m 242 #[.val (.int r1), .val (.int r2), .val (.int r3), .val (.int r4), .val (.int md), .val (.int qy), .val (.int z), .val (.int a), .val (.int b), .val (.int c), .val (.int adds), .val (.int q), .val (.ref b2), .val (.int (if b = a then (0 : Int32) else 1)), .val (.int (if b = a then (1 : Int32) else 2)), .val (.int (if c = a then (0 : Int32) else if c = b then (if b = a then (0 : Int32) else 1) else (if b = a then (1 : Int32) else 2))), .val (.int (-1 : Int32))] []))
                have q42 : (if q < 0 then (-1 : Int32) else if q < z then own_spec adds a b c q else -1) = (-1 : Int32) := by simp only [own_spec, eq_false hc33, eq_true hc35, eq_true hc36, eq_true hc37, eq_false hc38, eq_false hc40, not_true_eq_false, not_false_eq_true, true_and, and_true, and_false, false_and, if_true, if_false]
                rw [q42] at J32
                exact J32
          · refine Gd.go (fun _ w_k => XS.icmpNo X9.here hx rfl (hb hby at_208) rfl (flt hc37).1 w_k) ?_
            show Gd _ _ _ _ (T9.setTop (mkF m 211 #[.val (.int r1), .val (.int r2), .val (.int r3), .val (.int r4), .val (.int md), .val (.int qy), .val (.int z), .val (.int a), .val (.int b), .val (.int c), .val (.int adds), .val (.int q), .val (.ref b2), .val (.int (if b = a then (0 : Int32) else 1)), .val (.int (if b = a then (1 : Int32) else 2)), .val (.int (if c = a then (0 : Int32) else if c = b then (if b = a then (0 : Int32) else 1) else (if b = a then (1 : Int32) else 2))), .val (.int (-1 : Int32))] []))
            refine Gd.go (fun _ w_k => XS.iload X9.here hx rfl (hb hby at_211) rfl w_k) ?_
            show Gd _ _ _ _ (T9.setTop (mkF m 213 #[.val (.int r1), .val (.int r2), .val (.int r3), .val (.int r4), .val (.int md), .val (.int qy), .val (.int z), .val (.int a), .val (.int b), .val (.int c), .val (.int adds), .val (.int q), .val (.ref b2), .val (.int (if b = a then (0 : Int32) else 1)), .val (.int (if b = a then (1 : Int32) else 2)), .val (.int (if c = a then (0 : Int32) else if c = b then (if b = a then (0 : Int32) else 1) else (if b = a then (1 : Int32) else 2))), .val (.int (-1 : Int32))] [(.int q)]))
            refine Gd.go (fun _ w_k => XS.iload X9.here hx rfl (hb hby at_213) rfl w_k) ?_
            show Gd _ _ _ _ (T9.setTop (mkF m 215 #[.val (.int r1), .val (.int r2), .val (.int r3), .val (.int r4), .val (.int md), .val (.int qy), .val (.int z), .val (.int a), .val (.int b), .val (.int c), .val (.int adds), .val (.int q), .val (.ref b2), .val (.int (if b = a then (0 : Int32) else 1)), .val (.int (if b = a then (1 : Int32) else 2)), .val (.int (if c = a then (0 : Int32) else if c = b then (if b = a then (0 : Int32) else 1) else (if b = a then (1 : Int32) else 2))), .val (.int (-1 : Int32))] [(.int b), (.int q)]))
            by_cases hc43 : q = b
            · refine Gd.go (fun _ w_k => XS.icmpNo X9.here hx rfl (hb hby at_215) rfl (teq hc43).2 w_k) ?_
              show Gd _ _ _ _ (T9.setTop (mkF m 218 #[.val (.int r1), .val (.int r2), .val (.int r3), .val (.int r4), .val (.int md), .val (.int qy), .val (.int z), .val (.int a), .val (.int b), .val (.int c), .val (.int adds), .val (.int q), .val (.ref b2), .val (.int (if b = a then (0 : Int32) else 1)), .val (.int (if b = a then (1 : Int32) else 2)), .val (.int (if c = a then (0 : Int32) else if c = b then (if b = a then (0 : Int32) else 1) else (if b = a then (1 : Int32) else 2))), .val (.int (-1 : Int32))] []))
              refine Gd.go (fun _ w_k => XS.iload X9.here hx rfl (hb hby at_218) rfl w_k) ?_
              show Gd _ _ _ _ (T9.setTop (mkF m 220 #[.val (.int r1), .val (.int r2), .val (.int r3), .val (.int r4), .val (.int md), .val (.int qy), .val (.int z), .val (.int a), .val (.int b), .val (.int c), .val (.int adds), .val (.int q), .val (.ref b2), .val (.int (if b = a then (0 : Int32) else 1)), .val (.int (if b = a then (1 : Int32) else 2)), .val (.int (if c = a then (0 : Int32) else if c = b then (if b = a then (0 : Int32) else 1) else (if b = a then (1 : Int32) else 2))), .val (.int (-1 : Int32))] [(.int (if b = a then (0 : Int32) else 1))]))
              refine Gd.go (fun _ w_k => XS.istore X9.here hx rfl (hb hby at_220) rfl (l' := #[.val (.int r1), .val (.int r2), .val (.int r3), .val (.int r4), .val (.int md), .val (.int qy), .val (.int z), .val (.int a), .val (.int b), .val (.int c), .val (.int adds), .val (.int q), .val (.ref b2), .val (.int (if b = a then (0 : Int32) else 1)), .val (.int (if b = a then (1 : Int32) else 2)), .val (.int (if c = a then (0 : Int32) else if c = b then (if b = a then (0 : Int32) else 1) else (if b = a then (1 : Int32) else 2))), .val (.int (if b = a then (0 : Int32) else 1))]) rfl w_k) ?_
              show Gd _ _ _ _ (T9.setTop (mkF m 222 #[.val (.int r1), .val (.int r2), .val (.int r3), .val (.int r4), .val (.int md), .val (.int qy), .val (.int z), .val (.int a), .val (.int b), .val (.int c), .val (.int adds), .val (.int q), .val (.ref b2), .val (.int (if b = a then (0 : Int32) else 1)), .val (.int (if b = a then (1 : Int32) else 2)), .val (.int (if c = a then (0 : Int32) else if c = b then (if b = a then (0 : Int32) else 1) else (if b = a then (1 : Int32) else 2))), .val (.int (if b = a then (0 : Int32) else 1))] []))
              refine Gd.go (fun _ w_k => XS.goto X9.here hx rfl (pc0 := 222) (pc' := 242) rfl (hb hby at_222) (by decide) (by decide) w_k) ?_
              show Gd _ _ _ _ (T9.setTop (mkF m 242 #[.val (.int r1), .val (.int r2), .val (.int r3), .val (.int r4), .val (.int md), .val (.int qy), .val (.int z), .val (.int a), .val (.int b), .val (.int c), .val (.int adds), .val (.int q), .val (.ref b2), .val (.int (if b = a then (0 : Int32) else 1)), .val (.int (if b = a then (1 : Int32) else 2)), .val (.int (if c = a then (0 : Int32) else if c = b then (if b = a then (0 : Int32) else 1) else (if b = a then (1 : Int32) else 2))), .val (.int (if b = a then (0 : Int32) else 1))] []))
              have q44 : (if q < 0 then (-1 : Int32) else if q < z then own_spec adds a b c q else -1) = (if b = a then (0 : Int32) else 1) := by simp only [own_spec, eq_false hc33, eq_true hc35, eq_true hc36, eq_false hc37, eq_true hc43, not_true_eq_false, not_false_eq_true, true_and, and_true, and_false, false_and, if_true, if_false]
              rw [q44] at J32
              exact J32
            · refine Gd.go (fun _ w_k => XS.icmpYes X9.here hx rfl (pc0 := 215) (pc' := 225) rfl (hb hby at_215) rfl (feq hc43).2 (by decide) (by decide) w_k) ?_
              show Gd _ _ _ _ (T9.setTop (mkF m 225 #[.val (.int r1), .val (.int r2), .val (.int r3), .val (.int r4), .val (.int md), .val (.int qy), .val (.int z), .val (.int a), .val (.int b), .val (.int c), .val (.int adds), .val (.int q), .val (.ref b2), .val (.int (if b = a then (0 : Int32) else 1)), .val (.int (if b = a then (1 : Int32) else 2)), .val (.int (if c = a then (0 : Int32) else if c = b then (if b = a then (0 : Int32) else 1) else (if b = a then (1 : Int32) else 2))), .val (.int (-1 : Int32))] []))
              refine Gd.go (fun _ w_k => XS.iload X9.here hx rfl (hb hby at_225) rfl w_k) ?_
              show Gd _ _ _ _ (T9.setTop (mkF m 227 #[.val (.int r1), .val (.int r2), .val (.int r3), .val (.int r4), .val (.int md), .val (.int qy), .val (.int z), .val (.int a), .val (.int b), .val (.int c), .val (.int adds), .val (.int q), .val (.ref b2), .val (.int (if b = a then (0 : Int32) else 1)), .val (.int (if b = a then (1 : Int32) else 2)), .val (.int (if c = a then (0 : Int32) else if c = b then (if b = a then (0 : Int32) else 1) else (if b = a then (1 : Int32) else 2))), .val (.int (-1 : Int32))] [(.int adds)]))
              refine Gd.go (fun _ w_k => XS.iconst X9.here hx rfl (hb hby at_227) w_k) ?_
              show Gd _ _ _ _ (T9.setTop (mkF m 228 #[.val (.int r1), .val (.int r2), .val (.int r3), .val (.int r4), .val (.int md), .val (.int qy), .val (.int z), .val (.int a), .val (.int b), .val (.int c), .val (.int adds), .val (.int q), .val (.ref b2), .val (.int (if b = a then (0 : Int32) else 1)), .val (.int (if b = a then (1 : Int32) else 2)), .val (.int (if c = a then (0 : Int32) else if c = b then (if b = a then (0 : Int32) else 1) else (if b = a then (1 : Int32) else 2))), .val (.int (-1 : Int32))] [(.int (3 : Int32)), (.int adds)]))
              by_cases hc45 : adds < (3 : Int32)
              · refine Gd.go (fun _ w_k => XS.icmpYes X9.here hx rfl (pc0 := 228) (pc' := 242) rfl (hb hby at_228) rfl (tlt hc45).1 (by decide) (by decide) w_k) ?_
                show Gd _ _ _ _ (T9.setTop (mkF m 242 #[.val (.int r1), .val (.int r2), .val (.int r3), .val (.int r4), .val (.int md), .val (.int qy), .val (.int z), .val (.int a), .val (.int b), .val (.int c), .val (.int adds), .val (.int q), .val (.ref b2), .val (.int (if b = a then (0 : Int32) else 1)), .val (.int (if b = a then (1 : Int32) else 2)), .val (.int (if c = a then (0 : Int32) else if c = b then (if b = a then (0 : Int32) else 1) else (if b = a then (1 : Int32) else 2))), .val (.int (-1 : Int32))] []))
                have q46 : (if q < 0 then (-1 : Int32) else if q < z then own_spec adds a b c q else -1) = (-1 : Int32) := by simp only [own_spec, eq_false hc33, eq_true hc35, eq_true hc36, eq_false hc37, eq_false hc43, eq_true hc45, not_true_eq_false, not_false_eq_true, true_and, and_true, and_false, false_and, if_true, if_false]
                rw [q46] at J32
                exact J32
              · refine Gd.go (fun _ w_k => XS.icmpNo X9.here hx rfl (hb hby at_228) rfl (flt hc45).1 w_k) ?_
                show Gd _ _ _ _ (T9.setTop (mkF m 231 #[.val (.int r1), .val (.int r2), .val (.int r3), .val (.int r4), .val (.int md), .val (.int qy), .val (.int z), .val (.int a), .val (.int b), .val (.int c), .val (.int adds), .val (.int q), .val (.ref b2), .val (.int (if b = a then (0 : Int32) else 1)), .val (.int (if b = a then (1 : Int32) else 2)), .val (.int (if c = a then (0 : Int32) else if c = b then (if b = a then (0 : Int32) else 1) else (if b = a then (1 : Int32) else 2))), .val (.int (-1 : Int32))] []))
                refine Gd.go (fun _ w_k => XS.iload X9.here hx rfl (hb hby at_231) rfl w_k) ?_
                show Gd _ _ _ _ (T9.setTop (mkF m 233 #[.val (.int r1), .val (.int r2), .val (.int r3), .val (.int r4), .val (.int md), .val (.int qy), .val (.int z), .val (.int a), .val (.int b), .val (.int c), .val (.int adds), .val (.int q), .val (.ref b2), .val (.int (if b = a then (0 : Int32) else 1)), .val (.int (if b = a then (1 : Int32) else 2)), .val (.int (if c = a then (0 : Int32) else if c = b then (if b = a then (0 : Int32) else 1) else (if b = a then (1 : Int32) else 2))), .val (.int (-1 : Int32))] [(.int q)]))
                refine Gd.go (fun _ w_k => XS.iload X9.here hx rfl (hb hby at_233) rfl w_k) ?_
                show Gd _ _ _ _ (T9.setTop (mkF m 235 #[.val (.int r1), .val (.int r2), .val (.int r3), .val (.int r4), .val (.int md), .val (.int qy), .val (.int z), .val (.int a), .val (.int b), .val (.int c), .val (.int adds), .val (.int q), .val (.ref b2), .val (.int (if b = a then (0 : Int32) else 1)), .val (.int (if b = a then (1 : Int32) else 2)), .val (.int (if c = a then (0 : Int32) else if c = b then (if b = a then (0 : Int32) else 1) else (if b = a then (1 : Int32) else 2))), .val (.int (-1 : Int32))] [(.int c), (.int q)]))
                by_cases hc47 : q = c
                · refine Gd.go (fun _ w_k => XS.icmpNo X9.here hx rfl (hb hby at_235) rfl (teq hc47).2 w_k) ?_
                  show Gd _ _ _ _ (T9.setTop (mkF m 238 #[.val (.int r1), .val (.int r2), .val (.int r3), .val (.int r4), .val (.int md), .val (.int qy), .val (.int z), .val (.int a), .val (.int b), .val (.int c), .val (.int adds), .val (.int q), .val (.ref b2), .val (.int (if b = a then (0 : Int32) else 1)), .val (.int (if b = a then (1 : Int32) else 2)), .val (.int (if c = a then (0 : Int32) else if c = b then (if b = a then (0 : Int32) else 1) else (if b = a then (1 : Int32) else 2))), .val (.int (-1 : Int32))] []))
                  refine Gd.go (fun _ w_k => XS.iload X9.here hx rfl (hb hby at_238) rfl w_k) ?_
                  show Gd _ _ _ _ (T9.setTop (mkF m 240 #[.val (.int r1), .val (.int r2), .val (.int r3), .val (.int r4), .val (.int md), .val (.int qy), .val (.int z), .val (.int a), .val (.int b), .val (.int c), .val (.int adds), .val (.int q), .val (.ref b2), .val (.int (if b = a then (0 : Int32) else 1)), .val (.int (if b = a then (1 : Int32) else 2)), .val (.int (if c = a then (0 : Int32) else if c = b then (if b = a then (0 : Int32) else 1) else (if b = a then (1 : Int32) else 2))), .val (.int (-1 : Int32))] [(.int (if c = a then (0 : Int32) else if c = b then (if b = a then (0 : Int32) else 1) else (if b = a then (1 : Int32) else 2)))]))
                  refine Gd.go (fun _ w_k => XS.istore X9.here hx rfl (hb hby at_240) rfl (l' := #[.val (.int r1), .val (.int r2), .val (.int r3), .val (.int r4), .val (.int md), .val (.int qy), .val (.int z), .val (.int a), .val (.int b), .val (.int c), .val (.int adds), .val (.int q), .val (.ref b2), .val (.int (if b = a then (0 : Int32) else 1)), .val (.int (if b = a then (1 : Int32) else 2)), .val (.int (if c = a then (0 : Int32) else if c = b then (if b = a then (0 : Int32) else 1) else (if b = a then (1 : Int32) else 2))), .val (.int (if c = a then (0 : Int32) else if c = b then (if b = a then (0 : Int32) else 1) else (if b = a then (1 : Int32) else 2)))]) rfl w_k) ?_
                  show Gd _ _ _ _ (T9.setTop (mkF m 242 #[.val (.int r1), .val (.int r2), .val (.int r3), .val (.int r4), .val (.int md), .val (.int qy), .val (.int z), .val (.int a), .val (.int b), .val (.int c), .val (.int adds), .val (.int q), .val (.ref b2), .val (.int (if b = a then (0 : Int32) else 1)), .val (.int (if b = a then (1 : Int32) else 2)), .val (.int (if c = a then (0 : Int32) else if c = b then (if b = a then (0 : Int32) else 1) else (if b = a then (1 : Int32) else 2))), .val (.int (if c = a then (0 : Int32) else if c = b then (if b = a then (0 : Int32) else 1) else (if b = a then (1 : Int32) else 2)))] []))
                  have q48 : (if q < 0 then (-1 : Int32) else if q < z then own_spec adds a b c q else -1) = (if c = a then (0 : Int32) else if c = b then (if b = a then (0 : Int32) else 1) else (if b = a then (1 : Int32) else 2)) := by simp only [own_spec, eq_false hc33, eq_true hc35, eq_true hc36, eq_false hc37, eq_false hc43, eq_false hc45, eq_true hc47, not_true_eq_false, not_false_eq_true, true_and, and_true, and_false, false_and, if_true, if_false]
                  rw [q48] at J32
                  exact J32
                · refine Gd.go (fun _ w_k => XS.icmpYes X9.here hx rfl (pc0 := 235) (pc' := 242) rfl (hb hby at_235) rfl (feq hc47).2 (by decide) (by decide) w_k) ?_
                  show Gd _ _ _ _ (T9.setTop (mkF m 242 #[.val (.int r1), .val (.int r2), .val (.int r3), .val (.int r4), .val (.int md), .val (.int qy), .val (.int z), .val (.int a), .val (.int b), .val (.int c), .val (.int adds), .val (.int q), .val (.ref b2), .val (.int (if b = a then (0 : Int32) else 1)), .val (.int (if b = a then (1 : Int32) else 2)), .val (.int (if c = a then (0 : Int32) else if c = b then (if b = a then (0 : Int32) else 1) else (if b = a then (1 : Int32) else 2))), .val (.int (-1 : Int32))] []))
                  have q49 : (if q < 0 then (-1 : Int32) else if q < z then own_spec adds a b c q else -1) = (-1 : Int32) := by simp only [own_spec, eq_false hc33, eq_true hc35, eq_true hc36, eq_false hc37, eq_false hc43, eq_false hc45, eq_false hc47, not_true_eq_false, not_false_eq_true, true_and, and_true, and_false, false_and, if_true, if_false]
                  rw [q49] at J32
                  exact J32
        · refine Gd.go (fun _ w_k => XS.icmpNo X9.here hx rfl (hb hby at_189) rfl (flt hc36).1 w_k) ?_
          show Gd _ _ _ _ (T9.setTop (mkF m 192 #[.val (.int r1), .val (.int r2), .val (.int r3), .val (.int r4), .val (.int md), .val (.int qy), .val (.int z), .val (.int a), .val (.int b), .val (.int c), .val (.int adds), .val (.int q), .val (.ref b2), .val (.int (if b = a then (0 : Int32) else 1)), .val (.int (if b = a then (1 : Int32) else 2)), .val (.int (if c = a then (0 : Int32) else if c = b then (if b = a then (0 : Int32) else 1) else (if b = a then (1 : Int32) else 2))), .val (.int (-1 : Int32))] []))
          refine Gd.go (fun _ w_k => XS.iload X9.here hx rfl (hb hby at_192) rfl w_k) ?_
          show Gd _ _ _ _ (T9.setTop (mkF m 194 #[.val (.int r1), .val (.int r2), .val (.int r3), .val (.int r4), .val (.int md), .val (.int qy), .val (.int z), .val (.int a), .val (.int b), .val (.int c), .val (.int adds), .val (.int q), .val (.ref b2), .val (.int (if b = a then (0 : Int32) else 1)), .val (.int (if b = a then (1 : Int32) else 2)), .val (.int (if c = a then (0 : Int32) else if c = b then (if b = a then (0 : Int32) else 1) else (if b = a then (1 : Int32) else 2))), .val (.int (-1 : Int32))] [(.int q)]))
          refine Gd.go (fun _ w_k => XS.iload X9.here hx rfl (hb hby at_194) rfl w_k) ?_
          show Gd _ _ _ _ (T9.setTop (mkF m 196 #[.val (.int r1), .val (.int r2), .val (.int r3), .val (.int r4), .val (.int md), .val (.int qy), .val (.int z), .val (.int a), .val (.int b), .val (.int c), .val (.int adds), .val (.int q), .val (.ref b2), .val (.int (if b = a then (0 : Int32) else 1)), .val (.int (if b = a then (1 : Int32) else 2)), .val (.int (if c = a then (0 : Int32) else if c = b then (if b = a then (0 : Int32) else 1) else (if b = a then (1 : Int32) else 2))), .val (.int (-1 : Int32))] [(.int a), (.int q)]))
          by_cases hc50 : q = a
          · refine Gd.go (fun _ w_k => XS.icmpNo X9.here hx rfl (hb hby at_196) rfl (teq hc50).2 w_k) ?_
            show Gd _ _ _ _ (T9.setTop (mkF m 199 #[.val (.int r1), .val (.int r2), .val (.int r3), .val (.int r4), .val (.int md), .val (.int qy), .val (.int z), .val (.int a), .val (.int b), .val (.int c), .val (.int adds), .val (.int q), .val (.ref b2), .val (.int (if b = a then (0 : Int32) else 1)), .val (.int (if b = a then (1 : Int32) else 2)), .val (.int (if c = a then (0 : Int32) else if c = b then (if b = a then (0 : Int32) else 1) else (if b = a then (1 : Int32) else 2))), .val (.int (-1 : Int32))] []))
            refine Gd.go (fun _ w_k => XS.iconst X9.here hx rfl (hb hby at_199) w_k) ?_
            show Gd _ _ _ _ (T9.setTop (mkF m 200 #[.val (.int r1), .val (.int r2), .val (.int r3), .val (.int r4), .val (.int md), .val (.int qy), .val (.int z), .val (.int a), .val (.int b), .val (.int c), .val (.int adds), .val (.int q), .val (.ref b2), .val (.int (if b = a then (0 : Int32) else 1)), .val (.int (if b = a then (1 : Int32) else 2)), .val (.int (if c = a then (0 : Int32) else if c = b then (if b = a then (0 : Int32) else 1) else (if b = a then (1 : Int32) else 2))), .val (.int (-1 : Int32))] [(.int (0 : Int32))]))
            refine Gd.go (fun _ w_k => XS.istore X9.here hx rfl (hb hby at_200) rfl (l' := #[.val (.int r1), .val (.int r2), .val (.int r3), .val (.int r4), .val (.int md), .val (.int qy), .val (.int z), .val (.int a), .val (.int b), .val (.int c), .val (.int adds), .val (.int q), .val (.ref b2), .val (.int (if b = a then (0 : Int32) else 1)), .val (.int (if b = a then (1 : Int32) else 2)), .val (.int (if c = a then (0 : Int32) else if c = b then (if b = a then (0 : Int32) else 1) else (if b = a then (1 : Int32) else 2))), .val (.int (0 : Int32))]) rfl w_k) ?_
            show Gd _ _ _ _ (T9.setTop (mkF m 202 #[.val (.int r1), .val (.int r2), .val (.int r3), .val (.int r4), .val (.int md), .val (.int qy), .val (.int z), .val (.int a), .val (.int b), .val (.int c), .val (.int adds), .val (.int q), .val (.ref b2), .val (.int (if b = a then (0 : Int32) else 1)), .val (.int (if b = a then (1 : Int32) else 2)), .val (.int (if c = a then (0 : Int32) else if c = b then (if b = a then (0 : Int32) else 1) else (if b = a then (1 : Int32) else 2))), .val (.int (0 : Int32))] []))
            refine Gd.go (fun _ w_k => XS.goto X9.here hx rfl (pc0 := 202) (pc' := 242) rfl (hb hby at_202) (by decide) (by decide) w_k) ?_
            show Gd _ _ _ _ (T9.setTop (mkF m 242 #[.val (.int r1), .val (.int r2), .val (.int r3), .val (.int r4), .val (.int md), .val (.int qy), .val (.int z), .val (.int a), .val (.int b), .val (.int c), .val (.int adds), .val (.int q), .val (.ref b2), .val (.int (if b = a then (0 : Int32) else 1)), .val (.int (if b = a then (1 : Int32) else 2)), .val (.int (if c = a then (0 : Int32) else if c = b then (if b = a then (0 : Int32) else 1) else (if b = a then (1 : Int32) else 2))), .val (.int (0 : Int32))] []))
            have q51 : (if q < 0 then (-1 : Int32) else if q < z then own_spec adds a b c q else -1) = (0 : Int32) := by simp only [own_spec, eq_false hc33, eq_true hc35, eq_false hc36, eq_true hc50, not_true_eq_false, not_false_eq_true, true_and, and_true, and_false, false_and, if_true, if_false]
            rw [q51] at J32
            exact J32
          · refine Gd.go (fun _ w_k => XS.icmpYes X9.here hx rfl (pc0 := 196) (pc' := 205) rfl (hb hby at_196) rfl (feq hc50).2 (by decide) (by decide) w_k) ?_
            show Gd _ _ _ _ (T9.setTop (mkF m 205 #[.val (.int r1), .val (.int r2), .val (.int r3), .val (.int r4), .val (.int md), .val (.int qy), .val (.int z), .val (.int a), .val (.int b), .val (.int c), .val (.int adds), .val (.int q), .val (.ref b2), .val (.int (if b = a then (0 : Int32) else 1)), .val (.int (if b = a then (1 : Int32) else 2)), .val (.int (if c = a then (0 : Int32) else if c = b then (if b = a then (0 : Int32) else 1) else (if b = a then (1 : Int32) else 2))), .val (.int (-1 : Int32))] []))
            refine Gd.go (fun _ w_k => XS.iload X9.here hx rfl (hb hby at_205) rfl w_k) ?_
            show Gd _ _ _ _ (T9.setTop (mkF m 207 #[.val (.int r1), .val (.int r2), .val (.int r3), .val (.int r4), .val (.int md), .val (.int qy), .val (.int z), .val (.int a), .val (.int b), .val (.int c), .val (.int adds), .val (.int q), .val (.ref b2), .val (.int (if b = a then (0 : Int32) else 1)), .val (.int (if b = a then (1 : Int32) else 2)), .val (.int (if c = a then (0 : Int32) else if c = b then (if b = a then (0 : Int32) else 1) else (if b = a then (1 : Int32) else 2))), .val (.int (-1 : Int32))] [(.int adds)]))
            refine Gd.go (fun _ w_k => XS.iconst X9.here hx rfl (hb hby at_207) w_k) ?_
            show Gd _ _ _ _ (T9.setTop (mkF m 208 #[.val (.int r1), .val (.int r2), .val (.int r3), .val (.int r4), .val (.int md), .val (.int qy), .val (.int z), .val (.int a), .val (.int b), .val (.int c), .val (.int adds), .val (.int q), .val (.ref b2), .val (.int (if b = a then (0 : Int32) else 1)), .val (.int (if b = a then (1 : Int32) else 2)), .val (.int (if c = a then (0 : Int32) else if c = b then (if b = a then (0 : Int32) else 1) else (if b = a then (1 : Int32) else 2))), .val (.int (-1 : Int32))] [(.int (2 : Int32)), (.int adds)]))
            by_cases hc52 : adds < (2 : Int32)
            · refine Gd.go (fun _ w_k => XS.icmpYes X9.here hx rfl (pc0 := 208) (pc' := 225) rfl (hb hby at_208) rfl (tlt hc52).1 (by decide) (by decide) w_k) ?_
              show Gd _ _ _ _ (T9.setTop (mkF m 225 #[.val (.int r1), .val (.int r2), .val (.int r3), .val (.int r4), .val (.int md), .val (.int qy), .val (.int z), .val (.int a), .val (.int b), .val (.int c), .val (.int adds), .val (.int q), .val (.ref b2), .val (.int (if b = a then (0 : Int32) else 1)), .val (.int (if b = a then (1 : Int32) else 2)), .val (.int (if c = a then (0 : Int32) else if c = b then (if b = a then (0 : Int32) else 1) else (if b = a then (1 : Int32) else 2))), .val (.int (-1 : Int32))] []))
              refine Gd.go (fun _ w_k => XS.iload X9.here hx rfl (hb hby at_225) rfl w_k) ?_
              show Gd _ _ _ _ (T9.setTop (mkF m 227 #[.val (.int r1), .val (.int r2), .val (.int r3), .val (.int r4), .val (.int md), .val (.int qy), .val (.int z), .val (.int a), .val (.int b), .val (.int c), .val (.int adds), .val (.int q), .val (.ref b2), .val (.int (if b = a then (0 : Int32) else 1)), .val (.int (if b = a then (1 : Int32) else 2)), .val (.int (if c = a then (0 : Int32) else if c = b then (if b = a then (0 : Int32) else 1) else (if b = a then (1 : Int32) else 2))), .val (.int (-1 : Int32))] [(.int adds)]))
              refine Gd.go (fun _ w_k => XS.iconst X9.here hx rfl (hb hby at_227) w_k) ?_
              show Gd _ _ _ _ (T9.setTop (mkF m 228 #[.val (.int r1), .val (.int r2), .val (.int r3), .val (.int r4), .val (.int md), .val (.int qy), .val (.int z), .val (.int a), .val (.int b), .val (.int c), .val (.int adds), .val (.int q), .val (.ref b2), .val (.int (if b = a then (0 : Int32) else 1)), .val (.int (if b = a then (1 : Int32) else 2)), .val (.int (if c = a then (0 : Int32) else if c = b then (if b = a then (0 : Int32) else 1) else (if b = a then (1 : Int32) else 2))), .val (.int (-1 : Int32))] [(.int (3 : Int32)), (.int adds)]))
              by_cases hc53 : adds < (3 : Int32)
              · refine Gd.go (fun _ w_k => XS.icmpYes X9.here hx rfl (pc0 := 228) (pc' := 242) rfl (hb hby at_228) rfl (tlt hc53).1 (by decide) (by decide) w_k) ?_
                show Gd _ _ _ _ (T9.setTop (mkF m 242 #[.val (.int r1), .val (.int r2), .val (.int r3), .val (.int r4), .val (.int md), .val (.int qy), .val (.int z), .val (.int a), .val (.int b), .val (.int c), .val (.int adds), .val (.int q), .val (.ref b2), .val (.int (if b = a then (0 : Int32) else 1)), .val (.int (if b = a then (1 : Int32) else 2)), .val (.int (if c = a then (0 : Int32) else if c = b then (if b = a then (0 : Int32) else 1) else (if b = a then (1 : Int32) else 2))), .val (.int (-1 : Int32))] []))
                have q54 : (if q < 0 then (-1 : Int32) else if q < z then own_spec adds a b c q else -1) = (-1 : Int32) := by simp only [own_spec, eq_false hc33, eq_true hc35, eq_false hc36, eq_false hc50, eq_true hc52, eq_true hc53, not_true_eq_false, not_false_eq_true, true_and, and_true, and_false, false_and, if_true, if_false]
                rw [q54] at J32
                exact J32
              · refine Gd.go (fun _ w_k => XS.icmpNo X9.here hx rfl (hb hby at_228) rfl (flt hc53).1 w_k) ?_
                show Gd _ _ _ _ (T9.setTop (mkF m 231 #[.val (.int r1), .val (.int r2), .val (.int r3), .val (.int r4), .val (.int md), .val (.int qy), .val (.int z), .val (.int a), .val (.int b), .val (.int c), .val (.int adds), .val (.int q), .val (.ref b2), .val (.int (if b = a then (0 : Int32) else 1)), .val (.int (if b = a then (1 : Int32) else 2)), .val (.int (if c = a then (0 : Int32) else if c = b then (if b = a then (0 : Int32) else 1) else (if b = a then (1 : Int32) else 2))), .val (.int (-1 : Int32))] []))
                refine Gd.go (fun _ w_k => XS.iload X9.here hx rfl (hb hby at_231) rfl w_k) ?_
                show Gd _ _ _ _ (T9.setTop (mkF m 233 #[.val (.int r1), .val (.int r2), .val (.int r3), .val (.int r4), .val (.int md), .val (.int qy), .val (.int z), .val (.int a), .val (.int b), .val (.int c), .val (.int adds), .val (.int q), .val (.ref b2), .val (.int (if b = a then (0 : Int32) else 1)), .val (.int (if b = a then (1 : Int32) else 2)), .val (.int (if c = a then (0 : Int32) else if c = b then (if b = a then (0 : Int32) else 1) else (if b = a then (1 : Int32) else 2))), .val (.int (-1 : Int32))] [(.int q)]))
                refine Gd.go (fun _ w_k => XS.iload X9.here hx rfl (hb hby at_233) rfl w_k) ?_
                show Gd _ _ _ _ (T9.setTop (mkF m 235 #[.val (.int r1), .val (.int r2), .val (.int r3), .val (.int r4), .val (.int md), .val (.int qy), .val (.int z), .val (.int a), .val (.int b), .val (.int c), .val (.int adds), .val (.int q), .val (.ref b2), .val (.int (if b = a then (0 : Int32) else 1)), .val (.int (if b = a then (1 : Int32) else 2)), .val (.int (if c = a then (0 : Int32) else if c = b then (if b = a then (0 : Int32) else 1) else (if b = a then (1 : Int32) else 2))), .val (.int (-1 : Int32))] [(.int c), (.int q)]))
                by_cases hc55 : q = c
                · refine Gd.go (fun _ w_k => XS.icmpNo X9.here hx rfl (hb hby at_235) rfl (teq hc55).2 w_k) ?_
                  show Gd _ _ _ _ (T9.setTop (mkF m 238 #[.val (.int r1), .val (.int r2), .val (.int r3), .val (.int r4), .val (.int md), .val (.int qy), .val (.int z), .val (.int a), .val (.int b), .val (.int c), .val (.int adds), .val (.int q), .val (.ref b2), .val (.int (if b = a then (0 : Int32) else 1)), .val (.int (if b = a then (1 : Int32) else 2)), .val (.int (if c = a then (0 : Int32) else if c = b then (if b = a then (0 : Int32) else 1) else (if b = a then (1 : Int32) else 2))), .val (.int (-1 : Int32))] []))
                  refine Gd.go (fun _ w_k => XS.iload X9.here hx rfl (hb hby at_238) rfl w_k) ?_
                  show Gd _ _ _ _ (T9.setTop (mkF m 240 #[.val (.int r1), .val (.int r2), .val (.int r3), .val (.int r4), .val (.int md), .val (.int qy), .val (.int z), .val (.int a), .val (.int b), .val (.int c), .val (.int adds), .val (.int q), .val (.ref b2), .val (.int (if b = a then (0 : Int32) else 1)), .val (.int (if b = a then (1 : Int32) else 2)), .val (.int (if c = a then (0 : Int32) else if c = b then (if b = a then (0 : Int32) else 1) else (if b = a then (1 : Int32) else 2))), .val (.int (-1 : Int32))] [(.int (if c = a then (0 : Int32) else if c = b then (if b = a then (0 : Int32) else 1) else (if b = a then (1 : Int32) else 2)))]))
                  refine Gd.go (fun _ w_k => XS.istore X9.here hx rfl (hb hby at_240) rfl (l' := #[.val (.int r1), .val (.int r2), .val (.int r3), .val (.int r4), .val (.int md), .val (.int qy), .val (.int z), .val (.int a), .val (.int b), .val (.int c), .val (.int adds), .val (.int q), .val (.ref b2), .val (.int (if b = a then (0 : Int32) else 1)), .val (.int (if b = a then (1 : Int32) else 2)), .val (.int (if c = a then (0 : Int32) else if c = b then (if b = a then (0 : Int32) else 1) else (if b = a then (1 : Int32) else 2))), .val (.int (if c = a then (0 : Int32) else if c = b then (if b = a then (0 : Int32) else 1) else (if b = a then (1 : Int32) else 2)))]) rfl w_k) ?_
                  show Gd _ _ _ _ (T9.setTop (mkF m 242 #[.val (.int r1), .val (.int r2), .val (.int r3), .val (.int r4), .val (.int md), .val (.int qy), .val (.int z), .val (.int a), .val (.int b), .val (.int c), .val (.int adds), .val (.int q), .val (.ref b2), .val (.int (if b = a then (0 : Int32) else 1)), .val (.int (if b = a then (1 : Int32) else 2)), .val (.int (if c = a then (0 : Int32) else if c = b then (if b = a then (0 : Int32) else 1) else (if b = a then (1 : Int32) else 2))), .val (.int (if c = a then (0 : Int32) else if c = b then (if b = a then (0 : Int32) else 1) else (if b = a then (1 : Int32) else 2)))] []))
                  have q56 : (if q < 0 then (-1 : Int32) else if q < z then own_spec adds a b c q else -1) = (if c = a then (0 : Int32) else if c = b then (if b = a then (0 : Int32) else 1) else (if b = a then (1 : Int32) else 2)) := by simp only [own_spec, eq_false hc33, eq_true hc35, eq_false hc36, eq_false hc50, eq_true hc52, eq_false hc53, eq_true hc55, not_true_eq_false, not_false_eq_true, true_and, and_true, and_false, false_and, if_true, if_false]
                  rw [q56] at J32
                  exact J32
                · refine Gd.go (fun _ w_k => XS.icmpYes X9.here hx rfl (pc0 := 235) (pc' := 242) rfl (hb hby at_235) rfl (feq hc55).2 (by decide) (by decide) w_k) ?_
                  show Gd _ _ _ _ (T9.setTop (mkF m 242 #[.val (.int r1), .val (.int r2), .val (.int r3), .val (.int r4), .val (.int md), .val (.int qy), .val (.int z), .val (.int a), .val (.int b), .val (.int c), .val (.int adds), .val (.int q), .val (.ref b2), .val (.int (if b = a then (0 : Int32) else 1)), .val (.int (if b = a then (1 : Int32) else 2)), .val (.int (if c = a then (0 : Int32) else if c = b then (if b = a then (0 : Int32) else 1) else (if b = a then (1 : Int32) else 2))), .val (.int (-1 : Int32))] []))
                  have q57 : (if q < 0 then (-1 : Int32) else if q < z then own_spec adds a b c q else -1) = (-1 : Int32) := by simp only [own_spec, eq_false hc33, eq_true hc35, eq_false hc36, eq_false hc50, eq_true hc52, eq_false hc53, eq_false hc55, not_true_eq_false, not_false_eq_true, true_and, and_true, and_false, false_and, if_true, if_false]
                  rw [q57] at J32
                  exact J32
            · refine Gd.go (fun _ w_k => XS.icmpNo X9.here hx rfl (hb hby at_208) rfl (flt hc52).1 w_k) ?_
              show Gd _ _ _ _ (T9.setTop (mkF m 211 #[.val (.int r1), .val (.int r2), .val (.int r3), .val (.int r4), .val (.int md), .val (.int qy), .val (.int z), .val (.int a), .val (.int b), .val (.int c), .val (.int adds), .val (.int q), .val (.ref b2), .val (.int (if b = a then (0 : Int32) else 1)), .val (.int (if b = a then (1 : Int32) else 2)), .val (.int (if c = a then (0 : Int32) else if c = b then (if b = a then (0 : Int32) else 1) else (if b = a then (1 : Int32) else 2))), .val (.int (-1 : Int32))] []))
              refine Gd.go (fun _ w_k => XS.iload X9.here hx rfl (hb hby at_211) rfl w_k) ?_
              show Gd _ _ _ _ (T9.setTop (mkF m 213 #[.val (.int r1), .val (.int r2), .val (.int r3), .val (.int r4), .val (.int md), .val (.int qy), .val (.int z), .val (.int a), .val (.int b), .val (.int c), .val (.int adds), .val (.int q), .val (.ref b2), .val (.int (if b = a then (0 : Int32) else 1)), .val (.int (if b = a then (1 : Int32) else 2)), .val (.int (if c = a then (0 : Int32) else if c = b then (if b = a then (0 : Int32) else 1) else (if b = a then (1 : Int32) else 2))), .val (.int (-1 : Int32))] [(.int q)]))
              refine Gd.go (fun _ w_k => XS.iload X9.here hx rfl (hb hby at_213) rfl w_k) ?_
              show Gd _ _ _ _ (T9.setTop (mkF m 215 #[.val (.int r1), .val (.int r2), .val (.int r3), .val (.int r4), .val (.int md), .val (.int qy), .val (.int z), .val (.int a), .val (.int b), .val (.int c), .val (.int adds), .val (.int q), .val (.ref b2), .val (.int (if b = a then (0 : Int32) else 1)), .val (.int (if b = a then (1 : Int32) else 2)), .val (.int (if c = a then (0 : Int32) else if c = b then (if b = a then (0 : Int32) else 1) else (if b = a then (1 : Int32) else 2))), .val (.int (-1 : Int32))] [(.int b), (.int q)]))
              by_cases hc58 : q = b
              · refine Gd.go (fun _ w_k => XS.icmpNo X9.here hx rfl (hb hby at_215) rfl (teq hc58).2 w_k) ?_
                show Gd _ _ _ _ (T9.setTop (mkF m 218 #[.val (.int r1), .val (.int r2), .val (.int r3), .val (.int r4), .val (.int md), .val (.int qy), .val (.int z), .val (.int a), .val (.int b), .val (.int c), .val (.int adds), .val (.int q), .val (.ref b2), .val (.int (if b = a then (0 : Int32) else 1)), .val (.int (if b = a then (1 : Int32) else 2)), .val (.int (if c = a then (0 : Int32) else if c = b then (if b = a then (0 : Int32) else 1) else (if b = a then (1 : Int32) else 2))), .val (.int (-1 : Int32))] []))
                refine Gd.go (fun _ w_k => XS.iload X9.here hx rfl (hb hby at_218) rfl w_k) ?_
                show Gd _ _ _ _ (T9.setTop (mkF m 220 #[.val (.int r1), .val (.int r2), .val (.int r3), .val (.int r4), .val (.int md), .val (.int qy), .val (.int z), .val (.int a), .val (.int b), .val (.int c), .val (.int adds), .val (.int q), .val (.ref b2), .val (.int (if b = a then (0 : Int32) else 1)), .val (.int (if b = a then (1 : Int32) else 2)), .val (.int (if c = a then (0 : Int32) else if c = b then (if b = a then (0 : Int32) else 1) else (if b = a then (1 : Int32) else 2))), .val (.int (-1 : Int32))] [(.int (if b = a then (0 : Int32) else 1))]))
                refine Gd.go (fun _ w_k => XS.istore X9.here hx rfl (hb hby at_220) rfl (l' := #[.val (.int r1), .val (.int r2), .val (.int r3), .val (.int r4), .val (.int md), .val (.int qy), .val (.int z), .val (.int a), .val (.int b), .val (.int c), .val (.int adds), .val (.int q), .val (.ref b2), .val (.int (if b = a then (0 : Int32) else 1)), .val (.int (if b = a then (1 : Int32) else 2)), .val (.int (if c = a then (0 : Int32) else if c = b then (if b = a then (0 : Int32) else 1) else (if b = a then (1 : Int32) else 2))), .val (.int (if b = a then (0 : Int32) else 1))]) rfl w_k) ?_
                show Gd _ _ _ _ (T9.setTop (mkF m 222 #[.val (.int r1), .val (.int r2), .val (.int r3), .val (.int r4), .val (.int md), .val (.int qy), .val (.int z), .val (.int a), .val (.int b), .val (.int c), .val (.int adds), .val (.int q), .val (.ref b2), .val (.int (if b = a then (0 : Int32) else 1)), .val (.int (if b = a then (1 : Int32) else 2)), .val (.int (if c = a then (0 : Int32) else if c = b then (if b = a then (0 : Int32) else 1) else (if b = a then (1 : Int32) else 2))), .val (.int (if b = a then (0 : Int32) else 1))] []))
                refine Gd.go (fun _ w_k => XS.goto X9.here hx rfl (pc0 := 222) (pc' := 242) rfl (hb hby at_222) (by decide) (by decide) w_k) ?_
                show Gd _ _ _ _ (T9.setTop (mkF m 242 #[.val (.int r1), .val (.int r2), .val (.int r3), .val (.int r4), .val (.int md), .val (.int qy), .val (.int z), .val (.int a), .val (.int b), .val (.int c), .val (.int adds), .val (.int q), .val (.ref b2), .val (.int (if b = a then (0 : Int32) else 1)), .val (.int (if b = a then (1 : Int32) else 2)), .val (.int (if c = a then (0 : Int32) else if c = b then (if b = a then (0 : Int32) else 1) else (if b = a then (1 : Int32) else 2))), .val (.int (if b = a then (0 : Int32) else 1))] []))
                have q59 : (if q < 0 then (-1 : Int32) else if q < z then own_spec adds a b c q else -1) = (if b = a then (0 : Int32) else 1) := by simp only [own_spec, eq_false hc33, eq_true hc35, eq_false hc36, eq_false hc50, eq_false hc52, eq_true hc58, not_true_eq_false, not_false_eq_true, true_and, and_true, and_false, false_and, if_true, if_false]
                rw [q59] at J32
                exact J32
              · refine Gd.go (fun _ w_k => XS.icmpYes X9.here hx rfl (pc0 := 215) (pc' := 225) rfl (hb hby at_215) rfl (feq hc58).2 (by decide) (by decide) w_k) ?_
                show Gd _ _ _ _ (T9.setTop (mkF m 225 #[.val (.int r1), .val (.int r2), .val (.int r3), .val (.int r4), .val (.int md), .val (.int qy), .val (.int z), .val (.int a), .val (.int b), .val (.int c), .val (.int adds), .val (.int q), .val (.ref b2), .val (.int (if b = a then (0 : Int32) else 1)), .val (.int (if b = a then (1 : Int32) else 2)), .val (.int (if c = a then (0 : Int32) else if c = b then (if b = a then (0 : Int32) else 1) else (if b = a then (1 : Int32) else 2))), .val (.int (-1 : Int32))] []))
                refine Gd.go (fun _ w_k => XS.iload X9.here hx rfl (hb hby at_225) rfl w_k) ?_
                show Gd _ _ _ _ (T9.setTop (mkF m 227 #[.val (.int r1), .val (.int r2), .val (.int r3), .val (.int r4), .val (.int md), .val (.int qy), .val (.int z), .val (.int a), .val (.int b), .val (.int c), .val (.int adds), .val (.int q), .val (.ref b2), .val (.int (if b = a then (0 : Int32) else 1)), .val (.int (if b = a then (1 : Int32) else 2)), .val (.int (if c = a then (0 : Int32) else if c = b then (if b = a then (0 : Int32) else 1) else (if b = a then (1 : Int32) else 2))), .val (.int (-1 : Int32))] [(.int adds)]))
                refine Gd.go (fun _ w_k => XS.iconst X9.here hx rfl (hb hby at_227) w_k) ?_
                show Gd _ _ _ _ (T9.setTop (mkF m 228 #[.val (.int r1), .val (.int r2), .val (.int r3), .val (.int r4), .val (.int md), .val (.int qy), .val (.int z), .val (.int a), .val (.int b), .val (.int c), .val (.int adds), .val (.int q), .val (.ref b2), .val (.int (if b = a then (0 : Int32) else 1)), .val (.int (if b = a then (1 : Int32) else 2)), .val (.int (if c = a then (0 : Int32) else if c = b then (if b = a then (0 : Int32) else 1) else (if b = a then (1 : Int32) else 2))), .val (.int (-1 : Int32))] [(.int (3 : Int32)), (.int adds)]))
                by_cases hc60 : adds < (3 : Int32)
                · refine Gd.go (fun _ w_k => XS.icmpYes X9.here hx rfl (pc0 := 228) (pc' := 242) rfl (hb hby at_228) rfl (tlt hc60).1 (by decide) (by decide) w_k) ?_
                  show Gd _ _ _ _ (T9.setTop (mkF m 242 #[.val (.int r1), .val (.int r2), .val (.int r3), .val (.int r4), .val (.int md), .val (.int qy), .val (.int z), .val (.int a), .val (.int b), .val (.int c), .val (.int adds), .val (.int q), .val (.ref b2), .val (.int (if b = a then (0 : Int32) else 1)), .val (.int (if b = a then (1 : Int32) else 2)), .val (.int (if c = a then (0 : Int32) else if c = b then (if b = a then (0 : Int32) else 1) else (if b = a then (1 : Int32) else 2))), .val (.int (-1 : Int32))] []))
                  have q61 : (if q < 0 then (-1 : Int32) else if q < z then own_spec adds a b c q else -1) = (-1 : Int32) := by simp only [own_spec, eq_false hc33, eq_true hc35, eq_false hc36, eq_false hc50, eq_false hc52, eq_false hc58, eq_true hc60, not_true_eq_false, not_false_eq_true, true_and, and_true, and_false, false_and, if_true, if_false]
                  rw [q61] at J32
                  exact J32
                · refine Gd.go (fun _ w_k => XS.icmpNo X9.here hx rfl (hb hby at_228) rfl (flt hc60).1 w_k) ?_
                  show Gd _ _ _ _ (T9.setTop (mkF m 231 #[.val (.int r1), .val (.int r2), .val (.int r3), .val (.int r4), .val (.int md), .val (.int qy), .val (.int z), .val (.int a), .val (.int b), .val (.int c), .val (.int adds), .val (.int q), .val (.ref b2), .val (.int (if b = a then (0 : Int32) else 1)), .val (.int (if b = a then (1 : Int32) else 2)), .val (.int (if c = a then (0 : Int32) else if c = b then (if b = a then (0 : Int32) else 1) else (if b = a then (1 : Int32) else 2))), .val (.int (-1 : Int32))] []))
                  refine Gd.go (fun _ w_k => XS.iload X9.here hx rfl (hb hby at_231) rfl w_k) ?_
                  show Gd _ _ _ _ (T9.setTop (mkF m 233 #[.val (.int r1), .val (.int r2), .val (.int r3), .val (.int r4), .val (.int md), .val (.int qy), .val (.int z), .val (.int a), .val (.int b), .val (.int c), .val (.int adds), .val (.int q), .val (.ref b2), .val (.int (if b = a then (0 : Int32) else 1)), .val (.int (if b = a then (1 : Int32) else 2)), .val (.int (if c = a then (0 : Int32) else if c = b then (if b = a then (0 : Int32) else 1) else (if b = a then (1 : Int32) else 2))), .val (.int (-1 : Int32))] [(.int q)]))
                  refine Gd.go (fun _ w_k => XS.iload X9.here hx rfl (hb hby at_233) rfl w_k) ?_
                  show Gd _ _ _ _ (T9.setTop (mkF m 235 #[.val (.int r1), .val (.int r2), .val (.int r3), .val (.int r4), .val (.int md), .val (.int qy), .val (.int z), .val (.int a), .val (.int b), .val (.int c), .val (.int adds), .val (.int q), .val (.ref b2), .val (.int (if b = a then (0 : Int32) else 1)), .val (.int (if b = a then (1 : Int32) else 2)), .val (.int (if c = a then (0 : Int32) else if c = b then (if b = a then (0 : Int32) else 1) else (if b = a then (1 : Int32) else 2))), .val (.int (-1 : Int32))] [(.int c), (.int q)]))
                  by_cases hc62 : q = c
                  · refine Gd.go (fun _ w_k => XS.icmpNo X9.here hx rfl (hb hby at_235) rfl (teq hc62).2 w_k) ?_
                    show Gd _ _ _ _ (T9.setTop (mkF m 238 #[.val (.int r1), .val (.int r2), .val (.int r3), .val (.int r4), .val (.int md), .val (.int qy), .val (.int z), .val (.int a), .val (.int b), .val (.int c), .val (.int adds), .val (.int q), .val (.ref b2), .val (.int (if b = a then (0 : Int32) else 1)), .val (.int (if b = a then (1 : Int32) else 2)), .val (.int (if c = a then (0 : Int32) else if c = b then (if b = a then (0 : Int32) else 1) else (if b = a then (1 : Int32) else 2))), .val (.int (-1 : Int32))] []))
                    refine Gd.go (fun _ w_k => XS.iload X9.here hx rfl (hb hby at_238) rfl w_k) ?_
                    show Gd _ _ _ _ (T9.setTop (mkF m 240 #[.val (.int r1), .val (.int r2), .val (.int r3), .val (.int r4), .val (.int md), .val (.int qy), .val (.int z), .val (.int a), .val (.int b), .val (.int c), .val (.int adds), .val (.int q), .val (.ref b2), .val (.int (if b = a then (0 : Int32) else 1)), .val (.int (if b = a then (1 : Int32) else 2)), .val (.int (if c = a then (0 : Int32) else if c = b then (if b = a then (0 : Int32) else 1) else (if b = a then (1 : Int32) else 2))), .val (.int (-1 : Int32))] [(.int (if c = a then (0 : Int32) else if c = b then (if b = a then (0 : Int32) else 1) else (if b = a then (1 : Int32) else 2)))]))
                    refine Gd.go (fun _ w_k => XS.istore X9.here hx rfl (hb hby at_240) rfl (l' := #[.val (.int r1), .val (.int r2), .val (.int r3), .val (.int r4), .val (.int md), .val (.int qy), .val (.int z), .val (.int a), .val (.int b), .val (.int c), .val (.int adds), .val (.int q), .val (.ref b2), .val (.int (if b = a then (0 : Int32) else 1)), .val (.int (if b = a then (1 : Int32) else 2)), .val (.int (if c = a then (0 : Int32) else if c = b then (if b = a then (0 : Int32) else 1) else (if b = a then (1 : Int32) else 2))), .val (.int (if c = a then (0 : Int32) else if c = b then (if b = a then (0 : Int32) else 1) else (if b = a then (1 : Int32) else 2)))]) rfl w_k) ?_
                    show Gd _ _ _ _ (T9.setTop (mkF m 242 #[.val (.int r1), .val (.int r2), .val (.int r3), .val (.int r4), .val (.int md), .val (.int qy), .val (.int z), .val (.int a), .val (.int b), .val (.int c), .val (.int adds), .val (.int q), .val (.ref b2), .val (.int (if b = a then (0 : Int32) else 1)), .val (.int (if b = a then (1 : Int32) else 2)), .val (.int (if c = a then (0 : Int32) else if c = b then (if b = a then (0 : Int32) else 1) else (if b = a then (1 : Int32) else 2))), .val (.int (if c = a then (0 : Int32) else if c = b then (if b = a then (0 : Int32) else 1) else (if b = a then (1 : Int32) else 2)))] []))
                    have q63 : (if q < 0 then (-1 : Int32) else if q < z then own_spec adds a b c q else -1) = (if c = a then (0 : Int32) else if c = b then (if b = a then (0 : Int32) else 1) else (if b = a then (1 : Int32) else 2)) := by simp only [own_spec, eq_false hc33, eq_true hc35, eq_false hc36, eq_false hc50, eq_false hc52, eq_false hc58, eq_false hc60, eq_true hc62, not_true_eq_false, not_false_eq_true, true_and, and_true, and_false, false_and, if_true, if_false]
                    rw [q63] at J32
                    exact J32
                  · refine Gd.go (fun _ w_k => XS.icmpYes X9.here hx rfl (pc0 := 235) (pc' := 242) rfl (hb hby at_235) rfl (feq hc62).2 (by decide) (by decide) w_k) ?_
                    show Gd _ _ _ _ (T9.setTop (mkF m 242 #[.val (.int r1), .val (.int r2), .val (.int r3), .val (.int r4), .val (.int md), .val (.int qy), .val (.int z), .val (.int a), .val (.int b), .val (.int c), .val (.int adds), .val (.int q), .val (.ref b2), .val (.int (if b = a then (0 : Int32) else 1)), .val (.int (if b = a then (1 : Int32) else 2)), .val (.int (if c = a then (0 : Int32) else if c = b then (if b = a then (0 : Int32) else 1) else (if b = a then (1 : Int32) else 2))), .val (.int (-1 : Int32))] []))
                    have q64 : (if q < 0 then (-1 : Int32) else if q < z then own_spec adds a b c q else -1) = (-1 : Int32) := by simp only [own_spec, eq_false hc33, eq_true hc35, eq_false hc36, eq_false hc50, eq_false hc52, eq_false hc58, eq_false hc60, eq_false hc62, not_true_eq_false, not_false_eq_true, true_and, and_true, and_false, false_and, if_true, if_false]
                    rw [q64] at J32
                    exact J32
      · refine Gd.go (fun _ w_k => XS.icmpYes X9.here hx rfl (pc0 := 183) (pc' := 242) rfl (hb hby at_183) rfl (flt hc35).2.1 (by decide) (by decide) w_k) ?_
        show Gd _ _ _ _ (T9.setTop (mkF m 242 #[.val (.int r1), .val (.int r2), .val (.int r3), .val (.int r4), .val (.int md), .val (.int qy), .val (.int z), .val (.int a), .val (.int b), .val (.int c), .val (.int adds), .val (.int q), .val (.ref b2), .val (.int (if b = a then (0 : Int32) else 1)), .val (.int (if b = a then (1 : Int32) else 2)), .val (.int (if c = a then (0 : Int32) else if c = b then (if b = a then (0 : Int32) else 1) else (if b = a then (1 : Int32) else 2))), .val (.int (-1 : Int32))] []))
        have q65 : (if q < 0 then (-1 : Int32) else if q < z then own_spec adds a b c q else -1) = (-1 : Int32) := by simp only [own_spec, eq_false hc33, eq_false hc35, not_true_eq_false, not_false_eq_true, true_and, and_true, and_false, false_and, if_true, if_false]
        rw [q65] at J32
        exact J32
  show Gd _ _ _ _ (T9.setTop (mkF m 242 #[.val (.int r1), .val (.int r2), .val (.int r3), .val (.int r4), .val (.int md), .val (.int qy), .val (.int z), .val (.int a), .val (.int b), .val (.int c), .val (.int adds), .val (.int q), .val (.ref b2), .val (.int (if b = a then (0 : Int32) else 1)), .val (.int (if b = a then (1 : Int32) else 2)), .val (.int (if c = a then (0 : Int32) else if c = b then (if b = a then (0 : Int32) else 1) else (if b = a then (1 : Int32) else 2))), .val (.int (if q < 0 then (-1 : Int32) else if q < z then own_spec adds a b c q else -1))] []))
  refine Gd.go (fun _ w_k => XS.aload X9.here hx rfl (hb hby at_242) rfl rfl w_k) ?_
  show Gd _ _ _ _ (T9.setTop (mkF m 244 #[.val (.int r1), .val (.int r2), .val (.int r3), .val (.int r4), .val (.int md), .val (.int qy), .val (.int z), .val (.int a), .val (.int b), .val (.int c), .val (.int adds), .val (.int q), .val (.ref b2), .val (.int (if b = a then (0 : Int32) else 1)), .val (.int (if b = a then (1 : Int32) else 2)), .val (.int (if c = a then (0 : Int32) else if c = b then (if b = a then (0 : Int32) else 1) else (if b = a then (1 : Int32) else 2))), .val (.int (if q < 0 then (-1 : Int32) else if q < z then own_spec adds a b c q else -1))] [(.ref b2)]))
  refine Gd.go (fun _ w_k => XS.iload X9.here hx rfl (hb hby at_244) rfl w_k) ?_
  show Gd _ _ _ _ (T9.setTop (mkF m 246 #[.val (.int r1), .val (.int r2), .val (.int r3), .val (.int r4), .val (.int md), .val (.int qy), .val (.int z), .val (.int a), .val (.int b), .val (.int c), .val (.int adds), .val (.int q), .val (.ref b2), .val (.int (if b = a then (0 : Int32) else 1)), .val (.int (if b = a then (1 : Int32) else 2)), .val (.int (if c = a then (0 : Int32) else if c = b then (if b = a then (0 : Int32) else 1) else (if b = a then (1 : Int32) else 2))), .val (.int (if q < 0 then (-1 : Int32) else if q < z then own_spec adds a b c q else -1))] [(.int q), (.ref b2)]))
  obtain ⟨T66, X66, e66, st66⟩ := own_callVP X9 hx hZ (C := "org/eventropy/core/ActivityCounts") (y := (⟨"org/eventropy/core/ActivityCounts", "place", "(I)I"⟩ : MethodName)) hown (hw _ (List.mem_of_getElem? (i := 22) rfl)) (hw _ (List.mem_of_getElem? (i := 23) rfl)) (hw _ (List.mem_of_getElem? (i := 25) rfl)) (hw _ (List.mem_of_getElem? (i := 24) rfl)) (hw _ (List.mem_of_getElem? (i := 3) rfl)) (hw _ (List.mem_of_getElem? (i := 26) rfl)) (by decide) H9.exa (W := 0) (own_c4 l Z a0 hw b2 q z.toNatClampNeg F9 k9 T9.heap n0 H9) rfl rfl rfl (by decide) (by decide) (g := (mkF m 246 #[.val (.int r1), .val (.int r2), .val (.int r3), .val (.int r4), .val (.int md), .val (.int qy), .val (.int z), .val (.int a), .val (.int b), .val (.int c), .val (.int adds), .val (.int q), .val (.ref b2), .val (.int (if b = a then (0 : Int32) else 1)), .val (.int (if b = a then (1 : Int32) else 2)), .val (.int (if c = a then (0 : Int32) else if c = b then (if b = a then (0 : Int32) else 1) else (if b = a then (1 : Int32) else 2))), .val (.int (if q < 0 then (-1 : Int32) else if q < z then own_spec adds a b c q else -1))] [(.int q), (.ref b2)])) rfl (by rw [hml]; rfl) (argsL := [(.int q)]) (rest := []) (lenOf own_pd3 rfl) rfl (Nat.le_of_eq rfl) (hb hby at_246) rfl
  refine Gd.go (fun _ w_k => st66 _ w_k) ?_
  show Gd _ _ _ _ (T66.setTop (mkF m 249 #[.val (.int r1), .val (.int r2), .val (.int r3), .val (.int r4), .val (.int md), .val (.int qy), .val (.int z), .val (.int a), .val (.int b), .val (.int c), .val (.int adds), .val (.int q), .val (.ref b2), .val (.int (if b = a then (0 : Int32) else 1)), .val (.int (if b = a then (1 : Int32) else 2)), .val (.int (if c = a then (0 : Int32) else if c = b then (if b = a then (0 : Int32) else 1) else (if b = a then (1 : Int32) else 2))), .val (.int (if q < 0 then (-1 : Int32) else if q < z then own_spec adds a b c q else -1))] [(.int (if q < 0 then -1 else if q < Int32.ofNat z.toNatClampNeg then F9 q.toNatClampNeg else -1))]))
  refine Gd.go (fun _ w_k => XS.iload X66.here hx rfl (hb hby at_249) rfl w_k) ?_
  show Gd _ _ _ _ (T66.setTop (mkF m 251 #[.val (.int r1), .val (.int r2), .val (.int r3), .val (.int r4), .val (.int md), .val (.int qy), .val (.int z), .val (.int a), .val (.int b), .val (.int c), .val (.int adds), .val (.int q), .val (.ref b2), .val (.int (if b = a then (0 : Int32) else 1)), .val (.int (if b = a then (1 : Int32) else 2)), .val (.int (if c = a then (0 : Int32) else if c = b then (if b = a then (0 : Int32) else 1) else (if b = a then (1 : Int32) else 2))), .val (.int (if q < 0 then (-1 : Int32) else if q < z then own_spec adds a b c q else -1))] [(.int (if q < 0 then (-1 : Int32) else if q < z then own_spec adds a b c q else -1)), (.int (if q < 0 then -1 else if q < Int32.ofNat z.toNatClampNeg then F9 q.toNatClampNeg else -1))]))
  refine Gd.go (fun _ w_k => XS.icmpNo X66.here hx rfl (hb hby at_251) rfl (teq (by rw [own_ofz g_z]; by_cases u : q < 0; rw [if_pos u, if_pos u]; rw [if_neg u, if_neg u, sp9 q (own_nn u)])).2 w_k) ?_
  show Gd _ _ _ _ (T66.setTop (mkF m 254 #[.val (.int r1), .val (.int r2), .val (.int r3), .val (.int r4), .val (.int md), .val (.int qy), .val (.int z), .val (.int a), .val (.int b), .val (.int c), .val (.int adds), .val (.int q), .val (.ref b2), .val (.int (if b = a then (0 : Int32) else 1)), .val (.int (if b = a then (1 : Int32) else 2)), .val (.int (if c = a then (0 : Int32) else if c = b then (if b = a then (0 : Int32) else 1) else (if b = a then (1 : Int32) else 2))), .val (.int (if q < 0 then (-1 : Int32) else if q < z then own_spec adds a b c q else -1))] []))
  refine Gd.go (fun _ w_k => XS.iconst X66.here hx rfl (hb hby at_254) w_k) ?_
  show Gd _ _ _ _ (T66.setTop (mkF m 255 #[.val (.int r1), .val (.int r2), .val (.int r3), .val (.int r4), .val (.int md), .val (.int qy), .val (.int z), .val (.int a), .val (.int b), .val (.int c), .val (.int adds), .val (.int q), .val (.ref b2), .val (.int (if b = a then (0 : Int32) else 1)), .val (.int (if b = a then (1 : Int32) else 2)), .val (.int (if c = a then (0 : Int32) else if c = b then (if b = a then (0 : Int32) else 1) else (if b = a then (1 : Int32) else 2))), .val (.int (if q < 0 then (-1 : Int32) else if q < z then own_spec adds a b c q else -1))] [(.int (1 : Int32))]))
  refine Gd.go (fun _ w_k => XS.goto X66.here hx rfl (pc0 := 255) (pc' := 259) rfl (hb hby at_255) (by decide) (by decide) w_k) ?_
  show Gd _ _ _ _ (T66.setTop (mkF m 259 #[.val (.int r1), .val (.int r2), .val (.int r3), .val (.int r4), .val (.int md), .val (.int qy), .val (.int z), .val (.int a), .val (.int b), .val (.int c), .val (.int adds), .val (.int q), .val (.ref b2), .val (.int (if b = a then (0 : Int32) else 1)), .val (.int (if b = a then (1 : Int32) else 2)), .val (.int (if c = a then (0 : Int32) else if c = b then (if b = a then (0 : Int32) else 1) else (if b = a then (1 : Int32) else 2))), .val (.int (if q < 0 then (-1 : Int32) else if q < z then own_spec adds a b c q else -1))] [(.int (1 : Int32))]))
  refine own_retN (t := .boolean) X66 hx hret hlk (by simp) (hb hby at_259) ?_ (by decide) (by decide)
  exact ⟨rfl, N9'⟩
set_option maxRecDepth 65536 in
set_option maxHeartbeats 40000000 in
theorem comes_1 {Post : Tables → Env → Array Value → State → Outcome → State → Prop} (hpost : ∀ tb e args s v u, (limb_1_1.after args s (.returned v) u = true ∧ limb_1_2.after args s (.returned v) u = true ∧ True) → FrameEnd s (.returned v) u (Jvm.fieldLocs frame_1_writes args s ++ Jvm.arrayLocs frame_1_arrays args s ++ Jvm.staticLocs frame_1_statics s) 16 192 → Post tb e args s (.returned v) u) :
    ArmFor flags0 classFile x code maxLocals ret World_1 tables_1 room_1 Calls_1 rest_1 Pre_1 Post := by
  intro l hfl _ _ p e ha hc hk s m args below hf hA hF happ hP
  obtain ⟨hcalls, hrest, hpre⟩ := hP
  obtain ⟨-, -, -, hnamed, -, -, -, hat⟩ := (Spec.applies_iff hf).mp happ
  obtain ⟨hg, hn⟩ := and_e (Cond.before_iff.mp (show (Jvm.Cond.and given_1 narrow_1).before args s = true from hpre))
  obtain ⟨h1, g0⟩ := and_e hg
  obtain ⟨k0, g1⟩ := and_e g0
  obtain ⟨k1, g2⟩ := and_e g1
  obtain ⟨k2, g3⟩ := and_e g2
  obtain ⟨k3, g4⟩ := and_e g3
  obtain ⟨k4, g5⟩ := and_e g4
  obtain ⟨w0, w1, w2, w3, w4, w5, rfl⟩ : ∃ w0 w1 w2 w3 w4 w5 : Value, args = #[w0, w1, w2, w3, w4, w5] := by
    have hs : args.size = 6 := by simpa [Cond.value, given_1] using h1
    obtain ⟨L⟩ := args
    match L, hs with
    | [w0, w1, w2, w3, w4, w5], _ => exact ⟨w0, w1, w2, w3, w4, w5, rfl⟩
  have hw := fun d (hd : d ∈ tables_1) => atoms_spec (ws := Jvm.Cond.code x code maxLocals ret :: tables_1) hat d (List.mem_cons_of_mem _ hd)
  have hfit : Fit s := fun {y c} hc i hi => by
    obtain ⟨ha, rfl⟩ := Array.getElem?_eq_some_iff.mp hc
    have q := List.all_eq_true.mp ((Array.all_eq_true_iff_forall_mem.mp hF) _ (Array.getElem_mem ha)) i (List.mem_range.mpr hi)
    simpa [Array.getElem?_eq_getElem hi] using q
  obtain ⟨i0, e0⟩ := is_v k0
  obtain rfl : w0 = (.int i0) := Option.some.inj e0
  obtain ⟨i1, e1⟩ := is_v k1
  obtain rfl : w1 = (.int i1) := Option.some.inj e1
  obtain ⟨i2, e2⟩ := is_v k2
  obtain rfl : w2 = (.int i2) := Option.some.inj e2
  obtain ⟨i3, e3⟩ := is_v k3
  obtain rfl : w3 = (.int i3) := Option.some.inj e3
  obtain ⟨i4, e4⟩ := is_v k4
  obtain rfl : w4 = (.int i4) := Option.some.inj e4
  obtain ⟨i5, e5⟩ := is_v g5
  obtain rfl : w5 = (.int i5) := Option.some.inj e5
  obtain ⟨n, o, h1, h2, h3, _, L, rfl, ⟨rfl, N⟩, hq⟩ := own_law l s _ hw i0 i1 i2 i3 i4 i5 s.heap s.heap.size (Nat.le_refl _) p e ha hc hk s m _ below hf ((Spec.applies_iff_loose hf).mp happ).1 ⟨rfl, State.Warmed39.refl s, rfl⟩ trivial
  refine ⟨n, _, h1, h2, h3, hpost _ _ _ _ _ _ ⟨Cond.after_iff.mpr rfl, Cond.after_iff.mpr (eq_i res_at (Term.int_eval (1)) rfl), trivial⟩ ⟨hq.1, hq.2.1, (hq.2.2.sift fun y hy => Or.inr (N y hy)).mono (by decide) (by decide)⟩⟩
theorem main_1_1 : Claimed_1_1 := comes_1 fun _ _ _ _ _ _ h hF => ⟨h.1, hF⟩
theorem main_1_2 : Claimed_1_2 := comes_1 fun _ _ _ _ _ _ h hF => ⟨h.2.1, hF⟩
end Jvm.Pilot.@@N@@
namespace Jvm.Pilot.@@N@@
open Jvm Jvm.ClassFile Sem Op Lib Jvm.Free Jvm.Stand Jvm.Pilot.@@N@@.Jvm.D
/-! MADE BY PROGRAM (witnessworld.py) out of the Statement's table words and the real class files: 12 classes; the members and pool entries that the words name. The judged class is class 1, her method 1. -/
namespace start1
open Jvm.ClassFile
def u (s : String) : CpInfo := .utf8 (stringToUtf16 s)
/-- a pool by its gaps: so many unusable entries, then the entry; so many at the end -/
def gap : Nat → List CpInfo → List CpInfo
  | 0, r => r
  | n + 1, r => .unusable :: gap n r
def poolList (es : List (Nat × CpInfo)) (last : Nat) : List CpInfo := es.foldr (fun e r => gap e.1 (e.2 :: r)) (gap last [])
def pool (es : List (Nat × CpInfo)) (last : Nat) : Array CpInfo := ⟨poolList es last⟩
def fileOf (pool : Array CpInfo) (this : Nat) (attrs : Array Attribute := #[]) (ms : Array MethodInfo := #[]) (fl : Nat := 33) (sup : Nat := 0) (ifs : Array Nat := #[]) (fds : Array FieldInfo := #[]) : ClassFile where
  minorVersion := 0
  majorVersion := 65
  constantPool := pool
  accessFlags := fl
  thisClass := this
  superClass := sup
  interfaces := ifs
  fields := fds
  methods := ms
  attributes := attrs
def plain (name : String) (sup : Option ClassId) : Class where
  name := name
  kind := .ordinary
  loader := none
  accessFlags := 33
  super := sup
  interfaces := #[]
  cf := none
  fields := #[]
  methods := #[]
  instanceTypes := #[]
  staticTypes := #[]
  resolved := #[]
  callSites := []
  init := .initialized
  statics := none
  mirror := none

def pool0 : Array CpInfo := pool [(5, u "<init>"), (0, u "()V"), (1, .class_ 10), (1, u "java/lang/Object")] 113

def k0c0 : Code := { maxStack := 0, maxLocals := 1, code := object_method_1_code, exceptionTable := #[], attributes := #[] }
def k0m0 : Method := { name := "<init>", desc := "()V", sig := { parameters := [], returnType := none }, accessFlags := 1, code := some k0c0 }
/-- java/lang/Object -/
def k0 : Class := { plain "java/lang/Object" none with
  accessFlags := 33
  interfaces := #[]
  cf := some (fileOf pool0 8 #[] #[{ accessFlags := 1, nameIndex := 5, descriptorIndex := 6, attributes := #[] }] 33 0 #[] #[])
  fields := #[]
  methods := #[k0m0]
  instanceTypes := #[]
  staticTypes := #[]
  resolved := Array.replicate 124 none
  statics := none }

def pool1 : Array CpInfo := pool [(2, .class_ 4), (1, u "java/lang/Object"), (0, u "<init>"), (0, u "()V"), (0, .integer 2147483647), (0, .class_ 9), (0, u "org/eventropy/core/ActivityCounts"), (0, .methodref 8 11), (0, .nameAndType 5 12), (0, u "(I)V"), (0, .methodref 8 14), (0, .nameAndType 15 16), (0, u "add"), (0, u "(IJ)V"), (0, .methodref 8 18), (0, .nameAndType 19 20), (0, u "place"), (0, u "(I)I"), (0, .class_ 22), (0, u "org/eventropy/core/ActivityCountsPlacePinLaw"), (2, u "law"), (0, u "(IIIIII)Z")] 3

def k1m0 : Method := { name := "<init>", desc := "()V", sig := { parameters := [], returnType := none }, accessFlags := 1, code := none }
def k1c1 : Code := { maxStack := 4, maxLocals := 17, code := code, exceptionTable := #[], attributes := #[] }
def k1m1 : Method := { name := "law", desc := "(IIIIII)Z", sig := { parameters := [.int, .int, .int, .int, .int, .int], returnType := some .boolean }, accessFlags := 9, code := some k1c1 }
/-- org/eventropy/core/ActivityCountsPlacePinLaw -/
def k1 : Class := { plain "org/eventropy/core/ActivityCountsPlacePinLaw" (some 0) with
  accessFlags := 49
  interfaces := #[]
  cf := some (fileOf pool1 21 #[] #[{ accessFlags := 1, nameIndex := 5, descriptorIndex := 6, attributes := #[] }, { accessFlags := 9, nameIndex := 25, descriptorIndex := 26, attributes := #[] }] 49 2 #[] #[])
  fields := #[]
  methods := #[k1m0, k1m1]
  instanceTypes := #[]
  staticTypes := #[]
  resolved := Array.replicate 30 none
  statics := none }

def pool2 : Array CpInfo := pool [(1, .methodref 2 3), (0, .class_ 4), (0, .nameAndType 5 6), (0, u "java/lang/Object"), (0, u "<init>"), (0, u "()V"), (0, .class_ 8), (0, u "org/eventropy/core/ActivityCounts"), (0, .fieldref 7 10), (0, .nameAndType 11 12), (0, u "codes"), (0, u "[I"), (0, .fieldref 7 14), (0, .nameAndType 15 16), (0, u "counts"), (0, u "[J"), (0, .fieldref 7 18), (0, .nameAndType 19 12), (0, u "places"), (2, .methodref 23 24), (0, .class_ 25), (0, .nameAndType 26 27), (0, u "java/util/Arrays"), (0, u "fill"), (0, u "([II)V"), (0, .fieldref 7 29), (0, .nameAndType 30 31), (0, u "size"), (0, u "I"), (13, u "INITIAL_CAPACITY"), (2, u "(I)V"), (2, u "add"), (0, u "(IJ)V"), (3, u "(I)I"), (2, u "place")] 2

def k2c0 : Code := { maxStack := 2, maxLocals := 2, code := prog_13_method_1_code, exceptionTable := #[], attributes := #[] }
def k2m0 : Method := { name := "<init>", desc := "(I)V", sig := { parameters := [.int], returnType := none }, accessFlags := 0, code := some k2c0 }
def k2c1 : Code := { maxStack := 6, maxLocals := 5, code := prog_13_method_2_code, exceptionTable := #[], attributes := #[] }
def k2m1 : Method := { name := "add", desc := "(IJ)V", sig := { parameters := [.int, .long], returnType := none }, accessFlags := 0, code := some k2c1 }
def k2c2 : Code := { maxStack := 2, maxLocals := 2, code := prog_13_method_6_code, exceptionTable := #[], attributes := #[] }
def k2m2 : Method := { name := "place", desc := "(I)I", sig := { parameters := [.int], returnType := some .int }, accessFlags := 1, code := some k2c2 }
/-- org/eventropy/core/ActivityCounts -/
def k2 : Class := { plain "org/eventropy/core/ActivityCounts" (some 0) with
  accessFlags := 49
  interfaces := #[]
  cf := some (fileOf pool2 7 #[] #[{ accessFlags := 0, nameIndex := 5, descriptorIndex := 48, attributes := #[] }, { accessFlags := 0, nameIndex := 51, descriptorIndex := 52, attributes := #[] }, { accessFlags := 1, nameIndex := 59, descriptorIndex := 56, attributes := #[] }] 49 2 #[] #[{ accessFlags := 26, nameIndex := 45, descriptorIndex := 31, attributes := #[] }, { accessFlags := 18, nameIndex := 19, descriptorIndex := 12, attributes := #[] }, { accessFlags := 2, nameIndex := 11, descriptorIndex := 12, attributes := #[] }, { accessFlags := 2, nameIndex := 15, descriptorIndex := 16, attributes := #[] }, { accessFlags := 2, nameIndex := 30, descriptorIndex := 31, attributes := #[] }])
  fields := #[{ name := "INITIAL_CAPACITY", type := .int, accessFlags := 26, slot := 0, constantValue := 0 }, { name := "places", type := (.array .int), accessFlags := 18, slot := 0, constantValue := 0 }, { name := "codes", type := (.array .int), accessFlags := 2, slot := 1, constantValue := 0 }, { name := "counts", type := (.array .long), accessFlags := 2, slot := 2, constantValue := 0 }, { name := "size", type := .int, accessFlags := 2, slot := 3, constantValue := 0 }]
  methods := #[k2m0, k2m1, k2m2]
  instanceTypes := #[(.array .int), (.array .int), (.array .long), .int]
  staticTypes := #[.int]
  resolved := Array.replicate 62 none
  statics := none }

def pool3 : Array CpInfo := pool [(2, .class_ 4), (1, u "java/lang/Object"), (0, u "<init>"), (0, u "()V"), (7, .class_ 16), (1, u "java/util/Arrays"), (57, .class_ 76), (1, u "java/util/Arrays$NaturalOrder"), (36, .class_ 115), (1, u "java/util/Arrays$LegacyMergeSort"), (1, u "Z"), (257, .class_ 376), (0, u "java/util/Arrays$ArrayList"), (68, u "$assertionsDisabled"), (269, u "MIN_ARRAY_SORT_GRAN"), (0, u "I"), (2, u "INSERTIONSORT_THRESHOLD"), (120, u "fill"), (4, u "([II)V"), (129, .class_ 976), (0, u "java/util/Arrays$ArrayItr")] 52

def k3m0 : Method := { name := "<init>", desc := "()V", sig := { parameters := [], returnType := none }, accessFlags := 2, code := none }
def k3c1 : Code := { maxStack := 3, maxLocals := 4, code := jdk_65_method_103_code, exceptionTable := #[], attributes := #[] }
def k3m1 : Method := { name := "fill", desc := "([II)V", sig := { parameters := [(.array .int), .int], returnType := none }, accessFlags := 9, code := some k3c1 }
/-- java/util/Arrays -/
def k3 : Class := { plain "java/util/Arrays" (some 0) with
  accessFlags := 49
  interfaces := #[]
  cf := some (fileOf pool3 14 #[.nestMembers #[975, 375, 113, 74]] #[{ accessFlags := 2, nameIndex := 5, descriptorIndex := 6, attributes := #[] }, { accessFlags := 9, nameIndex := 840, descriptorIndex := 845, attributes := #[] }] 49 2 #[] #[{ accessFlags := 26, nameIndex := 715, descriptorIndex := 716, attributes := #[] }, { accessFlags := 26, nameIndex := 719, descriptorIndex := 716, attributes := #[] }, { accessFlags := 4120, nameIndex := 445, descriptorIndex := 117, attributes := #[] }])
  fields := #[{ name := "MIN_ARRAY_SORT_GRAN", type := .int, accessFlags := 26, slot := 0, constantValue := 0 }, { name := "INSERTIONSORT_THRESHOLD", type := .int, accessFlags := 26, slot := 1, constantValue := 0 }, { name := "$assertionsDisabled", type := .boolean, accessFlags := 4120, slot := 2, constantValue := 0 }]
  methods := #[k3m0, k3m1]
  instanceTypes := #[]
  staticTypes := #[.int, .int, .boolean]
  resolved := Array.replicate 1029 none
  statics := none }

def pool4 : Array CpInfo := pool [(1, u "java/lang/Cloneable"), (0, .class_ 1), (0, u "java/lang/Object"), (0, .class_ 3)] 3

/-- java/lang/Cloneable -/
def k4 : Class := { plain "java/lang/Cloneable" (some 0) with
  accessFlags := 1537
  interfaces := #[]
  cf := some (fileOf pool4 2 #[] #[] 1537 4 #[] #[])
  fields := #[]
  methods := #[]
  instanceTypes := #[]
  staticTypes := #[]
  resolved := Array.replicate 8 none
  statics := none }

def pool5 : Array CpInfo := pool [(1, u "java/io/Serializable"), (0, .class_ 1), (0, u "java/lang/Object"), (0, .class_ 3)] 3

/-- java/io/Serializable -/
def k5 : Class := { plain "java/io/Serializable" (some 0) with
  accessFlags := 1537
  interfaces := #[]
  cf := some (fileOf pool5 2 #[] #[] 1537 4 #[] #[])
  fields := #[]
  methods := #[]
  instanceTypes := #[]
  staticTypes := #[]
  resolved := Array.replicate 8 none
  statics := none }

/-- the primitive byte -/
def k6 : Class := { plain "byte" none with kind := .primitive 'B', accessFlags := 0x411 }
/-- [B -/
def k7 : Class := { plain "[B" (some 0) with kind := .array 6 .byte, interfaces := #[4, 5], accessFlags := 1041 }

/-- the primitive int -/
def k8 : Class := { plain "int" none with kind := .primitive 'I', accessFlags := 0x411 }
/-- [I -/
def k9 : Class := { plain "[I" (some 0) with kind := .array 8 .int, interfaces := #[4, 5], accessFlags := 1041 }

/-- the primitive long -/
def k10 : Class := { plain "long" none with kind := .primitive 'J', accessFlags := 0x411 }
/-- [J -/
def k11 : Class := { plain "[J" (some 0) with kind := .array 10 .long, interfaces := #[4, 5], accessFlags := 1041 }

def heap : Heap := #[]
def classes : Array Class := #[k0, k1, k2, k3, k4, k5, k6, k7, k8, k9, k10, k11]
def interned : List (Array UInt16 × Addr) := []
def slotsUsed : Nat := 0
def theMethod : MethodId := ⟨1, 1⟩
def args0 : Array Value := #[.int 3, .int 2, .int 1, .int 0, .int 7, .int 1]
def aboutOver (below : List Frame) : State where
  vm := { classes := classes, interned := interned.toArray }
  heap := heap
  slotsUsed := slotsUsed
  threads := #[{ frames := .invoking theMethod args0 :: below }]
def below0 : List Frame := [.native { method := ⟨0, 0⟩, args := #[] }]
def about1 : State := aboutOver below0
def p0 : Program := .bare "" "" ""
def e0 : Env := launch0.env 0 0 0
theorem w_frames : about1.frames = Frame.invoking theMethod args0 :: below0 := rfl
set_option maxRecDepth 65536 in
theorem w_args : argsFit about1.vm theMethod args0 = true := by decide +kernel
set_option maxRecDepth 65536 in
theorem w_heap : heapFits about1 = true := by decide +kernel
set_option maxRecDepth 65536 in
theorem w_runnable : about1.curStatus? = some .runnable := by decide +kernel
set_option maxRecDepth 65536 in
theorem w_alone : about1.alone = true := by decide +kernel
set_option maxRecDepth 65536 in
theorem w_named : about1.methodNamed? x = some theMethod := by decide +kernel
set_option maxRecDepth 65536 in
theorem w_hears : about1.hears theMethod below0 = true := by decide +kernel
set_option maxRecDepth 65536 in
theorem w_ripe : about1.ripe theMethod args0 below0 = true := by decide +kernel
theorem w_running : about1.status = .running := rfl
set_option maxRecDepth 65536 in
theorem w_room : about1.hasRoom e0.platform room_1 = true :=
  launch0.hasRoom_least _ room_1 (by decide +kernel) (by decide +kernel) (by decide +kernel) (by decide +kernel) (by decide +kernel) (by decide +kernel)
theorem allAtoms_all (ts : List Jvm.Cond) (a : Array Jvm.Value) (st : Jvm.State) : (allAtoms ts).before a st = ts.all (fun c => c.before a st) := by
  induction ts with
  | nil => rfl
  | cons c t ih =>
    show (Jvm.Cond.and c (allAtoms t)).before a st = _
    rw [Jvm.Cond.before_and, ih, List.all_cons]
def words1 : List Jvm.Cond := Jvm.Cond.code x code maxLocals ret :: tables_1
/-- a 'code' word, met by the world's own term for the bytes: nothing is compared byte by byte -/
theorem code_word {y : MethodName} {bytes : ByteArray} {mx : Nat} {rt : Option FieldType} {a : Array Value} {s : State} {m : MethodId} {meth : Method} {c : Code} (h1 : s.methodNamed? y = some m) (h2 : s.vm.method? m = some meth) (h3 : meth.code = some c) (h4 : c.code = bytes)
    (h5 : (c.maxLocals == mx && c.exceptionTable.isEmpty && decide (c.maxStack ≤ mostOperands) && decide (meth.sig.returnType = rt) && !meth.locks && decide (parseMethodDescriptor y.desc = some meth.sig)) = true) : (Jvm.Cond.code y bytes mx rt).before a s = true := by
  simp only [Bool.and_eq_true, beq_iff_eq, Bool.not_eq_true', decide_eq_true_eq] at h5
  obtain ⟨⟨⟨⟨⟨g1, g2⟩, g3⟩, g4⟩, g5⟩, g6⟩ := h5
  simp [Cond.before, Cond.holds, Cond.value, h1, h2, h3, h4, g1, g2, g3, g4, g5, g6]
def isCode : Jvm.Cond → Bool
  | .code _ _ _ _ => true
  | _ => false
theorem all_split {L : List Jvm.Cond} {P : Jvm.Cond → Bool} (h1 : L.all (fun c => isCode c || P c) = true) (h2 : ∀ c ∈ L.filter isCode, P c = true) : L.all P = true := by
  refine List.all_eq_true.mpr fun c hc => ?_
  have h := List.all_eq_true.mp h1 c hc
  rcases Bool.eq_false_or_eq_true (isCode c) with hi | hi
  · exact h2 c (List.mem_filter.mpr ⟨hc, hi⟩)
  · simpa [hi] using h
set_option maxRecDepth 65536 in
theorem w_c0 : (Jvm.Cond.code x code maxLocals ret).before args0 about1 = true := code_word (m := ⟨1, 1⟩) (meth := k1m1) (c := k1c1) (by decide +kernel) rfl rfl rfl (by decide +kernel)
set_option maxRecDepth 65536 in
theorem w_c1 : (Jvm.Cond.code ({ cls := "org/eventropy/core/ActivityCounts", name := "<init>", desc := "(I)V" } : Jvm.MethodName) prog_13_method_1_code (2 : Nat) (Option.none : Option Jvm.ClassFile.FieldType)).before args0 about1 = true := code_word (m := ⟨2, 0⟩) (meth := k2m0) (c := k2c0) (by decide +kernel) rfl rfl rfl (by decide +kernel)
set_option maxRecDepth 65536 in
theorem w_c2 : (Jvm.Cond.code ({ cls := "java/lang/Object", name := "<init>", desc := "()V" } : Jvm.MethodName) object_method_1_code (1 : Nat) (Option.none : Option Jvm.ClassFile.FieldType)).before args0 about1 = true := code_word (m := ⟨0, 0⟩) (meth := k0m0) (c := k0c0) (by decide +kernel) rfl rfl rfl (by decide +kernel)
set_option maxRecDepth 65536 in
theorem w_c3 : (Jvm.Cond.code ({ cls := "java/util/Arrays", name := "fill", desc := "([II)V" } : Jvm.MethodName) jdk_65_method_103_code (4 : Nat) (Option.none : Option Jvm.ClassFile.FieldType)).before args0 about1 = true := code_word (m := ⟨3, 1⟩) (meth := k3m1) (c := k3c1) (by decide +kernel) rfl rfl rfl (by decide +kernel)
set_option maxRecDepth 65536 in
theorem w_c4 : (Jvm.Cond.code ({ cls := "org/eventropy/core/ActivityCounts", name := "place", desc := "(I)I" } : Jvm.MethodName) prog_13_method_6_code (2 : Nat) (Option.some Jvm.ClassFile.FieldType.int)).before args0 about1 = true := code_word (m := ⟨2, 2⟩) (meth := k2m2) (c := k2c2) (by decide +kernel) rfl rfl rfl (by decide +kernel)
set_option maxRecDepth 65536 in
theorem w_c5 : (Jvm.Cond.code ({ cls := "org/eventropy/core/ActivityCounts", name := "add", desc := "(IJ)V" } : Jvm.MethodName) prog_13_method_2_code (5 : Nat) (Option.none : Option Jvm.ClassFile.FieldType)).before args0 about1 = true := code_word (m := ⟨2, 1⟩) (meth := k2m1) (c := k2c1) (by decide +kernel) rfl rfl rfl (by decide +kernel)
def codes1 : List Jvm.Cond := [Jvm.Cond.code x code maxLocals ret, Jvm.Cond.code ({ cls := "org/eventropy/core/ActivityCounts", name := "<init>", desc := "(I)V" } : Jvm.MethodName) prog_13_method_1_code (2 : Nat) (Option.none : Option Jvm.ClassFile.FieldType), Jvm.Cond.code ({ cls := "java/lang/Object", name := "<init>", desc := "()V" } : Jvm.MethodName) object_method_1_code (1 : Nat) (Option.none : Option Jvm.ClassFile.FieldType), Jvm.Cond.code ({ cls := "java/util/Arrays", name := "fill", desc := "([II)V" } : Jvm.MethodName) jdk_65_method_103_code (4 : Nat) (Option.none : Option Jvm.ClassFile.FieldType), Jvm.Cond.code ({ cls := "org/eventropy/core/ActivityCounts", name := "place", desc := "(I)I" } : Jvm.MethodName) prog_13_method_6_code (2 : Nat) (Option.some Jvm.ClassFile.FieldType.int), Jvm.Cond.code ({ cls := "org/eventropy/core/ActivityCounts", name := "add", desc := "(IJ)V" } : Jvm.MethodName) prog_13_method_2_code (5 : Nat) (Option.none : Option Jvm.ClassFile.FieldType)]
set_option maxRecDepth 65536 in
theorem codes_eq : words1.filter isCode = codes1 := rfl
theorem w_codes : ∀ c ∈ words1.filter isCode, c.before args0 about1 = true := by
  rw [codes_eq]
  intro c hc
  simp only [codes1, List.mem_cons, List.not_mem_nil, or_false] at hc
  rcases hc with rfl | rfl | rfl | rfl | rfl | rfl
  · exact w_c0
  · exact w_c1
  · exact w_c2
  · exact w_c3
  · exact w_c4
  · exact w_c5
set_option maxRecDepth 65536 in
theorem w_t1 : (words1.take 24).all (fun c => isCode c || c.before args0 about1) = true := by decide +kernel
set_option maxRecDepth 65536 in
theorem w_t2 : (words1.drop 24).all (fun c => isCode c || c.before args0 about1) = true := by decide +kernel
theorem w_tables : (allAtoms (Jvm.Cond.code x code maxLocals ret :: tables_1)).before args0 about1 = true := by
  rw [allAtoms_all]
  show words1.all (fun c => c.before args0 about1) = true
  refine all_split ?_ w_codes
  rw [← List.take_append_drop 24 words1, List.all_append, w_t1, w_t2]
  rfl
set_option maxRecDepth 65536 in
theorem w_case : (Jvm.Cond.and given_1 narrow_1).before args0 about1 = true := by decide +kernel
theorem w_applies : (headSpec (Jvm.Cond.code x code maxLocals ret :: tables_1) room_1).applies x e0.platform about1 = true :=
  (Spec.applies_iff w_frames).mpr ⟨w_running, w_runnable, w_alone, w_named, w_hears, w_ripe, w_room, w_tables⟩
theorem atStart : AtStart classFile x code maxLocals ret World_1 tables_1 room_1 Calls_1 rest_1 Pre_1 launch0 p0 e0 about1 theMethod args0 below0 :=
  ⟨lists_1, trivial, launch0.admits_env _ _ _, launch0.least_env, fairChoices_fair.cas, fairChoices_fair.clock, w_frames, w_args, w_heap, w_applies, trivial, trivial, w_case⟩
end start1
theorem witness_1 : WitnessClaimed_1 := ⟨start1.p0, start1.e0, start1.about1, start1.theMethod, start1.args0, start1.below0, start1.atStart⟩
end Jvm.Pilot.@@N@@
