import JvmDerived
import JvmDerived.Pilot.@@N@@Statement
import JvmDerived.Pilot.@@N@@Code
set_option linter.unusedVariables false
set_option linter.unusedSimpArgs false
namespace Jvm.Pilot.@@N@@
open Jvm Jvm.ClassFile Sem Op Lib Jvm.Free Jvm.Stand Jvm.LawKit Jvm.RoadKit Bundle Jvm.Pilot.@@N@@.Jvm.D
section OwnKit
variable {p : Program} {l : Launch} {e : Env} {R : Room} {s : State} {m : MethodId} {args : Array Value} {below : List Frame} {meth : Method} {c : Code} {T : State} {locs : List Loc} {cells slots : Nat} {Z : State} {a0 : Array Value} {h : Heap}
/-- from S the body comes to its end, and P holds of it -/
def Gd (tb : Tables) (e : Env) (below : List Frame) (P : Outcome → State → Prop) (S : State) : Prop := ∃ s₂ o, Steps tb e below S s₂ ∧ s₂.status = .running ∧ Ended s₂ below o ∧ P o s₂
theorem Gd.go {tb : Tables} {e : Env} {below : List Frame} {P : Outcome → State → Prop} {S S' : State} (h : ∀ t, Steps tb e below S' t → Steps tb e below S t) (k : Gd tb e below P S') : Gd tb e below P S := by
  obtain ⟨s₂, o, h1, h2⟩ := k
  exact ⟨s₂, o, h _ h1, h2⟩
theorem Gd.via {tb : Tables} {e : Env} {below : List Frame} {P : Outcome → State → Prop} {S S' : State} (h : Gd tb e below P S' → Gd tb e below P S) (k : Gd tb e below P S') : Gd tb e below P S := h k
theorem Gd.viaA {α : Type} {A : α → Prop} {tb : Tables} {e : Env} {below : List Frame} {P : Outcome → State → Prop} {S : State} {S' : α → State} (h : (∀ z, A z → Gd tb e below P (S' z)) → Gd tb e below P S) (k : ∀ z, A z → Gd tb e below P (S' z)) : Gd tb e below P S := h k
/-- a body's contract: called with these arguments over this heap it returns, Q holds, and so many cells and slots at most are new -/
def Con (l : Launch) (Z : State) (y : MethodName) (bytes : ByteArray) (maxL : Nat) (ret : Option FieldType) (ws : List Jvm.Cond) (rm : Room) (kc ks : Nat) (as' : Array Value) (h : Heap) (Q : Option Value → Heap → List Loc → Prop) : Prop :=
  MetFree l y (head1 (Jvm.Cond.code y bytes maxL ret :: ws) rm) (fun a U => a = as' ∧ Z.Warmed39 U.vm ∧ U.heap = h) (fun _ _ _ _ _ => True) (fun _ U o U' => ∃ v L, o = .returned v ∧ Q v U'.heap L ∧ FrameEnd U o U' L kc ks)
/-- what a body's walk owes -/
abbrev Owes (s : State) (kc ks : Nat) (Q : Option Value → Heap → List Loc → Prop) : Outcome → State → Prop := fun o U' => ∃ v L, o = .returned v ∧ Q v U'.heap L ∧ FrameEnd s o U' L kc ks
theorem Con.of {y : MethodName} {bytes : ByteArray} {maxL : Nat} {ret : Option FieldType} {ws : List Jvm.Cond} {rm : Room} {kc ks : Nat} {as' : Array Value} {Q : Option Value → Heap → List Loc → Prop} (hpn : plainFor y = true)
    (body : ∀ (p : Program) (e : Env) (s : State) (m : MethodId) (below : List Frame) (meth : Method) (c : Code) (s₁ : State), p.tables.exec = Jvm.exec → c.code = bytes → c.maxLocals = maxL → s.vm.findClass y.cls = some m.cls → meth.name = y.name → meth.sig.returnType = ret → meth.locks = false → Z.Warmed39 s.vm →
      Stand p l e rm s m as' below meth c s₁ [] 0 0 → s₁.heap = h → Gd p.tables e below (Owes s kc ks Q) (s₁.setTop (entryFrame m as' maxL))) : Con l Z y bytes maxL ret ws rm kc ks as' h Q := by
  refine MetFree.of_bodySF hpn hisR ?_
  intro p e s m args below meth c s₁ Bd hml0 hP hK
  obtain ⟨rfl, hZ, hh⟩ := hP
  exact body p e s m below meth c s₁ Bd.exec Bd.bytes hml0 (findClass_of_methodNamed Bd.named) (name_of_methodNamed Bd.named Bd.method).1 Bd.returns Bd.notSynchronized hZ (Stand.of_body Bd) (by rw [← hh, Bd.state]; rfl)
theorem own_retI (X : Stand p l e R s m args below meth c T locs cells slots) (hx : p.tables.exec = Jvm.exec) {pc : Nat} {Ls : Array Slot} {z : Int32} {rest : List Value} (hret : meth.sig.returnType = some .int) (hlk : meth.locks = false) (hd : decode c.code pc = .ok (.ireturn, 1)) {Q : Option Value → Heap → List Loc → Prop} {kc ks : Nat} (hq : Q (some (.int z)) T.heap locs) (hc : cells ≤ kc) (hs : slots ≤ ks) :
    Gd p.tables e below (Owes s kc ks Q) (T.setTop (mkF m pc Ls (.int z :: rest))) := by
  obtain ⟨fs, hr, hrun, hended, hW, hsame⟩ := X.leave (v := some (.int z)) (fun h => by rw [hret] at h; cases h) hlk
  have hm' : T.vm.method? m = some meth := X.method'
  have hn : narrow .int (.int z) = .int z := rfl
  refine ⟨_, _, ?_, hrun, hended, _, _, rfl, hq, ⟨_, rfl⟩, hW, hsame.mono hc hs⟩
  show Steps p.tables e below (T.setTop { method := m, pc := pc, locals := Ls, stack := _ :: rest, locked := none }) _
  jvm_step X.here [X.here.top, hx, hd, hm', hret, hn]
  first | (intro acts; rw [hr _ acts rfl rfl rfl]) | rw [hr _ _ rfl rfl rfl]
  exact Steps.refl _
theorem own_retN (X : Stand p l e R s m args below meth c T locs cells slots) (hx : p.tables.exec = Jvm.exec) {pc : Nat} {Ls : Array Slot} {z : Int32} {rest : List Value} {t : FieldType} (hret : meth.sig.returnType = some t) (hlk : meth.locks = false) (ht : t = .boolean ∨ t = .byte ∨ t = .char ∨ t = .short) (hd : decode c.code pc = .ok (.ireturn, 1)) {Q : Option Value → Heap → List Loc → Prop} {kc ks : Nat} (hq : Q (some (.int (nar t z))) T.heap locs) (hc : cells ≤ kc) (hs : slots ≤ ks) :
    Gd p.tables e below (Owes s kc ks Q) (T.setTop (mkF m pc Ls (.int z :: rest))) := by
  obtain ⟨fs, hr, hrun, hended, hW, hsame⟩ := X.leave (v := some (.int (nar t z))) (fun h => by rw [hret] at h; cases h) hlk
  exact ⟨_, _, retN X hx hret ht hd hr, hrun, hended, _, _, rfl, hq, ⟨_, rfl⟩, hW, hsame.mono hc hs⟩
theorem own_retV (X : Stand p l e R s m args below meth c T locs cells slots) (hx : p.tables.exec = Jvm.exec) {pc : Nat} {Ls : Array Slot} (hret : meth.sig.returnType = none) (hlk : meth.locks = false) (hd : decode c.code pc = .ok (.return_, 1)) {Q : Option Value → Heap → List Loc → Prop} {kc ks : Nat} (hq : Q none T.heap locs) (hc : cells ≤ kc) (hs : slots ≤ ks) :
    Gd p.tables e below (Owes s kc ks Q) (T.setTop (mkF m pc Ls [])) := by
  obtain ⟨fs, hr, hrun, hended, hW, hsame⟩ := X.leave (v := none) (fun _ => rfl) hlk
  exact ⟨_, _, X.returnOut hx hret hd hr, hrun, hended, _, _, rfl, hq, ⟨_, rfl⟩, hW, hsame.mono hc hs⟩
theorem own_retL (X : Stand p l e R s m args below meth c T locs cells slots) (hx : p.tables.exec = Jvm.exec) {pc : Nat} {Ls : Array Slot} {z : Int64} {rest : List Value} (hret : meth.sig.returnType = some .long) (hlk : meth.locks = false) (hd : decode c.code pc = .ok (.lreturn, 1)) {Q : Option Value → Heap → List Loc → Prop} {kc ks : Nat} (hq : Q (some (.long z)) T.heap locs) (hc : cells ≤ kc) (hs : slots ≤ ks) :
    Gd p.tables e below (Owes s kc ks Q) (T.setTop (mkF m pc Ls (.long z :: rest))) := by
  obtain ⟨fs, hr, hrun, hended, hW, hsame⟩ := X.leave (v := some (.long z)) (fun h => by rw [hret] at h; cases h) hlk
  have hm' : T.vm.method? m = some meth := X.method'
  refine ⟨_, _, ?_, hrun, hended, _, _, rfl, hq, ⟨_, rfl⟩, hW, hsame.mono hc hs⟩
  show Steps p.tables e below (T.setTop { method := m, pc := pc, locals := Ls, stack := _ :: rest, locked := none }) _
  jvm_step X.here [X.here.top, hx, hd, hm', hret, narrow]
  first | (intro acts; rw [hr _ acts rfl rfl rfl]) | rw [hr _ _ rfl rfl rfl]
  exact Steps.refl _
theorem own_retA (X : Stand p l e R s m args below meth c T locs cells slots) (hx : p.tables.exec = Jvm.exec) {pc : Nat} {Ls : Array Slot} {a : Addr} {rest : List Value} {t : FieldType} (hret : meth.sig.returnType = some t) (hlk : meth.locks = false) (ht : t.isReference = true) (hd : decode c.code pc = .ok (.areturn, 1)) {Q : Option Value → Heap → List Loc → Prop} {kc ks : Nat} (hq : Q (some (.ref a)) T.heap locs) (hc : cells ≤ kc) (hs : slots ≤ ks) :
    Gd p.tables e below (Owes s kc ks Q) (T.setTop (mkF m pc Ls (.ref a :: rest))) := by
  obtain ⟨fs, hr, hrun, hended, hW, hsame⟩ := X.leave (v := some (.ref a)) (fun h => by rw [hret] at h; cases h) hlk
  have hm' : T.vm.method? m = some meth := X.method'
  refine ⟨_, _, ?_, hrun, hended, _, _, rfl, hq, ⟨_, rfl⟩, hW, hsame.mono hc hs⟩
  show Steps p.tables e below (T.setTop { method := m, pc := pc, locals := Ls, stack := _ :: rest, locked := none }) _
  jvm_step X.here [X.here.top, hx, hd, hm', hret, ht, Value.isRef]
  first | (intro acts; rw [hr _ acts rfl rfl rfl]) | rw [hr _ _ rfl rfl rfl]
  exact Steps.refl _
/-- a static call by its contract -/
theorem own_callS (X : Stand p l e R s m args below meth c T locs cells slots) (hx : p.tables.exec = Jvm.exec) (hZ : Z.Warmed39 s.vm) {own : String} {index : Nat} {y : MethodName} {bytes : ByteArray} {maxL : Nat} {ret : Option FieldType} (hown : s.vm.findClass own = some m.cls)
    (w1 : (Jvm.Cond.methodLink own index y).before a0 Z = true) (w2 : (Jvm.Cond.static y).before a0 Z = true) (w3 : (Jvm.Cond.initialized y.cls).before a0 Z = true) (w4 : (Jvm.Cond.code y bytes maxL ret).before a0 Z = true) (hy : y.cls ≠ "java/lang/invoke/MethodHandle" ∧ y.cls ≠ "java/lang/invoke/VarHandle")
    {rm : Room} {as' : Array Value} {Q : Option Value → Heap → List Loc → Prop} {W kc ks : Nat} (hM : Con l Z y bytes maxL ret [] rm kc ks as' h Q) (hkc : rm.cells = kc) (hks : rm.slots = ks) (eT : T.heap = h) (hf : rm.frames + 1 ≤ R.frames) (hl : W + (maxL + 11) + rm.locals ≤ R.locals)
    {g : JFrame} (hg : g.method = m) (hsize : g.locals.size = c.maxLocals) {argsL rest : List Value} (hlen : ∀ sig, parseMethodDescriptor y.desc = some sig → argsL.length = sig.parameters.length) (hstack : g.stack = argsL.reverse ++ rest) (hW : 2 * g.monitorRoom + (rest.map fun v => v.category).sum ≤ W)
    (hdg : decode c.code g.pc = .ok (.invokestatic index, 3)) (has : argsL.toArray = as') (hc : cells + kc ≤ R.cells) (hs : slots + ks ≤ R.slots) :
    ∃ v T' L, Stand p l e R s m args below meth c T' (locs ++ L) (cells + kc) (slots + ks) ∧ Q v T'.heap L ∧ ∀ target, Steps p.tables e below (T'.setTop { g with pc := g.pc + 3, stack := v.toList ++ rest }) target → Steps p.tables e below (T.setTop g) target := by
  subst hkc hks
  obtain ⟨v, vm₁, ⟨T', L', c', s'⟩, -, X', ⟨L, hq, l1, l2, l3⟩, st⟩ := Jvm.LawKit.callS X hx (y := y) hown (mvT hZ w1) (mvT hZ w2) (mvT hZ w3) (mvT hZ w4) hy (backOf (W := W) hM hZ w4 w3 hf hl) hg hsize (argsL := argsL) (rest := rest) hlen hstack hW hdg (fun _ _ => ⟨has, eT, hc, hs⟩)
  dsimp only [Pt.U, Pt.locs, Pt.cells, Pt.slots] at X' l1 l2 l3 st hq
  subst l1 l2 l3
  exact ⟨v, T', L, X', hq, st⟩
/-- a static call that writes and makes nothing -/
theorem own_callSP (X : Stand p l e R s m args below meth c T locs cells slots) (hx : p.tables.exec = Jvm.exec) (hZ : Z.Warmed39 s.vm) {own : String} {index : Nat} {y : MethodName} {bytes : ByteArray} {maxL : Nat} {ret : Option FieldType} (hown : s.vm.findClass own = some m.cls)
    (w1 : (Jvm.Cond.methodLink own index y).before a0 Z = true) (w2 : (Jvm.Cond.static y).before a0 Z = true) (w3 : (Jvm.Cond.initialized y.cls).before a0 Z = true) (w4 : (Jvm.Cond.code y bytes maxL ret).before a0 Z = true) (hy : y.cls ≠ "java/lang/invoke/MethodHandle" ∧ y.cls ≠ "java/lang/invoke/VarHandle")
    {rm : Room} {as' : Array Value} {v : Option Value} {W : Nat} (hM : Con l Z y bytes maxL ret [] rm 0 0 as' h (fun v' h' L => v' = v ∧ h' = h ∧ L = [])) (hkc : rm.cells = 0) (hks : rm.slots = 0) (eT : T.heap = h) (hf : rm.frames + 1 ≤ R.frames) (hl : W + (maxL + 11) + rm.locals ≤ R.locals)
    {g : JFrame} (hg : g.method = m) (hsize : g.locals.size = c.maxLocals) {argsL rest : List Value} (hlen : ∀ sig, parseMethodDescriptor y.desc = some sig → argsL.length = sig.parameters.length) (hstack : g.stack = argsL.reverse ++ rest) (hW : 2 * g.monitorRoom + (rest.map fun v => v.category).sum ≤ W)
    (hdg : decode c.code g.pc = .ok (.invokestatic index, 3)) (has : argsL.toArray = as') (hc : cells ≤ R.cells := by decide) (hs : slots ≤ R.slots := by decide) :
    ∃ T', Stand p l e R s m args below meth c T' locs cells slots ∧ T'.heap = h ∧ ∀ target, Steps p.tables e below (T'.setTop { g with pc := g.pc + 3, stack := v.toList ++ rest }) target → Steps p.tables e below (T.setTop g) target := by
  obtain ⟨v', T', L, X', ⟨e1, e2, e3⟩, st⟩ := own_callS X hx hZ hown w1 w2 w3 w4 hy hM hkc hks eT hf hl hg hsize hlen hstack hW hdg has hc hs
  subst e1 e3
  rw [List.append_nil] at X'
  exact ⟨T', X', e2, st⟩
/-- an instance method by its contract, chosen by the receiver's class -/
theorem own_callV (X : Stand p l e R s m args below meth c T locs cells slots) (hx : p.tables.exec = Jvm.exec) (hZ : Z.Warmed39 s.vm) {own C : String} {index : Nat} {y : MethodName} {bytes : ByteArray} {maxL : Nat} {ret : Option FieldType} (hown : s.vm.findClass own = some m.cls)
    (w1 : (Jvm.Cond.methodLink own index y).before a0 Z = true) (w2 : (Jvm.Cond.declares y).before a0 Z = true) (w3 : (Jvm.Cond.selects C y y).before a0 Z = true) (w4 : (Jvm.Cond.instanceMethod y).before a0 Z = true) (w5 : (Jvm.Cond.initialized y.cls).before a0 Z = true) (w6 : (Jvm.Cond.code y bytes maxL ret).before a0 Z = true) (hy : y.cls ≠ "java/lang/invoke/MethodHandle" ∧ y.cls ≠ "java/lang/invoke/VarHandle")
    {b : Addr} (E : Exa Z h b C) {rm : Room} {as' : Array Value} {Q : Option Value → Heap → List Loc → Prop} {W kc ks : Nat} (hM : Con l Z y bytes maxL ret [] rm kc ks as' h Q) (hkc : rm.cells = kc) (hks : rm.slots = ks) (eT : T.heap = h) (hf : rm.frames + 1 ≤ R.frames) (hl : W + (maxL + 11) + rm.locals ≤ R.locals)
    {g : JFrame} (hg : g.method = m) (hsize : g.locals.size = c.maxLocals) {argsL rest : List Value} (hlen : ∀ sig, parseMethodDescriptor y.desc = some sig → argsL.length = sig.parameters.length) (hstack : g.stack = argsL.reverse ++ .ref b :: rest) (hW : 2 * g.monitorRoom + (rest.map fun v => v.category).sum ≤ W)
    (hdg : decode c.code g.pc = .ok (.invokevirtual index, 3)) (has : (.ref b :: argsL).toArray = as') (hc : cells + kc ≤ R.cells) (hs : slots + ks ≤ R.slots) :
    ∃ v T' L, Stand p l e R s m args below meth c T' (locs ++ L) (cells + kc) (slots + ks) ∧ Q v T'.heap L ∧ ∀ target, Steps p.tables e below (T'.setTop { g with pc := g.pc + 3, stack := v.toList ++ rest }) target → Steps p.tables e below (T.setTop g) target := by
  subst hkc hks
  obtain ⟨cq, kq, qa, qb, qc⟩ := isOf hZ eT E
  obtain ⟨v, vm₁, ⟨T', L', c', s'⟩, -, X', ⟨L, hq, l1, l2, l3⟩, st⟩ := X.virtualBack hx (y := y) (z := y) hown (mvT hZ w1) (mvT hZ w2) (notFace_of_selects (args := #[]) (mvT hZ w3)) (mvT hZ w3) (mvT hZ w4) hy (backOf (W := W) hM hZ w6 w5 hf hl) qa qc hg hsize (Steps.refl _) (argsL := argsL) (rest := rest) hlen hstack hW hdg (fun _ _ => ⟨has, eT, hc, hs⟩)
  dsimp only [Pt.U, Pt.locs, Pt.cells, Pt.slots] at X' l1 l2 l3 st hq
  subst l1 l2 l3
  exact ⟨v, T', L, X', hq, fun _ k => st.trans k⟩
/-- an instance method that writes and makes nothing -/
theorem own_callVP (X : Stand p l e R s m args below meth c T locs cells slots) (hx : p.tables.exec = Jvm.exec) (hZ : Z.Warmed39 s.vm) {own C : String} {index : Nat} {y : MethodName} {bytes : ByteArray} {maxL : Nat} {ret : Option FieldType} (hown : s.vm.findClass own = some m.cls)
    (w1 : (Jvm.Cond.methodLink own index y).before a0 Z = true) (w2 : (Jvm.Cond.declares y).before a0 Z = true) (w3 : (Jvm.Cond.selects C y y).before a0 Z = true) (w4 : (Jvm.Cond.instanceMethod y).before a0 Z = true) (w5 : (Jvm.Cond.initialized y.cls).before a0 Z = true) (w6 : (Jvm.Cond.code y bytes maxL ret).before a0 Z = true) (hy : y.cls ≠ "java/lang/invoke/MethodHandle" ∧ y.cls ≠ "java/lang/invoke/VarHandle")
    {b : Addr} (E : Exa Z h b C) {rm : Room} {as' : Array Value} {v : Option Value} {W : Nat} (hM : Con l Z y bytes maxL ret [] rm 0 0 as' h (fun v' h' L => v' = v ∧ h' = h ∧ L = [])) (hkc : rm.cells = 0) (hks : rm.slots = 0) (eT : T.heap = h) (hf : rm.frames + 1 ≤ R.frames) (hl : W + (maxL + 11) + rm.locals ≤ R.locals)
    {g : JFrame} (hg : g.method = m) (hsize : g.locals.size = c.maxLocals) {argsL rest : List Value} (hlen : ∀ sig, parseMethodDescriptor y.desc = some sig → argsL.length = sig.parameters.length) (hstack : g.stack = argsL.reverse ++ .ref b :: rest) (hW : 2 * g.monitorRoom + (rest.map fun v => v.category).sum ≤ W)
    (hdg : decode c.code g.pc = .ok (.invokevirtual index, 3)) (has : (.ref b :: argsL).toArray = as') (hc : cells ≤ R.cells := by decide) (hs : slots ≤ R.slots := by decide) :
    ∃ T', Stand p l e R s m args below meth c T' locs cells slots ∧ T'.heap = h ∧ ∀ target, Steps p.tables e below (T'.setTop { g with pc := g.pc + 3, stack := v.toList ++ rest }) target → Steps p.tables e below (T.setTop g) target := by
  obtain ⟨v', T', L, X', ⟨e1, e2, e3⟩, st⟩ := own_callV X hx hZ hown w1 w2 w3 w4 w5 w6 hy E hM hkc hks eT hf hl hg hsize hlen hstack hW hdg has hc hs
  subst e1 e3
  rw [List.append_nil] at X'
  exact ⟨T', X', e2, st⟩
/-- a constructor by its contract -/
theorem own_callI (X : Stand p l e R s m args below meth c T locs cells slots) (hx : p.tables.exec = Jvm.exec) (hZ : Z.Warmed39 s.vm) {own : String} {index : Nat} {y : MethodName} {bytes : ByteArray} {maxL : Nat} (hy1 : y.name = "<init>") (hown : s.vm.findClass own = some m.cls)
    (w1 : (Jvm.Cond.methodLink own index y).before a0 Z = true) (w4 : (Jvm.Cond.instanceMethod y).before a0 Z = true) (w5 : (Jvm.Cond.initialized y.cls).before a0 Z = true) (w6 : (Jvm.Cond.code y bytes maxL none).before a0 Z = true) (hy : y.cls ≠ "java/lang/invoke/MethodHandle" ∧ y.cls ≠ "java/lang/invoke/VarHandle")
    {b : Addr} {rm : Room} {as' : Array Value} {Q : Option Value → Heap → List Loc → Prop} {W kc ks : Nat} (hM : Con l Z y bytes maxL none [] rm kc ks as' h Q) (hkc : rm.cells = kc) (hks : rm.slots = ks) (eT : T.heap = h) (hf : rm.frames + 1 ≤ R.frames) (hl : W + (maxL + 11) + rm.locals ≤ R.locals)
    {g : JFrame} (hg : g.method = m) (hsize : g.locals.size = c.maxLocals) {argsL rest : List Value} (hlen : ∀ sig, parseMethodDescriptor y.desc = some sig → argsL.length = sig.parameters.length) (hstack : g.stack = argsL.reverse ++ .ref b :: rest) (hW : 2 * g.monitorRoom + (rest.map fun v => v.category).sum ≤ W)
    (hdg : decode c.code g.pc = .ok (.invokespecial index, 3)) (has : (.ref b :: argsL).toArray = as') (hc : cells + kc ≤ R.cells) (hs : slots + ks ≤ R.slots) :
    ∃ v T' L, Stand p l e R s m args below meth c T' (locs ++ L) (cells + kc) (slots + ks) ∧ Q v T'.heap L ∧ ∀ target, Steps p.tables e below (T'.setTop { g with pc := g.pc + 3, stack := v.toList ++ rest }) target → Steps p.tables e below (T.setTop g) target := by
  subst hkc hks
  obtain ⟨v, vm₁, ⟨T', L', c', s'⟩, -, X', ⟨L, hq, l1, l2, l3⟩, st⟩ := X.specialBack hx (y := y) hy1 hown (mvT hZ w1) (mvT hZ w4) (mvT hZ w6) hy (backOf (W := W) hM hZ w6 w5 hf hl) hg hsize (Steps.refl _) (a := b) (argsL := argsL) (rest := rest) hlen hstack hW hdg (fun _ _ => ⟨has, eT, hc, hs⟩)
  dsimp only [Pt.U, Pt.locs, Pt.cells, Pt.slots] at X' l1 l2 l3 st hq
  subst l1 l2 l3
  exact ⟨v, T', L, X', hq, fun _ k => st.trans k⟩
/-- an array as a function of its places -/
def ArF (Z : State) (h : Heap) (a : Addr) (ty : FieldType) (n : Nat) (f : Nat → Value) : Prop := ∃ c : Cell, Arr Z h a c ty ∧ c.slots.size = n ∧ n < 2 ^ 31 ∧ ∀ i, i < n → c.slots[i]? = some (f i)
def upd (f : Nat → Value) (j : Nat) (v : Value) : Nat → Value := fun i => if i = j then v else f i
theorem upd_at (f : Nat → Value) (j : Nat) (v : Value) : upd f j v j = v := if_pos rfl
theorem upd_ne (f : Nat → Value) {i j : Nat} (v : Value) (q : ¬ i = j) : upd f j v i = f i := if_neg q
theorem ArF.lt {h : Heap} {a : Addr} {ty : FieldType} {n : Nat} {f : Nat → Value} (F : ArF Z h a ty n f) : a < h.size := by obtain ⟨c, A, -⟩ := F; exact A.lt
theorem ArF.ext {h h' : Heap} {a : Addr} {ty : FieldType} {n : Nat} {f : Nat → Value} (F : ArF Z h a ty n f) (E : Ext h h') : ArF Z h' a ty n f := by obtain ⟨c, A, r⟩ := F; exact ⟨c, A.ext E, r⟩
theorem ArF.other {h h' : Heap} {a b : Addr} {ty : FieldType} {n : Nat} {f : Nat → Value} {sl : Nat} {v : Value} (F : ArF Z h b ty n f) (W : Wr h h' a sl v) (q : b ≠ a) : ArF Z h' b ty n f := by obtain ⟨c, A, r⟩ := F; exact ⟨c, A.other W q, r⟩
theorem ArF.keep {h h' : Heap} {a : Addr} {ty : FieldType} {n : Nat} {f : Nat → Value} {ws : List Addr} (F : ArF Z h a ty n f) (K : Keep h h' ws) (q : a ∉ ws) : ArF Z h' a ty n f := by obtain ⟨c, A, r⟩ := F; exact ⟨c, ⟨K.2.1 a c A.1 q, A.2⟩, r⟩
theorem ArF.set {h h' : Heap} {a : Addr} {ty : FieldType} {n : Nat} {f : Nat → Value} {j : Nat} {v : Value} (F : ArF Z h a ty n f) (W : Wr h h' a j v) : ArF Z h' a ty n (upd f j v) := by
  obtain ⟨c, A, r1, r2, r3⟩ := F
  refine ⟨_, A.same W, by rw [sz_set]; exact r1, r2, fun i hi => ?_⟩
  show (c.slots.setIfInBounds j v)[i]? = _
  rw [Array.getElem?_setIfInBounds]
  by_cases q : j = i
  · subst q; rw [if_pos rfl, if_pos (by omega), upd_at]
  · rw [if_neg q, upd_ne _ _ (fun w => q w.symm)]; exact r3 i hi
theorem ArF.congr {h : Heap} {a : Addr} {ty : FieldType} {n : Nat} {f g : Nat → Value} (F : ArF Z h a ty n f) (q : ∀ i, i < n → f i = g i) : ArF Z h a ty n g := by
  obtain ⟨c, A, r1, r2, r3⟩ := F
  exact ⟨c, A, r1, r2, fun i hi => by rw [← q i hi]; exact r3 i hi⟩
theorem ArF.n31 {h : Heap} {a : Addr} {ty : FieldType} {n : Nat} {f : Nat → Value} (F : ArF Z h a ty n f) : n < 2 ^ 31 := by obtain ⟨c, A, r1, r2, r3⟩ := F; exact r2
theorem own_ofN {n : Nat} (h : n < 2 ^ 31) : (Int32.ofNat n).toInt = n := Int32.toInt_ofNat_small h
theorem own_ofC {n : Nat} (h : n < 2 ^ 31) : (Int32.ofNat n).toNatClampNeg = n := by show (Int32.ofNat n).toInt.toNat = n; rw [own_ofN h]; rfl
theorem own_ltN {i n : Nat} (h : i < n) (hn : n < 2 ^ 31) : Int32.ofNat i < Int32.ofNat n := by rw [Int32.lt_iff_toInt_lt, own_ofN (by omega), own_ofN hn]; omega
theorem own_geN {i n : Nat} (h : ¬ i < n) (hn : i < 2 ^ 31) : ¬ Int32.ofNat i < Int32.ofNat n := by rw [Int32.lt_iff_toInt_lt, own_ofN hn, own_ofN (by omega)]; omega
theorem own_incN (i : Nat) : Int32.ofNat i + (1 : Int32) = Int32.ofNat (i + 1) := (Int32.ofNat_add i 1).symm
theorem own_nat {j : Int32} (h : 0 ≤ j.toInt) : (j.toNatClampNeg : Int) = j.toInt := Int.toNat_of_nonneg h
theorem own_natInj {i j : Int32} (hi : 0 ≤ i.toInt) (hj : 0 ≤ j.toInt) : i.toNatClampNeg = j.toNatClampNeg ↔ i = j := by
  constructor
  · intro q; have a := own_nat hi; have b := own_nat hj; exact Int32.toInt_inj.mp (by omega)
  · rintro rfl; rfl
theorem own_in {c : Cell} {n : Nat} {j : Int32} (S : c.slots.size = n) (h1 : 0 ≤ j.toInt) (h2 : j.toInt < n) : ¬ (j < 0 ∨ c.slots.size ≤ j.toNatClampNeg) := by
  have e : (j.toNatClampNeg : Int) = j.toInt := Int.toNat_of_nonneg h1
  rw [Int32.lt_iff_toInt_lt]
  have : (0 : Int32).toInt = 0 := rfl
  omega
theorem own_new {h h' : Heap} {k : ClassId} {ty : FieldType} {z : Int32} {a : Addr} (A : Arr Z h' a (newA k ty z) ty) (q : ¬ z < 0) : ArF Z h' a ty z.toNatClampNeg (fun _ => defaultValue ty) :=
  ⟨_, A, sz_new _ _ _, (back32 q).2, fun i hi => by simp [newA, hi]⟩
theorem own_ldI (X : Stand p l e R s m args below meth c T locs cells slots) (hx : p.tables.exec = Jvm.exec) (hZ : Z.Warmed39 s.vm) (eT : T.heap = h) {a : Addr} {n : Nat} {f : Nat → Value} (A : ArF Z h a .int n f) {j : Int32} (h1 : 0 ≤ j.toInt) (h2 : j.toInt < n) {v : Value} (hv : f j.toNatClampNeg = v)
    {g : JFrame} (hg : g.method = m) {rest : List Value} (hs : g.stack = .int j :: .ref a :: rest) (hd : decode c.code g.pc = .ok (.iaload, 1)) (target : State) (k : Steps p.tables e below (T.setTop { g with pc := g.pc + 1, stack := v :: rest }) target) : Steps p.tables e below (T.setTop g) target := by
  obtain ⟨cl, Ar, S, -, H⟩ := A
  exact X.iaload hx (j := j) (v := v) (by rw [eT]; exact Ar.1) (State.isArrayOf_alike hZ.alike Ar.2.1) Ar.2.2 (own_in S h1 h2) (by have e := Int.toNat_of_nonneg h1; rw [← hv]; exact H _ (by show j.toInt.toNat < n; omega)) hg hs hd _ k
theorem own_ldJ (X : Stand p l e R s m args below meth c T locs cells slots) (hx : p.tables.exec = Jvm.exec) (hZ : Z.Warmed39 s.vm) (eT : T.heap = h) {a : Addr} {n : Nat} {f : Nat → Value} (A : ArF Z h a .long n f) {j : Int32} (h1 : 0 ≤ j.toInt) (h2 : j.toInt < n) {v : Value} (hv : f j.toNatClampNeg = v)
    {g : JFrame} (hg : g.method = m) {rest : List Value} (hs : g.stack = .int j :: .ref a :: rest) (hd : decode c.code g.pc = .ok (.laload, 1)) (target : State) (k : Steps p.tables e below (T.setTop { g with pc := g.pc + 1, stack := v :: rest }) target) : Steps p.tables e below (T.setTop g) target := by
  obtain ⟨cl, Ar, S, -, H⟩ := A
  exact X.laload hx (j := j) (v := v) (by rw [eT]; exact Ar.1) (State.isArrayOf_alike hZ.alike Ar.2.1) Ar.2.2 (own_in S h1 h2) (by have e := Int.toNat_of_nonneg h1; rw [← hv]; exact H _ (by show j.toInt.toNat < n; omega)) hg hs hd _ k
theorem own_ldB (X : Stand p l e R s m args below meth c T locs cells slots) (hx : p.tables.exec = Jvm.exec) (hZ : Z.Warmed39 s.vm) (eT : T.heap = h) {a : Addr} {n : Nat} {f : Nat → Value} (A : ArF Z h a .byte n f) {j : Int32} (h1 : 0 ≤ j.toInt) (h2 : j.toInt < n) {v : Value} (hv : f j.toNatClampNeg = v)
    {g : JFrame} (hg : g.method = m) {rest : List Value} (hs : g.stack = .int j :: .ref a :: rest) (hd : decode c.code g.pc = .ok (.baload, 1)) (target : State) (k : Steps p.tables e below (T.setTop { g with pc := g.pc + 1, stack := v :: rest }) target) : Steps p.tables e below (T.setTop g) target := by
  obtain ⟨cl, Ar, S, -, H⟩ := A
  exact X.baloadBytes hx (j := j) (v := v) (by rw [eT]; exact Ar.1) (State.isArrayOf_alike hZ.alike Ar.2.1) Ar.2.2 (own_in S h1 h2) (by have e := Int.toNat_of_nonneg h1; rw [← hv]; exact H _ (by show j.toInt.toNat < n; omega)) hg hs hd _ k
theorem own_ldC (X : Stand p l e R s m args below meth c T locs cells slots) (hx : p.tables.exec = Jvm.exec) (hZ : Z.Warmed39 s.vm) (eT : T.heap = h) {a : Addr} {n : Nat} {f : Nat → Value} (A : ArF Z h a .char n f) {j : Int32} (h1 : 0 ≤ j.toInt) (h2 : j.toInt < n) {v : Value} (hv : f j.toNatClampNeg = v)
    {g : JFrame} (hg : g.method = m) {rest : List Value} (hs : g.stack = .int j :: .ref a :: rest) (hd : decode c.code g.pc = .ok (.caload, 1)) (target : State) (k : Steps p.tables e below (T.setTop { g with pc := g.pc + 1, stack := v :: rest }) target) : Steps p.tables e below (T.setTop g) target := by
  obtain ⟨cl, Ar, S, -, H⟩ := A
  exact X.caload hx (j := j) (v := v) (by rw [eT]; exact Ar.1) (State.isArrayOf_alike hZ.alike Ar.2.1) Ar.2.2 (own_in S h1 h2) (by have e := Int.toNat_of_nonneg h1; rw [← hv]; exact H _ (by show j.toInt.toNat < n; omega)) hg hs hd _ k
theorem own_len (X : Stand p l e R s m args below meth c T locs cells slots) (hx : p.tables.exec = Jvm.exec) (hZ : Z.Warmed39 s.vm) (eT : T.heap = h) {a : Addr} {ty : FieldType} {n : Nat} {f : Nat → Value} (A : ArF Z h a ty n f) {z : Int32} (hz : Int32.ofNat n = z)
    {g : JFrame} (hg : g.method = m) {rest : List Value} (hs : g.stack = .ref a :: rest) (hd : decode c.code g.pc = .ok (.arraylength, 1)) (target : State) (k : Steps p.tables e below (T.setTop { g with pc := g.pc + 1, stack := .int z :: rest }) target) : Steps p.tables e below (T.setTop g) target := by
  obtain ⟨cl, Ar, S, -, H⟩ := A
  refine X.arraylength hx (by rw [eT]; exact Ar.1) (State.isArrayOf_alike hZ.alike Ar.2.1) hg hs hd _ ?_
  rw [S]; rw [← hz] at k; exact k
theorem own_stI (X : Stand p l e R s m args below meth c T locs cells slots) (hx : p.tables.exec = Jvm.exec) (hZ : Z.Warmed39 s.vm) (eT : T.heap = h) {a : Addr} {n : Nat} {f : Nat → Value} (A : ArF Z h a .int n f) {j x : Int32} (h1 : 0 ≤ j.toInt) (h2 : j.toInt < n)
    {g : JFrame} (hg : g.method = m) {rest : List Value} (hs : g.stack = .int x :: .int j :: .ref a :: rest) (hd : decode c.code g.pc = .ok (.iastore, 1)) :
    ∃ T' h', Stand p l e R s m args below meth c T' (locs ++ [⟨a, j.toNatClampNeg⟩]) cells slots ∧ T'.heap = h' ∧ Wr h h' a j.toNatClampNeg (.int x) ∧ ∀ target, Steps p.tables e below (T'.setTop { g with pc := g.pc + 1, stack := rest }) target → Steps p.tables e below (T.setTop g) target := by
  obtain ⟨cl, Ar, S, -, H⟩ := A
  exact stI X hx hZ eT Ar (own_in S h1 h2) hg hs hd
theorem own_stJ (X : Stand p l e R s m args below meth c T locs cells slots) (hx : p.tables.exec = Jvm.exec) (hZ : Z.Warmed39 s.vm) (eT : T.heap = h) {a : Addr} {n : Nat} {f : Nat → Value} (A : ArF Z h a .long n f) {j : Int32} {x : Int64} (h1 : 0 ≤ j.toInt) (h2 : j.toInt < n)
    {g : JFrame} (hg : g.method = m) {rest : List Value} (hs : g.stack = .long x :: .int j :: .ref a :: rest) (hd : decode c.code g.pc = .ok (.lastore, 1)) :
    ∃ T' h', Stand p l e R s m args below meth c T' (locs ++ [⟨a, j.toNatClampNeg⟩]) cells slots ∧ T'.heap = h' ∧ Wr h h' a j.toNatClampNeg (.long x) ∧ ∀ target, Steps p.tables e below (T'.setTop { g with pc := g.pc + 1, stack := rest }) target → Steps p.tables e below (T.setTop g) target := by
  obtain ⟨cl, Ar, S, -, H⟩ := A
  exact stJ X hx hZ eT Ar (own_in S h1 h2) hg hs hd
/-- a boolean as an int -/
def bI (P : Prop) [Decidable P] : Int32 := if P then 1 else 0
theorem bI_z {P : Prop} [Decidable P] (h : ¬ P) : bI P = 0 := if_neg h
theorem bI_o {P : Prop} [Decidable P] (h : P) : bI P = 1 := if_pos h
theorem bI_ne {P : Prop} [Decidable P] (h : P) : ¬ bI P = 0 := by rw [bI_o h]; decide
theorem nar_b {P : Prop} [Decidable P] : nar .boolean (bI P) = bI P := by unfold bI; split <;> rfl
end OwnKit
section OwnFloats
open Jvm.FP Jvm.FP.Core
/-- a positive whole number below 2^53 as a double: its significand has 53 digits -/
theorem own_norm {n : Nat} (h1 : 0 < n) (h2 : n < 2 ^ 53) : ∃ j : Nat, j ≤ 52 ∧ 2 ^ 52 ≤ n * 2 ^ j ∧ n * 2 ^ j < 2 ^ 53 := by
  have a := Nat.log2_self_le (n := n) (by omega)
  have b := Nat.lt_log2_self (n := n)
  have c : n.log2 ≤ 52 := by
    refine Classical.byContradiction fun q => ?_
    have : 2 ^ 53 ≤ 2 ^ n.log2 := Nat.pow_le_pow_right (by decide) (by omega)
    omega
  refine ⟨52 - n.log2, by omega, ?_, ?_⟩
  · calc 2 ^ 52 = 2 ^ n.log2 * 2 ^ (52 - n.log2) := by rw [← Nat.pow_add]; congr 1; omega
      _ ≤ n * 2 ^ (52 - n.log2) := Nat.mul_le_mul_right _ a
  · calc n * 2 ^ (52 - n.log2) < 2 ^ (n.log2 + 1) * 2 ^ (52 - n.log2) := Nat.mul_lt_mul_of_pos_right b (Nat.pow_pos (by decide))
      _ = 2 ^ 53 := by rw [← Nat.pow_add]; congr 1; omega
theorem own_qmin : b64.qmin = -1074 := by decide
theorem own_qmax : b64.qmax = 971 := by decide
theorem own_tails : b64.tails = 2 ^ 52 := by decide +kernel
theorem own_fits {c : Nat} {q : Int} (h1 : c < 2 ^ 53) (h2 : -1074 ≤ q) (h3 : q ≤ 971) (h4 : q = -1074 ∨ 2 ^ 52 ≤ c) : Jvm.FP.Core.fits b64 (.fin false c q) :=
  ⟨h1, by rw [own_qmin]; exact h2, by rw [own_qmax]; exact h3, by rw [own_qmin, own_tails]; exact h4⟩
theorem own_l2d {x : Int64} {n j : Nat} (hx : x.toInt = n) (hj : j ≤ 52) (h1 : 2 ^ 52 ≤ n * 2 ^ j) (h2 : n * 2 ^ j < 2 ^ 53) : val64 (FP.Core.l2d x) = .fin false (n * 2 ^ j) (-(j : Int)) := by
  rw [val64_l2d, hx]
  show roundRatio b64 (decide ((n : Int) < 0)) (n : Int).natAbs 1 0 = _
  rw [show decide ((n : Int) < 0) = false from decide_eq_false (by omega), Int.natAbs_natCast]
  refine roundRatio_exact good_b64 (by decide) (own_fits h2 (by omega) (by omega) (Or.inr h1)) ?_
  rw [show (0 - -(j : Int)).toNat = j by omega, show (-(j : Int) - 0).toNat = 0 by omega]
  simp
theorem own_one : val64 1 = .fin false 1 (-1074) := by decide +kernel
theorem own_min : val64 (4503599627370496 : UInt64) = .fin false (2 ^ 52) (-1074) := by decide +kernel
theorem own_p1 {x : Int64} {n j : Nat} (hx : x.toInt = n) (hj : j ≤ 52) (h1 : 2 ^ 52 ≤ n * 2 ^ j) (h2 : n * 2 ^ j < 2 ^ 53) (hn : n < 2 ^ 53) : val64 (FP.Core.dmul (FP.Core.l2d x) 1) = .fin false n (-1074) := by
  rw [val64_dmul, own_l2d hx hj h1 h2, own_one]
  show roundRatio b64 (false != false) (n * 2 ^ j * 1) 1 (-(j : Int) + -1074) = _
  refine roundRatio_exact good_b64 (by decide) (own_fits hn (by omega) (by omega) (Or.inl rfl)) ?_
  rw [show (-(j : Int) + -1074 - -1074).toNat = 0 by omega, show (-1074 - (-(j : Int) + -1074)).toNat = j by omega]
  simp
theorem own_p2 {x : Int64} {n j : Nat} (hx : x.toInt = n) (hj : j ≤ 52) (h1 : 2 ^ 52 ≤ n * 2 ^ j) (h2 : n * 2 ^ j < 2 ^ 53) : val64 (FP.Core.dmul (FP.Core.l2d x) (4503599627370496 : UInt64)) = .fin false (n * 2 ^ j) (-(j : Int) + -1022) := by
  rw [val64_dmul, own_l2d hx hj h1 h2, own_min]
  show roundRatio b64 (false != false) (n * 2 ^ j * 2 ^ 52) 1 (-(j : Int) + -1074) = _
  refine roundRatio_exact good_b64 (by decide) (own_fits h2 (by omega) (by omega) (Or.inr h1)) ?_
  rw [show (-(j : Int) + -1074 - (-(j : Int) + -1022)).toNat = 0 by omega, show (-(j : Int) + -1022 - (-(j : Int) + -1074)).toNat = 52 by omega]
  simp
theorem own_cmp {a : UInt64} {c : Nat} {q : Int} (h : val64 a = .fin false c q) (hq : -1074 ≤ q) : FP.Core.dcmp a (4503599627370496 : UInt64) = some (compare ((c * 2 ^ (q + 1074).toNat : Nat) : Int) ((2 ^ 52 : Nat) : Int)) := by
  show order (val64 a) (val64 (4503599627370496 : UInt64)) = _
  rw [h, own_min]
  show some (compare (signed false (inUnits c q (min q (-1074)))) (signed false (inUnits (2 ^ 52) (-1074) (min q (-1074))))) = _
  rw [show min q (-1074) = -1074 by omega]
  unfold signed inUnits
  rw [show (q - -1074) = q + 1074 by omega, show ((-1074 : Int) - -1074).toNat = 0 by omega]
  simp
theorem own_big {a : UInt64} {c : Nat} {q : Int} (h : val64 a = .fin false c q) (hq : -1074 ≤ q) (hc : 2 ^ 52 ≤ c) : ¬ FP.Core.dcmp a (4503599627370496 : UInt64) = some .lt := by
  rw [own_cmp h hq]
  intro e
  have e := Option.some.inj e
  rw [Int.compare_eq_lt] at e
  have : c ≤ c * 2 ^ (q + 1074).toNat := Nat.le_mul_of_pos_right _ (Nat.pow_pos (by decide))
  omega
theorem own_small (x : Int64) (n : Nat) (hx : x.toInt = n) (hn : n < 2 ^ 53) : FP.Core.dcmp (FP.Core.dmul (FP.Core.l2d x) 1) (4503599627370496 : UInt64) = some .lt ↔ n < 2 ^ 52 := by
  by_cases z : n = 0
  · subst z
    have : x = 0 := Int64.toInt_inj.mp hx
    subst this
    have : FP.Core.dcmp (FP.Core.dmul (FP.Core.l2d 0) 1) (4503599627370496 : UInt64) = some .lt := by decide +kernel
    rw [this]; simp
  · obtain ⟨j, hj, h1, h2⟩ := own_norm (by omega) hn
    rw [own_cmp (own_p1 hx hj h1 h2 hn) (by omega), Option.some.injEq, Int.compare_eq_lt]
    rw [show ((-1074 : Int) + 1074).toNat = 0 by omega]
    omega
theorem own_norm2 (x : Int64) (n : Nat) (hx : x.toInt = n) (hn : n < 2 ^ 53) : FP.Core.dcmp (FP.Core.dmul (FP.Core.l2d x) (4503599627370496 : UInt64)) (4503599627370496 : UInt64) = some .lt ↔ n = 0 := by
  by_cases z : n = 0
  · subst z
    have : x = 0 := Int64.toInt_inj.mp hx
    subst this
    have : FP.Core.dcmp (FP.Core.dmul (FP.Core.l2d 0) (4503599627370496 : UInt64)) (4503599627370496 : UInt64) = some .lt := by decide +kernel
    rw [this]; simp
  · obtain ⟨j, hj, h1, h2⟩ := own_norm (by omega) hn
    exact ⟨fun q => absurd q (own_big (own_p2 hx hj h1 h2) (by omega) h1), fun q => absurd q z⟩
theorem own_plain (x : Int64) (n : Nat) (hx : x.toInt = n) (hn : n < 2 ^ 53) : FP.Core.dcmp (FP.Core.l2d x) (4503599627370496 : UInt64) = some .lt ↔ n = 0 := by
  by_cases z : n = 0
  · subst z
    have : x = 0 := Int64.toInt_inj.mp hx
    subst this
    have : FP.Core.dcmp (FP.Core.l2d 0) (4503599627370496 : UInt64) = some .lt := by decide +kernel
    rw [this]; simp
  · obtain ⟨j, hj, h1, h2⟩ := own_norm (by omega) hn
    exact ⟨fun q => absurd q (own_big (own_l2d hx hj h1 h2) (by omega) h1), fun q => absurd q z⟩
end OwnFloats
theorem own_lt {o : Option Ordering} (h : o = some .lt) : cmpValue o .g < 0 := by rw [h]; decide
theorem own_ge {o : Option Ordering} (h : ¬ o = some .lt) : ¬ cmpValue o .g < 0 := by rcases o with _ | (_ | _ | _) <;> first | decide | exact absurd rfl h
theorem own_pn0 : plainFor (⟨"org/eventropy/core/SmallProbabilities", "isSmall", "(D)Z"⟩ : MethodName) = true := by first | exact plainFor_of_name (by first | (simp [plainName, overriddenIn, x]; done) | decide +kernel) | decide +kernel
theorem ef_1 (m : MethodId) (q0 : UInt64) : entryFrame m #[(.double q0)] 2 = mkF m 0 #[.val (.double q0), .second] [] := by first | (simp [entryFrame, mkF, argsToLocals, Value.category, maxLocals]; done) | rfl
theorem d1_0 : decode prog_48_method_2_code 0 = .ok (.dload_n 0, 1) := by decide +kernel
theorem d1_1 : decode prog_48_method_2_code 1 = .ok (.ldc2_w 21, 3) := by decide +kernel
theorem d1_4 : decode prog_48_method_2_code 4 = .ok (.dcmp .g, 1) := by decide +kernel
theorem d1_5 : decode prog_48_method_2_code 5 = .ok (.ifCond .ge 7, 3) := by decide +kernel
theorem d1_8 : decode prog_48_method_2_code 8 = .ok (.iconst 1, 1) := by decide +kernel
theorem d1_9 : decode prog_48_method_2_code 9 = .ok (.goto 4, 3) := by decide +kernel
theorem d1_13 : decode prog_48_method_2_code 13 = .ok (.ireturn, 1) := by decide +kernel
theorem d1_12 : decode prog_48_method_2_code 12 = .ok (.iconst 0, 1) := by decide +kernel
set_option maxRecDepth 65536 in
set_option maxHeartbeats 40000000 in
theorem own_c1 (l : Launch) (Z : State) (a0 : Array Value) (hw : ∀ d ∈ tables_1, d.before a0 Z = true) (pr : UInt64) (h0 : Heap) :
    Con l Z (⟨"org/eventropy/core/SmallProbabilities", "isSmall", "(D)Z"⟩ : MethodName) prog_48_method_2_code 2 (some .boolean) [] ({ frames := 0, cells := 0, slots := 0, locals := 0 } : Room) 0 0 #[(.double pr)] h0 (fun r h L => r = some (.int (bI (FP.dcmp pr (4503599627370496 : UInt64) = some .lt))) ∧ h = h0 ∧ L = []) := by
  refine Con.of own_pn0 ?_
  intro pg ev s_ m bl mt cd s₁ hx hby hml hown hnm hret hlk hZ X0 e0
  rw [ef_1]
  show Gd _ _ _ _ (s₁.setTop (mkF m 0 #[.val (.double pr), .second] []))
  refine Gd.go (fun _ w_k => XS.dloadN X0.here hx rfl (hb hby d1_0) rfl w_k) ?_
  show Gd _ _ _ _ (s₁.setTop (mkF m 1 #[.val (.double pr), .second] [(.double pr)]))
  refine Gd.go (fun _ w_k => X0.ldc2DoubleC hx hown (mvT hZ (hw _ (List.mem_of_getElem? (i := 6) rfl))) (g := (mkF m 1 #[.val (.double pr), .second] [(.double pr)])) rfl (hb hby d1_1) _ w_k) ?_
  show Gd _ _ _ _ (s₁.setTop (mkF m 4 #[.val (.double pr), .second] [(.double (4503599627370496 : UInt64)), (.double pr)]))
  refine Gd.go (fun _ w_k => XS.dcmpS X0.here hx rfl (hb hby d1_4) rfl rfl w_k) ?_
  show Gd _ _ _ _ (s₁.setTop (mkF m 5 #[.val (.double pr), .second] [(.int (cmpValue (FP.dcmp pr (4503599627370496 : UInt64)) .g))]))
  by_cases hs : FP.dcmp pr (4503599627370496 : UInt64) = some .lt
  · refine Gd.go (fun _ w_k => XS.ifNo X0.here hx rfl (hb hby d1_5) rfl ((if0 _ _).trans (tlt (own_lt hs)).2.1) w_k) ?_
    show Gd _ _ _ _ (s₁.setTop (mkF m 8 #[.val (.double pr), .second] []))
    refine Gd.go (fun _ w_k => XS.iconst X0.here hx rfl (hb hby d1_8) w_k) ?_
    show Gd _ _ _ _ (s₁.setTop (mkF m 9 #[.val (.double pr), .second] [(.int (1 : Int32))]))
    refine Gd.go (fun _ w_k => XS.goto X0.here hx rfl (pc0 := 9) (pc' := 13) rfl (hb hby d1_9) (by decide) (by decide) w_k) ?_
    show Gd _ _ _ _ (s₁.setTop (mkF m 13 #[.val (.double pr), .second] [(.int (1 : Int32))]))
    refine own_retN (t := .boolean) X0 hx hret hlk (by simp) (hb hby d1_13) ?_ (by decide) (by decide)
    exact ⟨by rw [bI_o hs]; rfl, e0, rfl⟩
  · refine Gd.go (fun _ w_k => XS.ifYes X0.here hx rfl (pc0 := 5) (pc' := 12) rfl (hb hby d1_5) rfl ((if0 _ _).trans (flt (own_ge hs)).2.1) (by decide) (by decide) w_k) ?_
    show Gd _ _ _ _ (s₁.setTop (mkF m 12 #[.val (.double pr), .second] []))
    refine Gd.go (fun _ w_k => XS.iconst X0.here hx rfl (hb hby d1_12) w_k) ?_
    show Gd _ _ _ _ (s₁.setTop (mkF m 13 #[.val (.double pr), .second] [(.int (0 : Int32))]))
    refine own_retN (t := .boolean) X0 hx hret hlk (by simp) (hb hby d1_13) ?_ (by decide) (by decide)
    exact ⟨by rw [bI_z hs]; rfl, e0, rfl⟩
theorem own_pn1 : plainFor x = true := by first | exact plainFor_of_name (by first | (simp [plainName, overriddenIn, x]; done) | decide +kernel) | decide +kernel
theorem ef_0 (m : MethodId) (q0 : Int64) (q1 : Int32) : entryFrame m #[(.long q0), (.int q1)] maxLocals = mkF m 0 #[.val (.long q0), .second, .val (.int q1), .unset, .unset, .unset, .unset, .unset, .unset] [] := by first | (simp [entryFrame, mkF, argsToLocals, Value.category, maxLocals]; done) | rfl
theorem own_l52 {x : Int64} {n : Nat} (hx : x.toInt = n) : x < 4503599627370496 ↔ n < 2 ^ 52 := by rw [Int64.lt_iff_toInt_lt, hx]; have : (4503599627370496 : Int64).toInt = 4503599627370496 := rfl; omega
theorem own_z {x : Int64} {n : Nat} (hx : x.toInt = n) : x = 0 ↔ n = 0 := by rw [← Int64.toInt_inj, hx]; have : (0 : Int64).toInt = 0 := rfl; omega
theorem own_pd0 : parseMethodDescriptor "(D)Z" = some ⟨[.double], some .boolean⟩ := by decide +kernel
set_option maxRecDepth 65536 in
set_option maxHeartbeats 40000000 in
theorem own_law (l : Launch) (Z : State) (a0 : Array Value) (hw : ∀ d ∈ tables_1, d.before a0 Z = true) (xa : Int64) (md : Int32) (h0 : Heap) (n0 : Nat) :
    Con l Z x code maxLocals ret tables_1 room_1 0 0 #[(.long xa), (.int md)] h0 (fun v h L => v = some (.int 1) ∧ Fr n0 L) := by
  refine Con.of own_pn1 ?_
  intro pg ev s_ m bl mt cd s₁ hx hby hml hown hnm hret hlk hZ X0 e0
  rw [ef_0]
  show Gd _ _ _ _ (s₁.setTop (mkF m 0 #[.val (.long xa), .second, .val (.int md), .unset, .unset, .unset, .unset, .unset, .unset] []))
  refine Gd.go (fun _ w_k => XS.lloadN X0.here hx rfl (hb hby at_0) rfl w_k) ?_
  show Gd _ _ _ _ (s₁.setTop (mkF m 1 #[.val (.long xa), .second, .val (.int md), .unset, .unset, .unset, .unset, .unset, .unset] [(.long xa)]))
  refine Gd.go (fun _ w_k => X0.ldc2Long hx hown (mvT hZ (hw _ (List.mem_of_getElem? (i := 0) rfl))) (g := (mkF m 1 #[.val (.long xa), .second, .val (.int md), .unset, .unset, .unset, .unset, .unset, .unset] [(.long xa)])) rfl (hb hby at_1) _ w_k) ?_
  show Gd _ _ _ _ (s₁.setTop (mkF m 4 #[.val (.long xa), .second, .val (.int md), .unset, .unset, .unset, .unset, .unset, .unset] [(.long (9007199254740991 : Int64)), (.long xa)]))
  refine Gd.go (fun _ w_k => XS.land X0.here hx rfl (hb hby at_4) rfl w_k) ?_
  show Gd _ _ _ _ (s₁.setTop (mkF m 5 #[.val (.long xa), .second, .val (.int md), .unset, .unset, .unset, .unset, .unset, .unset] [(.long (xa &&& (9007199254740991 : Int64)))]))
  have hmk := c_maskL xa 9007199254740991 53 (by decide) (by decide +kernel)
  obtain ⟨n, hn⟩ : ∃ n : Nat, (n : Int) = (xa &&& (9007199254740991 : Int64)).toInt := ⟨(xa &&& (9007199254740991 : Int64)).toInt.toNat, by omega⟩
  have hx53 : n < 2 ^ 53 := by omega
  generalize (xa &&& (9007199254740991 : Int64)) = xn at hn ⊢
  have hxn := hn.symm
  show Gd _ _ _ _ (s₁.setTop (mkF m 5 #[.val (.long xa), .second, .val (.int md), .unset, .unset, .unset, .unset, .unset, .unset] [(.long xn)]))
  refine Gd.go (fun _ w_k => XS.lstoreN X0.here hx rfl (hb hby at_5) rfl (l' := #[.val (.long xa), .second, .val (.int md), .val (.long xn), .second, .unset, .unset, .unset, .unset]) rfl w_k) ?_
  show Gd _ _ _ _ (s₁.setTop (mkF m 6 #[.val (.long xa), .second, .val (.int md), .val (.long xn), .second, .unset, .unset, .unset, .unset] []))
  refine Gd.go (fun _ w_k => XS.iloadN X0.here hx rfl (hb hby at_6) rfl w_k) ?_
  show Gd _ _ _ _ (s₁.setTop (mkF m 7 #[.val (.long xa), .second, .val (.int md), .val (.long xn), .second, .unset, .unset, .unset, .unset] [(.int md)]))
  refine Gd.go (fun _ w_k => X0.ldcInt hx hown (mvT hZ (hw _ (List.mem_of_getElem? (i := 1) rfl))) (g := (mkF m 7 #[.val (.long xa), .second, .val (.int md), .val (.long xn), .second, .unset, .unset, .unset, .unset] [(.int md)])) rfl (hb hby at_7) _ w_k) ?_
  show Gd _ _ _ _ (s₁.setTop (mkF m 9 #[.val (.long xa), .second, .val (.int md), .val (.long xn), .second, .unset, .unset, .unset, .unset] [(.int (2147483647 : Int32)), (.int md)]))
  refine Gd.go (fun _ w_k => XS.iand X0.here hx rfl (hb hby at_9) rfl w_k) ?_
  show Gd _ _ _ _ (s₁.setTop (mkF m 10 #[.val (.long xa), .second, .val (.int md), .val (.long xn), .second, .unset, .unset, .unset, .unset] [(.int (md &&& (2147483647 : Int32)))]))
  refine Gd.go (fun _ w_k => XS.iconst X0.here hx rfl (hb hby at_10) w_k) ?_
  show Gd _ _ _ _ (s₁.setTop (mkF m 11 #[.val (.long xa), .second, .val (.int md), .val (.long xn), .second, .unset, .unset, .unset, .unset] [(.int (3 : Int32)), (.int (md &&& (2147483647 : Int32)))]))
  refine Gd.go (fun _ w_k => iremM (g := (mkF m 11 #[.val (.long xa), .second, .val (.int md), .val (.long xn), .second, .unset, .unset, .unset, .unset] [(.int (3 : Int32)), (.int (md &&& (2147483647 : Int32)))])) X0 hx rfl (hb hby at_11) rfl (by decide) w_k) ?_
  show Gd _ _ _ _ (s₁.setTop (mkF m 12 #[.val (.long xa), .second, .val (.int md), .val (.long xn), .second, .unset, .unset, .unset, .unset] [(.int ((md &&& (2147483647 : Int32)) % (3 : Int32)))]))
  generalize ((md &&& (2147483647 : Int32)) % (3 : Int32)) = k
  show Gd _ _ _ _ (s₁.setTop (mkF m 12 #[.val (.long xa), .second, .val (.int md), .val (.long xn), .second, .unset, .unset, .unset, .unset] [(.int k)]))
  refine Gd.go (fun _ w_k => XS.istore X0.here hx rfl (hb hby at_12) rfl (l' := #[.val (.long xa), .second, .val (.int md), .val (.long xn), .second, .val (.int k), .unset, .unset, .unset]) rfl w_k) ?_
  show Gd _ _ _ _ (s₁.setTop (mkF m 14 #[.val (.long xa), .second, .val (.int md), .val (.long xn), .second, .val (.int k), .unset, .unset, .unset] []))
  refine Gd.go (fun _ w_k => XS.iload X0.here hx rfl (hb hby at_14) rfl w_k) ?_
  show Gd _ _ _ _ (s₁.setTop (mkF m 16 #[.val (.long xa), .second, .val (.int md), .val (.long xn), .second, .val (.int k), .unset, .unset, .unset] [(.int k)]))
  by_cases hc1 : k = (0 : Int32)
  · refine Gd.go (fun _ w_k => XS.ifNo X0.here hx rfl (hb hby at_16) rfl ((if0 _ _).trans (teq hc1).2) w_k) ?_
    show Gd _ _ _ _ (s₁.setTop (mkF m 19 #[.val (.long xa), .second, .val (.int md), .val (.long xn), .second, .val (.int k), .unset, .unset, .unset] []))
    refine Gd.go (fun _ w_k => XS.lloadN X0.here hx rfl (hb hby at_19) rfl w_k) ?_
    show Gd _ _ _ _ (s₁.setTop (mkF m 20 #[.val (.long xa), .second, .val (.int md), .val (.long xn), .second, .val (.int k), .unset, .unset, .unset] [(.long xn)]))
    refine Gd.go (fun _ w_k => XS.l2dS X0.here hx rfl (hb hby at_20) rfl rfl w_k) ?_
    show Gd _ _ _ _ (s₁.setTop (mkF m 21 #[.val (.long xa), .second, .val (.int md), .val (.long xn), .second, .val (.int k), .unset, .unset, .unset] [(.double (FP.l2d xn))]))
    refine Gd.go (fun _ w_k => X0.ldc2DoubleC hx hown (mvT hZ (hw _ (List.mem_of_getElem? (i := 8) rfl))) (g := (mkF m 21 #[.val (.long xa), .second, .val (.int md), .val (.long xn), .second, .val (.int k), .unset, .unset, .unset] [(.double (FP.l2d xn))])) rfl (hb hby at_21) _ w_k) ?_
    show Gd _ _ _ _ (s₁.setTop (mkF m 24 #[.val (.long xa), .second, .val (.int md), .val (.long xn), .second, .val (.int k), .unset, .unset, .unset] [(.double (1 : UInt64)), (.double (FP.l2d xn))]))
    refine Gd.go (fun _ w_k => XS.dmulS X0.here hx rfl (hb hby at_24) rfl (Jvm.Free.Fl.dmul_out (Jvm.Free.Fl.l2d_fin _) (by unfold Jvm.Free.Fl.Fin64; decide +kernel)) rfl w_k) ?_
    show Gd _ _ _ _ (s₁.setTop (mkF m 25 #[.val (.long xa), .second, .val (.int md), .val (.long xn), .second, .val (.int k), .unset, .unset, .unset] [(.double (FP.dmul (FP.l2d xn) (1 : UInt64)))]))
    refine Gd.go (fun _ w_k => XS.dstore X0.here hx rfl (hb hby at_25) rfl (l' := #[.val (.long xa), .second, .val (.int md), .val (.long xn), .second, .val (.int k), .val (.double (FP.dmul (FP.l2d xn) (1 : UInt64))), .second, .unset]) rfl w_k) ?_
    show Gd _ _ _ _ (s₁.setTop (mkF m 27 #[.val (.long xa), .second, .val (.int md), .val (.long xn), .second, .val (.int k), .val (.double (FP.dmul (FP.l2d xn) (1 : UInt64))), .second, .unset] []))
    refine Gd.go (fun _ w_k => XS.lloadN X0.here hx rfl (hb hby at_27) rfl w_k) ?_
    show Gd _ _ _ _ (s₁.setTop (mkF m 28 #[.val (.long xa), .second, .val (.int md), .val (.long xn), .second, .val (.int k), .val (.double (FP.dmul (FP.l2d xn) (1 : UInt64))), .second, .unset] [(.long xn)]))
    refine Gd.go (fun _ w_k => X0.ldc2Long hx hown (mvT hZ (hw _ (List.mem_of_getElem? (i := 9) rfl))) (g := (mkF m 28 #[.val (.long xa), .second, .val (.int md), .val (.long xn), .second, .val (.int k), .val (.double (FP.dmul (FP.l2d xn) (1 : UInt64))), .second, .unset] [(.long xn)])) rfl (hb hby at_28) _ w_k) ?_
    show Gd _ _ _ _ (s₁.setTop (mkF m 31 #[.val (.long xa), .second, .val (.int md), .val (.long xn), .second, .val (.int k), .val (.double (FP.dmul (FP.l2d xn) (1 : UInt64))), .second, .unset] [(.long (4503599627370496 : Int64)), (.long xn)]))
    refine Gd.go (fun _ w_k => XS.lcmp X0.here hx rfl (hb hby at_31) rfl w_k) ?_
    show Gd _ _ _ _ (s₁.setTop (mkF m 32 #[.val (.long xa), .second, .val (.int md), .val (.long xn), .second, .val (.int k), .val (.double (FP.dmul (FP.l2d xn) (1 : UInt64))), .second, .unset] [(.int (lcmpW xn (4503599627370496 : Int64)))]))
    by_cases hc2 : xn < (4503599627370496 : Int64)
    · refine Gd.go (fun _ w_k => XS.ifNo X0.here hx rfl (hb hby at_32) rfl ((if0 _ _).trans (tlt ((lw_lt _ _).mpr hc2)).2.1) w_k) ?_
      show Gd _ _ _ _ (s₁.setTop (mkF m 35 #[.val (.long xa), .second, .val (.int md), .val (.long xn), .second, .val (.int k), .val (.double (FP.dmul (FP.l2d xn) (1 : UInt64))), .second, .unset] []))
      refine Gd.go (fun _ w_k => XS.iconst X0.here hx rfl (hb hby at_35) w_k) ?_
      show Gd _ _ _ _ (s₁.setTop (mkF m 36 #[.val (.long xa), .second, .val (.int md), .val (.long xn), .second, .val (.int k), .val (.double (FP.dmul (FP.l2d xn) (1 : UInt64))), .second, .unset] [(.int (1 : Int32))]))
      refine Gd.go (fun _ w_k => XS.goto X0.here hx rfl (pc0 := 36) (pc' := 40) rfl (hb hby at_36) (by decide) (by decide) w_k) ?_
      show Gd _ _ _ _ (s₁.setTop (mkF m 40 #[.val (.long xa), .second, .val (.int md), .val (.long xn), .second, .val (.int k), .val (.double (FP.dmul (FP.l2d xn) (1 : UInt64))), .second, .unset] [(.int (1 : Int32))]))
      refine Gd.go (fun _ w_k => XS.istore X0.here hx rfl (hb hby at_40) rfl (l' := #[.val (.long xa), .second, .val (.int md), .val (.long xn), .second, .val (.int k), .val (.double (FP.dmul (FP.l2d xn) (1 : UInt64))), .second, .val (.int (1 : Int32))]) rfl w_k) ?_
      show Gd _ _ _ _ (s₁.setTop (mkF m 42 #[.val (.long xa), .second, .val (.int md), .val (.long xn), .second, .val (.int k), .val (.double (FP.dmul (FP.l2d xn) (1 : UInt64))), .second, .val (.int (1 : Int32))] []))
      refine Gd.go (fun _ w_k => XS.goto X0.here hx rfl (pc0 := 42) (pc' := 92) rfl (hb hby at_42) (by decide) (by decide) w_k) ?_
      show Gd _ _ _ _ (s₁.setTop (mkF m 92 #[.val (.long xa), .second, .val (.int md), .val (.long xn), .second, .val (.int k), .val (.double (FP.dmul (FP.l2d xn) (1 : UInt64))), .second, .val (.int (1 : Int32))] []))
      refine Gd.go (fun _ w_k => XS.dload X0.here hx rfl (hb hby at_92) rfl w_k) ?_
      show Gd _ _ _ _ (s₁.setTop (mkF m 94 #[.val (.long xa), .second, .val (.int md), .val (.long xn), .second, .val (.int k), .val (.double (FP.dmul (FP.l2d xn) (1 : UInt64))), .second, .val (.int (1 : Int32))] [(.double (FP.dmul (FP.l2d xn) (1 : UInt64)))]))
      obtain ⟨T3, X3, e3, st3⟩ := own_callSP X0 hx hZ (y := (⟨"org/eventropy/core/SmallProbabilities", "isSmall", "(D)Z"⟩ : MethodName)) hown (hw _ (List.mem_of_getElem? (i := 2) rfl)) (hw _ (List.mem_of_getElem? (i := 3) rfl)) (hw _ (List.mem_of_getElem? (i := 4) rfl)) (hw _ (List.mem_of_getElem? (i := 5) rfl)) (by decide) (W := 0) (own_c1 l Z a0 hw (FP.dmul (FP.l2d xn) (1 : UInt64)) h0) rfl rfl e0 (by decide) (by decide) (g := (mkF m 94 #[.val (.long xa), .second, .val (.int md), .val (.long xn), .second, .val (.int k), .val (.double (FP.dmul (FP.l2d xn) (1 : UInt64))), .second, .val (.int (1 : Int32))] [(.double (FP.dmul (FP.l2d xn) (1 : UInt64)))])) rfl (by rw [hml]; rfl) (argsL := [(.double (FP.dmul (FP.l2d xn) (1 : UInt64)))]) (rest := []) (lenOf own_pd0 rfl) rfl (Nat.le_of_eq rfl) (hb hby at_94) rfl
      refine Gd.go (fun _ w_k => st3 _ w_k) ?_
      show Gd _ _ _ _ (T3.setTop (mkF m 97 #[.val (.long xa), .second, .val (.int md), .val (.long xn), .second, .val (.int k), .val (.double (FP.dmul (FP.l2d xn) (1 : UInt64))), .second, .val (.int (1 : Int32))] [(.int (bI (FP.dcmp (FP.dmul (FP.l2d xn) (1 : UInt64)) (4503599627370496 : UInt64) = some .lt)))]))
      refine Gd.go (fun _ w_k => XS.iload X3.here hx rfl (hb hby at_97) rfl w_k) ?_
      show Gd _ _ _ _ (T3.setTop (mkF m 99 #[.val (.long xa), .second, .val (.int md), .val (.long xn), .second, .val (.int k), .val (.double (FP.dmul (FP.l2d xn) (1 : UInt64))), .second, .val (.int (1 : Int32))] [(.int (1 : Int32)), (.int (bI (FP.dcmp (FP.dmul (FP.l2d xn) (1 : UInt64)) (4503599627370496 : UInt64) = some .lt)))]))
      refine Gd.go (fun _ w_k => XS.icmpNo X3.here hx rfl (hb hby at_99) rfl (teq (bI_o (((own_small _ n hxn hx53).trans (own_l52 hxn).symm).mpr hc2))).2 w_k) ?_
      show Gd _ _ _ _ (T3.setTop (mkF m 102 #[.val (.long xa), .second, .val (.int md), .val (.long xn), .second, .val (.int k), .val (.double (FP.dmul (FP.l2d xn) (1 : UInt64))), .second, .val (.int (1 : Int32))] []))
      refine Gd.go (fun _ w_k => XS.iconst X3.here hx rfl (hb hby at_102) w_k) ?_
      show Gd _ _ _ _ (T3.setTop (mkF m 103 #[.val (.long xa), .second, .val (.int md), .val (.long xn), .second, .val (.int k), .val (.double (FP.dmul (FP.l2d xn) (1 : UInt64))), .second, .val (.int (1 : Int32))] [(.int (1 : Int32))]))
      refine Gd.go (fun _ w_k => XS.goto X3.here hx rfl (pc0 := 103) (pc' := 107) rfl (hb hby at_103) (by decide) (by decide) w_k) ?_
      show Gd _ _ _ _ (T3.setTop (mkF m 107 #[.val (.long xa), .second, .val (.int md), .val (.long xn), .second, .val (.int k), .val (.double (FP.dmul (FP.l2d xn) (1 : UInt64))), .second, .val (.int (1 : Int32))] [(.int (1 : Int32))]))
      refine own_retN (t := .boolean) X3 hx hret hlk (by simp) (hb hby at_107) ?_ (by decide) (by decide)
      exact ⟨rfl, Fr.nil n0⟩
    · refine Gd.go (fun _ w_k => XS.ifYes X0.here hx rfl (pc0 := 32) (pc' := 39) rfl (hb hby at_32) rfl ((if0 _ _).trans (flt (fun q => hc2 ((lw_lt _ _).mp q))).2.1) (by decide) (by decide) w_k) ?_
      show Gd _ _ _ _ (s₁.setTop (mkF m 39 #[.val (.long xa), .second, .val (.int md), .val (.long xn), .second, .val (.int k), .val (.double (FP.dmul (FP.l2d xn) (1 : UInt64))), .second, .unset] []))
      refine Gd.go (fun _ w_k => XS.iconst X0.here hx rfl (hb hby at_39) w_k) ?_
      show Gd _ _ _ _ (s₁.setTop (mkF m 40 #[.val (.long xa), .second, .val (.int md), .val (.long xn), .second, .val (.int k), .val (.double (FP.dmul (FP.l2d xn) (1 : UInt64))), .second, .unset] [(.int (0 : Int32))]))
      refine Gd.go (fun _ w_k => XS.istore X0.here hx rfl (hb hby at_40) rfl (l' := #[.val (.long xa), .second, .val (.int md), .val (.long xn), .second, .val (.int k), .val (.double (FP.dmul (FP.l2d xn) (1 : UInt64))), .second, .val (.int (0 : Int32))]) rfl w_k) ?_
      show Gd _ _ _ _ (s₁.setTop (mkF m 42 #[.val (.long xa), .second, .val (.int md), .val (.long xn), .second, .val (.int k), .val (.double (FP.dmul (FP.l2d xn) (1 : UInt64))), .second, .val (.int (0 : Int32))] []))
      refine Gd.go (fun _ w_k => XS.goto X0.here hx rfl (pc0 := 42) (pc' := 92) rfl (hb hby at_42) (by decide) (by decide) w_k) ?_
      show Gd _ _ _ _ (s₁.setTop (mkF m 92 #[.val (.long xa), .second, .val (.int md), .val (.long xn), .second, .val (.int k), .val (.double (FP.dmul (FP.l2d xn) (1 : UInt64))), .second, .val (.int (0 : Int32))] []))
      refine Gd.go (fun _ w_k => XS.dload X0.here hx rfl (hb hby at_92) rfl w_k) ?_
      show Gd _ _ _ _ (s₁.setTop (mkF m 94 #[.val (.long xa), .second, .val (.int md), .val (.long xn), .second, .val (.int k), .val (.double (FP.dmul (FP.l2d xn) (1 : UInt64))), .second, .val (.int (0 : Int32))] [(.double (FP.dmul (FP.l2d xn) (1 : UInt64)))]))
      obtain ⟨T4, X4, e4, st4⟩ := own_callSP X0 hx hZ (y := (⟨"org/eventropy/core/SmallProbabilities", "isSmall", "(D)Z"⟩ : MethodName)) hown (hw _ (List.mem_of_getElem? (i := 2) rfl)) (hw _ (List.mem_of_getElem? (i := 3) rfl)) (hw _ (List.mem_of_getElem? (i := 4) rfl)) (hw _ (List.mem_of_getElem? (i := 5) rfl)) (by decide) (W := 0) (own_c1 l Z a0 hw (FP.dmul (FP.l2d xn) (1 : UInt64)) h0) rfl rfl e0 (by decide) (by decide) (g := (mkF m 94 #[.val (.long xa), .second, .val (.int md), .val (.long xn), .second, .val (.int k), .val (.double (FP.dmul (FP.l2d xn) (1 : UInt64))), .second, .val (.int (0 : Int32))] [(.double (FP.dmul (FP.l2d xn) (1 : UInt64)))])) rfl (by rw [hml]; rfl) (argsL := [(.double (FP.dmul (FP.l2d xn) (1 : UInt64)))]) (rest := []) (lenOf own_pd0 rfl) rfl (Nat.le_of_eq rfl) (hb hby at_94) rfl
      refine Gd.go (fun _ w_k => st4 _ w_k) ?_
      show Gd _ _ _ _ (T4.setTop (mkF m 97 #[.val (.long xa), .second, .val (.int md), .val (.long xn), .second, .val (.int k), .val (.double (FP.dmul (FP.l2d xn) (1 : UInt64))), .second, .val (.int (0 : Int32))] [(.int (bI (FP.dcmp (FP.dmul (FP.l2d xn) (1 : UInt64)) (4503599627370496 : UInt64) = some .lt)))]))
      refine Gd.go (fun _ w_k => XS.iload X4.here hx rfl (hb hby at_97) rfl w_k) ?_
      show Gd _ _ _ _ (T4.setTop (mkF m 99 #[.val (.long xa), .second, .val (.int md), .val (.long xn), .second, .val (.int k), .val (.double (FP.dmul (FP.l2d xn) (1 : UInt64))), .second, .val (.int (0 : Int32))] [(.int (0 : Int32)), (.int (bI (FP.dcmp (FP.dmul (FP.l2d xn) (1 : UInt64)) (4503599627370496 : UInt64) = some .lt)))]))
      refine Gd.go (fun _ w_k => XS.icmpNo X4.here hx rfl (hb hby at_99) rfl (teq (bI_z (fun q => hc2 (((own_small _ n hxn hx53).trans (own_l52 hxn).symm).mp q)))).2 w_k) ?_
      show Gd _ _ _ _ (T4.setTop (mkF m 102 #[.val (.long xa), .second, .val (.int md), .val (.long xn), .second, .val (.int k), .val (.double (FP.dmul (FP.l2d xn) (1 : UInt64))), .second, .val (.int (0 : Int32))] []))
      refine Gd.go (fun _ w_k => XS.iconst X4.here hx rfl (hb hby at_102) w_k) ?_
      show Gd _ _ _ _ (T4.setTop (mkF m 103 #[.val (.long xa), .second, .val (.int md), .val (.long xn), .second, .val (.int k), .val (.double (FP.dmul (FP.l2d xn) (1 : UInt64))), .second, .val (.int (0 : Int32))] [(.int (1 : Int32))]))
      refine Gd.go (fun _ w_k => XS.goto X4.here hx rfl (pc0 := 103) (pc' := 107) rfl (hb hby at_103) (by decide) (by decide) w_k) ?_
      show Gd _ _ _ _ (T4.setTop (mkF m 107 #[.val (.long xa), .second, .val (.int md), .val (.long xn), .second, .val (.int k), .val (.double (FP.dmul (FP.l2d xn) (1 : UInt64))), .second, .val (.int (0 : Int32))] [(.int (1 : Int32))]))
      refine own_retN (t := .boolean) X4 hx hret hlk (by simp) (hb hby at_107) ?_ (by decide) (by decide)
      exact ⟨rfl, Fr.nil n0⟩
  · refine Gd.go (fun _ w_k => XS.ifYes X0.here hx rfl (pc0 := 16) (pc' := 45) rfl (hb hby at_16) rfl ((if0 _ _).trans (feq hc1).2) (by decide) (by decide) w_k) ?_
    show Gd _ _ _ _ (s₁.setTop (mkF m 45 #[.val (.long xa), .second, .val (.int md), .val (.long xn), .second, .val (.int k), .unset, .unset, .unset] []))
    refine Gd.go (fun _ w_k => XS.iload X0.here hx rfl (hb hby at_45) rfl w_k) ?_
    show Gd _ _ _ _ (s₁.setTop (mkF m 47 #[.val (.long xa), .second, .val (.int md), .val (.long xn), .second, .val (.int k), .unset, .unset, .unset] [(.int k)]))
    refine Gd.go (fun _ w_k => XS.iconst X0.here hx rfl (hb hby at_47) w_k) ?_
    show Gd _ _ _ _ (s₁.setTop (mkF m 48 #[.val (.long xa), .second, .val (.int md), .val (.long xn), .second, .val (.int k), .unset, .unset, .unset] [(.int (1 : Int32)), (.int k)]))
    by_cases hc5 : k = (1 : Int32)
    · refine Gd.go (fun _ w_k => XS.icmpNo X0.here hx rfl (hb hby at_48) rfl (teq hc5).2 w_k) ?_
      show Gd _ _ _ _ (s₁.setTop (mkF m 51 #[.val (.long xa), .second, .val (.int md), .val (.long xn), .second, .val (.int k), .unset, .unset, .unset] []))
      refine Gd.go (fun _ w_k => XS.lloadN X0.here hx rfl (hb hby at_51) rfl w_k) ?_
      show Gd _ _ _ _ (s₁.setTop (mkF m 52 #[.val (.long xa), .second, .val (.int md), .val (.long xn), .second, .val (.int k), .unset, .unset, .unset] [(.long xn)]))
      refine Gd.go (fun _ w_k => XS.l2dS X0.here hx rfl (hb hby at_52) rfl rfl w_k) ?_
      show Gd _ _ _ _ (s₁.setTop (mkF m 53 #[.val (.long xa), .second, .val (.int md), .val (.long xn), .second, .val (.int k), .unset, .unset, .unset] [(.double (FP.l2d xn))]))
      refine Gd.go (fun _ w_k => X0.ldc2DoubleC hx hown (mvT hZ (hw _ (List.mem_of_getElem? (i := 7) rfl))) (g := (mkF m 53 #[.val (.long xa), .second, .val (.int md), .val (.long xn), .second, .val (.int k), .unset, .unset, .unset] [(.double (FP.l2d xn))])) rfl (hb hby at_53) _ w_k) ?_
      show Gd _ _ _ _ (s₁.setTop (mkF m 56 #[.val (.long xa), .second, .val (.int md), .val (.long xn), .second, .val (.int k), .unset, .unset, .unset] [(.double (4503599627370496 : UInt64)), (.double (FP.l2d xn))]))
      refine Gd.go (fun _ w_k => XS.dmulS X0.here hx rfl (hb hby at_56) rfl (Jvm.Free.Fl.dmul_out (Jvm.Free.Fl.l2d_fin _) (by unfold Jvm.Free.Fl.Fin64; decide +kernel)) rfl w_k) ?_
      show Gd _ _ _ _ (s₁.setTop (mkF m 57 #[.val (.long xa), .second, .val (.int md), .val (.long xn), .second, .val (.int k), .unset, .unset, .unset] [(.double (FP.dmul (FP.l2d xn) (4503599627370496 : UInt64)))]))
      refine Gd.go (fun _ w_k => XS.dstore X0.here hx rfl (hb hby at_57) rfl (l' := #[.val (.long xa), .second, .val (.int md), .val (.long xn), .second, .val (.int k), .val (.double (FP.dmul (FP.l2d xn) (4503599627370496 : UInt64))), .second, .unset]) rfl w_k) ?_
      show Gd _ _ _ _ (s₁.setTop (mkF m 59 #[.val (.long xa), .second, .val (.int md), .val (.long xn), .second, .val (.int k), .val (.double (FP.dmul (FP.l2d xn) (4503599627370496 : UInt64))), .second, .unset] []))
      refine Gd.go (fun _ w_k => XS.lloadN X0.here hx rfl (hb hby at_59) rfl w_k) ?_
      show Gd _ _ _ _ (s₁.setTop (mkF m 60 #[.val (.long xa), .second, .val (.int md), .val (.long xn), .second, .val (.int k), .val (.double (FP.dmul (FP.l2d xn) (4503599627370496 : UInt64))), .second, .unset] [(.long xn)]))
      refine Gd.go (fun _ w_k => XS.lconst X0.here hx rfl (hb hby at_60) w_k) ?_
      show Gd _ _ _ _ (s₁.setTop (mkF m 61 #[.val (.long xa), .second, .val (.int md), .val (.long xn), .second, .val (.int k), .val (.double (FP.dmul (FP.l2d xn) (4503599627370496 : UInt64))), .second, .unset] [(.long (0 : Int64)), (.long xn)]))
      refine Gd.go (fun _ w_k => XS.lcmp X0.here hx rfl (hb hby at_61) rfl w_k) ?_
      show Gd _ _ _ _ (s₁.setTop (mkF m 62 #[.val (.long xa), .second, .val (.int md), .val (.long xn), .second, .val (.int k), .val (.double (FP.dmul (FP.l2d xn) (4503599627370496 : UInt64))), .second, .unset] [(.int (lcmpW xn (0 : Int64)))]))
      by_cases hc6 : xn = (0 : Int64)
      · refine Gd.go (fun _ w_k => XS.ifNo X0.here hx rfl (hb hby at_62) rfl ((if0 _ _).trans (teq ((lw_eq _ _).mpr hc6)).2) w_k) ?_
        show Gd _ _ _ _ (s₁.setTop (mkF m 65 #[.val (.long xa), .second, .val (.int md), .val (.long xn), .second, .val (.int k), .val (.double (FP.dmul (FP.l2d xn) (4503599627370496 : UInt64))), .second, .unset] []))
        refine Gd.go (fun _ w_k => XS.iconst X0.here hx rfl (hb hby at_65) w_k) ?_
        show Gd _ _ _ _ (s₁.setTop (mkF m 66 #[.val (.long xa), .second, .val (.int md), .val (.long xn), .second, .val (.int k), .val (.double (FP.dmul (FP.l2d xn) (4503599627370496 : UInt64))), .second, .unset] [(.int (1 : Int32))]))
        refine Gd.go (fun _ w_k => XS.goto X0.here hx rfl (pc0 := 66) (pc' := 70) rfl (hb hby at_66) (by decide) (by decide) w_k) ?_
        show Gd _ _ _ _ (s₁.setTop (mkF m 70 #[.val (.long xa), .second, .val (.int md), .val (.long xn), .second, .val (.int k), .val (.double (FP.dmul (FP.l2d xn) (4503599627370496 : UInt64))), .second, .unset] [(.int (1 : Int32))]))
        refine Gd.go (fun _ w_k => XS.istore X0.here hx rfl (hb hby at_70) rfl (l' := #[.val (.long xa), .second, .val (.int md), .val (.long xn), .second, .val (.int k), .val (.double (FP.dmul (FP.l2d xn) (4503599627370496 : UInt64))), .second, .val (.int (1 : Int32))]) rfl w_k) ?_
        show Gd _ _ _ _ (s₁.setTop (mkF m 72 #[.val (.long xa), .second, .val (.int md), .val (.long xn), .second, .val (.int k), .val (.double (FP.dmul (FP.l2d xn) (4503599627370496 : UInt64))), .second, .val (.int (1 : Int32))] []))
        refine Gd.go (fun _ w_k => XS.goto X0.here hx rfl (pc0 := 72) (pc' := 92) rfl (hb hby at_72) (by decide) (by decide) w_k) ?_
        show Gd _ _ _ _ (s₁.setTop (mkF m 92 #[.val (.long xa), .second, .val (.int md), .val (.long xn), .second, .val (.int k), .val (.double (FP.dmul (FP.l2d xn) (4503599627370496 : UInt64))), .second, .val (.int (1 : Int32))] []))
        refine Gd.go (fun _ w_k => XS.dload X0.here hx rfl (hb hby at_92) rfl w_k) ?_
        show Gd _ _ _ _ (s₁.setTop (mkF m 94 #[.val (.long xa), .second, .val (.int md), .val (.long xn), .second, .val (.int k), .val (.double (FP.dmul (FP.l2d xn) (4503599627370496 : UInt64))), .second, .val (.int (1 : Int32))] [(.double (FP.dmul (FP.l2d xn) (4503599627370496 : UInt64)))]))
        obtain ⟨T7, X7, e7, st7⟩ := own_callSP X0 hx hZ (y := (⟨"org/eventropy/core/SmallProbabilities", "isSmall", "(D)Z"⟩ : MethodName)) hown (hw _ (List.mem_of_getElem? (i := 2) rfl)) (hw _ (List.mem_of_getElem? (i := 3) rfl)) (hw _ (List.mem_of_getElem? (i := 4) rfl)) (hw _ (List.mem_of_getElem? (i := 5) rfl)) (by decide) (W := 0) (own_c1 l Z a0 hw (FP.dmul (FP.l2d xn) (4503599627370496 : UInt64)) h0) rfl rfl e0 (by decide) (by decide) (g := (mkF m 94 #[.val (.long xa), .second, .val (.int md), .val (.long xn), .second, .val (.int k), .val (.double (FP.dmul (FP.l2d xn) (4503599627370496 : UInt64))), .second, .val (.int (1 : Int32))] [(.double (FP.dmul (FP.l2d xn) (4503599627370496 : UInt64)))])) rfl (by rw [hml]; rfl) (argsL := [(.double (FP.dmul (FP.l2d xn) (4503599627370496 : UInt64)))]) (rest := []) (lenOf own_pd0 rfl) rfl (Nat.le_of_eq rfl) (hb hby at_94) rfl
        refine Gd.go (fun _ w_k => st7 _ w_k) ?_
        show Gd _ _ _ _ (T7.setTop (mkF m 97 #[.val (.long xa), .second, .val (.int md), .val (.long xn), .second, .val (.int k), .val (.double (FP.dmul (FP.l2d xn) (4503599627370496 : UInt64))), .second, .val (.int (1 : Int32))] [(.int (bI (FP.dcmp (FP.dmul (FP.l2d xn) (4503599627370496 : UInt64)) (4503599627370496 : UInt64) = some .lt)))]))
        refine Gd.go (fun _ w_k => XS.iload X7.here hx rfl (hb hby at_97) rfl w_k) ?_
        show Gd _ _ _ _ (T7.setTop (mkF m 99 #[.val (.long xa), .second, .val (.int md), .val (.long xn), .second, .val (.int k), .val (.double (FP.dmul (FP.l2d xn) (4503599627370496 : UInt64))), .second, .val (.int (1 : Int32))] [(.int (1 : Int32)), (.int (bI (FP.dcmp (FP.dmul (FP.l2d xn) (4503599627370496 : UInt64)) (4503599627370496 : UInt64) = some .lt)))]))
        refine Gd.go (fun _ w_k => XS.icmpNo X7.here hx rfl (hb hby at_99) rfl (teq (bI_o (((own_norm2 _ n hxn hx53).trans (own_z hxn).symm).mpr hc6))).2 w_k) ?_
        show Gd _ _ _ _ (T7.setTop (mkF m 102 #[.val (.long xa), .second, .val (.int md), .val (.long xn), .second, .val (.int k), .val (.double (FP.dmul (FP.l2d xn) (4503599627370496 : UInt64))), .second, .val (.int (1 : Int32))] []))
        refine Gd.go (fun _ w_k => XS.iconst X7.here hx rfl (hb hby at_102) w_k) ?_
        show Gd _ _ _ _ (T7.setTop (mkF m 103 #[.val (.long xa), .second, .val (.int md), .val (.long xn), .second, .val (.int k), .val (.double (FP.dmul (FP.l2d xn) (4503599627370496 : UInt64))), .second, .val (.int (1 : Int32))] [(.int (1 : Int32))]))
        refine Gd.go (fun _ w_k => XS.goto X7.here hx rfl (pc0 := 103) (pc' := 107) rfl (hb hby at_103) (by decide) (by decide) w_k) ?_
        show Gd _ _ _ _ (T7.setTop (mkF m 107 #[.val (.long xa), .second, .val (.int md), .val (.long xn), .second, .val (.int k), .val (.double (FP.dmul (FP.l2d xn) (4503599627370496 : UInt64))), .second, .val (.int (1 : Int32))] [(.int (1 : Int32))]))
        refine own_retN (t := .boolean) X7 hx hret hlk (by simp) (hb hby at_107) ?_ (by decide) (by decide)
        exact ⟨rfl, Fr.nil n0⟩
      · refine Gd.go (fun _ w_k => XS.ifYes X0.here hx rfl (pc0 := 62) (pc' := 69) rfl (hb hby at_62) rfl ((if0 _ _).trans (feq (fun q => hc6 ((lw_eq _ _).mp q))).2) (by decide) (by decide) w_k) ?_
        show Gd _ _ _ _ (s₁.setTop (mkF m 69 #[.val (.long xa), .second, .val (.int md), .val (.long xn), .second, .val (.int k), .val (.double (FP.dmul (FP.l2d xn) (4503599627370496 : UInt64))), .second, .unset] []))
        refine Gd.go (fun _ w_k => XS.iconst X0.here hx rfl (hb hby at_69) w_k) ?_
        show Gd _ _ _ _ (s₁.setTop (mkF m 70 #[.val (.long xa), .second, .val (.int md), .val (.long xn), .second, .val (.int k), .val (.double (FP.dmul (FP.l2d xn) (4503599627370496 : UInt64))), .second, .unset] [(.int (0 : Int32))]))
        refine Gd.go (fun _ w_k => XS.istore X0.here hx rfl (hb hby at_70) rfl (l' := #[.val (.long xa), .second, .val (.int md), .val (.long xn), .second, .val (.int k), .val (.double (FP.dmul (FP.l2d xn) (4503599627370496 : UInt64))), .second, .val (.int (0 : Int32))]) rfl w_k) ?_
        show Gd _ _ _ _ (s₁.setTop (mkF m 72 #[.val (.long xa), .second, .val (.int md), .val (.long xn), .second, .val (.int k), .val (.double (FP.dmul (FP.l2d xn) (4503599627370496 : UInt64))), .second, .val (.int (0 : Int32))] []))
        refine Gd.go (fun _ w_k => XS.goto X0.here hx rfl (pc0 := 72) (pc' := 92) rfl (hb hby at_72) (by decide) (by decide) w_k) ?_
        show Gd _ _ _ _ (s₁.setTop (mkF m 92 #[.val (.long xa), .second, .val (.int md), .val (.long xn), .second, .val (.int k), .val (.double (FP.dmul (FP.l2d xn) (4503599627370496 : UInt64))), .second, .val (.int (0 : Int32))] []))
        refine Gd.go (fun _ w_k => XS.dload X0.here hx rfl (hb hby at_92) rfl w_k) ?_
        show Gd _ _ _ _ (s₁.setTop (mkF m 94 #[.val (.long xa), .second, .val (.int md), .val (.long xn), .second, .val (.int k), .val (.double (FP.dmul (FP.l2d xn) (4503599627370496 : UInt64))), .second, .val (.int (0 : Int32))] [(.double (FP.dmul (FP.l2d xn) (4503599627370496 : UInt64)))]))
        obtain ⟨T8, X8, e8, st8⟩ := own_callSP X0 hx hZ (y := (⟨"org/eventropy/core/SmallProbabilities", "isSmall", "(D)Z"⟩ : MethodName)) hown (hw _ (List.mem_of_getElem? (i := 2) rfl)) (hw _ (List.mem_of_getElem? (i := 3) rfl)) (hw _ (List.mem_of_getElem? (i := 4) rfl)) (hw _ (List.mem_of_getElem? (i := 5) rfl)) (by decide) (W := 0) (own_c1 l Z a0 hw (FP.dmul (FP.l2d xn) (4503599627370496 : UInt64)) h0) rfl rfl e0 (by decide) (by decide) (g := (mkF m 94 #[.val (.long xa), .second, .val (.int md), .val (.long xn), .second, .val (.int k), .val (.double (FP.dmul (FP.l2d xn) (4503599627370496 : UInt64))), .second, .val (.int (0 : Int32))] [(.double (FP.dmul (FP.l2d xn) (4503599627370496 : UInt64)))])) rfl (by rw [hml]; rfl) (argsL := [(.double (FP.dmul (FP.l2d xn) (4503599627370496 : UInt64)))]) (rest := []) (lenOf own_pd0 rfl) rfl (Nat.le_of_eq rfl) (hb hby at_94) rfl
        refine Gd.go (fun _ w_k => st8 _ w_k) ?_
        show Gd _ _ _ _ (T8.setTop (mkF m 97 #[.val (.long xa), .second, .val (.int md), .val (.long xn), .second, .val (.int k), .val (.double (FP.dmul (FP.l2d xn) (4503599627370496 : UInt64))), .second, .val (.int (0 : Int32))] [(.int (bI (FP.dcmp (FP.dmul (FP.l2d xn) (4503599627370496 : UInt64)) (4503599627370496 : UInt64) = some .lt)))]))
        refine Gd.go (fun _ w_k => XS.iload X8.here hx rfl (hb hby at_97) rfl w_k) ?_
        show Gd _ _ _ _ (T8.setTop (mkF m 99 #[.val (.long xa), .second, .val (.int md), .val (.long xn), .second, .val (.int k), .val (.double (FP.dmul (FP.l2d xn) (4503599627370496 : UInt64))), .second, .val (.int (0 : Int32))] [(.int (0 : Int32)), (.int (bI (FP.dcmp (FP.dmul (FP.l2d xn) (4503599627370496 : UInt64)) (4503599627370496 : UInt64) = some .lt)))]))
        refine Gd.go (fun _ w_k => XS.icmpNo X8.here hx rfl (hb hby at_99) rfl (teq (bI_z (fun q => hc6 (((own_norm2 _ n hxn hx53).trans (own_z hxn).symm).mp q)))).2 w_k) ?_
        show Gd _ _ _ _ (T8.setTop (mkF m 102 #[.val (.long xa), .second, .val (.int md), .val (.long xn), .second, .val (.int k), .val (.double (FP.dmul (FP.l2d xn) (4503599627370496 : UInt64))), .second, .val (.int (0 : Int32))] []))
        refine Gd.go (fun _ w_k => XS.iconst X8.here hx rfl (hb hby at_102) w_k) ?_
        show Gd _ _ _ _ (T8.setTop (mkF m 103 #[.val (.long xa), .second, .val (.int md), .val (.long xn), .second, .val (.int k), .val (.double (FP.dmul (FP.l2d xn) (4503599627370496 : UInt64))), .second, .val (.int (0 : Int32))] [(.int (1 : Int32))]))
        refine Gd.go (fun _ w_k => XS.goto X8.here hx rfl (pc0 := 103) (pc' := 107) rfl (hb hby at_103) (by decide) (by decide) w_k) ?_
        show Gd _ _ _ _ (T8.setTop (mkF m 107 #[.val (.long xa), .second, .val (.int md), .val (.long xn), .second, .val (.int k), .val (.double (FP.dmul (FP.l2d xn) (4503599627370496 : UInt64))), .second, .val (.int (0 : Int32))] [(.int (1 : Int32))]))
        refine own_retN (t := .boolean) X8 hx hret hlk (by simp) (hb hby at_107) ?_ (by decide) (by decide)
        exact ⟨rfl, Fr.nil n0⟩
    · refine Gd.go (fun _ w_k => XS.icmpYes X0.here hx rfl (pc0 := 48) (pc' := 75) rfl (hb hby at_48) rfl (feq hc5).2 (by decide) (by decide) w_k) ?_
      show Gd _ _ _ _ (s₁.setTop (mkF m 75 #[.val (.long xa), .second, .val (.int md), .val (.long xn), .second, .val (.int k), .unset, .unset, .unset] []))
      refine Gd.go (fun _ w_k => XS.lloadN X0.here hx rfl (hb hby at_75) rfl w_k) ?_
      show Gd _ _ _ _ (s₁.setTop (mkF m 76 #[.val (.long xa), .second, .val (.int md), .val (.long xn), .second, .val (.int k), .unset, .unset, .unset] [(.long xn)]))
      refine Gd.go (fun _ w_k => XS.l2dS X0.here hx rfl (hb hby at_76) rfl rfl w_k) ?_
      show Gd _ _ _ _ (s₁.setTop (mkF m 77 #[.val (.long xa), .second, .val (.int md), .val (.long xn), .second, .val (.int k), .unset, .unset, .unset] [(.double (FP.l2d xn))]))
      refine Gd.go (fun _ w_k => XS.dstore X0.here hx rfl (hb hby at_77) rfl (l' := #[.val (.long xa), .second, .val (.int md), .val (.long xn), .second, .val (.int k), .val (.double (FP.l2d xn)), .second, .unset]) rfl w_k) ?_
      show Gd _ _ _ _ (s₁.setTop (mkF m 79 #[.val (.long xa), .second, .val (.int md), .val (.long xn), .second, .val (.int k), .val (.double (FP.l2d xn)), .second, .unset] []))
      refine Gd.go (fun _ w_k => XS.lloadN X0.here hx rfl (hb hby at_79) rfl w_k) ?_
      show Gd _ _ _ _ (s₁.setTop (mkF m 80 #[.val (.long xa), .second, .val (.int md), .val (.long xn), .second, .val (.int k), .val (.double (FP.l2d xn)), .second, .unset] [(.long xn)]))
      refine Gd.go (fun _ w_k => XS.lconst X0.here hx rfl (hb hby at_80) w_k) ?_
      show Gd _ _ _ _ (s₁.setTop (mkF m 81 #[.val (.long xa), .second, .val (.int md), .val (.long xn), .second, .val (.int k), .val (.double (FP.l2d xn)), .second, .unset] [(.long (0 : Int64)), (.long xn)]))
      refine Gd.go (fun _ w_k => XS.lcmp X0.here hx rfl (hb hby at_81) rfl w_k) ?_
      show Gd _ _ _ _ (s₁.setTop (mkF m 82 #[.val (.long xa), .second, .val (.int md), .val (.long xn), .second, .val (.int k), .val (.double (FP.l2d xn)), .second, .unset] [(.int (lcmpW xn (0 : Int64)))]))
      by_cases hc9 : xn = (0 : Int64)
      · refine Gd.go (fun _ w_k => XS.ifNo X0.here hx rfl (hb hby at_82) rfl ((if0 _ _).trans (teq ((lw_eq _ _).mpr hc9)).2) w_k) ?_
        show Gd _ _ _ _ (s₁.setTop (mkF m 85 #[.val (.long xa), .second, .val (.int md), .val (.long xn), .second, .val (.int k), .val (.double (FP.l2d xn)), .second, .unset] []))
        refine Gd.go (fun _ w_k => XS.iconst X0.here hx rfl (hb hby at_85) w_k) ?_
        show Gd _ _ _ _ (s₁.setTop (mkF m 86 #[.val (.long xa), .second, .val (.int md), .val (.long xn), .second, .val (.int k), .val (.double (FP.l2d xn)), .second, .unset] [(.int (1 : Int32))]))
        refine Gd.go (fun _ w_k => XS.goto X0.here hx rfl (pc0 := 86) (pc' := 90) rfl (hb hby at_86) (by decide) (by decide) w_k) ?_
        show Gd _ _ _ _ (s₁.setTop (mkF m 90 #[.val (.long xa), .second, .val (.int md), .val (.long xn), .second, .val (.int k), .val (.double (FP.l2d xn)), .second, .unset] [(.int (1 : Int32))]))
        refine Gd.go (fun _ w_k => XS.istore X0.here hx rfl (hb hby at_90) rfl (l' := #[.val (.long xa), .second, .val (.int md), .val (.long xn), .second, .val (.int k), .val (.double (FP.l2d xn)), .second, .val (.int (1 : Int32))]) rfl w_k) ?_
        show Gd _ _ _ _ (s₁.setTop (mkF m 92 #[.val (.long xa), .second, .val (.int md), .val (.long xn), .second, .val (.int k), .val (.double (FP.l2d xn)), .second, .val (.int (1 : Int32))] []))
        refine Gd.go (fun _ w_k => XS.dload X0.here hx rfl (hb hby at_92) rfl w_k) ?_
        show Gd _ _ _ _ (s₁.setTop (mkF m 94 #[.val (.long xa), .second, .val (.int md), .val (.long xn), .second, .val (.int k), .val (.double (FP.l2d xn)), .second, .val (.int (1 : Int32))] [(.double (FP.l2d xn))]))
        obtain ⟨T10, X10, e10, st10⟩ := own_callSP X0 hx hZ (y := (⟨"org/eventropy/core/SmallProbabilities", "isSmall", "(D)Z"⟩ : MethodName)) hown (hw _ (List.mem_of_getElem? (i := 2) rfl)) (hw _ (List.mem_of_getElem? (i := 3) rfl)) (hw _ (List.mem_of_getElem? (i := 4) rfl)) (hw _ (List.mem_of_getElem? (i := 5) rfl)) (by decide) (W := 0) (own_c1 l Z a0 hw (FP.l2d xn) h0) rfl rfl e0 (by decide) (by decide) (g := (mkF m 94 #[.val (.long xa), .second, .val (.int md), .val (.long xn), .second, .val (.int k), .val (.double (FP.l2d xn)), .second, .val (.int (1 : Int32))] [(.double (FP.l2d xn))])) rfl (by rw [hml]; rfl) (argsL := [(.double (FP.l2d xn))]) (rest := []) (lenOf own_pd0 rfl) rfl (Nat.le_of_eq rfl) (hb hby at_94) rfl
        refine Gd.go (fun _ w_k => st10 _ w_k) ?_
        show Gd _ _ _ _ (T10.setTop (mkF m 97 #[.val (.long xa), .second, .val (.int md), .val (.long xn), .second, .val (.int k), .val (.double (FP.l2d xn)), .second, .val (.int (1 : Int32))] [(.int (bI (FP.dcmp (FP.l2d xn) (4503599627370496 : UInt64) = some .lt)))]))
        refine Gd.go (fun _ w_k => XS.iload X10.here hx rfl (hb hby at_97) rfl w_k) ?_
        show Gd _ _ _ _ (T10.setTop (mkF m 99 #[.val (.long xa), .second, .val (.int md), .val (.long xn), .second, .val (.int k), .val (.double (FP.l2d xn)), .second, .val (.int (1 : Int32))] [(.int (1 : Int32)), (.int (bI (FP.dcmp (FP.l2d xn) (4503599627370496 : UInt64) = some .lt)))]))
        refine Gd.go (fun _ w_k => XS.icmpNo X10.here hx rfl (hb hby at_99) rfl (teq (bI_o (((own_plain _ n hxn hx53).trans (own_z hxn).symm).mpr hc9))).2 w_k) ?_
        show Gd _ _ _ _ (T10.setTop (mkF m 102 #[.val (.long xa), .second, .val (.int md), .val (.long xn), .second, .val (.int k), .val (.double (FP.l2d xn)), .second, .val (.int (1 : Int32))] []))
        refine Gd.go (fun _ w_k => XS.iconst X10.here hx rfl (hb hby at_102) w_k) ?_
        show Gd _ _ _ _ (T10.setTop (mkF m 103 #[.val (.long xa), .second, .val (.int md), .val (.long xn), .second, .val (.int k), .val (.double (FP.l2d xn)), .second, .val (.int (1 : Int32))] [(.int (1 : Int32))]))
        refine Gd.go (fun _ w_k => XS.goto X10.here hx rfl (pc0 := 103) (pc' := 107) rfl (hb hby at_103) (by decide) (by decide) w_k) ?_
        show Gd _ _ _ _ (T10.setTop (mkF m 107 #[.val (.long xa), .second, .val (.int md), .val (.long xn), .second, .val (.int k), .val (.double (FP.l2d xn)), .second, .val (.int (1 : Int32))] [(.int (1 : Int32))]))
        refine own_retN (t := .boolean) X10 hx hret hlk (by simp) (hb hby at_107) ?_ (by decide) (by decide)
        exact ⟨rfl, Fr.nil n0⟩
      · refine Gd.go (fun _ w_k => XS.ifYes X0.here hx rfl (pc0 := 82) (pc' := 89) rfl (hb hby at_82) rfl ((if0 _ _).trans (feq (fun q => hc9 ((lw_eq _ _).mp q))).2) (by decide) (by decide) w_k) ?_
        show Gd _ _ _ _ (s₁.setTop (mkF m 89 #[.val (.long xa), .second, .val (.int md), .val (.long xn), .second, .val (.int k), .val (.double (FP.l2d xn)), .second, .unset] []))
        refine Gd.go (fun _ w_k => XS.iconst X0.here hx rfl (hb hby at_89) w_k) ?_
        show Gd _ _ _ _ (s₁.setTop (mkF m 90 #[.val (.long xa), .second, .val (.int md), .val (.long xn), .second, .val (.int k), .val (.double (FP.l2d xn)), .second, .unset] [(.int (0 : Int32))]))
        refine Gd.go (fun _ w_k => XS.istore X0.here hx rfl (hb hby at_90) rfl (l' := #[.val (.long xa), .second, .val (.int md), .val (.long xn), .second, .val (.int k), .val (.double (FP.l2d xn)), .second, .val (.int (0 : Int32))]) rfl w_k) ?_
        show Gd _ _ _ _ (s₁.setTop (mkF m 92 #[.val (.long xa), .second, .val (.int md), .val (.long xn), .second, .val (.int k), .val (.double (FP.l2d xn)), .second, .val (.int (0 : Int32))] []))
        refine Gd.go (fun _ w_k => XS.dload X0.here hx rfl (hb hby at_92) rfl w_k) ?_
        show Gd _ _ _ _ (s₁.setTop (mkF m 94 #[.val (.long xa), .second, .val (.int md), .val (.long xn), .second, .val (.int k), .val (.double (FP.l2d xn)), .second, .val (.int (0 : Int32))] [(.double (FP.l2d xn))]))
        obtain ⟨T11, X11, e11, st11⟩ := own_callSP X0 hx hZ (y := (⟨"org/eventropy/core/SmallProbabilities", "isSmall", "(D)Z"⟩ : MethodName)) hown (hw _ (List.mem_of_getElem? (i := 2) rfl)) (hw _ (List.mem_of_getElem? (i := 3) rfl)) (hw _ (List.mem_of_getElem? (i := 4) rfl)) (hw _ (List.mem_of_getElem? (i := 5) rfl)) (by decide) (W := 0) (own_c1 l Z a0 hw (FP.l2d xn) h0) rfl rfl e0 (by decide) (by decide) (g := (mkF m 94 #[.val (.long xa), .second, .val (.int md), .val (.long xn), .second, .val (.int k), .val (.double (FP.l2d xn)), .second, .val (.int (0 : Int32))] [(.double (FP.l2d xn))])) rfl (by rw [hml]; rfl) (argsL := [(.double (FP.l2d xn))]) (rest := []) (lenOf own_pd0 rfl) rfl (Nat.le_of_eq rfl) (hb hby at_94) rfl
        refine Gd.go (fun _ w_k => st11 _ w_k) ?_
        show Gd _ _ _ _ (T11.setTop (mkF m 97 #[.val (.long xa), .second, .val (.int md), .val (.long xn), .second, .val (.int k), .val (.double (FP.l2d xn)), .second, .val (.int (0 : Int32))] [(.int (bI (FP.dcmp (FP.l2d xn) (4503599627370496 : UInt64) = some .lt)))]))
        refine Gd.go (fun _ w_k => XS.iload X11.here hx rfl (hb hby at_97) rfl w_k) ?_
        show Gd _ _ _ _ (T11.setTop (mkF m 99 #[.val (.long xa), .second, .val (.int md), .val (.long xn), .second, .val (.int k), .val (.double (FP.l2d xn)), .second, .val (.int (0 : Int32))] [(.int (0 : Int32)), (.int (bI (FP.dcmp (FP.l2d xn) (4503599627370496 : UInt64) = some .lt)))]))
        refine Gd.go (fun _ w_k => XS.icmpNo X11.here hx rfl (hb hby at_99) rfl (teq (bI_z (fun q => hc9 (((own_plain _ n hxn hx53).trans (own_z hxn).symm).mp q)))).2 w_k) ?_
        show Gd _ _ _ _ (T11.setTop (mkF m 102 #[.val (.long xa), .second, .val (.int md), .val (.long xn), .second, .val (.int k), .val (.double (FP.l2d xn)), .second, .val (.int (0 : Int32))] []))
        refine Gd.go (fun _ w_k => XS.iconst X11.here hx rfl (hb hby at_102) w_k) ?_
        show Gd _ _ _ _ (T11.setTop (mkF m 103 #[.val (.long xa), .second, .val (.int md), .val (.long xn), .second, .val (.int k), .val (.double (FP.l2d xn)), .second, .val (.int (0 : Int32))] [(.int (1 : Int32))]))
        refine Gd.go (fun _ w_k => XS.goto X11.here hx rfl (pc0 := 103) (pc' := 107) rfl (hb hby at_103) (by decide) (by decide) w_k) ?_
        show Gd _ _ _ _ (T11.setTop (mkF m 107 #[.val (.long xa), .second, .val (.int md), .val (.long xn), .second, .val (.int k), .val (.double (FP.l2d xn)), .second, .val (.int (0 : Int32))] [(.int (1 : Int32))]))
        refine own_retN (t := .boolean) X11 hx hret hlk (by simp) (hb hby at_107) ?_ (by decide) (by decide)
        exact ⟨rfl, Fr.nil n0⟩
set_option maxRecDepth 65536 in
set_option maxHeartbeats 40000000 in
theorem comes_1 {Post : Tables → Env → Array Value → State → Outcome → State → Prop} (hpost : ∀ tb e args s v u, (limb_1_1.after args s (.returned v) u = true ∧ limb_1_2.after args s (.returned v) u = true ∧ True) → FrameEnd s (.returned v) u (Jvm.fieldLocs frame_1_writes args s ++ Jvm.arrayLocs frame_1_arrays args s ++ Jvm.staticLocs frame_1_statics s) 0 0 → Post tb e args s (.returned v) u) :
    ArmFor flags0 classFile x code maxLocals ret World_1 tables_1 room_1 Calls_1 rest_1 Pre_1 Post := by
  intro l hfl _ _ p e ha hc hk s m args below hf hA hF happ hP
  obtain ⟨hcalls, hrest, hpre⟩ := hP
  obtain ⟨-, -, -, hnamed, -, -, -, hat⟩ := (Spec.applies_iff hf).mp happ
  obtain ⟨hg, hn⟩ := and_e (Cond.before_iff.mp (show (Jvm.Cond.and given_1 narrow_1).before args s = true from hpre))
  obtain ⟨h1, g0⟩ := and_e hg
  obtain ⟨k0, g1⟩ := and_e g0
  obtain ⟨w0, w1, rfl⟩ : ∃ w0 w1 : Value, args = #[w0, w1] := by
    have hs : args.size = 2 := by simpa [Cond.value, given_1] using h1
    obtain ⟨L⟩ := args
    match L, hs with
    | [w0, w1], _ => exact ⟨w0, w1, rfl⟩
  have hw := fun d (hd : d ∈ tables_1) => atoms_spec (ws := Jvm.Cond.code x code maxLocals ret :: tables_1) hat d (List.mem_cons_of_mem _ hd)
  have hfit : Fit s := fun {y c} hc i hi => by
    obtain ⟨ha, rfl⟩ := Array.getElem?_eq_some_iff.mp hc
    have q := List.all_eq_true.mp ((Array.all_eq_true_iff_forall_mem.mp hF) _ (Array.getElem_mem ha)) i (List.mem_range.mpr hi)
    simpa [Array.getElem?_eq_getElem hi] using q
  obtain ⟨i0, e0⟩ := isL_v k0
  obtain rfl : w0 = (.long i0) := Option.some.inj e0
  obtain ⟨i1, e1⟩ := is_v g1
  obtain rfl : w1 = (.int i1) := Option.some.inj e1
  obtain ⟨n, o, h1, h2, h3, _, L, rfl, ⟨rfl, N⟩, hq⟩ := own_law l s _ hw i0 i1 s.heap s.heap.size p e ha hc hk s m _ below hf ((Spec.applies_iff_loose hf).mp happ).1 ⟨rfl, State.Warmed39.refl s, rfl⟩ trivial
  refine ⟨n, _, h1, h2, h3, hpost _ _ _ _ _ _ ⟨Cond.after_iff.mpr rfl, Cond.after_iff.mpr (eq_i res_at (Term.int_eval (1)) rfl), trivial⟩ ⟨hq.1, hq.2.1, (hq.2.2.sift fun y hy => Or.inr (N y hy)).mono (by decide) (by decide)⟩⟩
theorem main_1_1 : Claimed_1_1 := comes_1 fun _ _ _ _ _ _ h hF => ⟨h.1, hF⟩
theorem main_1_2 : Claimed_1_2 := comes_1 fun _ _ _ _ _ _ h hF => ⟨h.2.1, hF⟩
end Jvm.Pilot.@@N@@
namespace Jvm.Pilot.@@N@@
open Jvm Jvm.ClassFile Sem Op Lib Jvm.Free Jvm.Stand Jvm.Pilot.@@N@@.Jvm.D
/-! MADE BY PROGRAM (witnessworld.py) out of the Statement's table words and the real class files: 9 classes; the members and pool entries that the words name. The judged class is class 1, her method 1. -/
namespace start1
open Jvm.ClassFile
def u (s : String) : CpInfo := .utf8 (stringToUtf16 s)
/-- a pool by its gaps: so many unusable entries, then the entry; so many at the end -/
def gap : Nat → List CpInfo → List CpInfo
  | 0, r => r
  | n + 1, r => .unusable :: gap n r
def poolList (es : List (Nat × CpInfo)) (last : Nat) : List CpInfo := es.foldr (fun e r => gap e.1 (e.2 :: r)) (gap last [])
def pool (es : List (Nat × CpInfo)) (last : Nat) : Array CpInfo := ⟨poolList es last⟩
def fileOf (pool : Array CpInfo) (this : Nat) (attrs : Array Attribute := #[]) (ms : Array MethodInfo := #[]) (fl : Nat := 33) (sup : Nat := 0) (ifs : Array Nat := #[]) (fds : Array FieldInfo := #[]) : ClassFile where
  minorVersion := 0
  majorVersion := 65
  constantPool := pool
  accessFlags := fl
  thisClass := this
  superClass := sup
  interfaces := ifs
  fields := fds
  methods := ms
  attributes := attrs
def plain (name : String) (sup : Option ClassId) : Class where
  name := name
  kind := .ordinary
  loader := none
  accessFlags := 33
  super := sup
  interfaces := #[]
  cf := none
  fields := #[]
  methods := #[]
  instanceTypes := #[]
  staticTypes := #[]
  resolved := #[]
  callSites := []
  init := .initialized
  statics := none
  mirror := none

def pool0 : Array CpInfo := pool [(5, u "<init>"), (0, u "()V"), (1, .class_ 10), (1, u "java/lang/Object")] 113

def k0m0 : Method := { name := "<init>", desc := "()V", sig := { parameters := [], returnType := none }, accessFlags := 1, code := none }
/-- java/lang/Object -/
def k0 : Class := { plain "java/lang/Object" none with
  accessFlags := 33
  interfaces := #[]
  cf := some (fileOf pool0 8 #[] #[{ accessFlags := 1, nameIndex := 5, descriptorIndex := 6, attributes := #[] }] 33 0 #[] #[])
  fields := #[]
  methods := #[k0m0]
  instanceTypes := #[]
  staticTypes := #[]
  resolved := Array.replicate 124 none
  statics := none }

def pool1 : Array CpInfo := pool [(2, .class_ 4), (1, u "java/lang/Object"), (0, u "<init>"), (0, u "()V"), (0, .long 9007199254740991), (1, .integer 2147483647), (2, .double 1), (1, .long 4503599627370496), (1, .double 4503599627370496), (1, .methodref 19 20), (0, .class_ 21), (0, .nameAndType 22 23), (0, u "org/eventropy/core/SmallProbabilities"), (0, u "isSmall"), (0, u "(D)Z"), (0, .class_ 25), (0, u "org/eventropy/core/SmallProbabilitiesIsSmallPinLaw"), (2, u "law"), (0, u "(JI)Z")] 3

def k1m0 : Method := { name := "<init>", desc := "()V", sig := { parameters := [], returnType := none }, accessFlags := 1, code := none }
def k1c1 : Code := { maxStack := 4, maxLocals := 9, code := code, exceptionTable := #[], attributes := #[] }
def k1m1 : Method := { name := "law", desc := "(JI)Z", sig := { parameters := [.long, .int], returnType := some .boolean }, accessFlags := 9, code := some k1c1 }
/-- org/eventropy/core/SmallProbabilitiesIsSmallPinLaw -/
def k1 : Class := { plain "org/eventropy/core/SmallProbabilitiesIsSmallPinLaw" (some 0) with
  accessFlags := 49
  interfaces := #[]
  cf := some (fileOf pool1 24 #[] #[{ accessFlags := 1, nameIndex := 5, descriptorIndex := 6, attributes := #[] }, { accessFlags := 9, nameIndex := 28, descriptorIndex := 29, attributes := #[] }] 49 2 #[] #[])
  fields := #[]
  methods := #[k1m0, k1m1]
  instanceTypes := #[]
  staticTypes := #[]
  resolved := Array.replicate 33 none
  statics := none }

def pool2 : Array CpInfo := pool [(2, .class_ 4), (1, u "java/lang/Object"), (0, u "<init>"), (0, u "()V"), (0, .class_ 8), (0, u "org/eventropy/core/SmallProbabilities$Keyed"), (2, .class_ 13), (1, u "org/eventropy/core/SmallProbabilities"), (0, u "transitions"), (0, u "Lorg/eventropy/core/SmallProbabilities$Keyed;"), (2, u "endings"), (2, .double 4503599627370496), (19, u "isSmall"), (0, u "(D)Z")] 16

def k2m0 : Method := { name := "<init>", desc := "()V", sig := { parameters := [], returnType := none }, accessFlags := 0, code := none }
def k2c1 : Code := { maxStack := 4, maxLocals := 2, code := prog_48_method_2_code, exceptionTable := #[], attributes := #[] }
def k2m1 : Method := { name := "isSmall", desc := "(D)Z", sig := { parameters := [.double], returnType := some .boolean }, accessFlags := 8, code := some k2c1 }
/-- org/eventropy/core/SmallProbabilities -/
def k2 : Class := { plain "org/eventropy/core/SmallProbabilities" (some 0) with
  accessFlags := 48
  interfaces := #[]
  cf := some (fileOf pool2 11 #[.nestMembers #[7]] #[{ accessFlags := 0, nameIndex := 5, descriptorIndex := 6, attributes := #[] }, { accessFlags := 8, nameIndex := 41, descriptorIndex := 42, attributes := #[] }] 48 2 #[] #[{ accessFlags := 18, nameIndex := 14, descriptorIndex := 15, attributes := #[] }, { accessFlags := 18, nameIndex := 18, descriptorIndex := 15, attributes := #[] }])
  fields := #[{ name := "transitions", type := (.object "org/eventropy/core/SmallProbabilities$Keyed"), accessFlags := 18, slot := 0, constantValue := 0 }, { name := "endings", type := (.object "org/eventropy/core/SmallProbabilities$Keyed"), accessFlags := 18, slot := 1, constantValue := 0 }]
  methods := #[k2m0, k2m1]
  instanceTypes := #[(.object "org/eventropy/core/SmallProbabilities$Keyed"), (.object "org/eventropy/core/SmallProbabilities$Keyed")]
  staticTypes := #[]
  resolved := Array.replicate 59 none
  statics := none }

def pool3 : Array CpInfo := pool [(1, u "java/lang/Cloneable"), (0, .class_ 1), (0, u "java/lang/Object"), (0, .class_ 3)] 3

/-- java/lang/Cloneable -/
def k3 : Class := { plain "java/lang/Cloneable" (some 0) with
  accessFlags := 1537
  interfaces := #[]
  cf := some (fileOf pool3 2 #[] #[] 1537 4 #[] #[])
  fields := #[]
  methods := #[]
  instanceTypes := #[]
  staticTypes := #[]
  resolved := Array.replicate 8 none
  statics := none }

def pool4 : Array CpInfo := pool [(1, u "java/io/Serializable"), (0, .class_ 1), (0, u "java/lang/Object"), (0, .class_ 3)] 3

/-- java/io/Serializable -/
def k4 : Class := { plain "java/io/Serializable" (some 0) with
  accessFlags := 1537
  interfaces := #[]
  cf := some (fileOf pool4 2 #[] #[] 1537 4 #[] #[])
  fields := #[]
  methods := #[]
  instanceTypes := #[]
  staticTypes := #[]
  resolved := Array.replicate 8 none
  statics := none }

/-- the primitive byte -/
def k5 : Class := { plain "byte" none with kind := .primitive 'B', accessFlags := 0x411 }
/-- [B -/
def k6 : Class := { plain "[B" (some 0) with kind := .array 5 .byte, interfaces := #[3, 4], accessFlags := 1041 }

/-- the primitive int -/
def k7 : Class := { plain "int" none with kind := .primitive 'I', accessFlags := 0x411 }
/-- [I -/
def k8 : Class := { plain "[I" (some 0) with kind := .array 7 .int, interfaces := #[3, 4], accessFlags := 1041 }

def heap : Heap := #[]
def classes : Array Class := #[k0, k1, k2, k3, k4, k5, k6, k7, k8]
def interned : List (Array UInt16 × Addr) := []
def slotsUsed : Nat := 0
def theMethod : MethodId := ⟨1, 1⟩
def args0 : Array Value := #[.long 3, .int 1]
def aboutOver (below : List Frame) : State where
  vm := { classes := classes, interned := interned.toArray }
  heap := heap
  slotsUsed := slotsUsed
  threads := #[{ frames := .invoking theMethod args0 :: below }]
def below0 : List Frame := [.native { method := ⟨0, 0⟩, args := #[] }]
def about1 : State := aboutOver below0
def p0 : Program := .bare "" "" ""
def e0 : Env := launch0.env 0 0 0
theorem w_frames : about1.frames = Frame.invoking theMethod args0 :: below0 := rfl
set_option maxRecDepth 65536 in
theorem w_args : argsFit about1.vm theMethod args0 = true := by decide +kernel
set_option maxRecDepth 65536 in
theorem w_heap : heapFits about1 = true := by decide +kernel
set_option maxRecDepth 65536 in
theorem w_runnable : about1.curStatus? = some .runnable := by decide +kernel
set_option maxRecDepth 65536 in
theorem w_alone : about1.alone = true := by decide +kernel
set_option maxRecDepth 65536 in
theorem w_named : about1.methodNamed? x = some theMethod := by decide +kernel
set_option maxRecDepth 65536 in
theorem w_hears : about1.hears theMethod below0 = true := by decide +kernel
set_option maxRecDepth 65536 in
theorem w_ripe : about1.ripe theMethod args0 below0 = true := by decide +kernel
theorem w_running : about1.status = .running := rfl
set_option maxRecDepth 65536 in
theorem w_room : about1.hasRoom e0.platform room_1 = true :=
  launch0.hasRoom_least _ room_1 (by decide +kernel) (by decide +kernel) (by decide +kernel) (by decide +kernel) (by decide +kernel) (by decide +kernel)
theorem allAtoms_all (ts : List Jvm.Cond) (a : Array Jvm.Value) (st : Jvm.State) : (allAtoms ts).before a st = ts.all (fun c => c.before a st) := by
  induction ts with
  | nil => rfl
  | cons c t ih =>
    show (Jvm.Cond.and c (allAtoms t)).before a st = _
    rw [Jvm.Cond.before_and, ih, List.all_cons]
def words1 : List Jvm.Cond := Jvm.Cond.code x code maxLocals ret :: tables_1
/-- a 'code' word, met by the world's own term for the bytes: nothing is compared byte by byte -/
theorem code_word {y : MethodName} {bytes : ByteArray} {mx : Nat} {rt : Option FieldType} {a : Array Value} {s : State} {m : MethodId} {meth : Method} {c : Code} (h1 : s.methodNamed? y = some m) (h2 : s.vm.method? m = some meth) (h3 : meth.code = some c) (h4 : c.code = bytes)
    (h5 : (c.maxLocals == mx && c.exceptionTable.isEmpty && decide (c.maxStack ≤ mostOperands) && decide (meth.sig.returnType = rt) && !meth.locks && decide (parseMethodDescriptor y.desc = some meth.sig)) = true) : (Jvm.Cond.code y bytes mx rt).before a s = true := by
  simp only [Bool.and_eq_true, beq_iff_eq, Bool.not_eq_true', decide_eq_true_eq] at h5
  obtain ⟨⟨⟨⟨⟨g1, g2⟩, g3⟩, g4⟩, g5⟩, g6⟩ := h5
  simp [Cond.before, Cond.holds, Cond.value, h1, h2, h3, h4, g1, g2, g3, g4, g5, g6]
def isCode : Jvm.Cond → Bool
  | .code _ _ _ _ => true
  | _ => false
theorem all_split {L : List Jvm.Cond} {P : Jvm.Cond → Bool} (h1 : L.all (fun c => isCode c || P c) = true) (h2 : ∀ c ∈ L.filter isCode, P c = true) : L.all P = true := by
  refine List.all_eq_true.mpr fun c hc => ?_
  have h := List.all_eq_true.mp h1 c hc
  rcases Bool.eq_false_or_eq_true (isCode c) with hi | hi
  · exact h2 c (List.mem_filter.mpr ⟨hc, hi⟩)
  · simpa [hi] using h
set_option maxRecDepth 65536 in
theorem w_c0 : (Jvm.Cond.code x code maxLocals ret).before args0 about1 = true := code_word (m := ⟨1, 1⟩) (meth := k1m1) (c := k1c1) (by decide +kernel) rfl rfl rfl (by decide +kernel)
set_option maxRecDepth 65536 in
theorem w_c1 : (Jvm.Cond.code ({ cls := "org/eventropy/core/SmallProbabilities", name := "isSmall", desc := "(D)Z" } : Jvm.MethodName) prog_48_method_2_code (2 : Nat) (Option.some Jvm.ClassFile.FieldType.boolean)).before args0 about1 = true := code_word (m := ⟨2, 1⟩) (meth := k2m1) (c := k2c1) (by decide +kernel) rfl rfl rfl (by decide +kernel)
def codes1 : List Jvm.Cond := [Jvm.Cond.code x code maxLocals ret, Jvm.Cond.code ({ cls := "org/eventropy/core/SmallProbabilities", name := "isSmall", desc := "(D)Z" } : Jvm.MethodName) prog_48_method_2_code (2 : Nat) (Option.some Jvm.ClassFile.FieldType.boolean)]
set_option maxRecDepth 65536 in
theorem codes_eq : words1.filter isCode = codes1 := rfl
theorem w_codes : ∀ c ∈ words1.filter isCode, c.before args0 about1 = true := by
  rw [codes_eq]
  intro c hc
  simp only [codes1, List.mem_cons, List.not_mem_nil, or_false] at hc
  rcases hc with rfl | rfl
  · exact w_c0
  · exact w_c1
set_option maxRecDepth 65536 in
theorem w_t1 : words1.all (fun c => isCode c || c.before args0 about1) = true := by decide +kernel
theorem w_tables : (allAtoms (Jvm.Cond.code x code maxLocals ret :: tables_1)).before args0 about1 = true := by
  rw [allAtoms_all]
  show words1.all (fun c => c.before args0 about1) = true
  refine all_split ?_ w_codes
  rw [w_t1]
set_option maxRecDepth 65536 in
theorem w_case : (Jvm.Cond.and given_1 narrow_1).before args0 about1 = true := by decide +kernel
theorem w_applies : (headSpec (Jvm.Cond.code x code maxLocals ret :: tables_1) room_1).applies x e0.platform about1 = true :=
  (Spec.applies_iff w_frames).mpr ⟨w_running, w_runnable, w_alone, w_named, w_hears, w_ripe, w_room, w_tables⟩
theorem atStart : AtStart classFile x code maxLocals ret World_1 tables_1 room_1 Calls_1 rest_1 Pre_1 launch0 p0 e0 about1 theMethod args0 below0 :=
  ⟨lists_1, trivial, launch0.admits_env _ _ _, launch0.least_env, fairChoices_fair.cas, fairChoices_fair.clock, w_frames, w_args, w_heap, w_applies, trivial, trivial, w_case⟩
end start1
theorem witness_1 : WitnessClaimed_1 := ⟨start1.p0, start1.e0, start1.about1, start1.theMethod, start1.args0, start1.below0, start1.atStart⟩
end Jvm.Pilot.@@N@@
