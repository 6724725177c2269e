import JvmDerived
import JvmDerived.Pilot.@@N@@Statement
import JvmDerived.Pilot.@@N@@Code
set_option linter.unusedVariables false
set_option linter.unusedSimpArgs false
namespace Jvm.Pilot.@@N@@
open Jvm Jvm.ClassFile Sem Op Lib Jvm.Free Jvm.Stand Jvm.LawKit Jvm.RoadKit Bundle Jvm.Pilot.@@N@@.Jvm.D
section OwnKit
variable {p : Program} {l : Launch} {e : Env} {R : Room} {s : State} {m : MethodId} {args : Array Value} {below : List Frame} {meth : Method} {c : Code} {T : State} {locs : List Loc} {cells slots : Nat} {Z : State} {a0 : Array Value} {h : Heap}
/-- from S the body comes to its end, and P holds of it -/
def Gd (tb : Tables) (e : Env) (below : List Frame) (P : Outcome → State → Prop) (S : State) : Prop := ∃ s₂ o, Steps tb e below S s₂ ∧ s₂.status = .running ∧ Ended s₂ below o ∧ P o s₂
theorem Gd.go {tb : Tables} {e : Env} {below : List Frame} {P : Outcome → State → Prop} {S S' : State} (h : ∀ t, Steps tb e below S' t → Steps tb e below S t) (k : Gd tb e below P S') : Gd tb e below P S := by
  obtain ⟨s₂, o, h1, h2⟩ := k
  exact ⟨s₂, o, h _ h1, h2⟩
theorem Gd.via {tb : Tables} {e : Env} {below : List Frame} {P : Outcome → State → Prop} {S S' : State} (h : Gd tb e below P S' → Gd tb e below P S) (k : Gd tb e below P S') : Gd tb e below P S := h k
theorem Gd.viaA {α : Type} {A : α → Prop} {tb : Tables} {e : Env} {below : List Frame} {P : Outcome → State → Prop} {S : State} {S' : α → State} (h : (∀ z, A z → Gd tb e below P (S' z)) → Gd tb e below P S) (k : ∀ z, A z → Gd tb e below P (S' z)) : Gd tb e below P S := h k
/-- a body's contract: called with these arguments over this heap it returns, Q holds, and so many cells and slots at most are new -/
def Con (l : Launch) (Z : State) (y : MethodName) (bytes : ByteArray) (maxL : Nat) (ret : Option FieldType) (ws : List Jvm.Cond) (rm : Room) (kc ks : Nat) (as' : Array Value) (h : Heap) (Q : Option Value → Heap → List Loc → Prop) : Prop :=
  MetFree l y (head1 (Jvm.Cond.code y bytes maxL ret :: ws) rm) (fun a U => a = as' ∧ Z.Warmed39 U.vm ∧ U.heap = h) (fun _ _ _ _ _ => True) (fun _ U o U' => ∃ v L, o = .returned v ∧ Q v U'.heap L ∧ FrameEnd U o U' L kc ks)
/-- what a body's walk owes -/
abbrev Owes (s : State) (kc ks : Nat) (Q : Option Value → Heap → List Loc → Prop) : Outcome → State → Prop := fun o U' => ∃ v L, o = .returned v ∧ Q v U'.heap L ∧ FrameEnd s o U' L kc ks
theorem Con.of {y : MethodName} {bytes : ByteArray} {maxL : Nat} {ret : Option FieldType} {ws : List Jvm.Cond} {rm : Room} {kc ks : Nat} {as' : Array Value} {Q : Option Value → Heap → List Loc → Prop} (hpn : plainFor y = true)
    (body : ∀ (p : Program) (e : Env) (s : State) (m : MethodId) (below : List Frame) (meth : Method) (c : Code) (s₁ : State), p.tables.exec = Jvm.exec → c.code = bytes → c.maxLocals = maxL → s.vm.findClass y.cls = some m.cls → meth.name = y.name → meth.sig.returnType = ret → meth.locks = false → Z.Warmed39 s.vm →
      Stand p l e rm s m as' below meth c s₁ [] 0 0 → s₁.heap = h → Gd p.tables e below (Owes s kc ks Q) (s₁.setTop (entryFrame m as' maxL))) : Con l Z y bytes maxL ret ws rm kc ks as' h Q := by
  refine MetFree.of_bodySF hpn hisR ?_
  intro p e s m args below meth c s₁ Bd hml0 hP hK
  obtain ⟨rfl, hZ, hh⟩ := hP
  exact body p e s m below meth c s₁ Bd.exec Bd.bytes hml0 (findClass_of_methodNamed Bd.named) (name_of_methodNamed Bd.named Bd.method).1 Bd.returns Bd.notSynchronized hZ (Stand.of_body Bd) (by rw [← hh, Bd.state]; rfl)
theorem own_retI (X : Stand p l e R s m args below meth c T locs cells slots) (hx : p.tables.exec = Jvm.exec) {pc : Nat} {Ls : Array Slot} {z : Int32} {rest : List Value} (hret : meth.sig.returnType = some .int) (hlk : meth.locks = false) (hd : decode c.code pc = .ok (.ireturn, 1)) {Q : Option Value → Heap → List Loc → Prop} {kc ks : Nat} (hq : Q (some (.int z)) T.heap locs) (hc : cells ≤ kc) (hs : slots ≤ ks) :
    Gd p.tables e below (Owes s kc ks Q) (T.setTop (mkF m pc Ls (.int z :: rest))) := by
  obtain ⟨fs, hr, hrun, hended, hW, hsame⟩ := X.leave (v := some (.int z)) (fun h => by rw [hret] at h; cases h) hlk
  have hm' : T.vm.method? m = some meth := X.method'
  have hn : narrow .int (.int z) = .int z := rfl
  refine ⟨_, _, ?_, hrun, hended, _, _, rfl, hq, ⟨_, rfl⟩, hW, hsame.mono hc hs⟩
  show Steps p.tables e below (T.setTop { method := m, pc := pc, locals := Ls, stack := _ :: rest, locked := none }) _
  jvm_step X.here [X.here.top, hx, hd, hm', hret, hn]
  first | (intro acts; rw [hr _ acts rfl rfl rfl]) | rw [hr _ _ rfl rfl rfl]
  exact Steps.refl _
theorem own_retN (X : Stand p l e R s m args below meth c T locs cells slots) (hx : p.tables.exec = Jvm.exec) {pc : Nat} {Ls : Array Slot} {z : Int32} {rest : List Value} {t : FieldType} (hret : meth.sig.returnType = some t) (hlk : meth.locks = false) (ht : t = .boolean ∨ t = .byte ∨ t = .char ∨ t = .short) (hd : decode c.code pc = .ok (.ireturn, 1)) {Q : Option Value → Heap → List Loc → Prop} {kc ks : Nat} (hq : Q (some (.int (nar t z))) T.heap locs) (hc : cells ≤ kc) (hs : slots ≤ ks) :
    Gd p.tables e below (Owes s kc ks Q) (T.setTop (mkF m pc Ls (.int z :: rest))) := by
  obtain ⟨fs, hr, hrun, hended, hW, hsame⟩ := X.leave (v := some (.int (nar t z))) (fun h => by rw [hret] at h; cases h) hlk
  exact ⟨_, _, retN X hx hret ht hd hr, hrun, hended, _, _, rfl, hq, ⟨_, rfl⟩, hW, hsame.mono hc hs⟩
theorem own_retV (X : Stand p l e R s m args below meth c T locs cells slots) (hx : p.tables.exec = Jvm.exec) {pc : Nat} {Ls : Array Slot} (hret : meth.sig.returnType = none) (hlk : meth.locks = false) (hd : decode c.code pc = .ok (.return_, 1)) {Q : Option Value → Heap → List Loc → Prop} {kc ks : Nat} (hq : Q none T.heap locs) (hc : cells ≤ kc) (hs : slots ≤ ks) :
    Gd p.tables e below (Owes s kc ks Q) (T.setTop (mkF m pc Ls [])) := by
  obtain ⟨fs, hr, hrun, hended, hW, hsame⟩ := X.leave (v := none) (fun _ => rfl) hlk
  exact ⟨_, _, X.returnOut hx hret hd hr, hrun, hended, _, _, rfl, hq, ⟨_, rfl⟩, hW, hsame.mono hc hs⟩
theorem own_retL (X : Stand p l e R s m args below meth c T locs cells slots) (hx : p.tables.exec = Jvm.exec) {pc : Nat} {Ls : Array Slot} {z : Int64} {rest : List Value} (hret : meth.sig.returnType = some .long) (hlk : meth.locks = false) (hd : decode c.code pc = .ok (.lreturn, 1)) {Q : Option Value → Heap → List Loc → Prop} {kc ks : Nat} (hq : Q (some (.long z)) T.heap locs) (hc : cells ≤ kc) (hs : slots ≤ ks) :
    Gd p.tables e below (Owes s kc ks Q) (T.setTop (mkF m pc Ls (.long z :: rest))) := by
  obtain ⟨fs, hr, hrun, hended, hW, hsame⟩ := X.leave (v := some (.long z)) (fun h => by rw [hret] at h; cases h) hlk
  have hm' : T.vm.method? m = some meth := X.method'
  refine ⟨_, _, ?_, hrun, hended, _, _, rfl, hq, ⟨_, rfl⟩, hW, hsame.mono hc hs⟩
  show Steps p.tables e below (T.setTop { method := m, pc := pc, locals := Ls, stack := _ :: rest, locked := none }) _
  jvm_step X.here [X.here.top, hx, hd, hm', hret, narrow]
  first | (intro acts; rw [hr _ acts rfl rfl rfl]) | rw [hr _ _ rfl rfl rfl]
  exact Steps.refl _
theorem own_retA (X : Stand p l e R s m args below meth c T locs cells slots) (hx : p.tables.exec = Jvm.exec) {pc : Nat} {Ls : Array Slot} {a : Addr} {rest : List Value} {t : FieldType} (hret : meth.sig.returnType = some t) (hlk : meth.locks = false) (ht : t.isReference = true) (hd : decode c.code pc = .ok (.areturn, 1)) {Q : Option Value → Heap → List Loc → Prop} {kc ks : Nat} (hq : Q (some (.ref a)) T.heap locs) (hc : cells ≤ kc) (hs : slots ≤ ks) :
    Gd p.tables e below (Owes s kc ks Q) (T.setTop (mkF m pc Ls (.ref a :: rest))) := by
  obtain ⟨fs, hr, hrun, hended, hW, hsame⟩ := X.leave (v := some (.ref a)) (fun h => by rw [hret] at h; cases h) hlk
  have hm' : T.vm.method? m = some meth := X.method'
  refine ⟨_, _, ?_, hrun, hended, _, _, rfl, hq, ⟨_, rfl⟩, hW, hsame.mono hc hs⟩
  show Steps p.tables e below (T.setTop { method := m, pc := pc, locals := Ls, stack := _ :: rest, locked := none }) _
  jvm_step X.here [X.here.top, hx, hd, hm', hret, ht, Value.isRef]
  first | (intro acts; rw [hr _ acts rfl rfl rfl]) | rw [hr _ _ rfl rfl rfl]
  exact Steps.refl _
/-- a static call by its contract -/
theorem own_callS (X : Stand p l e R s m args below meth c T locs cells slots) (hx : p.tables.exec = Jvm.exec) (hZ : Z.Warmed39 s.vm) {own : String} {index : Nat} {y : MethodName} {bytes : ByteArray} {maxL : Nat} {ret : Option FieldType} (hown : s.vm.findClass own = some m.cls)
    (w1 : (Jvm.Cond.methodLink own index y).before a0 Z = true) (w2 : (Jvm.Cond.static y).before a0 Z = true) (w3 : (Jvm.Cond.initialized y.cls).before a0 Z = true) (w4 : (Jvm.Cond.code y bytes maxL ret).before a0 Z = true) (hy : y.cls ≠ "java/lang/invoke/MethodHandle" ∧ y.cls ≠ "java/lang/invoke/VarHandle")
    {rm : Room} {as' : Array Value} {Q : Option Value → Heap → List Loc → Prop} {W kc ks : Nat} (hM : Con l Z y bytes maxL ret [] rm kc ks as' h Q) (hkc : rm.cells = kc) (hks : rm.slots = ks) (eT : T.heap = h) (hf : rm.frames + 1 ≤ R.frames) (hl : W + (maxL + 11) + rm.locals ≤ R.locals)
    {g : JFrame} (hg : g.method = m) (hsize : g.locals.size = c.maxLocals) {argsL rest : List Value} (hlen : ∀ sig, parseMethodDescriptor y.desc = some sig → argsL.length = sig.parameters.length) (hstack : g.stack = argsL.reverse ++ rest) (hW : 2 * g.monitorRoom + (rest.map fun v => v.category).sum ≤ W)
    (hdg : decode c.code g.pc = .ok (.invokestatic index, 3)) (has : argsL.toArray = as') (hc : cells + kc ≤ R.cells) (hs : slots + ks ≤ R.slots) :
    ∃ v T' L, Stand p l e R s m args below meth c T' (locs ++ L) (cells + kc) (slots + ks) ∧ Q v T'.heap L ∧ ∀ target, Steps p.tables e below (T'.setTop { g with pc := g.pc + 3, stack := v.toList ++ rest }) target → Steps p.tables e below (T.setTop g) target := by
  subst hkc hks
  obtain ⟨v, vm₁, ⟨T', L', c', s'⟩, -, X', ⟨L, hq, l1, l2, l3⟩, st⟩ := Jvm.LawKit.callS X hx (y := y) hown (mvT hZ w1) (mvT hZ w2) (mvT hZ w3) (mvT hZ w4) hy (backOf (W := W) hM hZ w4 w3 hf hl) hg hsize (argsL := argsL) (rest := rest) hlen hstack hW hdg (fun _ _ => ⟨has, eT, hc, hs⟩)
  dsimp only [Pt.U, Pt.locs, Pt.cells, Pt.slots] at X' l1 l2 l3 st hq
  subst l1 l2 l3
  exact ⟨v, T', L, X', hq, st⟩
/-- a static call that writes and makes nothing -/
theorem own_callSP (X : Stand p l e R s m args below meth c T locs cells slots) (hx : p.tables.exec = Jvm.exec) (hZ : Z.Warmed39 s.vm) {own : String} {index : Nat} {y : MethodName} {bytes : ByteArray} {maxL : Nat} {ret : Option FieldType} (hown : s.vm.findClass own = some m.cls)
    (w1 : (Jvm.Cond.methodLink own index y).before a0 Z = true) (w2 : (Jvm.Cond.static y).before a0 Z = true) (w3 : (Jvm.Cond.initialized y.cls).before a0 Z = true) (w4 : (Jvm.Cond.code y bytes maxL ret).before a0 Z = true) (hy : y.cls ≠ "java/lang/invoke/MethodHandle" ∧ y.cls ≠ "java/lang/invoke/VarHandle")
    {rm : Room} {as' : Array Value} {v : Option Value} {W : Nat} (hM : Con l Z y bytes maxL ret [] rm 0 0 as' h (fun v' h' L => v' = v ∧ h' = h ∧ L = [])) (hkc : rm.cells = 0) (hks : rm.slots = 0) (eT : T.heap = h) (hf : rm.frames + 1 ≤ R.frames) (hl : W + (maxL + 11) + rm.locals ≤ R.locals)
    {g : JFrame} (hg : g.method = m) (hsize : g.locals.size = c.maxLocals) {argsL rest : List Value} (hlen : ∀ sig, parseMethodDescriptor y.desc = some sig → argsL.length = sig.parameters.length) (hstack : g.stack = argsL.reverse ++ rest) (hW : 2 * g.monitorRoom + (rest.map fun v => v.category).sum ≤ W)
    (hdg : decode c.code g.pc = .ok (.invokestatic index, 3)) (has : argsL.toArray = as') (hc : cells ≤ R.cells := by decide) (hs : slots ≤ R.slots := by decide) :
    ∃ T', Stand p l e R s m args below meth c T' locs cells slots ∧ T'.heap = h ∧ ∀ target, Steps p.tables e below (T'.setTop { g with pc := g.pc + 3, stack := v.toList ++ rest }) target → Steps p.tables e below (T.setTop g) target := by
  obtain ⟨v', T', L, X', ⟨e1, e2, e3⟩, st⟩ := own_callS X hx hZ hown w1 w2 w3 w4 hy hM hkc hks eT hf hl hg hsize hlen hstack hW hdg has hc hs
  subst e1 e3
  rw [List.append_nil] at X'
  exact ⟨T', X', e2, st⟩
/-- an instance method by its contract, chosen by the receiver's class -/
theorem own_callV (X : Stand p l e R s m args below meth c T locs cells slots) (hx : p.tables.exec = Jvm.exec) (hZ : Z.Warmed39 s.vm) {own C : String} {index : Nat} {y : MethodName} {bytes : ByteArray} {maxL : Nat} {ret : Option FieldType} (hown : s.vm.findClass own = some m.cls)
    (w1 : (Jvm.Cond.methodLink own index y).before a0 Z = true) (w2 : (Jvm.Cond.declares y).before a0 Z = true) (w3 : (Jvm.Cond.selects C y y).before a0 Z = true) (w4 : (Jvm.Cond.instanceMethod y).before a0 Z = true) (w5 : (Jvm.Cond.initialized y.cls).before a0 Z = true) (w6 : (Jvm.Cond.code y bytes maxL ret).before a0 Z = true) (hy : y.cls ≠ "java/lang/invoke/MethodHandle" ∧ y.cls ≠ "java/lang/invoke/VarHandle")
    {b : Addr} (E : Exa Z h b C) {rm : Room} {as' : Array Value} {Q : Option Value → Heap → List Loc → Prop} {W kc ks : Nat} (hM : Con l Z y bytes maxL ret [] rm kc ks as' h Q) (hkc : rm.cells = kc) (hks : rm.slots = ks) (eT : T.heap = h) (hf : rm.frames + 1 ≤ R.frames) (hl : W + (maxL + 11) + rm.locals ≤ R.locals)
    {g : JFrame} (hg : g.method = m) (hsize : g.locals.size = c.maxLocals) {argsL rest : List Value} (hlen : ∀ sig, parseMethodDescriptor y.desc = some sig → argsL.length = sig.parameters.length) (hstack : g.stack = argsL.reverse ++ .ref b :: rest) (hW : 2 * g.monitorRoom + (rest.map fun v => v.category).sum ≤ W)
    (hdg : decode c.code g.pc = .ok (.invokevirtual index, 3)) (has : (.ref b :: argsL).toArray = as') (hc : cells + kc ≤ R.cells) (hs : slots + ks ≤ R.slots) :
    ∃ v T' L, Stand p l e R s m args below meth c T' (locs ++ L) (cells + kc) (slots + ks) ∧ Q v T'.heap L ∧ ∀ target, Steps p.tables e below (T'.setTop { g with pc := g.pc + 3, stack := v.toList ++ rest }) target → Steps p.tables e below (T.setTop g) target := by
  subst hkc hks
  obtain ⟨cq, kq, qa, qb, qc⟩ := isOf hZ eT E
  obtain ⟨v, vm₁, ⟨T', L', c', s'⟩, -, X', ⟨L, hq, l1, l2, l3⟩, st⟩ := X.virtualBack hx (y := y) (z := y) hown (mvT hZ w1) (mvT hZ w2) (notFace_of_selects (args := #[]) (mvT hZ w3)) (mvT hZ w3) (mvT hZ w4) hy (backOf (W := W) hM hZ w6 w5 hf hl) qa qc hg hsize (Steps.refl _) (argsL := argsL) (rest := rest) hlen hstack hW hdg (fun _ _ => ⟨has, eT, hc, hs⟩)
  dsimp only [Pt.U, Pt.locs, Pt.cells, Pt.slots] at X' l1 l2 l3 st hq
  subst l1 l2 l3
  exact ⟨v, T', L, X', hq, fun _ k => st.trans k⟩
/-- an instance method that writes and makes nothing -/
theorem own_callVP (X : Stand p l e R s m args below meth c T locs cells slots) (hx : p.tables.exec = Jvm.exec) (hZ : Z.Warmed39 s.vm) {own C : String} {index : Nat} {y : MethodName} {bytes : ByteArray} {maxL : Nat} {ret : Option FieldType} (hown : s.vm.findClass own = some m.cls)
    (w1 : (Jvm.Cond.methodLink own index y).before a0 Z = true) (w2 : (Jvm.Cond.declares y).before a0 Z = true) (w3 : (Jvm.Cond.selects C y y).before a0 Z = true) (w4 : (Jvm.Cond.instanceMethod y).before a0 Z = true) (w5 : (Jvm.Cond.initialized y.cls).before a0 Z = true) (w6 : (Jvm.Cond.code y bytes maxL ret).before a0 Z = true) (hy : y.cls ≠ "java/lang/invoke/MethodHandle" ∧ y.cls ≠ "java/lang/invoke/VarHandle")
    {b : Addr} (E : Exa Z h b C) {rm : Room} {as' : Array Value} {v : Option Value} {W : Nat} (hM : Con l Z y bytes maxL ret [] rm 0 0 as' h (fun v' h' L => v' = v ∧ h' = h ∧ L = [])) (hkc : rm.cells = 0) (hks : rm.slots = 0) (eT : T.heap = h) (hf : rm.frames + 1 ≤ R.frames) (hl : W + (maxL + 11) + rm.locals ≤ R.locals)
    {g : JFrame} (hg : g.method = m) (hsize : g.locals.size = c.maxLocals) {argsL rest : List Value} (hlen : ∀ sig, parseMethodDescriptor y.desc = some sig → argsL.length = sig.parameters.length) (hstack : g.stack = argsL.reverse ++ .ref b :: rest) (hW : 2 * g.monitorRoom + (rest.map fun v => v.category).sum ≤ W)
    (hdg : decode c.code g.pc = .ok (.invokevirtual index, 3)) (has : (.ref b :: argsL).toArray = as') (hc : cells ≤ R.cells := by decide) (hs : slots ≤ R.slots := by decide) :
    ∃ T', Stand p l e R s m args below meth c T' locs cells slots ∧ T'.heap = h ∧ ∀ target, Steps p.tables e below (T'.setTop { g with pc := g.pc + 3, stack := v.toList ++ rest }) target → Steps p.tables e below (T.setTop g) target := by
  obtain ⟨v', T', L, X', ⟨e1, e2, e3⟩, st⟩ := own_callV X hx hZ hown w1 w2 w3 w4 w5 w6 hy E hM hkc hks eT hf hl hg hsize hlen hstack hW hdg has hc hs
  subst e1 e3
  rw [List.append_nil] at X'
  exact ⟨T', X', e2, st⟩
/-- a constructor by its contract -/
theorem own_callI (X : Stand p l e R s m args below meth c T locs cells slots) (hx : p.tables.exec = Jvm.exec) (hZ : Z.Warmed39 s.vm) {own : String} {index : Nat} {y : MethodName} {bytes : ByteArray} {maxL : Nat} (hy1 : y.name = "<init>") (hown : s.vm.findClass own = some m.cls)
    (w1 : (Jvm.Cond.methodLink own index y).before a0 Z = true) (w4 : (Jvm.Cond.instanceMethod y).before a0 Z = true) (w5 : (Jvm.Cond.initialized y.cls).before a0 Z = true) (w6 : (Jvm.Cond.code y bytes maxL none).before a0 Z = true) (hy : y.cls ≠ "java/lang/invoke/MethodHandle" ∧ y.cls ≠ "java/lang/invoke/VarHandle")
    {b : Addr} {rm : Room} {as' : Array Value} {Q : Option Value → Heap → List Loc → Prop} {W kc ks : Nat} (hM : Con l Z y bytes maxL none [] rm kc ks as' h Q) (hkc : rm.cells = kc) (hks : rm.slots = ks) (eT : T.heap = h) (hf : rm.frames + 1 ≤ R.frames) (hl : W + (maxL + 11) + rm.locals ≤ R.locals)
    {g : JFrame} (hg : g.method = m) (hsize : g.locals.size = c.maxLocals) {argsL rest : List Value} (hlen : ∀ sig, parseMethodDescriptor y.desc = some sig → argsL.length = sig.parameters.length) (hstack : g.stack = argsL.reverse ++ .ref b :: rest) (hW : 2 * g.monitorRoom + (rest.map fun v => v.category).sum ≤ W)
    (hdg : decode c.code g.pc = .ok (.invokespecial index, 3)) (has : (.ref b :: argsL).toArray = as') (hc : cells + kc ≤ R.cells) (hs : slots + ks ≤ R.slots) :
    ∃ v T' L, Stand p l e R s m args below meth c T' (locs ++ L) (cells + kc) (slots + ks) ∧ Q v T'.heap L ∧ ∀ target, Steps p.tables e below (T'.setTop { g with pc := g.pc + 3, stack := v.toList ++ rest }) target → Steps p.tables e below (T.setTop g) target := by
  subst hkc hks
  obtain ⟨v, vm₁, ⟨T', L', c', s'⟩, -, X', ⟨L, hq, l1, l2, l3⟩, st⟩ := X.specialBack hx (y := y) hy1 hown (mvT hZ w1) (mvT hZ w4) (mvT hZ w6) hy (backOf (W := W) hM hZ w6 w5 hf hl) hg hsize (Steps.refl _) (a := b) (argsL := argsL) (rest := rest) hlen hstack hW hdg (fun _ _ => ⟨has, eT, hc, hs⟩)
  dsimp only [Pt.U, Pt.locs, Pt.cells, Pt.slots] at X' l1 l2 l3 st hq
  subst l1 l2 l3
  exact ⟨v, T', L, X', hq, fun _ k => st.trans k⟩
/-- an array as a function of its places -/
def ArF (Z : State) (h : Heap) (a : Addr) (ty : FieldType) (n : Nat) (f : Nat → Value) : Prop := ∃ c : Cell, Arr Z h a c ty ∧ c.slots.size = n ∧ n < 2 ^ 31 ∧ ∀ i, i < n → c.slots[i]? = some (f i)
def upd (f : Nat → Value) (j : Nat) (v : Value) : Nat → Value := fun i => if i = j then v else f i
theorem upd_at (f : Nat → Value) (j : Nat) (v : Value) : upd f j v j = v := if_pos rfl
theorem upd_ne (f : Nat → Value) {i j : Nat} (v : Value) (q : ¬ i = j) : upd f j v i = f i := if_neg q
theorem ArF.lt {h : Heap} {a : Addr} {ty : FieldType} {n : Nat} {f : Nat → Value} (F : ArF Z h a ty n f) : a < h.size := by obtain ⟨c, A, -⟩ := F; exact A.lt
theorem ArF.ext {h h' : Heap} {a : Addr} {ty : FieldType} {n : Nat} {f : Nat → Value} (F : ArF Z h a ty n f) (E : Ext h h') : ArF Z h' a ty n f := by obtain ⟨c, A, r⟩ := F; exact ⟨c, A.ext E, r⟩
theorem ArF.other {h h' : Heap} {a b : Addr} {ty : FieldType} {n : Nat} {f : Nat → Value} {sl : Nat} {v : Value} (F : ArF Z h b ty n f) (W : Wr h h' a sl v) (q : b ≠ a) : ArF Z h' b ty n f := by obtain ⟨c, A, r⟩ := F; exact ⟨c, A.other W q, r⟩
theorem ArF.keep {h h' : Heap} {a : Addr} {ty : FieldType} {n : Nat} {f : Nat → Value} {ws : List Addr} (F : ArF Z h a ty n f) (K : Keep h h' ws) (q : a ∉ ws) : ArF Z h' a ty n f := by obtain ⟨c, A, r⟩ := F; exact ⟨c, ⟨K.2.1 a c A.1 q, A.2⟩, r⟩
theorem ArF.set {h h' : Heap} {a : Addr} {ty : FieldType} {n : Nat} {f : Nat → Value} {j : Nat} {v : Value} (F : ArF Z h a ty n f) (W : Wr h h' a j v) : ArF Z h' a ty n (upd f j v) := by
  obtain ⟨c, A, r1, r2, r3⟩ := F
  refine ⟨_, A.same W, by rw [sz_set]; exact r1, r2, fun i hi => ?_⟩
  show (c.slots.setIfInBounds j v)[i]? = _
  rw [Array.getElem?_setIfInBounds]
  by_cases q : j = i
  · subst q; rw [if_pos rfl, if_pos (by omega), upd_at]
  · rw [if_neg q, upd_ne _ _ (fun w => q w.symm)]; exact r3 i hi
theorem ArF.congr {h : Heap} {a : Addr} {ty : FieldType} {n : Nat} {f g : Nat → Value} (F : ArF Z h a ty n f) (q : ∀ i, i < n → f i = g i) : ArF Z h a ty n g := by
  obtain ⟨c, A, r1, r2, r3⟩ := F
  exact ⟨c, A, r1, r2, fun i hi => by rw [← q i hi]; exact r3 i hi⟩
theorem ArF.n31 {h : Heap} {a : Addr} {ty : FieldType} {n : Nat} {f : Nat → Value} (F : ArF Z h a ty n f) : n < 2 ^ 31 := by obtain ⟨c, A, r1, r2, r3⟩ := F; exact r2
theorem own_ofN {n : Nat} (h : n < 2 ^ 31) : (Int32.ofNat n).toInt = n := Int32.toInt_ofNat_small h
theorem own_ofC {n : Nat} (h : n < 2 ^ 31) : (Int32.ofNat n).toNatClampNeg = n := by show (Int32.ofNat n).toInt.toNat = n; rw [own_ofN h]; rfl
theorem own_ltN {i n : Nat} (h : i < n) (hn : n < 2 ^ 31) : Int32.ofNat i < Int32.ofNat n := by rw [Int32.lt_iff_toInt_lt, own_ofN (by omega), own_ofN hn]; omega
theorem own_geN {i n : Nat} (h : ¬ i < n) (hn : i < 2 ^ 31) : ¬ Int32.ofNat i < Int32.ofNat n := by rw [Int32.lt_iff_toInt_lt, own_ofN hn, own_ofN (by omega)]; omega
theorem own_incN (i : Nat) : Int32.ofNat i + (1 : Int32) = Int32.ofNat (i + 1) := (Int32.ofNat_add i 1).symm
theorem own_nat {j : Int32} (h : 0 ≤ j.toInt) : (j.toNatClampNeg : Int) = j.toInt := Int.toNat_of_nonneg h
theorem own_natInj {i j : Int32} (hi : 0 ≤ i.toInt) (hj : 0 ≤ j.toInt) : i.toNatClampNeg = j.toNatClampNeg ↔ i = j := by
  constructor
  · intro q; have a := own_nat hi; have b := own_nat hj; exact Int32.toInt_inj.mp (by omega)
  · rintro rfl; rfl
theorem own_in {c : Cell} {n : Nat} {j : Int32} (S : c.slots.size = n) (h1 : 0 ≤ j.toInt) (h2 : j.toInt < n) : ¬ (j < 0 ∨ c.slots.size ≤ j.toNatClampNeg) := by
  have e : (j.toNatClampNeg : Int) = j.toInt := Int.toNat_of_nonneg h1
  rw [Int32.lt_iff_toInt_lt]
  have : (0 : Int32).toInt = 0 := rfl
  omega
theorem own_new {h h' : Heap} {k : ClassId} {ty : FieldType} {z : Int32} {a : Addr} (A : Arr Z h' a (newA k ty z) ty) (q : ¬ z < 0) : ArF Z h' a ty z.toNatClampNeg (fun _ => defaultValue ty) :=
  ⟨_, A, sz_new _ _ _, (back32 q).2, fun i hi => by simp [newA, hi]⟩
theorem own_ldI (X : Stand p l e R s m args below meth c T locs cells slots) (hx : p.tables.exec = Jvm.exec) (hZ : Z.Warmed39 s.vm) (eT : T.heap = h) {a : Addr} {n : Nat} {f : Nat → Value} (A : ArF Z h a .int n f) {j : Int32} (h1 : 0 ≤ j.toInt) (h2 : j.toInt < n) {v : Value} (hv : f j.toNatClampNeg = v)
    {g : JFrame} (hg : g.method = m) {rest : List Value} (hs : g.stack = .int j :: .ref a :: rest) (hd : decode c.code g.pc = .ok (.iaload, 1)) (target : State) (k : Steps p.tables e below (T.setTop { g with pc := g.pc + 1, stack := v :: rest }) target) : Steps p.tables e below (T.setTop g) target := by
  obtain ⟨cl, Ar, S, -, H⟩ := A
  exact X.iaload hx (j := j) (v := v) (by rw [eT]; exact Ar.1) (State.isArrayOf_alike hZ.alike Ar.2.1) Ar.2.2 (own_in S h1 h2) (by have e := Int.toNat_of_nonneg h1; rw [← hv]; exact H _ (by show j.toInt.toNat < n; omega)) hg hs hd _ k
theorem own_ldJ (X : Stand p l e R s m args below meth c T locs cells slots) (hx : p.tables.exec = Jvm.exec) (hZ : Z.Warmed39 s.vm) (eT : T.heap = h) {a : Addr} {n : Nat} {f : Nat → Value} (A : ArF Z h a .long n f) {j : Int32} (h1 : 0 ≤ j.toInt) (h2 : j.toInt < n) {v : Value} (hv : f j.toNatClampNeg = v)
    {g : JFrame} (hg : g.method = m) {rest : List Value} (hs : g.stack = .int j :: .ref a :: rest) (hd : decode c.code g.pc = .ok (.laload, 1)) (target : State) (k : Steps p.tables e below (T.setTop { g with pc := g.pc + 1, stack := v :: rest }) target) : Steps p.tables e below (T.setTop g) target := by
  obtain ⟨cl, Ar, S, -, H⟩ := A
  exact X.laload hx (j := j) (v := v) (by rw [eT]; exact Ar.1) (State.isArrayOf_alike hZ.alike Ar.2.1) Ar.2.2 (own_in S h1 h2) (by have e := Int.toNat_of_nonneg h1; rw [← hv]; exact H _ (by show j.toInt.toNat < n; omega)) hg hs hd _ k
theorem own_ldB (X : Stand p l e R s m args below meth c T locs cells slots) (hx : p.tables.exec = Jvm.exec) (hZ : Z.Warmed39 s.vm) (eT : T.heap = h) {a : Addr} {n : Nat} {f : Nat → Value} (A : ArF Z h a .byte n f) {j : Int32} (h1 : 0 ≤ j.toInt) (h2 : j.toInt < n) {v : Value} (hv : f j.toNatClampNeg = v)
    {g : JFrame} (hg : g.method = m) {rest : List Value} (hs : g.stack = .int j :: .ref a :: rest) (hd : decode c.code g.pc = .ok (.baload, 1)) (target : State) (k : Steps p.tables e below (T.setTop { g with pc := g.pc + 1, stack := v :: rest }) target) : Steps p.tables e below (T.setTop g) target := by
  obtain ⟨cl, Ar, S, -, H⟩ := A
  exact X.baloadBytes hx (j := j) (v := v) (by rw [eT]; exact Ar.1) (State.isArrayOf_alike hZ.alike Ar.2.1) Ar.2.2 (own_in S h1 h2) (by have e := Int.toNat_of_nonneg h1; rw [← hv]; exact H _ (by show j.toInt.toNat < n; omega)) hg hs hd _ k
theorem own_ldC (X : Stand p l e R s m args below meth c T locs cells slots) (hx : p.tables.exec = Jvm.exec) (hZ : Z.Warmed39 s.vm) (eT : T.heap = h) {a : Addr} {n : Nat} {f : Nat → Value} (A : ArF Z h a .char n f) {j : Int32} (h1 : 0 ≤ j.toInt) (h2 : j.toInt < n) {v : Value} (hv : f j.toNatClampNeg = v)
    {g : JFrame} (hg : g.method = m) {rest : List Value} (hs : g.stack = .int j :: .ref a :: rest) (hd : decode c.code g.pc = .ok (.caload, 1)) (target : State) (k : Steps p.tables e below (T.setTop { g with pc := g.pc + 1, stack := v :: rest }) target) : Steps p.tables e below (T.setTop g) target := by
  obtain ⟨cl, Ar, S, -, H⟩ := A
  exact X.caload hx (j := j) (v := v) (by rw [eT]; exact Ar.1) (State.isArrayOf_alike hZ.alike Ar.2.1) Ar.2.2 (own_in S h1 h2) (by have e := Int.toNat_of_nonneg h1; rw [← hv]; exact H _ (by show j.toInt.toNat < n; omega)) hg hs hd _ k
theorem own_len (X : Stand p l e R s m args below meth c T locs cells slots) (hx : p.tables.exec = Jvm.exec) (hZ : Z.Warmed39 s.vm) (eT : T.heap = h) {a : Addr} {ty : FieldType} {n : Nat} {f : Nat → Value} (A : ArF Z h a ty n f) {z : Int32} (hz : Int32.ofNat n = z)
    {g : JFrame} (hg : g.method = m) {rest : List Value} (hs : g.stack = .ref a :: rest) (hd : decode c.code g.pc = .ok (.arraylength, 1)) (target : State) (k : Steps p.tables e below (T.setTop { g with pc := g.pc + 1, stack := .int z :: rest }) target) : Steps p.tables e below (T.setTop g) target := by
  obtain ⟨cl, Ar, S, -, H⟩ := A
  refine X.arraylength hx (by rw [eT]; exact Ar.1) (State.isArrayOf_alike hZ.alike Ar.2.1) hg hs hd _ ?_
  rw [S]; rw [← hz] at k; exact k
theorem own_stI (X : Stand p l e R s m args below meth c T locs cells slots) (hx : p.tables.exec = Jvm.exec) (hZ : Z.Warmed39 s.vm) (eT : T.heap = h) {a : Addr} {n : Nat} {f : Nat → Value} (A : ArF Z h a .int n f) {j x : Int32} (h1 : 0 ≤ j.toInt) (h2 : j.toInt < n)
    {g : JFrame} (hg : g.method = m) {rest : List Value} (hs : g.stack = .int x :: .int j :: .ref a :: rest) (hd : decode c.code g.pc = .ok (.iastore, 1)) :
    ∃ T' h', Stand p l e R s m args below meth c T' (locs ++ [⟨a, j.toNatClampNeg⟩]) cells slots ∧ T'.heap = h' ∧ Wr h h' a j.toNatClampNeg (.int x) ∧ ∀ target, Steps p.tables e below (T'.setTop { g with pc := g.pc + 1, stack := rest }) target → Steps p.tables e below (T.setTop g) target := by
  obtain ⟨cl, Ar, S, -, H⟩ := A
  exact stI X hx hZ eT Ar (own_in S h1 h2) hg hs hd
theorem own_stJ (X : Stand p l e R s m args below meth c T locs cells slots) (hx : p.tables.exec = Jvm.exec) (hZ : Z.Warmed39 s.vm) (eT : T.heap = h) {a : Addr} {n : Nat} {f : Nat → Value} (A : ArF Z h a .long n f) {j : Int32} {x : Int64} (h1 : 0 ≤ j.toInt) (h2 : j.toInt < n)
    {g : JFrame} (hg : g.method = m) {rest : List Value} (hs : g.stack = .long x :: .int j :: .ref a :: rest) (hd : decode c.code g.pc = .ok (.lastore, 1)) :
    ∃ T' h', Stand p l e R s m args below meth c T' (locs ++ [⟨a, j.toNatClampNeg⟩]) cells slots ∧ T'.heap = h' ∧ Wr h h' a j.toNatClampNeg (.long x) ∧ ∀ target, Steps p.tables e below (T'.setTop { g with pc := g.pc + 1, stack := rest }) target → Steps p.tables e below (T.setTop g) target := by
  obtain ⟨cl, Ar, S, -, H⟩ := A
  exact stJ X hx hZ eT Ar (own_in S h1 h2) hg hs hd
/-- a boolean as an int -/
def bI (P : Prop) [Decidable P] : Int32 := if P then 1 else 0
theorem bI_z {P : Prop} [Decidable P] (h : ¬ P) : bI P = 0 := if_neg h
theorem bI_o {P : Prop} [Decidable P] (h : P) : bI P = 1 := if_pos h
theorem bI_ne {P : Prop} [Decidable P] (h : P) : ¬ bI P = 0 := by rw [bI_o h]; decide
theorem nar_b {P : Prop} [Decidable P] : nar .boolean (bI P) = bI P := by unfold bI; split <;> rfl
end OwnKit
def own_cmp (a b : Int64) : Int32 := if a < b then -1 else if a = b then 0 else 1
theorem own_cmp_lt {a b : Int64} (h : a < b) : own_cmp a b < 0 := by unfold own_cmp; rw [if_pos h]; decide
theorem own_cmp_gt {a b : Int64} (h : ¬ a < b) (k : b < a) : 0 < own_cmp a b := by unfold own_cmp; rw [if_neg h, if_neg (fun q => by subst q; exact h k)]; decide
theorem own_cmp_eq {a b : Int64} (h : ¬ a < b) (k : ¬ b < a) : own_cmp a b = 0 ∧ a = b := by
  have e : a = b := by rw [Int64.lt_iff_toInt_lt] at h k; exact Int64.toInt_inj.mp (by omega)
  subst e; unfold own_cmp; rw [if_neg h, if_pos rfl]; exact ⟨rfl, rfl⟩
theorem own_ne_lt {a b : Int64} (h : a < b) : ¬ a = b := fun q => by subst q; exact absurd h (by rw [Int64.lt_iff_toInt_lt]; omega)
theorem own_ne_gt {a b : Int64} (h : b < a) : ¬ a = b := fun q => by subst q; exact absurd h (by rw [Int64.lt_iff_toInt_lt]; omega)
theorem own_mask (x : Int64) : ¬ (x &&& (9223372036854775807 : Int64)) < 0 := by
  have := c_maskL x 9223372036854775807 63 (by decide) (by decide +kernel)
  rw [Int64.lt_iff_toInt_lt]; have z : (0 : Int64).toInt = 0 := rfl; omega
theorem own_pn0 : plainFor (⟨"java/lang/Long", "compare", "(JJ)I"⟩ : MethodName) = true := by first | exact plainFor_of_name (by first | (simp [plainName, overriddenIn, x]; done) | decide +kernel) | decide +kernel
theorem ef_6 (m : MethodId) (q0 : Int64) (q1 : Int64) : entryFrame m #[(.long q0), (.long q1)] 4 = mkF m 0 #[.val (.long q0), .second, .val (.long q1), .second] [] := by first | (simp [entryFrame, mkF, argsToLocals, Value.category, maxLocals]; done) | rfl
theorem d6_0 : decode jdk_35_method_42_code 0 = .ok (.lload_n 0, 1) := by decide +kernel
theorem d6_1 : decode jdk_35_method_42_code 1 = .ok (.lload_n 2, 1) := by decide +kernel
theorem d6_2 : decode jdk_35_method_42_code 2 = .ok (.lcmp, 1) := by decide +kernel
theorem d6_3 : decode jdk_35_method_42_code 3 = .ok (.ifCond .ge 7, 3) := by decide +kernel
theorem d6_6 : decode jdk_35_method_42_code 6 = .ok (.iconst (-1), 1) := by decide +kernel
theorem d6_7 : decode jdk_35_method_42_code 7 = .ok (.goto 14, 3) := by decide +kernel
theorem d6_21 : decode jdk_35_method_42_code 21 = .ok (.ireturn, 1) := by decide +kernel
theorem d6_10 : decode jdk_35_method_42_code 10 = .ok (.lload_n 0, 1) := by decide +kernel
theorem d6_11 : decode jdk_35_method_42_code 11 = .ok (.lload_n 2, 1) := by decide +kernel
theorem d6_12 : decode jdk_35_method_42_code 12 = .ok (.lcmp, 1) := by decide +kernel
theorem d6_13 : decode jdk_35_method_42_code 13 = .ok (.ifCond .ne 7, 3) := by decide +kernel
theorem d6_16 : decode jdk_35_method_42_code 16 = .ok (.iconst 0, 1) := by decide +kernel
theorem d6_17 : decode jdk_35_method_42_code 17 = .ok (.goto 4, 3) := by decide +kernel
theorem d6_20 : decode jdk_35_method_42_code 20 = .ok (.iconst 1, 1) := by decide +kernel
set_option maxRecDepth 65536 in
set_option maxHeartbeats 40000000 in
theorem own_c6 (l : Launch) (Z : State) (a0 : Array Value) (hw : ∀ d ∈ tables_1, d.before a0 Z = true) (a c : Int64) (h0 : Heap) :
    Con l Z (⟨"java/lang/Long", "compare", "(JJ)I"⟩ : MethodName) jdk_35_method_42_code 4 (some .int) [] ({ frames := 0, cells := 0, slots := 0, locals := 0 } : Room) 0 0 #[(.long a), (.long c)] h0 (fun v h L => v = some (.int (own_cmp a c)) ∧ h = h0 ∧ L = []) := by
  refine Con.of own_pn0 ?_
  intro pg ev s_ m bl mt cd s₁ hx hby hml hown hnm hret hlk hZ X0 e0
  rw [ef_6]
  show Gd _ _ _ _ (s₁.setTop (mkF m 0 #[.val (.long a), .second, .val (.long c), .second] []))
  refine Gd.go (fun _ w_k => XS.lloadN X0.here hx rfl (hb hby d6_0) rfl w_k) ?_
  show Gd _ _ _ _ (s₁.setTop (mkF m 1 #[.val (.long a), .second, .val (.long c), .second] [(.long a)]))
  refine Gd.go (fun _ w_k => XS.lloadN X0.here hx rfl (hb hby d6_1) rfl w_k) ?_
  show Gd _ _ _ _ (s₁.setTop (mkF m 2 #[.val (.long a), .second, .val (.long c), .second] [(.long c), (.long a)]))
  refine Gd.go (fun _ w_k => XS.lcmp X0.here hx rfl (hb hby d6_2) rfl w_k) ?_
  show Gd _ _ _ _ (s₁.setTop (mkF m 3 #[.val (.long a), .second, .val (.long c), .second] [(.int (lcmpW a c))]))
  by_cases hc1 : a < c
  · refine Gd.go (fun _ w_k => XS.ifNo X0.here hx rfl (hb hby d6_3) rfl ((if0 _ _).trans (tlt ((lw_lt _ _).mpr hc1)).2.1) w_k) ?_
    show Gd _ _ _ _ (s₁.setTop (mkF m 6 #[.val (.long a), .second, .val (.long c), .second] []))
    refine Gd.go (fun _ w_k => XS.iconst X0.here hx rfl (hb hby d6_6) w_k) ?_
    show Gd _ _ _ _ (s₁.setTop (mkF m 7 #[.val (.long a), .second, .val (.long c), .second] [(.int (-1 : Int32))]))
    refine Gd.go (fun _ w_k => XS.goto X0.here hx rfl (pc0 := 7) (pc' := 21) rfl (hb hby d6_7) (by decide) (by decide) w_k) ?_
    show Gd _ _ _ _ (s₁.setTop (mkF m 21 #[.val (.long a), .second, .val (.long c), .second] [(.int (-1 : Int32))]))
    refine own_retI X0 hx hret hlk (hb hby d6_21) ?_ (by decide) (by decide)
    exact ⟨by unfold own_cmp; rw [if_pos hc1], e0, rfl⟩
  · refine Gd.go (fun _ w_k => XS.ifYes X0.here hx rfl (pc0 := 3) (pc' := 10) rfl (hb hby d6_3) rfl ((if0 _ _).trans (flt (fun q => hc1 ((lw_lt _ _).mp q))).2.1) (by decide) (by decide) w_k) ?_
    show Gd _ _ _ _ (s₁.setTop (mkF m 10 #[.val (.long a), .second, .val (.long c), .second] []))
    refine Gd.go (fun _ w_k => XS.lloadN X0.here hx rfl (hb hby d6_10) rfl w_k) ?_
    show Gd _ _ _ _ (s₁.setTop (mkF m 11 #[.val (.long a), .second, .val (.long c), .second] [(.long a)]))
    refine Gd.go (fun _ w_k => XS.lloadN X0.here hx rfl (hb hby d6_11) rfl w_k) ?_
    show Gd _ _ _ _ (s₁.setTop (mkF m 12 #[.val (.long a), .second, .val (.long c), .second] [(.long c), (.long a)]))
    refine Gd.go (fun _ w_k => XS.lcmp X0.here hx rfl (hb hby d6_12) rfl w_k) ?_
    show Gd _ _ _ _ (s₁.setTop (mkF m 13 #[.val (.long a), .second, .val (.long c), .second] [(.int (lcmpW a c))]))
    by_cases hc2 : a = c
    · refine Gd.go (fun _ w_k => XS.ifNo X0.here hx rfl (hb hby d6_13) rfl ((if0 _ _).trans (teq ((lw_eq _ _).mpr hc2)).2) w_k) ?_
      show Gd _ _ _ _ (s₁.setTop (mkF m 16 #[.val (.long a), .second, .val (.long c), .second] []))
      refine Gd.go (fun _ w_k => XS.iconst X0.here hx rfl (hb hby d6_16) w_k) ?_
      show Gd _ _ _ _ (s₁.setTop (mkF m 17 #[.val (.long a), .second, .val (.long c), .second] [(.int (0 : Int32))]))
      refine Gd.go (fun _ w_k => XS.goto X0.here hx rfl (pc0 := 17) (pc' := 21) rfl (hb hby d6_17) (by decide) (by decide) w_k) ?_
      show Gd _ _ _ _ (s₁.setTop (mkF m 21 #[.val (.long a), .second, .val (.long c), .second] [(.int (0 : Int32))]))
      refine own_retI X0 hx hret hlk (hb hby d6_21) ?_ (by decide) (by decide)
      exact ⟨by unfold own_cmp; rw [if_neg hc1, if_pos hc2], e0, rfl⟩
    · refine Gd.go (fun _ w_k => XS.ifYes X0.here hx rfl (pc0 := 13) (pc' := 20) rfl (hb hby d6_13) rfl ((if0 _ _).trans (feq (fun q => hc2 ((lw_eq _ _).mp q))).2) (by decide) (by decide) w_k) ?_
      show Gd _ _ _ _ (s₁.setTop (mkF m 20 #[.val (.long a), .second, .val (.long c), .second] []))
      refine Gd.go (fun _ w_k => XS.iconst X0.here hx rfl (hb hby d6_20) w_k) ?_
      show Gd _ _ _ _ (s₁.setTop (mkF m 21 #[.val (.long a), .second, .val (.long c), .second] [(.int (1 : Int32))]))
      refine own_retI X0 hx hret hlk (hb hby d6_21) ?_ (by decide) (by decide)
      exact ⟨by unfold own_cmp; rw [if_neg hc1, if_neg hc2], e0, rfl⟩
theorem own_pn1 : plainFor (⟨"com/example/yuletally/yuletally/engine/Won", "<init>", "(J)V"⟩ : MethodName) = true := by first | exact plainFor_of_name (by first | (simp [plainName, overriddenIn, x]; done) | decide +kernel) | decide +kernel
theorem ef_2 (m : MethodId) (q0 : Addr) (q1 : Int64) : entryFrame m #[(.ref q0), (.long q1)] 3 = mkF m 0 #[.val (.ref q0), .val (.long q1), .second] [] := by first | (simp [entryFrame, mkF, argsToLocals, Value.category, maxLocals]; done) | rfl
theorem d2_0 : decode prog_34_method_1_code 0 = .ok (.aload_n 0, 1) := by decide +kernel
theorem d2_1 : decode prog_34_method_1_code 1 = .ok (.invokespecial 1, 3) := by decide +kernel
theorem d2_4 : decode prog_34_method_1_code 4 = .ok (.aload_n 0, 1) := by decide +kernel
theorem d2_5 : decode prog_34_method_1_code 5 = .ok (.lload_n 1, 1) := by decide +kernel
theorem d2_6 : decode prog_34_method_1_code 6 = .ok (.putfield 7, 3) := by decide +kernel
theorem d2_9 : decode prog_34_method_1_code 9 = .ok (.return_, 1) := by decide +kernel
set_option maxRecDepth 65536 in
set_option maxHeartbeats 40000000 in
theorem own_c2 (l : Launch) (Z : State) (a0 : Array Value) (hw : ∀ d ∈ tables_1, d.before a0 Z = true) (b : Addr) (a : Int64) (h0 : Heap) (n0 : Nat) (E0 : Exa Z h0 b "com/example/yuletally/yuletally/engine/Won") (F0 : Fld Z h0 b "com/example/yuletally/yuletally/engine/Won" "amount" "J" (.long (0 : Int64))) (gb : n0 ≤ b) :
    Con l Z (⟨"com/example/yuletally/yuletally/engine/Won", "<init>", "(J)V"⟩ : MethodName) prog_34_method_1_code 3 none [] ({ frames := 1, cells := 0, slots := 0, locals := 12 } : Room) 0 0 #[(.ref b), (.long a)] h0 (fun v h L => v = none ∧ Keep h0 h [b] ∧ Exa Z h b "com/example/yuletally/yuletally/engine/Won" ∧ Fld Z h b "com/example/yuletally/yuletally/engine/Won" "amount" "J" (.long a) ∧ Fr n0 L) := by
  refine Con.of own_pn1 ?_
  intro pg ev s_ m bl mt cd s₁ hx hby hml hown hnm hret hlk hZ X0 e0
  rw [ef_2]
  show Gd _ _ _ _ (s₁.setTop (mkF m 0 #[.val (.ref b), .val (.long a), .second] []))
  have K0 := Keep.refl h0 [b]
  have N0 := Fr.nil n0
  refine Gd.go (fun _ w_k => XS.aloadN X0.here hx rfl (hb hby d2_0) rfl rfl w_k) ?_
  show Gd _ _ _ _ (s₁.setTop (mkF m 1 #[.val (.ref b), .val (.long a), .second] [(.ref b)]))
  obtain ⟨T1, X1, e1, st1⟩ := initO X0 hx hZ hown (hw _ (List.mem_of_getElem? (i := 10) rfl)) (hw _ (List.mem_of_getElem? (i := 11) rfl)) (hw _ (List.mem_of_getElem? (i := 12) rfl)) e0 (g := (mkF m 1 #[.val (.ref b), .val (.long a), .second] [(.ref b)])) rfl (by rw [hml]; rfl) rfl (hb hby d2_1) (by decide) (W := 0) (Nat.le_of_eq rfl) (by decide)
  refine Gd.go (fun _ w_k => st1 _ w_k) ?_
  show Gd _ _ _ _ (T1.setTop (mkF m 4 #[.val (.ref b), .val (.long a), .second] []))
  refine Gd.go (fun _ w_k => XS.aloadN X1.here hx rfl (hb hby d2_4) rfl rfl w_k) ?_
  show Gd _ _ _ _ (T1.setTop (mkF m 5 #[.val (.ref b), .val (.long a), .second] [(.ref b)]))
  refine Gd.go (fun _ w_k => XS.lloadN X1.here hx rfl (hb hby d2_5) rfl w_k) ?_
  show Gd _ _ _ _ (T1.setTop (mkF m 6 #[.val (.ref b), .val (.long a), .second] [(.long a), (.ref b)]))
  obtain ⟨T2, h2, X2, e2, W2, st2⟩ := putF X1 hx hZ hown (host := "") (Or.inl (hw _ (List.mem_of_getElem? (i := 13) rfl))) Via.refl e1 F0 E0 (Or.inr ⟨(hw _ (List.mem_of_getElem? (i := 14) rfl)), rfl, hnm⟩) (hw _ (List.mem_of_getElem? (i := 6) rfl)) (ty := .long) (by decide) rfl rfl (g := (mkF m 6 #[.val (.ref b), .val (.long a), .second] [(.long a), (.ref b)])) rfl rfl (hb hby d2_6)
  refine Gd.go (fun _ w_k => st2 _ w_k) ?_
  have F3 := E0.wr W2
  have F4 := F0.same W2
  have N5 := Fr.snoc X2 N0 gb
  have K6 := Keep.wr K0 W2 (Or.inl (List.mem_singleton.mpr rfl))
  show Gd _ _ _ _ (T2.setTop (mkF m 9 #[.val (.ref b), .val (.long a), .second] []))
  refine own_retV X2 hx hret hlk (hb hby d2_9) ?_ (by decide) (by decide)
  rw [e2]
  exact ⟨rfl, K6, F3, F4, N5⟩
theorem own_pn2 : plainFor (⟨"com/example/yuletally/yuletally/engine/Won", "of", "(J)Lcom/example/yuletally/yuletally/engine/Won;"⟩ : MethodName) = true := by first | exact plainFor_of_name (by first | (simp [plainName, overriddenIn, x]; done) | decide +kernel) | decide +kernel
theorem ef_1 (m : MethodId) (q0 : Int64) : entryFrame m #[(.long q0)] 2 = mkF m 0 #[.val (.long q0), .second] [] := by first | (simp [entryFrame, mkF, argsToLocals, Value.category, maxLocals]; done) | rfl
theorem d1_0 : decode prog_34_method_2_code 0 = .ok (.lload_n 0, 1) := by decide +kernel
theorem d1_1 : decode prog_34_method_2_code 1 = .ok (.lconst 0, 1) := by decide +kernel
theorem d1_2 : decode prog_34_method_2_code 2 = .ok (.lcmp, 1) := by decide +kernel
theorem d1_3 : decode prog_34_method_2_code 3 = .ok (.ifCond .ge 17, 3) := by decide +kernel
theorem d1_20 : decode prog_34_method_2_code 20 = .ok (.new 8, 3) := by decide +kernel
theorem d1_23 : decode prog_34_method_2_code 23 = .ok (.dup, 1) := by decide +kernel
theorem d1_24 : decode prog_34_method_2_code 24 = .ok (.lload_n 0, 1) := by decide +kernel
theorem own_pd0 : parseMethodDescriptor "(J)V" = some ⟨[.long], none⟩ := by decide +kernel
theorem d1_25 : decode prog_34_method_2_code 25 = .ok (.invokespecial 22, 3) := by decide +kernel
theorem d1_28 : decode prog_34_method_2_code 28 = .ok (.areturn, 1) := by decide +kernel
set_option maxRecDepth 65536 in
set_option maxHeartbeats 40000000 in
theorem own_c1 (l : Launch) (Z : State) (a0 : Array Value) (hw : ∀ d ∈ tables_1, d.before a0 Z = true) (a : Int64) (ha : ¬ a < 0) (h0 : Heap) (n0 : Nat) (Z0 : n0 ≤ h0.size) :
    Con l Z (⟨"com/example/yuletally/yuletally/engine/Won", "of", "(J)Lcom/example/yuletally/yuletally/engine/Won;"⟩ : MethodName) prog_34_method_2_code 2 (some (.object "com/example/yuletally/yuletally/engine/Won")) [] ({ frames := 2, cells := 1, slots := 1, locals := 27 } : Room) 1 1 #[(.long a)] h0 (fun v h L => v = some (.ref h0.size) ∧ Keep h0 h [] ∧ Exa Z h h0.size "com/example/yuletally/yuletally/engine/Won" ∧ Fld Z h h0.size "com/example/yuletally/yuletally/engine/Won" "amount" "J" (.long a) ∧ Fr n0 L) := by
  refine Con.of own_pn2 ?_
  intro pg ev s_ m bl mt cd s₁ hx hby hml hown hnm hret hlk hZ X0 e0
  rw [ef_1]
  show Gd _ _ _ _ (s₁.setTop (mkF m 0 #[.val (.long a), .second] []))
  have K0 := Keep.refl h0 []
  have N0 := Fr.nil n0
  refine Gd.go (fun _ w_k => XS.lloadN X0.here hx rfl (hb hby d1_0) rfl w_k) ?_
  show Gd _ _ _ _ (s₁.setTop (mkF m 1 #[.val (.long a), .second] [(.long a)]))
  refine Gd.go (fun _ w_k => XS.lconst X0.here hx rfl (hb hby d1_1) w_k) ?_
  show Gd _ _ _ _ (s₁.setTop (mkF m 2 #[.val (.long a), .second] [(.long (0 : Int64)), (.long a)]))
  refine Gd.go (fun _ w_k => XS.lcmp X0.here hx rfl (hb hby d1_2) rfl w_k) ?_
  show Gd _ _ _ _ (s₁.setTop (mkF m 3 #[.val (.long a), .second] [(.int (lcmpW a (0 : Int64)))]))
  refine Gd.go (fun _ w_k => XS.ifYes X0.here hx rfl (pc0 := 3) (pc' := 20) rfl (hb hby d1_3) rfl ((if0 _ _).trans (flt (fun q => ha ((lw_lt _ _).mp q))).2.1) (by decide) (by decide) w_k) ?_
  show Gd _ _ _ _ (s₁.setTop (mkF m 20 #[.val (.long a), .second] []))
  obtain ⟨T1, h1, X1, e1, E1, A1, D1, -, st1⟩ := newO X0 hx hZ hown (hw _ (List.mem_of_getElem? (i := 5) rfl)) (hw _ (List.mem_of_getElem? (i := 6) rfl)) (hw _ (List.mem_of_getElem? (i := 3) rfl)) e0 (g := (mkF m 20 #[.val (.long a), .second] [])) rfl (hb hby d1_20) (by decide) (by decide)
  obtain ⟨b1, g1⟩ : ∃ z, z = h0.size := ⟨_, rfl⟩
  rw [← g1] at A1 D1 st1
  have n0_b1 : n0 ≤ b1 := Nat.le_trans Z0 (Nat.le_of_eq g1.symm)
  have kn_b1 : h0.size ≤ b1 := Nat.le_trans K0.1 (Nat.le_of_eq g1.symm)
  have Zs2 := Nat.le_trans Z0 E1.1
  have K3 := Keep.ext K0 E1
  have F4 : Fld Z h1 b1 "com/example/yuletally/yuletally/engine/Won" "amount" "J" (.long (0 : Int64)) := D1 (Or.inr (hw _ (List.mem_of_getElem? (i := 14) rfl))) (ty := .long) (by decide)
  refine Gd.go (fun _ w_k => st1 _ w_k) ?_
  show Gd _ _ _ _ (T1.setTop (mkF m 23 #[.val (.long a), .second] [(.ref b1)]))
  refine Gd.go (fun _ w_k => XS.dup X1.here hx rfl (hb hby d1_23) rfl rfl w_k) ?_
  show Gd _ _ _ _ (T1.setTop (mkF m 24 #[.val (.long a), .second] [(.ref b1), (.ref b1)]))
  refine Gd.go (fun _ w_k => XS.lloadN X1.here hx rfl (hb hby d1_24) rfl w_k) ?_
  show Gd _ _ _ _ (T1.setTop (mkF m 25 #[.val (.long a), .second] [(.long a), (.ref b1), (.ref b1)]))
  obtain ⟨v5, T5, L5, X5, hQ5, st5⟩ := own_callI X1 hx hZ (y := (⟨"com/example/yuletally/yuletally/engine/Won", "<init>", "(J)V"⟩ : MethodName)) rfl hown (hw _ (List.mem_of_getElem? (i := 7) rfl)) (hw _ (List.mem_of_getElem? (i := 8) rfl)) (hw _ (List.mem_of_getElem? (i := 3) rfl)) (hw _ (List.mem_of_getElem? (i := 9) rfl)) (by decide) (b := b1) (W := 1) (own_c2 l Z a0 hw b1 a h1 n0 A1 F4 n0_b1) rfl rfl e1 (by decide) (by decide) (g := (mkF m 25 #[.val (.long a), .second] [(.long a), (.ref b1), (.ref b1)])) rfl (by rw [hml]; rfl) (argsL := [(.long a)]) (rest := [(.ref b1)]) (lenOf own_pd0 rfl) rfl (Nat.le_of_eq rfl) (hb hby d1_25) rfl (by decide) (by decide)
  obtain ⟨rfl, K9, E9, F9, N9⟩ := hQ5
  refine Gd.go (fun _ w_k => st5 _ w_k) ?_
  show Gd _ _ _ _ (T5.setTop (mkF m 28 #[.val (.long a), .second] [(.ref b1)]))
  refine own_retA X5 hx hret hlk rfl (hb hby d1_28) ?_ (by decide) (by decide)
  exact ⟨by rw [g1], Keep.trans K3 K9 (fun x q => Or.inr (by rw [List.mem_singleton.mp q]; exact kn_b1)), by rw [← g1]; exact E9, by rw [← g1]; exact F9, Fr.app N0 N9⟩
theorem own_pn3 : plainFor (⟨"com/example/yuletally/yuletally/engine/Won", "amount", "()J"⟩ : MethodName) = true := by first | exact plainFor_of_name (by first | (simp [plainName, overriddenIn, x]; done) | decide +kernel) | decide +kernel
theorem ef_4 (m : MethodId) (q0 : Addr) : entryFrame m #[(.ref q0)] 1 = mkF m 0 #[.val (.ref q0)] [] := by first | (simp [entryFrame, mkF, argsToLocals, Value.category, maxLocals]; done) | rfl
theorem d4_0 : decode prog_34_method_3_code 0 = .ok (.aload_n 0, 1) := by decide +kernel
theorem d4_1 : decode prog_34_method_3_code 1 = .ok (.getfield 7, 3) := by decide +kernel
theorem d4_4 : decode prog_34_method_3_code 4 = .ok (.lreturn, 1) := by decide +kernel
set_option maxRecDepth 65536 in
set_option maxHeartbeats 40000000 in
theorem own_c4 (l : Launch) (Z : State) (a0 : Array Value) (hw : ∀ d ∈ tables_1, d.before a0 Z = true) (b : Addr) (a : Int64) (h0 : Heap) (F0 : Fld Z h0 b "com/example/yuletally/yuletally/engine/Won" "amount" "J" (.long a)) :
    Con l Z (⟨"com/example/yuletally/yuletally/engine/Won", "amount", "()J"⟩ : MethodName) prog_34_method_3_code 1 (some .long) [] ({ frames := 0, cells := 0, slots := 0, locals := 0 } : Room) 0 0 #[(.ref b)] h0 (fun v h L => v = some (.long a) ∧ h = h0 ∧ L = []) := by
  refine Con.of own_pn3 ?_
  intro pg ev s_ m bl mt cd s₁ hx hby hml hown hnm hret hlk hZ X0 e0
  rw [ef_4]
  show Gd _ _ _ _ (s₁.setTop (mkF m 0 #[.val (.ref b)] []))
  refine Gd.go (fun _ w_k => XS.aloadN X0.here hx rfl (hb hby d4_0) rfl rfl w_k) ?_
  show Gd _ _ _ _ (s₁.setTop (mkF m 1 #[.val (.ref b)] [(.ref b)]))
  obtain ⟨T1, X1, e1, st1⟩ := getF X0 hx hZ hown (host := "") (Or.inl (hw _ (List.mem_of_getElem? (i := 13) rfl))) Via.refl e0 F0 (g := (mkF m 1 #[.val (.ref b)] [(.ref b)])) rfl rfl (hb hby d4_1)
  refine Gd.go (fun _ w_k => st1 _ w_k) ?_
  show Gd _ _ _ _ (T1.setTop (mkF m 4 #[.val (.ref b)] [(.long a)]))
  refine own_retL X1 hx hret hlk (hb hby d4_4) ?_ (by decide) (by decide)
  exact ⟨rfl, e1, rfl⟩
theorem own_pn4 : plainFor (⟨"com/example/yuletally/yuletally/engine/Won", "compareTo", "(Lcom/example/yuletally/yuletally/engine/Won;)I"⟩ : MethodName) = true := by first | exact plainFor_of_name (by first | (simp [plainName, overriddenIn, x]; done) | decide +kernel) | decide +kernel
theorem ef_5 (m : MethodId) (q0 : Addr) (q1 : Addr) : entryFrame m #[(.ref q0), (.ref q1)] 2 = mkF m 0 #[.val (.ref q0), .val (.ref q1)] [] := by first | (simp [entryFrame, mkF, argsToLocals, Value.category, maxLocals]; done) | rfl
theorem d5_0 : decode prog_34_method_8_code 0 = .ok (.aload_n 0, 1) := by decide +kernel
theorem d5_1 : decode prog_34_method_8_code 1 = .ok (.getfield 7, 3) := by decide +kernel
theorem d5_4 : decode prog_34_method_8_code 4 = .ok (.aload_n 1, 1) := by decide +kernel
theorem d5_5 : decode prog_34_method_8_code 5 = .ok (.getfield 7, 3) := by decide +kernel
theorem own_pd1 : parseMethodDescriptor "(JJ)I" = some ⟨[.long, .long], some .int⟩ := by decide +kernel
theorem d5_8 : decode prog_34_method_8_code 8 = .ok (.invokestatic 42, 3) := by decide +kernel
theorem d5_11 : decode prog_34_method_8_code 11 = .ok (.ireturn, 1) := by decide +kernel
set_option maxRecDepth 65536 in
set_option maxHeartbeats 40000000 in
theorem own_c5 (l : Launch) (Z : State) (a0 : Array Value) (hw : ∀ d ∈ tables_1, d.before a0 Z = true) (b d : Addr) (a c : Int64) (h0 : Heap) (F0 : Fld Z h0 b "com/example/yuletally/yuletally/engine/Won" "amount" "J" (.long a)) (F1 : Fld Z h0 d "com/example/yuletally/yuletally/engine/Won" "amount" "J" (.long c)) :
    Con l Z (⟨"com/example/yuletally/yuletally/engine/Won", "compareTo", "(Lcom/example/yuletally/yuletally/engine/Won;)I"⟩ : MethodName) prog_34_method_8_code 2 (some .int) [] ({ frames := 1, cells := 0, slots := 0, locals := 15 } : Room) 0 0 #[(.ref b), (.ref d)] h0 (fun v h L => v = some (.int (own_cmp a c)) ∧ h = h0 ∧ L = []) := by
  refine Con.of own_pn4 ?_
  intro pg ev s_ m bl mt cd s₁ hx hby hml hown hnm hret hlk hZ X0 e0
  rw [ef_5]
  show Gd _ _ _ _ (s₁.setTop (mkF m 0 #[.val (.ref b), .val (.ref d)] []))
  refine Gd.go (fun _ w_k => XS.aloadN X0.here hx rfl (hb hby d5_0) rfl rfl w_k) ?_
  show Gd _ _ _ _ (s₁.setTop (mkF m 1 #[.val (.ref b), .val (.ref d)] [(.ref b)]))
  obtain ⟨T1, X1, e1, st1⟩ := getF X0 hx hZ hown (host := "") (Or.inl (hw _ (List.mem_of_getElem? (i := 13) rfl))) Via.refl e0 F0 (g := (mkF m 1 #[.val (.ref b), .val (.ref d)] [(.ref b)])) rfl rfl (hb hby d5_1)
  refine Gd.go (fun _ w_k => st1 _ w_k) ?_
  show Gd _ _ _ _ (T1.setTop (mkF m 4 #[.val (.ref b), .val (.ref d)] [(.long a)]))
  refine Gd.go (fun _ w_k => XS.aloadN X1.here hx rfl (hb hby d5_4) rfl rfl w_k) ?_
  show Gd _ _ _ _ (T1.setTop (mkF m 5 #[.val (.ref b), .val (.ref d)] [(.ref d), (.long a)]))
  obtain ⟨T2, X2, e2, st2⟩ := getF X1 hx hZ hown (host := "") (Or.inl (hw _ (List.mem_of_getElem? (i := 13) rfl))) Via.refl e1 F1 (g := (mkF m 5 #[.val (.ref b), .val (.ref d)] [(.ref d), (.long a)])) rfl rfl (hb hby d5_5)
  refine Gd.go (fun _ w_k => st2 _ w_k) ?_
  show Gd _ _ _ _ (T2.setTop (mkF m 8 #[.val (.ref b), .val (.ref d)] [(.long c), (.long a)]))
  obtain ⟨T3, X3, e3, st3⟩ := own_callSP X2 hx hZ (y := (⟨"java/lang/Long", "compare", "(JJ)I"⟩ : MethodName)) hown (hw _ (List.mem_of_getElem? (i := 25) rfl)) (hw _ (List.mem_of_getElem? (i := 26) rfl)) (hw _ (List.mem_of_getElem? (i := 27) rfl)) (hw _ (List.mem_of_getElem? (i := 28) rfl)) (by decide) (W := 0) (own_c6 l Z a0 hw a c h0) rfl rfl e2 (by decide) (by decide) (g := (mkF m 8 #[.val (.ref b), .val (.ref d)] [(.long c), (.long a)])) rfl (by rw [hml]; rfl) (argsL := [(.long a), (.long c)]) (rest := []) (lenOf own_pd1 rfl) rfl (Nat.le_of_eq rfl) (hb hby d5_8) rfl
  refine Gd.go (fun _ w_k => st3 _ w_k) ?_
  show Gd _ _ _ _ (T3.setTop (mkF m 11 #[.val (.ref b), .val (.ref d)] [(.int (own_cmp a c))]))
  refine own_retI X3 hx hret hlk (hb hby d5_11) ?_ (by decide) (by decide)
  exact ⟨rfl, e3, rfl⟩
theorem own_pn5 : plainFor (⟨"com/example/yuletally/yuletally/engine/Won", "equals", "(Ljava/lang/Object;)Z"⟩ : MethodName) = true := by first | exact plainFor_of_name (by first | (simp [plainName, overriddenIn, x]; done) | decide +kernel) | decide +kernel
theorem ef_7 (m : MethodId) (q0 : Addr) (q1 : Addr) : entryFrame m #[(.ref q0), (.ref q1)] 2 = mkF m 0 #[.val (.ref q0), .val (.ref q1)] [] := by first | (simp [entryFrame, mkF, argsToLocals, Value.category, maxLocals]; done) | rfl
theorem d7_0 : decode prog_34_method_9_code 0 = .ok (.aload_n 1, 1) := by decide +kernel
theorem d7_1 : decode prog_34_method_9_code 1 = .ok (.instanceof 8, 3) := by decide +kernel
theorem d7_4 : decode prog_34_method_9_code 4 = .ok (.ifCond .eq 22, 3) := by decide +kernel
theorem d7_7 : decode prog_34_method_9_code 7 = .ok (.aload_n 1, 1) := by decide +kernel
theorem d7_8 : decode prog_34_method_9_code 8 = .ok (.checkcast 8, 3) := by decide +kernel
theorem d7_11 : decode prog_34_method_9_code 11 = .ok (.getfield 7, 3) := by decide +kernel
theorem d7_14 : decode prog_34_method_9_code 14 = .ok (.aload_n 0, 1) := by decide +kernel
theorem d7_15 : decode prog_34_method_9_code 15 = .ok (.getfield 7, 3) := by decide +kernel
theorem d7_18 : decode prog_34_method_9_code 18 = .ok (.lcmp, 1) := by decide +kernel
theorem d7_19 : decode prog_34_method_9_code 19 = .ok (.ifCond .ne 7, 3) := by decide +kernel
theorem d7_22 : decode prog_34_method_9_code 22 = .ok (.iconst 1, 1) := by decide +kernel
theorem d7_23 : decode prog_34_method_9_code 23 = .ok (.goto 4, 3) := by decide +kernel
theorem d7_27 : decode prog_34_method_9_code 27 = .ok (.ireturn, 1) := by decide +kernel
theorem d7_26 : decode prog_34_method_9_code 26 = .ok (.iconst 0, 1) := by decide +kernel
set_option maxRecDepth 65536 in
set_option maxHeartbeats 40000000 in
theorem own_c7 (l : Launch) (Z : State) (a0 : Array Value) (hw : ∀ d ∈ tables_1, d.before a0 Z = true) (b d : Addr) (a c : Int64) (h0 : Heap) (F0 : Fld Z h0 b "com/example/yuletally/yuletally/engine/Won" "amount" "J" (.long a)) (F1 : Fld Z h0 d "com/example/yuletally/yuletally/engine/Won" "amount" "J" (.long c)) (E1 : Exa Z h0 d "com/example/yuletally/yuletally/engine/Won") :
    Con l Z (⟨"com/example/yuletally/yuletally/engine/Won", "equals", "(Ljava/lang/Object;)Z"⟩ : MethodName) prog_34_method_9_code 2 (some .boolean) [] ({ frames := 0, cells := 0, slots := 0, locals := 0 } : Room) 0 0 #[(.ref b), (.ref d)] h0 (fun v h L => v = some (.int (bI (c = a))) ∧ h = h0 ∧ L = []) := by
  refine Con.of own_pn5 ?_
  intro pg ev s_ m bl mt cd s₁ hx hby hml hown hnm hret hlk hZ X0 e0
  rw [ef_7]
  show Gd _ _ _ _ (s₁.setTop (mkF m 0 #[.val (.ref b), .val (.ref d)] []))
  refine Gd.go (fun _ w_k => XS.aloadN X0.here hx rfl (hb hby d7_0) rfl rfl w_k) ?_
  show Gd _ _ _ _ (s₁.setTop (mkF m 1 #[.val (.ref b), .val (.ref d)] [(.ref d)]))
  obtain ⟨T1, X1, e1, st1⟩ := instY X0 hx hZ hown (hw _ (List.mem_of_getElem? (i := 5) rfl)) e0 (Ins.self E1) (g := (mkF m 1 #[.val (.ref b), .val (.ref d)] [(.ref d)])) rfl rfl (hb hby d7_1)
  refine Gd.go (fun _ w_k => st1 _ w_k) ?_
  show Gd _ _ _ _ (T1.setTop (mkF m 4 #[.val (.ref b), .val (.ref d)] [(.int (1 : Int32))]))
  refine Gd.go (fun _ w_k => XS.ifNo X1.here hx rfl (hb hby d7_4) rfl ((if0 _ _).trans (feq (by decide)).1) w_k) ?_
  show Gd _ _ _ _ (T1.setTop (mkF m 7 #[.val (.ref b), .val (.ref d)] []))
  refine Gd.go (fun _ w_k => XS.aloadN X1.here hx rfl (hb hby d7_7) rfl rfl w_k) ?_
  show Gd _ _ _ _ (T1.setTop (mkF m 8 #[.val (.ref b), .val (.ref d)] [(.ref d)]))
  obtain ⟨T2, X2, e2, st2⟩ := castY X1 hx hZ hown (hw _ (List.mem_of_getElem? (i := 5) rfl)) e1 (Ins.self E1) (g := (mkF m 8 #[.val (.ref b), .val (.ref d)] [(.ref d)])) rfl rfl (hb hby d7_8)
  refine Gd.go (fun _ w_k => st2 _ w_k) ?_
  show Gd _ _ _ _ (T2.setTop (mkF m 11 #[.val (.ref b), .val (.ref d)] [(.ref d)]))
  obtain ⟨T3, X3, e3, st3⟩ := getF X2 hx hZ hown (host := "") (Or.inl (hw _ (List.mem_of_getElem? (i := 13) rfl))) Via.refl e2 F1 (g := (mkF m 11 #[.val (.ref b), .val (.ref d)] [(.ref d)])) rfl rfl (hb hby d7_11)
  refine Gd.go (fun _ w_k => st3 _ w_k) ?_
  show Gd _ _ _ _ (T3.setTop (mkF m 14 #[.val (.ref b), .val (.ref d)] [(.long c)]))
  refine Gd.go (fun _ w_k => XS.aloadN X3.here hx rfl (hb hby d7_14) rfl rfl w_k) ?_
  show Gd _ _ _ _ (T3.setTop (mkF m 15 #[.val (.ref b), .val (.ref d)] [(.ref b), (.long c)]))
  obtain ⟨T4, X4, e4, st4⟩ := getF X3 hx hZ hown (host := "") (Or.inl (hw _ (List.mem_of_getElem? (i := 13) rfl))) Via.refl e3 F0 (g := (mkF m 15 #[.val (.ref b), .val (.ref d)] [(.ref b), (.long c)])) rfl rfl (hb hby d7_15)
  refine Gd.go (fun _ w_k => st4 _ w_k) ?_
  show Gd _ _ _ _ (T4.setTop (mkF m 18 #[.val (.ref b), .val (.ref d)] [(.long a), (.long c)]))
  refine Gd.go (fun _ w_k => XS.lcmp X4.here hx rfl (hb hby d7_18) rfl w_k) ?_
  show Gd _ _ _ _ (T4.setTop (mkF m 19 #[.val (.ref b), .val (.ref d)] [(.int (lcmpW c a))]))
  by_cases hc5 : c = a
  · refine Gd.go (fun _ w_k => XS.ifNo X4.here hx rfl (hb hby d7_19) rfl ((if0 _ _).trans (teq ((lw_eq _ _).mpr hc5)).2) w_k) ?_
    show Gd _ _ _ _ (T4.setTop (mkF m 22 #[.val (.ref b), .val (.ref d)] []))
    refine Gd.go (fun _ w_k => XS.iconst X4.here hx rfl (hb hby d7_22) w_k) ?_
    show Gd _ _ _ _ (T4.setTop (mkF m 23 #[.val (.ref b), .val (.ref d)] [(.int (1 : Int32))]))
    refine Gd.go (fun _ w_k => XS.goto X4.here hx rfl (pc0 := 23) (pc' := 27) rfl (hb hby d7_23) (by decide) (by decide) w_k) ?_
    show Gd _ _ _ _ (T4.setTop (mkF m 27 #[.val (.ref b), .val (.ref d)] [(.int (1 : Int32))]))
    refine own_retN (t := .boolean) X4 hx hret hlk (by simp) (hb hby d7_27) ?_ (by decide) (by decide)
    exact ⟨by rw [bI_o hc5]; rfl, e4, rfl⟩
  · refine Gd.go (fun _ w_k => XS.ifYes X4.here hx rfl (pc0 := 19) (pc' := 26) rfl (hb hby d7_19) rfl ((if0 _ _).trans (feq (fun q => hc5 ((lw_eq _ _).mp q))).2) (by decide) (by decide) w_k) ?_
    show Gd _ _ _ _ (T4.setTop (mkF m 26 #[.val (.ref b), .val (.ref d)] []))
    refine Gd.go (fun _ w_k => XS.iconst X4.here hx rfl (hb hby d7_26) w_k) ?_
    show Gd _ _ _ _ (T4.setTop (mkF m 27 #[.val (.ref b), .val (.ref d)] [(.int (0 : Int32))]))
    refine own_retN (t := .boolean) X4 hx hret hlk (by simp) (hb hby d7_27) ?_ (by decide) (by decide)
    exact ⟨by rw [bI_z hc5]; rfl, e4, rfl⟩
theorem own_pn6 : plainFor x = true := by first | exact plainFor_of_name (by first | (simp [plainName, overriddenIn, x]; done) | decide +kernel) | decide +kernel
theorem ef_0 (m : MethodId) (q0 : Int64) (q1 : Int64) : entryFrame m #[(.long q0), (.long q1)] maxLocals = mkF m 0 #[.val (.long q0), .second, .val (.long q1), .second, .unset, .unset, .unset, .unset, .unset, .unset, .unset, .unset, .unset] [] := by first | (simp [entryFrame, mkF, argsToLocals, Value.category, maxLocals]; done) | rfl
theorem own_pd2 : parseMethodDescriptor "(J)Lcom/example/yuletally/yuletally/engine/Won;" = some ⟨[.long], some (.object "com/example/yuletally/yuletally/engine/Won")⟩ := by decide +kernel
theorem own_pd3 : parseMethodDescriptor "()J" = some ⟨[], some .long⟩ := by decide +kernel
theorem own_pd4 : parseMethodDescriptor "(Lcom/example/yuletally/yuletally/engine/Won;)I" = some ⟨[(.object "com/example/yuletally/yuletally/engine/Won")], some .int⟩ := by decide +kernel
theorem own_pd5 : parseMethodDescriptor "(Ljava/lang/Object;)Z" = some ⟨[(.object "java/lang/Object")], some .boolean⟩ := by decide +kernel
set_option maxRecDepth 65536 in
set_option maxHeartbeats 40000000 in
theorem own_law (l : Launch) (Z : State) (a0 : Array Value) (hw : ∀ d ∈ tables_1, d.before a0 Z = true) (xa ya : Int64) (h0 : Heap) (n0 : Nat) (Z0 : n0 ≤ h0.size) :
    Con l Z x code maxLocals ret tables_1 room_1 16 128 #[(.long xa), (.long ya)] h0 (fun v h L => v = some (.int 1) ∧ Fr n0 L) := by
  refine Con.of own_pn6 ?_
  intro pg ev s_ m bl mt cd s₁ hx hby hml hown hnm hret hlk hZ X0 e0
  rw [ef_0]
  show Gd _ _ _ _ (s₁.setTop (mkF m 0 #[.val (.long xa), .second, .val (.long ya), .second, .unset, .unset, .unset, .unset, .unset, .unset, .unset, .unset, .unset] []))
  refine Gd.go (fun _ w_k => XS.lloadN X0.here hx rfl (hb hby at_0) rfl w_k) ?_
  show Gd _ _ _ _ (s₁.setTop (mkF m 1 #[.val (.long xa), .second, .val (.long ya), .second, .unset, .unset, .unset, .unset, .unset, .unset, .unset, .unset, .unset] [(.long xa)]))
  refine Gd.go (fun _ w_k => X0.ldc2Long hx hown (mvT hZ (hw _ (List.mem_of_getElem? (i := 0) rfl))) (g := (mkF m 1 #[.val (.long xa), .second, .val (.long ya), .second, .unset, .unset, .unset, .unset, .unset, .unset, .unset, .unset, .unset] [(.long xa)])) rfl (hb hby at_1) _ w_k) ?_
  show Gd _ _ _ _ (s₁.setTop (mkF m 4 #[.val (.long xa), .second, .val (.long ya), .second, .unset, .unset, .unset, .unset, .unset, .unset, .unset, .unset, .unset] [(.long (9223372036854775807 : Int64)), (.long xa)]))
  refine Gd.go (fun _ w_k => XS.land X0.here hx rfl (hb hby at_4) rfl w_k) ?_
  show Gd _ _ _ _ (s₁.setTop (mkF m 5 #[.val (.long xa), .second, .val (.long ya), .second, .unset, .unset, .unset, .unset, .unset, .unset, .unset, .unset, .unset] [(.long (xa &&& (9223372036854775807 : Int64)))]))
  have ma := own_mask xa
  generalize (xa &&& (9223372036854775807 : Int64)) = a at ma ⊢
  show Gd _ _ _ _ (s₁.setTop (mkF m 5 #[.val (.long xa), .second, .val (.long ya), .second, .unset, .unset, .unset, .unset, .unset, .unset, .unset, .unset, .unset] [(.long a)]))
  refine Gd.go (fun _ w_k => XS.lstore X0.here hx rfl (hb hby at_5) rfl (l' := #[.val (.long xa), .second, .val (.long ya), .second, .val (.long a), .second, .unset, .unset, .unset, .unset, .unset, .unset, .unset]) rfl w_k) ?_
  show Gd _ _ _ _ (s₁.setTop (mkF m 7 #[.val (.long xa), .second, .val (.long ya), .second, .val (.long a), .second, .unset, .unset, .unset, .unset, .unset, .unset, .unset] []))
  refine Gd.go (fun _ w_k => XS.lloadN X0.here hx rfl (hb hby at_7) rfl w_k) ?_
  show Gd _ _ _ _ (s₁.setTop (mkF m 8 #[.val (.long xa), .second, .val (.long ya), .second, .val (.long a), .second, .unset, .unset, .unset, .unset, .unset, .unset, .unset] [(.long ya)]))
  refine Gd.go (fun _ w_k => X0.ldc2Long hx hown (mvT hZ (hw _ (List.mem_of_getElem? (i := 0) rfl))) (g := (mkF m 8 #[.val (.long xa), .second, .val (.long ya), .second, .val (.long a), .second, .unset, .unset, .unset, .unset, .unset, .unset, .unset] [(.long ya)])) rfl (hb hby at_8) _ w_k) ?_
  show Gd _ _ _ _ (s₁.setTop (mkF m 11 #[.val (.long xa), .second, .val (.long ya), .second, .val (.long a), .second, .unset, .unset, .unset, .unset, .unset, .unset, .unset] [(.long (9223372036854775807 : Int64)), (.long ya)]))
  refine Gd.go (fun _ w_k => XS.land X0.here hx rfl (hb hby at_11) rfl w_k) ?_
  show Gd _ _ _ _ (s₁.setTop (mkF m 12 #[.val (.long xa), .second, .val (.long ya), .second, .val (.long a), .second, .unset, .unset, .unset, .unset, .unset, .unset, .unset] [(.long (ya &&& (9223372036854775807 : Int64)))]))
  have mb := own_mask ya
  generalize (ya &&& (9223372036854775807 : Int64)) = b at mb ⊢
  show Gd _ _ _ _ (s₁.setTop (mkF m 12 #[.val (.long xa), .second, .val (.long ya), .second, .val (.long a), .second, .unset, .unset, .unset, .unset, .unset, .unset, .unset] [(.long b)]))
  refine Gd.go (fun _ w_k => XS.lstore X0.here hx rfl (hb hby at_12) rfl (l' := #[.val (.long xa), .second, .val (.long ya), .second, .val (.long a), .second, .val (.long b), .second, .unset, .unset, .unset, .unset, .unset]) rfl w_k) ?_
  show Gd _ _ _ _ (s₁.setTop (mkF m 14 #[.val (.long xa), .second, .val (.long ya), .second, .val (.long a), .second, .val (.long b), .second, .unset, .unset, .unset, .unset, .unset] []))
  refine Gd.go (fun _ w_k => XS.lload X0.here hx rfl (hb hby at_14) rfl w_k) ?_
  show Gd _ _ _ _ (s₁.setTop (mkF m 16 #[.val (.long xa), .second, .val (.long ya), .second, .val (.long a), .second, .val (.long b), .second, .unset, .unset, .unset, .unset, .unset] [(.long a)]))
  obtain ⟨v1, T1, L1, X1, hQ1, st1⟩ := own_callS X0 hx hZ (y := (⟨"com/example/yuletally/yuletally/engine/Won", "of", "(J)Lcom/example/yuletally/yuletally/engine/Won;"⟩ : MethodName)) hown (hw _ (List.mem_of_getElem? (i := 1) rfl)) (hw _ (List.mem_of_getElem? (i := 2) rfl)) (hw _ (List.mem_of_getElem? (i := 3) rfl)) (hw _ (List.mem_of_getElem? (i := 4) rfl)) (by decide) (W := 0) (own_c1 l Z a0 hw a ma h0 n0 Z0) rfl rfl e0 (by decide) (by decide) (g := (mkF m 16 #[.val (.long xa), .second, .val (.long ya), .second, .val (.long a), .second, .val (.long b), .second, .unset, .unset, .unset, .unset, .unset] [(.long a)])) rfl (by rw [hml]; rfl) (argsL := [(.long a)]) (rest := []) (lenOf own_pd2 rfl) rfl (Nat.le_of_eq rfl) (hb hby at_16) rfl (by decide) (by decide)
  obtain ⟨rfl, K1, E1, F1, N1⟩ := hQ1
  refine Gd.go (fun _ w_k => st1 _ w_k) ?_
  show Gd _ _ _ _ (T1.setTop (mkF m 19 #[.val (.long xa), .second, .val (.long ya), .second, .val (.long a), .second, .val (.long b), .second, .unset, .unset, .unset, .unset, .unset] [(.ref h0.size)]))
  refine Gd.go (fun _ w_k => XS.astore X1.here hx rfl (hb hby at_19) rfl rfl (l' := #[.val (.long xa), .second, .val (.long ya), .second, .val (.long a), .second, .val (.long b), .second, .val (.ref h0.size), .unset, .unset, .unset, .unset]) rfl w_k) ?_
  show Gd _ _ _ _ (T1.setTop (mkF m 21 #[.val (.long xa), .second, .val (.long ya), .second, .val (.long a), .second, .val (.long b), .second, .val (.ref h0.size), .unset, .unset, .unset, .unset] []))
  refine Gd.go (fun _ w_k => XS.lload X1.here hx rfl (hb hby at_21) rfl w_k) ?_
  show Gd _ _ _ _ (T1.setTop (mkF m 23 #[.val (.long xa), .second, .val (.long ya), .second, .val (.long a), .second, .val (.long b), .second, .val (.ref h0.size), .unset, .unset, .unset, .unset] [(.long b)]))
  have Z1 := Nat.le_trans Z0 K1.1
  obtain ⟨v2, T2, L2, X2, hQ2, st2⟩ := own_callS X1 hx hZ (y := (⟨"com/example/yuletally/yuletally/engine/Won", "of", "(J)Lcom/example/yuletally/yuletally/engine/Won;"⟩ : MethodName)) hown (hw _ (List.mem_of_getElem? (i := 1) rfl)) (hw _ (List.mem_of_getElem? (i := 2) rfl)) (hw _ (List.mem_of_getElem? (i := 3) rfl)) (hw _ (List.mem_of_getElem? (i := 4) rfl)) (by decide) (W := 0) (own_c1 l Z a0 hw b mb T1.heap n0 Z1) rfl rfl rfl (by decide) (by decide) (g := (mkF m 23 #[.val (.long xa), .second, .val (.long ya), .second, .val (.long a), .second, .val (.long b), .second, .val (.ref h0.size), .unset, .unset, .unset, .unset] [(.long b)])) rfl (by rw [hml]; rfl) (argsL := [(.long b)]) (rest := []) (lenOf own_pd2 rfl) rfl (Nat.le_of_eq rfl) (hb hby at_23) rfl (by decide) (by decide)
  obtain ⟨rfl, K2, E2, F2, N2⟩ := hQ2
  refine Gd.go (fun _ w_k => st2 _ w_k) ?_
  show Gd _ _ _ _ (T2.setTop (mkF m 26 #[.val (.long xa), .second, .val (.long ya), .second, .val (.long a), .second, .val (.long b), .second, .val (.ref h0.size), .unset, .unset, .unset, .unset] [(.ref T1.heap.size)]))
  have E3 := E1.keep K2
  have F3 := F1.keep K2 nin0
  have N3 := Fr.app N1 N2
  refine Gd.go (fun _ w_k => XS.astore X2.here hx rfl (hb hby at_26) rfl rfl (l' := #[.val (.long xa), .second, .val (.long ya), .second, .val (.long a), .second, .val (.long b), .second, .val (.ref h0.size), .val (.ref T1.heap.size), .unset, .unset, .unset]) rfl w_k) ?_
  show Gd _ _ _ _ (T2.setTop (mkF m 28 #[.val (.long xa), .second, .val (.long ya), .second, .val (.long a), .second, .val (.long b), .second, .val (.ref h0.size), .val (.ref T1.heap.size), .unset, .unset, .unset] []))
  refine Gd.go (fun _ w_k => XS.aload X2.here hx rfl (hb hby at_28) rfl rfl w_k) ?_
  show Gd _ _ _ _ (T2.setTop (mkF m 30 #[.val (.long xa), .second, .val (.long ya), .second, .val (.long a), .second, .val (.long b), .second, .val (.ref h0.size), .val (.ref T1.heap.size), .unset, .unset, .unset] [(.ref h0.size)]))
  obtain ⟨T3, X3, e3, st3⟩ := own_callVP X2 hx hZ (C := "com/example/yuletally/yuletally/engine/Won") (y := (⟨"com/example/yuletally/yuletally/engine/Won", "amount", "()J"⟩ : MethodName)) hown (hw _ (List.mem_of_getElem? (i := 15) rfl)) (hw _ (List.mem_of_getElem? (i := 16) rfl)) (hw _ (List.mem_of_getElem? (i := 18) rfl)) (hw _ (List.mem_of_getElem? (i := 17) rfl)) (hw _ (List.mem_of_getElem? (i := 3) rfl)) (hw _ (List.mem_of_getElem? (i := 19) rfl)) (by decide) E3 (W := 0) (own_c4 l Z a0 hw h0.size a T2.heap F3) rfl rfl rfl (by decide) (by decide) (g := (mkF m 30 #[.val (.long xa), .second, .val (.long ya), .second, .val (.long a), .second, .val (.long b), .second, .val (.ref h0.size), .val (.ref T1.heap.size), .unset, .unset, .unset] [(.ref h0.size)])) rfl (by rw [hml]; rfl) (argsL := []) (rest := []) (lenOf own_pd3 rfl) rfl (Nat.le_of_eq rfl) (hb hby at_30) rfl
  refine Gd.go (fun _ w_k => st3 _ w_k) ?_
  show Gd _ _ _ _ (T3.setTop (mkF m 33 #[.val (.long xa), .second, .val (.long ya), .second, .val (.long a), .second, .val (.long b), .second, .val (.ref h0.size), .val (.ref T1.heap.size), .unset, .unset, .unset] [(.long a)]))
  refine Gd.go (fun _ w_k => XS.lload X3.here hx rfl (hb hby at_33) rfl w_k) ?_
  show Gd _ _ _ _ (T3.setTop (mkF m 35 #[.val (.long xa), .second, .val (.long ya), .second, .val (.long a), .second, .val (.long b), .second, .val (.ref h0.size), .val (.ref T1.heap.size), .unset, .unset, .unset] [(.long a), (.long a)]))
  refine Gd.go (fun _ w_k => XS.lcmp X3.here hx rfl (hb hby at_35) rfl w_k) ?_
  show Gd _ _ _ _ (T3.setTop (mkF m 36 #[.val (.long xa), .second, .val (.long ya), .second, .val (.long a), .second, .val (.long b), .second, .val (.ref h0.size), .val (.ref T1.heap.size), .unset, .unset, .unset] [(.int (lcmpW a a))]))
  refine Gd.go (fun _ w_k => XS.ifYes X3.here hx rfl (pc0 := 36) (pc' := 41) rfl (hb hby at_36) rfl ((if0 _ _).trans (teq ((lw_eq _ _).mpr rfl)).1) (by decide) (by decide) w_k) ?_
  show Gd _ _ _ _ (T3.setTop (mkF m 41 #[.val (.long xa), .second, .val (.long ya), .second, .val (.long a), .second, .val (.long b), .second, .val (.ref h0.size), .val (.ref T1.heap.size), .unset, .unset, .unset] []))
  refine Gd.go (fun _ w_k => XS.aload X3.here hx rfl (hb hby at_41) rfl rfl w_k) ?_
  show Gd _ _ _ _ (T3.setTop (mkF m 43 #[.val (.long xa), .second, .val (.long ya), .second, .val (.long a), .second, .val (.long b), .second, .val (.ref h0.size), .val (.ref T1.heap.size), .unset, .unset, .unset] [(.ref T1.heap.size)]))
  obtain ⟨T4, X4, e4, st4⟩ := own_callVP X3 hx hZ (C := "com/example/yuletally/yuletally/engine/Won") (y := (⟨"com/example/yuletally/yuletally/engine/Won", "amount", "()J"⟩ : MethodName)) hown (hw _ (List.mem_of_getElem? (i := 15) rfl)) (hw _ (List.mem_of_getElem? (i := 16) rfl)) (hw _ (List.mem_of_getElem? (i := 18) rfl)) (hw _ (List.mem_of_getElem? (i := 17) rfl)) (hw _ (List.mem_of_getElem? (i := 3) rfl)) (hw _ (List.mem_of_getElem? (i := 19) rfl)) (by decide) E2 (W := 0) (own_c4 l Z a0 hw T1.heap.size b T2.heap F2) rfl rfl e3 (by decide) (by decide) (g := (mkF m 43 #[.val (.long xa), .second, .val (.long ya), .second, .val (.long a), .second, .val (.long b), .second, .val (.ref h0.size), .val (.ref T1.heap.size), .unset, .unset, .unset] [(.ref T1.heap.size)])) rfl (by rw [hml]; rfl) (argsL := []) (rest := []) (lenOf own_pd3 rfl) rfl (Nat.le_of_eq rfl) (hb hby at_43) rfl
  refine Gd.go (fun _ w_k => st4 _ w_k) ?_
  show Gd _ _ _ _ (T4.setTop (mkF m 46 #[.val (.long xa), .second, .val (.long ya), .second, .val (.long a), .second, .val (.long b), .second, .val (.ref h0.size), .val (.ref T1.heap.size), .unset, .unset, .unset] [(.long b)]))
  refine Gd.go (fun _ w_k => XS.lload X4.here hx rfl (hb hby at_46) rfl w_k) ?_
  show Gd _ _ _ _ (T4.setTop (mkF m 48 #[.val (.long xa), .second, .val (.long ya), .second, .val (.long a), .second, .val (.long b), .second, .val (.ref h0.size), .val (.ref T1.heap.size), .unset, .unset, .unset] [(.long b), (.long b)]))
  refine Gd.go (fun _ w_k => XS.lcmp X4.here hx rfl (hb hby at_48) rfl w_k) ?_
  show Gd _ _ _ _ (T4.setTop (mkF m 49 #[.val (.long xa), .second, .val (.long ya), .second, .val (.long a), .second, .val (.long b), .second, .val (.ref h0.size), .val (.ref T1.heap.size), .unset, .unset, .unset] [(.int (lcmpW b b))]))
  refine Gd.go (fun _ w_k => XS.ifYes X4.here hx rfl (pc0 := 49) (pc' := 54) rfl (hb hby at_49) rfl ((if0 _ _).trans (teq ((lw_eq _ _).mpr rfl)).1) (by decide) (by decide) w_k) ?_
  show Gd _ _ _ _ (T4.setTop (mkF m 54 #[.val (.long xa), .second, .val (.long ya), .second, .val (.long a), .second, .val (.long b), .second, .val (.ref h0.size), .val (.ref T1.heap.size), .unset, .unset, .unset] []))
  refine Gd.go (fun _ w_k => XS.aload X4.here hx rfl (hb hby at_54) rfl rfl w_k) ?_
  show Gd _ _ _ _ (T4.setTop (mkF m 56 #[.val (.long xa), .second, .val (.long ya), .second, .val (.long a), .second, .val (.long b), .second, .val (.ref h0.size), .val (.ref T1.heap.size), .unset, .unset, .unset] [(.ref h0.size)]))
  refine Gd.go (fun _ w_k => XS.aload X4.here hx rfl (hb hby at_56) rfl rfl w_k) ?_
  show Gd _ _ _ _ (T4.setTop (mkF m 58 #[.val (.long xa), .second, .val (.long ya), .second, .val (.long a), .second, .val (.long b), .second, .val (.ref h0.size), .val (.ref T1.heap.size), .unset, .unset, .unset] [(.ref T1.heap.size), (.ref h0.size)]))
  obtain ⟨T5, X5, e5, st5⟩ := own_callVP X4 hx hZ (C := "com/example/yuletally/yuletally/engine/Won") (y := (⟨"com/example/yuletally/yuletally/engine/Won", "compareTo", "(Lcom/example/yuletally/yuletally/engine/Won;)I"⟩ : MethodName)) hown (hw _ (List.mem_of_getElem? (i := 20) rfl)) (hw _ (List.mem_of_getElem? (i := 21) rfl)) (hw _ (List.mem_of_getElem? (i := 23) rfl)) (hw _ (List.mem_of_getElem? (i := 22) rfl)) (hw _ (List.mem_of_getElem? (i := 3) rfl)) (hw _ (List.mem_of_getElem? (i := 24) rfl)) (by decide) E3 (W := 0) (own_c5 l Z a0 hw h0.size T1.heap.size a b T2.heap F3 F2) rfl rfl e4 (by decide) (by decide) (g := (mkF m 58 #[.val (.long xa), .second, .val (.long ya), .second, .val (.long a), .second, .val (.long b), .second, .val (.ref h0.size), .val (.ref T1.heap.size), .unset, .unset, .unset] [(.ref T1.heap.size), (.ref h0.size)])) rfl (by rw [hml]; rfl) (argsL := [(.ref T1.heap.size)]) (rest := []) (lenOf own_pd4 rfl) rfl (Nat.le_of_eq rfl) (hb hby at_58) rfl
  refine Gd.go (fun _ w_k => st5 _ w_k) ?_
  show Gd _ _ _ _ (T5.setTop (mkF m 61 #[.val (.long xa), .second, .val (.long ya), .second, .val (.long a), .second, .val (.long b), .second, .val (.ref h0.size), .val (.ref T1.heap.size), .unset, .unset, .unset] [(.int (own_cmp a b))]))
  refine Gd.go (fun _ w_k => XS.istore X5.here hx rfl (hb hby at_61) rfl (l' := #[.val (.long xa), .second, .val (.long ya), .second, .val (.long a), .second, .val (.long b), .second, .val (.ref h0.size), .val (.ref T1.heap.size), .val (.int (own_cmp a b)), .unset, .unset]) rfl w_k) ?_
  show Gd _ _ _ _ (T5.setTop (mkF m 63 #[.val (.long xa), .second, .val (.long ya), .second, .val (.long a), .second, .val (.long b), .second, .val (.ref h0.size), .val (.ref T1.heap.size), .val (.int (own_cmp a b)), .unset, .unset] []))
  refine Gd.go (fun _ w_k => XS.lload X5.here hx rfl (hb hby at_63) rfl w_k) ?_
  show Gd _ _ _ _ (T5.setTop (mkF m 65 #[.val (.long xa), .second, .val (.long ya), .second, .val (.long a), .second, .val (.long b), .second, .val (.ref h0.size), .val (.ref T1.heap.size), .val (.int (own_cmp a b)), .unset, .unset] [(.long a)]))
  refine Gd.go (fun _ w_k => XS.lload X5.here hx rfl (hb hby at_65) rfl w_k) ?_
  show Gd _ _ _ _ (T5.setTop (mkF m 67 #[.val (.long xa), .second, .val (.long ya), .second, .val (.long a), .second, .val (.long b), .second, .val (.ref h0.size), .val (.ref T1.heap.size), .val (.int (own_cmp a b)), .unset, .unset] [(.long b), (.long a)]))
  refine Gd.go (fun _ w_k => XS.lcmp X5.here hx rfl (hb hby at_67) rfl w_k) ?_
  show Gd _ _ _ _ (T5.setTop (mkF m 68 #[.val (.long xa), .second, .val (.long ya), .second, .val (.long a), .second, .val (.long b), .second, .val (.ref h0.size), .val (.ref T1.heap.size), .val (.int (own_cmp a b)), .unset, .unset] [(.int (lcmpW a b))]))
  by_cases hc6 : a < b
  · refine Gd.go (fun _ w_k => XS.ifNo X5.here hx rfl (hb hby at_68) rfl ((if0 _ _).trans (tlt ((lw_lt _ _).mpr hc6)).2.1) w_k) ?_
    show Gd _ _ _ _ (T5.setTop (mkF m 71 #[.val (.long xa), .second, .val (.long ya), .second, .val (.long a), .second, .val (.long b), .second, .val (.ref h0.size), .val (.ref T1.heap.size), .val (.int (own_cmp a b)), .unset, .unset] []))
    refine Gd.go (fun _ w_k => XS.iload X5.here hx rfl (hb hby at_71) rfl w_k) ?_
    show Gd _ _ _ _ (T5.setTop (mkF m 73 #[.val (.long xa), .second, .val (.long ya), .second, .val (.long a), .second, .val (.long b), .second, .val (.ref h0.size), .val (.ref T1.heap.size), .val (.int (own_cmp a b)), .unset, .unset] [(.int (own_cmp a b))]))
    refine Gd.go (fun _ w_k => XS.ifNo X5.here hx rfl (hb hby at_73) rfl ((if0 _ _).trans (tlt (own_cmp_lt hc6)).2.1) w_k) ?_
    show Gd _ _ _ _ (T5.setTop (mkF m 76 #[.val (.long xa), .second, .val (.long ya), .second, .val (.long a), .second, .val (.long b), .second, .val (.ref h0.size), .val (.ref T1.heap.size), .val (.int (own_cmp a b)), .unset, .unset] []))
    refine Gd.go (fun _ w_k => XS.iconst X5.here hx rfl (hb hby at_76) w_k) ?_
    show Gd _ _ _ _ (T5.setTop (mkF m 77 #[.val (.long xa), .second, .val (.long ya), .second, .val (.long a), .second, .val (.long b), .second, .val (.ref h0.size), .val (.ref T1.heap.size), .val (.int (own_cmp a b)), .unset, .unset] [(.int (1 : Int32))]))
    refine Gd.go (fun _ w_k => XS.goto X5.here hx rfl (pc0 := 77) (pc' := 81) rfl (hb hby at_77) (by decide) (by decide) w_k) ?_
    show Gd _ _ _ _ (T5.setTop (mkF m 81 #[.val (.long xa), .second, .val (.long ya), .second, .val (.long a), .second, .val (.long b), .second, .val (.ref h0.size), .val (.ref T1.heap.size), .val (.int (own_cmp a b)), .unset, .unset] [(.int (1 : Int32))]))
    refine Gd.go (fun _ w_k => XS.istore X5.here hx rfl (hb hby at_81) rfl (l' := #[.val (.long xa), .second, .val (.long ya), .second, .val (.long a), .second, .val (.long b), .second, .val (.ref h0.size), .val (.ref T1.heap.size), .val (.int (own_cmp a b)), .val (.int (1 : Int32)), .unset]) rfl w_k) ?_
    show Gd _ _ _ _ (T5.setTop (mkF m 83 #[.val (.long xa), .second, .val (.long ya), .second, .val (.long a), .second, .val (.long b), .second, .val (.ref h0.size), .val (.ref T1.heap.size), .val (.int (own_cmp a b)), .val (.int (1 : Int32)), .unset] []))
    refine Gd.go (fun _ w_k => XS.goto X5.here hx rfl (pc0 := 83) (pc' := 121) rfl (hb hby at_83) (by decide) (by decide) w_k) ?_
    show Gd _ _ _ _ (T5.setTop (mkF m 121 #[.val (.long xa), .second, .val (.long ya), .second, .val (.long a), .second, .val (.long b), .second, .val (.ref h0.size), .val (.ref T1.heap.size), .val (.int (own_cmp a b)), .val (.int (1 : Int32)), .unset] []))
    refine Gd.go (fun _ w_k => XS.aload X5.here hx rfl (hb hby at_121) rfl rfl w_k) ?_
    show Gd _ _ _ _ (T5.setTop (mkF m 123 #[.val (.long xa), .second, .val (.long ya), .second, .val (.long a), .second, .val (.long b), .second, .val (.ref h0.size), .val (.ref T1.heap.size), .val (.int (own_cmp a b)), .val (.int (1 : Int32)), .unset] [(.ref h0.size)]))
    refine Gd.go (fun _ w_k => XS.aload X5.here hx rfl (hb hby at_123) rfl rfl w_k) ?_
    show Gd _ _ _ _ (T5.setTop (mkF m 125 #[.val (.long xa), .second, .val (.long ya), .second, .val (.long a), .second, .val (.long b), .second, .val (.ref h0.size), .val (.ref T1.heap.size), .val (.int (own_cmp a b)), .val (.int (1 : Int32)), .unset] [(.ref T1.heap.size), (.ref h0.size)]))
    obtain ⟨T7, X7, e7, st7⟩ := own_callVP X5 hx hZ (C := "com/example/yuletally/yuletally/engine/Won") (y := (⟨"com/example/yuletally/yuletally/engine/Won", "equals", "(Ljava/lang/Object;)Z"⟩ : MethodName)) hown (hw _ (List.mem_of_getElem? (i := 29) rfl)) (hw _ (List.mem_of_getElem? (i := 30) rfl)) (hw _ (List.mem_of_getElem? (i := 32) rfl)) (hw _ (List.mem_of_getElem? (i := 31) rfl)) (hw _ (List.mem_of_getElem? (i := 3) rfl)) (hw _ (List.mem_of_getElem? (i := 33) rfl)) (by decide) E3 (W := 0) (own_c7 l Z a0 hw h0.size T1.heap.size a b T2.heap F3 F2 E2) rfl rfl e5 (by decide) (by decide) (g := (mkF m 125 #[.val (.long xa), .second, .val (.long ya), .second, .val (.long a), .second, .val (.long b), .second, .val (.ref h0.size), .val (.ref T1.heap.size), .val (.int (own_cmp a b)), .val (.int (1 : Int32)), .unset] [(.ref T1.heap.size), (.ref h0.size)])) rfl (by rw [hml]; rfl) (argsL := [(.ref T1.heap.size)]) (rest := []) (lenOf own_pd5 rfl) rfl (Nat.le_of_eq rfl) (hb hby at_125) rfl
    refine Gd.go (fun _ w_k => st7 _ w_k) ?_
    show Gd _ _ _ _ (T7.setTop (mkF m 128 #[.val (.long xa), .second, .val (.long ya), .second, .val (.long a), .second, .val (.long b), .second, .val (.ref h0.size), .val (.ref T1.heap.size), .val (.int (own_cmp a b)), .val (.int (1 : Int32)), .unset] [(.int (bI (b = a)))]))
    refine Gd.go (fun _ w_k => XS.lload X7.here hx rfl (hb hby at_128) rfl w_k) ?_
    show Gd _ _ _ _ (T7.setTop (mkF m 130 #[.val (.long xa), .second, .val (.long ya), .second, .val (.long a), .second, .val (.long b), .second, .val (.ref h0.size), .val (.ref T1.heap.size), .val (.int (own_cmp a b)), .val (.int (1 : Int32)), .unset] [(.long a), (.int (bI (b = a)))]))
    refine Gd.go (fun _ w_k => XS.lload X7.here hx rfl (hb hby at_130) rfl w_k) ?_
    show Gd _ _ _ _ (T7.setTop (mkF m 132 #[.val (.long xa), .second, .val (.long ya), .second, .val (.long a), .second, .val (.long b), .second, .val (.ref h0.size), .val (.ref T1.heap.size), .val (.int (own_cmp a b)), .val (.int (1 : Int32)), .unset] [(.long b), (.long a), (.int (bI (b = a)))]))
    refine Gd.go (fun _ w_k => XS.lcmp X7.here hx rfl (hb hby at_132) rfl w_k) ?_
    show Gd _ _ _ _ (T7.setTop (mkF m 133 #[.val (.long xa), .second, .val (.long ya), .second, .val (.long a), .second, .val (.long b), .second, .val (.ref h0.size), .val (.ref T1.heap.size), .val (.int (own_cmp a b)), .val (.int (1 : Int32)), .unset] [(.int (lcmpW a b)), (.int (bI (b = a)))]))
    refine Gd.go (fun _ w_k => XS.ifYes X7.here hx rfl (pc0 := 133) (pc' := 140) rfl (hb hby at_133) rfl ((if0 _ _).trans (feq (fun q => (own_ne_lt hc6) ((lw_eq _ _).mp q))).2) (by decide) (by decide) w_k) ?_
    show Gd _ _ _ _ (T7.setTop (mkF m 140 #[.val (.long xa), .second, .val (.long ya), .second, .val (.long a), .second, .val (.long b), .second, .val (.ref h0.size), .val (.ref T1.heap.size), .val (.int (own_cmp a b)), .val (.int (1 : Int32)), .unset] [(.int (bI (b = a)))]))
    refine Gd.go (fun _ w_k => XS.iconst X7.here hx rfl (hb hby at_140) w_k) ?_
    show Gd _ _ _ _ (T7.setTop (mkF m 141 #[.val (.long xa), .second, .val (.long ya), .second, .val (.long a), .second, .val (.long b), .second, .val (.ref h0.size), .val (.ref T1.heap.size), .val (.int (own_cmp a b)), .val (.int (1 : Int32)), .unset] [(.int (0 : Int32)), (.int (bI (b = a)))]))
    refine Gd.go (fun _ w_k => XS.icmpNo X7.here hx rfl (hb hby at_141) rfl (teq (bI_z (own_ne_gt hc6))).2 w_k) ?_
    show Gd _ _ _ _ (T7.setTop (mkF m 144 #[.val (.long xa), .second, .val (.long ya), .second, .val (.long a), .second, .val (.long b), .second, .val (.ref h0.size), .val (.ref T1.heap.size), .val (.int (own_cmp a b)), .val (.int (1 : Int32)), .unset] []))
    refine Gd.go (fun _ w_k => XS.iconst X7.here hx rfl (hb hby at_144) w_k) ?_
    show Gd _ _ _ _ (T7.setTop (mkF m 145 #[.val (.long xa), .second, .val (.long ya), .second, .val (.long a), .second, .val (.long b), .second, .val (.ref h0.size), .val (.ref T1.heap.size), .val (.int (own_cmp a b)), .val (.int (1 : Int32)), .unset] [(.int (1 : Int32))]))
    refine Gd.go (fun _ w_k => XS.goto X7.here hx rfl (pc0 := 145) (pc' := 149) rfl (hb hby at_145) (by decide) (by decide) w_k) ?_
    show Gd _ _ _ _ (T7.setTop (mkF m 149 #[.val (.long xa), .second, .val (.long ya), .second, .val (.long a), .second, .val (.long b), .second, .val (.ref h0.size), .val (.ref T1.heap.size), .val (.int (own_cmp a b)), .val (.int (1 : Int32)), .unset] [(.int (1 : Int32))]))
    refine Gd.go (fun _ w_k => XS.istore X7.here hx rfl (hb hby at_149) rfl (l' := #[.val (.long xa), .second, .val (.long ya), .second, .val (.long a), .second, .val (.long b), .second, .val (.ref h0.size), .val (.ref T1.heap.size), .val (.int (own_cmp a b)), .val (.int (1 : Int32)), .val (.int (1 : Int32))]) rfl w_k) ?_
    show Gd _ _ _ _ (T7.setTop (mkF m 151 #[.val (.long xa), .second, .val (.long ya), .second, .val (.long a), .second, .val (.long b), .second, .val (.ref h0.size), .val (.ref T1.heap.size), .val (.int (own_cmp a b)), .val (.int (1 : Int32)), .val (.int (1 : Int32))] []))
    refine Gd.go (fun _ w_k => XS.iload X7.here hx rfl (hb hby at_151) rfl w_k) ?_
    show Gd _ _ _ _ (T7.setTop (mkF m 153 #[.val (.long xa), .second, .val (.long ya), .second, .val (.long a), .second, .val (.long b), .second, .val (.ref h0.size), .val (.ref T1.heap.size), .val (.int (own_cmp a b)), .val (.int (1 : Int32)), .val (.int (1 : Int32))] [(.int (1 : Int32))]))
    refine Gd.go (fun _ w_k => XS.ifNo X7.here hx rfl (hb hby at_153) rfl ((if0 _ _).trans (feq (by decide)).1) w_k) ?_
    show Gd _ _ _ _ (T7.setTop (mkF m 156 #[.val (.long xa), .second, .val (.long ya), .second, .val (.long a), .second, .val (.long b), .second, .val (.ref h0.size), .val (.ref T1.heap.size), .val (.int (own_cmp a b)), .val (.int (1 : Int32)), .val (.int (1 : Int32))] []))
    refine Gd.go (fun _ w_k => XS.iload X7.here hx rfl (hb hby at_156) rfl w_k) ?_
    show Gd _ _ _ _ (T7.setTop (mkF m 158 #[.val (.long xa), .second, .val (.long ya), .second, .val (.long a), .second, .val (.long b), .second, .val (.ref h0.size), .val (.ref T1.heap.size), .val (.int (own_cmp a b)), .val (.int (1 : Int32)), .val (.int (1 : Int32))] [(.int (1 : Int32))]))
    refine Gd.go (fun _ w_k => XS.ifNo X7.here hx rfl (hb hby at_158) rfl ((if0 _ _).trans (feq (by decide)).1) w_k) ?_
    show Gd _ _ _ _ (T7.setTop (mkF m 161 #[.val (.long xa), .second, .val (.long ya), .second, .val (.long a), .second, .val (.long b), .second, .val (.ref h0.size), .val (.ref T1.heap.size), .val (.int (own_cmp a b)), .val (.int (1 : Int32)), .val (.int (1 : Int32))] []))
    refine Gd.go (fun _ w_k => XS.iconst X7.here hx rfl (hb hby at_161) w_k) ?_
    show Gd _ _ _ _ (T7.setTop (mkF m 162 #[.val (.long xa), .second, .val (.long ya), .second, .val (.long a), .second, .val (.long b), .second, .val (.ref h0.size), .val (.ref T1.heap.size), .val (.int (own_cmp a b)), .val (.int (1 : Int32)), .val (.int (1 : Int32))] [(.int (1 : Int32))]))
    refine Gd.go (fun _ w_k => XS.goto X7.here hx rfl (pc0 := 162) (pc' := 166) rfl (hb hby at_162) (by decide) (by decide) w_k) ?_
    show Gd _ _ _ _ (T7.setTop (mkF m 166 #[.val (.long xa), .second, .val (.long ya), .second, .val (.long a), .second, .val (.long b), .second, .val (.ref h0.size), .val (.ref T1.heap.size), .val (.int (own_cmp a b)), .val (.int (1 : Int32)), .val (.int (1 : Int32))] [(.int (1 : Int32))]))
    refine own_retN (t := .boolean) X7 hx hret hlk (by simp) (hb hby at_166) ?_ (by decide) (by decide)
    exact ⟨rfl, N3⟩
  · refine Gd.go (fun _ w_k => XS.ifYes X5.here hx rfl (pc0 := 68) (pc' := 86) rfl (hb hby at_68) rfl ((if0 _ _).trans (flt (fun q => hc6 ((lw_lt _ _).mp q))).2.1) (by decide) (by decide) w_k) ?_
    show Gd _ _ _ _ (T5.setTop (mkF m 86 #[.val (.long xa), .second, .val (.long ya), .second, .val (.long a), .second, .val (.long b), .second, .val (.ref h0.size), .val (.ref T1.heap.size), .val (.int (own_cmp a b)), .unset, .unset] []))
    refine Gd.go (fun _ w_k => XS.lload X5.here hx rfl (hb hby at_86) rfl w_k) ?_
    show Gd _ _ _ _ (T5.setTop (mkF m 88 #[.val (.long xa), .second, .val (.long ya), .second, .val (.long a), .second, .val (.long b), .second, .val (.ref h0.size), .val (.ref T1.heap.size), .val (.int (own_cmp a b)), .unset, .unset] [(.long a)]))
    refine Gd.go (fun _ w_k => XS.lload X5.here hx rfl (hb hby at_88) rfl w_k) ?_
    show Gd _ _ _ _ (T5.setTop (mkF m 90 #[.val (.long xa), .second, .val (.long ya), .second, .val (.long a), .second, .val (.long b), .second, .val (.ref h0.size), .val (.ref T1.heap.size), .val (.int (own_cmp a b)), .unset, .unset] [(.long b), (.long a)]))
    refine Gd.go (fun _ w_k => XS.lcmp X5.here hx rfl (hb hby at_90) rfl w_k) ?_
    show Gd _ _ _ _ (T5.setTop (mkF m 91 #[.val (.long xa), .second, .val (.long ya), .second, .val (.long a), .second, .val (.long b), .second, .val (.ref h0.size), .val (.ref T1.heap.size), .val (.int (own_cmp a b)), .unset, .unset] [(.int (lcmpW a b))]))
    by_cases hc8 : b < a
    · refine Gd.go (fun _ w_k => XS.ifNo X5.here hx rfl (hb hby at_91) rfl ((if0 _ _).trans (tlt ((lw_gt _ _).mpr hc8)).2.2.2) w_k) ?_
      show Gd _ _ _ _ (T5.setTop (mkF m 94 #[.val (.long xa), .second, .val (.long ya), .second, .val (.long a), .second, .val (.long b), .second, .val (.ref h0.size), .val (.ref T1.heap.size), .val (.int (own_cmp a b)), .unset, .unset] []))
      refine Gd.go (fun _ w_k => XS.iload X5.here hx rfl (hb hby at_94) rfl w_k) ?_
      show Gd _ _ _ _ (T5.setTop (mkF m 96 #[.val (.long xa), .second, .val (.long ya), .second, .val (.long a), .second, .val (.long b), .second, .val (.ref h0.size), .val (.ref T1.heap.size), .val (.int (own_cmp a b)), .unset, .unset] [(.int (own_cmp a b))]))
      refine Gd.go (fun _ w_k => XS.ifNo X5.here hx rfl (hb hby at_96) rfl ((if0 _ _).trans (tlt (own_cmp_gt hc6 hc8)).2.2.2) w_k) ?_
      show Gd _ _ _ _ (T5.setTop (mkF m 99 #[.val (.long xa), .second, .val (.long ya), .second, .val (.long a), .second, .val (.long b), .second, .val (.ref h0.size), .val (.ref T1.heap.size), .val (.int (own_cmp a b)), .unset, .unset] []))
      refine Gd.go (fun _ w_k => XS.iconst X5.here hx rfl (hb hby at_99) w_k) ?_
      show Gd _ _ _ _ (T5.setTop (mkF m 100 #[.val (.long xa), .second, .val (.long ya), .second, .val (.long a), .second, .val (.long b), .second, .val (.ref h0.size), .val (.ref T1.heap.size), .val (.int (own_cmp a b)), .unset, .unset] [(.int (1 : Int32))]))
      refine Gd.go (fun _ w_k => XS.goto X5.here hx rfl (pc0 := 100) (pc' := 104) rfl (hb hby at_100) (by decide) (by decide) w_k) ?_
      show Gd _ _ _ _ (T5.setTop (mkF m 104 #[.val (.long xa), .second, .val (.long ya), .second, .val (.long a), .second, .val (.long b), .second, .val (.ref h0.size), .val (.ref T1.heap.size), .val (.int (own_cmp a b)), .unset, .unset] [(.int (1 : Int32))]))
      refine Gd.go (fun _ w_k => XS.istore X5.here hx rfl (hb hby at_104) rfl (l' := #[.val (.long xa), .second, .val (.long ya), .second, .val (.long a), .second, .val (.long b), .second, .val (.ref h0.size), .val (.ref T1.heap.size), .val (.int (own_cmp a b)), .val (.int (1 : Int32)), .unset]) rfl w_k) ?_
      show Gd _ _ _ _ (T5.setTop (mkF m 106 #[.val (.long xa), .second, .val (.long ya), .second, .val (.long a), .second, .val (.long b), .second, .val (.ref h0.size), .val (.ref T1.heap.size), .val (.int (own_cmp a b)), .val (.int (1 : Int32)), .unset] []))
      refine Gd.go (fun _ w_k => XS.goto X5.here hx rfl (pc0 := 106) (pc' := 121) rfl (hb hby at_106) (by decide) (by decide) w_k) ?_
      show Gd _ _ _ _ (T5.setTop (mkF m 121 #[.val (.long xa), .second, .val (.long ya), .second, .val (.long a), .second, .val (.long b), .second, .val (.ref h0.size), .val (.ref T1.heap.size), .val (.int (own_cmp a b)), .val (.int (1 : Int32)), .unset] []))
      refine Gd.go (fun _ w_k => XS.aload X5.here hx rfl (hb hby at_121) rfl rfl w_k) ?_
      show Gd _ _ _ _ (T5.setTop (mkF m 123 #[.val (.long xa), .second, .val (.long ya), .second, .val (.long a), .second, .val (.long b), .second, .val (.ref h0.size), .val (.ref T1.heap.size), .val (.int (own_cmp a b)), .val (.int (1 : Int32)), .unset] [(.ref h0.size)]))
      refine Gd.go (fun _ w_k => XS.aload X5.here hx rfl (hb hby at_123) rfl rfl w_k) ?_
      show Gd _ _ _ _ (T5.setTop (mkF m 125 #[.val (.long xa), .second, .val (.long ya), .second, .val (.long a), .second, .val (.long b), .second, .val (.ref h0.size), .val (.ref T1.heap.size), .val (.int (own_cmp a b)), .val (.int (1 : Int32)), .unset] [(.ref T1.heap.size), (.ref h0.size)]))
      obtain ⟨T9, X9, e9, st9⟩ := own_callVP X5 hx hZ (C := "com/example/yuletally/yuletally/engine/Won") (y := (⟨"com/example/yuletally/yuletally/engine/Won", "equals", "(Ljava/lang/Object;)Z"⟩ : MethodName)) hown (hw _ (List.mem_of_getElem? (i := 29) rfl)) (hw _ (List.mem_of_getElem? (i := 30) rfl)) (hw _ (List.mem_of_getElem? (i := 32) rfl)) (hw _ (List.mem_of_getElem? (i := 31) rfl)) (hw _ (List.mem_of_getElem? (i := 3) rfl)) (hw _ (List.mem_of_getElem? (i := 33) rfl)) (by decide) E3 (W := 0) (own_c7 l Z a0 hw h0.size T1.heap.size a b T2.heap F3 F2 E2) rfl rfl e5 (by decide) (by decide) (g := (mkF m 125 #[.val (.long xa), .second, .val (.long ya), .second, .val (.long a), .second, .val (.long b), .second, .val (.ref h0.size), .val (.ref T1.heap.size), .val (.int (own_cmp a b)), .val (.int (1 : Int32)), .unset] [(.ref T1.heap.size), (.ref h0.size)])) rfl (by rw [hml]; rfl) (argsL := [(.ref T1.heap.size)]) (rest := []) (lenOf own_pd5 rfl) rfl (Nat.le_of_eq rfl) (hb hby at_125) rfl
      refine Gd.go (fun _ w_k => st9 _ w_k) ?_
      show Gd _ _ _ _ (T9.setTop (mkF m 128 #[.val (.long xa), .second, .val (.long ya), .second, .val (.long a), .second, .val (.long b), .second, .val (.ref h0.size), .val (.ref T1.heap.size), .val (.int (own_cmp a b)), .val (.int (1 : Int32)), .unset] [(.int (bI (b = a)))]))
      refine Gd.go (fun _ w_k => XS.lload X9.here hx rfl (hb hby at_128) rfl w_k) ?_
      show Gd _ _ _ _ (T9.setTop (mkF m 130 #[.val (.long xa), .second, .val (.long ya), .second, .val (.long a), .second, .val (.long b), .second, .val (.ref h0.size), .val (.ref T1.heap.size), .val (.int (own_cmp a b)), .val (.int (1 : Int32)), .unset] [(.long a), (.int (bI (b = a)))]))
      refine Gd.go (fun _ w_k => XS.lload X9.here hx rfl (hb hby at_130) rfl w_k) ?_
      show Gd _ _ _ _ (T9.setTop (mkF m 132 #[.val (.long xa), .second, .val (.long ya), .second, .val (.long a), .second, .val (.long b), .second, .val (.ref h0.size), .val (.ref T1.heap.size), .val (.int (own_cmp a b)), .val (.int (1 : Int32)), .unset] [(.long b), (.long a), (.int (bI (b = a)))]))
      refine Gd.go (fun _ w_k => XS.lcmp X9.here hx rfl (hb hby at_132) rfl w_k) ?_
      show Gd _ _ _ _ (T9.setTop (mkF m 133 #[.val (.long xa), .second, .val (.long ya), .second, .val (.long a), .second, .val (.long b), .second, .val (.ref h0.size), .val (.ref T1.heap.size), .val (.int (own_cmp a b)), .val (.int (1 : Int32)), .unset] [(.int (lcmpW a b)), (.int (bI (b = a)))]))
      refine Gd.go (fun _ w_k => XS.ifYes X9.here hx rfl (pc0 := 133) (pc' := 140) rfl (hb hby at_133) rfl ((if0 _ _).trans (feq (fun q => (own_ne_gt hc8) ((lw_eq _ _).mp q))).2) (by decide) (by decide) w_k) ?_
      show Gd _ _ _ _ (T9.setTop (mkF m 140 #[.val (.long xa), .second, .val (.long ya), .second, .val (.long a), .second, .val (.long b), .second, .val (.ref h0.size), .val (.ref T1.heap.size), .val (.int (own_cmp a b)), .val (.int (1 : Int32)), .unset] [(.int (bI (b = a)))]))
      refine Gd.go (fun _ w_k => XS.iconst X9.here hx rfl (hb hby at_140) w_k) ?_
      show Gd _ _ _ _ (T9.setTop (mkF m 141 #[.val (.long xa), .second, .val (.long ya), .second, .val (.long a), .second, .val (.long b), .second, .val (.ref h0.size), .val (.ref T1.heap.size), .val (.int (own_cmp a b)), .val (.int (1 : Int32)), .unset] [(.int (0 : Int32)), (.int (bI (b = a)))]))
      refine Gd.go (fun _ w_k => XS.icmpNo X9.here hx rfl (hb hby at_141) rfl (teq (bI_z (own_ne_lt hc8))).2 w_k) ?_
      show Gd _ _ _ _ (T9.setTop (mkF m 144 #[.val (.long xa), .second, .val (.long ya), .second, .val (.long a), .second, .val (.long b), .second, .val (.ref h0.size), .val (.ref T1.heap.size), .val (.int (own_cmp a b)), .val (.int (1 : Int32)), .unset] []))
      refine Gd.go (fun _ w_k => XS.iconst X9.here hx rfl (hb hby at_144) w_k) ?_
      show Gd _ _ _ _ (T9.setTop (mkF m 145 #[.val (.long xa), .second, .val (.long ya), .second, .val (.long a), .second, .val (.long b), .second, .val (.ref h0.size), .val (.ref T1.heap.size), .val (.int (own_cmp a b)), .val (.int (1 : Int32)), .unset] [(.int (1 : Int32))]))
      refine Gd.go (fun _ w_k => XS.goto X9.here hx rfl (pc0 := 145) (pc' := 149) rfl (hb hby at_145) (by decide) (by decide) w_k) ?_
      show Gd _ _ _ _ (T9.setTop (mkF m 149 #[.val (.long xa), .second, .val (.long ya), .second, .val (.long a), .second, .val (.long b), .second, .val (.ref h0.size), .val (.ref T1.heap.size), .val (.int (own_cmp a b)), .val (.int (1 : Int32)), .unset] [(.int (1 : Int32))]))
      refine Gd.go (fun _ w_k => XS.istore X9.here hx rfl (hb hby at_149) rfl (l' := #[.val (.long xa), .second, .val (.long ya), .second, .val (.long a), .second, .val (.long b), .second, .val (.ref h0.size), .val (.ref T1.heap.size), .val (.int (own_cmp a b)), .val (.int (1 : Int32)), .val (.int (1 : Int32))]) rfl w_k) ?_
      show Gd _ _ _ _ (T9.setTop (mkF m 151 #[.val (.long xa), .second, .val (.long ya), .second, .val (.long a), .second, .val (.long b), .second, .val (.ref h0.size), .val (.ref T1.heap.size), .val (.int (own_cmp a b)), .val (.int (1 : Int32)), .val (.int (1 : Int32))] []))
      refine Gd.go (fun _ w_k => XS.iload X9.here hx rfl (hb hby at_151) rfl w_k) ?_
      show Gd _ _ _ _ (T9.setTop (mkF m 153 #[.val (.long xa), .second, .val (.long ya), .second, .val (.long a), .second, .val (.long b), .second, .val (.ref h0.size), .val (.ref T1.heap.size), .val (.int (own_cmp a b)), .val (.int (1 : Int32)), .val (.int (1 : Int32))] [(.int (1 : Int32))]))
      refine Gd.go (fun _ w_k => XS.ifNo X9.here hx rfl (hb hby at_153) rfl ((if0 _ _).trans (feq (by decide)).1) w_k) ?_
      show Gd _ _ _ _ (T9.setTop (mkF m 156 #[.val (.long xa), .second, .val (.long ya), .second, .val (.long a), .second, .val (.long b), .second, .val (.ref h0.size), .val (.ref T1.heap.size), .val (.int (own_cmp a b)), .val (.int (1 : Int32)), .val (.int (1 : Int32))] []))
      refine Gd.go (fun _ w_k => XS.iload X9.here hx rfl (hb hby at_156) rfl w_k) ?_
      show Gd _ _ _ _ (T9.setTop (mkF m 158 #[.val (.long xa), .second, .val (.long ya), .second, .val (.long a), .second, .val (.long b), .second, .val (.ref h0.size), .val (.ref T1.heap.size), .val (.int (own_cmp a b)), .val (.int (1 : Int32)), .val (.int (1 : Int32))] [(.int (1 : Int32))]))
      refine Gd.go (fun _ w_k => XS.ifNo X9.here hx rfl (hb hby at_158) rfl ((if0 _ _).trans (feq (by decide)).1) w_k) ?_
      show Gd _ _ _ _ (T9.setTop (mkF m 161 #[.val (.long xa), .second, .val (.long ya), .second, .val (.long a), .second, .val (.long b), .second, .val (.ref h0.size), .val (.ref T1.heap.size), .val (.int (own_cmp a b)), .val (.int (1 : Int32)), .val (.int (1 : Int32))] []))
      refine Gd.go (fun _ w_k => XS.iconst X9.here hx rfl (hb hby at_161) w_k) ?_
      show Gd _ _ _ _ (T9.setTop (mkF m 162 #[.val (.long xa), .second, .val (.long ya), .second, .val (.long a), .second, .val (.long b), .second, .val (.ref h0.size), .val (.ref T1.heap.size), .val (.int (own_cmp a b)), .val (.int (1 : Int32)), .val (.int (1 : Int32))] [(.int (1 : Int32))]))
      refine Gd.go (fun _ w_k => XS.goto X9.here hx rfl (pc0 := 162) (pc' := 166) rfl (hb hby at_162) (by decide) (by decide) w_k) ?_
      show Gd _ _ _ _ (T9.setTop (mkF m 166 #[.val (.long xa), .second, .val (.long ya), .second, .val (.long a), .second, .val (.long b), .second, .val (.ref h0.size), .val (.ref T1.heap.size), .val (.int (own_cmp a b)), .val (.int (1 : Int32)), .val (.int (1 : Int32))] [(.int (1 : Int32))]))
      refine own_retN (t := .boolean) X9 hx hret hlk (by simp) (hb hby at_166) ?_ (by decide) (by decide)
      exact ⟨rfl, N3⟩
    · refine Gd.go (fun _ w_k => XS.ifYes X5.here hx rfl (pc0 := 91) (pc' := 109) rfl (hb hby at_91) rfl ((if0 _ _).trans (flt (fun q => hc8 ((lw_gt _ _).mp q))).2.2.2) (by decide) (by decide) w_k) ?_
      show Gd _ _ _ _ (T5.setTop (mkF m 109 #[.val (.long xa), .second, .val (.long ya), .second, .val (.long a), .second, .val (.long b), .second, .val (.ref h0.size), .val (.ref T1.heap.size), .val (.int (own_cmp a b)), .unset, .unset] []))
      refine Gd.go (fun _ w_k => XS.iload X5.here hx rfl (hb hby at_109) rfl w_k) ?_
      show Gd _ _ _ _ (T5.setTop (mkF m 111 #[.val (.long xa), .second, .val (.long ya), .second, .val (.long a), .second, .val (.long b), .second, .val (.ref h0.size), .val (.ref T1.heap.size), .val (.int (own_cmp a b)), .unset, .unset] [(.int (own_cmp a b))]))
      refine Gd.go (fun _ w_k => XS.ifNo X5.here hx rfl (hb hby at_111) rfl ((if0 _ _).trans (teq (own_cmp_eq hc6 hc8).1).2) w_k) ?_
      show Gd _ _ _ _ (T5.setTop (mkF m 114 #[.val (.long xa), .second, .val (.long ya), .second, .val (.long a), .second, .val (.long b), .second, .val (.ref h0.size), .val (.ref T1.heap.size), .val (.int (own_cmp a b)), .unset, .unset] []))
      refine Gd.go (fun _ w_k => XS.iconst X5.here hx rfl (hb hby at_114) w_k) ?_
      show Gd _ _ _ _ (T5.setTop (mkF m 115 #[.val (.long xa), .second, .val (.long ya), .second, .val (.long a), .second, .val (.long b), .second, .val (.ref h0.size), .val (.ref T1.heap.size), .val (.int (own_cmp a b)), .unset, .unset] [(.int (1 : Int32))]))
      refine Gd.go (fun _ w_k => XS.goto X5.here hx rfl (pc0 := 115) (pc' := 119) rfl (hb hby at_115) (by decide) (by decide) w_k) ?_
      show Gd _ _ _ _ (T5.setTop (mkF m 119 #[.val (.long xa), .second, .val (.long ya), .second, .val (.long a), .second, .val (.long b), .second, .val (.ref h0.size), .val (.ref T1.heap.size), .val (.int (own_cmp a b)), .unset, .unset] [(.int (1 : Int32))]))
      refine Gd.go (fun _ w_k => XS.istore X5.here hx rfl (hb hby at_119) rfl (l' := #[.val (.long xa), .second, .val (.long ya), .second, .val (.long a), .second, .val (.long b), .second, .val (.ref h0.size), .val (.ref T1.heap.size), .val (.int (own_cmp a b)), .val (.int (1 : Int32)), .unset]) rfl w_k) ?_
      show Gd _ _ _ _ (T5.setTop (mkF m 121 #[.val (.long xa), .second, .val (.long ya), .second, .val (.long a), .second, .val (.long b), .second, .val (.ref h0.size), .val (.ref T1.heap.size), .val (.int (own_cmp a b)), .val (.int (1 : Int32)), .unset] []))
      refine Gd.go (fun _ w_k => XS.aload X5.here hx rfl (hb hby at_121) rfl rfl w_k) ?_
      show Gd _ _ _ _ (T5.setTop (mkF m 123 #[.val (.long xa), .second, .val (.long ya), .second, .val (.long a), .second, .val (.long b), .second, .val (.ref h0.size), .val (.ref T1.heap.size), .val (.int (own_cmp a b)), .val (.int (1 : Int32)), .unset] [(.ref h0.size)]))
      refine Gd.go (fun _ w_k => XS.aload X5.here hx rfl (hb hby at_123) rfl rfl w_k) ?_
      show Gd _ _ _ _ (T5.setTop (mkF m 125 #[.val (.long xa), .second, .val (.long ya), .second, .val (.long a), .second, .val (.long b), .second, .val (.ref h0.size), .val (.ref T1.heap.size), .val (.int (own_cmp a b)), .val (.int (1 : Int32)), .unset] [(.ref T1.heap.size), (.ref h0.size)]))
      obtain ⟨T10, X10, e10, st10⟩ := own_callVP X5 hx hZ (C := "com/example/yuletally/yuletally/engine/Won") (y := (⟨"com/example/yuletally/yuletally/engine/Won", "equals", "(Ljava/lang/Object;)Z"⟩ : MethodName)) hown (hw _ (List.mem_of_getElem? (i := 29) rfl)) (hw _ (List.mem_of_getElem? (i := 30) rfl)) (hw _ (List.mem_of_getElem? (i := 32) rfl)) (hw _ (List.mem_of_getElem? (i := 31) rfl)) (hw _ (List.mem_of_getElem? (i := 3) rfl)) (hw _ (List.mem_of_getElem? (i := 33) rfl)) (by decide) E3 (W := 0) (own_c7 l Z a0 hw h0.size T1.heap.size a b T2.heap F3 F2 E2) rfl rfl e5 (by decide) (by decide) (g := (mkF m 125 #[.val (.long xa), .second, .val (.long ya), .second, .val (.long a), .second, .val (.long b), .second, .val (.ref h0.size), .val (.ref T1.heap.size), .val (.int (own_cmp a b)), .val (.int (1 : Int32)), .unset] [(.ref T1.heap.size), (.ref h0.size)])) rfl (by rw [hml]; rfl) (argsL := [(.ref T1.heap.size)]) (rest := []) (lenOf own_pd5 rfl) rfl (Nat.le_of_eq rfl) (hb hby at_125) rfl
      refine Gd.go (fun _ w_k => st10 _ w_k) ?_
      show Gd _ _ _ _ (T10.setTop (mkF m 128 #[.val (.long xa), .second, .val (.long ya), .second, .val (.long a), .second, .val (.long b), .second, .val (.ref h0.size), .val (.ref T1.heap.size), .val (.int (own_cmp a b)), .val (.int (1 : Int32)), .unset] [(.int (bI (b = a)))]))
      refine Gd.go (fun _ w_k => XS.lload X10.here hx rfl (hb hby at_128) rfl w_k) ?_
      show Gd _ _ _ _ (T10.setTop (mkF m 130 #[.val (.long xa), .second, .val (.long ya), .second, .val (.long a), .second, .val (.long b), .second, .val (.ref h0.size), .val (.ref T1.heap.size), .val (.int (own_cmp a b)), .val (.int (1 : Int32)), .unset] [(.long a), (.int (bI (b = a)))]))
      refine Gd.go (fun _ w_k => XS.lload X10.here hx rfl (hb hby at_130) rfl w_k) ?_
      show Gd _ _ _ _ (T10.setTop (mkF m 132 #[.val (.long xa), .second, .val (.long ya), .second, .val (.long a), .second, .val (.long b), .second, .val (.ref h0.size), .val (.ref T1.heap.size), .val (.int (own_cmp a b)), .val (.int (1 : Int32)), .unset] [(.long b), (.long a), (.int (bI (b = a)))]))
      refine Gd.go (fun _ w_k => XS.lcmp X10.here hx rfl (hb hby at_132) rfl w_k) ?_
      show Gd _ _ _ _ (T10.setTop (mkF m 133 #[.val (.long xa), .second, .val (.long ya), .second, .val (.long a), .second, .val (.long b), .second, .val (.ref h0.size), .val (.ref T1.heap.size), .val (.int (own_cmp a b)), .val (.int (1 : Int32)), .unset] [(.int (lcmpW a b)), (.int (bI (b = a)))]))
      refine Gd.go (fun _ w_k => XS.ifNo X10.here hx rfl (hb hby at_133) rfl ((if0 _ _).trans (teq ((lw_eq _ _).mpr (own_cmp_eq hc6 hc8).2)).2) w_k) ?_
      show Gd _ _ _ _ (T10.setTop (mkF m 136 #[.val (.long xa), .second, .val (.long ya), .second, .val (.long a), .second, .val (.long b), .second, .val (.ref h0.size), .val (.ref T1.heap.size), .val (.int (own_cmp a b)), .val (.int (1 : Int32)), .unset] [(.int (bI (b = a)))]))
      refine Gd.go (fun _ w_k => XS.iconst X10.here hx rfl (hb hby at_136) w_k) ?_
      show Gd _ _ _ _ (T10.setTop (mkF m 137 #[.val (.long xa), .second, .val (.long ya), .second, .val (.long a), .second, .val (.long b), .second, .val (.ref h0.size), .val (.ref T1.heap.size), .val (.int (own_cmp a b)), .val (.int (1 : Int32)), .unset] [(.int (1 : Int32)), (.int (bI (b = a)))]))
      refine Gd.go (fun _ w_k => XS.goto X10.here hx rfl (pc0 := 137) (pc' := 141) rfl (hb hby at_137) (by decide) (by decide) w_k) ?_
      show Gd _ _ _ _ (T10.setTop (mkF m 141 #[.val (.long xa), .second, .val (.long ya), .second, .val (.long a), .second, .val (.long b), .second, .val (.ref h0.size), .val (.ref T1.heap.size), .val (.int (own_cmp a b)), .val (.int (1 : Int32)), .unset] [(.int (1 : Int32)), (.int (bI (b = a)))]))
      refine Gd.go (fun _ w_k => XS.icmpNo X10.here hx rfl (hb hby at_141) rfl (teq (bI_o (own_cmp_eq hc6 hc8).2.symm)).2 w_k) ?_
      show Gd _ _ _ _ (T10.setTop (mkF m 144 #[.val (.long xa), .second, .val (.long ya), .second, .val (.long a), .second, .val (.long b), .second, .val (.ref h0.size), .val (.ref T1.heap.size), .val (.int (own_cmp a b)), .val (.int (1 : Int32)), .unset] []))
      refine Gd.go (fun _ w_k => XS.iconst X10.here hx rfl (hb hby at_144) w_k) ?_
      show Gd _ _ _ _ (T10.setTop (mkF m 145 #[.val (.long xa), .second, .val (.long ya), .second, .val (.long a), .second, .val (.long b), .second, .val (.ref h0.size), .val (.ref T1.heap.size), .val (.int (own_cmp a b)), .val (.int (1 : Int32)), .unset] [(.int (1 : Int32))]))
      refine Gd.go (fun _ w_k => XS.goto X10.here hx rfl (pc0 := 145) (pc' := 149) rfl (hb hby at_145) (by decide) (by decide) w_k) ?_
      show Gd _ _ _ _ (T10.setTop (mkF m 149 #[.val (.long xa), .second, .val (.long ya), .second, .val (.long a), .second, .val (.long b), .second, .val (.ref h0.size), .val (.ref T1.heap.size), .val (.int (own_cmp a b)), .val (.int (1 : Int32)), .unset] [(.int (1 : Int32))]))
      refine Gd.go (fun _ w_k => XS.istore X10.here hx rfl (hb hby at_149) rfl (l' := #[.val (.long xa), .second, .val (.long ya), .second, .val (.long a), .second, .val (.long b), .second, .val (.ref h0.size), .val (.ref T1.heap.size), .val (.int (own_cmp a b)), .val (.int (1 : Int32)), .val (.int (1 : Int32))]) rfl w_k) ?_
      show Gd _ _ _ _ (T10.setTop (mkF m 151 #[.val (.long xa), .second, .val (.long ya), .second, .val (.long a), .second, .val (.long b), .second, .val (.ref h0.size), .val (.ref T1.heap.size), .val (.int (own_cmp a b)), .val (.int (1 : Int32)), .val (.int (1 : Int32))] []))
      refine Gd.go (fun _ w_k => XS.iload X10.here hx rfl (hb hby at_151) rfl w_k) ?_
      show Gd _ _ _ _ (T10.setTop (mkF m 153 #[.val (.long xa), .second, .val (.long ya), .second, .val (.long a), .second, .val (.long b), .second, .val (.ref h0.size), .val (.ref T1.heap.size), .val (.int (own_cmp a b)), .val (.int (1 : Int32)), .val (.int (1 : Int32))] [(.int (1 : Int32))]))
      refine Gd.go (fun _ w_k => XS.ifNo X10.here hx rfl (hb hby at_153) rfl ((if0 _ _).trans (feq (by decide)).1) w_k) ?_
      show Gd _ _ _ _ (T10.setTop (mkF m 156 #[.val (.long xa), .second, .val (.long ya), .second, .val (.long a), .second, .val (.long b), .second, .val (.ref h0.size), .val (.ref T1.heap.size), .val (.int (own_cmp a b)), .val (.int (1 : Int32)), .val (.int (1 : Int32))] []))
      refine Gd.go (fun _ w_k => XS.iload X10.here hx rfl (hb hby at_156) rfl w_k) ?_
      show Gd _ _ _ _ (T10.setTop (mkF m 158 #[.val (.long xa), .second, .val (.long ya), .second, .val (.long a), .second, .val (.long b), .second, .val (.ref h0.size), .val (.ref T1.heap.size), .val (.int (own_cmp a b)), .val (.int (1 : Int32)), .val (.int (1 : Int32))] [(.int (1 : Int32))]))
      refine Gd.go (fun _ w_k => XS.ifNo X10.here hx rfl (hb hby at_158) rfl ((if0 _ _).trans (feq (by decide)).1) w_k) ?_
      show Gd _ _ _ _ (T10.setTop (mkF m 161 #[.val (.long xa), .second, .val (.long ya), .second, .val (.long a), .second, .val (.long b), .second, .val (.ref h0.size), .val (.ref T1.heap.size), .val (.int (own_cmp a b)), .val (.int (1 : Int32)), .val (.int (1 : Int32))] []))
      refine Gd.go (fun _ w_k => XS.iconst X10.here hx rfl (hb hby at_161) w_k) ?_
      show Gd _ _ _ _ (T10.setTop (mkF m 162 #[.val (.long xa), .second, .val (.long ya), .second, .val (.long a), .second, .val (.long b), .second, .val (.ref h0.size), .val (.ref T1.heap.size), .val (.int (own_cmp a b)), .val (.int (1 : Int32)), .val (.int (1 : Int32))] [(.int (1 : Int32))]))
      refine Gd.go (fun _ w_k => XS.goto X10.here hx rfl (pc0 := 162) (pc' := 166) rfl (hb hby at_162) (by decide) (by decide) w_k) ?_
      show Gd _ _ _ _ (T10.setTop (mkF m 166 #[.val (.long xa), .second, .val (.long ya), .second, .val (.long a), .second, .val (.long b), .second, .val (.ref h0.size), .val (.ref T1.heap.size), .val (.int (own_cmp a b)), .val (.int (1 : Int32)), .val (.int (1 : Int32))] [(.int (1 : Int32))]))
      refine own_retN (t := .boolean) X10 hx hret hlk (by simp) (hb hby at_166) ?_ (by decide) (by decide)
      exact ⟨rfl, N3⟩
set_option maxRecDepth 65536 in
set_option maxHeartbeats 40000000 in
theorem comes_1 {Post : Tables → Env → Array Value → State → Outcome → State → Prop} (hpost : ∀ tb e args s v u, (limb_1_1.after args s (.returned v) u = true ∧ limb_1_2.after args s (.returned v) u = true ∧ True) → FrameEnd s (.returned v) u (Jvm.fieldLocs frame_1_writes args s ++ Jvm.arrayLocs frame_1_arrays args s ++ Jvm.staticLocs frame_1_statics s) 16 128 → Post tb e args s (.returned v) u) :
    ArmFor flags0 classFile x code maxLocals ret World_1 tables_1 room_1 Calls_1 rest_1 Pre_1 Post := by
  intro l hfl _ _ p e ha hc hk s m args below hf hA hF happ hP
  obtain ⟨hcalls, hrest, hpre⟩ := hP
  obtain ⟨-, -, -, hnamed, -, -, -, hat⟩ := (Spec.applies_iff hf).mp happ
  obtain ⟨hg, hn⟩ := and_e (Cond.before_iff.mp (show (Jvm.Cond.and given_1 narrow_1).before args s = true from hpre))
  obtain ⟨h1, g0⟩ := and_e hg
  obtain ⟨k0, g1⟩ := and_e g0
  obtain ⟨w0, w1, rfl⟩ : ∃ w0 w1 : Value, args = #[w0, w1] := by
    have hs : args.size = 2 := by simpa [Cond.value, given_1] using h1
    obtain ⟨L⟩ := args
    match L, hs with
    | [w0, w1], _ => exact ⟨w0, w1, rfl⟩
  have hw := fun d (hd : d ∈ tables_1) => atoms_spec (ws := Jvm.Cond.code x code maxLocals ret :: tables_1) hat d (List.mem_cons_of_mem _ hd)
  have hfit : Fit s := fun {y c} hc i hi => by
    obtain ⟨ha, rfl⟩ := Array.getElem?_eq_some_iff.mp hc
    have q := List.all_eq_true.mp ((Array.all_eq_true_iff_forall_mem.mp hF) _ (Array.getElem_mem ha)) i (List.mem_range.mpr hi)
    simpa [Array.getElem?_eq_getElem hi] using q
  obtain ⟨i0, e0⟩ := isL_v k0
  obtain rfl : w0 = (.long i0) := Option.some.inj e0
  obtain ⟨i1, e1⟩ := isL_v g1
  obtain rfl : w1 = (.long i1) := Option.some.inj e1
  obtain ⟨n, o, h1, h2, h3, _, L, rfl, ⟨rfl, N⟩, hq⟩ := own_law l s _ hw i0 i1 s.heap s.heap.size (Nat.le_refl _) p e ha hc hk s m _ below hf ((Spec.applies_iff_loose hf).mp happ).1 ⟨rfl, State.Warmed39.refl s, rfl⟩ trivial
  refine ⟨n, _, h1, h2, h3, hpost _ _ _ _ _ _ ⟨Cond.after_iff.mpr rfl, Cond.after_iff.mpr (eq_i res_at (Term.int_eval (1)) rfl), trivial⟩ ⟨hq.1, hq.2.1, (hq.2.2.sift fun y hy => Or.inr (N y hy)).mono (by decide) (by decide)⟩⟩
theorem main_1_1 : Claimed_1_1 := comes_1 fun _ _ _ _ _ _ h hF => ⟨h.1, hF⟩
theorem main_1_2 : Claimed_1_2 := comes_1 fun _ _ _ _ _ _ h hF => ⟨h.2.1, hF⟩
end Jvm.Pilot.@@N@@
namespace Jvm.Pilot.@@N@@
open Jvm Jvm.ClassFile Sem Op Lib Jvm.Free Jvm.Stand Jvm.Pilot.@@N@@.Jvm.D
/-! MADE BY PROGRAM (witnessworld.py) out of the Statement's table words and the real class files: 14 classes; the members and pool entries that the words name. The judged class is class 1, her method 1. -/
namespace start1
open Jvm.ClassFile
def u (s : String) : CpInfo := .utf8 (stringToUtf16 s)
/-- a pool by its gaps: so many unusable entries, then the entry; so many at the end -/
def gap : Nat → List CpInfo → List CpInfo
  | 0, r => r
  | n + 1, r => .unusable :: gap n r
def poolList (es : List (Nat × CpInfo)) (last : Nat) : List CpInfo := es.foldr (fun e r => gap e.1 (e.2 :: r)) (gap last [])
def pool (es : List (Nat × CpInfo)) (last : Nat) : Array CpInfo := ⟨poolList es last⟩
def fileOf (pool : Array CpInfo) (this : Nat) (attrs : Array Attribute := #[]) (ms : Array MethodInfo := #[]) (fl : Nat := 33) (sup : Nat := 0) (ifs : Array Nat := #[]) (fds : Array FieldInfo := #[]) : ClassFile where
  minorVersion := 0
  majorVersion := 65
  constantPool := pool
  accessFlags := fl
  thisClass := this
  superClass := sup
  interfaces := ifs
  fields := fds
  methods := ms
  attributes := attrs
def plain (name : String) (sup : Option ClassId) : Class where
  name := name
  kind := .ordinary
  loader := none
  accessFlags := 33
  super := sup
  interfaces := #[]
  cf := none
  fields := #[]
  methods := #[]
  instanceTypes := #[]
  staticTypes := #[]
  resolved := #[]
  callSites := []
  init := .initialized
  statics := none
  mirror := none

def pool0 : Array CpInfo := pool [(5, u "<init>"), (0, u "()V"), (1, .class_ 10), (1, u "java/lang/Object")] 113

def k0c0 : Code := { maxStack := 0, maxLocals := 1, code := object_method_1_code, exceptionTable := #[], attributes := #[] }
def k0m0 : Method := { name := "<init>", desc := "()V", sig := { parameters := [], returnType := none }, accessFlags := 1, code := some k0c0 }
/-- java/lang/Object -/
def k0 : Class := { plain "java/lang/Object" none with
  accessFlags := 33
  interfaces := #[]
  cf := some (fileOf pool0 8 #[] #[{ accessFlags := 1, nameIndex := 5, descriptorIndex := 6, attributes := #[] }] 33 0 #[] #[])
  fields := #[]
  methods := #[k0m0]
  instanceTypes := #[]
  staticTypes := #[]
  resolved := Array.replicate 124 none
  statics := none }

def pool1 : Array CpInfo := pool [(2, .class_ 4), (1, u "java/lang/Object"), (0, u "<init>"), (0, u "()V"), (0, .long 9223372036854775807), (1, .methodref 10 11), (0, .class_ 12), (0, .nameAndType 13 14), (0, u "com/example/yuletally/yuletally/engine/Won"), (0, u "of"), (0, u "(J)Lcom/example/yuletally/yuletally/engine/Won;"), (0, .methodref 10 16), (0, .nameAndType 17 18), (0, u "amount"), (0, u "()J"), (0, .methodref 10 20), (0, .nameAndType 21 22), (0, u "compareTo"), (0, u "(Lcom/example/yuletally/yuletally/engine/Won;)I"), (0, .methodref 10 24), (0, .nameAndType 25 26), (0, u "equals"), (0, u "(Ljava/lang/Object;)Z"), (0, .class_ 28), (0, u "com/example/yuletally/yuletally/engine/WonOfPinLaw"), (2, u "law"), (0, u "(JJ)Z")] 3

def k1m0 : Method := { name := "<init>", desc := "()V", sig := { parameters := [], returnType := none }, accessFlags := 2, code := none }
def k1c1 : Code := { maxStack := 5, maxLocals := 13, code := code, exceptionTable := #[], attributes := #[] }
def k1m1 : Method := { name := "law", desc := "(JJ)Z", sig := { parameters := [.long, .long], returnType := some .boolean }, accessFlags := 9, code := some k1c1 }
/-- com/example/yuletally/yuletally/engine/WonOfPinLaw -/
def k1 : Class := { plain "com/example/yuletally/yuletally/engine/WonOfPinLaw" (some 0) with
  accessFlags := 49
  interfaces := #[]
  cf := some (fileOf pool1 27 #[] #[{ accessFlags := 2, nameIndex := 5, descriptorIndex := 6, attributes := #[] }, { accessFlags := 9, nameIndex := 31, descriptorIndex := 32, attributes := #[] }] 49 2 #[] #[])
  fields := #[]
  methods := #[k1m0, k1m1]
  instanceTypes := #[]
  staticTypes := #[]
  resolved := Array.replicate 36 none
  statics := none }

def pool2 : Array CpInfo := pool [(1, .class_ 2), (0, u "java/lang/Comparable"), (0, .class_ 4), (0, u "java/lang/Object")] 7

/-- java/lang/Comparable -/
def k2 : Class := { plain "java/lang/Comparable" (some 0) with
  accessFlags := 1537
  interfaces := #[]
  cf := some (fileOf pool2 1 #[] #[] 1537 3 #[] #[])
  fields := #[]
  methods := #[]
  instanceTypes := #[]
  staticTypes := #[]
  resolved := Array.replicate 12 none
  statics := none }

def pool3 : Array CpInfo := pool [(1, .methodref 2 3), (0, .class_ 4), (0, .nameAndType 5 6), (0, u "java/lang/Object"), (0, u "<init>"), (0, u "()V"), (0, .fieldref 8 9), (0, .class_ 10), (0, .nameAndType 11 12), (0, u "com/example/yuletally/yuletally/engine/Won"), (0, u "amount"), (0, u "J"), (9, .methodref 8 23), (0, .nameAndType 5 24), (0, u "(J)V"), (12, u "of"), (0, u "(J)Lcom/example/yuletally/yuletally/engine/Won;"), (3, .methodref 43 44), (0, .class_ 45), (0, .nameAndType 46 47), (0, u "java/lang/Long"), (0, u "compare"), (0, u "(JJ)I"), (14, u "compareTo"), (0, u "(Lcom/example/yuletally/yuletally/engine/Won;)I"), (2, u "ZERO"), (0, u "Lcom/example/yuletally/yuletally/engine/Won;"), (0, .class_ 69), (0, u "java/lang/Comparable"), (3, u "()J"), (6, u "equals"), (0, u "(Ljava/lang/Object;)Z")] 27

def k3c0 : Code := { maxStack := 3, maxLocals := 3, code := prog_34_method_1_code, exceptionTable := #[], attributes := #[] }
def k3m0 : Method := { name := "<init>", desc := "(J)V", sig := { parameters := [.long], returnType := none }, accessFlags := 2, code := some k3c0 }
def k3c1 : Code := { maxStack := 4, maxLocals := 2, code := prog_34_method_2_code, exceptionTable := #[], attributes := #[] }
def k3m1 : Method := { name := "of", desc := "(J)Lcom/example/yuletally/yuletally/engine/Won;", sig := { parameters := [.long], returnType := some (.object "com/example/yuletally/yuletally/engine/Won") }, accessFlags := 9, code := some k3c1 }
def k3c2 : Code := { maxStack := 2, maxLocals := 1, code := prog_34_method_3_code, exceptionTable := #[], attributes := #[] }
def k3m2 : Method := { name := "amount", desc := "()J", sig := { parameters := [], returnType := some .long }, accessFlags := 1, code := some k3c2 }
def k3c3 : Code := { maxStack := 4, maxLocals := 2, code := prog_34_method_8_code, exceptionTable := #[], attributes := #[] }
def k3m3 : Method := { name := "compareTo", desc := "(Lcom/example/yuletally/yuletally/engine/Won;)I", sig := { parameters := [(.object "com/example/yuletally/yuletally/engine/Won")], returnType := some .int }, accessFlags := 1, code := some k3c3 }
def k3c4 : Code := { maxStack := 4, maxLocals := 2, code := prog_34_method_9_code, exceptionTable := #[], attributes := #[] }
def k3m4 : Method := { name := "equals", desc := "(Ljava/lang/Object;)Z", sig := { parameters := [(.object "java/lang/Object")], returnType := some .boolean }, accessFlags := 1, code := some k3c4 }
/-- com/example/yuletally/yuletally/engine/Won -/
def k3 : Class := { plain "com/example/yuletally/yuletally/engine/Won" (some 0) with
  accessFlags := 49
  interfaces := #[2]
  cf := some (fileOf pool3 8 #[] #[{ accessFlags := 2, nameIndex := 5, descriptorIndex := 24, attributes := #[] }, { accessFlags := 9, nameIndex := 37, descriptorIndex := 38, attributes := #[] }, { accessFlags := 1, nameIndex := 11, descriptorIndex := 73, attributes := #[] }, { accessFlags := 1, nameIndex := 62, descriptorIndex := 63, attributes := #[] }, { accessFlags := 1, nameIndex := 80, descriptorIndex := 81, attributes := #[] }] 49 2 #[68] #[{ accessFlags := 25, nameIndex := 66, descriptorIndex := 67, attributes := #[] }, { accessFlags := 18, nameIndex := 11, descriptorIndex := 12, attributes := #[] }])
  fields := #[{ name := "ZERO", type := (.object "com/example/yuletally/yuletally/engine/Won"), accessFlags := 25, slot := 0, constantValue := 0 }, { name := "amount", type := .long, accessFlags := 18, slot := 0, constantValue := 0 }]
  methods := #[k3m0, k3m1, k3m2, k3m3, k3m4]
  instanceTypes := #[.long]
  staticTypes := #[(.object "com/example/yuletally/yuletally/engine/Won")]
  resolved := Array.replicate 109 none
  statics := none }

def pool4 : Array CpInfo := pool [(1, .class_ 2), (0, u "java/io/Serializable"), (0, .class_ 4), (0, u "java/lang/Object")] 2

/-- java/io/Serializable -/
def k4 : Class := { plain "java/io/Serializable" (some 0) with
  accessFlags := 1537
  interfaces := #[]
  cf := some (fileOf pool4 1 #[] #[] 1537 3 #[] #[])
  fields := #[]
  methods := #[]
  instanceTypes := #[]
  staticTypes := #[]
  resolved := Array.replicate 7 none
  statics := none }

def pool5 : Array CpInfo := pool [(2, .class_ 4), (1, u "java/lang/Object"), (0, u "<init>"), (0, u "()V"), (1, .class_ 10), (1, u "java/lang/Number"), (2, .class_ 14), (0, u "java/io/Serializable"), (0, u "serialVersionUID"), (0, u "J")] 20

def k5m0 : Method := { name := "<init>", desc := "()V", sig := { parameters := [], returnType := none }, accessFlags := 1, code := none }
/-- java/lang/Number -/
def k5 : Class := { plain "java/lang/Number" (some 0) with
  accessFlags := 1057
  interfaces := #[4]
  cf := some (fileOf pool5 8 #[] #[{ accessFlags := 1, nameIndex := 5, descriptorIndex := 6, attributes := #[] }] 1057 2 #[13] #[{ accessFlags := 26, nameIndex := 15, descriptorIndex := 16, attributes := #[] }])
  fields := #[{ name := "serialVersionUID", type := .long, accessFlags := 26, slot := 0, constantValue := 0 }]
  methods := #[k5m0]
  instanceTypes := #[]
  staticTypes := #[.long]
  resolved := Array.replicate 37 none
  statics := none }

def pool6 : Array CpInfo := pool [(1, .class_ 2), (0, u "java/lang/constant/Constable"), (0, .class_ 4), (0, u "java/lang/Object")] 6

/-- java/lang/constant/Constable -/
def k6 : Class := { plain "java/lang/constant/Constable" (some 0) with
  accessFlags := 1537
  interfaces := #[]
  cf := some (fileOf pool6 1 #[] #[] 1537 3 #[] #[])
  fields := #[]
  methods := #[]
  instanceTypes := #[]
  staticTypes := #[]
  resolved := Array.replicate 11 none
  statics := none }

def pool7 : Array CpInfo := pool [(1, .class_ 2), (0, u "java/lang/constant/ConstantDesc"), (0, .class_ 4), (0, u "java/lang/Object")] 32

/-- java/lang/constant/ConstantDesc -/
def k7 : Class := { plain "java/lang/constant/ConstantDesc" (some 0) with
  accessFlags := 1537
  interfaces := #[]
  cf := some (fileOf pool7 1 #[] #[] 1537 3 #[] #[])
  fields := #[]
  methods := #[]
  instanceTypes := #[]
  staticTypes := #[]
  resolved := Array.replicate 37 none
  statics := none }

def pool8 : Array CpInfo := pool [(1, .class_ 2), (0, u "java/lang/Long"), (232, .class_ 237), (1, u "java/lang/Long$LongCache"), (33, .class_ 272), (0, u "java/lang/Number"), (2, u "value"), (0, u "J"), (27, u "compare"), (0, u "(JJ)I"), (55, u "TYPE"), (0, u "Ljava/lang/Class;"), (0, .class_ 364), (0, u "java/lang/Comparable"), (0, .class_ 366), (0, u "java/lang/constant/Constable"), (0, .class_ 368), (0, u "java/lang/constant/ConstantDesc"), (0, u "MIN_VALUE"), (1, u "MAX_VALUE"), (4, u "SIZE"), (0, u "I"), (1, u "BYTES"), (1, u "serialVersionUID")] 142

def k8c0 : Code := { maxStack := 4, maxLocals := 4, code := jdk_35_method_42_code, exceptionTable := #[], attributes := #[] }
def k8m0 : Method := { name := "compare", desc := "(JJ)I", sig := { parameters := [.long, .long], returnType := some .int }, accessFlags := 9, code := some k8c0 }
/-- java/lang/Long -/
def k8 : Class := { plain "java/lang/Long" (some 5) with
  accessFlags := 49
  interfaces := #[2, 6, 7]
  cf := some (fileOf pool8 1 #[.nestMembers #[235]] #[{ accessFlags := 9, nameIndex := 304, descriptorIndex := 305, attributes := #[] }] 49 271 #[363, 365, 367] #[{ accessFlags := 25, nameIndex := 369, descriptorIndex := 276, attributes := #[] }, { accessFlags := 25, nameIndex := 371, descriptorIndex := 276, attributes := #[] }, { accessFlags := 25, nameIndex := 361, descriptorIndex := 362, attributes := #[] }, { accessFlags := 18, nameIndex := 275, descriptorIndex := 276, attributes := #[] }, { accessFlags := 25, nameIndex := 376, descriptorIndex := 377, attributes := #[] }, { accessFlags := 25, nameIndex := 379, descriptorIndex := 377, attributes := #[] }, { accessFlags := 26, nameIndex := 381, descriptorIndex := 276, attributes := #[] }])
  fields := #[{ name := "MIN_VALUE", type := .long, accessFlags := 25, slot := 0, constantValue := 0 }, { name := "MAX_VALUE", type := .long, accessFlags := 25, slot := 1, constantValue := 0 }, { name := "TYPE", type := (.object "java/lang/Class"), accessFlags := 25, slot := 2, constantValue := 0 }, { name := "value", type := .long, accessFlags := 18, slot := 0, constantValue := 0 }, { name := "SIZE", type := .int, accessFlags := 25, slot := 3, constantValue := 0 }, { name := "BYTES", type := .int, accessFlags := 25, slot := 4, constantValue := 0 }, { name := "serialVersionUID", type := .long, accessFlags := 26, slot := 5, constantValue := 0 }]
  methods := #[k8m0]
  instanceTypes := #[.long]
  staticTypes := #[.long, .long, (.object "java/lang/Class"), .int, .int, .long]
  resolved := Array.replicate 524 none
  statics := none }

def pool9 : Array CpInfo := pool [(1, u "java/lang/Cloneable"), (0, .class_ 1), (0, u "java/lang/Object"), (0, .class_ 3)] 3

/-- java/lang/Cloneable -/
def k9 : Class := { plain "java/lang/Cloneable" (some 0) with
  accessFlags := 1537
  interfaces := #[]
  cf := some (fileOf pool9 2 #[] #[] 1537 4 #[] #[])
  fields := #[]
  methods := #[]
  instanceTypes := #[]
  staticTypes := #[]
  resolved := Array.replicate 8 none
  statics := none }

/-- the primitive byte -/
def k10 : Class := { plain "byte" none with kind := .primitive 'B', accessFlags := 0x411 }
/-- [B -/
def k11 : Class := { plain "[B" (some 0) with kind := .array 10 .byte, interfaces := #[9, 4], accessFlags := 1041 }

/-- the primitive int -/
def k12 : Class := { plain "int" none with kind := .primitive 'I', accessFlags := 0x411 }
/-- [I -/
def k13 : Class := { plain "[I" (some 0) with kind := .array 12 .int, interfaces := #[9, 4], accessFlags := 1041 }

def heap : Heap := #[]
def classes : Array Class := #[k0, k1, k2, k3, k4, k5, k6, k7, k8, k9, k10, k11, k12, k13]
def interned : List (Array UInt16 × Addr) := []
def slotsUsed : Nat := 0
def theMethod : MethodId := ⟨1, 1⟩
def args0 : Array Value := #[.long 3, .long 1]
def aboutOver (below : List Frame) : State where
  vm := { classes := classes, interned := interned.toArray }
  heap := heap
  slotsUsed := slotsUsed
  threads := #[{ frames := .invoking theMethod args0 :: below }]
def below0 : List Frame := [.native { method := ⟨0, 0⟩, args := #[] }]
def about1 : State := aboutOver below0
def p0 : Program := .bare "" "" ""
def e0 : Env := launch0.env 0 0 0
theorem w_frames : about1.frames = Frame.invoking theMethod args0 :: below0 := rfl
set_option maxRecDepth 65536 in
theorem w_args : argsFit about1.vm theMethod args0 = true := by decide +kernel
set_option maxRecDepth 65536 in
theorem w_heap : heapFits about1 = true := by decide +kernel
set_option maxRecDepth 65536 in
theorem w_runnable : about1.curStatus? = some .runnable := by decide +kernel
set_option maxRecDepth 65536 in
theorem w_alone : about1.alone = true := by decide +kernel
set_option maxRecDepth 65536 in
theorem w_named : about1.methodNamed? x = some theMethod := by decide +kernel
set_option maxRecDepth 65536 in
theorem w_hears : about1.hears theMethod below0 = true := by decide +kernel
set_option maxRecDepth 65536 in
theorem w_ripe : about1.ripe theMethod args0 below0 = true := by decide +kernel
theorem w_running : about1.status = .running := rfl
set_option maxRecDepth 65536 in
theorem w_room : about1.hasRoom e0.platform room_1 = true :=
  launch0.hasRoom_least _ room_1 (by decide +kernel) (by decide +kernel) (by decide +kernel) (by decide +kernel) (by decide +kernel) (by decide +kernel)
theorem allAtoms_all (ts : List Jvm.Cond) (a : Array Jvm.Value) (st : Jvm.State) : (allAtoms ts).before a st = ts.all (fun c => c.before a st) := by
  induction ts with
  | nil => rfl
  | cons c t ih =>
    show (Jvm.Cond.and c (allAtoms t)).before a st = _
    rw [Jvm.Cond.before_and, ih, List.all_cons]
def words1 : List Jvm.Cond := Jvm.Cond.code x code maxLocals ret :: tables_1
/-- a 'code' word, met by the world's own term for the bytes: nothing is compared byte by byte -/
theorem code_word {y : MethodName} {bytes : ByteArray} {mx : Nat} {rt : Option FieldType} {a : Array Value} {s : State} {m : MethodId} {meth : Method} {c : Code} (h1 : s.methodNamed? y = some m) (h2 : s.vm.method? m = some meth) (h3 : meth.code = some c) (h4 : c.code = bytes)
    (h5 : (c.maxLocals == mx && c.exceptionTable.isEmpty && decide (c.maxStack ≤ mostOperands) && decide (meth.sig.returnType = rt) && !meth.locks && decide (parseMethodDescriptor y.desc = some meth.sig)) = true) : (Jvm.Cond.code y bytes mx rt).before a s = true := by
  simp only [Bool.and_eq_true, beq_iff_eq, Bool.not_eq_true', decide_eq_true_eq] at h5
  obtain ⟨⟨⟨⟨⟨g1, g2⟩, g3⟩, g4⟩, g5⟩, g6⟩ := h5
  simp [Cond.before, Cond.holds, Cond.value, h1, h2, h3, h4, g1, g2, g3, g4, g5, g6]
def isCode : Jvm.Cond → Bool
  | .code _ _ _ _ => true
  | _ => false
theorem all_split {L : List Jvm.Cond} {P : Jvm.Cond → Bool} (h1 : L.all (fun c => isCode c || P c) = true) (h2 : ∀ c ∈ L.filter isCode, P c = true) : L.all P = true := by
  refine List.all_eq_true.mpr fun c hc => ?_
  have h := List.all_eq_true.mp h1 c hc
  rcases Bool.eq_false_or_eq_true (isCode c) with hi | hi
  · exact h2 c (List.mem_filter.mpr ⟨hc, hi⟩)
  · simpa [hi] using h
set_option maxRecDepth 65536 in
theorem w_c0 : (Jvm.Cond.code x code maxLocals ret).before args0 about1 = true := code_word (m := ⟨1, 1⟩) (meth := k1m1) (c := k1c1) (by decide +kernel) rfl rfl rfl (by decide +kernel)
set_option maxRecDepth 65536 in
theorem w_c1 : (Jvm.Cond.code ({ cls := "com/example/yuletally/yuletally/engine/Won", name := "of", desc := "(J)Lcom/example/yuletally/yuletally/engine/Won;" } : Jvm.MethodName) prog_34_method_2_code (2 : Nat) (Option.some (Jvm.ClassFile.FieldType.object "com/example/yuletally/yuletally/engine/Won"))).before args0 about1 = true := code_word (m := ⟨3, 1⟩) (meth := k3m1) (c := k3c1) (by decide +kernel) rfl rfl rfl (by decide +kernel)
set_option maxRecDepth 65536 in
theorem w_c2 : (Jvm.Cond.code ({ cls := "com/example/yuletally/yuletally/engine/Won", name := "<init>", desc := "(J)V" } : Jvm.MethodName) prog_34_method_1_code (3 : Nat) (Option.none : Option Jvm.ClassFile.FieldType)).before args0 about1 = true := code_word (m := ⟨3, 0⟩) (meth := k3m0) (c := k3c0) (by decide +kernel) rfl rfl rfl (by decide +kernel)
set_option maxRecDepth 65536 in
theorem w_c3 : (Jvm.Cond.code ({ cls := "java/lang/Object", name := "<init>", desc := "()V" } : Jvm.MethodName) object_method_1_code (1 : Nat) (Option.none : Option Jvm.ClassFile.FieldType)).before args0 about1 = true := code_word (m := ⟨0, 0⟩) (meth := k0m0) (c := k0c0) (by decide +kernel) rfl rfl rfl (by decide +kernel)
set_option maxRecDepth 65536 in
theorem w_c4 : (Jvm.Cond.code ({ cls := "com/example/yuletally/yuletally/engine/Won", name := "amount", desc := "()J" } : Jvm.MethodName) prog_34_method_3_code (1 : Nat) (Option.some Jvm.ClassFile.FieldType.long)).before args0 about1 = true := code_word (m := ⟨3, 2⟩) (meth := k3m2) (c := k3c2) (by decide +kernel) rfl rfl rfl (by decide +kernel)
set_option maxRecDepth 65536 in
theorem w_c5 : (Jvm.Cond.code ({ cls := "com/example/yuletally/yuletally/engine/Won", name := "compareTo", desc := "(Lcom/example/yuletally/yuletally/engine/Won;)I" } : Jvm.MethodName) prog_34_method_8_code (2 : Nat) (Option.some Jvm.ClassFile.FieldType.int)).before args0 about1 = true := code_word (m := ⟨3, 3⟩) (meth := k3m3) (c := k3c3) (by decide +kernel) rfl rfl rfl (by decide +kernel)
set_option maxRecDepth 65536 in
theorem w_c6 : (Jvm.Cond.code ({ cls := "java/lang/Long", name := "compare", desc := "(JJ)I" } : Jvm.MethodName) jdk_35_method_42_code (4 : Nat) (Option.some Jvm.ClassFile.FieldType.int)).before args0 about1 = true := code_word (m := ⟨8, 0⟩) (meth := k8m0) (c := k8c0) (by decide +kernel) rfl rfl rfl (by decide +kernel)
set_option maxRecDepth 65536 in
theorem w_c7 : (Jvm.Cond.code ({ cls := "com/example/yuletally/yuletally/engine/Won", name := "equals", desc := "(Ljava/lang/Object;)Z" } : Jvm.MethodName) prog_34_method_9_code (2 : Nat) (Option.some Jvm.ClassFile.FieldType.boolean)).before args0 about1 = true := code_word (m := ⟨3, 4⟩) (meth := k3m4) (c := k3c4) (by decide +kernel) rfl rfl rfl (by decide +kernel)
def codes1 : List Jvm.Cond := [Jvm.Cond.code x code maxLocals ret, Jvm.Cond.code ({ cls := "com/example/yuletally/yuletally/engine/Won", name := "of", desc := "(J)Lcom/example/yuletally/yuletally/engine/Won;" } : Jvm.MethodName) prog_34_method_2_code (2 : Nat) (Option.some (Jvm.ClassFile.FieldType.object "com/example/yuletally/yuletally/engine/Won")), Jvm.Cond.code ({ cls := "com/example/yuletally/yuletally/engine/Won", name := "<init>", desc := "(J)V" } : Jvm.MethodName) prog_34_method_1_code (3 : Nat) (Option.none : Option Jvm.ClassFile.FieldType), Jvm.Cond.code ({ cls := "java/lang/Object", name := "<init>", desc := "()V" } : Jvm.MethodName) object_method_1_code (1 : Nat) (Option.none : Option Jvm.ClassFile.FieldType), Jvm.Cond.code ({ cls := "com/example/yuletally/yuletally/engine/Won", name := "amount", desc := "()J" } : Jvm.MethodName) prog_34_method_3_code (1 : Nat) (Option.some Jvm.ClassFile.FieldType.long), Jvm.Cond.code ({ cls := "com/example/yuletally/yuletally/engine/Won", name := "compareTo", desc := "(Lcom/example/yuletally/yuletally/engine/Won;)I" } : Jvm.MethodName) prog_34_method_8_code (2 : Nat) (Option.some Jvm.ClassFile.FieldType.int), Jvm.Cond.code ({ cls := "java/lang/Long", name := "compare", desc := "(JJ)I" } : Jvm.MethodName) jdk_35_method_42_code (4 : Nat) (Option.some Jvm.ClassFile.FieldType.int), Jvm.Cond.code ({ cls := "com/example/yuletally/yuletally/engine/Won", name := "equals", desc := "(Ljava/lang/Object;)Z" } : Jvm.MethodName) prog_34_method_9_code (2 : Nat) (Option.some Jvm.ClassFile.FieldType.boolean)]
set_option maxRecDepth 65536 in
theorem codes_eq : words1.filter isCode = codes1 := rfl
theorem w_codes : ∀ c ∈ words1.filter isCode, c.before args0 about1 = true := by
  rw [codes_eq]
  intro c hc
  simp only [codes1, List.mem_cons, List.not_mem_nil, or_false] at hc
  rcases hc with rfl | rfl | rfl | rfl | rfl | rfl | rfl | rfl
  · exact w_c0
  · exact w_c1
  · exact w_c2
  · exact w_c3
  · exact w_c4
  · exact w_c5
  · exact w_c6
  · exact w_c7
set_option maxRecDepth 65536 in
theorem w_t1 : (words1.take 24).all (fun c => isCode c || c.before args0 about1) = true := by decide +kernel
set_option maxRecDepth 65536 in
theorem w_t2 : (words1.drop 24).all (fun c => isCode c || c.before args0 about1) = true := by decide +kernel
theorem w_tables : (allAtoms (Jvm.Cond.code x code maxLocals ret :: tables_1)).before args0 about1 = true := by
  rw [allAtoms_all]
  show words1.all (fun c => c.before args0 about1) = true
  refine all_split ?_ w_codes
  rw [← List.take_append_drop 24 words1, List.all_append, w_t1, w_t2]
  rfl
set_option maxRecDepth 65536 in
theorem w_case : (Jvm.Cond.and given_1 narrow_1).before args0 about1 = true := by decide +kernel
theorem w_applies : (headSpec (Jvm.Cond.code x code maxLocals ret :: tables_1) room_1).applies x e0.platform about1 = true :=
  (Spec.applies_iff w_frames).mpr ⟨w_running, w_runnable, w_alone, w_named, w_hears, w_ripe, w_room, w_tables⟩
theorem atStart : AtStart classFile x code maxLocals ret World_1 tables_1 room_1 Calls_1 rest_1 Pre_1 launch0 p0 e0 about1 theMethod args0 below0 :=
  ⟨lists_1, trivial, launch0.admits_env _ _ _, launch0.least_env, fairChoices_fair.cas, fairChoices_fair.clock, w_frames, w_args, w_heap, w_applies, trivial, trivial, w_case⟩
end start1
theorem witness_1 : WitnessClaimed_1 := ⟨start1.p0, start1.e0, start1.about1, start1.theMethod, start1.args0, start1.below0, start1.atStart⟩
end Jvm.Pilot.@@N@@
